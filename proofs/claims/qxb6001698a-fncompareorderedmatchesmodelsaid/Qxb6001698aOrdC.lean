import Derived.Test.Qxb6001698aOrdB
import Derived.Deep.RegionHeld3
/- decimal.sign, decimal.compare; compareOrdered. -/
namespace Go.Proofs.Qxb6001698a.Ord
open Go.RowKit

theorem sign_calls (neg : Bool) (s : ByteArray) (e : Int) (w : World) :
    Calls Try.prog 47 #[.agg #[.bool neg, .string s, .int .i64 e]] w fun x w' => x = .returned (.int .i64 (sgn neg s.data.toList)) ∧ w.alloc (.cells #[.bool neg, .string s, .int .i64 e] 33) = w' := by
  cases he : s.data.toList.isEmpty with
  | true =>
    have E : Hid (sgn neg s.data.toList = 0) := by show sgn neg s.data.toList = _; unfold sgn; rw [he]; rfl
    have he' : s.toList.isEmpty = true := by rw [isEmpty_toList]; exact he
    clear he
    go_enter Try.func47, Try.ntmps47
    go_wp2
    go_ret
    exact ⟨ret_i64 E.out.symm, rfl⟩
  | false =>
    have he' : s.toList.isEmpty = false := by rw [isEmpty_toList]; exact he
    cases neg with
    | true =>
      have E : Hid (sgn true s.data.toList = -1) := by show sgn true s.data.toList = _; unfold sgn; rw [he]; rfl
      clear he
      go_enter Try.func47, Try.ntmps47
      go_wp2
      go_ret
      exact ⟨ret_i64 E.out.symm, rfl⟩
    | false =>
      have E : Hid (sgn false s.data.toList = 1) := by show sgn false s.data.toList = _; unfold sgn; rw [he]; rfl
      clear he
      go_enter Try.func47, Try.ntmps47
      go_wp2
      go_ret
      exact ⟨ret_i64 E.out.symm, rfl⟩

theorem below2 (w : World) (o1 o2 : Obj) : Below w.heap.size w ((w.alloc o1).alloc o2) :=
  ((Below.refl _ _).alloc (Nat.le_refl _) o1).alloc (by simp) o2
theorem below4 (w : World) (o1 o2 o3 o4 : Obj) : Below w.heap.size w ((((w.alloc o1).alloc o2).alloc o3).alloc o4).drew :=
  (((below2 w o1 o2).alloc (by simp; omega) o3).alloc (by simp; omega) o4).drew

set_option maxHeartbeats 4000000 in
set_option maxRecDepth 100000 in
theorem compare_calls (n1 n2 : Bool) (s t : ByteArray) (e1 e2 : Int) (w : World) :
    Calls Try.prog 42 #[.agg #[.bool n1, .string s, .int .i64 e1], .agg #[.bool n2, .string t, .int .i64 e2]] w fun x w' => x = .returned (.int .i64 (dec n1 s.data.toList e1 n2 t.data.toList e2)) ∧ Below w.heap.size w w' := by
  by_cases hd : sgn n1 s.data.toList = sgn n2 t.data.toList
  · by_cases h0 : sgn n1 s.data.toList = 0
    · have E : Hid (dec n1 s.data.toList e1 n2 t.data.toList e2 = 0) := dec_zero hd h0
      have H1 : Hid (sgn n1 s.data.toList = 0) := h0
      have H2 : Hid (sgn n2 t.data.toList = 0) := hd.symm.trans h0
      have Z : Hid (cmpI 0 0 = 0) := cmpI_self 0
      clear hd h0
      go_enter Try.func42, Try.ntmps42
      go_wp2
      go_region_held3 (fun w' => w'.cell? ⟨w.heap.size, 0, none⟩ = some (.bool n1) ∧ w'.cell? ⟨w.heap.size, 1, none⟩ = some (.string s) ∧ w'.cell? ⟨w.heap.size, 2, none⟩ = some (.int .i64 e1) ∧ w'.cell? ⟨w.heap.size + 1, 0, none⟩ = some (.bool n2) ∧ w'.cell? ⟨w.heap.size + 1, 1, none⟩ = some (.string t) ∧ w'.cell? ⟨w.heap.size + 1, 2, none⟩ = some (.int .i64 e2)) (go_keep)
        (first
          | (go_at_call 47; refine (sign_calls _ _ _ _).mono ?_; rintro e w' ⟨rfl, rfl⟩))
      rw [H1.out, H2.out]
      go_wp2_with fail
      refine (cmpInt_calls _ _ _).mono ?_
      rintro e w' ⟨rfl, rfl⟩
      rw [Z.out]
      go_wp2
      go_ret
      exact ⟨ret_i64 E.out.symm, below4 _ _ _ _ _⟩
    · have E : Hid (dec n1 s.data.toList e1 n2 t.data.toList e2 = if n1 then - plc s.data.toList e1 t.data.toList e2 else plc s.data.toList e1 t.data.toList e2) := dec_same hd h0
      have G1 : Hid (sgn n1 s.data.toList = if n1 then -1 else 1) := sgn_neg h0
      have G2 : Hid (sgn n2 t.data.toList = if n1 then -1 else 1) := by show sgn n2 t.data.toList = _; rw [← hd]; exact sgn_neg h0
      clear hd h0
      obtain ⟨p0, p1⟩ := cb_range s.data.toList t.data.toList
      have HP : Hid (plc s.data.toList e1 t.data.toList e2 = if e1 < e2 then -1 else if e2 < e1 then 1 else Lib.compareBytes s.data.toList t.data.toList) := rfl
      have SC : Hid (∀ W, Calls Try.prog 43 #[.string s, .string t] W fun e w' => e = .returned (.int .i64 (Lib.compareBytes s.data.toList t.data.toList)) ∧ W = w') := fun W => strCmp_calls s t W
      generalize Lib.compareBytes s.data.toList t.data.toList = m at *
      cases n1 with
      | true =>
        have G1' : Hid (sgn true s.data.toList = -1) := G1
        have G2' : Hid (sgn n2 t.data.toList = -1) := G2
        clear G1 G2
        rcases Int.lt_trichotomy e1 e2 with he | he | he
        · have EP : plc s.data.toList e1 t.data.toList e2 = -1 := by rw [HP.out, if_pos he]
          have E' : Hid (dec true s.data.toList e1 n2 t.data.toList e2 = - (-1)) := by show dec _ _ _ _ _ _ = _; rw [E.out, EP]; rfl
          have CM : Hid (cmpI e1 e2 = -1) := cmpI_lt he
          clear E EP HP he
          go_enter Try.func42, Try.ntmps42
          go_wp2
          go_region_held3 (fun w' => w'.cell? ⟨w.heap.size, 0, none⟩ = some (.bool true) ∧ w'.cell? ⟨w.heap.size, 1, none⟩ = some (.string s) ∧ w'.cell? ⟨w.heap.size, 2, none⟩ = some (.int .i64 e1) ∧ w'.cell? ⟨w.heap.size + 1, 0, none⟩ = some (.bool n2) ∧ w'.cell? ⟨w.heap.size + 1, 1, none⟩ = some (.string t) ∧ w'.cell? ⟨w.heap.size + 1, 2, none⟩ = some (.int .i64 e2)) (go_keep)
            (first
              | (go_at_call 47; refine (sign_calls _ _ _ _).mono ?_; rintro e w' ⟨rfl, rfl⟩))
          rw [G1'.out, G2'.out]
          go_wp2_with fail
          refine (cmpInt_calls _ _ _).mono ?_
          rintro e w' ⟨rfl, rfl⟩
          rw [CM.out]
          go_wp2
          go_ret
          exact ⟨ret_i64 E'.out.symm, below4 _ _ _ _ _⟩
        · subst he
          have EP : plc s.data.toList e1 t.data.toList e1 = m := by rw [HP.out, if_neg (by omega), if_neg (by omega)]
          have E' : Hid (dec true s.data.toList e1 n2 t.data.toList e1 = - (m)) := by show dec _ _ _ _ _ _ = _; rw [E.out, EP]; rfl
          have CM : Hid (cmpI e1 e1 = 0) := cmpI_self e1
          clear E EP HP
          go_enter Try.func42, Try.ntmps42
          go_wp2
          go_region_held3 (fun w' => w'.cell? ⟨w.heap.size, 0, none⟩ = some (.bool true) ∧ w'.cell? ⟨w.heap.size, 1, none⟩ = some (.string s) ∧ w'.cell? ⟨w.heap.size, 2, none⟩ = some (.int .i64 e1) ∧ w'.cell? ⟨w.heap.size + 1, 0, none⟩ = some (.bool n2) ∧ w'.cell? ⟨w.heap.size + 1, 1, none⟩ = some (.string t) ∧ w'.cell? ⟨w.heap.size + 1, 2, none⟩ = some (.int .i64 e1)) (go_keep)
            (first
              | (go_at_call 47; refine (sign_calls _ _ _ _).mono ?_; rintro e w' ⟨rfl, rfl⟩))
          rw [G1'.out, G2'.out]
          go_wp2_with fail
          refine (cmpInt_calls _ _ _).mono ?_
          rintro e w' ⟨rfl, rfl⟩
          rw [CM.out]
          go_wp2_with fail
          refine (SC.out _).mono ?_
          rintro e w' ⟨rfl, rfl⟩
          go_wp2
          go_ret
          exact ⟨ret_i64 E'.out.symm, below4 _ _ _ _ _⟩
        · have EP : plc s.data.toList e1 t.data.toList e2 = 1 := by rw [HP.out, if_neg (by omega), if_pos he]
          have E' : Hid (dec true s.data.toList e1 n2 t.data.toList e2 = - (1)) := by show dec _ _ _ _ _ _ = _; rw [E.out, EP]; rfl
          have CM : Hid (cmpI e1 e2 = 1) := cmpI_gt he
          clear E EP HP he
          go_enter Try.func42, Try.ntmps42
          go_wp2
          go_region_held3 (fun w' => w'.cell? ⟨w.heap.size, 0, none⟩ = some (.bool true) ∧ w'.cell? ⟨w.heap.size, 1, none⟩ = some (.string s) ∧ w'.cell? ⟨w.heap.size, 2, none⟩ = some (.int .i64 e1) ∧ w'.cell? ⟨w.heap.size + 1, 0, none⟩ = some (.bool n2) ∧ w'.cell? ⟨w.heap.size + 1, 1, none⟩ = some (.string t) ∧ w'.cell? ⟨w.heap.size + 1, 2, none⟩ = some (.int .i64 e2)) (go_keep)
            (first
              | (go_at_call 47; refine (sign_calls _ _ _ _).mono ?_; rintro e w' ⟨rfl, rfl⟩))
          rw [G1'.out, G2'.out]
          go_wp2_with fail
          refine (cmpInt_calls _ _ _).mono ?_
          rintro e w' ⟨rfl, rfl⟩
          rw [CM.out]
          go_wp2
          go_ret
          exact ⟨ret_i64 E'.out.symm, below4 _ _ _ _ _⟩
      | false =>
        have G1' : Hid (sgn false s.data.toList = 1) := G1
        have G2' : Hid (sgn n2 t.data.toList = 1) := G2
        clear G1 G2
        rcases Int.lt_trichotomy e1 e2 with he | he | he
        · have EP : plc s.data.toList e1 t.data.toList e2 = -1 := by rw [HP.out, if_pos he]
          have E' : Hid (dec false s.data.toList e1 n2 t.data.toList e2 = -1) := by show dec _ _ _ _ _ _ = _; rw [E.out, EP]; rfl
          have CM : Hid (cmpI e1 e2 = -1) := cmpI_lt he
          clear E EP HP he
          go_enter Try.func42, Try.ntmps42
          go_wp2
          go_region_held3 (fun w' => w'.cell? ⟨w.heap.size, 0, none⟩ = some (.bool false) ∧ w'.cell? ⟨w.heap.size, 1, none⟩ = some (.string s) ∧ w'.cell? ⟨w.heap.size, 2, none⟩ = some (.int .i64 e1) ∧ w'.cell? ⟨w.heap.size + 1, 0, none⟩ = some (.bool n2) ∧ w'.cell? ⟨w.heap.size + 1, 1, none⟩ = some (.string t) ∧ w'.cell? ⟨w.heap.size + 1, 2, none⟩ = some (.int .i64 e2)) (go_keep)
            (first
              | (go_at_call 47; refine (sign_calls _ _ _ _).mono ?_; rintro e w' ⟨rfl, rfl⟩))
          rw [G1'.out, G2'.out]
          go_wp2_with fail
          refine (cmpInt_calls _ _ _).mono ?_
          rintro e w' ⟨rfl, rfl⟩
          rw [CM.out]
          go_wp2
          go_ret
          exact ⟨ret_i64 E'.out.symm, below4 _ _ _ _ _⟩
        · subst he
          have EP : plc s.data.toList e1 t.data.toList e1 = m := by rw [HP.out, if_neg (by omega), if_neg (by omega)]
          have E' : Hid (dec false s.data.toList e1 n2 t.data.toList e1 = m) := by show dec _ _ _ _ _ _ = _; rw [E.out, EP]; rfl
          have CM : Hid (cmpI e1 e1 = 0) := cmpI_self e1
          clear E EP HP
          go_enter Try.func42, Try.ntmps42
          go_wp2
          go_region_held3 (fun w' => w'.cell? ⟨w.heap.size, 0, none⟩ = some (.bool false) ∧ w'.cell? ⟨w.heap.size, 1, none⟩ = some (.string s) ∧ w'.cell? ⟨w.heap.size, 2, none⟩ = some (.int .i64 e1) ∧ w'.cell? ⟨w.heap.size + 1, 0, none⟩ = some (.bool n2) ∧ w'.cell? ⟨w.heap.size + 1, 1, none⟩ = some (.string t) ∧ w'.cell? ⟨w.heap.size + 1, 2, none⟩ = some (.int .i64 e1)) (go_keep)
            (first
              | (go_at_call 47; refine (sign_calls _ _ _ _).mono ?_; rintro e w' ⟨rfl, rfl⟩))
          rw [G1'.out, G2'.out]
          go_wp2_with fail
          refine (cmpInt_calls _ _ _).mono ?_
          rintro e w' ⟨rfl, rfl⟩
          rw [CM.out]
          go_wp2_with fail
          refine (SC.out _).mono ?_
          rintro e w' ⟨rfl, rfl⟩
          go_wp2
          go_ret
          exact ⟨ret_i64 E'.out.symm, below4 _ _ _ _ _⟩
        · have EP : plc s.data.toList e1 t.data.toList e2 = 1 := by rw [HP.out, if_neg (by omega), if_pos he]
          have E' : Hid (dec false s.data.toList e1 n2 t.data.toList e2 = 1) := by show dec _ _ _ _ _ _ = _; rw [E.out, EP]; rfl
          have CM : Hid (cmpI e1 e2 = 1) := cmpI_gt he
          clear E EP HP he
          go_enter Try.func42, Try.ntmps42
          go_wp2
          go_region_held3 (fun w' => w'.cell? ⟨w.heap.size, 0, none⟩ = some (.bool false) ∧ w'.cell? ⟨w.heap.size, 1, none⟩ = some (.string s) ∧ w'.cell? ⟨w.heap.size, 2, none⟩ = some (.int .i64 e1) ∧ w'.cell? ⟨w.heap.size + 1, 0, none⟩ = some (.bool n2) ∧ w'.cell? ⟨w.heap.size + 1, 1, none⟩ = some (.string t) ∧ w'.cell? ⟨w.heap.size + 1, 2, none⟩ = some (.int .i64 e2)) (go_keep)
            (first
              | (go_at_call 47; refine (sign_calls _ _ _ _).mono ?_; rintro e w' ⟨rfl, rfl⟩))
          rw [G1'.out, G2'.out]
          go_wp2_with fail
          refine (cmpInt_calls _ _ _).mono ?_
          rintro e w' ⟨rfl, rfl⟩
          rw [CM.out]
          go_wp2
          go_ret
          exact ⟨ret_i64 E'.out.symm, below4 _ _ _ _ _⟩
  · have E : Hid (dec n1 s.data.toList e1 n2 t.data.toList e2 = cmpI (sgn n1 s.data.toList) (sgn n2 t.data.toList)) := dec_diff hd
    have hxy : (sgn n1 s.data.toList != sgn n2 t.data.toList) = true := by simpa using hd
    clear hd
    go_enter Try.func42, Try.ntmps42
    go_wp2
    go_region_held3 (fun w' => w'.cell? ⟨w.heap.size, 0, none⟩ = some (.bool n1) ∧ w'.cell? ⟨w.heap.size, 1, none⟩ = some (.string s) ∧ w'.cell? ⟨w.heap.size, 2, none⟩ = some (.int .i64 e1) ∧ w'.cell? ⟨w.heap.size + 1, 0, none⟩ = some (.bool n2) ∧ w'.cell? ⟨w.heap.size + 1, 1, none⟩ = some (.string t) ∧ w'.cell? ⟨w.heap.size + 1, 2, none⟩ = some (.int .i64 e2)) (go_keep)
      (first
        | (go_at_call 47; refine (sign_calls _ _ _ _).mono ?_; rintro e w' ⟨rfl, rfl⟩))
    generalize sgn n1 s.data.toList = x at *
    generalize sgn n2 t.data.toList = y at *
    go_wp2_with fail
    refine (cmpInt_calls _ _ _).mono ?_
    rintro e w' ⟨rfl, rfl⟩
    go_wp2
    go_ret
    exact ⟨ret_i64 E.out.symm, below4 _ _ _ _ _⟩
end Go.Proofs.Qxb6001698a.Ord
