import Derived.Test.Qxb6001698aOrdA
/- The canonical decimals; the comparison place by place; the model. -/
namespace Go.Proofs.Qxb6001698a.Ord
open Go.RowKit

def dgt (c : UInt8) : Prop := 48 ≤ c.toNat ∧ c.toNat ≤ 57

theorem canonD_dgt {neg : Bool} {l : List UInt8} {e : Int} (h : canonD neg l e = true) : ∀ c ∈ l, dgt c := by
  cases l with
  | nil => intro c hc; simp at hc
  | cons a l =>
    unfold canonD at h
    simp only [List.isEmpty_cons, Bool.false_eq_true, if_false, Bool.and_eq_true, List.all_eq_true, decide_eq_true_eq] at h
    exact h.1

theorem canonD_trail {neg : Bool} {l : List UInt8} {e : Int} (h : canonD neg l e = true) : trail l := by
  cases l with
  | nil => exact .inl rfl
  | cons a l =>
    unfold canonD at h
    simp only [List.isEmpty_cons, Bool.false_eq_true, if_false, Bool.and_eq_true, bne_iff_ne] at h
    exact .inr h.2.2

theorem canonD_head {neg : Bool} {l : List UInt8} {e : Int} (h : canonD neg l e = true) (hne : l ≠ []) : l.getD 0 48 ≠ 48 := by
  cases l with
  | nil => exact absurd rfl hne
  | cons a l =>
    unfold canonD at h
    simp only [List.isEmpty_cons, Bool.false_eq_true, if_false, Bool.and_eq_true, bne_iff_ne] at h
    simpa using h.2.1

theorem canonD_bad {neg : Bool} {e : Int} {s : ByteArray} {k : Nat} (h : k < s.size) (hb : ¬ dgt s[k]) : canonD neg s.data.toList e = false := by
  cases hc : canonD neg s.data.toList e with
  | false => rfl
  | true => exact absurd (canonD_dgt hc s[k] (by rw [← get_list s k h]; exact List.getElem_mem _)) hb

theorem headD_get (l : List UInt8) (d : UInt8) (h : 0 < l.length) : l.headD d = l[0] := by
  cases l with
  | nil => simp at h
  | cons c l => rfl
theorem getLastD_get (l : List UInt8) (d : UInt8) (h : 0 < l.length) : l.getLastD d = l[l.length - 1] := by
  cases l with
  | nil => simp at h
  | cons c l => rw [List.getLastD_cons, ← List.getLast_eq_getLastD, List.getLast_eq_getElem]; exact List.cons_ne_nil _ _

theorem canonD_good {neg : Bool} {e : Int} {s : ByteArray} (h0 : 0 < s.size) (hd : ∀ j (h : j < s.size), dgt s[j]) : canonD neg s.data.toList e = (s[0] != 48 && s[s.size - 1] != 48) := by
  have hlen : s.data.toList.length = s.size := len_list s
  have hall : s.data.toList.all (fun c => decide (48 ≤ c.toNat) && decide (c.toNat ≤ 57)) = true := by
    simp only [List.all_eq_true, Bool.and_eq_true, decide_eq_true_eq]
    intro c hc
    obtain ⟨j, hj, rfl⟩ := List.getElem_of_mem hc
    exact hd j (by rw [hlen] at hj; exact hj)
  have hne : s.data.toList.isEmpty = false := by
    rw [List.isEmpty_eq_false_iff]; intro h; rw [h] at hlen; simp at hlen; omega
  unfold canonD
  rw [hall, hne, headD_get _ _ (by omega), getLastD_get _ _ (by omega)]
  have e1 : s.data.toList[0]'(by omega) = s[0] := get_list s 0 h0
  have e2 : s.data.toList[s.data.toList.length - 1]'(by omega) = s[s.size - 1] := by
    have := get_list s (s.size - 1) (by omega)
    rw [← this]
    congr 1
  rw [e1, e2]
  simp

theorem ne48 (c : UInt8) : ((c.toNat : Int) != 48) = (c != 48) := by
  rw [Bool.eq_iff_iff]
  simp only [bne_iff_ne, ne_eq]
  apply not_congr
  constructor
  · intro h; exact UInt8.toNat_inj.1 (by simpa using (show c.toNat = 48 by omega))
  · intro h; rw [h]; rfl

set_option maxHeartbeats 1000000 in
set_option maxRecDepth 100000 in
theorem canonD_calls (neg : Bool) (s : ByteArray) (exp : Int) (hs : s.size ≤ 4096) (w : World) :
    Calls Try.prog 16 #[.bool neg, .string s, .int .i64 exp] w fun e w' => e = .returned (.bool (canonD neg s.data.toList exp)) ∧ w = w' := by
  cases he : s.data.toList.isEmpty with
  | true =>
    have E : Hid (canonD neg s.data.toList exp = (!neg && exp == 0)) := by show canonD neg s.data.toList exp = _; unfold canonD; rw [he]; rfl
    have he' : s.toList.isEmpty = true := by rw [isEmpty_toList]; exact he
    clear he
    cases neg with
    | true =>
      go_enter Try.func16, Try.ntmps16
      go_wp2
      go_ret
      exact ⟨ret_bool (by rw [E.out]; rfl), rfl⟩
    | false =>
      go_enter Try.func16, Try.ntmps16
      go_wp2
      go_ret
      exact ⟨ret_bool (by rw [E.out]; simp), rfl⟩
  | false =>
    have he' : s.toList.isEmpty = false := by rw [isEmpty_toList]; exact he
    have hpos : 0 < s.size := by
      rcases Nat.eq_zero_or_pos s.size with h | h
      · exfalso
        have : s.data.toList = [] := List.eq_nil_of_length_eq_zero (by rw [len_list]; exact h)
        rw [this] at he; simp at he
      · exact h
    clear he
    generalize hcn : canonD neg s.data.toList exp = r
    have HC : Hid (canonD neg s.data.toList exp = r) := hcn
    clear hcn
    go_enter Try.func16, Try.ntmps16
    go_wp2
    go_loop [7] (fun i => ∃ k : Nat, k ≤ s.size ∧ i = .int .i64 k ∧ Hid (∀ j (h : j < s.size), j < k → dgt s[j])) (fun i => s.size - (intOf i).toNat)
    case atStart => exact ⟨0, by omega, rfl, fun j h hj => by omega⟩
    case round =>
      obtain ⟨k, hk, rfl, HD⟩ := hrel
      by_cases hlt : k < s.size
      · rcases (show ((s[k].toNat : Int) < 48) ∨ (57 < (s[k].toNat : Int)) ∨ (48 ≤ (s[k].toNat : Int) ∧ (s[k].toNat : Int) ≤ 57) by omega) with h1 | h1 | ⟨h1, h2⟩
        · have E := canonD_bad (neg := neg) (e := exp) hlt (by unfold dgt; omega)
          rw [HC.out] at E
          subst E
          go_wp2
          go_ret
          exact ⟨rfl, rfl⟩
        · have E := canonD_bad (neg := neg) (e := exp) hlt (by unfold dgt; omega)
          rw [HC.out] at E
          subst E
          have h1' : ¬ ((s[k].toNat : Int) < 48) := by omega
          go_wp2
          go_ret
          exact ⟨rfl, rfl⟩
        · go_wp2
          go_round
          case rel =>
            refine ⟨k + 1, by omega, by go_num, fun j h hj => ?_⟩
            by_cases hjk : j = k
            · subst hjk; unfold dgt; omega
            · exact HD.out j h (by omega)
          case measure => simp [intOf]; omega
      · have E := canonD_good (neg := neg) (e := exp) hpos (fun j h => HD.out j h (by omega))
        rw [HC.out, ← ne48, ← ne48] at E
        have HE : Hid (r = (((s[0].toNat : Int) != 48) && ((s[s.size - 1].toNat : Int) != 48))) := E
        clear E
        cases e0 : ((s[0].toNat : Int) != 48) with
        | false =>
          have E1 : r = false := by rw [HE.out, e0]; rfl
          subst E1
          go_wp2
          go_ret
          exact ⟨rfl, rfl⟩
        | true =>
          have E1 : Hid (((s[s.size - 1].toNat : Int) != 48) = r) := by show _ = r; rw [HE.out, e0]; rfl
          go_wp2
          go_ret
          exact ⟨ret_bool E1.out, rfl⟩

/-! ### place by place -/
def dAt (l : List UInt8) (i : Int) : Int := if i < 0 then 0 else ((l.getD i.toNat 48).toNat : Int) - 48

theorem getD_get (s : ByteArray) (k : Nat) (h : k < s.size) : s.data.toList.getD k 48 = s[k] := by
  rw [List.getD, List.getElem?_eq_getElem (by rw [len_list]; exact h)]; rfl

theorem digitAt_calls (s : ByteArray) (e p : Int) (hs : s.size ≤ 4096) (hd : ∀ c ∈ s.data.toList, dgt c) (he0 : -20000 ≤ e) (he1 : e ≤ 20000) (hp0 : -20000 ≤ p) (hp1 : p ≤ 20000) (w : World) :
    Calls Try.prog 44 #[.string s, .int .i64 e, .int .i64 p] w fun x w' => x = .returned (.int .i64 (dAt s.data.toList (e - 1 - p))) ∧ w = w' := by
  by_cases hneg : e - 1 - p < 0
  · have E : Hid (dAt s.data.toList (e - 1 - p) = 0) := by show dAt _ _ = 0; unfold dAt; rw [if_pos hneg]
    clear hd
    go_enter Try.func44, Try.ntmps44
    go_wp2
    go_ret
    exact ⟨ret_i64 E.out.symm, rfl⟩
  · obtain ⟨n, hn⟩ := Int.eq_ofNat_of_zero_le (show 0 ≤ e - 1 - p by omega)
    have E0 : dAt s.data.toList (e - 1 - p) = ((s.data.toList.getD n 48).toNat : Int) - 48 := by unfold dAt; rw [if_neg hneg, hn]; rfl
    rw [E0]
    by_cases hlt : n < s.size
    · have hc := hd s[n] (by rw [← get_list s n hlt]; exact List.getElem_mem _)
      obtain ⟨c1, c2⟩ : (48 : Int) ≤ (s[n].toNat : Int) ∧ (s[n].toNat : Int) ≤ 57 := by unfold dgt at hc; omega
      rw [getD_get s n hlt]
      have hni : (n : Int) < (s.size : Int) := by omega
      clear hd hc E0 hneg
      go_enter Try.func44, Try.ntmps44
      go_wp2
      go_ret
      exact ⟨rfl, rfl⟩
    · have E : Hid (((s.data.toList.getD n 48).toNat : Int) - 48 = 0) := by
        show ((s.data.toList.getD n 48).toNat : Int) - 48 = 0
        rw [List.getD, List.getElem?_eq_none (by rw [len_list]; omega)]; rfl
      have hni : (s.size : Int) ≤ (n : Int) := by omega
      clear hd E0 hneg
      go_enter Try.func44, Try.ntmps44
      go_wp2
      go_ret
      exact ⟨ret_i64 E.out.symm, rfl⟩

theorem dAt_neg {l : List UInt8} {i : Int} (h : i < 0) : dAt l i = 0 := by unfold dAt; rw [if_pos h]
theorem dAt_nat (l : List UInt8) (k : Nat) : dAt l (k : Int) = ((l.getD k 48).toNat : Int) - 48 := by unfold dAt; rw [if_neg (by omega)]; rfl
theorem dAt_head {l : List UInt8} (hd : ∀ c ∈ l, dgt c) (hne : l ≠ []) (hh : l.getD 0 48 ≠ 48) : 0 < dAt l 0 := by
  have := dAt_nat l 0
  have e : ((0 : Nat) : Int) = 0 := rfl
  rw [e] at this
  rw [this]
  cases l with
  | nil => exact absurd rfl hne
  | cons a l =>
    have h1 := hd a List.mem_cons_self
    unfold dgt at h1
    have h2 : a.toNat ≠ 48 := fun h => hh (by simpa using UInt8.toNat_inj.1 (show a.toNat = (48 : UInt8).toNat from h))
    simp only [List.getD_cons_zero]
    omega

set_option maxHeartbeats 4000000 in
set_option maxRecDepth 100000 in
theorem place_calls (s t : ByteArray) (e1 e2 : Int) (hs : s.size ≤ 4096) (ht : t.size ≤ 4096) (hds : ∀ c ∈ s.data.toList, dgt c) (hdt : ∀ c ∈ t.data.toList, dgt c) (hs0 : s.data.toList ≠ []) (ht0 : t.data.toList ≠ [])
    (hhs : s.data.toList.getD 0 48 ≠ 48) (hht : t.data.toList.getD 0 48 ≠ 48) (hts : trail s.data.toList) (htt : trail t.data.toList)
    (a0 : -4096 ≤ e1) (a1 : e1 ≤ 4096) (b0 : -4096 ≤ e2) (b1 : e2 ≤ 4096) (w : World) :
    Calls Try.prog 36 #[.string s, .int .i64 e1, .string t, .int .i64 e2] w fun x w' => x = .returned (.int .i64 (plc s.data.toList e1 t.data.toList e2)) ∧ w = w' := by
  have ps : 0 < s.size := by rw [← len_list]; exact List.length_pos_iff.2 hs0
  have pt : 0 < t.size := by rw [← len_list]; exact List.length_pos_iff.2 ht0
  have DS : Hid (∀ c ∈ s.data.toList, dgt c) := hds
  have DT : Hid (∀ c ∈ t.data.toList, dgt c) := hdt
  have HS : Hid (0 < dAt s.data.toList 0) := dAt_head hds hs0 hhs
  have HT : Hid (0 < dAt t.data.toList 0) := dAt_head hdt ht0 hht
  have TS : Hid (trail s.data.toList) := hts
  have TT : Hid (trail t.data.toList) := htt
  clear hds hdt hs0 ht0 hhs hht hts htt
  rcases Int.lt_trichotomy e1 e2 with he | he | he
  · have E : Hid (plc s.data.toList e1 t.data.toList e2 = -1) := by show plc _ _ _ _ = -1; unfold plc; rw [if_pos he]
    rcases (show e2 - (t.size : Int) < e1 - (s.size : Int) ∨ ¬ e2 - (t.size : Int) < e1 - (s.size : Int) by omega) with hx | hx
    all_goals
      go_enter Try.func36, Try.ntmps36
      go_wp2
      refine wp_loop_rounds 1 ?_
      rw [rounds_succ]
      go_wp2_with fail
      refine (digitAt_calls s _ _ hs DS.out (by omega) (by omega) (by omega) (by omega) _).mono ?_
      rintro e w' ⟨rfl, rfl⟩
      rw [dAt_neg (by omega)]
      go_wp2_with fail
      refine (digitAt_calls t _ _ ht DT.out (by omega) (by omega) (by omega) (by omega) _).mono ?_
      rintro e w' ⟨rfl, rfl⟩
      rw [show e2 - 1 - (e2 - 1) = 0 by omega]
      have hpos := HT.out
      go_wp2
      go_ret
      exact ⟨ret_i64 E.out.symm, rfl⟩
  · subst he
    have E0 : plc s.data.toList e1 t.data.toList e1 = Lib.compareBytes s.data.toList t.data.toList := by unfold plc; rw [if_neg (by omega), if_neg (by omega)]
    rw [E0]
    clear E0
    generalize hr : Lib.compareBytes s.data.toList t.data.toList = r
    have HR : Hid (Lib.compareBytes s.data.toList t.data.toList = r) := hr
    clear hr HS HT
    rcases (show e1 - (t.size : Int) < e1 - (s.size : Int) ∨ ¬ e1 - (t.size : Int) < e1 - (s.size : Int) by omega) with hx | hx
    all_goals
      go_enter Try.func36, Try.ntmps36
      go_wp2
      go_loop [11] (fun i => ∃ k : Nat, (k ≤ s.size ∨ k ≤ t.size) ∧ i = .int .i64 (e1 - 1 - (k : Int)) ∧ Hid (∀ j, j < k → s.data.toList.getD j 48 = t.data.toList.getD j 48)) (fun i => (intOf i + 20000).toNat)
      case atStart => exact ⟨0, by omega, by go_num, fun j hj => by omega⟩
      case round =>
        obtain ⟨k, hk, rfl, HA⟩ := hrel
        have hkb : (k : Int) ≤ 4096 := by omega
        by_cases hlt : k < s.size ∨ k < t.size
        · have d1 : dAt s.data.toList (e1 - 1 - (e1 - 1 - (k : Int))) = ((s.data.toList.getD k 48).toNat : Int) - 48 := by rw [show e1 - 1 - (e1 - 1 - (k : Int)) = (k : Int) by omega]; exact dAt_nat _ _
          have d2 : dAt t.data.toList (e1 - 1 - (e1 - 1 - (k : Int))) = ((t.data.toList.getD k 48).toNat : Int) - 48 := by rw [show e1 - 1 - (e1 - 1 - (k : Int)) = (k : Int) by omega]; exact dAt_nat _ _
          have D1 : Hid (dAt s.data.toList (e1 - 1 - (e1 - 1 - (k : Int))) = ((s.data.toList.getD k 48).toNat : Int) - 48) := d1
          have D2 : Hid (dAt t.data.toList (e1 - 1 - (e1 - 1 - (k : Int))) = ((t.data.toList.getD k 48).toNat : Int) - 48) := d2
          clear d1 d2
          obtain ⟨x, hx1⟩ : ∃ x, x = (s.data.toList.getD k 48).toNat := ⟨_, rfl⟩
          obtain ⟨y, hy1⟩ : ∃ y, y = (t.data.toList.getD k 48).toNat := ⟨_, rfl⟩
          have HX : Hid (x = (s.data.toList.getD k 48).toNat) := hx1
          have HY : Hid (y = (t.data.toList.getD k 48).toNat) := hy1
          clear hx1 hy1
          go_wp2_with fail
          refine (digitAt_calls s _ _ hs DS.out (by omega) (by omega) (by omega) (by omega) _).mono ?_
          rintro e w' ⟨rfl, rfl⟩
          rw [D1.out, ← HX.out]
          go_wp2_with fail
          refine (digitAt_calls t _ _ ht DT.out (by omega) (by omega) (by omega) (by omega) _).mono ?_
          rintro e w' ⟨rfl, rfl⟩
          rw [D2.out, ← HY.out]
          rcases Nat.lt_trichotomy x y with hc | hc | hc
          · have ER : r = -1 := by
              rw [← HR.out]
              exact cb_less _ _ k (fun c hc => (DS.out c hc).1) HA.out (by rw [← HX.out, ← HY.out]; exact hc)
            subst ER
            have hci : (x : Int) - 48 < (y : Int) - 48 := by omega
            go_wp2
            go_ret
            exact ⟨rfl, rfl⟩
          · have HN : Hid (∀ j, j < k + 1 → s.data.toList.getD j 48 = t.data.toList.getD j 48) := by
              show ∀ j, j < k + 1 → s.data.toList.getD j 48 = t.data.toList.getD j 48
              intro j hj
              by_cases hjk : j = k
              · subst hjk; exact UInt8.toNat_inj.1 (by rw [← HX.out, ← HY.out]; exact hc)
              · exact HA.out j (by omega)
            have hci : ¬ (x : Int) - 48 < (y : Int) - 48 := by omega
            have hci2 : ¬ (y : Int) - 48 < (x : Int) - 48 := by omega
            clear hc
            go_wp2
            go_round
            case rel => exact ⟨k + 1, by omega, by go_num, HN⟩
            case measure => simp [intOf]; omega
          · have ER : r = 1 := by
              rw [← HR.out, cb_anti]
              rw [cb_less _ _ k (fun c hc => (DT.out c hc).1) (fun j hj => (HA.out j hj).symm) (by rw [← HX.out, ← HY.out]; exact hc)]
              rfl
            subst ER
            have hci : ¬ (x : Int) - 48 < (y : Int) - 48 := by omega
            have hci2 : (y : Int) - 48 < (x : Int) - 48 := by omega
            go_wp2
            go_ret
            exact ⟨rfl, rfl⟩
        · have ER : r = 0 := by
            rw [← HR.out]
            refine cb_same _ _ TS.out TT.out fun j => ?_
            by_cases hj : j < k
            · exact HA.out j hj
            · have n1 : s.data.toList[j]? = none := List.getElem?_eq_none (by rw [len_list]; omega)
              have n2 : t.data.toList[j]? = none := List.getElem?_eq_none (by rw [len_list]; omega)
              simp only [List.getD, n1, n2]
          subst ER
          have hk1 : (s.size : Int) ≤ (k : Int) := by omega
          have hk2 : (t.size : Int) ≤ (k : Int) := by omega
          go_wp2
          go_ret
          exact ⟨rfl, rfl⟩
  · have E : Hid (plc s.data.toList e1 t.data.toList e2 = 1) := by show plc _ _ _ _ = 1; unfold plc; rw [if_neg (by omega), if_pos he]
    have he' : ¬ e1 < e2 := by omega
    rcases (show e2 - (t.size : Int) < e1 - (s.size : Int) ∨ ¬ e2 - (t.size : Int) < e1 - (s.size : Int) by omega) with hx | hx
    all_goals
      go_enter Try.func36, Try.ntmps36
      go_wp2
      refine wp_loop_rounds 1 ?_
      rw [rounds_succ]
      go_wp2_with fail
      refine (digitAt_calls s _ _ hs DS.out (by omega) (by omega) (by omega) (by omega) _).mono ?_
      rintro e w' ⟨rfl, rfl⟩
      rw [show e1 - 1 - (e1 - 1) = 0 by omega]
      go_wp2_with fail
      refine (digitAt_calls t _ _ ht DT.out (by omega) (by omega) (by omega) (by omega) _).mono ?_
      rintro e w' ⟨rfl, rfl⟩
      rw [dAt_neg (by omega)]
      have hpos := HS.out
      go_wp2
      go_ret
      exact ⟨ret_i64 E.out.symm, rfl⟩

theorem dec_same {n1 n2 : Bool} {l1 l2 : List UInt8} {e1 e2 : Int} (h : sgn n1 l1 = sgn n2 l2) (h0 : sgn n1 l1 ≠ 0) : dec n1 l1 e1 n2 l2 e2 = if n1 then - plc l1 e1 l2 e2 else plc l1 e1 l2 e2 := by
  unfold dec; rw [if_pos h, if_neg h0]
theorem dec_zero {n1 n2 : Bool} {l1 l2 : List UInt8} {e1 e2 : Int} (h : sgn n1 l1 = sgn n2 l2) (h0 : sgn n1 l1 = 0) : dec n1 l1 e1 n2 l2 e2 = 0 := by
  unfold dec; rw [if_pos h, if_pos h0]
theorem dec_diff {n1 n2 : Bool} {l1 l2 : List UInt8} {e1 e2 : Int} (h : sgn n1 l1 ≠ sgn n2 l2) : dec n1 l1 e1 n2 l2 e2 = cmpI (sgn n1 l1) (sgn n2 l2) := by
  unfold dec; rw [if_neg h]
theorem sgn_ne {n : Bool} {l : List UInt8} (h : sgn n l ≠ 0) : l ≠ [] := by rintro rfl; exact h rfl
theorem sgn_neg {n : Bool} {l : List UInt8} (h : sgn n l ≠ 0) : sgn n l = if n then -1 else 1 := by
  cases l with
  | nil => exact absurd rfl h
  | cons a l => rfl

set_option maxHeartbeats 4000000 in
set_option maxRecDepth 100000 in
theorem model_calls (n1 n2 : Bool) (s t : ByteArray) (e1 e2 : Int) (hs : s.size ≤ 4096) (ht : t.size ≤ 4096) (c1 : canonD n1 s.data.toList e1 = true) (c2 : canonD n2 t.data.toList e2 = true)
    (a0 : -4096 ≤ e1) (a1 : e1 ≤ 4096) (b0 : -4096 ≤ e2) (b1 : e2 ≤ 4096) (w : World) :
    Calls Try.prog 19 #[.bool n1, .string s, .int .i64 e1, .bool n2, .string t, .int .i64 e2] w fun x w' => x = .returned (.int .i64 (dec n1 s.data.toList e1 n2 t.data.toList e2)) ∧ w = w' := by
  have C1 : Hid (canonD n1 s.data.toList e1 = true) := c1
  have C2 : Hid (canonD n2 t.data.toList e2 = true) := c2
  clear c1 c2
  by_cases hd : sgn n1 s.data.toList = sgn n2 t.data.toList
  · by_cases h0 : sgn n1 s.data.toList = 0
    · have E : Hid (dec n1 s.data.toList e1 n2 t.data.toList e2 = 0) := dec_zero hd h0
      have H1 : Hid (sgn n1 s.data.toList = 0) := h0
      have H2 : Hid (sgn n2 t.data.toList = 0) := hd.symm.trans h0
      clear hd h0
      go_enter Try.func19, Try.ntmps19
      go_wp2_with fail
      refine (sgn_calls _ _ _).mono ?_
      rintro e w' ⟨rfl, rfl⟩
      rw [H1.out]
      go_wp2_with fail
      refine (sgn_calls _ _ _).mono ?_
      rintro e w' ⟨rfl, rfl⟩
      rw [H2.out]
      go_wp2
      go_ret
      exact ⟨ret_i64 E.out.symm, rfl⟩
    · have hn2 : sgn n2 t.data.toList ≠ 0 := by rw [← hd]; exact h0
      have PC : Hid (∀ W, Calls Try.prog 36 #[.string s, .int .i64 e1, .string t, .int .i64 e2] W fun x w' => x = .returned (.int .i64 (plc s.data.toList e1 t.data.toList e2)) ∧ W = w') := fun W =>
        place_calls s t e1 e2 hs ht (canonD_dgt C1.out) (canonD_dgt C2.out) (sgn_ne h0) (sgn_ne hn2) (canonD_head C1.out (sgn_ne h0)) (canonD_head C2.out (sgn_ne hn2)) (canonD_trail C1.out) (canonD_trail C2.out) a0 a1 b0 b1 W
      have E : Hid (dec n1 s.data.toList e1 n2 t.data.toList e2 = if n1 then - plc s.data.toList e1 t.data.toList e2 else plc s.data.toList e1 t.data.toList e2) := dec_same hd h0
      have G1 : Hid (sgn n1 s.data.toList = if n1 then -1 else 1) := sgn_neg h0
      have G2 : Hid (sgn n2 t.data.toList = if n1 then -1 else 1) := by show sgn n2 t.data.toList = _; rw [← hd]; exact sgn_neg h0
      obtain ⟨p0, p1⟩ := plc_range s.data.toList e1 t.data.toList e2
      clear hd h0 hn2 C1 C2
      generalize plc s.data.toList e1 t.data.toList e2 = m at *
      cases n1 with
      | true =>
        have G1' : Hid (sgn true s.data.toList = -1) := G1
        have G2' : Hid (sgn n2 t.data.toList = -1) := G2
        have E' : Hid (dec true s.data.toList e1 n2 t.data.toList e2 = - m) := E
        clear G1 G2 E
        go_enter Try.func19, Try.ntmps19
        go_wp2_with fail
        refine (sgn_calls _ _ _).mono ?_
        rintro e w' ⟨rfl, rfl⟩
        rw [G1'.out]
        go_wp2_with fail
        refine (sgn_calls _ _ _).mono ?_
        rintro e w' ⟨rfl, rfl⟩
        rw [G2'.out]
        go_wp2_with fail
        refine (PC.out _).mono ?_
        rintro e w' ⟨rfl, rfl⟩
        go_wp2
        go_ret
        exact ⟨ret_i64 E'.out.symm, rfl⟩
      | false =>
        have G1' : Hid (sgn false s.data.toList = 1) := G1
        have G2' : Hid (sgn n2 t.data.toList = 1) := G2
        have E' : Hid (dec false s.data.toList e1 n2 t.data.toList e2 = m) := E
        clear G1 G2 E
        go_enter Try.func19, Try.ntmps19
        go_wp2_with fail
        refine (sgn_calls _ _ _).mono ?_
        rintro e w' ⟨rfl, rfl⟩
        rw [G1'.out]
        go_wp2_with fail
        refine (sgn_calls _ _ _).mono ?_
        rintro e w' ⟨rfl, rfl⟩
        rw [G2'.out]
        go_wp2_with fail
        refine (PC.out _).mono ?_
        rintro e w' ⟨rfl, rfl⟩
        go_wp2
        go_ret
        exact ⟨ret_i64 E'.out.symm, rfl⟩
  · have E : Hid (dec n1 s.data.toList e1 n2 t.data.toList e2 = cmpI (sgn n1 s.data.toList) (sgn n2 t.data.toList)) := dec_diff hd
    generalize hs1 : sgn n1 s.data.toList = x at *
    generalize hs2 : sgn n2 t.data.toList = y at *
    have H1 : Hid (sgn n1 s.data.toList = x) := hs1
    have H2 : Hid (sgn n2 t.data.toList = y) := hs2
    have hxy : (x != y) = true := by simpa using hd
    clear hs1 hs2 hd
    go_enter Try.func19, Try.ntmps19
    go_wp2_with fail
    refine (sgn_calls _ _ _).mono ?_
    rintro e w' ⟨rfl, rfl⟩
    rw [H1.out]
    go_wp2_with fail
    refine (sgn_calls _ _ _).mono ?_
    rintro e w' ⟨rfl, rfl⟩
    rw [H2.out]
    go_wp2_with fail
    refine (cmpInt2_calls _ _ _).mono ?_
    rintro e w' ⟨rfl, rfl⟩
    go_wp2
    go_ret
    exact ⟨ret_i64 E.out.symm, rfl⟩
end Go.Proofs.Qxb6001698a.Ord
