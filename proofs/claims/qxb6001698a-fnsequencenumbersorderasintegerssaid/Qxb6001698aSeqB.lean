import Derived.Test.Qxb6001698aSeqA
/- Canonical decimal strings: the order of the strings is the order of the numbers. -/
namespace Go.Proofs.Qxb6001698a.Seq
open Go.RowKit

/-! ### plain -/
def dg (c : UInt8) : Prop := 48 ≤ c.toNat ∧ c.toNat ≤ 57
def V : List UInt8 → Nat
  | [] => 0
  | c :: l => (c.toNat - 48) * 10 ^ l.length + V l

theorem V_lt : ∀ l : List UInt8, (∀ c ∈ l, dg c) → V l < 10 ^ l.length
  | [], _ => by simp [V]
  | c :: l, h => by
    have h1 := V_lt l (fun x hx => h x (List.mem_cons_of_mem _ hx))
    have h2 := h c (List.mem_cons_self)
    unfold dg at h2
    have h3 : (c.toNat - 48) * 10 ^ l.length ≤ 9 * 10 ^ l.length := Nat.mul_le_mul_right _ (by omega)
    simp only [V, List.length_cons, Nat.pow_succ]
    omega

theorem V_snoc (l : List UInt8) (c : UInt8) : V (l ++ [c]) = V l * 10 + (c.toNat - 48) := by
  induction l with
  | nil => simp [V]
  | cons x l ih =>
    simp only [List.cons_append, V, ih, List.length_append, List.length_cons, List.length_nil]
    rw [Nat.pow_succ, Nat.add_mul, ← Nat.mul_assoc]
    omega

theorem less_V : ∀ x y : List UInt8, (∀ c ∈ x, dg c) → (∀ c ∈ y, dg c) → x.length = y.length → Op.bytesLess x y = decide (V x < V y)
  | [], [], _, _, _ => by simp [Op.bytesLess, V]
  | [], _ :: _, _, _, h => by simp at h
  | _ :: _, [], _, _, h => by simp at h
  | a :: x, b :: y, hx, hy, hl => by
    have hl' : x.length = y.length := by simpa using hl
    have ih := less_V x y (fun c hc => hx c (List.mem_cons_of_mem _ hc)) (fun c hc => hy c (List.mem_cons_of_mem _ hc)) hl'
    have b1 := V_lt x (fun c hc => hx c (List.mem_cons_of_mem _ hc))
    have b2 := V_lt y (fun c hc => hy c (List.mem_cons_of_mem _ hc))
    have d1 := hx a (List.mem_cons_self)
    have d2 := hy b (List.mem_cons_self)
    unfold dg at d1 d2
    rw [hl'] at b1
    simp only [Op.bytesLess, V, hl', ih]
    rcases Nat.lt_trichotomy a.toNat b.toNat with h | h | h
    · have h1 : a < b := UInt8.lt_iff_toNat_lt.2 h
      have h2 : (a.toNat - 48 + 1) * 10 ^ y.length ≤ (b.toNat - 48) * 10 ^ y.length := Nat.mul_le_mul_right _ (by omega)
      rw [Nat.add_mul] at h2
      have h3 : (a.toNat - 48) * 10 ^ y.length + V x < (b.toNat - 48) * 10 ^ y.length + V y := by omega
      simp [h1, h3]
    · have h1 : a = b := UInt8.toNat_inj.1 h
      subst h1
      simp
    · have h1 : ¬ a < b := fun h' => by have := UInt8.lt_iff_toNat_lt.1 h'; omega
      have h0 : ¬ a = b := by rintro rfl; omega
      have h2 : (b.toNat - 48 + 1) * 10 ^ y.length ≤ (a.toNat - 48) * 10 ^ y.length := Nat.mul_le_mul_right _ (by omega)
      rw [Nat.add_mul] at h2
      have h3 : ¬ (a.toNat - 48) * 10 ^ y.length + V x < (b.toNat - 48) * 10 ^ y.length + V y := by omega
      simp [h1, h0, h3]

/-- Canonical: not empty, digits alone, no leading zero but in 0 itself. -/
def canon (l : List UInt8) : Bool := !l.isEmpty && l.all (fun c => decide (48 ≤ c.toNat) && decide (c.toNat ≤ 57)) && (l.length == 1 || l.headD 48 != 48)

theorem canon_dg {l : List UInt8} (h : canon l = true) : ∀ c ∈ l, dg c := by
  unfold canon at h
  simp only [Bool.and_eq_true, List.all_eq_true, decide_eq_true_eq] at h
  exact h.1.2

theorem canon_ge {l : List UInt8} (h : canon l = true) (h2 : 2 ≤ l.length) : 10 ^ (l.length - 1) ≤ V l := by
  have hd := canon_dg h
  unfold canon at h
  simp only [Bool.and_eq_true, Bool.or_eq_true, beq_iff_eq, bne_iff_ne] at h
  cases l with
  | nil => simp at h2
  | cons c l =>
    have hc : c ≠ 48 := by
      rcases h.2 with h' | h'
      · omega
      · simpa using h'
    have h3 := hd c List.mem_cons_self
    unfold dg at h3
    have h4 : c.toNat ≠ 48 := fun h' => hc (UInt8.toNat_inj.1 h')
    have h5 : 1 * 10 ^ l.length ≤ (c.toNat - 48) * 10 ^ l.length := Nat.mul_le_mul_right _ (by omega)
    simp only [V, List.length_cons, Nat.add_sub_cancel]
    omega

def cmpN (x y : Nat) : Int := if x < y then -1 else if y < x then 1 else 0

theorem cmpL_canon (x y : List UInt8) (hx : canon x = true) (hy : canon y = true) : cmpL x y = cmpN (V x) (V y) := by
  have dx := canon_dg hx
  have dy := canon_dg hy
  have lx := V_lt x dx
  have ly := V_lt y dy
  have nx : x ≠ [] := by rintro rfl; simp [canon] at hx
  have ny : y ≠ [] := by rintro rfl; simp [canon] at hy
  have px : 0 < x.length := List.length_pos_iff.2 nx
  have py : 0 < y.length := List.length_pos_iff.2 ny
  unfold cmpL cmpN
  by_cases hl : x.length = y.length
  · rw [if_pos hl, less_V x y dx dy hl]
    by_cases h1 : V x < V y
    · simp [h1]
    · rw [if_neg (by simpa using h1), if_neg h1]
      by_cases h2 : V y < V x
      · rw [if_pos h2, if_neg]
        simp only [beq_iff_eq]
        rintro rfl; omega
      · rw [if_neg h2, if_pos]
        simp only [beq_iff_eq]
        refine less_tri x y ?_ ?_
        · rw [less_V x y dx dy hl]; simpa using h1
        · rw [less_V y x dy dx hl.symm]; simpa using h2
  · rw [if_neg hl]
    by_cases h1 : x.length < y.length
    · have hge := canon_ge hy (by omega)
      have : 10 ^ x.length ≤ 10 ^ (y.length - 1) := Nat.pow_le_pow_right (by omega) (by omega)
      rw [if_pos h1, if_pos (by omega)]
    · have hge := canon_ge hx (by omega)
      have : 10 ^ y.length ≤ 10 ^ (x.length - 1) := Nat.pow_le_pow_right (by omega) (by omega)
      rw [if_neg h1, if_neg (by omega), if_pos (by omega)]

theorem cmpSeq_canon (a b : ByteArray) (hx : canon a.data.toList = true) (hy : canon b.data.toList = true) : cmpSeq a b = cmpN (V a.data.toList) (V b.data.toList) := by
  rw [cmp_list, ByteArray.toList_eq, ByteArray.toList_eq]; exact cmpL_canon _ _ hx hy

/-! ### walks -/
theorem ret_bool {a b : Bool} (h : a = b) : Ending.returned (.bool a) = .returned (.bool b) := by rw [h]
theorem ret_u64 {a b : Int} (h : a = b) : Ending.returned (.int .u64 a) = .returned (.int .u64 b) := by rw [h]

theorem cmpN_calls (x y : Nat) (w : World) :
    Calls Try.prog 11 #[.int .u64 (x : Int), .int .u64 (y : Int)] w fun e w' => e = .returned (.int .i64 (cmpN x y)) ∧ w = w' := by
  rcases Nat.lt_trichotomy x y with h | h | h
  · have E : Hid (cmpN x y = -1) := by show cmpN x y = _; unfold cmpN; rw [if_pos h]
    go_enter Try.func11, Try.ntmps11
    go_wp2
    go_ret
    exact ⟨ret_i64 E.out.symm, rfl⟩
  · subst h
    have E : Hid (cmpN x x = 0) := by show cmpN x x = _; unfold cmpN; rw [if_neg (by omega), if_neg (by omega)]
    go_enter Try.func11, Try.ntmps11
    go_wp2
    go_ret
    exact ⟨ret_i64 E.out.symm, rfl⟩
  · have E : Hid (cmpN x y = 1) := by show cmpN x y = _; unfold cmpN; rw [if_neg (by omega), if_pos h]
    go_enter Try.func11, Try.ntmps11
    go_wp2
    go_ret
    exact ⟨ret_i64 E.out.symm, rfl⟩

theorem get_list (s : ByteArray) (k : Nat) (h : k < s.size) : s.data.toList[k]'(by simpa using h) = s[k] := rfl
theorem take_snoc (s : ByteArray) (k : Nat) (h : k < s.size) : s.data.toList.take (k + 1) = s.data.toList.take k ++ [s[k]] := by
  rw [List.take_succ_eq_append_getElem (by simpa using h)]; rfl

set_option maxHeartbeats 1000000 in
set_option maxRecDepth 100000 in
theorem parse_calls (s : ByteArray) (hs : s.size ≤ 19) (hd : ∀ c ∈ s.data.toList, dg c) (w : World) :
    Calls Try.prog 12 #[.string s] w fun e w' => e = .returned (.int .u64 (V s.data.toList : Nat)) ∧ w = w' := by
  have HD : Hid (∀ c ∈ s.data.toList, dg c) := hd
  clear hd
  go_enter Try.func12, Try.ntmps12
  go_wp2
  go_loop [3, 4] (fun x i => ∃ k : Nat, k ≤ s.size ∧ i = .int .i64 k ∧ x = .int .u64 (V (s.data.toList.take k) : Nat)) (fun _ i => s.size - (intOf i).toNat)
  case atStart => exact ⟨0, by omega, rfl, rfl⟩
  case round =>
    obtain ⟨k, hk, rfl, rfl⟩ := hrel
    by_cases hlt : k < s.size
    · have hvl := V_lt (s.data.toList.take k) (fun c hc => HD.out c (List.mem_of_mem_take hc))
      have hle : V (s.data.toList.take k) ≤ 999999999999999999 := by
        have h1 : (s.data.toList.take k).length ≤ 18 := by simp; omega
        have h2 : 10 ^ (s.data.toList.take k).length ≤ 10 ^ 18 := Nat.pow_le_pow_right (by omega) h1
        have h3 : (10 : Nat) ^ 18 = 1000000000000000000 := by decide
        omega
      have hc := HD.out s[k] (by have := get_list s k hlt; rw [← this]; exact List.getElem_mem _)
      obtain ⟨hc1, hc2⟩ : (48 : Int) ≤ (s[k].toNat : Int) ∧ (s[k].toNat : Int) ≤ 57 := by unfold dg at hc; omega
      have HS : Hid (V (s.data.toList.take (k + 1)) = V (s.data.toList.take k) * 10 + (s[k].toNat - 48)) := by
        show V (s.data.toList.take (k + 1)) = _
        rw [take_snoc s k hlt, V_snoc]
      clear hvl hc
      generalize hv : V (s.data.toList.take k) = v at *
      go_wp2
      go_round
      case rel => exact ⟨k + 1, by omega, by go_num, by rw [HS.out]; go_num⟩
      case measure => simp [intOf]; omega
    · go_wp2
      go_ret
      exact ⟨ret_u64 (by rw [List.take_of_length_le (by simp; omega)]), rfl⟩

theorem canon_bad {s : ByteArray} {k : Nat} (h : k < s.size) (hb : ¬ dg s[k]) : canon s.data.toList = false := by
  cases hc : canon s.data.toList with
  | false => rfl
  | true => exact absurd (canon_dg hc s[k] (by rw [← get_list s k h]; exact List.getElem_mem _)) hb

theorem headD_get (l : List UInt8) (d : UInt8) (h : 0 < l.length) : l.headD d = l[0] := by
  cases l with
  | nil => simp at h
  | cons c l => rfl

theorem canon_good {s : ByteArray} (h0 : 0 < s.size) (hd : ∀ j (h : j < s.size), dg s[j]) : canon s.data.toList = (s.size == 1 || s[0] != 48) := by
  have hall : s.data.toList.all (fun c => decide (48 ≤ c.toNat) && decide (c.toNat ≤ 57)) = true := by
    simp only [List.all_eq_true, Bool.and_eq_true, decide_eq_true_eq]
    intro c hc
    obtain ⟨j, hj, rfl⟩ := List.getElem_of_mem hc
    exact hd j (by simpa using hj)
  have hlen : s.data.toList.length = s.size := by simp
  have hne : s.data.toList.isEmpty = false := by
    rw [List.isEmpty_eq_false_iff]; intro h; rw [h] at hlen; simp at hlen; omega
  have hhd : s.data.toList.headD 48 = s[0] := by
    rw [← get_list s 0 h0]
    exact headD_get _ _ _
  unfold canon
  rw [hall, hne, hhd, hlen]
  simp

set_option maxHeartbeats 1000000 in
set_option maxRecDepth 100000 in
theorem canon_calls (s : ByteArray) (hs : s.size ≤ 19) (w : World) :
    Calls Try.prog 10 #[.string s] w fun e w' => e = .returned (.bool (canon s.data.toList)) ∧ w = w' := by
  by_cases h0 : s.size = 0
  · have E : Hid (canon s.data.toList = false) := by
      show canon s.data.toList = false
      have : s.data.toList = [] := List.eq_nil_of_length_eq_zero (by simpa using h0)
      rw [this]; rfl
    have h0' : ((s.size : Int) == 0) = true := by simp [h0]
    clear h0
    go_enter Try.func10, Try.ntmps10
    go_wp2
    go_ret
    exact ⟨ret_bool E.out.symm, rfl⟩
  · have h0' : ((s.size : Int) == 0) = false := by rw [beq_eq_false_iff_ne]; omega
    have hpos : 0 < s.size := by omega
    clear h0
    generalize hcn : canon s.data.toList = r
    have HC : Hid (canon s.data.toList = r) := hcn
    clear hcn
    go_enter Try.func10, Try.ntmps10
    go_wp2
    go_loop [3] (fun i => ∃ k : Nat, k ≤ s.size ∧ i = .int .i64 k ∧ Hid (∀ j (h : j < s.size), j < k → dg s[j])) (fun i => s.size - (intOf i).toNat)
    case atStart => exact ⟨0, by omega, rfl, fun j h hj => by omega⟩
    case round =>
      obtain ⟨k, hk, rfl, HD⟩ := hrel
      by_cases hlt : k < s.size
      · rcases (show ((s[k].toNat : Int) < 48) ∨ (57 < (s[k].toNat : Int)) ∨ (48 ≤ (s[k].toNat : Int) ∧ (s[k].toNat : Int) ≤ 57) by omega) with h1 | h1 | ⟨h1, h2⟩
        · have E := canon_bad hlt (by unfold dg; omega)
          rw [HC.out] at E
          subst E
          go_wp2
          go_ret
          exact ⟨rfl, rfl⟩
        · have E := canon_bad hlt (by unfold dg; omega)
          rw [HC.out] at E
          subst E
          have h1' : ¬ ((s[k].toNat : Int) < 48) := by omega
          go_wp2
          go_ret
          exact ⟨rfl, rfl⟩
        · go_wp2
          go_round
          case rel =>
            refine ⟨k + 1, by omega, by go_num, fun j h hj => ?_⟩
            by_cases hjk : j = k
            · subst hjk; unfold dg; omega
            · exact HD.out j h (by omega)
          case measure => simp [intOf]; omega
      · have hkz : k = s.size := by omega
        have E := canon_good hpos (fun j h => HD.out j h (by omega))
        rw [HC.out] at E
        have HE : Hid (r = (s.size == 1 || s[0] != 48)) := E
        clear E hkz
        by_cases h1 : s.size = 1
        · have h1' : ((s.size : Int) == 1) = true := by simp [h1]
          have E1 : r = true := by rw [HE.out]; simp [h1]
          subst E1
          clear h1
          go_wp2
          go_ret
          exact ⟨rfl, rfl⟩
        · have h1' : ((s.size : Int) == 1) = false := by rw [beq_eq_false_iff_ne]; omega
          have E1 : Hid (((s[0].toNat : Int) != 48) = r) := by
            show ((s[0].toNat : Int) != 48) = r
            have e1 : (s.size == 1) = false := by simpa using h1
            rw [HE.out, e1, Bool.false_or, Bool.eq_iff_iff]
            simp only [bne_iff_ne, ne_eq]
            apply not_congr
            constructor
            · intro h; exact UInt8.toNat_inj.1 (by simpa using (show s[0].toNat = 48 by omega))
            · intro h; rw [h]; rfl
          clear h1
          go_wp2
          go_ret
          exact ⟨ret_bool E1.out, rfl⟩
end Go.Proofs.Qxb6001698a.Seq
