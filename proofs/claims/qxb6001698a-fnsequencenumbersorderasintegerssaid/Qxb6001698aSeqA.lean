import Derived.Test.Qxb6001698aRows
import Derived.WalkKit
import Derived.WalkSpells
import Derived.WalkLawsBesides
import Derived.Deep.QuietTactic
import Derived.BigQuiet
import Derived.Deep.Light
/- compareSequenceNumbers: its contract and its order. -/
namespace Go.Proofs.Qxb6001698a.Seq
open Go.RowKit

/-! ### the order of bytes -/
theorem less_irrefl : ∀ x : List UInt8, Op.bytesLess x x = false
  | [] => rfl
  | a :: x => by
    have h : ¬ a < a := by simp
    simp [Op.bytesLess, less_irrefl x]

theorem less_asymm : ∀ x y : List UInt8, Op.bytesLess x y = true → Op.bytesLess y x = false
  | _, [], h => by simp [Op.bytesLess] at h
  | [], _ :: _, _ => by simp [Op.bytesLess]
  | a :: x, b :: y, h => by
    simp only [Op.bytesLess, Bool.or_eq_true, Bool.and_eq_true, decide_eq_true_eq, beq_iff_eq, Bool.or_eq_false_iff, Bool.and_eq_false_iff, decide_eq_false_iff_not, beq_eq_false_iff_ne] at h ⊢
    rcases h with h | ⟨rfl, h⟩
    · have h1 := UInt8.lt_iff_toNat_lt.1 h
      refine ⟨fun h2 => ?_, .inl fun h2 => ?_⟩
      · have := UInt8.lt_iff_toNat_lt.1 h2; omega
      · subst h2; omega
    · exact ⟨by simp, .inr (less_asymm x y h)⟩

theorem less_trans : ∀ x y z : List UInt8, Op.bytesLess x y = true → Op.bytesLess y z = true → Op.bytesLess x z = true
  | _, [], _, h, _ => by simp [Op.bytesLess] at h
  | _, _ :: _, [], _, h => by simp [Op.bytesLess] at h
  | [], _ :: _, _ :: _, _, _ => by simp [Op.bytesLess]
  | a :: x, b :: y, c :: z, h1, h2 => by
    simp only [Op.bytesLess, Bool.or_eq_true, Bool.and_eq_true, decide_eq_true_eq, beq_iff_eq] at h1 h2 ⊢
    rcases h1 with h1 | ⟨rfl, h1⟩
    · rcases h2 with h2 | ⟨rfl, h2⟩
      · have := UInt8.lt_iff_toNat_lt.1 h1; have := UInt8.lt_iff_toNat_lt.1 h2
        exact .inl (UInt8.lt_iff_toNat_lt.2 (by omega))
      · exact .inl h1
    · rcases h2 with h2 | ⟨rfl, h2⟩
      · exact .inl h2
      · exact .inr ⟨rfl, less_trans x y z h1 h2⟩

theorem less_tri : ∀ x y : List UInt8, Op.bytesLess x y = false → Op.bytesLess y x = false → x = y
  | [], [], _, _ => rfl
  | [], _ :: _, h, _ => by simp [Op.bytesLess] at h
  | _ :: _, [], _, h => by simp [Op.bytesLess] at h
  | a :: x, b :: y, h1, h2 => by
    simp only [Op.bytesLess, Bool.or_eq_false_iff, Bool.and_eq_false_iff, decide_eq_false_iff_not, beq_eq_false_iff_ne] at h1 h2
    have hab : a = b := by
      have n1 : ¬ a.toNat < b.toNat := fun h => h1.1 (UInt8.lt_iff_toNat_lt.2 h)
      have n2 : ¬ b.toNat < a.toNat := fun h => h2.1 (UInt8.lt_iff_toNat_lt.2 h)
      exact UInt8.toNat_inj.1 (by omega)
    subst hab
    have h3 : Op.bytesLess x y = false := by rcases h1.2 with h | h
                                             · exact absurd rfl h
                                             · exact h
    have h4 : Op.bytesLess y x = false := by rcases h2.2 with h | h
                                             · exact absurd rfl h
                                             · exact h
    rw [less_tri x y h3 h4]

/-- What compareSequenceNumbers answers. -/
def cmpSeq (a b : ByteArray) : Int :=
  if a.size = b.size then (if Op.bytesLess a.toList b.toList = true then -1 else if (a.toList == b.toList) = true then 0 else 1) else if a.size < b.size then -1 else 1

theorem ret_i64 {a b : Int} (h : a = b) : Ending.returned (.int .i64 a) = .returned (.int .i64 b) := by rw [h]

theorem cmp_calls (a b : ByteArray) (w : World) :
    Calls Try.prog 13 #[.string a, .string b] w fun e w' => e = .returned (.int .i64 (cmpSeq a b)) ∧ w = w' := by
  by_cases hs : a.size = b.size
  · have hs1 : ((a.size : Int) != (b.size : Int)) = false := by simp [hs]
    cases hl : Op.bytesLess a.toList b.toList with
    | true =>
      have E : Hid (cmpSeq a b = -1) := by show cmpSeq a b = _; unfold cmpSeq; rw [if_pos hs, if_pos hl]
      clear hs
      go_enter Try.func13, Try.ntmps13
      go_wp2
      go_ret
      exact ⟨ret_i64 (by rw [E.out]), rfl⟩
    | false =>
      cases he : (a.toList == b.toList) with
      | true =>
        have E : Hid (cmpSeq a b = 0) := by show cmpSeq a b = _; unfold cmpSeq; rw [if_pos hs, if_neg (by simp [hl]), if_pos he]
        clear hs
        go_enter Try.func13, Try.ntmps13
        go_wp2
        go_ret
        exact ⟨ret_i64 (by rw [E.out]), rfl⟩
      | false =>
        have E : Hid (cmpSeq a b = 1) := by show cmpSeq a b = _; unfold cmpSeq; rw [if_pos hs, if_neg (by simp [hl]), if_neg (by simp [he])]
        clear hs
        go_enter Try.func13, Try.ntmps13
        go_wp2
        go_ret
        exact ⟨ret_i64 (by rw [E.out]), rfl⟩
  · have hs1 : ((a.size : Int) != (b.size : Int)) = true := by simp; omega
    by_cases hlt : a.size < b.size
    · have E : Hid (cmpSeq a b = -1) := by show cmpSeq a b = _; unfold cmpSeq; rw [if_neg hs, if_pos hlt]
      go_enter Try.func13, Try.ntmps13
      go_wp2
      go_ret
      exact ⟨ret_i64 (by rw [E.out]), rfl⟩
    · have E : Hid (cmpSeq a b = 1) := by show cmpSeq a b = _; unfold cmpSeq; rw [if_neg hs, if_neg hlt]
      go_enter Try.func13, Try.ntmps13
      go_wp2
      go_ret
      exact ⟨ret_i64 (by rw [E.out]), rfl⟩

/-! ### the laws of cmpSeq -/
theorem size_toList (a : ByteArray) : a.toList.length = a.size := by rw [ByteArray.toList_eq]; simp

def cmpL (x y : List UInt8) : Int :=
  if x.length = y.length then (if Op.bytesLess x y = true then -1 else if (x == y) = true then 0 else 1) else if x.length < y.length then -1 else 1

theorem cmp_list (a b : ByteArray) : cmpSeq a b = cmpL a.toList b.toList := by
  unfold cmpSeq cmpL; rw [size_toList, size_toList]

theorem cmpL_range (x y : List UInt8) : -1 ≤ cmpL x y ∧ cmpL x y ≤ 1 := by
  unfold cmpL; split <;> (try split) <;> (try split) <;> omega
theorem cmpL_lt (x y : List UInt8) : cmpL x y < 0 ↔ (x.length < y.length ∨ (x.length = y.length ∧ Op.bytesLess x y = true)) := by
  unfold cmpL
  by_cases h : x.length = y.length
  · rw [if_pos h]
    by_cases hl : Op.bytesLess x y = true
    · rw [if_pos hl]; simp [h, hl]
    · rw [if_neg hl]; split <;> simp [h, hl]
  · rw [if_neg h]; split <;> omega
theorem cmpL_zero (x y : List UInt8) : cmpL x y = 0 ↔ x = y := by
  unfold cmpL
  constructor
  · intro h0
    split at h0
    · split at h0
      · omega
      · split at h0
        · rename_i h; simpa using h
        · omega
    · split at h0 <;> omega
  · rintro rfl
    simp [less_irrefl]
theorem cmpL_gt (x y : List UInt8) : 0 < cmpL x y ↔ cmpL y x < 0 := by
  have h1 := cmpL_lt x y
  have h2 := cmpL_lt y x
  have h3 := cmpL_zero x y
  constructor
  · intro h
    rw [h2]
    by_cases hl : x.length = y.length
    · right
      refine ⟨hl.symm, ?_⟩
      cases hb : Op.bytesLess y x with
      | true => rfl
      | false =>
        exfalso
        cases hb2 : Op.bytesLess x y with
        | true => have := h1.2 (.inr ⟨hl, hb2⟩); omega
        | false => have := h3.2 (less_tri x y hb2 hb); omega
    · left
      have : ¬ x.length < y.length := fun h' => by have := h1.2 (.inl h'); omega
      omega
  · intro h
    rcases h2.1 h with h' | ⟨hl, hb⟩
    · have n1 : ¬ cmpL x y < 0 := by rw [h1]; omega
      have n2 : ¬ cmpL x y = 0 := by rw [h3]; rintro rfl; omega
      omega
    · have n1 : ¬ cmpL x y < 0 := by
        rw [h1]; rintro (h' | ⟨_, h'⟩)
        · omega
        · rw [less_asymm y x hb] at h'; cases h'
      have n2 : ¬ cmpL x y = 0 := by rw [h3]; rintro rfl; rw [less_irrefl] at hb; cases hb
      omega
theorem cmpL_anti (x y : List UInt8) : cmpL x y = - cmpL y x := by
  have r1 := cmpL_range x y
  have r2 := cmpL_range y x
  have g1 := cmpL_gt x y
  have g2 := cmpL_gt y x
  omega
theorem cmpL_trans (x y z : List UInt8) (h1 : cmpL x y < 0) (h2 : cmpL y z < 0) : cmpL x z < 0 := by
  rw [cmpL_lt] at *
  rcases h1 with h1 | ⟨h1, g1⟩
  · rcases h2 with h2 | ⟨h2, g2⟩ <;> left <;> omega
  · rcases h2 with h2 | ⟨h2, g2⟩
    · left; omega
    · exact .inr ⟨by omega, less_trans x y z g1 g2⟩

theorem cmp_range (a b : ByteArray) : -1 ≤ cmpSeq a b ∧ cmpSeq a b ≤ 1 := by
  rw [cmp_list]; exact cmpL_range _ _
theorem cmp_anti (a b : ByteArray) : cmpSeq a b = - cmpSeq b a := by
  rw [cmp_list, cmp_list]; exact cmpL_anti _ _
theorem cmp_zero (a b : ByteArray) : (a.toList == b.toList) = (cmpSeq a b == 0) := by
  rw [cmp_list, Bool.eq_iff_iff]; simp [cmpL_zero]
theorem cmp_le (a b c : ByteArray) (h1 : cmpSeq a b ≤ 0) (h2 : cmpSeq b c ≤ 0) : cmpSeq a c ≤ 0 := by
  rw [cmp_list] at *
  by_cases e1 : cmpL a.toList b.toList = 0
  · rw [(cmpL_zero _ _).1 e1]; exact h2
  · by_cases e2 : cmpL b.toList c.toList = 0
    · rw [← (cmpL_zero _ _).1 e2]; exact h1
    · have := cmpL_trans _ _ _ (show cmpL a.toList b.toList < 0 by omega) (show cmpL b.toList c.toList < 0 by omega)
      omega
theorem cmp_lt (a b c : ByteArray) (h1 : cmpSeq a b < 0) (h2 : cmpSeq b c ≤ 0) : cmpSeq a c < 0 := by
  rw [cmp_list] at *
  by_cases e2 : cmpL b.toList c.toList = 0
  · rw [← (cmpL_zero _ _).1 e2]; exact h1
  · exact cmpL_trans _ _ _ h1 (show cmpL b.toList c.toList < 0 by omega)
end Go.Proofs.Qxb6001698a.Seq
