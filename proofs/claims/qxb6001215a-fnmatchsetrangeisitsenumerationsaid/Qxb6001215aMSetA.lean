import Derived.Test.Qxb6001215aRows
import Derived.WalkKit
import Derived.WalkSpells
import Derived.WalkLawsBesides
import Derived.Deep.QuietTactic
import Derived.BigQuiet
import Derived.Deep.Light
namespace Go.Proofs.Qxb6001215a.MSet
open Go.RowKit

def special (a : Int) : Bool := a == 94 || a == 92 || a == 93

theorem isSpecial_calls (a : Int) (w : World) :
    Calls Try.prog 25 #[.int .u8 a] w fun e w' => e = .returned (.bool (special a)) ∧ w' = w := by
  unfold special
  go_enter Try.func25, Try.ntmps25
  go_wp2
  all_goals go_ret
  all_goals simp_all

theorem ret_ib {n m : Int} {b b' : Bool} (hn : n = m) (h : b = b') : Ending.returned (.tuple #[.int .i64 n, .bool b]) = .returned (.tuple #[.int .i64 m, .bool b']) := by rw [hn, h]

def inRange (a b c : Int) : Bool := decide (min a b ≤ c) && decide (c ≤ max a b)

set_option maxHeartbeats 1000000 in
theorem range_calls (a b c : Int) (s : ByteArray) (hs : s.size = 4) (h0 : ((s[0]'(by omega)).toNat : Int) = a)  (h1 : ((s[1]'(by omega)).toNat : Int) = 45) (h2 : ((s[2]'(by omega)).toNat : Int) = b) (h3 : ((s[3]'(by omega)).toNat : Int) = 93)
   (ha1 : (a == 94) = false) (ha2 : (a == 92) = false) (ha3 : (a == 93) = false) (w : World) :
    Calls Try.prog 37 #[.string s, .int .i64 0, .int .u8 c] w fun e w' => e = .returned (.tuple #[.int .i64 4, .bool (inRange a b c)]) ∧ ∃ n, w' = w.drewN n := by
  go_enter Try.func37, Try.ntmps37
  go_wp2
  refine wp_loop_rounds 2 ?_
  rw [rounds_succ]
  go_wp2
  go_quiet (fail)
  go_wp2
  all_goals rw [rounds_succ]
  all_goals go_wp2
  all_goals go_ret2
  all_goals refine ⟨ret_ib rfl ?_, _, rfl⟩
  all_goals go_light
  all_goals (unfold inRange; first | (symm; rw [Bool.and_eq_false_iff]; simp; omega) | (rw [Bool.eq_iff_iff]; simp; omega))

def quoted (L : List UInt8) : List UInt8 := L.flatMap (fun v => [92, v]) ++ [93]
def member (L : List UInt8) (c : Int) : Bool := L.any fun v => (v.toNat : Int) == c

theorem quoted_len (L : List UInt8) : (quoted L).length = 2 * L.length + 1 := by
  unfold quoted
  induction L with
  | nil => rfl
  | cons v L ih => simp only [List.flatMap_cons, List.length_append, List.length_cons, List.length_nil] at ih ⊢; omega

theorem quoted_even (L : List UInt8) (k : Nat) (h : k < L.length) : (quoted L)[2 * k]? = some 92 ∧ (quoted L)[2 * k + 1]? = some L[k] := by
  unfold quoted
  induction L generalizing k with
  | nil => simp at h
  | cons v L ih =>
    cases k with
    | zero => simp
    | succ k =>
      have := ih k (by simpa using h)
      simp only [List.flatMap_cons, List.append_assoc, show 2 * (k + 1) = 2 * k + 1 + 1 from by omega]
      simpa using this

theorem quoted_last (L : List UInt8) : (quoted L)[2 * L.length]? = some 93 := by
  unfold quoted
  induction L with
  | nil => rfl
  | cons v L ih =>
    simp only [List.flatMap_cons, List.append_assoc, List.length_cons, show 2 * (L.length + 1) = 2 * L.length + 1 + 1 from by omega]
    simpa using ih

theorem member_snoc (L : List UInt8) (k : Nat) (h : k < L.length) (c : Int) : member (L.take (k + 1)) c = (member (L.take k) c || ((L[k].toNat : Int) == c)) := by
  unfold member
  rw [List.take_succ_eq_append_getElem h, List.any_append]; simp

theorem byte_at {s : ByteArray} {l : List UInt8} (hs : s.data.toList = l) {p : Nat} {v : UInt8} (h : l[p]? = some v) : ∃ hp : p < s.size, s[p]'hp = v := by
  subst hs
  have hp : p < s.data.toList.length := by
    rcases List.getElem?_eq_some_iff.1 h with ⟨hp, _⟩; exact hp
  have hp' : p < s.size := by simpa using hp
  refine ⟨hp', ?_⟩
  rcases List.getElem?_eq_some_iff.1 h with ⟨_, hv⟩
  have hv' : s.data[p] = v := by simpa using hv
  exact hv'

set_option maxHeartbeats 1000000 in
set_option maxRecDepth 100000 in
theorem quoted_calls (L : List UInt8) (c : Int) (s : ByteArray) (hs : s.data.toList = quoted L) (hL : L.length ≤ 100000) (w : World) :
    Calls Try.prog 37 #[.string s, .int .i64 0, .int .u8 c] w fun e w' => e = .returned (.tuple #[.int .i64 (2 * L.length + 1 : Nat), .bool (member L c)]) ∧ w' = w := by
  have hsz : s.size = 2 * L.length + 1 := by rw [← quoted_len, ← hs]; simp
  have h00 : ∃ hp : 0 < s.size, (((s[0]'hp).toNat : Int) == 94) = false := by
    cases L with
    | nil => obtain ⟨hp, e⟩ := byte_at hs (p := 0) (v := 93) rfl; exact ⟨hp, by rw [e]; rfl⟩
    | cons v L => obtain ⟨hp, e⟩ := byte_at hs (p := 0) (v := 92) rfl; exact ⟨hp, by rw [e]; rfl⟩
  obtain ⟨hp0, h00⟩ := h00
  have HS : Hid (s.data.toList = quoted L) := hs
  have HZ : Hid (s.size = 2 * L.length + 1) := hsz
  clear hs hsz
  go_enter Try.func37, Try.ntmps37
  go_wp2
  go_loop [1, 9] (fun p i => ∃ k q : Nat, Hid (q = 2 * k) ∧ q ≤ 200000 ∧ Hid (k ≤ L.length) ∧ p = .int .i64 q ∧ i = .bool (member (L.take k) c)) (fun p _ => s.size - (intOf p).toNat)
  case atStart => exact ⟨0, 0, rfl, by omega, Nat.zero_le _, rfl, rfl⟩
  case round =>
    obtain ⟨k, q, Hq, hq, Hk, rfl, rfl⟩ := hrel
    by_cases hlt : k < L.length
    · obtain ⟨p1, e1⟩ := byte_at (HS.out) (p := q) (by rw [Hq.out]; exact (quoted_even L k hlt).1)
      obtain ⟨p2, e2⟩ := byte_at (HS.out) (p := q + 1) (by rw [Hq.out]; exact (quoted_even L k hlt).2)
      have hz : q + 1 < s.size := by have := HZ.out; have := Hq.out; omega
      have g1 : (((s[q]'(by omega)).toNat : Int) == 92) = true := by rw [e1]; rfl
      have hm := member_snoc L k hlt c
      have HE2 : Hid ((s[q + 1]'hz) = L[k]) := e2
      have HM : Hid (member (L.take (k + 1)) c = (member (L.take k) c || ((L[k].toNat : Int) == c))) := hm
      clear hm e2 e1 p2
      go_wp2
      all_goals
        go_round
        case rel =>
          refine ⟨k + 1, q + 2, by have := Hq.out; show q + 2 = 2 * (k + 1); omega, by have := Hq.out; omega, by show k + 1 ≤ _; omega, by go_num, ?_⟩
          rw [HM.out, ← HE2.out]
          first
            | (have hm : member (List.take k L) c = true := by assumption
               rw [hm]; rfl)
            | (have hm : ¬ member (List.take k L) c = true := by assumption
               rw [Bool.not_eq_true] at hm; rw [hm]; rfl)
        case measure => simp [intOf]; omega
    · have he : k = L.length := by have := Hk.out; omega
      subst he
      obtain ⟨p1, e1⟩ := byte_at (HS.out) (p := q) (by rw [Hq.out]; exact quoted_last L)
      have hz : q < s.size := by have := HZ.out; have := Hq.out; omega
      have g1 : (((s[q]'hz).toNat : Int) == 92) = false := by rw [e1]; rfl
      have g2 : (((s[q]'hz).toNat : Int) == 93) = true := by rw [e1]; rfl
      clear e1
      go_wp2
      go_ret2
      exact ⟨ret_ib (by rw [Hq.out]; omega) rfl, rfl⟩
end Go.Proofs.Qxb6001215a.MSet
