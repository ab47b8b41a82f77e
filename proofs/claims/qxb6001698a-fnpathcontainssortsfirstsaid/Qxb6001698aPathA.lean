import Derived.Test.Qxb6001698aRows
import Derived.WalkKit
import Derived.WalkSpells
import Derived.WalkLawsBesides
import Derived.Deep.QuietTactic
import Derived.BigQuiet
import Derived.Deep.Light
/- The looks at lengths, and the clones. -/
namespace Go.Proofs.Qxb6001698a.Path
open Go.RowKit

/-- A slice value whose elements are the cells xs (one cell each). -/
def Row (w : World) (v : Value) (xs : List Value) : Prop :=
  ∃ a cap, v = .slice a xs.length cap ∧ (0 < xs.length → ∃ b off, a = some ⟨b, off, none⟩ ∧ b < w.heap.size ∧ ∀ j (h : j < xs.length), w.cell? ⟨b, off + j, none⟩ = some xs[j])

theorem Row.later {w w' : World} {v : Value} {xs : List Value} (h : Row w v xs) (hb : Below w.heap.size w w') : Row w' v xs := by
  obtain ⟨a, cap, rfl, h⟩ := h
  refine ⟨a, cap, rfl, fun hp => ?_⟩
  obtain ⟨b, off, rfl, hlt, hc⟩ := h hp
  exact ⟨b, off, rfl, Nat.lt_of_lt_of_le hlt hb.size, fun j hj => (hb.cell (p := ⟨b, off + j, none⟩) hlt).trans (hc j hj)⟩

def AnyBool (e : Ending) : Prop := ∃ r : Bool, e = .returned (.bool r)
def AnyInt (e : Ending) : Prop := ∃ n : Int, e = .returned (.int .i64 n)

set_option maxHeartbeats 4000000 in
set_option maxRecDepth 100000 in
theorem bytes_calls (ss ts : List ByteArray) (v0 v3 : Value) (a1 a2 a4 a5 : Option Addr) (n1 c1 n2 c2 n4 c4 n5 c5 : Nat) (w : World) (h0 : Row w v0 (ss.map Value.string)) (h3 : Row w v3 (ts.map Value.string))
    (hs : ss.length ≤ maxLen) (ht : ts.length ≤ maxLen) :
    Calls Try.prog 21 #[v0, .slice a1 n1 c1, .slice a2 n2 c2, v3, .slice a4 n4 c4, .slice a5 n5 c5] w fun e w' => AnyBool e ∧ w = w' := by
  obtain ⟨a0, c0, rfl, h0⟩ := h0
  obtain ⟨a3, c3, rfl, h3⟩ := h3
  simp only [List.length_map] at h0 h3 ⊢
  unfold maxLen at hs ht
  have H0 : Hid (0 < ss.length → ∃ b off, a0 = some ⟨b, off, none⟩ ∧ b < w.heap.size ∧ ∀ j (h : j < ss.length), w.cell? ⟨b, off + j, none⟩ = some (.string ss[j])) := by
    show 0 < ss.length → _
    simpa using h0
  have H3 : Hid (0 < ts.length → ∃ b off, a3 = some ⟨b, off, none⟩ ∧ b < w.heap.size ∧ ∀ j (h : j < ts.length), w.cell? ⟨b, off + j, none⟩ = some (.string ts[j])) := by
    show 0 < ts.length → _
    simpa using h3
  clear h0 h3
  by_cases g0 : (1048576 : Int) < (ss.length : Int)
  · go_enter Try.func21, Try.ntmps21
    go_wp2
    go_ret
    exact ⟨⟨_, rfl⟩, rfl⟩
  go_enter Try.func21, Try.ntmps21
  go_wp2
  go_loop [13, 14] (fun z i => ∃ (k : Nat) (t : Int), k ≤ ss.length ∧ i = .int .i64 (k : Int) ∧ z = .int .i64 t) (fun _ i => ss.length - (intOf i).toNat)
  case atStart => exact ⟨0, _, by omega, rfl, rfl⟩
  case round =>
    obtain ⟨k, t, hk, rfl, rfl⟩ := hrel
    by_cases hlt : k < ss.length
    · obtain ⟨b, off, rfl, hb, hc⟩ := H0.out (by omega)
      have hcell : w.cell? ⟨b, off + k, none⟩ = some (.string ss[k]) := by exact hc k hlt
      generalize ss[k] = sk at *
      clear hc hb H0
      go_wp2
      all_goals first
        | (go_ret; exact ⟨⟨_, rfl⟩, rfl⟩)
        | (go_round
           case rel => exact ⟨k + 1, _, by omega, by go_num, rfl⟩
           case measure => simp [intOf]; omega)
    · cases e0 : decide ((1048576 : Int) < (n1 : Int)) with
      | true =>
        go_wp2
        go_ret
        exact ⟨⟨_, rfl⟩, rfl⟩
      | false =>
      cases e1 : decide ((1048576 : Int) < wrap64 (t + (n1 : Int))) with
      | true =>
        go_wp2
        go_ret
        exact ⟨⟨_, rfl⟩, rfl⟩
      | false =>
      cases e2 : decide ((1048576 : Int) < (n2 : Int)) with
      | true =>
        go_wp2
        go_ret
        exact ⟨⟨_, rfl⟩, rfl⟩
      | false =>
      cases e3 : decide ((1048576 : Int) < wrap64 (wrap64 (t + (n1 : Int)) + (n2 : Int))) with
      | true =>
        go_wp2
        go_ret
        exact ⟨⟨_, rfl⟩, rfl⟩
      | false =>
      cases e4 : decide ((1048576 : Int) < (ts.length : Int)) with
      | true =>
        go_wp2
        go_ret
        exact ⟨⟨_, rfl⟩, rfl⟩
      | false =>
      cases e5 : decide ((1048576 : Int) < wrap64 (wrap64 (wrap64 (t + (n1 : Int)) + (n2 : Int)) + (ts.length : Int))) with
      | true =>
        go_wp2
        go_ret
        exact ⟨⟨_, rfl⟩, rfl⟩
      | false =>
      go_wp2
      go_loop [13, 15] (fun z i => ∃ (k : Nat) (t : Int), k ≤ ts.length ∧ i = .int .i64 (k : Int) ∧ z = .int .i64 t) (fun _ i => ts.length - (intOf i).toNat)
      case atStart => exact ⟨0, _, by omega, rfl, rfl⟩
      case round =>
        obtain ⟨k2, t2, hk2, rfl, rfl⟩ := hrel
        by_cases hlt2 : k2 < ts.length
        · obtain ⟨b, off, rfl, hb, hc⟩ := H3.out (by omega)
          have hcell : w.cell? ⟨b, off + k2, none⟩ = some (.string ts[k2]) := hc k2 hlt2
          generalize ts[k2] = sk at *
          clear hc hb H3
          go_wp2
          all_goals first
            | (go_ret; exact ⟨⟨_, rfl⟩, rfl⟩)
            | (go_round
               case rel => exact ⟨k2 + 1, _, by omega, by go_num, rfl⟩
               case measure => simp [intOf]; omega)
        · cases e0 : decide ((1048576 : Int) < (n4 : Int)) with
          | true =>
            go_wp2
            go_ret
            exact ⟨⟨_, rfl⟩, rfl⟩
          | false =>
          cases e1 : decide ((1048576 : Int) < wrap64 (t2 + (n4 : Int))) with
          | true =>
            go_wp2
            go_ret
            exact ⟨⟨_, rfl⟩, rfl⟩
          | false =>
          cases e2 : decide ((1048576 : Int) < (n5 : Int)) with
          | true =>
            go_wp2
            go_ret
            exact ⟨⟨_, rfl⟩, rfl⟩
          | false =>
          cases e3 : decide ((1048576 : Int) < wrap64 (wrap64 (t2 + (n4 : Int)) + (n5 : Int))) with
          | true =>
            go_wp2
            go_ret
            exact ⟨⟨_, rfl⟩, rfl⟩
          | false =>
          go_wp2
          go_ret
          exact ⟨⟨_, rfl⟩, rfl⟩
end Go.Proofs.Qxb6001698a.Path
