import Derived.Test.Qxb6001215aScanB
/- cloneBytes, isDigitOf, and the bound on lengths. -/
namespace Go.Proofs.Qxb6001215a.Scan
open Go.RowKit

def digB (b c : Int) : Bool := (decide (48 ≤ c) && decide (c ≤ 57)) || (b == 16 && ((decide (97 ≤ c) && decide (c ≤ 102)) || (decide (65 ≤ c) && decide (c ≤ 70))))
theorem digB_iff (b c : Int) : digB b c = true ↔ isDig b c := by unfold digB isDig; simp

theorem ret_bool {a b : Bool} (h : a = b) : Ending.returned (.bool a) = .returned (.bool b) := by rw [h]

theorem isDigitOf_calls (b c : Int) (w : World) :
    Calls Try.prog 32 #[.int .u8 c, .int .i64 b] w fun e w' => e = .returned (.bool (digB b c)) ∧ w = w' := by
  by_cases hb : b = 16
  · subst hb
    rcases (show c < 48 ∨ (48 ≤ c ∧ c ≤ 57) ∨ (57 < c ∧ c < 65) ∨ (65 ≤ c ∧ c ≤ 70) ∨ (70 < c ∧ c < 97) ∨ (97 ≤ c ∧ c ≤ 102) ∨ 102 < c from by omega) with h1 | ⟨h1, h2⟩ | ⟨h1, h2⟩ | ⟨h1, h2⟩ | ⟨h1, h2⟩ | ⟨h1, h2⟩ | h1
    all_goals
      go_enter Try.func32, Try.ntmps32
      go_wp2
      go_ret
      exact ⟨ret_bool (by rw [Bool.eq_iff_iff]; simp [digB]; omega), rfl⟩
  · have hbt : (b != 16) = true := by simpa using hb
    rcases (show c < 48 ∨ (48 ≤ c ∧ c ≤ 57) ∨ 57 < c from by omega) with h1 | ⟨h1, h2⟩ | h1
    all_goals
      have hbf : (b == 16) = false := by simpa using hb
      have E : Hid (digB b c = (decide (48 ≤ c) && decide (c ≤ 57))) := by show digB b c = _; simp [digB, hbf]
      clear hb hbf
      go_enter Try.func32, Try.ntmps32
      go_wp2
      go_ret
      exact ⟨ret_bool (by rw [E.out, Bool.eq_iff_iff]; simp; omega), rfl⟩

theorem bytes_calls (a : Option Addr) (len cap : Nat) (k b : Int) (hm : len ≤ maxLen) (w : World) :
    Calls Try.prog 31 #[.slice a len cap, .int .i64 k, .int .i64 b] w fun e w' => e = .returned (.bool (decide ((len : Int) ≤ 1048576))) ∧ w = w' := by
  unfold maxLen at hm
  by_cases h : (len : Int) ≤ 1048576
  · go_enter Try.func31, Try.ntmps31
    go_wp2
    go_ret
    exact ⟨ret_bool (by simp; omega), rfl⟩
  · go_enter Try.func31, Try.ntmps31
    go_wp2
    go_ret
    exact ⟨ret_bool (by simp; omega), rfl⟩

set_option maxHeartbeats 1000000 in
set_option maxRecDepth 100000 in
theorem clone_calls (l : List Int) (bk off cap : Nat) (hl : l.length ≤ 200000) (w : World) (hbk : bk < w.heap.size) (hc : ∀ j, j < l.length → w.cell? ⟨bk, off + j, none⟩ = some (.int .u8 (l.getD j 0))) :
    Calls Try.prog 24 #[.slice (some ⟨bk, off, none⟩) l.length cap] w fun e w' => ∃ g cp : Nat, e = .returned (.slice (some ⟨g, 0, none⟩) l.length cp) ∧ g < w'.heap.size ∧ (∀ j, j < l.length → w'.cell? ⟨g, j, none⟩ = some (.int .u8 (l.getD j 0))) ∧ Below w.heap.size w w' := by
  obtain ⟨i0, hi0, hz0, hz1, hz2⟩ := info_parts info5
  have HC : Hid (∀ j, j < l.length → w.cell? ⟨bk, off + j, none⟩ = some (.int .u8 (l.getD j 0))) := hc
  clear hc
  have qn : ∀ (W : World), (binOp .eql 27 (.slice (some ⟨bk, off, none⟩) l.length cap) (.slice none 0 0)).run Try.prog W = .ok (.bool false) W := fun W => Lib.run_eql_slice_nil W 27 5 _ _ _ _ _ Try.underlying27
  go_enter Try.func24, Try.ntmps24
  go_wp2_with (at_make; refine wpList_make_full _ rfl _ _ 27 rfl w.heap.size 5 i0 (.int .u8 0) 1 Try.underlying27 hi0 hz0 hz1 _ _ _ _ l.length rfl rfl (by omega) (by omega) ?b2 ?b3 (Nat.le_refl _) ?_)
  case b2 => rw [hz2]; omega
  case b3 => unfold maxLen; omega
  intro w0 hown0 hgrow0
  have hb0' : Below w.heap.size w w0 := (Below.refl _ _).grown hgrow0 (Nat.le_refl _) (fun k h => by cases h)
  clear hgrow0
  go_wp2
  go_loopw [4] (fun i wr => ∃ (k : Nat) (xs : List Value), k ≤ l.length ∧ i = .int .i64 (k : Int) ∧
      wr.ownsRow w.heap.size 5 1 (.slice (some ⟨w.heap.size, 0, none⟩) l.length l.length) l.length xs ∧ Hid (∀ j, j < k → xs[j]? = some (.int .u8 (l.getD j 0))) ∧ Below w.heap.size w wr)
    (fun i _ => l.length - (intOf i).toNat)
  case atStart => exact ⟨0, _, by omega, rfl, hown0, fun j hj => by omega, hb0'⟩
  case round =>
    obtain ⟨k, xs, hk, rfl, hown, HX, hbx⟩ := hrel
    clear hown0 hb0'
    have hxl : xs.length = l.length := by have := hown.1; omega
    by_cases hlt : k < l.length
    · obtain ⟨c, hcx⟩ : ∃ c, c = l.getD k 0 := ⟨_, rfl⟩
      have hcell : wr.cell? ⟨bk, off + k, none⟩ = some (.int .u8 c) := by
        rw [hbx.cell (p := ⟨bk, off + k, none⟩) hbk, HC.out k hlt, hcx]
      obtain ⟨ov, hold⟩ : ∃ ov, wr.cell? ⟨w.heap.size, k, none⟩ = some ov := ⟨xs[k]'(by omega), by rw [hown.cellAt k (by omega)]; simp [hxl, hlt]⟩
      have hfr := hown.frozenAt k
      have hst := (hown.stored k (.int .u8 c)).1
      have HST : Hid ((wr.setCell ⟨w.heap.size, k, none⟩ (.int .u8 c)).ownsRow w.heap.size 5 1 (.slice (some ⟨w.heap.size, 0, none⟩) l.length l.length) l.length (xs.set k (.int .u8 c))) := hst
      have HN : Hid (∀ j, j < k + 1 → (xs.set k (.int .u8 c))[j]? = some (.int .u8 (l.getD j 0))) := by
        show ∀ j, j < k + 1 → (xs.set k (.int .u8 c))[j]? = some (.int .u8 (l.getD j 0))
        intro j hj
        by_cases hjk : j = k
        · subst hjk; rw [List.getElem?_set_self (by omega), hcx]
        · rw [List.getElem?_set_ne (by omega)]; exact HX.out j (by omega)
      clear hst hcx hown hxl
      go_wp2
      go_roundw
      case rel => exact ⟨k + 1, _, by omega, by go_num, HST, HN, hbx.setCell (Nat.le_refl _) _⟩
      case measure => simp [intOf]; omega
    · have hkl : k = l.length := by omega
      subst hkl
      go_wp2
      go_ret
      refine ⟨w.heap.size, l.length, rfl, ?_, fun j hj => ?_, hbx⟩
      · rcases hown.2 with ⟨h', _⟩ | ⟨g', cap', cur, h', _, hg, _⟩
        · simp at h'
        · simp at h'
          rw [h'.1]
          exact (Array.getElem?_eq_some_iff.1 hg).1
      · rw [hown.cellAt j (by omega)]; exact HX.out j hj
end Go.Proofs.Qxb6001215a.Scan
