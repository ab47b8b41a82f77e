import Derived.Test.Qxb6001698aPathA
/- Lengths, and the three clones. -/
namespace Go.Proofs.Qxb6001698a.Path
open Go.RowKit

theorem ret_bool {a b : Bool} (h : a = b) : Ending.returned (.bool a) = .returned (.bool b) := by rw [h]

set_option maxHeartbeats 1000000 in
set_option maxRecDepth 100000 in
theorem stringsBytes_calls (ss : List ByteArray) (v0 : Value) (w : World) (h0 : Row w v0 (ss.map Value.string)) (hs : ss.length ≤ 4096) :
    Calls Try.prog 37 #[v0] w fun e w' => AnyInt e ∧ w = w' := by
  obtain ⟨a0, c0, rfl, h0⟩ := h0
  simp only [List.length_map] at h0 ⊢
  have H0 : Hid (0 < ss.length → ∃ b off, a0 = some ⟨b, off, none⟩ ∧ b < w.heap.size ∧ ∀ j (h : j < ss.length), w.cell? ⟨b, off + j, none⟩ = some (.string ss[j])) := by
    show 0 < ss.length → _
    simpa using h0
  clear h0
  go_enter Try.func37, Try.ntmps37
  go_wp2
  go_loop [3, 4] (fun z i => ∃ (k : Nat) (t : Int), k ≤ ss.length ∧ i = .int .i64 (k : Int) ∧ z = .int .i64 t) (fun _ i => ss.length - (intOf i).toNat)
  case atStart => exact ⟨0, _, by omega, rfl, rfl⟩
  case round =>
    obtain ⟨k, t, hk, rfl, rfl⟩ := hrel
    by_cases hlt : k < ss.length
    · obtain ⟨b, off, rfl, hb, hc⟩ := H0.out (by omega)
      have hcell : w.cell? ⟨b, off + k, none⟩ = some (.string ss[k]) := hc k hlt
      generalize ss[k] = sk at *
      clear hc hb H0
      go_wp2
      all_goals first
        | (go_ret; exact ⟨⟨_, rfl⟩, rfl⟩)
        | (go_round
           case rel => exact ⟨k + 1, _, by omega, by go_num, rfl⟩
           case measure => simp [intOf]; omega)
    · go_wp2
      go_ret
      exact ⟨⟨_, rfl⟩, rfl⟩

theorem pathBytes_calls (ss : List ByteArray) (v0 : Value) (a1 a2 : Option Addr) (n1 c1 n2 c2 : Nat) (w : World) (h0 : Row w v0 (ss.map Value.string)) (hs : ss.length ≤ 4096) :
    Calls Try.prog 22 #[v0, .slice a1 n1 c1, .slice a2 n2 c2] w fun e w' => AnyInt e ∧ w = w' := by
  have H := stringsBytes_calls ss v0 w h0 hs
  have HH : Hid (Calls Try.prog 37 #[v0] w fun e w' => AnyInt e ∧ w = w') := H
  clear H h0
  go_enter Try.func22, Try.ntmps22
  go_wp2_with fail
  refine HH.out.mono ?_
  rintro e w' ⟨⟨n, rfl⟩, rfl⟩
  go_wp2
  go_ret
  exact ⟨⟨_, rfl⟩, rfl⟩

def same (n0 n1 n2 : Nat) : Bool := n1 == n0 && n2 == n0

theorem same_calls (a0 a1 a2 : Option Addr) (n0 c0 n1 c1 n2 c2 : Nat) (w : World) :
    Calls Try.prog 23 #[.slice a0 n0 c0, .slice a1 n1 c1, .slice a2 n2 c2] w fun e w' => e = .returned (.bool (same n0 n1 n2)) ∧ w = w' := by
  cases e1 : ((n1 : Int) == (n0 : Int)) with
  | false =>
    have E : Hid (same n0 n1 n2 = false) := by
      have : (n1 == n0) = false := by rw [beq_eq_false_iff_ne] at e1 ⊢; omega
      show same n0 n1 n2 = false
      simp only [same, this, Bool.false_and]
    go_enter Try.func23, Try.ntmps23
    go_wp2
    go_ret
    exact ⟨ret_bool E.out.symm, rfl⟩
  | true =>
    have E : Hid (((n2 : Int) == (n0 : Int)) = same n0 n1 n2) := by
      have h1 : (n1 == n0) = true := by rw [beq_iff_eq] at e1 ⊢; omega
      show ((n2 : Int) == (n0 : Int)) = same n0 n1 n2
      simp only [same, h1, Bool.true_and]
      rw [Bool.eq_iff_iff, beq_iff_eq, beq_iff_eq]; omega
    go_enter Try.func23, Try.ntmps23
    go_wp2
    go_ret
    exact ⟨ret_bool E.out, rfl⟩

theorem info9 : (Try.prog.info? 9).map (fun i => (i.zero, i.size, i.bytes)) = some (some (.string ByteArray.empty), 1, 16) := by kernel_rfl

set_option maxHeartbeats 1000000 in
set_option maxRecDepth 100000 in
theorem cloneStrings_calls (l : List (ByteArray)) (v : Value) (hl : l.length ≤ 4096) (w : World) (hv : Row w v (l.map Value.string)) :
    Calls Try.prog 24 #[v] w fun e w' => (∃ v', e = .returned v' ∧ Row w' v' (l.map Value.string)) ∧ Below w.heap.size w w' := by
  obtain ⟨i0, hi0, hz0, hz1, hz2⟩ := info_parts info9
  obtain ⟨a, cap, rfl, h0⟩ := hv
  simp only [List.length_map] at h0 ⊢
  have H0 : Hid (0 < l.length → ∃ b off, a = some ⟨b, off, none⟩ ∧ b < w.heap.size ∧ ∀ j (h : j < l.length), w.cell? ⟨b, off + j, none⟩ = some (.string l[j])) := by
    show 0 < l.length → _
    simpa using h0
  clear h0
  have qn : ∀ (W : World), (binOp .eql 34 (.slice a l.length cap) (.slice none 0 0)).run Try.prog W = .ok (.bool a.isNone) W := fun W => Lib.run_eql_slice_nil W 34 9 _ _ _ _ _ Try.underlying34
  cases ha : a.isNone with
  | true =>
    obtain rfl : a = none := by simpa using ha
    have hl0 : l = [] := by
      rcases Nat.eq_zero_or_pos l.length with h | h
      · exact List.eq_nil_of_length_eq_zero h
      · obtain ⟨b, off, h', _⟩ := H0.out h
        cases h'
    subst hl0
    clear H0 ha qn
    have qn : ∀ (W : World), (binOp .eql 34 (.slice none 0 cap) (.slice none 0 0)).run Try.prog W = .ok (.bool true) W := fun W => Lib.run_eql_slice_nil W 34 9 _ _ _ _ _ Try.underlying34
    go_enter Try.func24, Try.ntmps24
    go_wp2
    go_ret
    exact ⟨⟨_, rfl, none, 0, rfl, fun h => by simp at h⟩, Below.refl _ _⟩
  | false =>
    go_enter Try.func24, Try.ntmps24
    go_wp2_with (at_make; refine wpList_make_full _ rfl _ _ 34 rfl w.heap.size 9 i0 (.string ByteArray.empty) 1 Try.underlying34 hi0 hz0 hz1 _ _ _ _ l.length rfl rfl (by omega) (by omega) ?b2 ?b3 (Nat.le_refl _) ?_)
    case b2 => rw [hz2]; omega
    case b3 => unfold maxLen; omega
    intro w0 hown0 hgrow0
    have hb0' : Below w.heap.size w w0 := (Below.refl _ _).grown hgrow0 (Nat.le_refl _) (fun k h => by cases h)
    clear hgrow0
    go_wp2
    go_loopw [4] (fun i wr => ∃ (k : Nat) (xs : List Value), k ≤ l.length ∧ i = .int .i64 (k : Int) ∧
        wr.ownsRow w.heap.size 9 1 (.slice (some ⟨w.heap.size, 0, none⟩) l.length l.length) l.length xs ∧ Hid (∀ j (h : j < l.length), j < k → xs[j]? = some (.string l[j])) ∧ Below w.heap.size w wr)
      (fun i _ => l.length - (intOf i).toNat)
    case atStart => exact ⟨0, _, by omega, rfl, hown0, fun j h hj => by omega, hb0'⟩
    case round =>
      obtain ⟨k, xs, hk, rfl, hown, HX, hbx⟩ := hrel
      clear hown0 hb0'
      have hxl : xs.length = l.length := by have := hown.1; omega
      by_cases hlt : k < l.length
      · obtain ⟨bk, off, rfl, hbk, hc⟩ := H0.out (by omega)
        obtain ⟨c, hcx⟩ : ∃ c, c = l[k] := ⟨_, rfl⟩
        have hcell : wr.cell? ⟨bk, off + k, none⟩ = some (.string c) := by
          rw [hbx.cell (p := ⟨bk, off + k, none⟩) hbk, hc k hlt, hcx]
        obtain ⟨ov, hold⟩ : ∃ ov, wr.cell? ⟨w.heap.size, k, none⟩ = some ov := ⟨xs[k]'(by omega), by rw [hown.cellAt k (by omega)]; simp [hxl, hlt]⟩
        have hfr := hown.frozenAt k
        have HST : Hid ((wr.setCell ⟨w.heap.size, k, none⟩ (.string c)).ownsRow w.heap.size 9 1 (.slice (some ⟨w.heap.size, 0, none⟩) l.length l.length) l.length (xs.set k (.string c))) := (hown.stored k (.string c)).1
        have HN : Hid (∀ j (h : j < l.length), j < k + 1 → (xs.set k (.string c))[j]? = some (.string l[j])) := by
          show ∀ j (h : j < l.length), j < k + 1 → (xs.set k (.string c))[j]? = some (.string l[j])
          intro j h hj
          by_cases hjk : j = k
          · subst hjk; rw [List.getElem?_set_self (by omega), hcx]
          · rw [List.getElem?_set_ne (by omega)]; exact HX.out j h (by omega)
        clear hcx hown hxl hc H0 qn ha
        go_wp2
        go_roundw
        case rel => exact ⟨k + 1, _, by omega, by go_num, HST, HN, hbx.setCell (Nat.le_refl _) _⟩
        case measure => simp [intOf]; omega
      · have hkl : k = l.length := by omega
        subst hkl
        go_wp2
        go_ret
        refine ⟨⟨_, rfl, some ⟨w.heap.size, 0, none⟩, l.length, by simp, fun hp => ⟨w.heap.size, 0, rfl, ?_, fun j hj => ?_⟩⟩, hbx⟩
        · rcases hown.2 with ⟨h', _⟩ | ⟨g', cap', cur, h', _, hg, _⟩
          · simp at h'
          · simp at h'
            rw [h'.1]
            exact (Array.getElem?_eq_some_iff.1 hg).1
        · have hj' : j < l.length := by simpa using hj
          rw [Nat.zero_add, hown.cellAt j (by omega), HX.out j hj' hj']; simp

theorem info3 : (Try.prog.info? 3).map (fun i => (i.zero, i.size, i.bytes)) = some (some (.int .i64 0), 1, 8) := by kernel_rfl

set_option maxHeartbeats 1000000 in
set_option maxRecDepth 100000 in
theorem cloneInts_calls (l : List (Int)) (v : Value) (hl : l.length ≤ 4096) (w : World) (hv : Row w v (l.map (Value.int .i64))) :
    Calls Try.prog 25 #[v] w fun e w' => (∃ v', e = .returned v' ∧ Row w' v' (l.map (Value.int .i64))) ∧ Below w.heap.size w w' := by
  obtain ⟨i0, hi0, hz0, hz1, hz2⟩ := info_parts info3
  obtain ⟨a, cap, rfl, h0⟩ := hv
  simp only [List.length_map] at h0 ⊢
  have H0 : Hid (0 < l.length → ∃ b off, a = some ⟨b, off, none⟩ ∧ b < w.heap.size ∧ ∀ j (h : j < l.length), w.cell? ⟨b, off + j, none⟩ = some (.int .i64 l[j])) := by
    show 0 < l.length → _
    simpa using h0
  clear h0
  have qn : ∀ (W : World), (binOp .eql 43 (.slice a l.length cap) (.slice none 0 0)).run Try.prog W = .ok (.bool a.isNone) W := fun W => Lib.run_eql_slice_nil W 43 3 _ _ _ _ _ Try.underlying43
  cases ha : a.isNone with
  | true =>
    obtain rfl : a = none := by simpa using ha
    have hl0 : l = [] := by
      rcases Nat.eq_zero_or_pos l.length with h | h
      · exact List.eq_nil_of_length_eq_zero h
      · obtain ⟨b, off, h', _⟩ := H0.out h
        cases h'
    subst hl0
    clear H0 ha qn
    have qn : ∀ (W : World), (binOp .eql 43 (.slice none 0 cap) (.slice none 0 0)).run Try.prog W = .ok (.bool true) W := fun W => Lib.run_eql_slice_nil W 43 3 _ _ _ _ _ Try.underlying43
    go_enter Try.func25, Try.ntmps25
    go_wp2
    go_ret
    exact ⟨⟨_, rfl, none, 0, rfl, fun h => by simp at h⟩, Below.refl _ _⟩
  | false =>
    go_enter Try.func25, Try.ntmps25
    go_wp2_with (at_make; refine wpList_make_full _ rfl _ _ 43 rfl w.heap.size 3 i0 (.int .i64 0) 1 Try.underlying43 hi0 hz0 hz1 _ _ _ _ l.length rfl rfl (by omega) (by omega) ?b2 ?b3 (Nat.le_refl _) ?_)
    case b2 => rw [hz2]; omega
    case b3 => unfold maxLen; omega
    intro w0 hown0 hgrow0
    have hb0' : Below w.heap.size w w0 := (Below.refl _ _).grown hgrow0 (Nat.le_refl _) (fun k h => by cases h)
    clear hgrow0
    go_wp2
    go_loopw [4] (fun i wr => ∃ (k : Nat) (xs : List Value), k ≤ l.length ∧ i = .int .i64 (k : Int) ∧
        wr.ownsRow w.heap.size 3 1 (.slice (some ⟨w.heap.size, 0, none⟩) l.length l.length) l.length xs ∧ Hid (∀ j (h : j < l.length), j < k → xs[j]? = some (.int .i64 l[j])) ∧ Below w.heap.size w wr)
      (fun i _ => l.length - (intOf i).toNat)
    case atStart => exact ⟨0, _, by omega, rfl, hown0, fun j h hj => by omega, hb0'⟩
    case round =>
      obtain ⟨k, xs, hk, rfl, hown, HX, hbx⟩ := hrel
      clear hown0 hb0'
      have hxl : xs.length = l.length := by have := hown.1; omega
      by_cases hlt : k < l.length
      · obtain ⟨bk, off, rfl, hbk, hc⟩ := H0.out (by omega)
        obtain ⟨c, hcx⟩ : ∃ c, c = l[k] := ⟨_, rfl⟩
        have hcell : wr.cell? ⟨bk, off + k, none⟩ = some (.int .i64 c) := by
          rw [hbx.cell (p := ⟨bk, off + k, none⟩) hbk, hc k hlt, hcx]
        obtain ⟨ov, hold⟩ : ∃ ov, wr.cell? ⟨w.heap.size, k, none⟩ = some ov := ⟨xs[k]'(by omega), by rw [hown.cellAt k (by omega)]; simp [hxl, hlt]⟩
        have hfr := hown.frozenAt k
        have HST : Hid ((wr.setCell ⟨w.heap.size, k, none⟩ (.int .i64 c)).ownsRow w.heap.size 3 1 (.slice (some ⟨w.heap.size, 0, none⟩) l.length l.length) l.length (xs.set k (.int .i64 c))) := (hown.stored k (.int .i64 c)).1
        have HN : Hid (∀ j (h : j < l.length), j < k + 1 → (xs.set k (.int .i64 c))[j]? = some (.int .i64 l[j])) := by
          show ∀ j (h : j < l.length), j < k + 1 → (xs.set k (.int .i64 c))[j]? = some (.int .i64 l[j])
          intro j h hj
          by_cases hjk : j = k
          · subst hjk; rw [List.getElem?_set_self (by omega), hcx]
          · rw [List.getElem?_set_ne (by omega)]; exact HX.out j h (by omega)
        clear hcx hown hxl hc H0 qn ha
        go_wp2
        go_roundw
        case rel => exact ⟨k + 1, _, by omega, by go_num, HST, HN, hbx.setCell (Nat.le_refl _) _⟩
        case measure => simp [intOf]; omega
      · have hkl : k = l.length := by omega
        subst hkl
        go_wp2
        go_ret
        refine ⟨⟨_, rfl, some ⟨w.heap.size, 0, none⟩, l.length, by simp, fun hp => ⟨w.heap.size, 0, rfl, ?_, fun j hj => ?_⟩⟩, hbx⟩
        · rcases hown.2 with ⟨h', _⟩ | ⟨g', cap', cur, h', _, hg, _⟩
          · simp at h'
          · simp at h'
            rw [h'.1]
            exact (Array.getElem?_eq_some_iff.1 hg).1
        · have hj' : j < l.length := by simpa using hj
          rw [Nat.zero_add, hown.cellAt j (by omega), HX.out j hj' hj']; simp

theorem info4 : (Try.prog.info? 4).map (fun i => (i.zero, i.size, i.bytes)) = some (some (.bool false), 1, 1) := by kernel_rfl

set_option maxHeartbeats 1000000 in
set_option maxRecDepth 100000 in
theorem cloneBools_calls (l : List (Bool)) (v : Value) (hl : l.length ≤ 4096) (w : World) (hv : Row w v (l.map Value.bool)) :
    Calls Try.prog 26 #[v] w fun e w' => (∃ v', e = .returned v' ∧ Row w' v' (l.map Value.bool)) ∧ Below w.heap.size w w' := by
  obtain ⟨i0, hi0, hz0, hz1, hz2⟩ := info_parts info4
  obtain ⟨a, cap, rfl, h0⟩ := hv
  simp only [List.length_map] at h0 ⊢
  have H0 : Hid (0 < l.length → ∃ b off, a = some ⟨b, off, none⟩ ∧ b < w.heap.size ∧ ∀ j (h : j < l.length), w.cell? ⟨b, off + j, none⟩ = some (.bool l[j])) := by
    show 0 < l.length → _
    simpa using h0
  clear h0
  have qn : ∀ (W : World), (binOp .eql 44 (.slice a l.length cap) (.slice none 0 0)).run Try.prog W = .ok (.bool a.isNone) W := fun W => Lib.run_eql_slice_nil W 44 4 _ _ _ _ _ Try.underlying44
  cases ha : a.isNone with
  | true =>
    obtain rfl : a = none := by simpa using ha
    have hl0 : l = [] := by
      rcases Nat.eq_zero_or_pos l.length with h | h
      · exact List.eq_nil_of_length_eq_zero h
      · obtain ⟨b, off, h', _⟩ := H0.out h
        cases h'
    subst hl0
    clear H0 ha qn
    have qn : ∀ (W : World), (binOp .eql 44 (.slice none 0 cap) (.slice none 0 0)).run Try.prog W = .ok (.bool true) W := fun W => Lib.run_eql_slice_nil W 44 4 _ _ _ _ _ Try.underlying44
    go_enter Try.func26, Try.ntmps26
    go_wp2
    go_ret
    exact ⟨⟨_, rfl, none, 0, rfl, fun h => by simp at h⟩, Below.refl _ _⟩
  | false =>
    go_enter Try.func26, Try.ntmps26
    go_wp2_with (at_make; refine wpList_make_full _ rfl _ _ 44 rfl w.heap.size 4 i0 (.bool false) 1 Try.underlying44 hi0 hz0 hz1 _ _ _ _ l.length rfl rfl (by omega) (by omega) ?b2 ?b3 (Nat.le_refl _) ?_)
    case b2 => rw [hz2]; omega
    case b3 => unfold maxLen; omega
    intro w0 hown0 hgrow0
    have hb0' : Below w.heap.size w w0 := (Below.refl _ _).grown hgrow0 (Nat.le_refl _) (fun k h => by cases h)
    clear hgrow0
    go_wp2
    go_loopw [4] (fun i wr => ∃ (k : Nat) (xs : List Value), k ≤ l.length ∧ i = .int .i64 (k : Int) ∧
        wr.ownsRow w.heap.size 4 1 (.slice (some ⟨w.heap.size, 0, none⟩) l.length l.length) l.length xs ∧ Hid (∀ j (h : j < l.length), j < k → xs[j]? = some (.bool l[j])) ∧ Below w.heap.size w wr)
      (fun i _ => l.length - (intOf i).toNat)
    case atStart => exact ⟨0, _, by omega, rfl, hown0, fun j h hj => by omega, hb0'⟩
    case round =>
      obtain ⟨k, xs, hk, rfl, hown, HX, hbx⟩ := hrel
      clear hown0 hb0'
      have hxl : xs.length = l.length := by have := hown.1; omega
      by_cases hlt : k < l.length
      · obtain ⟨bk, off, rfl, hbk, hc⟩ := H0.out (by omega)
        obtain ⟨c, hcx⟩ : ∃ c, c = l[k] := ⟨_, rfl⟩
        have hcell : wr.cell? ⟨bk, off + k, none⟩ = some (.bool c) := by
          rw [hbx.cell (p := ⟨bk, off + k, none⟩) hbk, hc k hlt, hcx]
        obtain ⟨ov, hold⟩ : ∃ ov, wr.cell? ⟨w.heap.size, k, none⟩ = some ov := ⟨xs[k]'(by omega), by rw [hown.cellAt k (by omega)]; simp [hxl, hlt]⟩
        have hfr := hown.frozenAt k
        have HST : Hid ((wr.setCell ⟨w.heap.size, k, none⟩ (.bool c)).ownsRow w.heap.size 4 1 (.slice (some ⟨w.heap.size, 0, none⟩) l.length l.length) l.length (xs.set k (.bool c))) := (hown.stored k (.bool c)).1
        have HN : Hid (∀ j (h : j < l.length), j < k + 1 → (xs.set k (.bool c))[j]? = some (.bool l[j])) := by
          show ∀ j (h : j < l.length), j < k + 1 → (xs.set k (.bool c))[j]? = some (.bool l[j])
          intro j h hj
          by_cases hjk : j = k
          · subst hjk; rw [List.getElem?_set_self (by omega), hcx]
          · rw [List.getElem?_set_ne (by omega)]; exact HX.out j h (by omega)
        clear hcx hown hxl hc H0 qn ha
        go_wp2
        go_roundw
        case rel => exact ⟨k + 1, _, by omega, by go_num, HST, HN, hbx.setCell (Nat.le_refl _) _⟩
        case measure => simp [intOf]; omega
      · have hkl : k = l.length := by omega
        subst hkl
        go_wp2
        go_ret
        refine ⟨⟨_, rfl, some ⟨w.heap.size, 0, none⟩, l.length, by simp, fun hp => ⟨w.heap.size, 0, rfl, ?_, fun j hj => ?_⟩⟩, hbx⟩
        · rcases hown.2 with ⟨h', _⟩ | ⟨g', cap', cur, h', _, hg, _⟩
          · simp at h'
          · simp at h'
            rw [h'.1]
            exact (Array.getElem?_eq_some_iff.1 hg).1
        · have hj' : j < l.length := by simpa using hj
          rw [Nat.zero_add, hown.cellAt j (by omega), HX.out j hj' hj']; simp

end Go.Proofs.Qxb6001698a.Path
