import Derived.Test.Qxb6001215aScanA
import Derived.Laws.IdiomStrings
/- formatUint: what it writes is a list of digits of the base, led by a digit other than 0 unless n is 0. -/
namespace Go.Proofs.Qxb6001215a.Scan
open Go.RowKit

def dig (d : Int) : Int := if d < 10 then 48 + d else 87 + d
theorem dig_isDig (b d : Int) (hb : b = 10 ∨ b = 16) (h0 : 0 ≤ d) (h1 : d < b) : isDig b (dig d) := by
  unfold isDig dig; split <;> omega
theorem dig_ne (d : Int) (h0 : 0 < d) : dig d ≠ 48 := by unfold dig; split <;> omega

theorem pow_pos_of (j x : Nat) (hj : j ≤ 64) (h : x < 2 ^ (64 - j)) (hx : 0 < x) : j < 64 := by
  rcases Nat.lt_or_ge j 64 with h1 | h1
  · exact h1
  · have : 64 - j = 0 := by omega
    rw [this] at h; simp at h; omega
theorem pow_step (j x b : Nat) (hb : b = 10 ∨ b = 16) (hj : j < 64) (h : x < 2 ^ (64 - j)) : x / b < 2 ^ (64 - (j + 1)) := by
  have e : 2 ^ (64 - j) = 2 ^ (64 - (j + 1)) * 2 := by
    rw [← Nat.pow_succ]; congr 1; omega
  rw [e] at h
  have : x / b ≤ x / 2 := Nat.div_le_div_left (by omega) (by omega)
  omega

/-- Of the array that formatUint fills from its end. -/
structure Tmp (B : Nat) (wr : World) (l : List Int) : Prop where
  le : l.length ≤ 64
  there : ∀ t, t < 64 → ∃ v, wr.cell? ⟨B, t, none⟩ = some v
  free : ∀ t, t < 64 → wr.frozen? ⟨B, t, none⟩ = false
  cells : ∀ t, t < l.length → wr.cell? ⟨B, 64 - l.length + t, none⟩ = some (.int .u8 (l.getD t 0))

theorem Tmp.push {B : Nat} {wr : World} {l : List Int} (h : Tmp B wr l) (hlt : l.length < 64) (c : Int) : Tmp B (wr.setCell ⟨B, 64 - l.length - 1, none⟩ (.int .u8 c)) (c :: l) where
  le := by simp; omega
  there := fun t ht => by obtain ⟨v, hv⟩ := h.there t ht; exact cell?_setCell_some hv
  free := fun t ht => by rw [World.frozen?_setCell]; exact h.free t ht
  cells := fun t ht => by
    cases t with
    | zero =>
      obtain ⟨v, hv⟩ := h.there (64 - l.length - 1) (by omega)
      have e : 64 - (c :: l).length + 0 = 64 - l.length - 1 := by simp only [List.length_cons]; omega
      rw [e, World.cell?_setCell_same _ _ _ hv]
      rfl
    | succ t =>
      have ht' : t < l.length := by simpa using ht
      have e : 64 - (c :: l).length + (t + 1) = 64 - l.length + t := by simp only [List.length_cons]; omega
      rw [e, World.cell?_setCell_other _ _ _ _ (by intro h; simp at h <;> omega), h.cells t ht']
      simp

theorem Tmp.start (w : World) (C : Array Value) (hC : C.size = 64) : Tmp w.heap.size (w.alloc (.cells C 48)) [] where
  le := by simp
  there := fun t ht => by
    rw [World.cell?_alloc_mark w C 48 (0, 0) t]
    exact ⟨C[t], by simp [hC, ht]⟩
  free := fun t ht => by rw [World.frozen?_alloc_mark w C 48 0 0 t]; simp
  cells := fun t ht => by simp at ht

theorem own_cells {w : World} {B g cap : Nat} {l : List Int} (h : w.ownsRow B 5 1 (.slice (some ⟨g, 0, none⟩) l.length cap) l.length (l.map (Value.int .u8))) :
    g < w.heap.size ∧ ∀ j, j < l.length → w.cell? ⟨g, j, none⟩ = some (.int .u8 (l.getD j 0)) := by
  refine ⟨?_, fun j hj => by rw [h.cellAt j (by omega)]; simp [hj]⟩
  rcases h.2 with ⟨h', _⟩ | ⟨g', cap', cur, h', _, hg, _⟩
  · simp at h'
  · simp at h'
    rw [h'.1]
    exact (Array.getElem?_eq_some_iff.1 hg).1

theorem wrap_div (x b : Nat) (hx : x < 2 ^ 64) : IntKind.u64.wrap ((x : Int) / (b : Int)) = ((x / b : Nat) : Int) := by
  have h1 : x / b ≤ x := Nat.div_le_self _ _
  have h2 : ((x / b : Nat) : Int) = (x : Int) / (b : Int) := by simp
  rw [← h2]
  generalize x / b = y at *
  have : (2 : Nat) ^ 64 = 18446744073709551616 := by decide
  rw [this] at hx
  simp [IntKind.wrap, IntKind.bits, IntKind.signed]
  omega

theorem lt_of_pow (x j : Nat) (h : x < 2 ^ (64 - j)) : x < 2 ^ 64 :=
  Nat.lt_of_lt_of_le h (Nat.pow_le_pow_right (by omega) (by omega))

set_option maxHeartbeats 4000000 in
set_option maxRecDepth 100000 in
theorem format_pos (n b : Nat) (hb : b = 10 ∨ b = 16) (hn : 0 < n) (hn64 : n < 2 ^ 64) (w : World) :
    Calls Try.prog 27 #[.int .u64 (n : Int), .int .i64 (b : Int)] w fun e w' => ∃ (l : List Int) (g cap : Nat), e = .returned (.slice (some ⟨g, 0, none⟩) l.length cap) ∧ g < w'.heap.size ∧ (∀ j, j < l.length → w'.cell? ⟨g, j, none⟩ = some (.int .u8 (l.getD j 0))) ∧
      l.length ≤ 64 ∧ (∀ c ∈ l, isDig b c) ∧ l.headD 48 ≠ 48 ∧ Below w.heap.size w w' := by
  obtain ⟨i0, hi0, hz0, hz1, hz2⟩ := info_parts info5
  have HN : Hid (n < 2 ^ 64) := hn64
  have HB : Hid (b = 10 ∨ b = 16) := hb
  have hb0 : (0 : Int) < (b : Int) := by omega
  have hb1 : (b : Int) ≤ 16 := by omega
  have hn0 : ((n : Int) == 0) = false := by simp; omega
  clear hn64 hb
  go_enter Try.func27, Try.ntmps27
  go_wp2
  go_loopw [0, 6] (fun sn si wr => ∃ (x : Nat) (l : List Int), sn = .int .u64 (x : Int) ∧ si = .int .i64 ((64 - l.length : Nat) : Int) ∧ Hid (x < 2 ^ (64 - l.length)) ∧ Tmp w.heap.size wr l ∧ Hid (∀ c ∈ l, isDig b c) ∧ Hid (x = 0 → l.headD 48 ≠ 48) ∧ Below w.heap.size w wr)
    (fun sn _ _ => (intOf sn).toNat)
  case atStart => exact ⟨n, [], rfl, rfl, HN, Tmp.start w _ rfl, fun c hc => by simp at hc, fun h => by omega, (Below.refl _ _).alloc (Nat.le_refl _) _⟩
  case round =>
    obtain ⟨x, l, rfl, rfl, Hx, hT, HD, HH, hnx⟩ := hrel
    have hle := hT.le
    by_cases hx : 0 < x
    · have hlt : l.length < 64 := pow_pos_of _ _ hT.le Hx.out hx
      obtain ⟨v, hv⟩ := hT.there (64 - l.length - 1) (by omega)
      have hf := hT.free (64 - l.length - 1) (by omega)
      have hxi : (0 : Int) < (x : Int) := by omega
      have hsub : ((64 - l.length : Nat) : Int) = 64 - (l.length : Int) := by omega
      have hm0 : 0 ≤ (x : Int) % (b : Int) := Int.emod_nonneg _ (by omega)
      have hm2 : (x : Int) % (b : Int) < (b : Int) := Int.emod_lt_of_pos _ hb0
      have hm1 : (x : Int) % (b : Int) < 16 := by omega
      have P1 : Hid (x / b < 2 ^ (64 - (dig ((x : Int) % (b : Int)) :: l).length)) := pow_step _ _ _ HB.out hlt Hx.out
      have P2 : Hid (Tmp w.heap.size (wr.setCell ⟨w.heap.size, 64 - l.length - 1, none⟩ (.int .u8 (dig ((x : Int) % (b : Int))))) (dig ((x : Int) % (b : Int)) :: l)) := hT.push hlt _
      have P3 : Hid (∀ c ∈ dig ((x : Int) % (b : Int)) :: l, isDig b c) := by
        show ∀ c ∈ dig ((x : Int) % (b : Int)) :: l, isDig b c
        intro c hc
        rcases List.mem_cons.1 hc with rfl | hc
        · exact dig_isDig b _ (by have := HB.out; omega) hm0 hm2
        · exact HD.out c hc
      have P4 : Hid (x / b = 0 → (dig ((x : Int) % (b : Int)) :: l).headD 48 ≠ 48) := by
        show x / b = 0 → (dig ((x : Int) % (b : Int)) :: l).headD 48 ≠ 48
        intro h0
        rw [List.headD_cons]
        apply dig_ne
        have hlt' : x < b := by
          rcases Nat.div_eq_zero_iff.1 h0 with h | h
          · omega
          · exact h
        rw [Int.emod_eq_of_lt (by omega) (by omega)]
        exact hxi
      have P5 : x / b < x := Nat.div_lt_self hx (by have := HB.out; omega)
      by_cases hd : (x : Int) % (b : Int) < 10
      · have E : Hid (dig ((x : Int) % (b : Int)) = 48 + (x : Int) % (b : Int)) := by show dig _ = _; unfold dig; rw [if_pos hd]
        go_wp2
        go_roundw
        case rel =>
          refine ⟨x / b, dig ((x : Int) % (b : Int)) :: l, by rw [wrap_div x b (lt_of_pow _ _ Hx.out)], by simp only [List.length_cons]; go_num, P1, ?_, P3, P4, ?_⟩
          · rw [← E.out]; exact P2
          · exact hnx.setCell (Nat.le_refl _) _
        case measure => rw [wrap_div x b (lt_of_pow _ _ Hx.out)]; simp only [intOf, Int.toNat_natCast]; exact P5
      · have E : Hid (dig ((x : Int) % (b : Int)) = 97 + (x : Int) % (b : Int) - 10) := by show dig _ = _; unfold dig; rw [if_neg hd]; omega
        go_wp2
        go_roundw
        case rel =>
          refine ⟨x / b, dig ((x : Int) % (b : Int)) :: l, by rw [wrap_div x b (lt_of_pow _ _ Hx.out)], by simp only [List.length_cons]; go_num, P1, ?_, P3, P4, ?_⟩
          · rw [← E.out]; exact P2
          · exact hnx.setCell (Nat.le_refl _) _
        case measure => rw [wrap_div x b (lt_of_pow _ _ Hx.out)]; simp only [intOf, Int.toNat_natCast]; exact P5
    · have hx0 : x = 0 := by omega
      subst hx0
      have hh := HH.out rfl
      have HH' : Hid (l.headD 48 ≠ 48) := hh
      have hlen : (0 : Int) ≤ (l.length : Int) := by omega
      clear hh HH Hx HN
      obtain ⟨W1, hW1⟩ : ∃ W1, W1 = wr := ⟨_, rfl⟩
      subst hW1
      have hBlt : w.heap.size < W1.heap.size := by
        obtain ⟨v, hv⟩ := hT.there 0 (by omega)
        exact World.block_lt_of_cell? _ _ hv
      go_wp2_with (at_make; refine wpList_make_own _ rfl _ _ 27 rfl W1.heap.size 5 i0 (.int .u8 0) 1 Try.underlying27 hi0 hz0 hz1 _ _ _ l.length rfl rfl (by omega) ?b2 ?b3 (Nat.le_refl _) ?_)
      case b2 => rw [hz2]; omega
      case b3 => unfold maxLen; omega
      intro w0 hown0 hgrow0
      have hb0' : Below W1.heap.size W1 w0 := (Below.refl _ _).grown hgrow0 (Nat.le_refl _) (fun k h => by cases h)
      have HCell : Hid (∀ t, t < l.length → W1.cell? ⟨w.heap.size, 64 - l.length + t, none⟩ = some (.int .u8 (l.getD t 0))) := hT.cells
      have HW : Hid (Below w.heap.size w W1) := hnx
      clear hgrow0 hT hnx hn0 hn
      go_wp2
      go_loopw [9, 10] (fun out j wx => ∃ k : Nat, k ≤ l.length ∧ j = .int .i64 ((64 - l.length + k : Nat) : Int) ∧ out = .slice (some ⟨W1.heap.size, 0, none⟩) k l.length ∧
          wx.ownsRow W1.heap.size 5 1 (.slice (some ⟨W1.heap.size, 0, none⟩) k l.length) k ((l.take k).map (Value.int .u8)) ∧ Below W1.heap.size W1 wx)
        (fun _ j _ => 64 - (intOf j).toNat)
      case atStart => exact ⟨0, by omega, by go_num, rfl, hown0, hb0'⟩
      case round =>
        obtain ⟨k, hk, rfl, rfl, hown, hbx⟩ := hrel
        have hsz := hbx.size
        by_cases hlt : k < l.length
        · obtain ⟨c, hcx⟩ : ∃ c, c = l[k] := ⟨_, rfl⟩
          have hcell : wr.cell? ⟨w.heap.size, 64 - l.length + k, none⟩ = some (.int .u8 c) := by
            rw [hbx.cell (p := ⟨w.heap.size, 64 - l.length + k, none⟩) hBlt, HCell.out k hlt, hcx]; simp [hlt]
          have HT : Hid (l.take (k + 1) = l.take k ++ [c]) := by
            show l.take (k + 1) = l.take k ++ [c]
            rw [List.take_succ_eq_append_getElem hlt, hcx]
          have hki : ((64 - l.length + k : Nat) : Int) < 64 := by omega
          have hkj : (0 : Int) ≤ ((64 - l.length + k : Nat) : Int) := by omega
          clear hcx
          generalize hq : 64 - l.length + k = q at *
          have HQ : Hid (64 - l.length + k = q) := hq
          clear hq hown0 hb0'
          go_wp2_with (at_builtin; refine wpList_append_fits _ rfl (.tmp 47) (.tmp 51) 27 rfl W1.heap.size 5 i0 1 Try.underlying27 hi0 hz1 W1.heap.size k l.length _ rfl (hown.alloc _) ⟨wr.heap.size, 0, none⟩ 1 1 [.int .u8 c] rfl rfl (cell_one_new _ _ _) (one_cell_u8 _) (by omega) ?_; intro w2 hown2 hgrow2)
          go_roundw
          case rel => exact ⟨k + 1, by omega, by have := HQ.out; go_num, rfl, by rw [HT.out, List.map_append]; exact hown2, (hbx.alloc hsz _).grown hgrow2 (by simp; omega) (fun k hk => by cases hk; exact Nat.le_refl _)⟩
          case measure => simp [intOf]; omega
        · have hkl : k = l.length := by omega
          subst hkl
          have hge : (64 : Int) ≤ ((64 - l.length + l.length : Nat) : Int) := by omega
          clear hown0 hb0'
          generalize hq : 64 - l.length + l.length = q at *
          go_wp2
          go_ret
          rw [List.take_length] at hown
          exact ⟨l, W1.heap.size, l.length, rfl, (own_cells hown).1, (own_cells hown).2, hle, HD.out, HH'.out, HW.out.trans (hbx.mono (by omega))⟩

theorem format_zero (b : Int) (w : World) :
    Calls Try.prog 27 #[.int .u64 0, .int .i64 b] w fun e w' => e = .returned (.slice (some ⟨w.heap.size, 0, none⟩) 1 1) ∧ w' = w.alloc (.cells #[.int .u8 48] 5) := by
  go_enter Try.func27, Try.ntmps27
  go_wp2
  go_ret
  exact ⟨rfl, rfl⟩

theorem format_calls (n b : Nat) (hb : b = 10 ∨ b = 16) (hn64 : n < 2 ^ 64) (w : World) :
    Calls Try.prog 27 #[.int .u64 (n : Int), .int .i64 (b : Int)] w fun e w' => ∃ (l : List Int) (g cap : Nat), e = .returned (.slice (some ⟨g, 0, none⟩) l.length cap) ∧ g < w'.heap.size ∧ (∀ j, j < l.length → w'.cell? ⟨g, j, none⟩ = some (.int .u8 (l.getD j 0))) ∧
      l.length ≤ 64 ∧ (∀ c ∈ l, isDig b c) ∧ (if n = 0 then l = [48] else l.headD 48 ≠ 48) ∧ Below w.heap.size w w' := by
  by_cases hn : n = 0
  · subst hn
    refine (format_zero b w).mono ?_
    rintro e w' ⟨rfl, rfl⟩
    refine ⟨[48], w.heap.size, 1, rfl, by simp, fun j hj => ?_, by simp, fun c hc => ?_, by simp, (Below.refl _ _).alloc (Nat.le_refl _) _⟩
    · have : j = 0 := by simpa using hj
      subst this; simp
    · have : c = 48 := by simpa using hc
      subst this; exact .inl ⟨by omega, by omega⟩
  · refine (format_pos n b hb (by omega) hn64 w).mono ?_
    rintro e w' ⟨l, g, cap, rfl, h1, h2, h3, h4, h5, h6⟩
    exact ⟨l, g, cap, rfl, h1, h2, h3, h4, by rw [if_neg hn]; exact h5, h6⟩
end Go.Proofs.Qxb6001215a.Scan
