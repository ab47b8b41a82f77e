import Derived.Test.Qxb6001215aRows
import Derived.WalkKit
import Derived.WalkSpells
import Derived.WalkLawsBesides
import Derived.Deep.QuietTactic
import Derived.BigQuiet
import Derived.Deep.Light
/- Contracts for scanNumber and its kin: no dot or one dot among digits of the base. -/
namespace Go.Proofs.Qxb6001215a.Scan
open Go.RowKit

theorem info5 : (Try.prog.info? 5).map (fun i => (i.zero, i.size, i.bytes)) = some (some (.int .u8 0), 1, 1) := by kernel_rfl

/-! ### plain -/
def isDig (b c : Int) : Prop := (48 ≤ c ∧ c ≤ 57) ∨ (b = 16 ∧ ((97 ≤ c ∧ c ≤ 102) ∨ (65 ≤ c ∧ c ≤ 70)))
def strip (l : List Int) : List Int := l.dropWhile (· == 48)
def noDot (l : List Int) : List Int := l.filter (· != 46)
def pt (l : List Int) : Int := if l.contains 46 then (l.idxOf 46 : Int) else -1

theorem strip_snoc_on (a : List Int) (c : Int) (h : 0 < (strip a).length) : strip (a ++ [c]) = strip a ++ [c] := by
  unfold strip at *
  induction a with
  | nil => simp at h
  | cons x a ih =>
    rw [List.cons_append, List.dropWhile_cons, List.dropWhile_cons]
    rw [List.dropWhile_cons] at h
    by_cases hx : (x == 48) = true
    · simp only [hx, if_true] at h ⊢; exact ih h
    · simp only [hx]; rfl
theorem strip_snoc_off (a : List Int) (c : Int) (h : (strip a).length = 0) : strip (a ++ [c]) = strip [c] := by
  unfold strip at *
  induction a with
  | nil => rfl
  | cons x a ih =>
    rw [List.cons_append, List.dropWhile_cons]
    rw [List.dropWhile_cons] at h
    by_cases hx : (x == 48) = true
    · simp only [hx, if_true] at h ⊢; exact ih h
    · simp [hx] at h
theorem noDot_snoc_dot (a : List Int) : noDot (a ++ [46]) = noDot a := by simp [noDot]
theorem noDot_snoc_dig (a : List Int) (c : Int) (h : (c == 46) = false) : noDot (a ++ [c]) = noDot a ++ [c] := by
  have h' : (c != 46) = true := by simp [bne, h]
  simp [noDot, h']
theorem noDot_len (a : List Int) : (noDot a).length ≤ a.length := List.length_filter_le _ _
theorem noDot_none (a : List Int) (h : a.contains 46 = false) : noDot a = a := by
  unfold noDot
  rw [List.filter_eq_self]
  intro x hx
  simp only [bne_iff_ne]
  rintro rfl
  simp at h
  exact h hx
theorem pt_snoc_dig (a : List Int) (c : Int) (h : (c == 46) = false) : pt (a ++ [c]) = pt a := by
  have hc : c ≠ 46 := by simpa using h
  unfold pt
  by_cases hm : (46 : Int) ∈ a
  · rw [if_pos (by simp [hm]), if_pos (by simp [hm]), List.idxOf_append, if_pos hm]
  · rw [if_neg (by simp [hm]; omega), if_neg (by simp [hm])]
theorem pt_snoc_dot (a : List Int) (h : a.contains 46 = false) : pt (a ++ [46]) = ((noDot a).length : Int) := by
  have hm : (46 : Int) ∉ a := by simpa using h
  unfold pt
  rw [if_pos (by simp), noDot_none a h, List.idxOf_append, if_neg hm]
  simp
theorem pt_none (a : List Int) (h : a.contains 46 = false) : pt a = -1 := by
  unfold pt; rw [h]; rfl
theorem pt_bound (a : List Int) : -1 ≤ pt a ∧ pt a ≤ a.length := by
  unfold pt
  split
  · have := List.idxOf_le_length (a := (46 : Int)) (l := a); omega
  · omega

/-! ### digitValue -/
theorem digit_calls (b c : Int) (hb : b = 10 ∨ b = 16) (hd : isDig b c) (w : World) :
    Calls Try.prog 40 #[.int .u8 c] w fun e w' => ∃ v : Int, e = .returned (.int .i64 v) ∧ v < b ∧ w = w' := by
  rcases hd with ⟨h1, h2⟩ | ⟨rfl, ⟨h1, h2⟩ | ⟨h1, h2⟩⟩
  · go_enter Try.func40, Try.ntmps40
    go_wp2
    go_ret
    exact ⟨_, rfl, by omega, rfl⟩
  · clear hb
    go_enter Try.func40, Try.ntmps40
    go_wp2
    go_ret
    exact ⟨_, rfl, by omega, rfl⟩
  · clear hb
    go_enter Try.func40, Try.ntmps40
    go_wp2
    go_ret
    exact ⟨_, rfl, by omega, rfl⟩

theorem marker_calls (b : Int) (w : World) :
    Calls Try.prog 29 #[.int .i64 b] w fun e w' => ∃ m : Int, e = .returned (.int .u8 m) ∧ w = w' := by
  go_enter Try.func29, Try.ntmps29
  go_wp2
  all_goals go_ret
  all_goals exact ⟨_, rfl, rfl⟩

/-! ### scanNumber -/
theorem one_cell_u8 (n : Int) : ∀ u ∈ [Value.int .u8 n], u.oneCell' = true := by
  intro u hu; simp at hu; subst hu; rfl

theorem owns_shape {w : World} {B : Nat} {v : Value} {l : List Int} (h : w.ownsRow B 5 1 v l.length (l.map (Value.int .u8))) : ∃ ad cap, v = .slice ad l.length cap := by
  rcases h.2 with ⟨rfl, hn⟩ | ⟨g, cap, cur, rfl, _⟩
  · exact ⟨none, 0, by rw [hn]⟩
  · exact ⟨_, cap, rfl⟩

theorem own_ge {w : World} {B : Nat} {e : TypeId} {sz : Nat} {v : Value} {n : Nat} {xs : List Value} (h : w.ownsRow B e sz v n xs) : ∀ k, v.ownBlock = some k → B ≤ k := by
  intro k hk
  rcases h.2 with ⟨rfl, _⟩ | ⟨g, cap, cur, rfl, hg, _⟩
  · simp [Value.ownBlock] at hk
  · simp [Value.ownBlock] at hk; omega

theorem one_dot (l : List Int) (k : Nat) (hk : k < l.length) (h1 : l.count 46 ≤ 1) (hc : l[k] = 46) : (l.take k).contains 46 = false := by
  have e : l = l.take k ++ (l[k] :: l.drop (k + 1)) := by simp
  have hcnt : l.count 46 = (l.take k).count 46 + (l[k] :: l.drop (k + 1)).count 46 := by
    rw [← List.count_append, ← e]
  rw [hc, List.count_cons_self] at hcnt
  have h0 : (l.take k).count 46 = 0 := by omega
  have := List.count_eq_zero.1 h0
  simpa using this

theorem ret_vib {v : Value} {n m : Int} (h : n = m) : Ending.returned (.tuple #[v, .int .i64 n, .bool true]) = .returned (.tuple #[v, .int .i64 m, .bool true]) := by rw [h]

def scale (b : Int) : Int := if b == 16 then 4 else 1
def expOf (b : Int) (l : List Int) : Int := if l.contains 46 then (pt l - (noDot l).length) * scale b else 0

set_option maxHeartbeats 4000000 in
set_option maxRecDepth 100000 in
theorem scan_calls (l : List Int) (b m : Int) (g cap : Nat) (hb : b = 10 ∨ b = 16) (hl : l.length ≤ 200000) (hd : ∀ c ∈ l, c = 46 ∨ isDig b c) (h1 : l.count 46 ≤ 1) (hne : noDot l ≠ []) (w : World)
    (hg : g < w.heap.size) (hc : ∀ j, j < l.length → w.cell? ⟨g, j, none⟩ = some (.int .u8 (l.getD j 0))) :
    Calls Try.prog 38 #[.slice (some ⟨g, 0, none⟩) l.length cap, .int .i64 b, .int .u8 m] w fun e w' => ∃ v, e = .returned (.tuple #[v, .int .i64 (expOf b l), .bool true]) ∧
      w'.ownsRow w.heap.size 5 1 v (strip (noDot l)).length ((strip (noDot l)).map (Value.int .u8)) ∧ Below w.heap.size w w' := by
  obtain ⟨i0, hi0, hz0, hz1, hz2⟩ := info_parts info5
  have HD : Hid (∀ c ∈ l, c = 46 ∨ isDig b c) := hd
  have H1 : Hid (l.count 46 ≤ 1) := h1
  have HN : Hid (noDot l ≠ []) := hne
  have HC : Hid (∀ j, j < l.length → w.cell? ⟨g, j, none⟩ = some (.int .u8 (l.getD j 0))) := hc
  have HB : Hid (b = 10 ∨ b = 16) := hb
  clear hd h1 hne hc hb
  go_enter Try.func38, Try.ntmps38
  go_wp2
  go_loopw [6, 9, 10, 11] (fun dg sn pn i wr => ∃ (k : Nat) (a : List Int), Hid (a = l.take k) ∧ k ≤ l.length ∧ i = .int .i64 k ∧ sn = .int .i64 (noDot a).length ∧ pn = .int .i64 (pt a) ∧
      wr.ownsRow w.heap.size 5 1 dg (strip (noDot a)).length ((strip (noDot a)).map (Value.int .u8)) ∧ Below w.heap.size w wr)
    (fun _ _ _ i _ => l.length - (intOf i).toNat)
  case atStart => exact ⟨0, [], rfl, Nat.zero_le _, rfl, rfl, rfl, World.ownsRow_nil _ _ _ _, Below.refl _ _⟩
  case round =>
    obtain ⟨k, a, Ha, hk, rfl, rfl, rfl, hown, hnx⟩ := hrel
    have hsz := hnx.size
    have hal : a.length ≤ k := by rw [Ha.out]; exact List.length_take_le _ _
    have hml := noDot_len a
    obtain ⟨pb1, pb2⟩ := pt_bound a
    have hsl : (strip (noDot a)).length ≤ (noDot a).length := (List.dropWhile_suffix _).length_le
    by_cases hlt : k < l.length
    · obtain ⟨c, hcx⟩ : ∃ c, c = l[k] := ⟨_, rfl⟩
      have hcell : wr.cell? ⟨g, k, none⟩ = some (.int .u8 c) := by
        rw [hnx.cell (p := ⟨g, k, none⟩) hg, HC.out k hlt, hcx]; simp [hlt]
      have Ha1 : Hid (l.take (k + 1) = a ++ [c]) := by
        show l.take (k + 1) = a ++ [c]
        rw [List.take_succ_eq_append_getElem hlt, Ha.out, hcx]
      have hdc := HD.out c (by rw [hcx]; exact List.getElem_mem _)
      rcases hdc with rfl | hdc
      · have hnd : a.contains 46 = false := by rw [Ha.out]; exact one_dot l k hlt H1.out hcx.symm
        have hp := pt_none a hnd
        have Hp : Hid (pt (a ++ [46]) = ((noDot a).length : Int)) := pt_snoc_dot a hnd
        clear hcx hnd
        obtain ⟨ad, cp, rfl⟩ := owns_shape hown
        go_wp2
        go_roundw
        case rel => exact ⟨k + 1, a ++ [46], Ha1.out.symm, by omega, by go_num, by rw [noDot_snoc_dot], by rw [Hp.out], by rw [noDot_snoc_dot]; exact hown, hnx⟩
        case measure => simp [intOf]; omega
      · have h46 : (c == 46) = false := by rcases hdc with h | h <;> simp <;> omega
        have e1 : noDot (a ++ [c]) = noDot a ++ [c] := noDot_snoc_dig a c h46
        have e2 : pt (a ++ [c]) = pt a := pt_snoc_dig a c h46
        have E1 : Hid (noDot (a ++ [c]) = noDot a ++ [c]) := e1
        have E2 : Hid (pt (a ++ [c]) = pt a) := e2
        have HDC : Hid (isDig b c) := hdc
        have HS0 : Hid ((strip (noDot a)).length = 0 → strip (noDot a ++ [c]) = strip [c]) := strip_snoc_off _ _
        have HS1 : Hid (0 < (strip (noDot a)).length → strip (noDot a ++ [c]) = strip (noDot a) ++ [c]) := strip_snoc_on _ _
        clear hcx e1 e2 hdc
        have hshape := owns_shape hown
        obtain ⟨ad, cp, rfl⟩ := hshape
        have hrow := own_ge hown
        by_cases hst : 0 < (strip (noDot a)).length
        · have HS : Hid (strip (noDot (a ++ [c])) = strip (noDot a) ++ [c]) := by show strip (noDot (a ++ [c])) = _; rw [E1.out]; exact HS1.out hst
          clear HS0 HS1
          go_wp2_with (first
            | (go_at_call 40; refine (digit_calls b c HB.out HDC.out _).mono ?_; rintro e w' ⟨v, rfl, hv, rfl⟩)
            | (at_builtin; refine wpList_append_own _ rfl (.tmp 42) (.tmp 44) 27 rfl w.heap.size 5 i0 (.int .u8 0) 1 1 Try.underlying27 hi0 hz0 hz1 hz2 rfl (by decide) _ _ _ rfl (hown.alloc _) ⟨wr.heap.size, 0, none⟩ 1 1 [.int .u8 c] rfl rfl (cell_one_new _ _ _) (one_cell_u8 _) (by unfold maxLen; omega) (by omega) (by simp; omega) ?_; intro v1 w1 hown1 hgrow1 _))
          go_roundw
          case rel => exact ⟨k + 1, a ++ [c], Ha1.out.symm, by omega, by go_num, by rw [E1.out, List.length_append]; go_num, by rw [E2.out], by rw [HS.out, List.length_append, List.map_append]; exact hown1, (hnx.alloc hsz _).grown hgrow1 (by simp; omega) hrow⟩
          case measure => simp [intOf]; omega
        · have hst0 : (strip (noDot a)).length = 0 := by omega
          by_cases hc48 : c = 48
          · have HS : Hid (strip (noDot (a ++ [c])) = strip (noDot a)) := by
              show strip (noDot (a ++ [c])) = _
              rw [E1.out, HS0.out hst0, hc48, List.eq_nil_of_length_eq_zero hst0]; rfl
            clear HS0 HS1
            have hcn : (c != 48) = false := by rw [hc48]; rfl
            have hgt : decide (0 < ((strip (noDot a)).length : Int)) = false := by simp; exact List.eq_nil_of_length_eq_zero hst0
            clear hc48 hst0
            go_wp2_with (first
              | (go_at_call 40; refine (digit_calls b c HB.out HDC.out _).mono ?_; rintro e w' ⟨v, rfl, hv, rfl⟩))
            go_roundw
            case rel => exact ⟨k + 1, a ++ [c], Ha1.out.symm, by omega, by go_num, by rw [E1.out, List.length_append]; go_num, by rw [E2.out], by rw [HS.out]; exact hown, hnx⟩
            case measure => simp [intOf]; omega
          · have HS : Hid (strip (noDot (a ++ [c])) = strip (noDot a) ++ [c]) := by
              show strip (noDot (a ++ [c])) = _
              rw [E1.out, HS0.out hst0, List.eq_nil_of_length_eq_zero hst0]
              have : (c == 48) = false := by simpa using hc48
              simp [strip, this]
            clear HS0 HS1
            have hcn : (c != 48) = true := by simpa using hc48
            have hgt : decide (0 < ((strip (noDot a)).length : Int)) = false := by simp; exact List.eq_nil_of_length_eq_zero hst0
            clear hc48 hst0
            go_wp2_with (first
              | (go_at_call 40; refine (digit_calls b c HB.out HDC.out _).mono ?_; rintro e w' ⟨v, rfl, hv, rfl⟩)
              | (at_builtin; refine wpList_append_own _ rfl (.tmp 42) (.tmp 44) 27 rfl w.heap.size 5 i0 (.int .u8 0) 1 1 Try.underlying27 hi0 hz0 hz1 hz2 rfl (by decide) _ _ _ rfl (hown.alloc _) ⟨wr.heap.size, 0, none⟩ 1 1 [.int .u8 c] rfl rfl (cell_one_new _ _ _) (one_cell_u8 _) (by unfold maxLen; omega) (by omega) (by simp; omega) ?_; intro v1 w1 hown1 hgrow1 _))
            go_roundw
            case rel => exact ⟨k + 1, a ++ [c], Ha1.out.symm, by omega, by go_num, by rw [E1.out, List.length_append]; go_num, by rw [E2.out], by rw [HS.out, List.length_append, List.map_append]; exact hown1, (hnx.alloc hsz _).grown hgrow1 (by simp; omega) hrow⟩
            case measure => simp [intOf]; omega
    · have hkl : k = l.length := by omega
      have Hal : Hid (a = l) := by show a = l; rw [Ha.out, hkl, List.take_length]
      have hs0 : (((noDot a).length : Int) == 0) = false := by
        rw [Hal.out]; simp; exact HN.out
      have hend : ((k : Int) == (l.length : Int)) = true := by rw [hkl]; simp
      clear hkl
      by_cases hcon : a.contains 46 = true
      · have hp : 0 ≤ pt a := by unfold pt; rw [if_pos hcon]; omega
        have HX : Hid (expOf b a = (pt a - ((noDot a).length : Int)) * scale b) := by show expOf b a = _; unfold expOf; rw [if_pos hcon]
        clear hcon
        rcases HB.out with rfl | rfl
        · go_wp2
          go_ret3
          exact ⟨_, ret_vib (by rw [← Hal.out, HX.out]; simp [scale]), by rw [← Hal.out]; exact hown, hnx⟩
        · go_wp2
          go_ret3
          exact ⟨_, ret_vib (by rw [← Hal.out, HX.out]; simp [scale]), by rw [← Hal.out]; exact hown, hnx⟩
      · have hp : pt a < 0 := by unfold pt; rw [if_neg hcon]; omega
        have HX : Hid (expOf b a = 0) := by show expOf b a = _; unfold expOf; rw [if_neg hcon]
        clear hcon
        go_wp2
        go_ret3
        exact ⟨_, ret_vib (by rw [← Hal.out, HX.out]), by rw [← Hal.out]; exact hown, hnx⟩

theorem zzscan_calls (l : List Int) (b m : Int) (g cap : Nat) (hb : b = 10 ∨ b = 16) (hl : l.length ≤ 200000) (hd : ∀ c ∈ l, c = 46 ∨ isDig b c) (h1 : l.count 46 ≤ 1) (hne : noDot l ≠ []) (w : World)
    (hg : g < w.heap.size) (hc : ∀ j, j < l.length → w.cell? ⟨g, j, none⟩ = some (.int .u8 (l.getD j 0))) :
    Calls Try.prog 28 #[.slice (some ⟨g, 0, none⟩) l.length cap, .int .i64 b, .int .u8 m] w fun e w' => ∃ v, e = .returned (.tuple #[v, .int .i64 (expOf b l), .bool true]) ∧
      w'.ownsRow w.heap.size 5 1 v (strip (noDot l)).length ((strip (noDot l)).map (Value.int .u8)) ∧ Below w.heap.size w w' := by
  have HC := scan_calls l b m g cap hb hl hd h1 hne w hg hc
  generalize expOf b l = x at *
  generalize strip (noDot l) = st at *
  generalize l.length = n at *
  have HX : Hid (Calls Try.prog 38 #[.slice (some ⟨g, 0, none⟩) n cap, .int .i64 b, .int .u8 m] w fun e w' => ∃ v, e = .returned (.tuple #[v, .int .i64 x, .bool true]) ∧
      w'.ownsRow w.heap.size 5 1 v st.length (st.map (Value.int .u8)) ∧ Below w.heap.size w w') := HC
  clear HC hb hl hd h1 hne hc
  go_enter Try.func28, Try.ntmps28
  go_wp2_with fail
  refine HX.out.mono ?_
  rintro e w' ⟨v, rfl, hown, hbel⟩
  go_wp2
  go_ret3
  exact ⟨v, rfl, hown, hbel⟩

/-! ### sameBytes -/
def Sees (w : World) (v : Value) (l : List Int) : Prop :=
  (v = .slice none 0 0 ∧ l = []) ∨ ∃ g cap, v = .slice (some ⟨g, 0, none⟩) l.length cap ∧ g < w.heap.size ∧ ∀ j, j < l.length → w.cell? ⟨g, j, none⟩ = some (.int .u8 (l.getD j 0))

theorem Sees.of_owns {w : World} {B : Nat} {v : Value} {l : List Int} (h : w.ownsRow B 5 1 v l.length (l.map (Value.int .u8))) : Sees w v l := by
  rcases h.2 with ⟨rfl, hn⟩ | ⟨g, cap, cur, rfl, _, hg, _⟩
  · exact .inl ⟨rfl, List.eq_nil_of_length_eq_zero hn⟩
  · refine .inr ⟨g, cap, rfl, ?_, fun j hj => ?_⟩
    · exact (Array.getElem?_eq_some_iff.1 hg).1
    · rw [h.cellAt j (by omega)]; simp [hj]

theorem Sees.later {w w' : World} {v : Value} {l : List Int} (h : Sees w v l) (hb : Below w.heap.size w w') : Sees w' v l := by
  rcases h with ⟨rfl, rfl⟩ | ⟨g, cap, rfl, hg, hc⟩
  · exact .inl ⟨rfl, rfl⟩
  · exact .inr ⟨g, cap, rfl, Nat.lt_of_lt_of_le hg hb.size, fun j hj => (hb.cell (p := ⟨g, j, none⟩) hg).trans (hc j hj)⟩

set_option maxHeartbeats 1000000 in
set_option maxRecDepth 100000 in
theorem same_calls (l : List Int) (v1 v2 : Value) (hl : l.length ≤ 200000) (w : World) (h1 : Sees w v1 l) (h2 : Sees w v2 l) :
    Calls Try.prog 30 #[v1, v2] w fun e w' => e = .returned (.bool true) ∧ ∃ n, w' = w.drewN n := by
  by_cases hpos : 0 < l.length
  · rcases h1 with ⟨_, rfl⟩ | ⟨g1, cap1, rfl, hg1, hc1⟩
    · simp at hpos
    rcases h2 with ⟨_, rfl⟩ | ⟨g2, cap2, rfl, hg2, hc2⟩
    · simp at hpos
    have C1 : Hid (∀ j, j < l.length → w.cell? ⟨g1, j, none⟩ = some (.int .u8 (l.getD j 0))) := hc1
    have C2 : Hid (∀ j, j < l.length → w.cell? ⟨g2, j, none⟩ = some (.int .u8 (l.getD j 0))) := hc2
    clear hc1 hc2 hg1 hg2
    generalize hn : l.length = n at *
    have HN : Hid (l.length = n) := hn
    clear hn
    go_enter Try.func30, Try.ntmps30
    go_wp2
    go_loopw [5] (fun i wr => ∃ k : Nat, k ≤ n ∧ i = .int .i64 k ∧ ∃ q, wr = w.drewN q) (fun i _ => n - (intOf i).toNat)
    case atStart => exact ⟨0, by omega, rfl, 0, rfl⟩
    case round =>
      obtain ⟨k, hk, rfl, q, rfl⟩ := hrel
      by_cases hlt : k < n
      · obtain ⟨c, hcx⟩ : ∃ c, c = l.getD k 0 := ⟨_, rfl⟩
        have c1 : w.cell? ⟨g1, k, none⟩ = some (.int .u8 c) := by rw [C1.out k hlt, hcx]
        have c2 : w.cell? ⟨g2, k, none⟩ = some (.int .u8 c) := by rw [C2.out k hlt, hcx]
        clear hcx
        have hki : (k : Int) < (n : Int) := by omega
        go_wp2
        go_quiet (fail)
        go_wp2
        go_roundw
        case rel => exact ⟨k + 1, by omega, by go_num, _, rfl⟩
        case measure => simp [intOf]; omega
      · go_wp2
        go_ret
        exact ⟨rfl, q, rfl⟩
  · have hl0 : l = [] := List.eq_nil_of_length_eq_zero (by omega)
    subst hl0
    have s1 : ∃ a c, v1 = .slice a 0 c := by
      rcases h1 with ⟨rfl, _⟩ | ⟨g, cap, rfl, _⟩
      · exact ⟨_, _, rfl⟩
      · exact ⟨_, _, rfl⟩
    have s2 : ∃ a c, v2 = .slice a 0 c := by
      rcases h2 with ⟨rfl, _⟩ | ⟨g, cap, rfl, _⟩
      · exact ⟨_, _, rfl⟩
      · exact ⟨_, _, rfl⟩
    obtain ⟨a1, c1, rfl⟩ := s1
    obtain ⟨a2, c2, rfl⟩ := s2
    clear h1 h2 hl hpos
    go_enter Try.func30, Try.ntmps30
    go_wp2
    refine wp_loop_rounds 1 ?_
    rw [rounds_succ]
    go_wp2
    go_ret
    exact ⟨rfl, 0, rfl⟩
end Go.Proofs.Qxb6001215a.Scan
