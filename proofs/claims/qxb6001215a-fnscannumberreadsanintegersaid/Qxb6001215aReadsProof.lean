/- The proof of Rows.FnScanNumberReadsAnIntegerSaid: the frame is the seat's shell, turned to 'Below'; the walk is ours. -/
import Derived.Test.Qxb6001215aRows
import Derived.WalkKit
import Derived.ProofKit
import Derived.OpenShut
import Derived.ShutString
import Derived.Test.Qxb6001215aScanB
import Derived.Test.Qxb6001215aHead
namespace Go.Proofs.Qxb6001215a.fnScanNumberReadsAnInteger
open Go.ChangeShapes Go.WideShapes Go.ChangeAt Go.RowKit
open Go.ChangeMaps (open_string shut_string)
set_option linter.unusedVariables false      -- a walk need not use every 'w<i>' (that an integer argument fits its kind)

theorem own : ownKnob Try.prog.godebug = none := by kernel_rfl

/-! ### the walk -/
open Scan

theorem no46 (b : Int) (L : List Int) (hd : ∀ c ∈ L, isDig b c) : L.contains 46 = false := by
  cases h : L.contains 46 with
  | false => rfl
  | true =>
    have hm : (46 : Int) ∈ L := by simpa using h
    rcases hd 46 hm with h | h <;> omega

theorem strip_zeros (z : Nat) (l : List Int) : strip (List.replicate z 48 ++ l) = strip l := by
  unfold strip
  induction z with
  | zero => rfl
  | succ z ih => rw [List.replicate_succ, List.cons_append, List.dropWhile_cons]; simp [ih]

theorem strip_self (l : List Int) (h : l.headD 48 ≠ 48) : strip l = l := by
  cases l with
  | nil => rfl
  | cons c l => unfold strip; rw [List.dropWhile_cons]; have : (c == 48) = false := by simpa using h
                rw [this]; rfl

/-- What the scan of zeros and digits comes to. -/
theorem scan_plain (l : List Int) (z : Nat) (b m : Int) (g cap N : Nat) (hN : N = z + l.length) (hb : b = 10 ∨ b = 16) (hz : z ≤ 4096) (hl : l.length ≤ 64) (hd : ∀ c ∈ l, isDig b c) (hne : l ≠ []) (w : World)
    (hg : g < w.heap.size) (hc : ∀ j, j < N → w.cell? ⟨g, j, none⟩ = some (.int .u8 ((List.replicate z 48 ++ l).getD j 0))) :
    Calls Try.prog 28 #[.slice (some ⟨g, 0, none⟩) N cap, .int .i64 b, .int .u8 m] w fun e w' => ∃ v, e = .returned (.tuple #[v, .int .i64 0, .bool true]) ∧
      w'.ownsRow w.heap.size 5 1 v (strip l).length ((strip l).map (Value.int .u8)) ∧ Below w.heap.size w w' := by
  have hL : ∀ c ∈ List.replicate z 48 ++ l, isDig b c := by
    intro c hcm
    rcases List.mem_append.1 hcm with h | h
    · have := List.eq_of_mem_replicate h; subst this; exact .inl ⟨by omega, by omega⟩
    · exact hd c h
  have h46 := no46 b _ hL
  have hlen : N = (List.replicate z (48 : Int) ++ l).length := by simp [hN]
  have hcnt : (List.replicate z (48 : Int) ++ l).count 46 = 0 := by
    rw [List.count_eq_zero]; simpa using h46
  have hnd := noDot_none _ h46
  have hx : expOf b (List.replicate z 48 ++ l) = 0 := by unfold expOf; rw [h46]; rfl
  have hs := strip_zeros z l
  subst hlen
  have := zzscan_calls (List.replicate z 48 ++ l) b m g cap hb (by omega) (fun c h => .inr (hL c h)) (by omega) (by rw [hnd]; simp [hne]) w hg hc
  rw [hx, hnd, hs] at this
  exact this

set_option maxHeartbeats 4000000 in
set_option maxRecDepth 100000 in
theorem core (n z b : Nat) (hb : b = 10 ∨ b = 16) (hz : z ≤ 4096) (hn64 : n < 2 ^ 64) (w : World) :
    Calls Try.prog 9 #[.int .u64 (n : Int), .int .i64 (z : Int), .int .i64 (b : Int)] w fun e w' => e = .returned (.bool true) ∧ Below w.heap.size w w' := by
  obtain ⟨i0, hi0, hz0, hz1, hz2⟩ := info_parts info5
  have HF : Hid (∀ W, _) := fun W => format_calls n b hb hn64 W
  have hzt : decide ((z : Int) < 0) = false := decide_eq_false (by omega)
  have hzu : decide ((4096 : Int) < (z : Int)) = false := decide_eq_false (by omega)
  clear hn64
  rcases hb with rfl | rfl
  all_goals
    go_enter Try.func9, Try.ntmps9
    go_wp2_with fail
    refine (HF.out _).mono ?_
    rintro e w1 ⟨l, g, cap, rfl, hg, hc, hl64, hd, hif, hb1⟩
    have HC : Hid (∀ j, j < l.length → w1.cell? ⟨g, j, none⟩ = some (.int .u8 (l.getD j 0))) := hc
    have HD : Hid (∀ c ∈ l, isDig _ c) := hd
    have HI : Hid (if n = 0 then l = [48] else l.headD 48 ≠ 48) := hif
    have H1 : Hid (Below w.heap.size w w1) := hb1
    have HG : Hid (g < w1.heap.size) := hg
    clear hc hd hif hb1 hg
    go_wp2_with (at_make; refine wpList_make_own _ rfl _ _ 27 rfl w1.heap.size 5 i0 (.int .u8 0) 1 Try.underlying27 hi0 hz0 hz1 _ _ _ (z + l.length) rfl rfl (by omega) ?b2 ?b3 (Nat.le_refl _) ?_)
    case b2 => rw [hz2]; omega
    case b3 => unfold maxLen; omega
    intro w2 hown2 hgrow2
    have hb2 : Below w1.heap.size w1 w2 := (Below.refl _ _).grown hgrow2 (Nat.le_refl _) (fun k h => by cases h)
    clear hgrow2
    go_wp2
    go_loopw [8, 9] (fun s i wr => ∃ k : Nat, k ≤ z ∧ i = .int .i64 (k : Int) ∧ s = .slice (some ⟨w1.heap.size, 0, none⟩) k (z + l.length) ∧
        wr.ownsRow w1.heap.size 5 1 (.slice (some ⟨w1.heap.size, 0, none⟩) k (z + l.length)) k ((List.replicate k (48 : Int)).map (Value.int .u8)) ∧ Below w1.heap.size w1 wr)
      (fun _ i _ => z - (intOf i).toNat)
    case atStart => exact ⟨0, by omega, rfl, rfl, hown2, hb2⟩
    case round =>
      obtain ⟨k, hk, rfl, rfl, hown, hbx⟩ := hrel
      have hsz := hbx.size
      clear hown2 hb2
      by_cases hlt : k < z
      · have HT : Hid (List.replicate (k + 1) (48 : Int) = List.replicate k 48 ++ [48]) := List.replicate_succ'
        go_wp2_with (at_builtin; refine wpList_append_fits _ rfl (.tmp 39) (.tmp 40) 27 rfl w1.heap.size 5 i0 1 Try.underlying27 hi0 hz1 w1.heap.size k (z + l.length) _ rfl (hown.alloc _) ⟨wr.heap.size, 0, none⟩ 1 1 [.int .u8 48] rfl rfl (cell_one_new _ _ _) (one_cell_u8 _) (by omega) ?_; intro w3 hown3 hgrow3)
        go_roundw
        case rel => exact ⟨k + 1, by omega, by go_num, rfl, by rw [HT.out, List.map_append]; exact hown3, (hbx.alloc hsz _).grown hgrow3 (by simp; omega) (fun k hk => by cases hk; exact Nat.le_refl _)⟩
        case measure => simp [intOf]; omega
      · have hkz : k = z := by omega
        subst hkz
        go_wp2
        go_loopw [8, 10] (fun s i wx => ∃ q : Nat, q ≤ l.length ∧ i = .int .i64 (q : Int) ∧ s = .slice (some ⟨w1.heap.size, 0, none⟩) (k + q) (k + l.length) ∧
            wx.ownsRow w1.heap.size 5 1 (.slice (some ⟨w1.heap.size, 0, none⟩) (k + q) (k + l.length)) (k + q) ((List.replicate k (48 : Int) ++ l.take q).map (Value.int .u8)) ∧ Below w1.heap.size w1 wx)
          (fun _ i _ => l.length - (intOf i).toNat)
        case atStart => exact ⟨0, by omega, rfl, rfl, by simpa using hown, hbx⟩
        case round =>
          clear hown hbx hsz
          obtain ⟨q, hq, rfl, rfl, hown, hbx⟩ := hrel
          have hsz := hbx.size
          by_cases hlt2 : q < l.length
          · obtain ⟨c, hcx⟩ : ∃ c, c = l[q] := ⟨_, rfl⟩
            have hcell : wr.cell? ⟨g, q, none⟩ = some (.int .u8 c) := by
              rw [hbx.cell (p := ⟨g, q, none⟩) HG.out, HC.out q hlt2, hcx]; simp [hlt2]
            have HT : Hid (List.replicate k (48 : Int) ++ l.take (q + 1) = (List.replicate k (48 : Int) ++ l.take q) ++ [c]) := by
              show List.replicate k (48 : Int) ++ l.take (q + 1) = (List.replicate k (48 : Int) ++ l.take q) ++ [c]
              rw [List.take_succ_eq_append_getElem hlt2, hcx, List.append_assoc]
            clear hcx
            go_wp2_with (at_builtin; refine wpList_append_fits _ rfl (.tmp 48) (.tmp 53) 27 rfl w1.heap.size 5 i0 1 Try.underlying27 hi0 hz1 w1.heap.size (k + q) (k + l.length) _ rfl (hown.alloc _) ⟨wr.heap.size, 0, none⟩ 1 1 [.int .u8 c] rfl rfl (cell_one_new _ _ _) (one_cell_u8 _) (by omega) ?_; intro w3 hown3 hgrow3)
            go_roundw
            case rel => exact ⟨q + 1, by omega, by go_num, by rw [Nat.add_assoc], by rw [HT.out, List.map_append, ← Nat.add_assoc]; exact hown3, (hbx.alloc hsz _).grown hgrow3 (by simp; omega) (fun k hk => by cases hk; exact Nat.le_refl _)⟩
            case measure => simp [intOf]; omega
          · have hql : q = l.length := by omega
            subst hql
            obtain ⟨W, hW⟩ : ∃ W, W = wr := ⟨_, rfl⟩
            subst hW
            rw [List.take_length] at hown
            have hcs : w1.heap.size < W.heap.size ∧ ∀ j, j < k + l.length → W.cell? ⟨w1.heap.size, j, none⟩ = some (.int .u8 ((List.replicate k 48 ++ l).getD j 0)) := by
              have e : k + l.length = (List.replicate k (48 : Int) ++ l).length := by simp
              rw [e] at hown ⊢
              exact own_cells hown
            have HS : Hid (∀ m, _) := fun m => scan_plain l k _ m w1.heap.size (k + l.length) (k + l.length) rfl (by first | exact .inl rfl | exact .inr rfl) hz hl64 HD.out (by have := HI.out; rintro rfl; by_cases h0 : n = 0 <;> simp [h0] at this) W hcs.1 hcs.2
            have HW : Hid (Below w1.heap.size w1 W) := hbx
            clear hown hcs hbx hsz
            go_wp2_with fail
            refine (marker_calls _ _).mono ?_
            rintro e w' ⟨m, rfl, rfl⟩
            go_wp2_with fail
            refine (HS.out m).mono ?_
            rintro e w3 ⟨v, rfl, hown3, hb3⟩
            have hf : Sees w3 (.slice (some ⟨g, 0, none⟩) l.length cap) l := by
              have h1 : Sees w1 (.slice (some ⟨g, 0, none⟩) l.length cap) l := .inr ⟨g, cap, rfl, HG.out, HC.out⟩
              exact (h1.later HW.out).later hb3
            have hv := Sees.of_owns hown3
            have HBL : Hid (Below w.heap.size w w3) := H1.out.trans ((HW.out.mono H1.out.size).trans (hb3.mono (Nat.le_trans H1.out.size HW.out.size)))
            by_cases hn0 : n = 0
            · have hl : l = [48] := by have := HI.out; rwa [if_pos hn0] at this
              have hnt : ((n : Int) == 0) = true := by simp [hn0]
              have hst : strip l = [] := by rw [hl]; rfl
              rw [hst] at hown3
              obtain ⟨ad, cp, rfl⟩ := owns_shape hown3
              clear hn0 hl hst hown3 hf hv
              go_wp2
              go_ret
              exact ⟨rfl, HBL.out⟩
            · have hl : l.headD 48 ≠ 48 := by have := HI.out; rwa [if_neg hn0] at this
              have hnt : ((n : Int) == 0) = false := by simpa using hn0
              rw [strip_self l hl] at hv
              have HM := same_calls l _ _ (by omega) w3 hv hf
              have HMM : Hid (Calls Try.prog 30 #[v, .slice (some ⟨g, 0, none⟩) l.length cap] w3 fun e w' => e = .returned (.bool true) ∧ ∃ n, w' = w3.drewN n) := HM
              clear hn0 hl hown3 hf hv HM
              go_wp2_with fail
              refine HMM.out.mono ?_
              rintro e w4 ⟨rfl, q4, rfl⟩
              go_wp2
              go_ret
              exact ⟨rfl, below_drewN HBL.out q4⟩

set_option maxHeartbeats 1000000 in
set_option maxRecDepth 100000 in
theorem walk (a0 : Int) (a1 : Int) (a2 : Int) (w0 : (Lit.int .u64 a0).wf = true) (w1 : (Lit.int .i64 a1).wf = true) (w2 : (Lit.int .i64 a2).wf = true) (w : World) :
    Calls Try.prog 9 #[.int .u64 a0, .int .i64 a1, .int .i64 a2] w fun e w' => e = .returned (.bool true) ∧ Below w.heap.size w w' := by
  by_cases hz : a1 < 0
  · go_enter Try.func9, Try.ntmps9
    go_wp2
    go_ret
    exact ⟨rfl, Below.refl _ _⟩
  by_cases hz2 : 4096 < a1
  · go_enter Try.func9, Try.ntmps9
    go_wp2
    go_ret
    exact ⟨rfl, Below.refl _ _⟩
  by_cases hb : a2 = 10 ∨ a2 = 16
  · obtain ⟨l0, u0⟩ := bounds_u64 w0
    obtain ⟨n, rfl⟩ := Int.eq_ofNat_of_zero_le l0
    obtain ⟨z, rfl⟩ := Int.eq_ofNat_of_zero_le (show 0 ≤ a1 by omega)
    obtain ⟨b, rfl⟩ := Int.eq_ofNat_of_zero_le (show 0 ≤ a2 by omega)
    exact core n z b (by omega) (by omega) (by have : (2 : Nat) ^ 64 = 18446744073709551616 := by decide
                                               rw [this]; omega) w
  · have h1 : (a2 != 10) = true := by simp; omega
    have h2 : (a2 != 16) = true := by simp; omega
    clear hb w0 w1 w2
    go_enter Try.func9, Try.ntmps9
    go_wp2
    go_ret
    exact ⟨rfl, Below.refl _ _⟩

/-! ### THE ROW's STEP: WRITTEN OUT: LEAVE IT -/
set_option maxRecDepth 100000 in
theorem lifted (os : Os) (started : os.Started) (H : Type) (enc : TypeId × Value → H) :
    ReturnsInHanded {} Try.checked os 9 .any (Rows.fnScanNumberReadsAnIntegerSpec.pre6 enc Try.prog Try.f9 Rows.fnScanNumberReadsAnIntegerRow.domain false) (Rows.fnScanNumberReadsAnIntegerSpec.post enc Try.prog Try.f9 false true false false) := by
  refine returnsInHanded_of_change (C := Try.checked) own started (by kernel_rfl) Try.func9
    (ChangeSpec.witness6 (enc := enc) (C := Try.checked) false ⟨#[], #[.int .u64 0, .int .i64 0, .int .i64 0], []⟩ 8 (by kernel_rfl) (by kernel_rfl) (by kernel_rfl) (by kernel_rfl)) ?_
  intro W base args ds gs before hval0 hW hcnd _
  have hval : ∀ (j : Nat) t v, Try.f9.params[j]? = some t → args[j]? = some v → Value.okWide Try.prog W .any base t v := hval0
  have hW' := hW
  obtain ⟨p, q, hA0, hV, rfl, hfz, hnd⟩ := hW
  have hA : DataW.TrodAll enc Try.prog W 0 (fun _ => true) true Try.f9.params.toList args.toList ds p := hA0
  rw [Try.params9] at hA hval
  obtain ⟨v0, vs0, d0, ds0, p0, q0, hargs, rfl, rfl, h0, r0⟩ := trodAll_cons hA
  obtain ⟨v1, vs1, d1, ds1, p1, q1, rfl, rfl, rfl, h1, r1⟩ := trodAll_cons r0
  obtain ⟨v2, vs2, d2, ds2, p2, q2, rfl, rfl, rfl, h2, r2⟩ := trodAll_cons r1
  obtain ⟨rfl, rfl, rfl⟩ := trodAll_nil r2
  obtain rfl : args = #[v0, v1, v2] := by cases args; simp_all
  obtain ⟨rfl, rfl⟩ := trodVars_none hV
  obtain ⟨a0, rfl, rfl, rfl, w0⟩ := open_int Try.underlying36 (hval 0 36 v0 rfl rfl) h0
  obtain ⟨a1, rfl, rfl, rfl, w1⟩ := open_int Try.underlying3 (hval 1 3 v1 rfl rfl) h1
  obtain ⟨a2, rfl, rfl, rfl, w2⟩ := open_int Try.underlying3 (hval 2 3 v2 rfl rfl) h2
  clear hA0 hval0
  simp only [List.append_nil] at hW'
  refine (walk a0 a1 a2 w0 w1 w2 W).mono fun e W' ⟨he, bel⟩ => ?_
  subst he
  exact ⟨_, rfl, _, _, _, [], _, [], hW', trodAll_mk1 (shut_bool Try.underlying4 _), (trodAll_cons_mk (shut_int Try.underlying36 w0) (trodAll_cons_mk (shut_int Try.underlying3 w1) (trodAll_cons_mk (shut_int Try.underlying3 w2) trodAll_mk0))), rfl, bel.frame _, fun h => by cases h⟩

theorem closed : joinedFacts Try.prog 9 Try.f9 Rows.fnScanNumberReadsAnIntegerSpec Rows.fnScanNumberReadsAnIntegerRow = true := by
  unfold joinedFacts
  rw [Head.may, Head.liftsNone, Head.made]
  kernel_rfl

theorem over : Rows.fnScanNumberReadsAnIntegerRow.holds Try.pinned (OpenSpec.ofChange Rows.fnScanNumberReadsAnIntegerSpec) :=
  OpenClaim.holds_of_wide 9 Try.f9 rfl rfl rfl rfl rfl rfl rfl ⟨rfl, rfl, rfl, rfl, rfl⟩ rfl rfl rfl rfl rfl (by kernel_rfl) Try.func9 closed
    (of_decide_eq_true (by kernel_rfl)) (by unfold Func.isWrapper; first | (rw [if_pos (by decide +kernel)]; kernel_rfl) | (rw [if_neg (by decide +kernel)]; exact ⟨rfl, rfl⟩))
    (fun os started H enc _ => lifted os started H enc)

/-- ████ THE STATEMENT ████ -/
theorem proved : Rows.FnScanNumberReadsAnIntegerSaid :=
  over
end Go.Proofs.Qxb6001215a.fnScanNumberReadsAnInteger
