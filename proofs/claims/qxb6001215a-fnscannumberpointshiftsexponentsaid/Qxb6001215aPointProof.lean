/- The proof of Rows.FnScanNumberPointShiftsExponentSaid: the frame is the seat's shell; the walk is ours. -/
import Derived.Test.Qxb6001215aRows
import Derived.WalkKit
import Derived.ProofKit
import Derived.OpenShut
import Derived.ShutString
import Derived.Test.Qxb6001215aScanC
import Derived.Test.Qxb6001215aHead
import Derived.ChangeOld
import Derived.Below
namespace Go.Proofs.Qxb6001215a.fnScanNumberPointShiftsExponent
open Go.ChangeShapes Go.WideShapes Go.ChangeAt Go.RowKit
open Go.ChangeMaps (open_string shut_string)
set_option linter.unusedVariables false

theorem own : ownKnob Try.prog.godebug = none := by kernel_rfl
theorem laidOut : laidOutB Try.prog = true := by kernel_rfl

/-- WHAT THE WALK IS TOLD OF A SLICE OF INTEGERS THAT CAME IN: it is nil; or it leads to a row of 'cap' cells, the numbers 'zs' (the first 'len' are its elements, the rest its spare room), each fitting its kind. -/
def IsRow (k : IntKind) (w : World) (a : Option Addr) (len cap : Nat) (zs : List Int) : Prop :=
  (a = none ∧ len = 0 ∧ cap = 0 ∧ zs = []) ∨
  ∃ x, a = some x ∧ len ≤ cap ∧ cap ≤ maxLen ∧ zs.length = cap ∧ (∀ i, i < zs.length → w.cell? (x.add i) = some (.int k (zs.getD i 0))) ∧ ∀ n ∈ zs, (Lit.int k n).wf = true

/-! ### the walk -/
open Scan

theorem no46 (b : Int) (L : List Int) (hd : ∀ c ∈ L, isDig b c) : L.contains 46 = false := by
  cases h : L.contains 46 with
  | false => rfl
  | true =>
    have hm : (46 : Int) ∈ L := by simpa using h
    rcases hd 46 hm with h | h <;> omega

def dotted (l : List Int) (k : Nat) : List Int := l.take k ++ 46 :: l.drop k

theorem dotted_facts (l : List Int) (k : Nat) (b : Int) (hk : k ≤ l.length) (hd : ∀ c ∈ l, isDig b c) :
    (dotted l k).length = l.length + 1 ∧ (∀ c ∈ dotted l k, c = 46 ∨ isDig b c) ∧ (dotted l k).count 46 ≤ 1 ∧ noDot (dotted l k) = l ∧ expOf b (dotted l k) = ((k : Int) - l.length) * scale b := by
  have h46 := no46 b l hd
  have hnm : (46 : Int) ∉ l := by simpa using h46
  have ht : (46 : Int) ∉ l.take k := fun h => hnm (List.mem_of_mem_take h)
  have hr : (46 : Int) ∉ l.drop k := fun h => hnm (List.mem_of_mem_drop h)
  have hn : noDot (dotted l k) = l := by
    have h1 := noDot_none (l.take k) (by simpa using ht)
    have h2 := noDot_none (l.drop k) (by simpa using hr)
    unfold noDot at h1 h2 ⊢
    unfold dotted
    rw [List.filter_append, List.filter_cons, h1, h2]
    simp
  refine ⟨by simp [dotted]; omega, fun c hc => ?_, ?_, hn, ?_⟩
  · unfold dotted at hc
    rcases List.mem_append.1 hc with h | h
    · exact .inr (hd c (List.mem_of_mem_take h))
    · rcases List.mem_cons.1 h with h | h
      · exact .inl h
      · exact .inr (hd c (List.mem_of_mem_drop h))
  · unfold dotted
    rw [List.count_append, List.count_cons_self, List.count_eq_zero.2 ht, List.count_eq_zero.2 hr]
    omega
  · have hp : pt (dotted l k) = (k : Int) := by
      unfold pt
      have hc : (dotted l k).contains 46 = true := by simp [dotted]
      rw [if_pos hc]
      unfold dotted
      rw [List.idxOf_append, if_neg ht]
      simp
      omega
    unfold expOf
    have hc : (dotted l k).contains 46 = true := by simp [dotted]
    rw [if_pos hc, hp, hn]

theorem plain_facts (l : List Int) (b : Int) (hd : ∀ c ∈ l, isDig b c) : l.count 46 ≤ 1 ∧ noDot l = l ∧ expOf b l = 0 := by
  have h46 := no46 b l hd
  refine ⟨?_, noDot_none l h46, by unfold expOf; rw [h46]; rfl⟩
  have hnm : (46 : Int) ∉ l := by simpa using h46
  rw [List.count_eq_zero.2 hnm]
  omega

set_option maxHeartbeats 4000000 in
set_option maxRecDepth 100000 in
theorem core (l : List Int) (b bk off cap : Nat) (a1 : Int) (hb : b = 10 ∨ b = 16) (hl0 : 0 < l.length) (hl : l.length ≤ 65536) (w : World) (hbk : bk < w.heap.size) (hc : ∀ j, j < l.length → w.cell? ⟨bk, off + j, none⟩ = some (.int .u8 (l.getD j 0))) :
    Calls Try.prog 10 #[.slice (some ⟨bk, off, none⟩) l.length cap, .int .i64 a1, .int .i64 (b : Int)] w fun e w' => e = .returned (.bool true) ∧ Below w.heap.size w w' := by
  obtain ⟨i0, hi0, hz0, hz1, hz2⟩ := info_parts info5
  have HC : Hid (∀ j, j < l.length → w.cell? ⟨bk, off + j, none⟩ = some (.int .u8 (l.getD j 0))) := hc
  have hle : decide ((l.length : Int) ≤ 1048576) = true := decide_eq_true (by omega)
  have hgt : decide ((65536 : Int) < (l.length : Int)) = false := decide_eq_false (by omega)
  have hne : ((l.length : Int) == 0) = false := by rw [beq_eq_false_iff_ne]; omega
  clear hc
  rcases hb with rfl | rfl
  all_goals
    go_enter Try.func10, Try.ntmps10
    go_wp2_with fail
    refine (bytes_calls _ _ _ _ _ (by unfold maxLen; omega) _).mono ?_
    rintro e w' ⟨rfl, rfl⟩
    go_wp2
    go_loopw [7] (fun i wr => ∃ q : Nat, q ≤ l.length ∧ i = .int .i64 (q : Int) ∧ Hid (∀ j, j < q → digB _ (l.getD j 0) = true) ∧ w = wr) (fun i _ => l.length - (intOf i).toNat)
    case atStart => exact ⟨0, by omega, rfl, fun j hj => by omega, rfl⟩
    case round =>
      obtain ⟨q, hq, rfl, HQ, rfl⟩ := hrel
      by_cases hlt : q < l.length
      · obtain ⟨c, hcx⟩ : ∃ c, c = l.getD q 0 := ⟨_, rfl⟩
        have hcell : w.cell? ⟨bk, off + q, none⟩ = some (.int .u8 c) := by rw [HC.out q hlt, hcx]
        have HX : Hid (c = l.getD q 0) := hcx
        clear hcx
        go_wp2_with fail
        refine (isDigitOf_calls _ _ _).mono ?_
        rintro e w' ⟨rfl, rfl⟩
        cases hdb : digB _ c with
        | false =>
          go_wp2
          go_ret
          exact ⟨rfl, Below.refl _ _⟩
        | true =>
          have HDB : Hid (digB _ c = true) := hdb
          clear hdb
          go_wp2
          go_roundw
          case rel =>
            refine ⟨q + 1, by omega, by go_num, fun j hj => ?_, by first | exact rfl | trivial⟩
            by_cases hjq : j = q
            · subst hjq; rw [← HX.out]; exact HDB.out
            · exact HQ.out j (by omega)
          case measure => simp [intOf]; omega
      · have hql : q = l.length := by omega
        subst hql
        have hd : ∀ c ∈ l, isDig _ c := fun c hcm => by
          obtain ⟨j, hj, rfl⟩ := List.getElem_of_mem hcm
          have := HQ.out j hj
          rw [digB_iff] at this
          simpa [hj] using this
        have HD : Hid (∀ c ∈ l, isDig _ c) := hd
        clear HQ hd
        by_cases hk0 : a1 < 0
        · go_wp2
          go_ret
          exact ⟨rfl, Below.refl _ _⟩
        by_cases hkl : (l.length : Int) < a1
        · go_wp2
          go_ret
          exact ⟨rfl, Below.refl _ _⟩
        obtain ⟨k, rfl⟩ := Int.eq_ofNat_of_zero_le (show 0 ≤ a1 by omega)
        have hk : k ≤ l.length := by omega
        have hk0' : decide ((k : Int) < 0) = false := decide_eq_false (by omega)
        have hkl' : decide ((l.length : Int) < (k : Int)) = false := decide_eq_false (by omega)
        clear hk0 hkl
        go_wp2_with fail
        refine (clone_calls l bk off cap (by omega) w hbk HC.out).mono ?_
        rintro e w1 ⟨g, cp, rfl, hg, hc, hb1⟩
        have HC1 : Hid (∀ j, j < l.length → w1.cell? ⟨g, j, none⟩ = some (.int .u8 (l.getD j 0))) := hc
        have H1 : Hid (Below w.heap.size w w1) := hb1
        have HG : Hid (g < w1.heap.size) := hg
        have hne0 : l ≠ [] := by rintro rfl; simp at hl0
        have pf := plain_facts l _ HD.out
        have HS : Hid (∀ m, _) := fun m => zzscan_calls l _ m g cp (by first | exact .inl rfl | exact .inr rfl) (by omega) (fun c h => .inr (HD.out c h)) pf.1 (by rw [pf.2.1]; exact hne0) w1 hg hc
        have HP : Hid (noDot l = l ∧ expOf _ l = 0) := pf.2
        clear hc hb1 hg pf hne0 HC hbk
        go_wp2_with fail
        refine (marker_calls _ _).mono ?_
        rintro e w' ⟨m, rfl, rfl⟩
        go_wp2_with fail
        refine (HS.out m).mono ?_
        rintro e w2 ⟨v1, rfl, hown1, hb2⟩
        rw [HP.out.2]
        rw [HP.out.1] at hown1
        have hv1 := Sees.of_owns hown1
        have HV1 : Hid (Sees w2 v1 (strip l)) := hv1
        have H2 : Hid (Below w1.heap.size w1 w2) := hb2
        clear hown1 hv1 hb2 HS HP
        go_wp2_with (at_make; refine wpList_make_own _ rfl _ _ 27 rfl w2.heap.size 5 i0 (.int .u8 0) 1 Try.underlying27 hi0 hz0 hz1 _ _ _ (l.length + 1) rfl rfl (by omega) ?b2 ?b3 (Nat.le_refl _) ?_)
        case b2 => rw [hz2]; omega
        case b3 => unfold maxLen; omega
        intro w3 hown3 hgrow3
        have hb3 : Below w2.heap.size w2 w3 := (Below.refl _ _).grown hgrow3 (Nat.le_refl _) (fun k h => by cases h)
        clear hgrow3
        have HC2 : Hid (∀ j, j < l.length → w2.cell? ⟨g, j, none⟩ = some (.int .u8 (l.getD j 0))) := fun j hj => (H2.out.cell (p := ⟨g, j, none⟩) HG.out).trans (HC1.out j hj)
        have HG2 : Hid (g < w2.heap.size) := Nat.lt_of_lt_of_le HG.out H2.out.size
        go_wp2
        go_loopw [12, 13] (fun s i wr => ∃ q : Nat, q ≤ k ∧ i = .int .i64 (q : Int) ∧ s = .slice (some ⟨w2.heap.size, 0, none⟩) q (l.length + 1) ∧
            wr.ownsRow w2.heap.size 5 1 (.slice (some ⟨w2.heap.size, 0, none⟩) q (l.length + 1)) q ((l.take q).map (Value.int .u8)) ∧ Below w2.heap.size w2 wr)
          (fun _ i _ => k - (intOf i).toNat)
        case atStart => exact ⟨0, by omega, rfl, rfl, hown3, hb3⟩
        case round =>
          clear hown3 hb3
          obtain ⟨q, hq, rfl, rfl, hown, hbx⟩ := hrel
          have hsz := hbx.size
          by_cases hlt : q < k
          · have hqn : q < l.length := by omega
            obtain ⟨c, hcx⟩ : ∃ c, c = l.getD q 0 := ⟨_, rfl⟩
            have hcell : wr.cell? ⟨g, q, none⟩ = some (.int .u8 c) := by
              rw [hbx.cell (p := ⟨g, q, none⟩) HG2.out, HC2.out q hqn, hcx]
            have HT : Hid (l.take (q + 1) = l.take q ++ [c]) := by
              show l.take (q + 1) = l.take q ++ [c]
              rw [List.take_succ_eq_append_getElem hqn, hcx]; simp [hqn]
            clear hcx
            have hqi : (q : Int) < (l.length : Int) := by omega
            go_wp2_with (at_builtin; refine wpList_append_fits _ rfl (.tmp 78) (.tmp 83) 27 rfl w2.heap.size 5 i0 1 Try.underlying27 hi0 hz1 w2.heap.size q (l.length + 1) _ rfl (hown.alloc _) ⟨wr.heap.size, 0, none⟩ 1 1 [.int .u8 c] rfl rfl (cell_one_new _ _ _) (one_cell_u8 _) (by omega) ?_; intro w4 hown4 hgrow4)
            go_roundw
            case rel => exact ⟨q + 1, by omega, by go_num, rfl, by rw [HT.out, List.map_append]; exact hown4, (hbx.alloc hsz _).grown hgrow4 (by simp; omega) (fun k hk => by cases hk; exact Nat.le_refl _)⟩
            case measure => simp [intOf]; omega
          · have hqk : q = k := by omega
            subst hqk
            go_wp2_with (at_builtin; refine wpList_append_fits _ rfl (.tmp 85) (.tmp 86) 27 rfl w2.heap.size 5 i0 1 Try.underlying27 hi0 hz1 w2.heap.size q (l.length + 1) _ rfl (hown.alloc _) ⟨wr.heap.size, 0, none⟩ 1 1 [.int .u8 46] rfl rfl (cell_one_new _ _ _) (one_cell_u8 _) (by omega) ?_; intro w4 hown4 hgrow4)
            have hb4 := (hbx.alloc hsz (.cells #[Value.int .u8 46] 5)).grown hgrow4 (by simp; omega) (fun k hk => by cases hk; exact Nat.le_refl _)
            clear hown hbx hsz hgrow4
            go_loopw [12, 14] (fun s i wx => ∃ r : Nat, r ≤ l.length - q ∧ i = .int .i64 ((q + r : Nat) : Int) ∧ s = .slice (some ⟨w2.heap.size, 0, none⟩) (q + 1 + r) (l.length + 1) ∧
                wx.ownsRow w2.heap.size 5 1 (.slice (some ⟨w2.heap.size, 0, none⟩) (q + 1 + r) (l.length + 1)) (q + 1 + r) ((l.take q ++ 46 :: (l.drop q).take r).map (Value.int .u8)) ∧ Below w2.heap.size w2 wx)
              (fun _ i _ => l.length - (intOf i).toNat)
            case atStart => exact ⟨0, by omega, rfl, rfl, by simpa using hown4, hb4⟩
            case round =>
              clear hown4 hb4
              obtain ⟨r, hr, rfl, rfl, hown, hbx⟩ := hrel
              have hsz := hbx.size
              by_cases hlt2 : q + r < l.length
              · obtain ⟨c, hcx⟩ : ∃ c, c = l.getD (q + r) 0 := ⟨_, rfl⟩
                have hcell : wr.cell? ⟨g, q + r, none⟩ = some (.int .u8 c) := by
                  rw [hbx.cell (p := ⟨g, q + r, none⟩) HG2.out, HC2.out (q + r) hlt2, hcx]
                have HT : Hid (l.take q ++ 46 :: (l.drop q).take (r + 1) = (l.take q ++ 46 :: (l.drop q).take r) ++ [c]) := by
                  show l.take q ++ 46 :: (l.drop q).take (r + 1) = (l.take q ++ 46 :: (l.drop q).take r) ++ [c]
                  rw [List.take_succ_eq_append_getElem (by simp; omega), hcx]; simp [hlt2]
                clear hcx
                have hqi : ((q + r : Nat) : Int) < (l.length : Int) := by omega
                generalize hqr : q + r = t at *
                have HQR : Hid (q + r = t) := hqr
                clear hqr
                go_wp2_with (at_builtin; refine wpList_append_fits _ rfl (.tmp 95) (.tmp 100) 27 rfl w2.heap.size 5 i0 1 Try.underlying27 hi0 hz1 w2.heap.size (q + 1 + r) (l.length + 1) _ rfl (hown.alloc _) ⟨wr.heap.size, 0, none⟩ 1 1 [.int .u8 c] rfl rfl (cell_one_new _ _ _) (one_cell_u8 _) (by have := HQR.out; omega) ?_; intro w5 hown5 hgrow5)
                go_roundw
                case rel => exact ⟨r + 1, by have := HQR.out; omega, by have := HQR.out; go_num, rfl, by rw [HT.out, List.map_append]; exact hown5, (hbx.alloc hsz _).grown hgrow5 (by simp; omega) (fun k hk => by cases hk; exact Nat.le_refl _)⟩
                case measure => have := HQR.out; simp [intOf]; omega
              · have hrl : r = l.length - q := by omega
                obtain ⟨W, hW⟩ : ∃ W, W = wr := ⟨_, rfl⟩
                subst hW
                obtain ⟨f1, f2, f3, f4, f5⟩ := dotted_facts l q _ hk HD.out
                have htk : (l.drop q).take r = l.drop q := by rw [hrl]; apply List.take_of_length_le; simp
                have hN : q + 1 + r = (dotted l q).length := by rw [f1]; omega
                rw [htk] at hown
                change W.ownsRow _ _ _ _ _ ((dotted l q).map (Value.int .u8)) at hown
                rw [hN] at hown
                have hcs := own_cells hown
                have hs2 := fun m => zzscan_calls (dotted l q) _ m w2.heap.size (l.length + 1) (by first | exact .inl rfl | exact .inr rfl) (by omega) f2 f3 (by rw [f4]; rintro rfl; simp at hl0) W hcs.1 hcs.2
                rw [← hN, f4, f5] at hs2
                have HS2 : Hid (∀ m, _) := hs2
                have H3 : Hid (Below w2.heap.size w2 W) := hbx
                have hend : ¬ ((q + r : Nat) : Int) < (l.length : Int) := by omega
                clear hown hcs hbx hsz f1 f2 f3 f4 f5 htk hN hrl hs2
                go_wp2_with fail
                refine (HS2.out m).mono ?_
                rintro e w6 ⟨v2, rfl, hown6, hb6⟩
                have hv2 := Sees.of_owns hown6
                have hv1 := (HV1.out.later H3.out).later hb6
                have hsl : (strip l).length ≤ l.length := (List.dropWhile_suffix _).length_le
                have HM : Hid (Calls Try.prog 30 #[v1, v2] w6 fun e w' => e = .returned (.bool true) ∧ ∃ n, w' = w6.drewN n) := same_calls (strip l) v1 v2 (by omega) w6 hv1 hv2
                have H02 : Below w.heap.size w w2 := H1.out.trans (H2.out.mono H1.out.size)
                have H06 : Below w.heap.size w w6 := (H02.trans (H3.out.mono H02.size)).trans (hb6.mono (Nat.le_trans H02.size H3.out.size))
                have HBL : Hid (Below w.heap.size w w6) := H06
                clear hown6 hb6 hv1 hv2 hsl H02 H06 HS2
                simp only [scale]
                go_wp2_with fail
                refine HM.out.mono ?_
                rintro e w7 ⟨rfl, q7, rfl⟩
                go_wp2
                go_ret
                exact ⟨rfl, below_drewN HBL.out q7⟩

theorem walk (a0 : Option Addr) (len0 cap0 : Nat) (z0 : List Int) (a1 : Int) (a2 : Int) (w : World) (w0 : IsRow .u8 w a0 len0 cap0 z0) (w1 : (Lit.int .i64 a1).wf = true) (w2 : (Lit.int .i64 a2).wf = true) :
    Calls Try.prog 10 #[.slice a0 len0 cap0, .int .i64 a1, .int .i64 a2] w fun e w' => e = .returned (.bool true) ∧ Below w.heap.size w w' := by
  have hm : len0 ≤ maxLen := by
    rcases w0 with ⟨_, rfl, _⟩ | ⟨x, _, h1, h2, _⟩
    · exact Nat.zero_le _
    · omega
  have hm' : len0 ≤ 9223372036854775807 := by unfold maxLen at hm; exact hm
  by_cases h0 : len0 = 0
  · subst h0
    clear w0 w1 w2 hm'
    by_cases hb : a2 = 10 ∨ a2 = 16
    · rcases hb with rfl | rfl
      all_goals
        go_enter Try.func10, Try.ntmps10
        go_wp2_with fail
        refine (bytes_calls _ _ _ _ _ hm _).mono ?_
        rintro e w' ⟨rfl, rfl⟩
        go_wp2
        go_ret
        exact ⟨rfl, Below.refl _ _⟩
    · have h1 : (a2 != 10) = true := by simp; omega
      have h2 : (a2 != 16) = true := by simp; omega
      clear hb
      go_enter Try.func10, Try.ntmps10
      go_wp2_with fail
      refine (bytes_calls _ _ _ _ _ hm _).mono ?_
      rintro e w' ⟨rfl, rfl⟩
      go_wp2
      go_ret
      exact ⟨rfl, Below.refl _ _⟩
  by_cases hbig : (1048576 : Int) < (len0 : Int)
  · have hle : decide ((len0 : Int) ≤ 1048576) = false := decide_eq_false (by omega)
    clear w0 w1 w2 h0
    go_enter Try.func10, Try.ntmps10
    go_wp2_with fail
    refine (bytes_calls _ _ _ _ _ hm _).mono ?_
    rintro e w' ⟨rfl, rfl⟩
    go_wp2
    go_ret
    exact ⟨rfl, Below.refl _ _⟩
  have hle : decide ((len0 : Int) ≤ 1048576) = true := decide_eq_true (by omega)
  by_cases hmid : (65536 : Int) < (len0 : Int)
  · clear w0 w1 w2 h0
    go_enter Try.func10, Try.ntmps10
    go_wp2_with fail
    refine (bytes_calls _ _ _ _ _ hm _).mono ?_
    rintro e w' ⟨rfl, rfl⟩
    go_wp2
    go_ret
    exact ⟨rfl, Below.refl _ _⟩
  by_cases hb : a2 = 10 ∨ a2 = 16
  · rcases w0 with ⟨_, h, _⟩ | ⟨x, rfl, h1, h2, h3, h4, h5⟩
    · omega
    obtain ⟨bk, off, rfl, hc⟩ := ints_at h4 (by omega)
    obtain ⟨b, rfl⟩ := Int.eq_ofNat_of_zero_le (show 0 ≤ a2 by omega)
    have hbk : bk < w.heap.size := World.block_lt_of_cell? _ _ (hc 0 (by omega))
    have hl : (z0.take len0).length = len0 := by simp; omega
    have := core (z0.take len0) b bk off cap0 a1 (by omega) (by omega) (by omega) w hbk (fun j hj => by
      rw [hc j (by omega)]
      have hj' : j < len0 := by omega
      simp [List.getD, hj'])
    rw [hl] at this
    exact this
  · have h1 : (a2 != 10) = true := by simp; omega
    have h2 : (a2 != 16) = true := by simp; omega
    clear hb w0 w1 w2 h0
    go_enter Try.func10, Try.ntmps10
    go_wp2_with fail
    refine (bytes_calls _ _ _ _ _ hm _).mono ?_
    rintro e w' ⟨rfl, rfl⟩
    go_wp2
    go_ret
    exact ⟨rfl, Below.refl _ _⟩

/-! ### THE ROW's STEP: WRITTEN OUT: LEAVE IT -/
set_option maxRecDepth 100000 in
theorem lifted (os : Os) (started : os.Started) (H : Type) (enc : TypeId × Value → H) :
    ReturnsInHanded {} Try.checked os 10 .any (Rows.fnScanNumberPointShiftsExponentSpec.pre6 enc Try.prog Try.f10 Rows.fnScanNumberPointShiftsExponentRow.domain false) (Rows.fnScanNumberPointShiftsExponentSpec.post enc Try.prog Try.f10 false true false false) := by
  refine returnsInHanded_of_change (C := Try.checked) own started (by kernel_rfl) Try.func10
    (ChangeSpec.witness6 (enc := enc) (C := Try.checked) false ⟨#[], #[.slice none 0 0, .int .i64 0, .int .i64 0], []⟩ 8 (by kernel_rfl) (by kernel_rfl) (by kernel_rfl) (by kernel_rfl)) ?_
  intro W base args ds gs before hval0 hW hcnd _
  have hval : ∀ (j : Nat) t v, Try.f10.params[j]? = some t → args[j]? = some v → Value.okWide Try.prog W .any base t v := hval0
  have hW' := hW
  obtain ⟨p, q, hA0, hV, rfl, hfz, hnd⟩ := hW
  have hA : DataW.TrodAll enc Try.prog W 0 (fun _ => true) true Try.f10.params.toList args.toList ds p := hA0
  rw [Try.params10] at hA hval
  obtain ⟨v0, vs0, d0, ds0, p0, q0, hargs, rfl, rfl, h0, r0⟩ := trodAll_cons hA
  obtain ⟨v1, vs1, d1, ds1, p1, q1, rfl, rfl, rfl, h1, r1⟩ := trodAll_cons r0
  obtain ⟨v2, vs2, d2, ds2, p2, q2, rfl, rfl, rfl, h2, r2⟩ := trodAll_cons r1
  obtain ⟨rfl, rfl, rfl⟩ := trodAll_nil r2
  obtain rfl : args = #[v0, v1, v2] := by cases args; simp_all
  obtain ⟨rfl, rfl⟩ := trodVars_none hV
  obtain ⟨a0, len0, cap0, rfl⟩ := okWide_slice Try.underlying27 (hval 0 27 v0 rfl rfl)
  have k0 := h0
  have lt0 : ∀ x ∈ p0, x.block < W.heap.size := by obtain ⟨m, hm⟩ := k0; exact DataW.trod_lt m _ _ _ hm
  obtain ⟨z0, w0⟩ : ∃ zs, IsRow .u8 W a0 len0 cap0 zs := by
    obtain ⟨fuel, hf⟩ := h0
    rcases open_ints Try.underlying27 Try.underlying5 (by kernel_rfl) hf with ⟨hcs, _⟩ | ⟨x, l, c, zs, hcs, _, hl, hm, hz, _, hcell, hwz⟩
    · simp [Value.cells] at hcs
      obtain ⟨rfl, rfl, rfl⟩ := hcs
      exact ⟨[], .inl ⟨rfl, rfl, rfl, rfl⟩⟩
    · simp [Value.cells] at hcs
      obtain ⟨rfl, rfl, rfl⟩ := hcs
      exact ⟨zs, .inr ⟨_, rfl, hl, hm, by simpa using hz, hcell, hwz⟩⟩
  obtain ⟨a1, rfl, rfl, rfl, w1⟩ := open_int Try.underlying3 (hval 1 3 v1 rfl rfl) h1
  obtain ⟨a2, rfl, rfl, rfl, w2⟩ := open_int Try.underlying3 (hval 2 3 v2 rfl rfl) h2
  clear hA0 hval0
  refine (walk a0 len0 cap0 z0 a1 a2 W w0 w1 w2).mono fun e W' ⟨he, bel⟩ => ?_
  subst he
  exact ⟨_, rfl, _, _, _, [], _, [], hW', trodAll_mk1 (shut_bool Try.underlying4 _), (trodAll_cons_mk (Below.trod laidOut (by kernel_rfl) (of_decide_eq_true (by kernel_rfl)) k0 bel lt0) (trodAll_cons_mk (shut_int Try.underlying3 w1) (trodAll_cons_mk (shut_int Try.underlying3 w2) trodAll_mk0))), rfl, bel.frame _, fun h => by cases h⟩

theorem closed : joinedFacts Try.prog 10 Try.f10 Rows.fnScanNumberPointShiftsExponentSpec Rows.fnScanNumberPointShiftsExponentRow = true := by
  unfold joinedFacts
  rw [Head.may, Head.liftsNone, Head.made]
  kernel_rfl

theorem over : Rows.fnScanNumberPointShiftsExponentRow.holds Try.pinned (OpenSpec.ofChange Rows.fnScanNumberPointShiftsExponentSpec) :=
  OpenClaim.holds_of_wide 10 Try.f10 rfl rfl rfl rfl rfl rfl rfl ⟨rfl, rfl, rfl, rfl, rfl⟩ rfl rfl rfl rfl rfl (by kernel_rfl) Try.func10 closed
    (of_decide_eq_true (by kernel_rfl)) (by unfold Func.isWrapper; first | (rw [if_pos (by decide +kernel)]; kernel_rfl) | (rw [if_neg (by decide +kernel)]; exact ⟨rfl, rfl⟩))
    (fun os started H enc _ => lifted os started H enc)

/-- ████ THE STATEMENT ████ -/
theorem proved : Rows.FnScanNumberPointShiftsExponentSaid := over
end Go.Proofs.Qxb6001215a.fnScanNumberPointShiftsExponent
