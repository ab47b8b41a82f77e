/- The proof of Rows.FnSequenceNumbersTotalOrderSaid: the frame is the seat's shell, turned to 'Below'; the walk is ours. -/
import Derived.Test.Qxb6001698aRows
import Derived.WalkKit
import Derived.ProofKit
import Derived.OpenShut
import Derived.ShutString
import Derived.Test.Qxb6001698aSeqA
import Derived.Test.Qxb6001698aHead
namespace Go.Proofs.Qxb6001698a.fnSequenceNumbersTotalOrder
open Go.ChangeShapes Go.WideShapes Go.ChangeAt Go.RowKit
open Go.ChangeMaps (open_string shut_string)
set_option linter.unusedVariables false      -- a walk need not use every 'w<i>' (that an integer argument fits its kind)

theorem own : ownKnob Try.prog.godebug = none := by kernel_rfl

/-! ### the walk -/
open Go.Proofs.Qxb6001698a.Seq

theorem ret_bool {a b : Bool} (h : a = b) : Ending.returned (.bool a) = .returned (.bool b) := by rw [h]

def fit (n : Nat) : Bool := decide (n ≤ 1048576)

theorem bytes_calls (a b c : ByteArray) (ha : a.size ≤ maxLen) (hb : b.size ≤ maxLen) (hc : c.size ≤ maxLen) (w : World) :
    Calls Try.prog 14 #[.string a, .string b, .string c] w fun e w' => e = .returned (.bool (fit (a.size + b.size + c.size))) ∧ w = w' := by
  unfold maxLen at ha hb hc
  by_cases h0 : (1048576 : Int) < (a.size : Int)
  · have E : Hid (fit (a.size + b.size + c.size) = false) := decide_eq_false (by omega)
    go_enter Try.func14, Try.ntmps14
    go_wp2
    go_ret
    exact ⟨ret_bool E.out.symm, rfl⟩
  by_cases h1 : (1048576 : Int) < (b.size : Int)
  · have E : Hid (fit (a.size + b.size + c.size) = false) := decide_eq_false (by omega)
    go_enter Try.func14, Try.ntmps14
    go_wp2
    go_ret
    exact ⟨ret_bool E.out.symm, rfl⟩
  by_cases h2 : (1048576 : Int) < (a.size : Int) + (b.size : Int)
  · have E : Hid (fit (a.size + b.size + c.size) = false) := decide_eq_false (by omega)
    go_enter Try.func14, Try.ntmps14
    go_wp2
    go_ret
    exact ⟨ret_bool E.out.symm, rfl⟩
  by_cases h3 : (1048576 : Int) < (c.size : Int)
  · have E : Hid (fit (a.size + b.size + c.size) = false) := decide_eq_false (by omega)
    go_enter Try.func14, Try.ntmps14
    go_wp2
    go_ret
    exact ⟨ret_bool E.out.symm, rfl⟩
  by_cases h4 : (1048576 : Int) < (a.size : Int) + (b.size : Int) + (c.size : Int)
  · have E : Hid (fit (a.size + b.size + c.size) = false) := decide_eq_false (by omega)
    go_enter Try.func14, Try.ntmps14
    go_wp2
    go_ret
    exact ⟨ret_bool E.out.symm, rfl⟩
  have E : Hid (fit (a.size + b.size + c.size) = true) := decide_eq_true (by omega)
  go_enter Try.func14, Try.ntmps14
  go_wp2
  go_ret
  exact ⟨ret_bool E.out.symm, rfl⟩

set_option maxHeartbeats 4000000 in
set_option maxRecDepth 100000 in
theorem walk (a0 a1 a2 : ByteArray) (w0 : a0.size ≤ maxLen) (w1 : a1.size ≤ maxLen) (w2 : a2.size ≤ maxLen) (w : World) :
    Calls Try.prog 4 #[.string a0, .string a1, .string a2] w fun e w' => e = .returned (.bool true) ∧ Below w.heap.size w w' := by
  have HB : Hid (∀ W, Calls Try.prog 14 #[.string a0, .string a1, .string a2] W fun e w' => e = .returned (.bool (fit (a0.size + a1.size + a2.size))) ∧ W = w') := fun W => bytes_calls a0 a1 a2 w0 w1 w2 W
  unfold maxLen at w0 w1 w2
  go_enter Try.func4, Try.ntmps4
  go_wp2_with fail
  refine (HB.out _).mono ?_
  rintro e w' ⟨rfl, rfl⟩
  cases hr : fit (a0.size + a1.size + a2.size) with
  | false =>
    go_wp2
    go_ret
    exact ⟨rfl, Below.refl _ _⟩
  | true =>
    have hsum : a0.size + a1.size + a2.size ≤ 1048576 := of_decide_eq_true hr
    clear hr HB w0 w1 w2
    by_cases g0 : (262144 : Int) < (a0.size : Int)
    · go_wp2
      go_ret
      exact ⟨rfl, Below.refl _ _⟩
    by_cases g1 : (262144 : Int) < (a1.size : Int)
    · go_wp2
      go_ret
      exact ⟨rfl, Below.refl _ _⟩
    by_cases g2 : (262144 : Int) < (a2.size : Int)
    · go_wp2
      go_ret
      exact ⟨rfl, Below.refl _ _⟩
    have rx := cmp_range a0 a1
    have hs := cmp_zero a0 a1
    have hy := cmp_anti a1 a0
    have L1 : Hid (cmpSeq a0 a1 ≤ 0 → cmpSeq a1 a2 ≤ 0 → cmpSeq a0 a2 ≤ 0) := cmp_le a0 a1 a2
    have L2 : Hid (cmpSeq a0 a1 < 0 → cmpSeq a1 a2 ≤ 0 → cmpSeq a0 a2 < 0) := cmp_lt a0 a1 a2
    go_wp2_with fail
    refine (cmp_calls _ _ _).mono ?_
    rintro e w' ⟨rfl, rfl⟩
    go_wp2_with fail
    refine (cmp_calls _ _ _).mono ?_
    rintro e w' ⟨rfl, rfl⟩
    go_wp2_with fail
    refine (cmp_calls _ _ _).mono ?_
    rintro e w' ⟨rfl, rfl⟩
    go_wp2_with fail
    refine (cmp_calls _ _ _).mono ?_
    rintro e w' ⟨rfl, rfl⟩
    generalize cmpSeq a0 a1 = x at *
    generalize cmpSeq a1 a0 = y at *
    generalize cmpSeq a1 a2 = z at *
    generalize cmpSeq a0 a2 = u at *
    subst hy
    rcases (show x = -1 ∨ x = 0 ∨ x = 1 by omega) with rfl | rfl | rfl
    · by_cases hz : z ≤ 0
      · have hu := L2.out (by omega) hz
        go_wp2
        go_ret
        exact ⟨rfl, Below.refl _ _⟩
      · go_wp2
        go_ret
        exact ⟨rfl, Below.refl _ _⟩
    · by_cases hz : z ≤ 0
      · have hu := L1.out (by omega) hz
        go_wp2
        go_ret
        exact ⟨rfl, Below.refl _ _⟩
      · go_wp2
        go_ret
        exact ⟨rfl, Below.refl _ _⟩
    · go_wp2
      go_ret
      exact ⟨rfl, Below.refl _ _⟩

/-! ### THE ROW's STEP: WRITTEN OUT: LEAVE IT -/
set_option maxRecDepth 100000 in
theorem lifted (os : Os) (started : os.Started) (H : Type) (enc : TypeId × Value → H) :
    ReturnsInHanded {} Try.checked os 4 .any (Rows.fnSequenceNumbersTotalOrderSpec.pre6 enc Try.prog Try.f4 Rows.fnSequenceNumbersTotalOrderRow.domain false) (Rows.fnSequenceNumbersTotalOrderSpec.post enc Try.prog Try.f4 false true false false) := by
  refine returnsInHanded_of_change (C := Try.checked) own started (by kernel_rfl) Try.func4
    (ChangeSpec.witness6 (enc := enc) (C := Try.checked) false ⟨#[], #[.string ByteArray.empty, .string ByteArray.empty, .string ByteArray.empty], []⟩ 8 (by kernel_rfl) (by kernel_rfl) (by kernel_rfl) (by kernel_rfl)) ?_
  intro W base args ds gs before hval0 hW hcnd _
  have hval : ∀ (j : Nat) t v, Try.f4.params[j]? = some t → args[j]? = some v → Value.okWide Try.prog W .any base t v := hval0
  have hW' := hW
  obtain ⟨p, q, hA0, hV, rfl, hfz, hnd⟩ := hW
  have hA : DataW.TrodAll enc Try.prog W 0 (fun _ => true) true Try.f4.params.toList args.toList ds p := hA0
  rw [Try.params4] at hA hval
  obtain ⟨v0, vs0, d0, ds0, p0, q0, hargs, rfl, rfl, h0, r0⟩ := trodAll_cons hA
  obtain ⟨v1, vs1, d1, ds1, p1, q1, rfl, rfl, rfl, h1, r1⟩ := trodAll_cons r0
  obtain ⟨v2, vs2, d2, ds2, p2, q2, rfl, rfl, rfl, h2, r2⟩ := trodAll_cons r1
  obtain ⟨rfl, rfl, rfl⟩ := trodAll_nil r2
  obtain rfl : args = #[v0, v1, v2] := by cases args; simp_all
  obtain ⟨rfl, rfl⟩ := trodVars_none hV
  obtain ⟨a0, rfl, rfl, rfl, w0⟩ := open_string Try.underlying9 (hval 0 9 v0 rfl rfl) h0
  obtain ⟨a1, rfl, rfl, rfl, w1⟩ := open_string Try.underlying9 (hval 1 9 v1 rfl rfl) h1
  obtain ⟨a2, rfl, rfl, rfl, w2⟩ := open_string Try.underlying9 (hval 2 9 v2 rfl rfl) h2
  clear hA0 hval0
  simp only [List.append_nil] at hW'
  refine (walk a0 a1 a2 w0 w1 w2 W).mono fun e W' ⟨he, bel⟩ => ?_
  subst he
  exact ⟨_, rfl, _, _, _, [], _, [], hW', trodAll_mk1 (shut_bool Try.underlying4 _), (trodAll_cons_mk (shut_string Try.underlying9 w0) (trodAll_cons_mk (shut_string Try.underlying9 w1) (trodAll_cons_mk (shut_string Try.underlying9 w2) trodAll_mk0))), rfl, bel.frame _, fun h => by cases h⟩

theorem closed : joinedFacts Try.prog 4 Try.f4 Rows.fnSequenceNumbersTotalOrderSpec Rows.fnSequenceNumbersTotalOrderRow = true := by
  unfold joinedFacts
  rw [Head.may, Head.liftsNone, Head.made]
  kernel_rfl

theorem over : Rows.fnSequenceNumbersTotalOrderRow.holds Try.pinned (OpenSpec.ofChange Rows.fnSequenceNumbersTotalOrderSpec) :=
  OpenClaim.holds_of_wide 4 Try.f4 rfl rfl rfl rfl rfl rfl rfl ⟨rfl, rfl, rfl, rfl, rfl⟩ rfl rfl rfl rfl rfl (by kernel_rfl) Try.func4 closed
    (of_decide_eq_true (by kernel_rfl)) (by unfold Func.isWrapper; first | (rw [if_pos (by decide +kernel)]; kernel_rfl) | (rw [if_neg (by decide +kernel)]; exact ⟨rfl, rfl⟩))
    (fun os started H enc _ => lifted os started H enc)

/-- ████ THE STATEMENT ████ -/
theorem proved : Rows.FnSequenceNumbersTotalOrderSaid :=
  over
end Go.Proofs.Qxb6001698a.fnSequenceNumbersTotalOrder
