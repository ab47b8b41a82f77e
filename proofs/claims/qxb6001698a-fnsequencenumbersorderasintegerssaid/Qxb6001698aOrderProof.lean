/- The proof of Rows.FnSequenceNumbersOrderAsIntegersSaid: the frame is the seat's shell, turned to 'Below'; the walk is ours. -/
import Derived.Test.Qxb6001698aRows
import Derived.WalkKit
import Derived.ProofKit
import Derived.OpenShut
import Derived.ShutString
import Derived.Test.Qxb6001698aSeqB
import Derived.Test.Qxb6001698aHead
namespace Go.Proofs.Qxb6001698a.fnSequenceNumbersOrderAsIntegers
open Go.ChangeShapes Go.WideShapes Go.ChangeAt Go.RowKit
open Go.ChangeMaps (open_string shut_string)
set_option linter.unusedVariables false      -- a walk need not use every 'w<i>' (that an integer argument fits its kind)

theorem own : ownKnob Try.prog.godebug = none := by kernel_rfl

/-! ### the walk -/
open Go.Proofs.Qxb6001698a.Seq

def fit (n : Nat) : Bool := decide (n ≤ 1048576)

theorem bytes_calls (a b : ByteArray) (ha : a.size ≤ maxLen) (hb : b.size ≤ maxLen) (w : World) :
    Calls Try.prog 9 #[.string a, .string b] w fun e w' => e = .returned (.bool (fit (a.size + b.size))) ∧ w = w' := by
  unfold maxLen at ha hb
  by_cases h0 : (1048576 : Int) < (a.size : Int)
  · have E : Hid (fit (a.size + b.size) = false) := decide_eq_false (by omega)
    go_enter Try.func9, Try.ntmps9
    go_wp2
    go_ret
    exact ⟨ret_bool E.out.symm, rfl⟩
  by_cases h1 : (1048576 : Int) < (b.size : Int)
  · have E : Hid (fit (a.size + b.size) = false) := decide_eq_false (by omega)
    go_enter Try.func9, Try.ntmps9
    go_wp2
    go_ret
    exact ⟨ret_bool E.out.symm, rfl⟩
  by_cases h2 : (1048576 : Int) < (a.size : Int) + (b.size : Int)
  · have E : Hid (fit (a.size + b.size) = false) := decide_eq_false (by omega)
    go_enter Try.func9, Try.ntmps9
    go_wp2
    go_ret
    exact ⟨ret_bool E.out.symm, rfl⟩
  have E : Hid (fit (a.size + b.size) = true) := decide_eq_true (by omega)
  go_enter Try.func9, Try.ntmps9
  go_wp2
  go_ret
  exact ⟨ret_bool E.out.symm, rfl⟩

set_option maxHeartbeats 4000000 in
set_option maxRecDepth 100000 in
theorem walk (a0 : ByteArray) (a1 : ByteArray) (w0 : a0.size ≤ maxLen) (w1 : a1.size ≤ maxLen) (w : World) :
    Calls Try.prog 3 #[.string a0, .string a1] w fun e w' => e = .returned (.bool true) ∧ Below w.heap.size w w' := by
  have HB : Hid (∀ W, Calls Try.prog 9 #[.string a0, .string a1] W fun e w' => e = .returned (.bool (fit (a0.size + a1.size))) ∧ W = w') := fun W => bytes_calls a0 a1 w0 w1 W
  unfold maxLen at w0 w1
  go_enter Try.func3, Try.ntmps3
  go_wp2_with fail
  refine (HB.out _).mono ?_
  rintro e w' ⟨rfl, rfl⟩
  cases hr : fit (a0.size + a1.size) with
  | false =>
    go_wp2
    go_ret
    exact ⟨rfl, Below.refl _ _⟩
  | true =>
    have hsum : a0.size + a1.size ≤ 1048576 := of_decide_eq_true hr
    clear hr HB w0 w1
    by_cases g0 : (19 : Int) < (a0.size : Int)
    · go_wp2
      go_ret
      exact ⟨rfl, Below.refl _ _⟩
    by_cases g1 : (19 : Int) < (a1.size : Int)
    · go_wp2
      go_ret
      exact ⟨rfl, Below.refl _ _⟩
    have k0 : a0.size ≤ 19 := by omega
    have k1 : a1.size ≤ 19 := by omega
    have D0 : Hid (canon a0.data.toList = true → ∀ c ∈ a0.data.toList, dg c) := fun h => canon_dg h
    have D1 : Hid (canon a1.data.toList = true → ∀ c ∈ a1.data.toList, dg c) := fun h => canon_dg h
    have L : Hid (canon a0.data.toList = true → canon a1.data.toList = true → cmpSeq a0 a1 = cmpN (V a0.data.toList) (V a1.data.toList)) := cmpSeq_canon a0 a1
    go_wp2_with fail
    refine (canon_calls a0 k0 _).mono ?_
    rintro e w' ⟨rfl, rfl⟩
    cases h0 : canon a0.data.toList with
    | false =>
      go_wp2
      go_ret
      exact ⟨rfl, Below.refl _ _⟩
    | true =>
      go_wp2_with fail
      refine (canon_calls a1 k1 _).mono ?_
      rintro e w' ⟨rfl, rfl⟩
      cases h1 : canon a1.data.toList with
      | false =>
        go_wp2
        go_ret
        exact ⟨rfl, Below.refl _ _⟩
      | true =>
        have E : Hid (cmpSeq a0 a1 = cmpN (V a0.data.toList) (V a1.data.toList)) := L.out h0 h1
        have P0 : Hid (∀ W, _) := fun W => parse_calls a0 k0 (D0.out h0) W
        have P1 : Hid (∀ W, _) := fun W => parse_calls a1 k1 (D1.out h1) W
        clear h0 h1 D0 D1 L
        generalize V a0.data.toList = x at *
        generalize V a1.data.toList = y at *
        go_wp2_with fail
        refine (P0.out _).mono ?_
        rintro e w' ⟨rfl, rfl⟩
        go_wp2_with fail
        refine (P1.out _).mono ?_
        rintro e w' ⟨rfl, rfl⟩
        go_wp2_with fail
        refine (cmpN_calls x y _).mono ?_
        rintro e w' ⟨rfl, rfl⟩
        go_wp2_with fail
        refine (cmp_calls _ _ _).mono ?_
        rintro e w' ⟨rfl, rfl⟩
        rw [E.out]
        go_wp2
        go_ret
        exact ⟨ret_bool (by simp), Below.refl _ _⟩

/-! ### THE ROW's STEP: WRITTEN OUT: LEAVE IT -/
set_option maxRecDepth 100000 in
theorem lifted (os : Os) (started : os.Started) (H : Type) (enc : TypeId × Value → H) :
    ReturnsInHanded {} Try.checked os 3 .any (Rows.fnSequenceNumbersOrderAsIntegersSpec.pre6 enc Try.prog Try.f3 Rows.fnSequenceNumbersOrderAsIntegersRow.domain false) (Rows.fnSequenceNumbersOrderAsIntegersSpec.post enc Try.prog Try.f3 false true false false) := by
  refine returnsInHanded_of_change (C := Try.checked) own started (by kernel_rfl) Try.func3
    (ChangeSpec.witness6 (enc := enc) (C := Try.checked) false ⟨#[], #[.string ByteArray.empty, .string ByteArray.empty], []⟩ 8 (by kernel_rfl) (by kernel_rfl) (by kernel_rfl) (by kernel_rfl)) ?_
  intro W base args ds gs before hval0 hW hcnd _
  have hval : ∀ (j : Nat) t v, Try.f3.params[j]? = some t → args[j]? = some v → Value.okWide Try.prog W .any base t v := hval0
  have hW' := hW
  obtain ⟨p, q, hA0, hV, rfl, hfz, hnd⟩ := hW
  have hA : DataW.TrodAll enc Try.prog W 0 (fun _ => true) true Try.f3.params.toList args.toList ds p := hA0
  rw [Try.params3] at hA hval
  obtain ⟨v0, vs0, d0, ds0, p0, q0, hargs, rfl, rfl, h0, r0⟩ := trodAll_cons hA
  obtain ⟨v1, vs1, d1, ds1, p1, q1, rfl, rfl, rfl, h1, r1⟩ := trodAll_cons r0
  obtain ⟨rfl, rfl, rfl⟩ := trodAll_nil r1
  obtain rfl : args = #[v0, v1] := by cases args; simp_all
  obtain ⟨rfl, rfl⟩ := trodVars_none hV
  obtain ⟨a0, rfl, rfl, rfl, w0⟩ := open_string Try.underlying9 (hval 0 9 v0 rfl rfl) h0
  obtain ⟨a1, rfl, rfl, rfl, w1⟩ := open_string Try.underlying9 (hval 1 9 v1 rfl rfl) h1
  clear hA0 hval0
  simp only [List.append_nil] at hW'
  refine (walk a0 a1 w0 w1 W).mono fun e W' ⟨he, bel⟩ => ?_
  subst he
  exact ⟨_, rfl, _, _, _, [], _, [], hW', trodAll_mk1 (shut_bool Try.underlying4 _), (trodAll_cons_mk (shut_string Try.underlying9 w0) (trodAll_cons_mk (shut_string Try.underlying9 w1) trodAll_mk0)), rfl, bel.frame _, fun h => by cases h⟩

theorem closed : joinedFacts Try.prog 3 Try.f3 Rows.fnSequenceNumbersOrderAsIntegersSpec Rows.fnSequenceNumbersOrderAsIntegersRow = true := by
  unfold joinedFacts
  rw [Head.may, Head.liftsNone, Head.made]
  kernel_rfl

theorem over : Rows.fnSequenceNumbersOrderAsIntegersRow.holds Try.pinned (OpenSpec.ofChange Rows.fnSequenceNumbersOrderAsIntegersSpec) :=
  OpenClaim.holds_of_wide 3 Try.f3 rfl rfl rfl rfl rfl rfl rfl ⟨rfl, rfl, rfl, rfl, rfl⟩ rfl rfl rfl rfl rfl (by kernel_rfl) Try.func3 closed
    (of_decide_eq_true (by kernel_rfl)) (by unfold Func.isWrapper; first | (rw [if_pos (by decide +kernel)]; kernel_rfl) | (rw [if_neg (by decide +kernel)]; exact ⟨rfl, rfl⟩))
    (fun os started H enc _ => lifted os started H enc)

/-- ████ THE STATEMENT ████ -/
theorem proved : Rows.FnSequenceNumbersOrderAsIntegersSaid :=
  over
end Go.Proofs.Qxb6001698a.fnSequenceNumbersOrderAsIntegers
