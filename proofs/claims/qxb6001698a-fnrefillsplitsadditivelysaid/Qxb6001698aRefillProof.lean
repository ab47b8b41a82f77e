/- The proof of Rows.FnRefillSplitsAdditivelySaid: the frame is the seat's shell, turned to 'Below'; the walk is ours. -/
import Derived.Test.Qxb6001698aRows
import Derived.WalkKit
import Derived.ProofKit
import Derived.OpenShut
import Derived.ShutString
import Derived.Test.Qxb6001698aHead
namespace Go.Proofs.Qxb6001698a.fnRefillSplitsAdditively
open Go.ChangeShapes Go.WideShapes Go.ChangeAt Go.RowKit
open Go.ChangeMaps (open_string shut_string)
set_option linter.unusedVariables false      -- a walk need not use every 'w<i>' (that an integer argument fits its kind)

theorem own : ownKnob Try.prog.godebug = none := by kernel_rfl

/-! ### the walk -/
/-- What is left of u behind e at the rate p. -/
def left (u e p : Int) : Int := if e * p < u then u - e * p else 0

theorem test_iff (u e p : Int) (hp : 1 ≤ p) : (u + p - 1) / p ≤ e ↔ ¬ e * p < u := by
  have h := Int.le_ediv_iff_mul_le (a := e + 1) (b := u + p - 1) (c := p) (by omega)
  rw [Int.add_mul, Int.one_mul] at h
  omega

theorem ret_i64 {a b : Int} (h : a = b) : Ending.returned (.int .i64 a) = .returned (.int .i64 b) := by rw [h]

theorem madeUp_calls (u e p : Int) (hu0 : 0 ≤ u) (hu1 : u ≤ 1125899906842624) (he0 : 0 ≤ e) (he1 : e ≤ 2199023255552) (hp0 : 1 ≤ p) (hp1 : p ≤ 1073741824) (w : World) :
    Calls Try.prog 31 #[.int .i64 u, .int .i64 e, .int .i64 p] w fun x w' => x = .returned (.int .i64 (left u e p)) ∧ w = w' := by
  have hm0 : 0 ≤ e * p := Int.mul_nonneg he0 (by omega)
  by_cases hlt : e * p < u
  · have ht : e < (u + p - 1) / p := by have := test_iff u e p hp0; omega
    have E : Hid (left u e p = u - e * p) := by show left u e p = _; unfold left; rw [if_pos hlt]
    go_enter Try.func31, Try.ntmps31
    go_wp2
    go_ret
    exact ⟨ret_i64 (by rw [E.out]), rfl⟩
  · have ht : (u + p - 1) / p ≤ e := (test_iff u e p hp0).2 hlt
    have E : Hid (left u e p = 0) := by show left u e p = _; unfold left; rw [if_neg hlt]
    go_enter Try.func31, Try.ntmps31
    go_wp2
    go_ret
    exact ⟨ret_i64 (by rw [E.out]), rfl⟩

theorem left_zero (u p : Int) (hu : 0 ≤ u) : left u 0 p = u := by unfold left; simp; omega
theorem left_bounds (u e p : Int) (hu : 0 ≤ u) (hm : 0 ≤ e * p) : 0 ≤ left u e p ∧ left u e p ≤ u := by unfold left; split <;> omega
theorem left_add (u e1 e2 p : Int) (h1 : 0 ≤ e1 * p) (h2 : 0 ≤ e2 * p) : left u (e1 + e2) p = left (left u e1 p) e2 p := by
  unfold left; rw [Int.add_mul]; split <;> split <;> split <;> omega
theorem left_mono (u e1 e2 p : Int) (h1 : 0 ≤ e1 * p) (h2 : 0 ≤ e2 * p) : left u (e1 + e2) p ≤ left u e1 p := by
  unfold left; rw [Int.add_mul]; split <;> split <;> omega

set_option maxHeartbeats 1000000 in
set_option maxRecDepth 100000 in
theorem walk (a0 : Int) (a1 : Int) (a2 : Int) (a3 : Int) (w0 : (Lit.int .i64 a0).wf = true) (w1 : (Lit.int .i64 a1).wf = true) (w2 : (Lit.int .i64 a2).wf = true) (w3 : (Lit.int .i64 a3).wf = true) (w : World) :
    Calls Try.prog 8 #[.int .i64 a0, .int .i64 a1, .int .i64 a2, .int .i64 a3] w fun e w' => e = .returned (.bool true) ∧ Below w.heap.size w w' := by
  clear w0 w1 w2 w3
  by_cases c1 : a0 < 0
  · go_enter Try.func8, Try.ntmps8
    go_wp2
    go_ret
    exact ⟨rfl, Below.refl _ _⟩
  by_cases c2 : 1125899906842624 < a0
  · go_enter Try.func8, Try.ntmps8
    go_wp2
    go_ret
    exact ⟨rfl, Below.refl _ _⟩
  by_cases c3 : a3 < 1
  · go_enter Try.func8, Try.ntmps8
    go_wp2
    go_ret
    exact ⟨rfl, Below.refl _ _⟩
  by_cases c4 : 1073741824 < a3
  · go_enter Try.func8, Try.ntmps8
    go_wp2
    go_ret
    exact ⟨rfl, Below.refl _ _⟩
  by_cases c5 : a1 < 0
  · go_enter Try.func8, Try.ntmps8
    go_wp2
    go_ret
    exact ⟨rfl, Below.refl _ _⟩
  by_cases c6 : 1099511627776 < a1
  · go_enter Try.func8, Try.ntmps8
    go_wp2
    go_ret
    exact ⟨rfl, Below.refl _ _⟩
  by_cases c7 : a2 < 0
  · go_enter Try.func8, Try.ntmps8
    go_wp2
    go_ret
    exact ⟨rfl, Below.refl _ _⟩
  by_cases c8 : 1099511627776 < a2
  · go_enter Try.func8, Try.ntmps8
    go_wp2
    go_ret
    exact ⟨rfl, Below.refl _ _⟩
  have m1 : 0 ≤ a1 * a3 := Int.mul_nonneg (by omega) (by omega)
  have m2 : 0 ≤ a2 * a3 := Int.mul_nonneg (by omega) (by omega)
  obtain ⟨b1, b2⟩ := left_bounds a0 a1 a3 (by omega) m1
  have M : Hid (left a0 (a1 + a2) a3 ≤ left a0 a1 a3) := left_mono a0 a1 a2 a3 m1 m2
  have Z : Hid (left a0 0 a3 = a0) := left_zero a0 a3 (by omega)
  have A : Hid (left a0 (a1 + a2) a3 = left (left a0 a1 a3) a2 a3) := left_add a0 a1 a2 a3 m1 m2
  clear m1 m2
  go_enter Try.func8, Try.ntmps8
  go_wp2_with fail
  refine (madeUp_calls a0 0 a3 (by omega) (by omega) (by omega) (by omega) (by omega) (by omega) _).mono ?_
  rintro e w' ⟨rfl, rfl⟩
  rw [Z.out]
  go_wp2_with fail
  refine (madeUp_calls a0 a1 a3 (by omega) (by omega) (by omega) (by omega) (by omega) (by omega) _).mono ?_
  rintro e w' ⟨rfl, rfl⟩
  go_wp2_with fail
  refine (madeUp_calls a0 (a1 + a2) a3 (by omega) (by omega) (by omega) (by omega) (by omega) (by omega) _).mono ?_
  rintro e w' ⟨rfl, rfl⟩
  rw [A.out]
  have M2 : left (left a0 a1 a3) a2 a3 ≤ left a0 a1 a3 := by rw [← A.out]; exact M.out
  go_wp2_with fail
  refine (madeUp_calls (left a0 a1 a3) a2 a3 (by omega) (by omega) (by omega) (by omega) (by omega) (by omega) _).mono ?_
  rintro e w' ⟨rfl, rfl⟩
  go_wp2
  go_ret
  exact ⟨rfl, Below.refl _ _⟩

/-! ### THE ROW's STEP: WRITTEN OUT: LEAVE IT -/
set_option maxRecDepth 100000 in
theorem lifted (os : Os) (started : os.Started) (H : Type) (enc : TypeId × Value → H) :
    ReturnsInHanded {} Try.checked os 8 .any (Rows.fnRefillSplitsAdditivelySpec.pre6 enc Try.prog Try.f8 Rows.fnRefillSplitsAdditivelyRow.domain false) (Rows.fnRefillSplitsAdditivelySpec.post enc Try.prog Try.f8 false true false false) := by
  refine returnsInHanded_of_change (C := Try.checked) own started (by kernel_rfl) Try.func8
    (ChangeSpec.witness6 (enc := enc) (C := Try.checked) false ⟨#[], #[.int .i64 0, .int .i64 0, .int .i64 0, .int .i64 0], []⟩ 8 (by kernel_rfl) (by kernel_rfl) (by kernel_rfl) (by kernel_rfl)) ?_
  intro W base args ds gs before hval0 hW hcnd _
  have hval : ∀ (j : Nat) t v, Try.f8.params[j]? = some t → args[j]? = some v → Value.okWide Try.prog W .any base t v := hval0
  have hW' := hW
  obtain ⟨p, q, hA0, hV, rfl, hfz, hnd⟩ := hW
  have hA : DataW.TrodAll enc Try.prog W 0 (fun _ => true) true Try.f8.params.toList args.toList ds p := hA0
  rw [Try.params8] at hA hval
  obtain ⟨v0, vs0, d0, ds0, p0, q0, hargs, rfl, rfl, h0, r0⟩ := trodAll_cons hA
  obtain ⟨v1, vs1, d1, ds1, p1, q1, rfl, rfl, rfl, h1, r1⟩ := trodAll_cons r0
  obtain ⟨v2, vs2, d2, ds2, p2, q2, rfl, rfl, rfl, h2, r2⟩ := trodAll_cons r1
  obtain ⟨v3, vs3, d3, ds3, p3, q3, rfl, rfl, rfl, h3, r3⟩ := trodAll_cons r2
  obtain ⟨rfl, rfl, rfl⟩ := trodAll_nil r3
  obtain rfl : args = #[v0, v1, v2, v3] := by cases args; simp_all
  obtain ⟨rfl, rfl⟩ := trodVars_none hV
  obtain ⟨a0, rfl, rfl, rfl, w0⟩ := open_int Try.underlying2 (hval 0 2 v0 rfl rfl) h0
  obtain ⟨a1, rfl, rfl, rfl, w1⟩ := open_int Try.underlying2 (hval 1 2 v1 rfl rfl) h1
  obtain ⟨a2, rfl, rfl, rfl, w2⟩ := open_int Try.underlying2 (hval 2 2 v2 rfl rfl) h2
  obtain ⟨a3, rfl, rfl, rfl, w3⟩ := open_int Try.underlying2 (hval 3 2 v3 rfl rfl) h3
  clear hA0 hval0
  simp only [List.append_nil] at hW'
  refine (walk a0 a1 a2 a3 w0 w1 w2 w3 W).mono fun e W' ⟨he, bel⟩ => ?_
  subst he
  exact ⟨_, rfl, _, _, _, [], _, [], hW', trodAll_mk1 (shut_bool Try.underlying4 _), (trodAll_cons_mk (shut_int Try.underlying2 w0) (trodAll_cons_mk (shut_int Try.underlying2 w1) (trodAll_cons_mk (shut_int Try.underlying2 w2) (trodAll_cons_mk (shut_int Try.underlying2 w3) trodAll_mk0)))), rfl, bel.frame _, fun h => by cases h⟩

theorem closed : joinedFacts Try.prog 8 Try.f8 Rows.fnRefillSplitsAdditivelySpec Rows.fnRefillSplitsAdditivelyRow = true := by
  unfold joinedFacts
  rw [Head.may, Head.liftsNone, Head.made]
  kernel_rfl

theorem over : Rows.fnRefillSplitsAdditivelyRow.holds Try.pinned (OpenSpec.ofChange Rows.fnRefillSplitsAdditivelySpec) :=
  OpenClaim.holds_of_wide 8 Try.f8 rfl rfl rfl rfl rfl rfl rfl ⟨rfl, rfl, rfl, rfl, rfl⟩ rfl rfl rfl rfl rfl (by kernel_rfl) Try.func8 closed
    (of_decide_eq_true (by kernel_rfl)) (by unfold Func.isWrapper; first | (rw [if_pos (by decide +kernel)]; kernel_rfl) | (rw [if_neg (by decide +kernel)]; exact ⟨rfl, rfl⟩))
    (fun os started H enc _ => lifted os started H enc)

/-- ████ THE STATEMENT ████ -/
theorem proved : Rows.FnRefillSplitsAdditivelySaid :=
  over
end Go.Proofs.Qxb6001698a.fnRefillSplitsAdditively
