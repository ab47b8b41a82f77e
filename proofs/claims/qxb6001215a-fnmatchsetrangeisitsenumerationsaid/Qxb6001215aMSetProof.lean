/- The proof of Rows.FnMatchSetRangeIsItsEnumerationSaid: the frame is the seat's shell, turned to 'Below'; the walk is ours. -/
import Derived.Test.Qxb6001215aRows
import Derived.WalkKit
import Derived.ProofKit
import Derived.OpenShut
import Derived.ShutString
import Derived.Test.Qxb6001215aMSetB
import Derived.Test.Qxb6001215aHead
namespace Go.Proofs.Qxb6001215a.fnMatchSetRangeIsItsEnumeration
open Go.ChangeShapes Go.WideShapes Go.ChangeAt Go.RowKit
open Go.ChangeMaps (open_string shut_string)
set_option linter.unusedVariables false      -- a walk need not use every 'w<i>' (that an integer argument fits its kind)

theorem own : ownKnob Try.prog.godebug = none := by kernel_rfl

/-! ### the walk -/
open MSet

def four (a b : Int) : ByteArray := ⟨#[UInt8.ofNat a.toNat, 45, UInt8.ofNat b.toNat, 93]⟩

theorem conv_four (W : World) (a b : Int) (ha : 0 ≤ a) (ha' : a ≤ 255) (hb : 0 ≤ b) (hb' : b ≤ 255) :
    (convert 27 9 (.slice (some ⟨W.heap.size, 0, none⟩) 4 4)).run Try.prog (W.alloc (.cells #[.int .u8 a, .int .u8 45, .int .u8 b, .int .u8 93] 5)) = .ok (.string (four a b)) (W.alloc (.cells #[.int .u8 a, .int .u8 45, .int .u8 b, .int .u8 93] 5)) := by
  have ea : ((UInt8.ofNat a.toNat).toNat : Int) = a := by simp; omega
  have eb : ((UInt8.ofNat b.toNat).toNat : Int) = b := by simp; omega
  refine run_convert_bytes_back _ 27 9 5 ⟨W.heap.size, 0, none⟩ 4 [UInt8.ofNat a.toNat, 45, UInt8.ofNat b.toNat, 93] Try.underlying27 Try.underlying5 Try.underlying9 fun j hj => ?_
  match j, hj with
  | 0, _ => simp only [List.getElem_cons_zero, ea]; simp [Addr.add]
  | 1, _ => simp [Addr.add]
  | 2, _ => simp only [List.getElem_cons_succ, List.getElem_cons_zero, eb]; simp [Addr.add]
  | 3, _ => simp [Addr.add]

theorem range_four (a b c : Int) (ha : 0 ≤ a) (ha' : a ≤ 255) (hb : 0 ≤ b) (hb' : b ≤ 255) (hs : special a = false) (w : World) :
    Calls Try.prog 22 #[.string (four a b), .int .i64 0, .int .u8 c] w fun e w' => e = .returned (.tuple #[.int .i64 4, .bool (inRange a b c)]) ∧ ∃ n, w' = w.drewN n := by
  have ea : ((UInt8.ofNat a.toNat).toNat : Int) = a := by simp; omega
  have eb : ((UInt8.ofNat b.toNat).toNat : Int) = b := by simp; omega
  unfold special at hs
  simp only [Bool.or_eq_false_iff] at hs
  have hc := fun W => range_calls a b c (four a b) rfl ea rfl eb rfl hs.1.1 hs.1.2 hs.2 W
  generalize four a b = s at *
  clear ea eb
  have HC : Hid (∀ W, Calls Try.prog 37 #[.string s, .int .i64 0, .int .u8 c] W fun e w' => e = .returned (.tuple #[.int .i64 4, .bool (inRange a b c)]) ∧ ∃ n, w' = W.drewN n) := hc
  clear hc
  go_enter Try.func22, Try.ntmps22
  go_wp2_with fail
  refine (HC.out _).mono ?_
  rintro e w' ⟨rfl, n, rfl⟩
  go_wp2
  go_ret2
  exact ⟨rfl, n, rfl⟩

theorem enum_calls (lo hi : Nat) (c : Int) (r : Bool) (hr : member (rng lo (hi - lo + 1)) c = r) (hhi : hi ≤ 255) (w : World) :
    Calls Try.prog 22 #[.string ⟨(MSet.quoted (rng lo (hi - lo + 1))).toArray⟩, .int .i64 0, .int .u8 c] w fun e w' => ∃ m : Int, e = .returned (.tuple #[.int .i64 m, .bool r]) ∧ w' = w := by
  have hc := fun W => quoted_calls (rng lo (hi - lo + 1)) c ⟨(MSet.quoted (rng lo (hi - lo + 1))).toArray⟩ rfl (by rw [rng_len]; omega) W
  rw [hr] at hc
  generalize ((2 * (rng lo (hi - lo + 1)).length + 1 : Nat) : Int) = m at *
  generalize (⟨(MSet.quoted (rng lo (hi - lo + 1))).toArray⟩ : ByteArray) = s at *
  have HC : Hid (∀ W, Calls Try.prog 37 #[.string s, .int .i64 0, .int .u8 c] W fun e w' => e = .returned (.tuple #[.int .i64 m, .bool r]) ∧ w' = W) := hc
  clear hc hr
  go_enter Try.func22, Try.ntmps22
  go_wp2_with fail
  refine (HC.out _).mono ?_
  rintro e w' ⟨rfl, rfl⟩
  go_wp2
  go_ret2
  exact ⟨m, rfl, rfl⟩

theorem member_rng (lo hi : Nat) (c : Int) (hlh : lo ≤ hi) (hhi : hi ≤ 255) (h0 : 0 ≤ c) (h1 : c ≤ 255) : member (rng lo (hi - lo + 1)) c = inRange lo hi c := by
  rw [Bool.eq_iff_iff]
  unfold member inRange rng
  simp only [List.any_eq_true, List.mem_map, List.mem_range, Bool.and_eq_true, decide_eq_true_eq, beq_iff_eq]
  constructor
  · rintro ⟨v, ⟨i, hi', rfl⟩, hv⟩
    have e : (UInt8.ofNat (lo + i)).toNat = lo + i := by simp; omega
    rw [e] at hv
    omega
  · intro h
    refine ⟨_, ⟨c.toNat - lo, by omega, rfl⟩, ?_⟩
    have e : (UInt8.ofNat (lo + (c.toNat - lo))).toNat = lo + (c.toNat - lo) := by simp; omega
    rw [e]
    omega

theorem inRange_comm (a b c : Int) : inRange a b c = inRange b a c := by
  unfold inRange; rw [Int.min_comm, Int.max_comm]

theorem below_call {w w4 : World} {o : Obj} {n : Nat} (h : Below ((w.alloc o).drewN n).heap.size ((w.alloc o).drewN n) w4) : Below w.heap.size w w4 :=
  (below_drewN ((Below.refl w.heap.size w).alloc (Nat.le_refl _) o) n).trans (h.mono (show w.heap.size ≤ (w.alloc o).heap.size by simp))

set_option maxHeartbeats 1000000 in
set_option maxRecDepth 100000 in
theorem core (a b lo hi : Nat) (c : Int) (r : Bool) (hsa : special a = false) (l0 : (0 : Int) ≤ a) (u0 : (a : Int) ≤ 255) (l1 : (0 : Int) ≤ b) (u1 : (b : Int) ≤ 255)
    (hlh : (b < a ∧ lo = b ∧ hi = a) ∨ (a ≤ b ∧ lo = a ∧ hi = b))
    (hR : ∀ W, Calls Try.prog 22 #[.string (four a b), .int .i64 0, .int .u8 c] W fun e w' => e = .returned (.tuple #[.int .i64 4, .bool r]) ∧ ∃ n, w' = W.drewN n)
    (hR2 : special b = false → ∀ W, Calls Try.prog 22 #[.string (four b a), .int .i64 0, .int .u8 c] W fun e w' => e = .returned (.tuple #[.int .i64 4, .bool r]) ∧ ∃ n, w' = W.drewN n)
    (hQ : ∀ W, Calls Try.prog 26 #[.int .u8 (lo : Int), .int .u8 (hi : Int)] W fun e w' => e = .returned (.string ⟨(MSet.quoted (rng lo (hi - lo + 1))).toArray⟩) ∧ Below W.heap.size W w')
    (hE : ∀ W, Calls Try.prog 22 #[.string ⟨(MSet.quoted (rng lo (hi - lo + 1))).toArray⟩, .int .i64 0, .int .u8 c] W fun e w' => ∃ m : Int, e = .returned (.tuple #[.int .i64 m, .bool r]) ∧ w' = W)
    (w : World) :
    Calls Try.prog 8 #[.int .u8 (a : Int), .int .u8 (b : Int), .int .u8 c] w fun e w' => e = .returned (.bool true) ∧ Below w.heap.size w w' := by
  have c4 : ∀ W : World, _ := fun W => conv_four W a b l0 u0 l1 u1
  have c4' : ∀ W : World, _ := fun W => conv_four W b a l1 u1 l0 u0
  have HR : Hid (∀ W, Calls Try.prog 22 #[.string (four a b), .int .i64 0, .int .u8 c] W fun e w' => e = .returned (.tuple #[.int .i64 4, .bool r]) ∧ ∃ n, w' = W.drewN n) := hR
  have HR2 : Hid (special b = false → ∀ W, Calls Try.prog 22 #[.string (four b a), .int .i64 0, .int .u8 c] W fun e w' => e = .returned (.tuple #[.int .i64 4, .bool r]) ∧ ∃ n, w' = W.drewN n) := hR2
  have HQ : Hid (∀ W, Calls Try.prog 26 #[.int .u8 (lo : Int), .int .u8 (hi : Int)] W fun e w' => e = .returned (.string ⟨(MSet.quoted (rng lo (hi - lo + 1))).toArray⟩) ∧ Below W.heap.size W w') := hQ
  have HE : Hid (∀ W, Calls Try.prog 22 #[.string ⟨(MSet.quoted (rng lo (hi - lo + 1))).toArray⟩, .int .i64 0, .int .u8 c] W fun e w' => ∃ m : Int, e = .returned (.tuple #[.int .i64 m, .bool r]) ∧ w' = W) := hE
  clear hR hR2 hQ hE
  generalize four a b = s1 at *
  generalize four b a = s2 at *
  generalize (⟨(MSet.quoted (rng lo (hi - lo + 1))).toArray⟩ : ByteArray) = s3 at *
  have nr : (r != r) = false := by simp
  rcases hlh with ⟨hlt, rfl, rfl⟩ | ⟨hge, rfl, rfl⟩
  all_goals
    go_enter Try.func8, Try.ntmps8
    go_wp2_with fail
    refine (isSpecial_calls _ _).mono ?_
    rintro e w' ⟨rfl, hw⟩
    subst hw
    go_wp2_with fail
    refine (HR.out _).mono ?_
    rintro e w1 ⟨rfl, n, rfl⟩
    go_wp2_with fail
    refine (HQ.out _).mono ?_
    rintro e w2 ⟨rfl, hb2⟩
    go_wp2_with fail
    refine (HE.out _).mono ?_
    rintro e w3 ⟨m, rfl, hw3⟩
    subst hw3
    go_wp2_with fail
    refine (isSpecial_calls _ _).mono ?_
    rintro e w4 ⟨rfl, hw4⟩
    subst hw4
    cases hsb : special _ with
    | true =>
      go_wp2
      go_ret
      exact ⟨rfl, below_call hb2⟩
    | false =>
      go_wp2_with fail
      refine (HR2.out hsb _).mono ?_
      rintro e w5 ⟨rfl, n5, rfl⟩
      go_wp2
      go_ret
      have B1 := below_call hb2
      exact ⟨rfl, below_drewN (B1.alloc B1.size _) n5⟩

set_option maxHeartbeats 1000000 in
set_option maxRecDepth 100000 in
theorem walk (a0 : Int) (a1 : Int) (a2 : Int) (w0 : (Lit.int .u8 a0).wf = true) (w1 : (Lit.int .u8 a1).wf = true) (w2 : (Lit.int .u8 a2).wf = true) (w : World) :
    Calls Try.prog 8 #[.int .u8 a0, .int .u8 a1, .int .u8 a2] w fun e w' => e = .returned (.bool true) ∧ Below w.heap.size w w' := by
  obtain ⟨l0, u0⟩ := bounds_u8 w0
  obtain ⟨l1, u1⟩ := bounds_u8 w1
  obtain ⟨l2, u2⟩ := bounds_u8 w2
  obtain ⟨a, rfl⟩ := Int.eq_ofNat_of_zero_le l0
  obtain ⟨b, rfl⟩ := Int.eq_ofNat_of_zero_le l1
  clear w0 w1 w2
  cases hsa : special a with
  | true =>
    go_enter Try.func8, Try.ntmps8
    go_wp2_with fail
    refine (isSpecial_calls _ _).mono ?_
    rintro e w' ⟨rfl, rfl⟩
    go_wp2
    go_ret
    exact ⟨rfl, Below.refl _ _⟩
  | false =>
    rcases Nat.lt_or_ge b a with hlt | hge
    · have hr : member (rng b (a - b + 1)) a2 = inRange a b a2 := by rw [member_rng b a a2 (by omega) (by omega) l2 u2, inRange_comm]
      have HQ := fun W => quotedRange_calls b a (by omega) (by omega) W
      have HE := fun W => enum_calls b a a2 _ hr (by omega) W
      have HR := fun W => range_four a b a2 l0 u0 l1 u1 hsa W
      clear hr
      exact core a b b a a2 (inRange a b a2) hsa l0 u0 l1 u1 (.inl ⟨hlt, rfl, rfl⟩) HR (fun h W => by rw [inRange_comm]; exact range_four b a a2 l1 u1 l0 u0 h W) HQ HE w
    · have hr : member (rng a (b - a + 1)) a2 = inRange a b a2 := by rw [member_rng a b a2 (by omega) (by omega) l2 u2]
      have HQ := fun W => quotedRange_calls a b (by omega) (by omega) W
      have HE := fun W => enum_calls a b a2 _ hr (by omega) W
      have HR := fun W => range_four a b a2 l0 u0 l1 u1 hsa W
      exact core a b a b a2 (inRange a b a2) hsa l0 u0 l1 u1 (.inr ⟨hge, rfl, rfl⟩) HR (fun h W => by rw [inRange_comm]; exact range_four b a a2 l1 u1 l0 u0 h W) HQ HE w

/-! ### THE ROW's STEP: WRITTEN OUT: LEAVE IT -/
set_option maxRecDepth 100000 in
theorem lifted (os : Os) (started : os.Started) (H : Type) (enc : TypeId × Value → H) :
    ReturnsInHanded {} Try.checked os 8 .any (Rows.fnMatchSetRangeIsItsEnumerationSpec.pre6 enc Try.prog Try.f8 Rows.fnMatchSetRangeIsItsEnumerationRow.domain false) (Rows.fnMatchSetRangeIsItsEnumerationSpec.post enc Try.prog Try.f8 false true false false) := by
  refine returnsInHanded_of_change (C := Try.checked) own started (by kernel_rfl) Try.func8
    (ChangeSpec.witness6 (enc := enc) (C := Try.checked) false ⟨#[], #[.int .u8 0, .int .u8 0, .int .u8 0], []⟩ 8 (by kernel_rfl) (by kernel_rfl) (by kernel_rfl) (by kernel_rfl)) ?_
  intro W base args ds gs before hval0 hW hcnd _
  have hval : ∀ (j : Nat) t v, Try.f8.params[j]? = some t → args[j]? = some v → Value.okWide Try.prog W .any base t v := hval0
  have hW' := hW
  obtain ⟨p, q, hA0, hV, rfl, hfz, hnd⟩ := hW
  have hA : DataW.TrodAll enc Try.prog W 0 (fun _ => true) true Try.f8.params.toList args.toList ds p := hA0
  rw [Try.params8] at hA hval
  obtain ⟨v0, vs0, d0, ds0, p0, q0, hargs, rfl, rfl, h0, r0⟩ := trodAll_cons hA
  obtain ⟨v1, vs1, d1, ds1, p1, q1, rfl, rfl, rfl, h1, r1⟩ := trodAll_cons r0
  obtain ⟨v2, vs2, d2, ds2, p2, q2, rfl, rfl, rfl, h2, r2⟩ := trodAll_cons r1
  obtain ⟨rfl, rfl, rfl⟩ := trodAll_nil r2
  obtain rfl : args = #[v0, v1, v2] := by cases args; simp_all
  obtain ⟨rfl, rfl⟩ := trodVars_none hV
  obtain ⟨a0, rfl, rfl, rfl, w0⟩ := open_int Try.underlying5 (hval 0 5 v0 rfl rfl) h0
  obtain ⟨a1, rfl, rfl, rfl, w1⟩ := open_int Try.underlying5 (hval 1 5 v1 rfl rfl) h1
  obtain ⟨a2, rfl, rfl, rfl, w2⟩ := open_int Try.underlying5 (hval 2 5 v2 rfl rfl) h2
  clear hA0 hval0
  simp only [List.append_nil] at hW'
  refine (walk a0 a1 a2 w0 w1 w2 W).mono fun e W' ⟨he, bel⟩ => ?_
  subst he
  exact ⟨_, rfl, _, _, _, [], _, [], hW', trodAll_mk1 (shut_bool Try.underlying4 _), (trodAll_cons_mk (shut_int Try.underlying5 w0) (trodAll_cons_mk (shut_int Try.underlying5 w1) (trodAll_cons_mk (shut_int Try.underlying5 w2) trodAll_mk0))), rfl, bel.frame _, fun h => by cases h⟩

theorem closed : joinedFacts Try.prog 8 Try.f8 Rows.fnMatchSetRangeIsItsEnumerationSpec Rows.fnMatchSetRangeIsItsEnumerationRow = true := by
  unfold joinedFacts
  rw [Head.may, Head.liftsNone, Head.made]
  kernel_rfl

theorem over : Rows.fnMatchSetRangeIsItsEnumerationRow.holds Try.pinned (OpenSpec.ofChange Rows.fnMatchSetRangeIsItsEnumerationSpec) :=
  OpenClaim.holds_of_wide 8 Try.f8 rfl rfl rfl rfl rfl rfl rfl ⟨rfl, rfl, rfl, rfl, rfl⟩ rfl rfl rfl rfl rfl (by kernel_rfl) Try.func8 closed
    (of_decide_eq_true (by kernel_rfl)) (by unfold Func.isWrapper; first | (rw [if_pos (by decide +kernel)]; kernel_rfl) | (rw [if_neg (by decide +kernel)]; exact ⟨rfl, rfl⟩))
    (fun os started H enc _ => lifted os started H enc)

/-- ████ THE STATEMENT ████ -/
theorem proved : Rows.FnMatchSetRangeIsItsEnumerationSaid :=
  over
end Go.Proofs.Qxb6001215a.fnMatchSetRangeIsItsEnumeration
