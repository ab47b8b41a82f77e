/- The proof of Rows.FnCompareOrderedMatchesModelSaid: the frame is the seat's shell, turned to 'Below'; the walk is ours. -/
import Derived.Test.Qxb6001698aRows
import Derived.WalkKit
import Derived.ProofKit
import Derived.OpenShut
import Derived.ShutString
import Derived.Test.Qxb6001698aOrdD
import Derived.Test.Qxb6001698aHead
namespace Go.Proofs.Qxb6001698a.fnCompareOrderedMatchesModel
open Go.ChangeShapes Go.WideShapes Go.ChangeAt Go.RowKit
open Go.ChangeMaps (open_string shut_string)
set_option linter.unusedVariables false      -- a walk need not use every 'w<i>' (that an integer argument fits its kind)

theorem own : ownKnob Try.prog.godebug = none := by kernel_rfl

/-! ### the walk -/
open Go.Proofs.Qxb6001698a.Ord

theorem below4' (w : World) (o1 o2 o3 o4 : Obj) : Below w.heap.size w ((((w.alloc o1).alloc o2).alloc o3).alloc o4) :=
  ((below2 w o1 o2).alloc (by simp; omega) o3).alloc (by simp; omega) o4

theorem below_end {w w' : World} {o1 o2 o3 o4 : Obj} (hb : Below ((((w.alloc o1).alloc o2).alloc o3).alloc o4).heap.size ((((w.alloc o1).alloc o2).alloc o3).alloc o4) w') : Below w.heap.size w w' :=
  (below4' w o1 o2 o3 o4).trans (hb.mono (by simp; omega))

set_option maxHeartbeats 4000000 in
set_option maxRecDepth 100000 in
theorem diff_ff (a0 : Int) (a1 : ByteArray) (a2 : Bool) (a3 : ByteArray) (a4 : Int) (a5 : Int) (a6 : ByteArray) (a7 : Bool) (a8 : ByteArray) (a9 : Int) (m1 : a1.size ≤ maxLen) (m3 : a3.size ≤ maxLen) (m6 : a6.size ≤ maxLen) (m8 : a8.size ≤ maxLen) (g1 : (a1.size : Int) ≤ 262144) (g6 : (a6.size : Int) ≤ 262144) (g3 : (a3.size : Int) ≤ 4096) (g8 : (a8.size : Int) ≤ 4096) (x1 : -4096 ≤ a4) (x2 : a4 ≤ 4096) (x3 : -4096 ≤ a9) (x4 : a9 ≤ 4096) (hne : a0 ≠ a5) (k1 : (a0 == 1) = false) (k2 : (a5 == 1) = false) (w : World) :
    Calls Try.prog 5 #[.int .i64 a0, .string a1, .bool a2, .string a3, .int .i64 a4, .int .i64 a5, .string a6, .bool a7, .string a8, .int .i64 a9] w fun e w' => e = .returned (.bool true) ∧ Below w.heap.size w w' := by
  have CO : Hid (∀ W, Calls Try.prog 18 #[.agg #[.int .i64 a0, .string a1, .bool a2, .string a3, .int .i64 a4, .bool false, .slice none 0 0, .map none, .slice none 0 0], .agg #[.int .i64 a5, .string a6, .bool a7, .string a8, .int .i64 a9, .bool false, .slice none 0 0, .map none, .slice none 0 0]] W fun x w' => x = .returned (.tuple #[.int .i64 0, .bool false]) ∧ Below W.heap.size W w') := fun W => zzco a0 a5 a1 a6 a2 a7 a3 a8 a4 a9 _ _ (fun W => co_diff a0 a5 a1 a6 a2 a7 a3 a8 a4 a9 hne W) W
  have hne' : (a0 != a5) = true := by simpa using hne
  clear hne
  have HZ : Hid (∀ W, Calls Try.prog 15 #[.int .i64 a0, .string a1, .bool a2, .string a3, .int .i64 a4, .int .i64 a5, .string a6, .bool a7, .string a8, .int .i64 a9] W fun x w' => AnyBool x ∧ W = w') := fun W => bytes_calls a0 a5 a1 a6 a2 a7 a3 a8 a4 a9 m1 m3 m6 m8 W
  have z3 : a3.size ≤ 4096 := by omega
  have z8 : a8.size ≤ 4096 := by omega
  clear m1 m3 m6 m8
  go_enter Try.func5, Try.ntmps5
  go_wp2_with fail
  refine (HZ.out _).mono ?_
  rintro e w' ⟨⟨r, rfl⟩, rfl⟩
  cases r with
  | false =>
    go_wp2
    go_ret
    exact ⟨rfl, Below.refl _ _⟩
  | true =>
  go_wp2_with fail
  refine (scalar_calls _ _ _ _ _ _).mono ?_
  rintro e w' ⟨rfl, rfl⟩
  go_wp2_with fail
  refine (scalar_calls _ _ _ _ _ _).mono ?_
  rintro e w' ⟨rfl, rfl⟩
  go_wp2_with fail
  refine (CO.out _).mono ?_
  rintro e w5 ⟨rfl, hb⟩
  go_wp2
  go_ret
  exact ⟨rfl, below_end hb⟩

set_option maxHeartbeats 4000000 in
set_option maxRecDepth 100000 in
theorem diff_tf (a0 : Int) (a1 : ByteArray) (a2 : Bool) (a3 : ByteArray) (a4 : Int) (a5 : Int) (a6 : ByteArray) (a7 : Bool) (a8 : ByteArray) (a9 : Int) (m1 : a1.size ≤ maxLen) (m3 : a3.size ≤ maxLen) (m6 : a6.size ≤ maxLen) (m8 : a8.size ≤ maxLen) (g1 : (a1.size : Int) ≤ 262144) (g6 : (a6.size : Int) ≤ 262144) (g3 : (a3.size : Int) ≤ 4096) (g8 : (a8.size : Int) ≤ 4096) (x1 : -4096 ≤ a4) (x2 : a4 ≤ 4096) (x3 : -4096 ≤ a9) (x4 : a9 ≤ 4096) (hne : a0 ≠ a5) (k1 : (a0 == 1) = true) (k2 : (a5 == 1) = false) (w : World) :
    Calls Try.prog 5 #[.int .i64 a0, .string a1, .bool a2, .string a3, .int .i64 a4, .int .i64 a5, .string a6, .bool a7, .string a8, .int .i64 a9] w fun e w' => e = .returned (.bool true) ∧ Below w.heap.size w w' := by
  have CO : Hid (∀ W, Calls Try.prog 18 #[.agg #[.int .i64 a0, .string a1, .bool a2, .string a3, .int .i64 a4, .bool false, .slice none 0 0, .map none, .slice none 0 0], .agg #[.int .i64 a5, .string a6, .bool a7, .string a8, .int .i64 a9, .bool false, .slice none 0 0, .map none, .slice none 0 0]] W fun x w' => x = .returned (.tuple #[.int .i64 0, .bool false]) ∧ Below W.heap.size W w') := fun W => zzco a0 a5 a1 a6 a2 a7 a3 a8 a4 a9 _ _ (fun W => co_diff a0 a5 a1 a6 a2 a7 a3 a8 a4 a9 hne W) W
  have hne' : (a0 != a5) = true := by simpa using hne
  clear hne
  have HZ : Hid (∀ W, Calls Try.prog 15 #[.int .i64 a0, .string a1, .bool a2, .string a3, .int .i64 a4, .int .i64 a5, .string a6, .bool a7, .string a8, .int .i64 a9] W fun x w' => AnyBool x ∧ W = w') := fun W => bytes_calls a0 a5 a1 a6 a2 a7 a3 a8 a4 a9 m1 m3 m6 m8 W
  have z3 : a3.size ≤ 4096 := by omega
  have z8 : a8.size ≤ 4096 := by omega
  clear m1 m3 m6 m8
  go_enter Try.func5, Try.ntmps5
  go_wp2_with fail
  refine (HZ.out _).mono ?_
  rintro e w' ⟨⟨r, rfl⟩, rfl⟩
  cases r with
  | false =>
    go_wp2
    go_ret
    exact ⟨rfl, Below.refl _ _⟩
  | true =>
  go_wp2_with fail
  refine (canonD_calls a2 a3 a4 z3 _).mono ?_
  rintro e w' ⟨rfl, rfl⟩
  cases hc1 : canonD a2 a3.data.toList a4 with
  | false =>
    go_wp2
    go_ret
    exact ⟨rfl, Below.refl _ _⟩
  | true =>
  have C1 : Hid (canonD a2 a3.data.toList a4 = true) := hc1
  clear hc1
  go_wp2_with fail
  refine (scalar_calls _ _ _ _ _ _).mono ?_
  rintro e w' ⟨rfl, rfl⟩
  go_wp2_with fail
  refine (scalar_calls _ _ _ _ _ _).mono ?_
  rintro e w' ⟨rfl, rfl⟩
  go_wp2_with fail
  refine (CO.out _).mono ?_
  rintro e w5 ⟨rfl, hb⟩
  go_wp2
  go_ret
  exact ⟨rfl, below_end hb⟩

set_option maxHeartbeats 4000000 in
set_option maxRecDepth 100000 in
theorem diff_ft (a0 : Int) (a1 : ByteArray) (a2 : Bool) (a3 : ByteArray) (a4 : Int) (a5 : Int) (a6 : ByteArray) (a7 : Bool) (a8 : ByteArray) (a9 : Int) (m1 : a1.size ≤ maxLen) (m3 : a3.size ≤ maxLen) (m6 : a6.size ≤ maxLen) (m8 : a8.size ≤ maxLen) (g1 : (a1.size : Int) ≤ 262144) (g6 : (a6.size : Int) ≤ 262144) (g3 : (a3.size : Int) ≤ 4096) (g8 : (a8.size : Int) ≤ 4096) (x1 : -4096 ≤ a4) (x2 : a4 ≤ 4096) (x3 : -4096 ≤ a9) (x4 : a9 ≤ 4096) (hne : a0 ≠ a5) (k1 : (a0 == 1) = false) (k2 : (a5 == 1) = true) (w : World) :
    Calls Try.prog 5 #[.int .i64 a0, .string a1, .bool a2, .string a3, .int .i64 a4, .int .i64 a5, .string a6, .bool a7, .string a8, .int .i64 a9] w fun e w' => e = .returned (.bool true) ∧ Below w.heap.size w w' := by
  have CO : Hid (∀ W, Calls Try.prog 18 #[.agg #[.int .i64 a0, .string a1, .bool a2, .string a3, .int .i64 a4, .bool false, .slice none 0 0, .map none, .slice none 0 0], .agg #[.int .i64 a5, .string a6, .bool a7, .string a8, .int .i64 a9, .bool false, .slice none 0 0, .map none, .slice none 0 0]] W fun x w' => x = .returned (.tuple #[.int .i64 0, .bool false]) ∧ Below W.heap.size W w') := fun W => zzco a0 a5 a1 a6 a2 a7 a3 a8 a4 a9 _ _ (fun W => co_diff a0 a5 a1 a6 a2 a7 a3 a8 a4 a9 hne W) W
  have hne' : (a0 != a5) = true := by simpa using hne
  clear hne
  have HZ : Hid (∀ W, Calls Try.prog 15 #[.int .i64 a0, .string a1, .bool a2, .string a3, .int .i64 a4, .int .i64 a5, .string a6, .bool a7, .string a8, .int .i64 a9] W fun x w' => AnyBool x ∧ W = w') := fun W => bytes_calls a0 a5 a1 a6 a2 a7 a3 a8 a4 a9 m1 m3 m6 m8 W
  have z3 : a3.size ≤ 4096 := by omega
  have z8 : a8.size ≤ 4096 := by omega
  clear m1 m3 m6 m8
  go_enter Try.func5, Try.ntmps5
  go_wp2_with fail
  refine (HZ.out _).mono ?_
  rintro e w' ⟨⟨r, rfl⟩, rfl⟩
  cases r with
  | false =>
    go_wp2
    go_ret
    exact ⟨rfl, Below.refl _ _⟩
  | true =>
  go_wp2_with fail
  refine (canonD_calls a7 a8 a9 z8 _).mono ?_
  rintro e w' ⟨rfl, rfl⟩
  cases hc2 : canonD a7 a8.data.toList a9 with
  | false =>
    go_wp2
    go_ret
    exact ⟨rfl, Below.refl _ _⟩
  | true =>
  have C2 : Hid (canonD a7 a8.data.toList a9 = true) := hc2
  clear hc2
  go_wp2_with fail
  refine (scalar_calls _ _ _ _ _ _).mono ?_
  rintro e w' ⟨rfl, rfl⟩
  go_wp2_with fail
  refine (scalar_calls _ _ _ _ _ _).mono ?_
  rintro e w' ⟨rfl, rfl⟩
  go_wp2_with fail
  refine (CO.out _).mono ?_
  rintro e w5 ⟨rfl, hb⟩
  go_wp2
  go_ret
  exact ⟨rfl, below_end hb⟩

set_option maxHeartbeats 4000000 in
set_option maxRecDepth 100000 in
theorem other (a0 : Int) (a1 : ByteArray) (a2 : Bool) (a3 : ByteArray) (a4 : Int) (a5 : Int) (a6 : ByteArray) (a7 : Bool) (a8 : ByteArray) (a9 : Int) (m1 : a1.size ≤ maxLen) (m3 : a3.size ≤ maxLen) (m6 : a6.size ≤ maxLen) (m8 : a8.size ≤ maxLen) (g1 : (a1.size : Int) ≤ 262144) (g6 : (a6.size : Int) ≤ 262144) (g3 : (a3.size : Int) ≤ 4096) (g8 : (a8.size : Int) ≤ 4096) (x1 : -4096 ≤ a4) (x2 : a4 ≤ 4096) (x3 : -4096 ≤ a9) (x4 : a9 ≤ 4096) (heq : a0 = a5) (k0 : a0 ≠ 0) (k1 : a0 ≠ 1) (k2 : a0 ≠ 2) (w : World) :
    Calls Try.prog 5 #[.int .i64 a0, .string a1, .bool a2, .string a3, .int .i64 a4, .int .i64 a5, .string a6, .bool a7, .string a8, .int .i64 a9] w fun e w' => e = .returned (.bool true) ∧ Below w.heap.size w w' := by
  subst heq
  have CO : Hid (∀ W, Calls Try.prog 18 #[.agg #[.int .i64 a0, .string a1, .bool a2, .string a3, .int .i64 a4, .bool false, .slice none 0 0, .map none, .slice none 0 0], .agg #[.int .i64 a0, .string a6, .bool a7, .string a8, .int .i64 a9, .bool false, .slice none 0 0, .map none, .slice none 0 0]] W fun x w' => x = .returned (.tuple #[.int .i64 0, .bool false]) ∧ Below W.heap.size W w') := fun W => zzco a0 a0 a1 a6 a2 a7 a3 a8 a4 a9 _ _ (fun W => co_other a0 a1 a6 a2 a7 a3 a8 a4 a9 k0 k1 k2 W) W
  have b0 : (a0 != 0) = true := by simpa using k0
  have b1 : (a0 != 1) = true := by simpa using k1
  have b2 : (a0 != 2) = true := by simpa using k2
  have b3 : (a0 == 1) = false := by simpa using k1
  clear k0 k1 k2
  have HZ : Hid (∀ W, Calls Try.prog 15 #[.int .i64 a0, .string a1, .bool a2, .string a3, .int .i64 a4, .int .i64 a0, .string a6, .bool a7, .string a8, .int .i64 a9] W fun x w' => AnyBool x ∧ W = w') := fun W => bytes_calls a0 a0 a1 a6 a2 a7 a3 a8 a4 a9 m1 m3 m6 m8 W
  have z3 : a3.size ≤ 4096 := by omega
  have z8 : a8.size ≤ 4096 := by omega
  clear m1 m3 m6 m8
  go_enter Try.func5, Try.ntmps5
  go_wp2_with fail
  refine (HZ.out _).mono ?_
  rintro e w' ⟨⟨r, rfl⟩, rfl⟩
  cases r with
  | false =>
    go_wp2
    go_ret
    exact ⟨rfl, Below.refl _ _⟩
  | true =>
  go_wp2_with fail
  refine (scalar_calls _ _ _ _ _ _).mono ?_
  rintro e w' ⟨rfl, rfl⟩
  go_wp2_with fail
  refine (scalar_calls _ _ _ _ _ _).mono ?_
  rintro e w' ⟨rfl, rfl⟩
  go_wp2_with fail
  refine (CO.out _).mono ?_
  rintro e w5 ⟨rfl, hb⟩
  go_wp2
  go_ret
  exact ⟨rfl, below_end hb⟩

set_option maxHeartbeats 4000000 in
set_option maxRecDepth 100000 in
theorem numbers (a0 : Int) (a1 : ByteArray) (a2 : Bool) (a3 : ByteArray) (a4 : Int) (a5 : Int) (a6 : ByteArray) (a7 : Bool) (a8 : ByteArray) (a9 : Int) (m1 : a1.size ≤ maxLen) (m3 : a3.size ≤ maxLen) (m6 : a6.size ≤ maxLen) (m8 : a8.size ≤ maxLen) (g1 : (a1.size : Int) ≤ 262144) (g6 : (a6.size : Int) ≤ 262144) (g3 : (a3.size : Int) ≤ 4096) (g8 : (a8.size : Int) ≤ 4096) (x1 : -4096 ≤ a4) (x2 : a4 ≤ 4096) (x3 : -4096 ≤ a9) (x4 : a9 ≤ 4096) (h0 : a0 = 1) (h5 : a5 = 1) (w : World) :
    Calls Try.prog 5 #[.int .i64 a0, .string a1, .bool a2, .string a3, .int .i64 a4, .int .i64 a5, .string a6, .bool a7, .string a8, .int .i64 a9] w fun e w' => e = .returned (.bool true) ∧ Below w.heap.size w w' := by
  subst h0 h5
  have CO : Hid (∀ W, Calls Try.prog 18 #[.agg #[.int .i64 1, .string a1, .bool a2, .string a3, .int .i64 a4, .bool false, .slice none 0 0, .map none, .slice none 0 0], .agg #[.int .i64 1, .string a6, .bool a7, .string a8, .int .i64 a9, .bool false, .slice none 0 0, .map none, .slice none 0 0]] W fun x w' => x = .returned (.tuple #[.int .i64 (dec a2 a3.data.toList a4 a7 a8.data.toList a9), .bool true]) ∧ Below W.heap.size W w') := fun W => zzco 1 1 a1 a6 a2 a7 a3 a8 a4 a9 _ _ (fun W => co_num a1 a6 a2 a7 a3 a8 a4 a9 W) W
  have HZ : Hid (∀ W, Calls Try.prog 15 #[.int .i64 1, .string a1, .bool a2, .string a3, .int .i64 a4, .int .i64 1, .string a6, .bool a7, .string a8, .int .i64 a9] W fun x w' => AnyBool x ∧ W = w') := fun W => bytes_calls 1 1 a1 a6 a2 a7 a3 a8 a4 a9 m1 m3 m6 m8 W
  have z3 : a3.size ≤ 4096 := by omega
  have z8 : a8.size ≤ 4096 := by omega
  clear m1 m3 m6 m8
  go_enter Try.func5, Try.ntmps5
  go_wp2_with fail
  refine (HZ.out _).mono ?_
  rintro e w' ⟨⟨r, rfl⟩, rfl⟩
  cases r with
  | false =>
    go_wp2
    go_ret
    exact ⟨rfl, Below.refl _ _⟩
  | true =>
  go_wp2_with fail
  refine (canonD_calls a2 a3 a4 z3 _).mono ?_
  rintro e w' ⟨rfl, rfl⟩
  cases hc1 : canonD a2 a3.data.toList a4 with
  | false =>
    go_wp2
    go_ret
    exact ⟨rfl, Below.refl _ _⟩
  | true =>
  have C1 : Hid (canonD a2 a3.data.toList a4 = true) := hc1
  clear hc1
  go_wp2_with fail
  refine (canonD_calls a7 a8 a9 z8 _).mono ?_
  rintro e w' ⟨rfl, rfl⟩
  cases hc2 : canonD a7 a8.data.toList a9 with
  | false =>
    go_wp2
    go_ret
    exact ⟨rfl, Below.refl _ _⟩
  | true =>
  have C2 : Hid (canonD a7 a8.data.toList a9 = true) := hc2
  clear hc2
  go_wp2_with fail
  refine (scalar_calls _ _ _ _ _ _).mono ?_
  rintro e w' ⟨rfl, rfl⟩
  go_wp2_with fail
  refine (scalar_calls _ _ _ _ _ _).mono ?_
  rintro e w' ⟨rfl, rfl⟩
  go_wp2_with fail
  refine (CO.out _).mono ?_
  rintro e w5 ⟨rfl, hb⟩
  have MC : Hid (∀ W, Calls Try.prog 19 #[.bool a2, .string a3, .int .i64 a4, .bool a7, .string a8, .int .i64 a9] W fun x w' => x = .returned (.int .i64 (dec a2 a3.data.toList a4 a7 a8.data.toList a9)) ∧ W = w') := fun W => model_calls a2 a7 a3 a8 a4 a9 z3 z8 C1.out C2.out x1 x2 x3 x4 W
  clear C1 C2 CO
  generalize dec a2 a3.data.toList a4 a7 a8.data.toList a9 = c at *
  go_wp2_with fail
  refine (MC.out _).mono ?_
  rintro e w6 ⟨rfl, rfl⟩
  go_wp2
  go_ret
  exact ⟨ret_bool (by simp), below_end hb⟩

set_option maxHeartbeats 4000000 in
set_option maxRecDepth 100000 in
theorem texts0 (a0 : Int) (a1 : ByteArray) (a2 : Bool) (a3 : ByteArray) (a4 : Int) (a5 : Int) (a6 : ByteArray) (a7 : Bool) (a8 : ByteArray) (a9 : Int) (m1 : a1.size ≤ maxLen) (m3 : a3.size ≤ maxLen) (m6 : a6.size ≤ maxLen) (m8 : a8.size ≤ maxLen) (g1 : (a1.size : Int) ≤ 262144) (g6 : (a6.size : Int) ≤ 262144) (g3 : (a3.size : Int) ≤ 4096) (g8 : (a8.size : Int) ≤ 4096) (x1 : -4096 ≤ a4) (x2 : a4 ≤ 4096) (x3 : -4096 ≤ a9) (x4 : a9 ≤ 4096) (h0 : a0 = 0) (h5 : a5 = 0) (w : World) :
    Calls Try.prog 5 #[.int .i64 a0, .string a1, .bool a2, .string a3, .int .i64 a4, .int .i64 a5, .string a6, .bool a7, .string a8, .int .i64 a9] w fun e w' => e = .returned (.bool true) ∧ Below w.heap.size w w' := by
  subst h0 h5
  have CO : Hid (∀ W, Calls Try.prog 18 #[.agg #[.int .i64 0, .string a1, .bool a2, .string a3, .int .i64 a4, .bool false, .slice none 0 0, .map none, .slice none 0 0], .agg #[.int .i64 0, .string a6, .bool a7, .string a8, .int .i64 a9, .bool false, .slice none 0 0, .map none, .slice none 0 0]] W fun x w' => x = .returned (.tuple #[.int .i64 (Lib.compareBytes a1.data.toList a6.data.toList), .bool true]) ∧ Below W.heap.size W w') := fun W => zzco 0 0 a1 a6 a2 a7 a3 a8 a4 a9 _ _ (fun W => co_str 0 a1 a6 a2 a7 a3 a8 a4 a9 (by omega) W) W
  have HZ : Hid (∀ W, Calls Try.prog 15 #[.int .i64 0, .string a1, .bool a2, .string a3, .int .i64 a4, .int .i64 0, .string a6, .bool a7, .string a8, .int .i64 a9] W fun x w' => AnyBool x ∧ W = w') := fun W => bytes_calls 0 0 a1 a6 a2 a7 a3 a8 a4 a9 m1 m3 m6 m8 W
  have z3 : a3.size ≤ 4096 := by omega
  have z8 : a8.size ≤ 4096 := by omega
  clear m1 m3 m6 m8
  go_enter Try.func5, Try.ntmps5
  go_wp2_with fail
  refine (HZ.out _).mono ?_
  rintro e w' ⟨⟨r, rfl⟩, rfl⟩
  cases r with
  | false =>
    go_wp2
    go_ret
    exact ⟨rfl, Below.refl _ _⟩
  | true =>
  go_wp2_with fail
  refine (scalar_calls _ _ _ _ _ _).mono ?_
  rintro e w' ⟨rfl, rfl⟩
  go_wp2_with fail
  refine (scalar_calls _ _ _ _ _ _).mono ?_
  rintro e w' ⟨rfl, rfl⟩
  go_wp2_with fail
  refine (CO.out _).mono ?_
  rintro e w5 ⟨rfl, hb⟩
  have BC : Hid (∀ W, Calls Try.prog 20 #[.string a1, .string a6] W fun e w' => e = .returned (.int .i64 (Lib.compareBytes a1.data.toList a6.data.toList)) ∧ ∃ n, w' = W.drewN n) := fun W => byteCmp_calls a1 a6 (by omega) (by omega) W
  clear CO
  generalize Lib.compareBytes a1.data.toList a6.data.toList = c at *
  go_wp2_with fail
  refine (BC.out _).mono ?_
  rintro e w6 ⟨rfl, n6, rfl⟩
  go_wp2
  go_ret
  exact ⟨ret_bool (by simp), below_drewN (below_end hb) n6⟩

set_option maxHeartbeats 4000000 in
set_option maxRecDepth 100000 in
theorem texts2 (a0 : Int) (a1 : ByteArray) (a2 : Bool) (a3 : ByteArray) (a4 : Int) (a5 : Int) (a6 : ByteArray) (a7 : Bool) (a8 : ByteArray) (a9 : Int) (m1 : a1.size ≤ maxLen) (m3 : a3.size ≤ maxLen) (m6 : a6.size ≤ maxLen) (m8 : a8.size ≤ maxLen) (g1 : (a1.size : Int) ≤ 262144) (g6 : (a6.size : Int) ≤ 262144) (g3 : (a3.size : Int) ≤ 4096) (g8 : (a8.size : Int) ≤ 4096) (x1 : -4096 ≤ a4) (x2 : a4 ≤ 4096) (x3 : -4096 ≤ a9) (x4 : a9 ≤ 4096) (h0 : a0 = 2) (h5 : a5 = 2) (w : World) :
    Calls Try.prog 5 #[.int .i64 a0, .string a1, .bool a2, .string a3, .int .i64 a4, .int .i64 a5, .string a6, .bool a7, .string a8, .int .i64 a9] w fun e w' => e = .returned (.bool true) ∧ Below w.heap.size w w' := by
  subst h0 h5
  have CO : Hid (∀ W, Calls Try.prog 18 #[.agg #[.int .i64 2, .string a1, .bool a2, .string a3, .int .i64 a4, .bool false, .slice none 0 0, .map none, .slice none 0 0], .agg #[.int .i64 2, .string a6, .bool a7, .string a8, .int .i64 a9, .bool false, .slice none 0 0, .map none, .slice none 0 0]] W fun x w' => x = .returned (.tuple #[.int .i64 (Lib.compareBytes a1.data.toList a6.data.toList), .bool true]) ∧ Below W.heap.size W w') := fun W => zzco 2 2 a1 a6 a2 a7 a3 a8 a4 a9 _ _ (fun W => co_str 2 a1 a6 a2 a7 a3 a8 a4 a9 (by omega) W) W
  have HZ : Hid (∀ W, Calls Try.prog 15 #[.int .i64 2, .string a1, .bool a2, .string a3, .int .i64 a4, .int .i64 2, .string a6, .bool a7, .string a8, .int .i64 a9] W fun x w' => AnyBool x ∧ W = w') := fun W => bytes_calls 2 2 a1 a6 a2 a7 a3 a8 a4 a9 m1 m3 m6 m8 W
  have z3 : a3.size ≤ 4096 := by omega
  have z8 : a8.size ≤ 4096 := by omega
  clear m1 m3 m6 m8
  go_enter Try.func5, Try.ntmps5
  go_wp2_with fail
  refine (HZ.out _).mono ?_
  rintro e w' ⟨⟨r, rfl⟩, rfl⟩
  cases r with
  | false =>
    go_wp2
    go_ret
    exact ⟨rfl, Below.refl _ _⟩
  | true =>
  go_wp2_with fail
  refine (scalar_calls _ _ _ _ _ _).mono ?_
  rintro e w' ⟨rfl, rfl⟩
  go_wp2_with fail
  refine (scalar_calls _ _ _ _ _ _).mono ?_
  rintro e w' ⟨rfl, rfl⟩
  go_wp2_with fail
  refine (CO.out _).mono ?_
  rintro e w5 ⟨rfl, hb⟩
  have BC : Hid (∀ W, Calls Try.prog 20 #[.string a1, .string a6] W fun e w' => e = .returned (.int .i64 (Lib.compareBytes a1.data.toList a6.data.toList)) ∧ ∃ n, w' = W.drewN n) := fun W => byteCmp_calls a1 a6 (by omega) (by omega) W
  clear CO
  generalize Lib.compareBytes a1.data.toList a6.data.toList = c at *
  go_wp2_with fail
  refine (BC.out _).mono ?_
  rintro e w6 ⟨rfl, n6, rfl⟩
  go_wp2
  go_ret
  exact ⟨ret_bool (by simp), below_drewN (below_end hb) n6⟩

set_option maxHeartbeats 4000000 in
set_option maxRecDepth 100000 in
theorem walk (a0 : Int) (a1 : ByteArray) (a2 : Bool) (a3 : ByteArray) (a4 : Int) (a5 : Int) (a6 : ByteArray) (a7 : Bool) (a8 : ByteArray) (a9 : Int) (w0 : (Lit.int .i64 a0).wf = true) (w1 : a1.size ≤ maxLen) (w3 : a3.size ≤ maxLen) (w4 : (Lit.int .i64 a4).wf = true) (w5 : (Lit.int .i64 a5).wf = true) (w6 : a6.size ≤ maxLen) (w8 : a8.size ≤ maxLen) (w9 : (Lit.int .i64 a9).wf = true) (w : World) :
    Calls Try.prog 5 #[.int .i64 a0, .string a1, .bool a2, .string a3, .int .i64 a4, .int .i64 a5, .string a6, .bool a7, .string a8, .int .i64 a9] w fun e w' => e = .returned (.bool true) ∧ Below w.heap.size w w' := by
  have HZ : Hid (∀ W, Calls Try.prog 15 #[.int .i64 a0, .string a1, .bool a2, .string a3, .int .i64 a4, .int .i64 a5, .string a6, .bool a7, .string a8, .int .i64 a9] W fun x w' => AnyBool x ∧ W = w') := fun W => bytes_calls a0 a5 a1 a6 a2 a7 a3 a8 a4 a9 w1 w3 w6 w8 W
  clear w0 w4 w5 w9
  by_cases c0 : (262144 : Int) < (a1.size : Int)
  · clear w1 w3 w6 w8
    go_enter Try.func5, Try.ntmps5
    go_wp2_with fail
    refine (HZ.out _).mono ?_
    rintro e w' ⟨⟨r, rfl⟩, rfl⟩
    cases r with
    | false =>
      go_wp2
      go_ret
      exact ⟨rfl, Below.refl _ _⟩
    | true =>
      go_wp2
      go_ret
      exact ⟨rfl, Below.refl _ _⟩
  by_cases c1 : (262144 : Int) < (a6.size : Int)
  · clear w1 w3 w6 w8
    go_enter Try.func5, Try.ntmps5
    go_wp2_with fail
    refine (HZ.out _).mono ?_
    rintro e w' ⟨⟨r, rfl⟩, rfl⟩
    cases r with
    | false =>
      go_wp2
      go_ret
      exact ⟨rfl, Below.refl _ _⟩
    | true =>
      go_wp2
      go_ret
      exact ⟨rfl, Below.refl _ _⟩
  by_cases c2 : (4096 : Int) < (a3.size : Int)
  · clear w1 w3 w6 w8
    go_enter Try.func5, Try.ntmps5
    go_wp2_with fail
    refine (HZ.out _).mono ?_
    rintro e w' ⟨⟨r, rfl⟩, rfl⟩
    cases r with
    | false =>
      go_wp2
      go_ret
      exact ⟨rfl, Below.refl _ _⟩
    | true =>
      go_wp2
      go_ret
      exact ⟨rfl, Below.refl _ _⟩
  by_cases c3 : (4096 : Int) < (a8.size : Int)
  · clear w1 w3 w6 w8
    go_enter Try.func5, Try.ntmps5
    go_wp2_with fail
    refine (HZ.out _).mono ?_
    rintro e w' ⟨⟨r, rfl⟩, rfl⟩
    cases r with
    | false =>
      go_wp2
      go_ret
      exact ⟨rfl, Below.refl _ _⟩
    | true =>
      go_wp2
      go_ret
      exact ⟨rfl, Below.refl _ _⟩
  by_cases c4 : a4 < -4096
  · clear w1 w3 w6 w8
    go_enter Try.func5, Try.ntmps5
    go_wp2_with fail
    refine (HZ.out _).mono ?_
    rintro e w' ⟨⟨r, rfl⟩, rfl⟩
    cases r with
    | false =>
      go_wp2
      go_ret
      exact ⟨rfl, Below.refl _ _⟩
    | true =>
      go_wp2
      go_ret
      exact ⟨rfl, Below.refl _ _⟩
  by_cases c5 : 4096 < a4
  · clear w1 w3 w6 w8
    go_enter Try.func5, Try.ntmps5
    go_wp2_with fail
    refine (HZ.out _).mono ?_
    rintro e w' ⟨⟨r, rfl⟩, rfl⟩
    cases r with
    | false =>
      go_wp2
      go_ret
      exact ⟨rfl, Below.refl _ _⟩
    | true =>
      go_wp2
      go_ret
      exact ⟨rfl, Below.refl _ _⟩
  by_cases c6 : a9 < -4096
  · clear w1 w3 w6 w8
    go_enter Try.func5, Try.ntmps5
    go_wp2_with fail
    refine (HZ.out _).mono ?_
    rintro e w' ⟨⟨r, rfl⟩, rfl⟩
    cases r with
    | false =>
      go_wp2
      go_ret
      exact ⟨rfl, Below.refl _ _⟩
    | true =>
      go_wp2
      go_ret
      exact ⟨rfl, Below.refl _ _⟩
  by_cases c7 : 4096 < a9
  · clear w1 w3 w6 w8
    go_enter Try.func5, Try.ntmps5
    go_wp2_with fail
    refine (HZ.out _).mono ?_
    rintro e w' ⟨⟨r, rfl⟩, rfl⟩
    cases r with
    | false =>
      go_wp2
      go_ret
      exact ⟨rfl, Below.refl _ _⟩
    | true =>
      go_wp2
      go_ret
      exact ⟨rfl, Below.refl _ _⟩
  clear HZ
  by_cases heq : a0 = a5
  · by_cases h1 : a0 = 1
    · exact numbers a0 a1 a2 a3 a4 a5 a6 a7 a8 a9 w1 w3 w6 w8 (by omega) (by omega) (by omega) (by omega) (by omega) (by omega) (by omega) (by omega) h1 (by omega) w
    by_cases h0 : a0 = 0
    · exact texts0 a0 a1 a2 a3 a4 a5 a6 a7 a8 a9 w1 w3 w6 w8 (by omega) (by omega) (by omega) (by omega) (by omega) (by omega) (by omega) (by omega) h0 (by omega) w
    by_cases h2 : a0 = 2
    · exact texts2 a0 a1 a2 a3 a4 a5 a6 a7 a8 a9 w1 w3 w6 w8 (by omega) (by omega) (by omega) (by omega) (by omega) (by omega) (by omega) (by omega) h2 (by omega) w
    exact other a0 a1 a2 a3 a4 a5 a6 a7 a8 a9 w1 w3 w6 w8 (by omega) (by omega) (by omega) (by omega) (by omega) (by omega) (by omega) (by omega) heq h0 h1 h2 w
  · by_cases h1 : a0 = 1
    · have k1 : (a0 == 1) = true := by simpa using h1
      have k2 : (a5 == 1) = false := by rw [beq_eq_false_iff_ne]; omega
      exact diff_tf a0 a1 a2 a3 a4 a5 a6 a7 a8 a9 w1 w3 w6 w8 (by omega) (by omega) (by omega) (by omega) (by omega) (by omega) (by omega) (by omega) heq k1 k2 w
    · have k1 : (a0 == 1) = false := by simpa using h1
      by_cases h5 : a5 = 1
      · have k2 : (a5 == 1) = true := by simpa using h5
        exact diff_ft a0 a1 a2 a3 a4 a5 a6 a7 a8 a9 w1 w3 w6 w8 (by omega) (by omega) (by omega) (by omega) (by omega) (by omega) (by omega) (by omega) heq k1 k2 w
      · have k2 : (a5 == 1) = false := by simpa using h5
        exact diff_ff a0 a1 a2 a3 a4 a5 a6 a7 a8 a9 w1 w3 w6 w8 (by omega) (by omega) (by omega) (by omega) (by omega) (by omega) (by omega) (by omega) heq k1 k2 w

/-! ### THE ROW's STEP: WRITTEN OUT: LEAVE IT -/
set_option maxRecDepth 100000 in
theorem lifted (os : Os) (started : os.Started) (H : Type) (enc : TypeId × Value → H) :
    ReturnsInHanded {} Try.checked os 5 .any (Rows.fnCompareOrderedMatchesModelSpec.pre6 enc Try.prog Try.f5 Rows.fnCompareOrderedMatchesModelRow.domain false) (Rows.fnCompareOrderedMatchesModelSpec.post enc Try.prog Try.f5 false true false false) := by
  refine returnsInHanded_of_change (C := Try.checked) own started (by kernel_rfl) Try.func5
    (ChangeSpec.witness6 (enc := enc) (C := Try.checked) false ⟨#[], #[.int .i64 0, .string ByteArray.empty, .bool false, .string ByteArray.empty, .int .i64 0, .int .i64 0, .string ByteArray.empty, .bool false, .string ByteArray.empty, .int .i64 0], []⟩ 8 (by kernel_rfl) (by kernel_rfl) (by kernel_rfl) (by kernel_rfl)) ?_
  intro W base args ds gs before hval0 hW hcnd _
  have hval : ∀ (j : Nat) t v, Try.f5.params[j]? = some t → args[j]? = some v → Value.okWide Try.prog W .any base t v := hval0
  have hW' := hW
  obtain ⟨p, q, hA0, hV, rfl, hfz, hnd⟩ := hW
  have hA : DataW.TrodAll enc Try.prog W 0 (fun _ => true) true Try.f5.params.toList args.toList ds p := hA0
  rw [Try.params5] at hA hval
  obtain ⟨v0, vs0, d0, ds0, p0, q0, hargs, rfl, rfl, h0, r0⟩ := trodAll_cons hA
  obtain ⟨v1, vs1, d1, ds1, p1, q1, rfl, rfl, rfl, h1, r1⟩ := trodAll_cons r0
  obtain ⟨v2, vs2, d2, ds2, p2, q2, rfl, rfl, rfl, h2, r2⟩ := trodAll_cons r1
  obtain ⟨v3, vs3, d3, ds3, p3, q3, rfl, rfl, rfl, h3, r3⟩ := trodAll_cons r2
  obtain ⟨v4, vs4, d4, ds4, p4, q4, rfl, rfl, rfl, h4, r4⟩ := trodAll_cons r3
  obtain ⟨v5, vs5, d5, ds5, p5, q5, rfl, rfl, rfl, h5, r5⟩ := trodAll_cons r4
  obtain ⟨v6, vs6, d6, ds6, p6, q6, rfl, rfl, rfl, h6, r6⟩ := trodAll_cons r5
  obtain ⟨v7, vs7, d7, ds7, p7, q7, rfl, rfl, rfl, h7, r7⟩ := trodAll_cons r6
  obtain ⟨v8, vs8, d8, ds8, p8, q8, rfl, rfl, rfl, h8, r8⟩ := trodAll_cons r7
  obtain ⟨v9, vs9, d9, ds9, p9, q9, rfl, rfl, rfl, h9, r9⟩ := trodAll_cons r8
  obtain ⟨rfl, rfl, rfl⟩ := trodAll_nil r9
  obtain rfl : args = #[v0, v1, v2, v3, v4, v5, v6, v7, v8, v9] := by cases args; simp_all
  obtain ⟨rfl, rfl⟩ := trodVars_none hV
  obtain ⟨a0, rfl, rfl, rfl, w0⟩ := open_int Try.underlying3 (hval 0 3 v0 rfl rfl) h0
  obtain ⟨a1, rfl, rfl, rfl, w1⟩ := open_string Try.underlying9 (hval 1 9 v1 rfl rfl) h1
  obtain ⟨a2, rfl, rfl, rfl⟩ := open_bool Try.underlying4 (hval 2 4 v2 rfl rfl) h2
  obtain ⟨a3, rfl, rfl, rfl, w3⟩ := open_string Try.underlying9 (hval 3 9 v3 rfl rfl) h3
  obtain ⟨a4, rfl, rfl, rfl, w4⟩ := open_int Try.underlying3 (hval 4 3 v4 rfl rfl) h4
  obtain ⟨a5, rfl, rfl, rfl, w5⟩ := open_int Try.underlying3 (hval 5 3 v5 rfl rfl) h5
  obtain ⟨a6, rfl, rfl, rfl, w6⟩ := open_string Try.underlying9 (hval 6 9 v6 rfl rfl) h6
  obtain ⟨a7, rfl, rfl, rfl⟩ := open_bool Try.underlying4 (hval 7 4 v7 rfl rfl) h7
  obtain ⟨a8, rfl, rfl, rfl, w8⟩ := open_string Try.underlying9 (hval 8 9 v8 rfl rfl) h8
  obtain ⟨a9, rfl, rfl, rfl, w9⟩ := open_int Try.underlying3 (hval 9 3 v9 rfl rfl) h9
  clear hA0 hval0
  simp only [List.append_nil] at hW'
  refine (walk a0 a1 a2 a3 a4 a5 a6 a7 a8 a9 w0 w1 w3 w4 w5 w6 w8 w9 W).mono fun e W' ⟨he, bel⟩ => ?_
  subst he
  exact ⟨_, rfl, _, _, _, [], _, [], hW', trodAll_mk1 (shut_bool Try.underlying4 _), (trodAll_cons_mk (shut_int Try.underlying3 w0) (trodAll_cons_mk (shut_string Try.underlying9 w1) (trodAll_cons_mk (shut_bool Try.underlying4 _) (trodAll_cons_mk (shut_string Try.underlying9 w3) (trodAll_cons_mk (shut_int Try.underlying3 w4) (trodAll_cons_mk (shut_int Try.underlying3 w5) (trodAll_cons_mk (shut_string Try.underlying9 w6) (trodAll_cons_mk (shut_bool Try.underlying4 _) (trodAll_cons_mk (shut_string Try.underlying9 w8) (trodAll_cons_mk (shut_int Try.underlying3 w9) trodAll_mk0)))))))))), rfl, bel.frame _, fun h => by cases h⟩

theorem closed : joinedFacts Try.prog 5 Try.f5 Rows.fnCompareOrderedMatchesModelSpec Rows.fnCompareOrderedMatchesModelRow = true := by
  unfold joinedFacts
  rw [Head.may, Head.liftsNone, Head.made]
  kernel_rfl

theorem over : Rows.fnCompareOrderedMatchesModelRow.holds Try.pinned (OpenSpec.ofChange Rows.fnCompareOrderedMatchesModelSpec) :=
  OpenClaim.holds_of_wide 5 Try.f5 rfl rfl rfl rfl rfl rfl rfl ⟨rfl, rfl, rfl, rfl, rfl⟩ rfl rfl rfl rfl rfl (by kernel_rfl) Try.func5 closed
    (of_decide_eq_true (by kernel_rfl)) (by unfold Func.isWrapper; first | (rw [if_pos (by decide +kernel)]; kernel_rfl) | (rw [if_neg (by decide +kernel)]; exact ⟨rfl, rfl⟩))
    (fun os started H enc _ => lifted os started H enc)

/-- ████ THE STATEMENT ████ -/
theorem proved : Rows.FnCompareOrderedMatchesModelSaid :=
  over
end Go.Proofs.Qxb6001698a.fnCompareOrderedMatchesModel
