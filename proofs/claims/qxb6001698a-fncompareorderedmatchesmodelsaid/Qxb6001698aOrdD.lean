import Derived.Test.Qxb6001698aOrdC
/- attrValue: the scalar, and compareOrdered. -/
namespace Go.Proofs.Qxb6001698a.Ord
open Go.RowKit

def AnyBool (e : Ending) : Prop := ∃ r : Bool, e = .returned (.bool r)

theorem scalar_calls (t1 : Int) (s1 : ByteArray) (n1 : Bool) (d1 : ByteArray) (e1 : Int) (w : World) :
    Calls Try.prog 17 #[.int .i64 t1, .string s1, .bool n1, .string d1, .int .i64 e1] w fun x w' => x = .returned (.agg #[.int .i64 t1, .string s1, .bool n1, .string d1, .int .i64 e1, .bool false, .slice none 0 0, .map none, .slice none 0 0]) ∧ w.alloc (.cells #[.int .i64 t1, .string s1, .bool n1, .string d1, .int .i64 e1, .bool false, .slice none 0 0, .map none, .slice none 0 0] 38) = w' := by
  go_enter Try.func17, Try.ntmps17
  go_wp2
  exact bodyPost_ret (v := .agg #[.int .i64 t1, .string s1, .bool n1, .string d1, .int .i64 e1, .bool false, .slice none 0 0, .map none, .slice none 0 0]) (by simp [results, Try.results17, go_sem]) rfl ⟨rfl, rfl⟩

theorem ret_ib {n m : Int} {b : Bool} (hn : n = m) : Ending.returned (.tuple #[.int .i64 n, .bool b]) = .returned (.tuple #[.int .i64 m, .bool b]) := by rw [hn]

set_option maxHeartbeats 1000000 in
set_option maxRecDepth 100000 in
theorem co_diff (t1 t2 : Int) (s1 s2 : ByteArray) (n1 n2 : Bool) (d1 d2 : ByteArray) (e1 e2 : Int) (h : t1 ≠ t2) (w : World) :
    Calls Try.prog 33 #[.agg #[.int .i64 t1, .string s1, .bool n1, .string d1, .int .i64 e1, .bool false, .slice none 0 0, .map none, .slice none 0 0], .agg #[.int .i64 t2, .string s2, .bool n2, .string d2, .int .i64 e2, .bool false, .slice none 0 0, .map none, .slice none 0 0]] w fun x w' => x = .returned (.tuple #[.int .i64 0, .bool false]) ∧ Below w.heap.size w w' := by
  have h' : (t1 != t2) = true := by simpa using h
  clear h
  go_enter Try.func33, Try.ntmps33
  go_wp2
  go_ret2
  exact ⟨rfl, below2 _ _ _⟩

set_option maxHeartbeats 1000000 in
set_option maxRecDepth 100000 in
theorem co_other (t1 : Int) (s1 s2 : ByteArray) (n1 n2 : Bool) (d1 d2 : ByteArray) (e1 e2 : Int) (h0 : t1 ≠ 0) (h1 : t1 ≠ 1) (h2 : t1 ≠ 2) (w : World) :
    Calls Try.prog 33 #[.agg #[.int .i64 t1, .string s1, .bool n1, .string d1, .int .i64 e1, .bool false, .slice none 0 0, .map none, .slice none 0 0], .agg #[.int .i64 t1, .string s2, .bool n2, .string d2, .int .i64 e2, .bool false, .slice none 0 0, .map none, .slice none 0 0]] w fun x w' => x = .returned (.tuple #[.int .i64 0, .bool false]) ∧ Below w.heap.size w w' := by
  have k0 : (t1 == 0) = false := by simpa using h0
  have k1 : (t1 == 1) = false := by simpa using h1
  have k2 : (t1 == 2) = false := by simpa using h2
  clear h0 h1 h2
  go_enter Try.func33, Try.ntmps33
  go_wp2
  go_ret2
  exact ⟨rfl, below2 _ _ _⟩

set_option maxHeartbeats 1000000 in
set_option maxRecDepth 100000 in
theorem co_str (t1 : Int) (s1 s2 : ByteArray) (n1 n2 : Bool) (d1 d2 : ByteArray) (e1 e2 : Int) (h : t1 = 0 ∨ t1 = 2) (w : World) :
    Calls Try.prog 33 #[.agg #[.int .i64 t1, .string s1, .bool n1, .string d1, .int .i64 e1, .bool false, .slice none 0 0, .map none, .slice none 0 0], .agg #[.int .i64 t1, .string s2, .bool n2, .string d2, .int .i64 e2, .bool false, .slice none 0 0, .map none, .slice none 0 0]] w fun x w' => x = .returned (.tuple #[.int .i64 (Lib.compareBytes s1.data.toList s2.data.toList), .bool true]) ∧ Below w.heap.size w w' := by
  have SC : Hid (∀ W, Calls Try.prog 43 #[.string s1, .string s2] W fun e w' => e = .returned (.int .i64 (Lib.compareBytes s1.data.toList s2.data.toList)) ∧ W = w') := fun W => strCmp_calls s1 s2 W
  generalize Lib.compareBytes s1.data.toList s2.data.toList = m at *
  rcases h with rfl | rfl
  all_goals
    go_enter Try.func33, Try.ntmps33
    go_wp2_with fail
    refine (SC.out _).mono ?_
    rintro e w' ⟨rfl, rfl⟩
    go_wp2
    go_ret2
    exact ⟨rfl, below2 _ _ _⟩

set_option maxHeartbeats 1000000 in
set_option maxRecDepth 100000 in
theorem co_num (s1 s2 : ByteArray) (n1 n2 : Bool) (d1 d2 : ByteArray) (e1 e2 : Int) (w : World) :
    Calls Try.prog 33 #[.agg #[.int .i64 1, .string s1, .bool n1, .string d1, .int .i64 e1, .bool false, .slice none 0 0, .map none, .slice none 0 0], .agg #[.int .i64 1, .string s2, .bool n2, .string d2, .int .i64 e2, .bool false, .slice none 0 0, .map none, .slice none 0 0]] w fun x w' => x = .returned (.tuple #[.int .i64 (dec n1 d1.data.toList e1 n2 d2.data.toList e2), .bool true]) ∧ Below w.heap.size w w' := by
  have SC : Hid (∀ W, Calls Try.prog 42 #[.agg #[.bool n1, .string d1, .int .i64 e1], .agg #[.bool n2, .string d2, .int .i64 e2]] W fun x w' => x = .returned (.int .i64 (dec n1 d1.data.toList e1 n2 d2.data.toList e2)) ∧ Below W.heap.size W w') := fun W => compare_calls n1 n2 d1 d2 e1 e2 W
  generalize dec n1 d1.data.toList e1 n2 d2.data.toList e2 = m at *
  go_enter Try.func33, Try.ntmps33
  go_wp2_with fail
  refine (SC.out _).mono ?_
  rintro e w' ⟨rfl, hb⟩
  go_wp2
  go_ret2
  exact ⟨rfl, (below2 _ _ _).trans (hb.mono (by simp; omega))⟩

set_option maxHeartbeats 1000000 in
set_option maxRecDepth 100000 in
theorem zzco (t1 t2 : Int) (s1 s2 : ByteArray) (n1 n2 : Bool) (d1 d2 : ByteArray) (e1 e2 : Int) (c : Int) (ok : Bool) (h : ∀ W, Calls Try.prog 33 #[.agg #[.int .i64 t1, .string s1, .bool n1, .string d1, .int .i64 e1, .bool false, .slice none 0 0, .map none, .slice none 0 0], .agg #[.int .i64 t2, .string s2, .bool n2, .string d2, .int .i64 e2, .bool false, .slice none 0 0, .map none, .slice none 0 0]] W fun x w' => x = .returned (.tuple #[.int .i64 c, .bool ok]) ∧ Below W.heap.size W w') (w : World) :
    Calls Try.prog 18 #[.agg #[.int .i64 t1, .string s1, .bool n1, .string d1, .int .i64 e1, .bool false, .slice none 0 0, .map none, .slice none 0 0], .agg #[.int .i64 t2, .string s2, .bool n2, .string d2, .int .i64 e2, .bool false, .slice none 0 0, .map none, .slice none 0 0]] w fun x w' => x = .returned (.tuple #[.int .i64 c, .bool ok]) ∧ Below w.heap.size w w' := by
  have H : Hid (∀ W, Calls Try.prog 33 #[.agg #[.int .i64 t1, .string s1, .bool n1, .string d1, .int .i64 e1, .bool false, .slice none 0 0, .map none, .slice none 0 0], .agg #[.int .i64 t2, .string s2, .bool n2, .string d2, .int .i64 e2, .bool false, .slice none 0 0, .map none, .slice none 0 0]] W fun x w' => x = .returned (.tuple #[.int .i64 c, .bool ok]) ∧ Below W.heap.size W w') := h
  clear h
  go_enter Try.func18, Try.ntmps18
  go_wp2_with fail
  refine (H.out _).mono ?_
  rintro e w' ⟨rfl, hb⟩
  go_wp2
  go_ret2
  exact ⟨rfl, (below2 _ _ _).trans (hb.mono (by simp; omega))⟩

set_option maxHeartbeats 1000000 in
set_option maxRecDepth 100000 in
theorem bytes_calls (t1 t2 : Int) (s1 s2 : ByteArray) (n1 n2 : Bool) (d1 d2 : ByteArray) (e1 e2 : Int) (g1 : s1.size ≤ maxLen) (g2 : d1.size ≤ maxLen) (g3 : s2.size ≤ maxLen) (g4 : d2.size ≤ maxLen) (w : World) :
    Calls Try.prog 15 #[.int .i64 t1, .string s1, .bool n1, .string d1, .int .i64 e1, .int .i64 t2, .string s2, .bool n2, .string d2, .int .i64 e2] w fun x w' => AnyBool x ∧ w = w' := by
  unfold maxLen at g1 g2 g3 g4
  by_cases h0 : (1048576 : Int) < (s1.size : Int)
  · go_enter Try.func15, Try.ntmps15
    go_wp2
    go_ret
    exact ⟨⟨_, rfl⟩, rfl⟩
  by_cases h1 : (1048576 : Int) < (d1.size : Int)
  · go_enter Try.func15, Try.ntmps15
    go_wp2
    go_ret
    exact ⟨⟨_, rfl⟩, rfl⟩
  by_cases h2 : (1048576 : Int) < (s1.size : Int) + (d1.size : Int)
  · go_enter Try.func15, Try.ntmps15
    go_wp2
    go_ret
    exact ⟨⟨_, rfl⟩, rfl⟩
  by_cases h3 : (1048576 : Int) < (s2.size : Int)
  · go_enter Try.func15, Try.ntmps15
    go_wp2
    go_ret
    exact ⟨⟨_, rfl⟩, rfl⟩
  by_cases h4 : (1048576 : Int) < (s1.size : Int) + (d1.size : Int) + (s2.size : Int)
  · go_enter Try.func15, Try.ntmps15
    go_wp2
    go_ret
    exact ⟨⟨_, rfl⟩, rfl⟩
  by_cases h5 : (1048576 : Int) < (d2.size : Int)
  · go_enter Try.func15, Try.ntmps15
    go_wp2
    go_ret
    exact ⟨⟨_, rfl⟩, rfl⟩
  by_cases h6 : (1048576 : Int) < (s1.size : Int) + (d1.size : Int) + (s2.size : Int) + (d2.size : Int)
  · go_enter Try.func15, Try.ntmps15
    go_wp2
    go_ret
    exact ⟨⟨_, rfl⟩, rfl⟩
  go_enter Try.func15, Try.ntmps15
  go_wp2
  go_ret
  exact ⟨⟨_, rfl⟩, rfl⟩
end Go.Proofs.Qxb6001698a.Ord
