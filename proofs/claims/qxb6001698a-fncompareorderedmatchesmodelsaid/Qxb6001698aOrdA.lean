import Derived.Test.Qxb6001698aRows
import Derived.WalkKit
import Derived.WalkSpells
import Derived.WalkLawsBesides
import Derived.Deep.QuietTactic
import Derived.BigQuiet
import Derived.Deep.Light
import Derived.Lib.Bytealg
import Derived.Test.Qxb6001698aOrdP
/- strings.Compare, g2ByteCompare, g2CmpInt, cmp.Compare at int, the signs. -/
namespace Go.Proofs.Qxb6001698a.Ord
open Go.RowKit

theorem ret_bool {a b : Bool} (h : a = b) : Ending.returned (.bool a) = .returned (.bool b) := by rw [h]
theorem ret_i64 {a b : Int} (h : a = b) : Ending.returned (.int .i64 a) = .returned (.int .i64 b) := by rw [h]

theorem strCmp_calls (a b : ByteArray) (w : World) :
    Calls Try.prog 43 #[.string a, .string b] w fun e w' => e = .returned (.int .i64 (Lib.compareBytes a.data.toList b.data.toList)) ∧ w = w' := by
  have hr : ∀ W, (callFunc 51 #[.string a, .string b]).run Try.prog W = .ok (.value (.int .i64 (Lib.compareBytes a.data.toList b.data.toList))) W := fun W => by
    rw [run_callFunc_extern Try.func51 (by kernel_rfl) (by kernel_rfl) (by kernel_rfl) (e := Extern.BytealgCompare.compare) (by kernel_rfl), Lib.run_compareString]
    rfl
  generalize Lib.compareBytes a.data.toList b.data.toList = r at *
  go_enter Try.func43, Try.ntmps43
  go_wp2
  go_ret
  exact ⟨rfl, rfl⟩

theorem cmpInt_calls (x y : Int) (w : World) :
    Calls Try.prog 46 #[.int .i64 x, .int .i64 y] w fun e w' => e = .returned (.int .i64 (cmpI x y)) ∧ w = w' := by
  rcases Int.lt_trichotomy x y with h | h | h
  · have E : Hid (cmpI x y = -1) := cmpI_lt h
    go_enter Try.func46, Try.ntmps46
    go_wp2
    go_ret
    exact ⟨ret_i64 E.out.symm, rfl⟩
  · subst h
    have E : Hid (cmpI x x = 0) := cmpI_self x
    go_enter Try.func46, Try.ntmps46
    go_wp2
    go_ret
    exact ⟨ret_i64 E.out.symm, rfl⟩
  · have E : Hid (cmpI x y = 1) := cmpI_gt h
    have h' : ¬ x < y := by omega
    go_enter Try.func46, Try.ntmps46
    go_wp2
    go_ret
    exact ⟨ret_i64 E.out.symm, rfl⟩

theorem cmpInt2_calls (x y : Int) (w : World) :
    Calls Try.prog 35 #[.int .i64 x, .int .i64 y] w fun e w' => e = .returned (.int .i64 (cmpI x y)) ∧ w = w' := by
  rcases Int.lt_trichotomy x y with h | h | h
  · have E : Hid (cmpI x y = -1) := cmpI_lt h
    go_enter Try.func35, Try.ntmps35
    go_wp2
    go_ret
    exact ⟨ret_i64 E.out.symm, rfl⟩
  · subst h
    have E : Hid (cmpI x x = 0) := cmpI_self x
    go_enter Try.func35, Try.ntmps35
    go_wp2
    go_ret
    exact ⟨ret_i64 E.out.symm, rfl⟩
  · have E : Hid (cmpI x y = 1) := cmpI_gt h
    have h' : ¬ x < y := by omega
    go_enter Try.func35, Try.ntmps35
    go_wp2
    go_ret
    exact ⟨ret_i64 E.out.symm, rfl⟩

theorem isEmpty_toList (s : ByteArray) : s.toList.isEmpty = s.data.toList.isEmpty := by rw [ByteArray.toList_eq]

theorem sgn_calls (neg : Bool) (s : ByteArray) (w : World) :
    Calls Try.prog 34 #[.bool neg, .string s] w fun e w' => e = .returned (.int .i64 (sgn neg s.data.toList)) ∧ w = w' := by
  cases he : s.data.toList.isEmpty with
  | true =>
    have E : Hid (sgn neg s.data.toList = 0) := by show sgn neg s.data.toList = _; unfold sgn; rw [he]; rfl
    have he' : s.toList.isEmpty = true := by rw [isEmpty_toList]; exact he
    clear he
    go_enter Try.func34, Try.ntmps34
    go_wp2
    go_ret
    exact ⟨ret_i64 E.out.symm, rfl⟩
  | false =>
    have he' : s.toList.isEmpty = false := by rw [isEmpty_toList]; exact he
    cases neg with
    | true =>
      have E : Hid (sgn true s.data.toList = -1) := by show sgn true s.data.toList = _; unfold sgn; rw [he]; rfl
      clear he
      go_enter Try.func34, Try.ntmps34
      go_wp2
      go_ret
      exact ⟨ret_i64 E.out.symm, rfl⟩
    | false =>
      have E : Hid (sgn false s.data.toList = 1) := by show sgn false s.data.toList = _; unfold sgn; rw [he]; rfl
      clear he
      go_enter Try.func34, Try.ntmps34
      go_wp2
      go_ret
      exact ⟨ret_i64 E.out.symm, rfl⟩

theorem get_list (s : ByteArray) (k : Nat) (h : k < s.size) : s.data.toList[k]'(by simpa using h) = s[k] := rfl
theorem take_snoc (s : ByteArray) (k : Nat) (h : k < s.size) : s.data.toList.take (k + 1) = s.data.toList.take k ++ [s[k]] := by
  rw [List.take_succ_eq_append_getElem (by simpa using h)]; rfl

theorem len_list (s : ByteArray) : s.data.toList.length = s.size := by simp

set_option maxHeartbeats 4000000 in
set_option maxRecDepth 100000 in
theorem byteCmp_calls (a b : ByteArray) (ha : a.size ≤ 300000) (hb : b.size ≤ 300000) (w : World) :
    Calls Try.prog 20 #[.string a, .string b] w fun e w' => e = .returned (.int .i64 (Lib.compareBytes a.data.toList b.data.toList)) ∧ ∃ n, w' = w.drewN n := by
  obtain ⟨n, hn⟩ : ∃ n, n = min a.size b.size := ⟨_, rfl⟩
  generalize hr : Lib.compareBytes a.data.toList b.data.toList = r
  have HR : Hid (Lib.compareBytes a.data.toList b.data.toList = r) := hr
  have HN : Hid (n = min a.size b.size) := hn
  have hna : n ≤ a.size := by omega
  have hnb : n ≤ b.size := by omega
  have hsplit : (b.size < a.size ∧ n = b.size) ∨ (a.size ≤ b.size ∧ n = a.size) := by omega
  clear hr hn
  rcases hsplit with ⟨hlt0, rfl⟩ | ⟨hle0, rfl⟩
  all_goals
    first
      | have hd' : decide (b.size < a.size) = true := decide_eq_true (by omega)
      | have hd' : decide (b.size < a.size) = false := decide_eq_false (by omega)
    go_enter Try.func20, Try.ntmps20
    go_wp2
    go_loopw [6] (fun i wr => ∃ k : Nat, k ≤ a.size ∧ k ≤ b.size ∧ i = .int .i64 (k : Int) ∧ Hid (a.data.toList.take k = b.data.toList.take k) ∧ ∃ q, wr = w.drewN q) (fun i _ => a.size - (intOf i).toNat)
    case atStart => exact ⟨0, by omega, by omega, rfl, rfl, 0, rfl⟩
    case round =>
      obtain ⟨k, hka, hkb, rfl, HT, q, rfl⟩ := hrel
      by_cases hlt : k < a.size ∧ k < b.size
      · obtain ⟨h1, h2⟩ := hlt
        have i1 : (k : Int) < (a.size : Int) := by omega
        have i2 : (k : Int) < (b.size : Int) := by omega
        have HA := cb_at a.data.toList b.data.toList k (by rw [len_list]; exact h1) (by rw [len_list]; exact h2) HT.out
        rw [HR.out, get_list a k h1, get_list b k h2] at HA
        have HAA : Hid (r = if a[k] < b[k] then -1 else if b[k] < a[k] then 1 else Lib.compareBytes (a.data.toList.drop (k + 1)) (b.data.toList.drop (k + 1))) := HA
        clear HA
        rcases Nat.lt_trichotomy a[k].toNat b[k].toNat with hc | hc | hc
        · have hci : (a[k].toNat : Int) < (b[k].toNat : Int) := by omega
          have E : r = -1 := by rw [HAA.out, if_pos (UInt8.lt_iff_toNat_lt.2 hc)]
          subst E
          go_wp2
          go_quiet (fail)
          go_wp2
          go_ret
          exact ⟨rfl, by first | exact ⟨_, rfl⟩ | exact ⟨_, World.drewN_drewN _ _ _⟩ | exact ⟨_, by rw [World.drewN_drewN, World.drewN_drewN]⟩⟩
        · have hci : ¬ (a[k].toNat : Int) < (b[k].toNat : Int) := by omega
          have hci2 : ¬ (b[k].toNat : Int) < (a[k].toNat : Int) := by omega
          have HX : Hid (a.data.toList.take (k + 1) = b.data.toList.take (k + 1)) := by
            show a.data.toList.take (k + 1) = b.data.toList.take (k + 1)
            rw [take_snoc a k h1, take_snoc b k h2, HT.out, UInt8.toNat_inj.1 hc]
          go_wp2
          go_quiet (fail)
          go_wp2
          go_quiet (fail)
          go_wp2
          go_roundw
          case rel => exact ⟨k + 1, by omega, by omega, by go_num, HX, by first | exact ⟨_, rfl⟩ | exact ⟨_, World.drewN_drewN _ _ _⟩ | exact ⟨_, by rw [World.drewN_drewN, World.drewN_drewN]⟩⟩
          case measure => simp [intOf]; omega
        · have hci : ¬ (a[k].toNat : Int) < (b[k].toNat : Int) := by omega
          have hci2 : (b[k].toNat : Int) < (a[k].toNat : Int) := by omega
          have E : r = 1 := by rw [HAA.out, if_neg (fun h => by have := UInt8.lt_iff_toNat_lt.1 h; omega), if_pos (UInt8.lt_iff_toNat_lt.2 hc)]
          subst E
          go_wp2
          go_quiet (fail)
          go_wp2
          go_quiet (fail)
          go_wp2
          go_ret
          exact ⟨rfl, by first | exact ⟨_, rfl⟩ | exact ⟨_, World.drewN_drewN _ _ _⟩ | exact ⟨_, by rw [World.drewN_drewN, World.drewN_drewN]⟩⟩
      · have hkn : k = min a.size b.size := by omega
        have E : r = cmpI (a.size : Int) (b.size : Int) := by
          rw [← HR.out, cb_end _ _ (by rw [len_list, len_list, ← hkn]; exact HT.out), len_list, len_list]
        have HE : Hid (r = cmpI (a.size : Int) (b.size : Int)) := E
        have hki : ¬ ((k : Int) < (a.size : Int) ∧ (k : Int) < (b.size : Int)) := by omega
        have hk1 : (b.size : Int) ≤ (k : Int) ∨ (a.size : Int) ≤ (k : Int) := by omega
        clear E hkn
        first
          | (have hk2 : (b.size : Int) ≤ (k : Int) := by omega
             clear hk1 hki
             go_wp2_with fail
             refine (cmpInt2_calls _ _ _).mono ?_
             rintro e w' ⟨rfl, rfl⟩
             go_wp2
             go_ret
             exact ⟨ret_i64 HE.out.symm, q, rfl⟩)
          | (have hk2 : (a.size : Int) ≤ (k : Int) := by omega
             clear hk1 hki
             go_wp2_with fail
             refine (cmpInt2_calls _ _ _).mono ?_
             rintro e w' ⟨rfl, rfl⟩
             go_wp2
             go_ret
             exact ⟨ret_i64 HE.out.symm, q, rfl⟩)
end Go.Proofs.Qxb6001698a.Ord
