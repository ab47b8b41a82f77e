import Derived.Test.Qxb6001698aPathC
/- contains and comparePaths. -/
namespace Go.Proofs.Qxb6001698a.Path
open Go.RowKit

def pre (l m : List (ByteArray × Int × Bool)) : Bool := decide (l = m.take l.length)

theorem toList_inj {a b : ByteArray} (h : a.toList = b.toList) : a = b := by
  rw [ByteArray.toList_eq, ByteArray.toList_eq] at h
  cases a; cases b
  simp at h
  rw [h]

def eqStep (x y : ByteArray × Int × Bool) : Bool := (x.1.toList == y.1.toList) && (x.2.1 == y.2.1) && (x.2.2 == y.2.2)

set_option maxHeartbeats 1000000 in
theorem run_neq (xs ys : ByteArray) (xi yi : Int) (xb yb : Bool) (w : World) :
    (binOp .neq 64 (.agg #[.string xs, .int .i64 xi, .bool xb]) (.agg #[.string ys, .int .i64 yi, .bool yb])).run Try.prog w = .ok (.bool (!eqStep (xs, xi, xb) (ys, yi, yb))) w := by
  have hp : Try.prog.stoodInHeld 64 = false := by kernel_rfl
  have hf : Try.prog.underlying 64 = some (.struct (Try.prog.fieldsOf 64)) := by kernel_rfl
  rw [run_neq_struct, run_equalIn_struct w 9999 64 _ _ hf hp]
  simp only [Program.fieldsOf, Try.underlying64]
  simp [Op.eqFields, go_sem, Try.underlying9, Try.underlying3, Try.underlying4]
  by_cases h1 : xs.toList = ys.toList <;> by_cases h2 : xi = yi <;> by_cases h3 : xb = yb <;> simp [eqStep, h1, h2, h3]

theorem eqStep_iff (x y : ByteArray × Int × Bool) : eqStep x y = true ↔ x = y := by
  obtain ⟨a, b, c⟩ := x
  obtain ⟨a', b', c'⟩ := y
  simp only [eqStep, Bool.and_eq_true, beq_iff_eq, Prod.mk.injEq]
  constructor
  · rintro ⟨⟨h1, h2⟩, h3⟩; exact ⟨toList_inj h1, h2, h3⟩
  · rintro ⟨rfl, rfl, rfl⟩; exact ⟨⟨rfl, rfl⟩, rfl⟩

set_option maxHeartbeats 4000000 in
set_option maxRecDepth 100000 in
theorem contains_calls (l m : List (ByteArray × Int × Bool)) (v u : Value) (hl : l.length ≤ 4096) (hm : m.length ≤ 4096) (w : World) (h0 : PRow w v l) (h1 : PRow w u m) :
    Calls Try.prog 39 #[v, u] w fun e w' => e = .returned (.bool (pre l m)) ∧ ∃ n, w' = w.drewN n := by
  obtain ⟨g0, c0, rfl, hg0, h0⟩ := h0
  obtain ⟨g1, c1, rfl, hg1, h1⟩ := h1
  have H0 : Hid (∀ j (h : j < l.length), w.cell? ⟨g0, j * 3, none⟩ = some (.string l[j].1) ∧ w.cell? ⟨g0, j * 3 + 1, none⟩ = some (.int .i64 l[j].2.1) ∧ w.cell? ⟨g0, j * 3 + 2, none⟩ = some (.bool l[j].2.2)) := h0
  have H1 : Hid (∀ j (h : j < m.length), w.cell? ⟨g1, j * 3, none⟩ = some (.string m[j].1) ∧ w.cell? ⟨g1, j * 3 + 1, none⟩ = some (.int .i64 m[j].2.1) ∧ w.cell? ⟨g1, j * 3 + 2, none⟩ = some (.bool m[j].2.2)) := h1
  clear h0 h1 hg0 hg1
  by_cases hlen : (m.length : Int) < (l.length : Int)
  · have E : Hid (pre l m = false) := by
      show pre l m = false
      refine decide_eq_false fun h => ?_
      have := congrArg List.length h
      simp at this
      omega
    go_enter Try.func39, Try.ntmps39
    go_wp2
    go_ret
    rw [E.out]
    exact ⟨rfl, 0, rfl⟩
  · generalize hpr : pre l m = r
    have HP : Hid (pre l m = r) := hpr
    clear hpr
    go_enter Try.func39, Try.ntmps39
    go_wp2
    go_loopw [13] (fun i wr => ∃ k : Nat, k ≤ l.length ∧ i = .int .i64 (k : Int) ∧ Hid (l.take k = m.take k) ∧ ∃ q, wr = w.drewN q) (fun i _ => l.length - (intOf i).toNat)
    case atStart => exact ⟨0, by omega, rfl, rfl, 0, rfl⟩
    case round =>
      obtain ⟨k, hk, rfl, HT, q, rfl⟩ := hrel
      by_cases hlt : k < l.length
      · have hlt2 : k < m.length := by omega
        obtain ⟨x, hx⟩ : ∃ x, x = l[k] := ⟨_, rfl⟩
        obtain ⟨y, hy⟩ : ∃ y, y = m[k] := ⟨_, rfl⟩
        obtain ⟨x0, x1, x2⟩ := H0.out k hlt
        obtain ⟨y0, y1, y2⟩ := H1.out k hlt2
        rw [← hx] at x0 x1 x2
        rw [← hy] at y0 y1 y2
        have HXY : Hid (x = l[k] ∧ y = m[k]) := ⟨hx, hy⟩
        clear hx hy
        obtain ⟨xs, xi, xb⟩ := x
        obtain ⟨ys, yi, yb⟩ := y
        simp only at x0 x1 x2 y0 y1 y2
        have hp : Try.prog.stoodInHeld 64 = false := by kernel_rfl
        have hq : Try.prog.eqGuardType Try.prog.depth 64 = false := by kernel_rfl
        have hne := run_neq xs ys xi yi xb yb
        have hki : (k : Int) < (l.length : Int) := by omega
        have hkm : (k : Int) < (m.length : Int) := by omega
        go_wp2
        go_quiet (fail)
        clear hne hp hq x0 x1 x2 y0 y1 y2 hki hkm
        cases he : eqStep (xs, xi, xb) (ys, yi, yb) with
        | false =>
          have E : r = false := by
            rw [← HP.out]
            refine decide_eq_false fun h => ?_
            have hxy : (xs, xi, xb) = (ys, yi, yb) := by
              rw [HXY.out.1, HXY.out.2]
              have h1 : l[k]? = (m.take l.length)[k]? := congrArg (fun z => z[k]?) h
              rw [List.getElem?_take, if_pos hlt, List.getElem?_eq_getElem hlt, List.getElem?_eq_getElem hlt2] at h1
              exact Option.some.inj h1
            rw [(eqStep_iff _ _).2 hxy] at he
            cases he
          subst E
          clear he
          go_wp2
          go_ret
          exact ⟨rfl, _, World.drewN_drewN _ _ _⟩
        | true =>
          have HN : Hid (l.take (k + 1) = m.take (k + 1)) := by
            show l.take (k + 1) = m.take (k + 1)
            rw [List.take_succ_eq_append_getElem hlt, List.take_succ_eq_append_getElem hlt2, HT.out, ← HXY.out.1, ← HXY.out.2, (eqStep_iff _ _).1 he]
          clear he
          go_wp2
          go_roundw
          case rel => exact ⟨k + 1, by omega, by go_num, HN, _, rfl⟩
          case measure => simp [intOf]; omega
      · have hkl : k = l.length := by omega
        subst hkl
        have E : r = true := by
          rw [← HP.out]
          have := HT.out
          rw [List.take_length] at this
          exact decide_eq_true this
        subst E
        go_wp2
        go_ret
        exact ⟨rfl, q, rfl⟩

theorem zzcontains_calls (l m : List (ByteArray × Int × Bool)) (v u : Value) (hl : l.length ≤ 4096) (hm : m.length ≤ 4096) (w : World) (h0 : PRow w v l) (h1 : PRow w u m) :
    Calls Try.prog 28 #[v, u] w fun e w' => e = .returned (.bool (pre l m)) ∧ ∃ n, w' = w.drewN n := by
  have H : Hid (Calls Try.prog 39 #[v, u] w fun e w' => e = .returned (.bool (pre l m)) ∧ ∃ n, w' = w.drewN n) := contains_calls l m v u hl hm w h0 h1
  clear h0 h1
  generalize pre l m = r at *
  go_enter Try.func28, Try.ntmps28
  go_wp2_with fail
  refine H.out.mono ?_
  rintro e w' ⟨rfl, n, rfl⟩
  go_wp2
  go_ret
  exact ⟨rfl, n, rfl⟩

/-! ### comparePaths -/
theorem ret_i64 {a b : Int} (h : a = b) : Ending.returned (.int .i64 a) = .returned (.int .i64 b) := by rw [h]
def cmpI (x y : Int) : Int := if x < y then -1 else if y < x then 1 else 0

theorem cmpInt_calls (x y : Int) (w : World) :
    Calls Try.prog 46 #[.int .i64 x, .int .i64 y] w fun e w' => e = .returned (.int .i64 (cmpI x y)) ∧ w = w' := by
  rcases Int.lt_trichotomy x y with h | h | h
  · have E : Hid (cmpI x y = -1) := by show cmpI x y = _; unfold cmpI; rw [if_pos h]
    go_enter Try.func46, Try.ntmps46
    go_wp2
    go_ret
    exact ⟨ret_i64 E.out.symm, rfl⟩
  · subst h
    have E : Hid (cmpI x x = 0) := by show cmpI x x = _; unfold cmpI; rw [if_neg (by omega), if_neg (by omega)]
    go_enter Try.func46, Try.ntmps46
    go_wp2
    go_ret
    exact ⟨ret_i64 E.out.symm, rfl⟩
  · have E : Hid (cmpI x y = 1) := by show cmpI x y = _; unfold cmpI; rw [if_neg (by omega), if_pos h]
    have h' : ¬ x < y := by omega
    go_enter Try.func46, Try.ntmps46
    go_wp2
    go_ret
    exact ⟨ret_i64 E.out.symm, rfl⟩

theorem less_irrefl : ∀ x : List UInt8, Op.bytesLess x x = false
  | [] => rfl
  | a :: x => by simp [Op.bytesLess, less_irrefl x]

theorem cmpStr_calls (x : ByteArray) (w : World) :
    Calls Try.prog 45 #[.string x, .string x] w fun e w' => e = .returned (.int .i64 0) ∧ w = w' := by
  have h1 := less_irrefl x.toList
  have h2 : (x.toList == x.toList) = true := by simp
  go_enter Try.func45, Try.ntmps45
  go_wp2
  go_ret
  exact ⟨rfl, rfl⟩

set_option maxHeartbeats 4000000 in
set_option maxRecDepth 100000 in
theorem compare_calls (l m : List (ByteArray × Int × Bool)) (v u : Value) (hl : l.length ≤ 4096) (hm : m.length ≤ 4096) (w : World) (h0 : PRow w v l) (h1 : PRow w u m) (heq : ∀ j (h : j < l.length) (h' : j < m.length), l[j] = m[j]) :
    Calls Try.prog 40 #[v, u] w fun e w' => e = .returned (.int .i64 (cmpI l.length m.length)) ∧ ∃ n, w' = w.drewN n := by
  obtain ⟨g0, c0, rfl, hg0, h0⟩ := h0
  obtain ⟨g1, c1, rfl, hg1, h1⟩ := h1
  have H0 : Hid (∀ j (h : j < l.length), w.cell? ⟨g0, j * 3, none⟩ = some (.string l[j].1) ∧ w.cell? ⟨g0, j * 3 + 1, none⟩ = some (.int .i64 l[j].2.1) ∧ w.cell? ⟨g0, j * 3 + 2, none⟩ = some (.bool l[j].2.2)) := h0
  have H1 : Hid (∀ j (h : j < m.length), w.cell? ⟨g1, j * 3, none⟩ = some (.string m[j].1) ∧ w.cell? ⟨g1, j * 3 + 1, none⟩ = some (.int .i64 m[j].2.1) ∧ w.cell? ⟨g1, j * 3 + 2, none⟩ = some (.bool m[j].2.2)) := h1
  have HE : Hid (∀ j (h : j < l.length) (h' : j < m.length), l[j] = m[j]) := heq
  clear h0 h1 hg0 hg1 heq
  go_enter Try.func40, Try.ntmps40
  go_wp2
  go_loopw [5] (fun i wr => ∃ k : Nat, k ≤ l.length ∧ k ≤ m.length ∧ i = .int .i64 (k : Int) ∧ ∃ q, wr = w.drewN q) (fun i _ => l.length - (intOf i).toNat)
  case atStart => exact ⟨0, by omega, by omega, rfl, 0, rfl⟩
  case round =>
    obtain ⟨k, hk, hk2, rfl, q, hwr⟩ := hrel
    have HW : Hid (wr = w.drewN q) := hwr
    have hcw : ∀ p, wr.cell? p = w.cell? p := fun p => by rw [hwr, World.cell?_drewN]
    clear hwr
    by_cases hlt : k < l.length ∧ k < m.length
    · obtain ⟨hlt, hlt2⟩ := hlt
      obtain ⟨x0, x1, _⟩ := H0.out k hlt
      obtain ⟨y0, y1, _⟩ := H1.out k hlt2
      rw [← HE.out k hlt hlt2] at y0 y1
      rw [← hcw] at x0 x1 y0 y1
      clear hcw
      generalize l[k].1 = xs at *
      generalize l[k].2.1 = xi at *
      have hki : (k : Int) < (l.length : Int) := by omega
      have hkm : (k : Int) < (m.length : Int) := by omega
      have z0 : Hid (cmpI xi xi = 0) := by show cmpI xi xi = 0; unfold cmpI; rw [if_neg (by omega), if_neg (by omega)]
      go_wp2
      go_quiet ((go_at_call 45; exact Calls.quiet_of_same ((cmpStr_calls _ _).mono fun _ _ ⟨h, h'⟩ => ⟨h, h'.symm⟩)))
      go_wp2
      have CI := fun W => cmpInt_calls xi xi W
      rw [z0.out] at CI
      have HCI : Hid (∀ W, Calls Try.prog 46 #[.int .i64 xi, .int .i64 xi] W fun e w' => e = .returned (.int .i64 0) ∧ W = w') := CI
      clear CI
      generalize hw2 : wr.drewN nq = wr2
      have HW2 : Hid (wr2 = w.drewN (q + nq)) := by show wr2 = _; rw [← hw2, HW.out, World.drewN_drewN]
      have x1' : wr2.cell? ⟨g0, k * 3 + 1, none⟩ = some (.int .i64 xi) := by rw [← hw2, World.cell?_drewN]; exact x1
      have y1' : wr2.cell? ⟨g1, k * 3 + 1, none⟩ = some (.int .i64 xi) := by rw [← hw2, World.cell?_drewN]; exact y1
      clear hw2 HW x0 x1 y0 y1
      go_quiet ((go_at_call 46; exact Calls.quiet_of_same ((HCI.out _).mono fun _ _ ⟨h, h'⟩ => ⟨h, h'.symm⟩)))
      go_wp2
      go_roundw
      case rel => exact ⟨k + 1, by omega, by omega, by go_num, _, by rw [HW2.out, World.drewN_drewN]⟩
      case measure => simp [intOf]; omega
    · clear hcw
      rcases (show l.length ≤ k ∨ (k < l.length ∧ m.length ≤ k) by omega) with hge | ⟨h1, hge⟩
      · have hge' : ¬ (k : Int) < (l.length : Int) := by omega
        go_wp2_with fail
        refine (cmpInt_calls _ _ _).mono ?_
        rintro e w' ⟨rfl, rfl⟩
        go_wp2
        go_ret
        exact ⟨rfl, q, HW.out⟩
      · have h1' : (k : Int) < (l.length : Int) := by omega
        have hge' : ¬ (k : Int) < (m.length : Int) := by omega
        go_wp2_with fail
        refine (cmpInt_calls _ _ _).mono ?_
        rintro e w' ⟨rfl, rfl⟩
        go_wp2
        go_ret
        exact ⟨rfl, q, HW.out⟩

theorem zzcompare_calls (l m : List (ByteArray × Int × Bool)) (v u : Value) (hl : l.length ≤ 4096) (hm : m.length ≤ 4096) (w : World) (h0 : PRow w v l) (h1 : PRow w u m) (heq : ∀ j (h : j < l.length) (h' : j < m.length), l[j] = m[j]) :
    Calls Try.prog 29 #[v, u] w fun e w' => e = .returned (.int .i64 (cmpI l.length m.length)) ∧ ∃ n, w' = w.drewN n := by
  have H : Hid (Calls Try.prog 40 #[v, u] w fun e w' => e = .returned (.int .i64 (cmpI l.length m.length)) ∧ ∃ n, w' = w.drewN n) := compare_calls l m v u hl hm w h0 h1 heq
  clear h0 h1 heq
  generalize cmpI l.length m.length = r at *
  go_enter Try.func29, Try.ntmps29
  go_wp2_with fail
  refine H.out.mono ?_
  rintro e w' ⟨rfl, n, rfl⟩
  go_wp2
  go_ret
  exact ⟨rfl, n, rfl⟩
end Go.Proofs.Qxb6001698a.Path
