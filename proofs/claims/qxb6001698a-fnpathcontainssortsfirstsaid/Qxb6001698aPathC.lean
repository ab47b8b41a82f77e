import Derived.Test.Qxb6001698aPathB
import Derived.Deep.RegionHeld3
import Derived.Deep.AppendLies
/- The path that is built, step by step. -/
namespace Go.Proofs.Qxb6001698a.Path
open Go.RowKit

theorem info64 : (Try.prog.info? 64).map (fun i => (i.zero, i.size, i.bytes)) = some (some (.agg #[.string ByteArray.empty, .int .i64 0, .bool false]), 3, 32) := by kernel_rfl

def cells3 (s : ByteArray × Int × Bool) : List Value := [.string s.1, .int .i64 s.2.1, .bool s.2.2]
def rowOf (l : List (ByteArray × Int × Bool)) : List Value := l.flatMap cells3

theorem step_calls (s : ByteArray) (i : Int) (b : Bool) (w : World) :
    Calls Try.prog 38 #[.string s, .int .i64 i, .bool b] w fun e w' => e = .returned (.agg #[.string s, .int .i64 i, .bool b]) ∧ w.alloc (.cells #[.string s, .int .i64 i, .bool b] 64) = w' := by
  go_enter Try.func38, Try.ntmps38
  go_wp2
  exact bodyPost_ret (v := .agg #[.string s, .int .i64 i, .bool b]) (by simp [results, Try.results38, go_sem]) rfl ⟨rfl, rfl⟩

/-- append within the capacity, as one step of a region that draws. -/
theorem step_append_fits {P : Program} (w : World) {ops : Array Oper} {o : Oper} {a : Act} {K : Act → World → Prop} {Q : Exit → Act → World → Prop} {E : Prop}
    (hg : o.guard = none) (s x : Operand) (t : TypeId) (hop : o.op = Op.call { callee := Callee.builtin Builtin.append, args := #[s, x], argTypes := #[t, t] })
    (base : Nat) (e : TypeId) (i : TypeInfo) (size : Nat) (h1 : P.underlying t = some (.slice e)) (h2 : P.info? e = some i) (h4 : i.size = size)
    (g k cap : Nat) (xs : List Value) (hs : a.eval s = .slice (some ⟨g, 0, none⟩) k cap) (hown : w.ownsRow base e size (.slice (some ⟨g, 0, none⟩) k cap) k xs) (ad : Addr) (m c : Nat) (news : List Value) (hx : a.eval x = .slice (some ad) m c) (hn : news.length = m * size)
    (hc : ∀ j u, news[j]? = some u → w.cell? (ad.add j) = some u) (h1c : ∀ u ∈ news, u.oneCell' = true) (b1 : k + m ≤ cap)
    (hK : ∀ w', w'.ownsRow base e size (.slice (some ⟨g, 0, none⟩) (k + m) cap) (k + m) (xs ++ news) → w.grownBy w' (some g) → K (a.put o.dst (.slice (some ⟨g, 0, none⟩) (k + m) cap)) w') :
    if Region.wanted o (yielded ops a.tmps) = true then Oper.wp P o a w K Q else E := by
  have hw : Region.wanted o (yielded ops a.tmps) = true := by simp [Region.wanted, hg]
  rw [if_pos hw]
  obtain ⟨w', hrun, r1, r2⟩ := run_append_fits (P := P) w base t o.type e i size h1 h2 h4 g k cap xs hown ad m c news hn hc h1c b1
  unfold Oper.wp
  simp [execOp, hop, resolve, invoke, builtin, hs, hx, hrun, Result.andThen]
  exact hK w' r1 r2

theorem news3 (w : World) (s : ByteArray) (i : Int) (b : Bool) (H : Nat) (h : w.heap[H]? = some (.cells #[.string s, .int .i64 i, .bool b] 64 (0, 0))) :
    ∀ j u, (cells3 (s, i, b))[j]? = some u → w.cell? ((⟨H, 0, none⟩ : Addr).add j) = some u := by
  intro j u hj
  have hcell : ∀ t, w.cell? ⟨H, t, none⟩ = (#[Value.string s, .int .i64 i, .bool b] : Array Value)[t]? := fun t => cell_of_row w H t _ 64 (0, 0) h
  match j, hj with
  | 0, hj => simp [cells3] at hj; subst hj; simp [Addr.add, hcell]
  | 1, hj => simp [cells3] at hj; subst hj; simp [Addr.add, hcell]
  | 2, hj => simp [cells3] at hj; subst hj; simp [Addr.add, hcell]
  | j + 3, hj => simp [cells3] at hj

theorem heap_two (w : World) (o o' : Obj) : ((w.alloc o).alloc o').drew.heap[w.heap.size + 1]? = some o' := by
  show ((w.heap.push o).push o')[w.heap.size + 1]? = some o'
  have e : w.heap.size + 1 = (w.heap.push o).size := by simp
  rw [e, Array.getElem?_push_size]

theorem kept3 {wr w3 : World} {o o' : Obj} {g b0 b1 b2 p0 p1 p2 : Nat} {u0 u1 u2 : Value} (h : ((wr.alloc o).alloc o').drew.grownBy w3 (some g))
    (x0 : wr.cell? ⟨b0, p0, none⟩ = some u0) (x1 : wr.cell? ⟨b1, p1, none⟩ = some u1) (x2 : wr.cell? ⟨b2, p2, none⟩ = some u2) (n0 : b0 ≠ g) (n1 : b1 ≠ g) (n2 : b2 ≠ g) (m0 : b0 < wr.heap.size) (m1 : b1 < wr.heap.size) (m2 : b2 < wr.heap.size) :
    w3.cell? ⟨b0, p0, none⟩ = some u0 ∧ w3.cell? ⟨b1, p1, none⟩ = some u1 ∧ w3.cell? ⟨b2, p2, none⟩ = some u2 := by
  have hb : Below wr.heap.size wr ((wr.alloc o).alloc o').drew := (((Below.refl _ _).alloc (Nat.le_refl _) o).alloc (by simp) o').drew
  have go : ∀ b p u, wr.cell? ⟨b, p, none⟩ = some u → b ≠ g → b < wr.heap.size → w3.cell? ⟨b, p, none⟩ = some u := fun b p u hx hn hm =>
    h.cell ((hb.cell (p := ⟨b, p, none⟩) hm).trans hx) (fun e => hn (Option.some.inj e))
  exact ⟨go _ _ _ x0 n0 m0, go _ _ _ x1 n1 m1, go _ _ _ x2 n2 m2⟩

theorem one_cell3 (s : ByteArray × Int × Bool) : ∀ u ∈ cells3 s, u.oneCell' = true := by
  intro u hu
  simp [cells3] at hu
  rcases hu with rfl | rfl | rfl <;> rfl

/-- The steps of a path, out of its three rows. -/
def stepsOf (ss : List ByteArray) (is : List Int) (bs : List Bool) : List (ByteArray × Int × Bool) := ss.zip (is.zip bs)

set_option maxHeartbeats 4000000 in
set_option maxRecDepth 100000 in
theorem build_calls (ss : List ByteArray) (is : List Int) (bs : List Bool) (v0 v1 v2 : Value) (w : World) (h0 : Row w v0 (ss.map Value.string)) (h1 : Row w v1 (is.map (Value.int .i64))) (h2 : Row w v2 (bs.map Value.bool))
    (hn : ss.length ≤ 4096) (hi : is.length = ss.length) (hb : bs.length = ss.length) :
    Calls Try.prog 27 #[v0, v1, v2] w fun e w' => (∃ g cap : Nat, e = .returned (.slice (some ⟨g, 0, none⟩) (stepsOf ss is bs).length cap) ∧ w'.ownsRow w.heap.size 64 3 (.slice (some ⟨g, 0, none⟩) (stepsOf ss is bs).length cap) (stepsOf ss is bs).length (rowOf (stepsOf ss is bs))) ∧ Below w.heap.size w w' := by
  obtain ⟨i0, hi0, hz0, hz1, hz2⟩ := info_parts info64
  obtain ⟨a0, c0, rfl, h0⟩ := h0
  obtain ⟨a1, c1, rfl, h1⟩ := h1
  obtain ⟨a2, c2, rfl, h2⟩ := h2
  simp only [List.length_map] at h0 h1 h2 ⊢
  have H0 : Hid (0 < ss.length → ∃ b off, a0 = some ⟨b, off, none⟩ ∧ b < w.heap.size ∧ ∀ j (h : j < ss.length), w.cell? ⟨b, off + j, none⟩ = some (.string ss[j])) := by
    show 0 < ss.length → _
    simpa using h0
  have H1 : Hid (0 < is.length → ∃ b off, a1 = some ⟨b, off, none⟩ ∧ b < w.heap.size ∧ ∀ j (h : j < is.length), w.cell? ⟨b, off + j, none⟩ = some (.int .i64 is[j])) := by
    show 0 < is.length → _
    simpa using h1
  have H2 : Hid (0 < bs.length → ∃ b off, a2 = some ⟨b, off, none⟩ ∧ b < w.heap.size ∧ ∀ j (h : j < bs.length), w.cell? ⟨b, off + j, none⟩ = some (.bool bs[j])) := by
    show 0 < bs.length → _
    simpa using h2
  have hst : (stepsOf ss is bs).length = ss.length := by simp [stepsOf]; omega
  rw [hst]
  have HST : Hid ((stepsOf ss is bs).length = ss.length) := hst
  have HI : Hid (is.length = ss.length) := hi
  have HB : Hid (bs.length = ss.length) := hb
  clear h0 h1 h2 hst
  rw [hi, hb]
  clear hi hb
  go_enter Try.func27, Try.ntmps27
  go_wp2_with (at_make; refine wpList_make_own _ rfl _ _ 52 rfl w.heap.size 64 i0 (.agg #[.string ByteArray.empty, .int .i64 0, .bool false]) 3 Try.underlying52 hi0 hz0 hz1 _ _ _ ss.length rfl rfl (by omega) ?b2 ?b3 (Nat.le_refl _) ?_)
  case b2 => rw [hz2]; omega
  case b3 => unfold maxLen; omega
  intro w0 hown0 hgrow0
  have hb0' : Below w.heap.size w w0 := (Below.refl _ _).grown hgrow0 (Nat.le_refl _) (fun k h => by cases h)
  clear hgrow0
  go_wp2
  go_loopw [7, 8] (fun p i wr => ∃ k : Nat, k ≤ ss.length ∧ i = .int .i64 (k : Int) ∧ p = .slice (some ⟨w.heap.size, 0, none⟩) k ss.length ∧
      wr.ownsRow w.heap.size 64 3 (.slice (some ⟨w.heap.size, 0, none⟩) k ss.length) k (rowOf ((stepsOf ss is bs).take k)) ∧ Below w.heap.size w wr)
    (fun _ i _ => ss.length - (intOf i).toNat)
  case atStart => exact ⟨0, by omega, rfl, rfl, hown0, hb0'⟩
  case round =>
    clear hown0 hb0'
    obtain ⟨k, hk, rfl, rfl, hown, hbx⟩ := hrel
    have hsz := hbx.size
    by_cases hlt : k < ss.length
    · obtain ⟨b0, o0, rfl, hb0, hc0⟩ := H0.out (by omega)
      obtain ⟨b1, o1, rfl, hb1, hc1⟩ := H1.out (by rw [HI.out]; omega)
      obtain ⟨b2, o2, rfl, hb2, hc2⟩ := H2.out (by rw [HB.out]; omega)
      have hki : k < is.length := by rw [HI.out]; exact hlt
      have hkb : k < bs.length := by rw [HB.out]; exact hlt
      obtain ⟨s, hsx⟩ : ∃ s, s = ss[k] := ⟨_, rfl⟩
      obtain ⟨i, hix⟩ : ∃ i, i = is[k] := ⟨_, rfl⟩
      obtain ⟨b, hbx'⟩ : ∃ b, b = bs[k] := ⟨_, rfl⟩
      have x0 : wr.cell? ⟨b0, o0 + k, none⟩ = some (.string s) := by rw [hbx.cell (p := ⟨b0, o0 + k, none⟩) hb0, hc0 k hlt, hsx]
      have x1 : wr.cell? ⟨b1, o1 + k, none⟩ = some (.int .i64 i) := by rw [hbx.cell (p := ⟨b1, o1 + k, none⟩) hb1, hc1 k hki, hix]
      have x2 : wr.cell? ⟨b2, o2 + k, none⟩ = some (.bool b) := by rw [hbx.cell (p := ⟨b2, o2 + k, none⟩) hb2, hc2 k hkb, hbx']
      have HT : Hid (rowOf ((stepsOf ss is bs).take (k + 1)) = rowOf ((stepsOf ss is bs).take k) ++ cells3 (s, i, b)) := by
        show rowOf ((stepsOf ss is bs).take (k + 1)) = rowOf ((stepsOf ss is bs).take k) ++ cells3 (s, i, b)
        have hkz : k < (stepsOf ss is bs).length := by rw [HST.out]; exact hlt
        rw [List.take_succ_eq_append_getElem hkz]
        have e : (stepsOf ss is bs)[k] = (s, i, b) := by simp [stepsOf, hsx, hix, hbx']
        rw [e]
        simp [rowOf]
      have n0 : b0 ≠ w.heap.size := by omega
      have n1 : b1 ≠ w.heap.size := by omega
      have n2 : b2 ≠ w.heap.size := by omega
      have m0 : b0 < wr.heap.size := by omega
      have m1 : b1 < wr.heap.size := by omega
      have m2 : b2 < wr.heap.size := by omega
      have hkI : (k : Int) < (ss.length : Int) := by omega
      clear hc0 hc1 hc2 hsx hix hbx' H0 H1 H2 hki hkb
      go_wp2
      go_region_held3 (fun w' => w'.cell? ⟨b0, o0 + k, none⟩ = some (.string s) ∧ w'.cell? ⟨b1, o1 + k, none⟩ = some (.int .i64 i) ∧ w'.cell? ⟨b2, o2 + k, none⟩ = some (.bool b)) (go_keep)
        (first
          | (go_at_call 38; refine (step_calls _ _ _ _).mono ?_; rintro e w' ⟨rfl, rfl⟩)
          | (refine step_append_fits _ rfl (.tmp 18) (.tmp 32) 52 rfl w.heap.size 64 i0 3 Try.underlying52 hi0 hz1 w.heap.size k ss.length _ rfl (((hown.alloc _).alloc _).drew) ⟨wr.heap.size + 1, 0, none⟩ 1 1 (cells3 (s, i, b)) rfl rfl (news3 _ _ _ _ _ (heap_two _ _ _)) (one_cell3 _) (by omega) ?_; intro w3 hown3 hgrow3; obtain ⟨y0, y1, y2⟩ := kept3 hgrow3 x0 x1 x2 n0 n1 n2 m0 m1 m2))
      have hbn : Below w.heap.size w w3 := (((hbx.alloc hsz _).alloc (by simp; omega) _).drew).grown hgrow3 (by simp; omega) (fun k hk => by cases hk; exact Nat.le_refl _)
      clear hgrow3 y0 y1 y2 x0 x1 x2 hown
      go_wp2
      go_roundw
      case rel => exact ⟨k + 1, by omega, by go_num, rfl, by rw [HT.out]; exact hown3, hbn⟩
      case measure => simp [intOf]; omega
    · have hkl : k = ss.length := by omega
      subst hkl
      go_wp2
      go_ret
      refine ⟨⟨w.heap.size, ss.length, rfl, ?_⟩, hbx⟩
      rw [← HST.out, List.take_length] at hown
      rw [← HST.out]
      exact hown

/-! ### a path that is read -/
/-- The value v is a path of the steps l, in block g. -/
def PRow (w : World) (v : Value) (l : List (ByteArray × Int × Bool)) : Prop :=
  ∃ g cap, v = .slice (some ⟨g, 0, none⟩) l.length cap ∧ g < w.heap.size ∧ ∀ j (h : j < l.length), w.cell? ⟨g, j * 3, none⟩ = some (.string l[j].1) ∧ w.cell? ⟨g, j * 3 + 1, none⟩ = some (.int .i64 l[j].2.1) ∧ w.cell? ⟨g, j * 3 + 2, none⟩ = some (.bool l[j].2.2)

theorem PRow.later {w w' : World} {v : Value} {l : List (ByteArray × Int × Bool)} (h : PRow w v l) (hb : Below w.heap.size w w') : PRow w' v l := by
  obtain ⟨g, cap, rfl, hg, hc⟩ := h
  refine ⟨g, cap, rfl, Nat.lt_of_lt_of_le hg hb.size, fun j hj => ?_⟩
  obtain ⟨c0, c1, c2⟩ := hc j hj
  exact ⟨(hb.cell (p := ⟨g, j * 3, none⟩) hg).trans c0, (hb.cell (p := ⟨g, j * 3 + 1, none⟩) hg).trans c1, (hb.cell (p := ⟨g, j * 3 + 2, none⟩) hg).trans c2⟩

theorem rowOf_get (l : List (ByteArray × Int × Bool)) (j : Nat) (h : j < l.length) : (rowOf l)[j * 3]? = some (.string l[j].1) ∧ (rowOf l)[j * 3 + 1]? = some (.int .i64 l[j].2.1) ∧ (rowOf l)[j * 3 + 2]? = some (.bool l[j].2.2) := by
  induction l generalizing j with
  | nil => simp at h
  | cons x l ih =>
    cases j with
    | zero => simp [rowOf, cells3]
    | succ j =>
      have := ih j (by simpa using h)
      have e : (j + 1) * 3 = j * 3 + 1 + 1 + 1 := by omega
      simpa [rowOf, cells3, e] using this

theorem PRow.of_owns {w : World} {B g cap : Nat} {l : List (ByteArray × Int × Bool)} (h : w.ownsRow B 64 3 (.slice (some ⟨g, 0, none⟩) l.length cap) l.length (rowOf l)) : PRow w (.slice (some ⟨g, 0, none⟩) l.length cap) l := by
  refine ⟨g, cap, rfl, ?_, fun j hj => ?_⟩
  · rcases h.2 with ⟨h', _⟩ | ⟨g', cap', cur, h', _, hg, _⟩
    · simp at h'
    · simp at h'
      rw [h'.1]
      exact (Array.getElem?_eq_some_iff.1 hg).1
  · obtain ⟨e0, e1, e2⟩ := rowOf_get l j hj
    rw [h.cellAt (j * 3) (by omega), h.cellAt (j * 3 + 1) (by omega), h.cellAt (j * 3 + 2) (by omega)]
    exact ⟨e0, e1, e2⟩
end Go.Proofs.Qxb6001698a.Path
