import Derived.Test.Qxb6001215aMSetA
import Derived.Laws.IdiomStrings
namespace Go.Proofs.Qxb6001215a.MSet
open Go.RowKit

theorem info5 : (Try.prog.info? 5).map (fun i => (i.zero, i.size, i.bytes)) = some (some (.int .u8 0), 1, 1) := by kernel_rfl

def bv (b : UInt8) : Value := .int .u8 (b.toNat : Int)
def rng (lo n : Nat) : List UInt8 := (List.range n).map fun i => UInt8.ofNat (lo + i)
def body (L : List UInt8) : List UInt8 := L.flatMap (fun v => [92, v])

theorem rng_len (lo n : Nat) : (rng lo n).length = n := by simp [rng]
theorem body_rng_succ (lo k : Nat) (h : lo + k ≤ 255) : ((body (rng lo k)).map bv ++ [.int .u8 92]) ++ [.int .u8 ((lo : Int) + (k : Int))] = (body (rng lo (k + 1))).map bv := by
  have e : (UInt8.ofNat (lo + k)).toNat = lo + k := by simp; omega
  simp only [rng, List.range_succ, List.map_append, List.map_cons, List.map_nil, body, List.flatMap_append, List.flatMap_cons, List.flatMap_nil, List.append_nil, bv, e, List.append_assoc, List.cons_append, List.nil_append]
  simp

theorem one_cell_u8 (n : Int) : ∀ u ∈ [Value.int .u8 n], u.oneCell' = true := by
  intro u hu; simp at hu; subst hu; rfl

theorem conv_bytes (w : World) (B g n cap : Nat) (L : List UInt8) (h : w.ownsRow B 5 1 (.slice (some ⟨g, 0, none⟩) n cap) n (L.map bv)) :
    (convert 27 9 (.slice (some ⟨g, 0, none⟩) n cap)).run Try.prog w = .ok (.string ⟨L.toArray⟩) w := by
  have hn : n = L.length := by have := h.1; simp at this; omega
  subst hn
  refine run_convert_bytes_back w 27 9 5 ⟨g, 0, none⟩ cap L Try.underlying27 Try.underlying5 Try.underlying9 fun j hj => ?_
  have hc := h.cellAt j (by omega)
  have e : (⟨g, 0, none⟩ : Addr).add j = ⟨g, j, none⟩ := by simp [Addr.add]; omega
  rw [e, hc]
  simp [hj, bv]

theorem snoc_quoted (L : List UInt8) : (body L).map bv ++ [.int .u8 93] = (quoted L).map bv := by
  simp [quoted, body, bv]

set_option maxHeartbeats 1000000 in
set_option maxRecDepth 100000 in
theorem quotedRange_calls (lo hi : Nat) (hlh : lo ≤ hi) (hhi : hi ≤ 255) (w : World) :
    Calls Try.prog 26 #[.int .u8 (lo : Int), .int .u8 (hi : Int)] w fun e w' => e = .returned (.string ⟨(quoted (rng lo (hi - lo + 1))).toArray⟩) ∧ Below w.heap.size w w' := by
  obtain ⟨i0, hi0, hz0, hz1, hz2⟩ := info_parts info5
  go_enter Try.func26, Try.ntmps26
  go_wp2_with (at_make; refine wpList_make_own _ rfl _ _ 27 rfl w.heap.size 5 i0 (.int .u8 0) 1 Try.underlying27 hi0 hz0 hz1 _ _ _ 513 rfl rfl rfl ?b2 ?b3 (Nat.le_refl _) ?_)
  case b2 => rw [hz2]; omega
  case b3 => unfold maxLen; omega
  intro w0 hown0 hgrow0
  go_wp2
  go_loopw [5, 6] (fun buf v wr => ∃ (k : Nat), k ≤ hi - lo + 1 ∧ v = .int .i64 (lo + k : Nat) ∧ buf = .slice (some ⟨w.heap.size, 0, none⟩) (2 * k) 513 ∧
      wr.ownsRow w.heap.size 5 1 (.slice (some ⟨w.heap.size, 0, none⟩) (2 * k) 513) (2 * k) ((body (rng lo k)).map bv) ∧ Below w.heap.size w wr)
    (fun _ v _ => 256 - (intOf v).toNat)
  case atStart => exact ⟨0, by omega, by go_num, rfl, hown0, (Below.refl _ _).grown hgrow0 (Nat.le_refl _) (fun k h => by cases h)⟩
  case round =>
    obtain ⟨k, hk, rfl, rfl, hown, hnx⟩ := hrel
    have hsz := hnx.size
    by_cases hlt : k < hi - lo + 1
    · have hlt' : (lo : Int) + (k : Int) ≤ hi := by omega
      have hge' : 0 ≤ (lo : Int) + (k : Int) := by omega
      clear hown0 hgrow0
      go_wp2_with (first
        | (at_builtin; refine wpList_append_fits _ rfl (.tmp 16) (.tmp 17) 27 rfl w.heap.size 5 i0 1 Try.underlying27 hi0 hz1 w.heap.size (2 * k) 513 _ rfl (hown.alloc _) ⟨wr.heap.size, 0, none⟩ 1 1 [.int .u8 92] rfl rfl (cell_one_new _ _ _) (one_cell_u8 _) (by omega) ?_; intro w1 hown1 hgrow1)
        | (at_builtin; refine wpList_append_fits _ rfl (.tmp 19) (.tmp 22) 27 rfl w.heap.size 5 i0 1 Try.underlying27 hi0 hz1 w.heap.size (2 * k + 1) 513 _ rfl (hown1.alloc _) ⟨w1.heap.size, 0, none⟩ 1 1 [.int .u8 ((lo : Int) + (k : Int))] rfl rfl (cell_one_new _ _ _) (one_cell_u8 _) (by omega) ?_; intro w2 hown2 hgrow2))
      go_roundw
      case rel =>
        have b1 := (hnx.alloc hsz (.cells #[Value.int .u8 92] 5)).grown hgrow1 (by simp; omega) (fun k hk => by cases hk; exact Nat.le_refl _)
        have b2 := (b1.alloc b1.size (.cells #[Value.int .u8 ((lo : Int) + (k : Int))] 5)).grown hgrow2 (by simp; have := b1.size; omega) (fun k hk => by cases hk; exact Nat.le_refl _)
        exact ⟨k + 1, by omega, by go_num, rfl, by rw [body_rng_succ lo k (by omega)] at hown2; exact hown2, b2⟩
      case measure => simp [intOf]; omega
    · have hlt' : ¬ (lo : Int) + (k : Int) ≤ hi := by omega
      clear hown0 hgrow0
      go_wp2_with (
         (at_builtin; refine wpList_append_fits _ rfl (.tmp 24) (.tmp 25) 27 rfl w.heap.size 5 i0 1 Try.underlying27 hi0 hz1 w.heap.size (2 * k) 513 _ rfl (hown.alloc _) ⟨wr.heap.size, 0, none⟩ 1 1 [.int .u8 93] rfl rfl (cell_one_new _ _ _) (one_cell_u8 _) (by omega) ?_; intro w1 hown1 hgrow1; rw [snoc_quoted] at hown1; have hconv := conv_bytes _ _ _ _ _ _ hown1))
      go_ret
      have hk' : k = hi - lo + 1 := by omega
      subst hk'
      exact ⟨rfl, (hnx.alloc hsz (.cells #[Value.int .u8 93] 5)).grown hgrow1 (by simp; omega) (fun k hk => by cases hk; exact Nat.le_refl _)⟩
end Go.Proofs.Qxb6001215a.MSet
