import Derived.Lib.Bytealg
/- Plain laws: the comparison of bytes, of padded digits. -/
namespace Go.Proofs.Qxb6001698a.Ord

def cmpI (x y : Int) : Int := if x < y then -1 else if y < x then 1 else 0
theorem cmpI_lt {x y : Int} (h : x < y) : cmpI x y = -1 := by unfold cmpI; rw [if_pos h]
theorem cmpI_gt {x y : Int} (h : y < x) : cmpI x y = 1 := by unfold cmpI; rw [if_neg (by omega), if_pos h]
theorem cmpI_self (x : Int) : cmpI x x = 0 := by unfold cmpI; rw [if_neg (by omega), if_neg (by omega)]

theorem cb_range : ∀ x y : List UInt8, -1 ≤ Go.Lib.compareBytes x y ∧ Go.Lib.compareBytes x y ≤ 1
  | [], [] => by simp [Go.Lib.compareBytes]
  | [], _ :: _ => by simp [Go.Lib.compareBytes]
  | _ :: _, [] => by simp [Go.Lib.compareBytes]
  | a :: x, b :: y => by
    unfold Go.Lib.compareBytes
    split
    · omega
    · split
      · omega
      · exact cb_range x y

/-- At the first place where two lists part. -/
theorem cb_at : ∀ (x y : List UInt8) (k : Nat) (hx : k < x.length) (hy : k < y.length), x.take k = y.take k → Go.Lib.compareBytes x y = if x[k] < y[k] then -1 else if y[k] < x[k] then 1 else Go.Lib.compareBytes (x.drop (k + 1)) (y.drop (k + 1))
  | [], _, _, h, _, _ => by simp at h
  | _ :: _, [], _, _, h, _ => by simp at h
  | a :: x, b :: y, 0, _, _, _ => by simp [Go.Lib.compareBytes]
  | a :: x, b :: y, k + 1, hx, hy, ht => by
    simp only [List.take_succ_cons, List.cons.injEq] at ht
    obtain ⟨rfl, ht⟩ := ht
    have := cb_at x y k (by simpa using hx) (by simpa using hy) ht
    have e : Go.Lib.compareBytes (a :: x) (a :: y) = Go.Lib.compareBytes x y := by rw [Go.Lib.compareBytes]; simp
    rw [e]
    simp only [List.getElem_cons_succ, List.drop_succ_cons]
    exact this

/-- One is a beginning of the other. -/
theorem cb_end : ∀ (x y : List UInt8), x.take (min x.length y.length) = y.take (min x.length y.length) → Go.Lib.compareBytes x y = cmpI x.length y.length
  | [], [], _ => by simp [Go.Lib.compareBytes, cmpI_self]
  | [], b :: y, _ => by simp only [Go.Lib.compareBytes]; rw [cmpI_lt (by simp)]
  | a :: x, [], _ => by simp only [Go.Lib.compareBytes]; rw [cmpI_gt (by simp)]
  | a :: x, b :: y, h => by
    simp only [List.length_cons, Nat.succ_min_succ, Nat.succ_eq_add_one, List.take_succ_cons, List.cons.injEq] at h
    obtain ⟨rfl, h⟩ := h
    have := cb_end x y h
    unfold Go.Lib.compareBytes
    simp only [UInt8.lt_irrefl, if_false]
    rw [this]
    unfold cmpI
    simp only [List.length_cons]
    split <;> split <;> (try split) <;> (try split) <;> omega

/-! ### digits, padded with zeros -/
def trail (l : List UInt8) : Prop := l = [] ∨ l.getLastD 48 ≠ 48

theorem trail_tail {a : UInt8} {l : List UInt8} (h : trail (a :: l)) : trail l := by
  cases l with
  | nil => exact .inl rfl
  | cons b l => rcases h with h | h
                · cases h
                · exact .inr (by simpa using h)

theorem all48 : ∀ l : List UInt8, (∀ j, l.getD j 48 = 48) → l.getLastD 48 = 48
  | [], _ => rfl
  | [a], h => by simpa using h 0
  | a :: b :: l, h => by
    have := all48 (b :: l) (fun j => by simpa using h (j + 1))
    simpa using this

theorem cb_less : ∀ (x y : List UInt8) (k : Nat), (∀ c ∈ x, 48 ≤ c.toNat) → (∀ j, j < k → x.getD j 48 = y.getD j 48) → (x.getD k 48).toNat < (y.getD k 48).toNat → Go.Lib.compareBytes x y = -1
  | [], [], k, _, _, h => by simp at h
  | [], b :: y, _, _, _, _ => by simp [Go.Lib.compareBytes]
  | a :: x, [], k, hx, _, h => by
    exfalso
    simp only [List.getD_nil] at h
    by_cases hk : k < (a :: x).length
    · have := hx ((a :: x).getD k 48) (by simp only [List.getD, List.getElem?_eq_getElem hk, Option.getD_some]; exact List.getElem_mem _)
      have e : (48 : UInt8).toNat = 48 := rfl
      omega
    · rw [List.getD, List.getElem?_eq_none (by omega)] at h; simp at h
  | a :: x, b :: y, 0, _, _, h => by
    have : a < b := UInt8.lt_iff_toNat_lt.2 (by simpa using h)
    simp [Go.Lib.compareBytes, this]
  | a :: x, b :: y, k + 1, hx, hj, h => by
    have h0 : a = b := by simpa using hj 0 (by omega)
    subst h0
    have := cb_less x y k (fun c hc => hx c (List.mem_cons_of_mem _ hc)) (fun j hjk => by simpa using hj (j + 1) (by omega)) (by simpa using h)
    unfold Go.Lib.compareBytes
    simp only [UInt8.lt_irrefl, if_false]
    exact this

theorem cb_anti : ∀ x y : List UInt8, Go.Lib.compareBytes x y = - Go.Lib.compareBytes y x
  | [], [] => by simp [Go.Lib.compareBytes]
  | [], _ :: _ => by simp [Go.Lib.compareBytes]
  | _ :: _, [] => by simp [Go.Lib.compareBytes]
  | a :: x, b :: y => by
    have := cb_anti x y
    unfold Go.Lib.compareBytes
    by_cases h1 : a < b
    · have h2 : ¬ b < a := fun h => by have := UInt8.lt_iff_toNat_lt.1 h; have := UInt8.lt_iff_toNat_lt.1 h1; omega
      simp [h1, h2]
    · by_cases h2 : b < a
      · simp [h1, h2]
      · simp [h1, h2, this]

theorem cb_same : ∀ x y : List UInt8, trail x → trail y → (∀ j, x.getD j 48 = y.getD j 48) → Go.Lib.compareBytes x y = 0
  | [], [], _, _, _ => by simp [Go.Lib.compareBytes]
  | [], b :: y, _, hy, h => by
    exfalso
    rcases hy with hy | hy
    · cases hy
    · exact hy (all48 _ (fun j => by simpa using (h j).symm))
  | a :: x, [], hx, _, h => by
    exfalso
    rcases hx with hx | hx
    · cases hx
    · exact hx (all48 _ (fun j => by simpa using h j))
  | a :: x, b :: y, hx, hy, h => by
    have h0 : a = b := by simpa using h 0
    subst h0
    have := cb_same x y (trail_tail hx) (trail_tail hy) (fun j => by simpa using h (j + 1))
    unfold Go.Lib.compareBytes
    simp only [UInt8.lt_irrefl, if_false]
    exact this

/-- Magnitudes: the exponents, then the digits as text. -/
def plc (l1 : List UInt8) (e1 : Int) (l2 : List UInt8) (e2 : Int) : Int := if e1 < e2 then -1 else if e2 < e1 then 1 else Go.Lib.compareBytes l1 l2
theorem plc_range (l1 : List UInt8) (e1 : Int) (l2 : List UInt8) (e2 : Int) : -1 ≤ plc l1 e1 l2 e2 ∧ plc l1 e1 l2 e2 ≤ 1 := by
  have := cb_range l1 l2
  unfold plc; split <;> (try split) <;> omega

def sgn (neg : Bool) (l : List UInt8) : Int := if l.isEmpty then 0 else if neg then -1 else 1
/-- What both comparisons of decimals come to. -/
def dec (n1 : Bool) (l1 : List UInt8) (e1 : Int) (n2 : Bool) (l2 : List UInt8) (e2 : Int) : Int :=
  if sgn n1 l1 = sgn n2 l2 then (if sgn n1 l1 = 0 then 0 else if n1 then - plc l1 e1 l2 e2 else plc l1 e1 l2 e2) else cmpI (sgn n1 l1) (sgn n2 l2)

/-- Canonical decimals. -/
def canonD (neg : Bool) (l : List UInt8) (exp : Int) : Bool :=
  if l.isEmpty then !neg && exp == 0 else l.all (fun c => decide (48 ≤ c.toNat) && decide (c.toNat ≤ 57)) && (l.headD 48 != 48 && l.getLastD 48 != 48)
end Go.Proofs.Qxb6001698a.Ord
