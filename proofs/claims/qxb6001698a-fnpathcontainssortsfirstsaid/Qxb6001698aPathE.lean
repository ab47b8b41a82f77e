import Derived.Test.Qxb6001698aPathD
/- The law's own walk. -/
namespace Go.Proofs.Qxb6001698a.Path
open Go.RowKit

theorem below_chain {w w1 w2 : World} (h : Below w.heap.size w w1) (h' : Below w1.heap.size w1 w2) : Below w.heap.size w w2 := h.trans (h'.mono h.size)

theorem pre_self (P : List (ByteArray × Int × Bool)) : pre P P = true := decide_eq_true (by rw [List.take_length])
theorem pre_facts {P Q : List (ByteArray × Int × Bool)} (h : pre P Q = true) : P.length ≤ Q.length ∧ ∀ j (h : j < P.length) (h' : j < Q.length), P[j] = Q[j] := by
  have h : P = Q.take P.length := of_decide_eq_true h
  have hl : P.length ≤ Q.length := by have := congrArg List.length h; simp at this; omega
  refine ⟨hl, fun j hj hj' => ?_⟩
  have h1 : P[j]? = (Q.take P.length)[j]? := congrArg (fun z => z[j]?) h
  rw [List.getElem?_take, if_pos hj, List.getElem?_eq_getElem hj, List.getElem?_eq_getElem hj'] at h1
  exact Option.some.inj h1
theorem pre_short {P Q : List (ByteArray × Int × Bool)} (h : P.length < Q.length) : pre Q P = false := by
  cases hp : pre Q P with
  | false => rfl
  | true => have := (pre_facts hp).1; omega

theorem cmpI_self (x : Int) : cmpI x x = 0 := by unfold cmpI; rw [if_neg (by omega), if_neg (by omega)]

/-- Behind the two paths: the law's tests. -/
structure Two (W : World) (P Q : List (ByteArray × Int × Bool)) (vp vq : Value) : Prop where
  hp : PRow W vp P
  hq : PRow W vq Q

theorem Two.drew {W : World} {P Q : List (ByteArray × Int × Bool)} {vp vq : Value} (h : Two W P Q vp vq) (n : Nat) : Two (W.drewN n) P Q vp vq :=
  ⟨h.hp.later (below_drewN (Below.refl _ _) n), h.hq.later (below_drewN (Below.refl _ _) n)⟩

set_option maxHeartbeats 4000000 in
set_option maxRecDepth 100000 in
theorem law_calls (ss ts : List ByteArray) (is js : List Int) (bs cs : List Bool) (v0 v1 v2 v3 v4 v5 : Value) (w : World)
    (h0 : Row w v0 (ss.map Value.string)) (h1 : Row w v1 (is.map (Value.int .i64))) (h2 : Row w v2 (bs.map Value.bool))
    (h3 : Row w v3 (ts.map Value.string)) (h4 : Row w v4 (js.map (Value.int .i64))) (h5 : Row w v5 (cs.map Value.bool))
    (hs : ss.length ≤ maxLen) (ht : ts.length ≤ maxLen) :
    Calls Try.prog 6 #[v0, v1, v2, v3, v4, v5] w fun e w' => e = .returned (.bool true) ∧ Below w.heap.size w w' := by
  obtain ⟨a0, c0, rfl, _⟩ := id h0
  obtain ⟨a1, c1, rfl, _⟩ := id h1
  obtain ⟨a2, c2, rfl, _⟩ := id h2
  obtain ⟨a3, c3, rfl, _⟩ := id h3
  obtain ⟨a4, c4, rfl, _⟩ := id h4
  obtain ⟨a5, c5, rfl, _⟩ := id h5
  simp only [List.length_map] at h0 h1 h2 h3 h4 h5 ⊢
  have HZ : Hid (Calls Try.prog 21 #[.slice a0 ss.length c0, .slice a1 is.length c1, .slice a2 bs.length c2, .slice a3 ts.length c3, .slice a4 js.length c4, .slice a5 cs.length c5] w fun e w' => AnyBool e ∧ w = w') :=
    bytes_calls ss ts _ _ a1 a2 a4 a5 _ _ _ _ _ _ _ _ w h0 h3 hs ht
  have R0 : Hid (Row w (.slice a0 ss.length c0) (ss.map Value.string)) := h0
  have R1 : Hid (Row w (.slice a1 is.length c1) (is.map (Value.int .i64))) := h1
  have R2 : Hid (Row w (.slice a2 bs.length c2) (bs.map Value.bool)) := h2
  have R3 : Hid (Row w (.slice a3 ts.length c3) (ts.map Value.string)) := h3
  have R4 : Hid (Row w (.slice a4 js.length c4) (js.map (Value.int .i64))) := h4
  have R5 : Hid (Row w (.slice a5 cs.length c5) (cs.map Value.bool)) := h5
  clear h0 h1 h2 h3 h4 h5
  unfold maxLen at hs ht
  go_enter Try.func6, Try.ntmps6
  go_wp2_with fail
  refine HZ.out.mono ?_
  rintro e w' ⟨⟨r, rfl⟩, rfl⟩
  clear HZ
  cases r with
  | false =>
    go_wp2
    go_ret
    exact ⟨rfl, Below.refl _ _⟩
  | true =>
  by_cases k0 : (4096 : Int) < (ss.length : Int)
  · go_wp2
    go_ret
    exact ⟨rfl, Below.refl _ _⟩
  by_cases k1 : (4096 : Int) < (is.length : Int)
  · go_wp2
    go_ret
    exact ⟨rfl, Below.refl _ _⟩
  by_cases k2 : (4096 : Int) < (bs.length : Int)
  · go_wp2
    go_ret
    exact ⟨rfl, Below.refl _ _⟩
  by_cases k3 : (4096 : Int) < (ts.length : Int)
  · go_wp2
    go_ret
    exact ⟨rfl, Below.refl _ _⟩
  by_cases k4 : (4096 : Int) < (js.length : Int)
  · go_wp2
    go_ret
    exact ⟨rfl, Below.refl _ _⟩
  by_cases k5 : (4096 : Int) < (cs.length : Int)
  · go_wp2
    go_ret
    exact ⟨rfl, Below.refl _ _⟩
  have q0 : ss.length ≤ 4096 := by omega
  have q3 : ts.length ≤ 4096 := by omega
  clear hs ht
  go_wp2_with fail
  refine (pathBytes_calls ss _ a1 a2 _ _ _ _ w R0.out q0).mono ?_
  rintro e w' ⟨⟨n1, rfl⟩, rfl⟩
  go_wp2_with fail
  refine (pathBytes_calls ts _ a4 a5 _ _ _ _ w R3.out q3).mono ?_
  rintro e w' ⟨⟨n2, rfl⟩, rfl⟩
  cases e1 : decide ((1048576 : Int) < wrap64 (n1 + n2)) with
  | true =>
    go_wp2
    go_ret
    exact ⟨rfl, Below.refl _ _⟩
  | false =>
  go_wp2_with fail
  refine (same_calls _ _ _ _ _ _ _ _ _ _).mono ?_
  rintro e w' ⟨rfl, rfl⟩
  cases e2 : same ss.length is.length bs.length with
  | false =>
    go_wp2
    go_ret
    exact ⟨rfl, Below.refl _ _⟩
  | true =>
  go_wp2_with fail
  refine (same_calls _ _ _ _ _ _ _ _ _ _).mono ?_
  rintro e w' ⟨rfl, rfl⟩
  cases e3 : same ts.length js.length cs.length with
  | false =>
    go_wp2
    go_ret
    exact ⟨rfl, Below.refl _ _⟩
  | true =>
  have l1 : is.length = ss.length ∧ bs.length = ss.length := by simpa [same] using e2
  have l2 : js.length = ts.length ∧ cs.length = ts.length := by simpa [same] using e3
  have L1 : Hid (is.length = ss.length ∧ bs.length = ss.length) := l1
  have L2 : Hid (js.length = ts.length ∧ cs.length = ts.length) := l2
  clear l1 l2 e1 e2 e3
  have q1 : is.length ≤ 4096 := by omega
  have q2 : bs.length ≤ 4096 := by omega
  have q4 : js.length ≤ 4096 := by omega
  have q5 : cs.length ≤ 4096 := by omega
  clear k0 k1 k2 k3 k4 k5
  go_wp2_with fail
  refine (cloneStrings_calls ss _ q0 w R0.out).mono ?_
  rintro e w1 ⟨⟨u0, rfl, t0⟩, b1⟩
  have T0 : Hid (Row w1 u0 (ss.map Value.string)) := t0
  have B1 : Hid (Below w.heap.size w w1) := b1
  clear t0 b1 R0
  go_wp2_with fail
  refine (cloneInts_calls is _ q1 w1 (R1.out.later B1.out)).mono ?_
  rintro e w2 ⟨⟨u1, rfl, t1⟩, b2⟩
  have T1 : Hid (Row w2 u1 (is.map (Value.int .i64))) := t1
  have S0 : Hid (Row w2 u0 (ss.map Value.string)) := T0.out.later b2
  have B2 : Hid (Below w.heap.size w w2) := below_chain B1.out b2
  clear t1 b2 R1 T0 B1
  go_wp2_with fail
  refine (cloneBools_calls bs _ q2 w2 (R2.out.later B2.out)).mono ?_
  rintro e w3 ⟨⟨u2, rfl, t2⟩, b3⟩
  have U0 : Hid (Row w3 u0 (ss.map Value.string)) := S0.out.later b3
  have U1 : Hid (Row w3 u1 (is.map (Value.int .i64))) := T1.out.later b3
  have U2 : Hid (Row w3 u2 (bs.map Value.bool)) := t2
  have B3 : Hid (Below w.heap.size w w3) := below_chain B2.out b3
  clear t2 b3 R2 S0 T1 B2
  go_wp2_with fail
  refine (cloneStrings_calls ts _ q3 w3 (R3.out.later B3.out)).mono ?_
  rintro e w4 ⟨⟨u3, rfl, t3⟩, b4⟩
  have W3 : Hid (Row w4 u3 (ts.map Value.string)) := t3
  have V34 : Hid (Below w3.heap.size w3 w4) := b4
  have B4 : Hid (Below w.heap.size w w4) := below_chain B3.out b4
  clear t3 b4 R3 B3
  go_wp2_with fail
  refine (cloneInts_calls js _ q4 w4 (R4.out.later B4.out)).mono ?_
  rintro e w5 ⟨⟨u4, rfl, t4⟩, b5⟩
  have X3 : Hid (Row w5 u3 (ts.map Value.string)) := W3.out.later b5
  have X4 : Hid (Row w5 u4 (js.map (Value.int .i64))) := t4
  have V35 : Hid (Below w3.heap.size w3 w5) := below_chain V34.out b5
  have B5 : Hid (Below w.heap.size w w5) := below_chain B4.out b5
  clear t4 b5 R4 B4 W3 V34
  go_wp2_with fail
  refine (cloneBools_calls cs _ q5 w5 (R5.out.later B5.out)).mono ?_
  rintro e w6 ⟨⟨u5, rfl, t5⟩, b6⟩
  have Y3 : Hid (Row w6 u3 (ts.map Value.string)) := X3.out.later b6
  have Y4 : Hid (Row w6 u4 (js.map (Value.int .i64))) := X4.out.later b6
  have Y5 : Hid (Row w6 u5 (cs.map Value.bool)) := t5
  have V36 : Hid (Below w3.heap.size w3 w6) := below_chain V35.out b6
  have B6 : Hid (Below w.heap.size w w6) := below_chain B5.out b6
  clear t5 b6 R5 B5 X3 X4 V35
  go_wp2_with fail
  refine (build_calls ss is bs u0 u1 u2 w6 (U0.out.later V36.out) (U1.out.later V36.out) (U2.out.later V36.out) q0 L1.out.1 L1.out.2).mono ?_
  rintro e w7 ⟨⟨gp, cp, rfl, op⟩, b7⟩
  have P7 : Hid (PRow w7 _ (stepsOf ss is bs)) := PRow.of_owns op
  have PL : Hid ((stepsOf ss is bs).length ≤ 4096) := by show (stepsOf ss is bs).length ≤ 4096; simp [stepsOf]; omega
  have Z67 : Hid (Below w6.heap.size w6 w7) := b7
  have B7 : Hid (Below w.heap.size w w7) := below_chain B6.out b7
  clear op b7 U0 U1 U2 V36 B6
  go_wp2_with fail
  refine (build_calls ts js cs u3 u4 u5 w7 (Y3.out.later Z67.out) (Y4.out.later Z67.out) (Y5.out.later Z67.out) q3 L2.out.1 L2.out.2).mono ?_
  rintro e w8 ⟨⟨gq, cq, rfl, oq⟩, b8⟩
  have Q8 : Hid (PRow w8 _ (stepsOf ts js cs)) := PRow.of_owns oq
  have P8 : Hid (PRow w8 _ (stepsOf ss is bs)) := P7.out.later b8
  have QL : Hid ((stepsOf ts js cs).length ≤ 4096) := by show (stepsOf ts js cs).length ≤ 4096; simp [stepsOf]; omega
  have B8 : Hid (Below w.heap.size w w8) := below_chain B7.out b8
  clear oq b8 Y3 Y4 Y5 Z67 B7 P7 L1 L2
  clear q0 q1 q2 q3 q4 q5
  generalize stepsOf ss is bs = P at *
  generalize stepsOf ts js cs = Q at *
  have pl := PL.out
  have ql := QL.out
  have TW : Hid (Two w8 P Q (.slice (some ⟨gp, 0, none⟩) P.length cp) (.slice (some ⟨gq, 0, none⟩) Q.length cq)) := ⟨P8.out, Q8.out⟩
  clear P8 Q8 PL QL
  have TD : Hid (∀ n, Two (w8.drewN n) P Q (.slice (some ⟨gp, 0, none⟩) P.length cp) (.slice (some ⟨gq, 0, none⟩) Q.length cq)) := fun n => TW.out.drew n
  have ZP : Hid (cmpI (P.length : Int) (P.length : Int) = 0) := cmpI_self _
  go_wp2_with fail
  refine (zzcontains_calls P P _ _ pl pl _ TW.out.hp TW.out.hp).mono ?_
  rintro e w' ⟨rfl, m1, rfl⟩
  rw [pre_self]
  go_wp2_with fail
  refine (zzcompare_calls P P _ _ pl pl _ (TD.out _).hp (TD.out _).hp (fun _ _ _ => rfl)).mono ?_
  rintro e w' ⟨rfl, m2, rfl⟩
  rw [ZP.out]
  rw [World.drewN_drewN]
  go_wp2_with fail
  refine (zzcontains_calls P Q _ _ pl ql _ (TD.out _).hp (TD.out _).hq).mono ?_
  rintro e w' ⟨rfl, m3, rfl⟩
  cases hpq : pre P Q with
  | false =>
    go_wp2
    go_ret
    exact ⟨rfl, by first | exact below_drewN B8.out _ | exact below_drewN (below_drewN B8.out _) _⟩
  | true =>
  obtain ⟨hle, heq⟩ := pre_facts hpq
  have HEQ : Hid (∀ j (h : j < P.length) (h' : j < Q.length), P[j] = Q[j]) := heq
  have CEQ : Hid (P.length = Q.length → cmpI (P.length : Int) (Q.length : Int) = 0 ∧ cmpI (Q.length : Int) (P.length : Int) = 0) := fun h => by rw [h]; exact ⟨cmpI_self _, cmpI_self _⟩
  have CLT : Hid (P.length < Q.length → cmpI (P.length : Int) (Q.length : Int) = -1 ∧ cmpI (Q.length : Int) (P.length : Int) = 1) := fun h => by
    unfold cmpI; exact ⟨by rw [if_pos (by omega)], by rw [if_neg (by omega), if_pos (by omega)]⟩
  clear hpq heq
  rw [World.drewN_drewN]
  go_wp2_with fail
  refine (zzcompare_calls P Q _ _ pl ql _ (TD.out _).hp (TD.out _).hq HEQ.out).mono ?_
  rintro e w' ⟨rfl, m4, rfl⟩
  rw [World.drewN_drewN]
  go_wp2_with fail
  refine (zzcompare_calls Q P _ _ ql pl _ (TD.out _).hq (TD.out _).hp (fun j h h' => (HEQ.out j h' h).symm)).mono ?_
  rintro e w' ⟨rfl, m5, rfl⟩
  rw [World.drewN_drewN]
  by_cases hll : P.length = Q.length
  · rw [(CEQ.out hll).1, (CEQ.out hll).2]
    have hb : ((P.length : Int) == (Q.length : Int)) = true := by rw [hll]; simp
    have hb' : ((P.length : Int) != (Q.length : Int)) = false := by rw [hll]; simp
    clear hll hle
    go_wp2_with fail
    refine (zzcontains_calls Q P _ _ ql pl _ (TD.out _).hq (TD.out _).hp).mono ?_
    rintro e w' ⟨rfl, m6, rfl⟩
    cases pre Q P with
    | false =>
      go_wp2
      go_ret
      exact ⟨rfl, by first | exact below_drewN B8.out _ | exact below_drewN (below_drewN B8.out _) _⟩
    | true =>
      go_wp2
      go_ret
      exact ⟨rfl, by first | exact below_drewN B8.out _ | exact below_drewN (below_drewN B8.out _) _⟩
  · rw [(CLT.out (by omega)).1, (CLT.out (by omega)).2]
    have hb : ((P.length : Int) == (Q.length : Int)) = false := by rw [beq_eq_false_iff_ne]; omega
    have HS : Hid (pre Q P = false) := pre_short (by omega)
    clear hll hle
    go_wp2_with fail
    refine (zzcontains_calls Q P _ _ ql pl _ (TD.out _).hq (TD.out _).hp).mono ?_
    rintro e w' ⟨rfl, m6, rfl⟩
    rw [HS.out]
    go_wp2
    go_ret
    exact ⟨rfl, by first | exact below_drewN B8.out _ | exact below_drewN (below_drewN B8.out _) _⟩
end Go.Proofs.Qxb6001698a.Path
