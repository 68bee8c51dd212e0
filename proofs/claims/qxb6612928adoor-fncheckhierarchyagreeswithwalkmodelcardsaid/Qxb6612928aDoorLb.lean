/-
  The law: the checks at its head.
-/
import Derived.Test.Qxb6612928aDoorLa
namespace Go.Proofs.Qxb6612928aDoor.H
open Go.RowKit Go.Maps
set_option linter.unusedVariables false

set_option maxHeartbeats 2000000 in
set_option maxRecDepth 100000 in
theorem l0 {I : In} {X : Ar} {a : Act} {w : World} (fr : FrA I X a) (K : Act → World → Prop) (Q0 : Exit → Act → World → Prop)
    (hK : ∀ a', FrA I X a' → K a' w) : (stm 0 (Tryd.f3.body.getD .skip)).wp Tryd.prog (Exit.then K Q0) a w := by
  obtain ⟨f, rfl, hf⟩ := lit559 a fr.size fr.defers
  have e0 := (hf 0).symm.trans fr.s0
  have e1 := (hf 1).symm.trans fr.s1
  have e2 := (hf 2).symm.trans fr.s2
  have e3 := (hf 3).symm.trans fr.s3
  have e4 := (hf 4).symm.trans fr.s4
  have e5 := (hf 5).symm.trans fr.s5
  have e6 := (hf 6).symm.trans fr.s6
  have e7 := (hf 7).symm.trans fr.s7
  clear fr hf 
  simp only [e0, e1, e2, e3, e4, e5, e6, e7]
  clear e0 e1 e2 e3 e4 e5 e6 e7
  conv => arg 2; whnf
  go_wp2_with fail
  exact ⟨rfl, rfl, rfl, rfl, rfl, rfl, rfl, rfl, rfl, rfl⟩

set_option maxHeartbeats 2000000 in
set_option maxRecDepth 100000 in
theorem l1 {I : In} {X : Ar} {a : Act} {w : World} (fr : FrA I X a) (ins : Ins I X w) (L : Lens I X) (K : Act → World → Prop) (Q0 : Exit → Act → World → Prop)
    (hR : ∀ a', RetB true a' → Q0 .ret a' w) (hK : ∀ a', (∀ j, j < X.n3 → (I.name j).size ≤ 1048576) → (∀ j, j < X.n5 → (I.cp j).size ≤ 1048576) → (∀ j, j < X.n6 → (I.np j).size ≤ 1048576) → FrA I X a' → K a' w) : (stm 1 (Tryd.f3.body.getD .skip)).wp Tryd.prog (Exit.then K Q0) a w := by
  obtain ⟨f, rfl, hf⟩ := lit559 a fr.size fr.defers
  have e0 := (hf 0).symm.trans fr.s0
  have e1 := (hf 1).symm.trans fr.s1
  have e2 := (hf 2).symm.trans fr.s2
  have e3 := (hf 3).symm.trans fr.s3
  have e4 := (hf 4).symm.trans fr.s4
  have e5 := (hf 5).symm.trans fr.s5
  have e6 := (hf 6).symm.trans fr.s6
  have e7 := (hf 7).symm.trans fr.s7
  clear fr hf 
  simp only [e0, e1, e2, e3, e4, e5, e6, e7]
  clear e0 e1 e2 e3 e4 e5 e6 e7
  have HC := zzBytes X.a0 X.a1 X.a2 X.a3 X.a4 X.a5 X.a6 X.a7 I.n X.n1 X.n2 X.n3 X.n4 X.n5 X.n6 X.n7 X.c0 X.c1 X.c2 X.c3 X.c4 X.c5 X.c6 X.c7 w I.name I.cp I.np ⟨L.m0, L.m1, L.m2, L.m3, L.m4, L.m5, L.m6, L.m7⟩ ins.r3 ins.r5 ins.r6 L.z3 L.z5 L.z6
  conv => arg 2; whnf
  go_wp2_with fail
  refine HC.mono ?_
  rintro e w1 ⟨b, rfl, rfl, hb⟩
  clear HC
  cases b with
  | false =>
    clear hb hK
    go_wp2_with fail
    exact ⟨rfl, rfl⟩
  | true =>
    obtain ⟨b3, b5, b6⟩ := hb rfl
    have HK : ∀ a', FrA I X a' → K a' w1 := fun a' => hK a' b3 b5 b6
    clear hK hR b3 b5 b6
    go_wp2_with fail
    exact ⟨rfl, rfl, rfl, rfl, rfl, rfl, rfl, rfl, rfl, rfl⟩

set_option maxHeartbeats 2000000 in
set_option maxRecDepth 100000 in
theorem l2 {I : In} {X : Ar} {a : Act} {w : World} (fr : FrA I X a) (L : Lens I X) (K : Act → World → Prop) (Q0 : Exit → Act → World → Prop)
    (hR : ∀ a', RetB true a' → Q0 .ret a' w) (hK : ∀ a', I.n ≤ 4096 → X.n1 ≤ 4096 → X.n2 ≤ 4096 → X.n3 ≤ 4096 → X.n4 ≤ 4096 → X.n5 ≤ 4096 → X.n6 ≤ 4096 → X.n7 ≤ 4096 → FrA I X a' → K a' w) : (stm 2 (Tryd.f3.body.getD .skip)).wp Tryd.prog (Exit.then K Q0) a w := by
  obtain ⟨f, rfl, hf⟩ := lit559 a fr.size fr.defers
  have e0 := (hf 0).symm.trans fr.s0
  have e1 := (hf 1).symm.trans fr.s1
  have e2 := (hf 2).symm.trans fr.s2
  have e3 := (hf 3).symm.trans fr.s3
  have e4 := (hf 4).symm.trans fr.s4
  have e5 := (hf 5).symm.trans fr.s5
  have e6 := (hf 6).symm.trans fr.s6
  have e7 := (hf 7).symm.trans fr.s7
  clear fr hf 
  simp only [e0, e1, e2, e3, e4, e5, e6, e7]
  clear e0 e1 e2 e3 e4 e5 e6 e7
  obtain ⟨m0, m1, m2, m3, m4, m5, m6, m7, -, -, -⟩ := L
  unfold maxLen at m0 m1 m2 m3 m4 m5 m6 m7
  conv => arg 2; whnf
  go_wp2_with fail
  all_goals first | exact ⟨rfl, rfl⟩ | exact hK _ (by omega) (by omega) (by omega) (by omega) (by omega) (by omega) (by omega) (by omega) ⟨rfl, rfl, rfl, rfl, rfl, rfl, rfl, rfl, rfl, rfl⟩

set_option maxHeartbeats 2000000 in
set_option maxRecDepth 100000 in
theorem l3 {I : In} {X : Ar} {a : Act} {w : World} (fr : FrA I X a) (h0 : I.n ≤ 4096) (h1 : X.n1 ≤ 4096) (h2 : X.n2 ≤ 4096) (h3 : X.n3 ≤ 4096) (h4 : X.n4 ≤ 4096) (h5 : X.n5 ≤ 4096) (h6 : X.n6 ≤ 4096) (h7 : X.n7 ≤ 4096) (K : Act → World → Prop) (Q0 : Exit → Act → World → Prop)
    (hK : ∀ a' s, 0 ≤ s → s ≤ 2097152 → FrA I X a' → a'.tmps.getD 17 undef = .int .i64 s → K a' w) : (stm 3 (Tryd.f3.body.getD .skip)).wp Tryd.prog (Exit.then K Q0) a w := by
  obtain ⟨f, rfl, hf⟩ := lit559 a fr.size fr.defers
  have e0 := (hf 0).symm.trans fr.s0
  have e1 := (hf 1).symm.trans fr.s1
  have e2 := (hf 2).symm.trans fr.s2
  have e3 := (hf 3).symm.trans fr.s3
  have e4 := (hf 4).symm.trans fr.s4
  have e5 := (hf 5).symm.trans fr.s5
  have e6 := (hf 6).symm.trans fr.s6
  have e7 := (hf 7).symm.trans fr.s7
  clear fr hf 
  simp only [e0, e1, e2, e3, e4, e5, e6, e7]
  clear e0 e1 e2 e3 e4 e5 e6 e7
  conv => arg 2; whnf
  go_wp2_with fail
  refine hK _ _ ?_ ?_ ⟨rfl, rfl, rfl, rfl, rfl, rfl, rfl, rfl, rfl, rfl⟩ rfl <;> omega

end Go.Proofs.Qxb6612928aDoor.H
