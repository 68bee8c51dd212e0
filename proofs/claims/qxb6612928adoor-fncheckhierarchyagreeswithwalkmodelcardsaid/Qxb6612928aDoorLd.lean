/-
  The law: the last checks.
-/
import Derived.Test.Qxb6612928aDoorLa
namespace Go.Proofs.Qxb6612928aDoor.H
open Go.RowKit Go.Maps
set_option linter.unusedVariables false

set_option maxHeartbeats 2000000 in
set_option maxRecDepth 100000 in
theorem l7 {I : In} {X : Ar} {a : Act} {w : World} {s : Int} (fr : FrA I X a) (s17 : a.tmps.getD 17 undef = .int .i64 s) (K : Act → World → Prop) (Q0 : Exit → Act → World → Prop)
    (hR : ∀ a', RetB true a' → Q0 .ret a' w) (hK : ∀ a', FrA I X a' → K a' w) : (stm 7 (Tryd.f3.body.getD .skip)).wp Tryd.prog (Exit.then K Q0) a w := by
  obtain ⟨f, rfl, hf⟩ := lit559 a fr.size fr.defers
  have e0 := (hf 0).symm.trans fr.s0
  have e1 := (hf 1).symm.trans fr.s1
  have e2 := (hf 2).symm.trans fr.s2
  have e3 := (hf 3).symm.trans fr.s3
  have e4 := (hf 4).symm.trans fr.s4
  have e5 := (hf 5).symm.trans fr.s5
  have e6 := (hf 6).symm.trans fr.s6
  have e7 := (hf 7).symm.trans fr.s7
  have e17 := (hf 17).symm.trans s17
  clear fr hf s17
  simp only [e0, e1, e2, e3, e4, e5, e6, e7, e17]
  clear e0 e1 e2 e3 e4 e5 e6 e7 e17
  conv => arg 2; whnf
  go_wp2_with fail
  all_goals first | exact ⟨rfl, rfl⟩ | exact ⟨rfl, rfl, rfl, rfl, rfl, rfl, rfl, rfl, rfl, rfl⟩

set_option maxHeartbeats 2000000 in
set_option maxRecDepth 100000 in
theorem l8 {I : In} {X : Ar} {a : Act} {w : World} (fr : FrA I X a) (K : Act → World → Prop) (Q0 : Exit → Act → World → Prop)
    (hK : ∀ a', FrA I X a' → a'.tmps.getD 21 undef = .int .i64 I.n → K a' w) : (stm 8 (Tryd.f3.body.getD .skip)).wp Tryd.prog (Exit.then K Q0) a w := by
  obtain ⟨f, rfl, hf⟩ := lit559 a fr.size fr.defers
  have e0 := (hf 0).symm.trans fr.s0
  have e1 := (hf 1).symm.trans fr.s1
  have e2 := (hf 2).symm.trans fr.s2
  have e3 := (hf 3).symm.trans fr.s3
  have e4 := (hf 4).symm.trans fr.s4
  have e5 := (hf 5).symm.trans fr.s5
  have e6 := (hf 6).symm.trans fr.s6
  have e7 := (hf 7).symm.trans fr.s7
  clear fr hf 
  simp only [e0, e1, e2, e3, e4, e5, e6, e7]
  clear e0 e1 e2 e3 e4 e5 e6 e7
  conv => arg 2; whnf
  go_wp2_with fail
  exact hK _ ⟨rfl, rfl, rfl, rfl, rfl, rfl, rfl, rfl, rfl, rfl⟩ rfl

set_option maxHeartbeats 2000000 in
set_option maxRecDepth 100000 in
theorem l9 {I : In} {X : Ar} {a : Act} {w : World} (fr : FrA I X a) (s21 : a.tmps.getD 21 undef = .int .i64 I.n) (K : Act → World → Prop) (Q0 : Exit → Act → World → Prop)
    (hR : ∀ a', RetB true a' → Q0 .ret a' w) (hK : ∀ a', X.n1 = I.n → X.n2 = I.n → X.n3 = I.n → X.n4 = I.n → X.n5 = I.n → X.n6 = I.n → X.n7 = I.n → FrB I X a' → K a' w) : (stm 9 (Tryd.f3.body.getD .skip)).wp Tryd.prog (Exit.then K Q0) a w := by
  obtain ⟨f, rfl, hf⟩ := lit559 a fr.size fr.defers
  have e0 := (hf 0).symm.trans fr.s0
  have e1 := (hf 1).symm.trans fr.s1
  have e2 := (hf 2).symm.trans fr.s2
  have e3 := (hf 3).symm.trans fr.s3
  have e4 := (hf 4).symm.trans fr.s4
  have e5 := (hf 5).symm.trans fr.s5
  have e6 := (hf 6).symm.trans fr.s6
  have e7 := (hf 7).symm.trans fr.s7
  have e21 := (hf 21).symm.trans s21
  clear fr hf s21
  simp only [e0, e1, e2, e3, e4, e5, e6, e7, e21]
  clear e0 e1 e2 e3 e4 e5 e6 e7 e21
  by_cases fin : X.n1 = I.n ∧ X.n2 = I.n ∧ X.n3 = I.n ∧ X.n4 = I.n ∧ X.n5 = I.n ∧ X.n6 = I.n ∧ X.n7 = I.n
  · obtain ⟨h1, h2, h3, h4, h5, h6, h7⟩ := fin
    have HK : ∀ a', FrB I X a' → K a' w := fun a' => hK a' h1 h2 h3 h4 h5 h6 h7
    clear hK hR
    rw [h1, h2, h3, h4, h5, h6, h7]
    conv => arg 2; whnf
    go_wp2_with fail
    exact ⟨rfl, rfl, rfl, rfl, rfl, rfl, rfl, rfl, rfl, rfl, rfl⟩
  · clear hK
    have hno := fin
    clear fin
    have hno' : ¬ ((X.n1 : Int) = I.n ∧ (X.n2 : Int) = I.n ∧ (X.n3 : Int) = I.n ∧ (X.n4 : Int) = I.n ∧ (X.n5 : Int) = I.n ∧ (X.n6 : Int) = I.n ∧ (X.n7 : Int) = I.n) := fun h => hno ⟨by omega, by omega, by omega, by omega, by omega, by omega, by omega⟩
    conv => arg 2; whnf
    go_wp2_with fail
    all_goals first | exact ⟨rfl, rfl⟩ | (exfalso; simp_all; done) | (exfalso; exact hno ⟨by omega, by omega, by omega, by omega, by omega, by omega, by omega⟩)

def asL (c : Code) : Code := lC (bC (sB (stm 10 c)))

set_option maxHeartbeats 2000000 in
set_option maxRecDepth 100000 in
theorem asRound {I : In} {X : Ar} {a : Act} {w : World} {i : Nat} (fr : FrB I X a) (s22 : a.tmps.getD 22 undef = .int .i64 i) (hn : I.n ≤ 4096) (hi1 : 1 ≤ i) (hi : i ≤ I.n) (hA : Arr w X.a0 I.n fun j => .int .i32 (I.code j)) (K : Act → World → Prop) (Q0 : Exit → Act → World → Prop)
    (hR : ∀ a' w', Below w.heap.size w w' → RetB true a' → Q0 .ret a' w') (hX : ∀ a', i = I.n → FrB I X a' → Q0 (.exit 6) a' w)
    (hK : ∀ a' w', i < I.n → I.code (i - 1) < I.code i → Below w.heap.size w w' → FrB I X a' → a'.tmps.getD 22 undef = .int .i64 ((i + 1 : Nat) : Int) → K a' w') :
    (asL (Tryd.f3.body.getD .skip)).wp Tryd.prog (Exit.then K Q0) a w := by
  obtain ⟨f, rfl, hf⟩ := lit559 a fr.size fr.defers
  have e0 := (hf 0).symm.trans fr.s0
  have e1 := (hf 1).symm.trans fr.s1
  have e2 := (hf 2).symm.trans fr.s2
  have e3 := (hf 3).symm.trans fr.s3
  have e4 := (hf 4).symm.trans fr.s4
  have e5 := (hf 5).symm.trans fr.s5
  have e6 := (hf 6).symm.trans fr.s6
  have e7 := (hf 7).symm.trans fr.s7
  have e21 := (hf 21).symm.trans fr.s21
  have e22 := (hf 22).symm.trans s22
  clear fr hf s22
  simp only [e0, e1, e2, e3, e4, e5, e6, e7, e21, e22]
  clear e0 e1 e2 e3 e4 e5 e6 e7 e21 e22
  by_cases hlt : i < I.n
  · have hlt' : (i : Int) < I.n := by omega
    obtain ⟨ad, ha, hc⟩ := hA (by omega)
    have hcell := hc i hlt
    have hcell1 := hc (i - 1) (by omega)
    have hi1' : (i : Int) - 1 = ((i - 1 : Nat) : Int) := by omega
    have hi2 : ((i - 1 : Nat) : Int) < I.n := by omega
    have hD : ∀ nq, Below w.heap.size w (w.drewN nq) := fun nq => ⟨rfl, rfl, rfl, Nat.le_refl _, fun _ _ => rfl⟩
    clear hX hc hA
    rw [ha]
    generalize hip : i - 1 = ip at *
    by_cases hcd : I.code ip < I.code i
    · have HK : ∀ a' w', Below w.heap.size w w' → FrB I X a' → a'.tmps.getD 22 undef = .int .i64 ((i + 1 : Nat) : Int) → K a' w' := fun a' w' => hK a' w' hlt hcd
      clear hK hR
      conv => arg 2; whnf
      go_wp2_with fail
      go_quiet (fail)
      go_wp2_with fail
      exact HK _ _ (hD nq) ⟨rfl, rfl, by rw [ha]; rfl, rfl, rfl, rfl, rfl, rfl, rfl, rfl, rfl⟩ (by first | rfl | go_num)
    · have hcd' : I.code i ≤ I.code ip := by omega
      clear hK
      conv => arg 2; whnf
      go_wp2_with fail
      go_quiet (fail)
      go_wp2_with fail
      exact hR _ _ (hD nq) ⟨rfl, rfl⟩
  · obtain rfl : i = I.n := by omega
    have HX : ∀ a', FrB I X a' → Q0 (.exit 6) a' w := fun a' => hX a' rfl
    clear hK hR hX
    conv => arg 2; whnf
    go_wp2_with fail
    exact ⟨rfl, rfl, rfl, rfl, rfl, rfl, rfl, rfl, rfl, rfl, rfl⟩

set_option maxHeartbeats 2000000 in
set_option maxRecDepth 100000 in
theorem asExit {I : In} {X : Ar} {a : Act} {w : World} {i : Nat} (fr : FrB I X a) (s22 : a.tmps.getD 22 undef = .int .i64 i) (hi : ¬ i < I.n) (K : Act → World → Prop) (Q0 : Exit → Act → World → Prop)
    (hX : ∀ a', FrB I X a' → Q0 (.exit 6) a' w) :
    (asL (Tryd.f3.body.getD .skip)).wp Tryd.prog (Exit.then K Q0) a w := by
  obtain ⟨f, rfl, hf⟩ := lit559 a fr.size fr.defers
  have e0 := (hf 0).symm.trans fr.s0
  have e1 := (hf 1).symm.trans fr.s1
  have e2 := (hf 2).symm.trans fr.s2
  have e3 := (hf 3).symm.trans fr.s3
  have e4 := (hf 4).symm.trans fr.s4
  have e5 := (hf 5).symm.trans fr.s5
  have e6 := (hf 6).symm.trans fr.s6
  have e7 := (hf 7).symm.trans fr.s7
  have e21 := (hf 21).symm.trans fr.s21
  have e22 := (hf 22).symm.trans s22
  clear fr hf s22
  simp only [e0, e1, e2, e3, e4, e5, e6, e7, e21, e22]
  clear e0 e1 e2 e3 e4 e5 e6 e7 e21 e22
  have hi' : ¬ (i : Int) < I.n := by omega
  conv => arg 2; whnf
  go_wp2_with fail
  exact ⟨rfl, rfl, rfl, rfl, rfl, rfl, rfl, rfl, rfl, rfl, rfl⟩

theorem asLoop {I : In} {X : Ar} {a : Act} {w : World} (fr : FrB I X a) (sx : a.tmps.getD 22 undef = .int .i64 ((1 : Nat) : Int)) (hn : I.n ≤ 4096) (hA : Arr w X.a0 I.n fun j => .int .i32 (I.code j)) (Q0 : Exit → Act → World → Prop)
    (hR : ∀ a' w', Below w.heap.size w w' → RetB true a' → Q0 .ret a' w') (hX : ∀ a' w', Asc I → Below w.heap.size w w' → FrB I X a' → Q0 (.exit 6) a' w') :
    (Code.loop (asL (Tryd.f3.body.getD .skip))).wp Tryd.prog Q0 a w := by
  by_cases hz : I.n ≤ 1
  · refine wp_loop_ghost (fun z a w' => w' = w ∧ FrB I X a ∧ a.tmps.getD 22 undef = .int .i64 ((1 : Nat) : Int)) 0 ⟨rfl, fr, sx⟩ ?_
    rintro z a w' ⟨rfl, fr, sx⟩
    exact asExit fr sx (by omega) _ Q0 (fun a' fr' => hX a' w' (asc_of_steps fun j hj => by omega) (Below.refl _ _) fr')
  · refine wp_loop_ghost (fun z a w' => Below w.heap.size w w' ∧ ∃ i, FrB I X a ∧ a.tmps.getD 22 undef = .int .i64 ((i : Nat) : Int) ∧ 1 ≤ i ∧ i ≤ I.n ∧ (∀ j, j + 1 < i → I.code j < I.code (j + 1)) ∧ I.n - i = z) (I.n - 1) ⟨Below.refl _ _, 1, fr, sx, Nat.le_refl _, by omega, fun j hj => by omega, rfl⟩ ?_
    rintro z a w' ⟨hb, i, fr, sx, hi1, hi, hst, rfl⟩
    refine asRound fr sx hn hi1 hi (hA.below (Nat.le_refl _) hb) _ Q0 (fun a' w2 hb2 hr => hR a' w2 (hb.trans (hb2.mono hb.size)) hr) (fun a' hin fr' => hX a' w' (asc_of_steps fun j hj => hst j (by omega)) hb fr') (fun a' w2 hlt hcd hb2 fr' hx => ⟨I.n - (i + 1), by omega, hb.trans (hb2.mono hb.size), i + 1, fr', hx, by omega, hlt, fun j hj => ?_, rfl⟩)
    rcases Nat.lt_or_ge (j + 1) i with h | h
    · exact hst j h
    · obtain rfl : i = j + 1 := by omega
      simpa using hcd

set_option maxHeartbeats 2000000 in
set_option maxRecDepth 100000 in
theorem l10 {I : In} {X : Ar} {a : Act} {w : World} (fr : FrB I X a) (hn : I.n ≤ 4096) (hA : Arr w X.a0 I.n fun j => .int .i32 (I.code j)) (K : Act → World → Prop) (Q0 : Exit → Act → World → Prop)
    (hR : ∀ a' w', Below w.heap.size w w' → RetB true a' → Q0 .ret a' w') (hK : ∀ a' w', Asc I → Below w.heap.size w w' → FrB I X a' → K a' w') : (stm 10 (Tryd.f3.body.getD .skip)).wp Tryd.prog (Exit.then K Q0) a w := by
  obtain ⟨f, rfl, hf⟩ := lit559 a fr.size fr.defers
  have e0 := (hf 0).symm.trans fr.s0
  have e1 := (hf 1).symm.trans fr.s1
  have e2 := (hf 2).symm.trans fr.s2
  have e3 := (hf 3).symm.trans fr.s3
  have e4 := (hf 4).symm.trans fr.s4
  have e5 := (hf 5).symm.trans fr.s5
  have e6 := (hf 6).symm.trans fr.s6
  have e7 := (hf 7).symm.trans fr.s7
  have e21 := (hf 21).symm.trans fr.s21
  clear fr hf 
  simp only [e0, e1, e2, e3, e4, e5, e6, e7, e21]
  clear e0 e1 e2 e3 e4 e5 e6 e7 e21
  conv => arg 2; whnf
  go_wp2_with fail
  exact asLoop ⟨rfl, rfl, rfl, rfl, rfl, rfl, rfl, rfl, rfl, rfl, rfl⟩ rfl hn hA _ (fun a' w' hb hr => hR a' w' hb hr) (fun a' w' ha hb fr' => hK a' w' ha hb fr')
end Go.Proofs.Qxb6612928aDoor.H
