/-
  The law: the comparison.
-/
import Derived.Test.Qxb6612928aDoorLg
namespace Go.Proofs.Qxb6612928aDoor.H
open Go.RowKit Go.Maps
set_option linter.unusedVariables false

/-- What the comparison finds. -/
structure Cmp (Br B0 B : Nat) (nc nf : Nat) (is : List (Int × ByteArray)) (vI vC vK : Value) (w : World) : Prop where
  c0 : w.cell? ⟨Br, 0, none⟩ = some (.int .i64 nc)
  c1 : w.cell? ⟨Br, 1, none⟩ = some (.int .i64 nf)
  c2 : w.cell? ⟨Br, 2, none⟩ = some vI
  rowI : w.ownsRow B0 51 2 vI is.length (issCells is)
  rowC : w.ownsRow B 21 1 vC is.length (is.map fun p => .int .i32 p.1)
  rowK : w.ownsRow B 47 1 vK is.length (is.map fun p => .string p.2)

theorem Cmp.drewN {Br B0 B nc nf : Nat} {is : List (Int × ByteArray)} {vI vC vK : Value} {w : World} (h : Cmp Br B0 B nc nf is vI vC vK w) (q : Nat) : Cmp Br B0 B nc nf is vI vC vK (w.drewN q) := by
  have hg : w.grownBy (w.drewN q) none := ⟨rfl, rfl, rfl, Nat.le_refl _, fun _ _ _ => rfl⟩
  exact ⟨h.c0, h.c1, h.c2, h.rowI.kept hg (by cases vI.ownBlock <;> simp), h.rowC.kept hg (by cases vC.ownBlock <;> simp), h.rowK.kept hg (by cases vK.ownBlock <;> simp)⟩

theorem issCells_at : ∀ (l : List (Int × ByteArray)) (k : Nat) (p : Int × ByteArray), l[k]? = some p → (issCells l)[k * 2]? = some (.int .i32 p.1) ∧ (issCells l)[k * 2 + 1]? = some (.string p.2)
  | [], k, p, h => by simp at h
  | x :: xs, 0, p, h => by
    simp at h
    subst h
    exact ⟨rfl, rfl⟩
  | x :: xs, k + 1, p, h => by
    have h' : xs[k]? = some p := by simpa using h
    have ih := issCells_at xs k p h'
    have e1 : (k + 1) * 2 = k * 2 + 2 := by omega
    have e2 : (k + 1) * 2 + 1 = (k * 2 + 1) + 2 := by omega
    have e : issCells (x :: xs) = .int .i32 x.1 :: .string x.2 :: issCells xs := rfl
    rw [e1, show k * 2 + 2 + 1 = (k * 2 + 1) + 2 from by omega, e]
    exact ih

set_option maxHeartbeats 2000000 in
set_option maxRecDepth 100000 in
theorem l21 {I : In} {X : Ar} {Br Bv B B0 : Nat} {nc nf i : Nat} {vC vK vI : Value} {is : List (Int × ByteArray)} {a : Act} {w : World} (fr : FrG I X Br Bv nc nf i vC vK a) (hc : Cmp Br B0 B nc nf is vI vC vK w) (K : Act → World → Prop) (Q0 : Exit → Act → World → Prop)
    (hK : ∀ a', FrG I X Br Bv nc nf i vC vK a' → K a' w) : (stm 21 (Tryd.f3.body.getD .skip)).wp Tryd.prog (Exit.then K Q0) a w := by
  obtain ⟨f, rfl, hf⟩ := lit559 a fr.size fr.defers
  have e0 := (hf 0).symm.trans fr.s0
  have e1 := (hf 1).symm.trans fr.s1
  have e2 := (hf 2).symm.trans fr.s2
  have e3 := (hf 3).symm.trans fr.s3
  have e4 := (hf 4).symm.trans fr.s4
  have e5 := (hf 5).symm.trans fr.s5
  have e6 := (hf 6).symm.trans fr.s6
  have e7 := (hf 7).symm.trans fr.s7
  have e21 := (hf 21).symm.trans fr.s21
  have e26 := (hf 26).symm.trans fr.s26
  have e27 := (hf 27).symm.trans fr.s27
  have e30 := (hf 30).symm.trans fr.s30
  have e31 := (hf 31).symm.trans fr.s31
  have e32 := (hf 32).symm.trans fr.s32
  have e33 := (hf 33).symm.trans fr.s33
  have e34 := (hf 34).symm.trans fr.s34
  clear fr hf 
  simp only [e0, e1, e2, e3, e4, e5, e6, e7, e21, e26, e27, e30, e31, e32, e33, e34]
  clear e0 e1 e2 e3 e4 e5 e6 e7 e21 e26 e27 e30 e31 e32 e33 e34
  obtain ⟨c0, c1, c2, rowI, rowC, rowK⟩ := hc
  obtain ⟨aI, cI, rfl⟩ := ownsRow_shape rowI
  obtain ⟨aK, cK, rfl⟩ := ownsRow_shape rowK
  clear rowI rowC rowK
  conv => arg 2; whnf
  go_wp2_with fail
  exact ⟨rfl, rfl, rfl, rfl, rfl, rfl, rfl, rfl, rfl, rfl, rfl, rfl, rfl, rfl, rfl, rfl, rfl, rfl⟩

def coL (c : Code) : Code := lC (bC (sB (stm 22 c)))

set_option maxHeartbeats 2000000 in
set_option maxRecDepth 100000 in
theorem coRound {I : In} {X : Ar} {Br Bv B B0 : Nat} {nc nf i : Nat} {vC vK vI : Value} {is : List (Int × ByteArray)} {a : Act} {w : World} {k : Nat} (fr : FrG I X Br Bv nc nf i vC vK a) (s42 : a.tmps.getD 42 undef = .int .i64 k) (hc : Cmp Br B0 B nc nf is vI vC vK w) (hl : is.length ≤ 30000) (hk : k < is.length) (K : Act → World → Prop) (Q0 : Exit → Act → World → Prop)
    (hK : ∀ a' w', (∃ q, w' = w.drewN q) → FrG I X Br Bv nc nf i vC vK a' → a'.tmps.getD 42 undef = .int .i64 ((k + 1 : Nat) : Int) → K a' w') : (coL (Tryd.f3.body.getD .skip)).wp Tryd.prog (Exit.then K Q0) a w := by
  obtain ⟨f, rfl, hf⟩ := lit559 a fr.size fr.defers
  have e0 := (hf 0).symm.trans fr.s0
  have e1 := (hf 1).symm.trans fr.s1
  have e2 := (hf 2).symm.trans fr.s2
  have e3 := (hf 3).symm.trans fr.s3
  have e4 := (hf 4).symm.trans fr.s4
  have e5 := (hf 5).symm.trans fr.s5
  have e6 := (hf 6).symm.trans fr.s6
  have e7 := (hf 7).symm.trans fr.s7
  have e21 := (hf 21).symm.trans fr.s21
  have e26 := (hf 26).symm.trans fr.s26
  have e27 := (hf 27).symm.trans fr.s27
  have e30 := (hf 30).symm.trans fr.s30
  have e31 := (hf 31).symm.trans fr.s31
  have e32 := (hf 32).symm.trans fr.s32
  have e33 := (hf 33).symm.trans fr.s33
  have e34 := (hf 34).symm.trans fr.s34
  have e42 := (hf 42).symm.trans s42
  clear fr hf s42
  simp only [e0, e1, e2, e3, e4, e5, e6, e7, e21, e26, e27, e30, e31, e32, e33, e34, e42]
  clear e0 e1 e2 e3 e4 e5 e6 e7 e21 e26 e27 e30 e31 e32 e33 e34 e42
  obtain ⟨c0, c1, c2, rowI, rowC, rowK⟩ := hc
  obtain ⟨p, hp⟩ : ∃ p, is[k]? = some p := ⟨is[k], by simp [hk]⟩
  obtain ⟨gI, cI, rfl, -, -⟩ := rowI.form (by omega)
  obtain ⟨gC, cC, rfl, -, -⟩ := rowC.form (by omega)
  obtain ⟨gK, cK, rfl, -, -⟩ := rowK.form (by omega)
  have x1 : w.cell? ⟨gI, k * 2, none⟩ = some (.int .i32 p.1) := by
    have := rowI.cells (g := gI) rfl (k * 2) _ (issCells_at is k p hp).1
    rw [Addr.add_mid] at this; simpa using this
  have x2 : w.cell? ⟨gI, k * 2 + 1, none⟩ = some (.string p.2) := by
    have := rowI.cells (g := gI) rfl (k * 2 + 1) _ (issCells_at is k p hp).2
    rw [Addr.add_mid] at this; simpa using this
  have x3 : w.cell? ⟨gC, k, none⟩ = some (.int .i32 p.1) := by
    have := rowC.cells (g := gC) rfl k (.int .i32 p.1) (by simp [hp])
    rw [Addr.add_mid] at this; simpa using this
  have x4 : w.cell? ⟨gK, k, none⟩ = some (.string p.2) := by
    have := rowK.cells (g := gK) rfl k (.string p.2) (by simp [hp])
    rw [Addr.add_mid] at this; simpa using this
  have hk' : (k : Int) < is.length := by omega
  have hA0 : (p.1 == p.1) = true := by simp
  have hA1 : (p.1 != p.1) = false := by simp
  have hB1 : (p.2.toList == p.2.toList) = true := by simp
  have hB2 : (!(p.2.toList == p.2.toList)) = false := by simp
  clear rowI rowC rowK hp
  conv => arg 2; whnf
  go_wp2_with fail
  go_quiet (fail)
  go_wp2_with fail
  exact hK _ _ ⟨nq, rfl⟩ ⟨rfl, rfl, rfl, rfl, rfl, rfl, rfl, rfl, rfl, rfl, rfl, rfl, rfl, rfl, rfl, rfl, rfl, rfl⟩ (by first | rfl | go_num)

set_option maxHeartbeats 2000000 in
set_option maxRecDepth 100000 in
theorem coExit {I : In} {X : Ar} {Br Bv B B0 : Nat} {nc nf i : Nat} {vC vK vI : Value} {is : List (Int × ByteArray)} {a : Act} {w : World} {k : Nat} (fr : FrG I X Br Bv nc nf i vC vK a) (s42 : a.tmps.getD 42 undef = .int .i64 k) (hc : Cmp Br B0 B nc nf is vI vC vK w) (hk : ¬ k < is.length) (K : Act → World → Prop) (Q0 : Exit → Act → World → Prop)
    (hX : ∀ a', FrG I X Br Bv nc nf i vC vK a' → Q0 (.exit 14) a' w) : (coL (Tryd.f3.body.getD .skip)).wp Tryd.prog (Exit.then K Q0) a w := by
  obtain ⟨f, rfl, hf⟩ := lit559 a fr.size fr.defers
  have e0 := (hf 0).symm.trans fr.s0
  have e1 := (hf 1).symm.trans fr.s1
  have e2 := (hf 2).symm.trans fr.s2
  have e3 := (hf 3).symm.trans fr.s3
  have e4 := (hf 4).symm.trans fr.s4
  have e5 := (hf 5).symm.trans fr.s5
  have e6 := (hf 6).symm.trans fr.s6
  have e7 := (hf 7).symm.trans fr.s7
  have e21 := (hf 21).symm.trans fr.s21
  have e26 := (hf 26).symm.trans fr.s26
  have e27 := (hf 27).symm.trans fr.s27
  have e30 := (hf 30).symm.trans fr.s30
  have e31 := (hf 31).symm.trans fr.s31
  have e32 := (hf 32).symm.trans fr.s32
  have e33 := (hf 33).symm.trans fr.s33
  have e34 := (hf 34).symm.trans fr.s34
  have e42 := (hf 42).symm.trans s42
  clear fr hf s42
  simp only [e0, e1, e2, e3, e4, e5, e6, e7, e21, e26, e27, e30, e31, e32, e33, e34, e42]
  clear e0 e1 e2 e3 e4 e5 e6 e7 e21 e26 e27 e30 e31 e32 e33 e34 e42
  obtain ⟨c0, c1, c2, rowI, rowC, rowK⟩ := hc
  obtain ⟨aK, cK, rfl⟩ := ownsRow_shape rowK
  have hk' : ¬ (k : Int) < is.length := by omega
  clear rowI rowC rowK
  conv => arg 2; whnf
  go_wp2_with fail
  exact ⟨rfl, rfl, rfl, rfl, rfl, rfl, rfl, rfl, rfl, rfl, rfl, rfl, rfl, rfl, rfl, rfl, rfl, rfl⟩

theorem coLoop {I : In} {X : Ar} {Br Bv B B0 : Nat} {nc nf i : Nat} {vC vK vI : Value} {is : List (Int × ByteArray)} {a : Act} {w : World} (fr : FrG I X Br Bv nc nf i vC vK a) (s42 : a.tmps.getD 42 undef = .int .i64 ((0 : Nat) : Int)) (hc : Cmp Br B0 B nc nf is vI vC vK w) (hl : is.length ≤ 30000) (Q0 : Exit → Act → World → Prop)
    (hX : ∀ a' w', Below w.heap.size w w' → FrG I X Br Bv nc nf i vC vK a' → Q0 (.exit 14) a' w') : (Code.loop (coL (Tryd.f3.body.getD .skip))).wp Tryd.prog Q0 a w := by
  refine wp_loop_ghost (fun z a w' => ∃ k, FrG I X Br Bv nc nf i vC vK a ∧ a.tmps.getD 42 undef = .int .i64 ((k : Nat) : Int) ∧ Cmp Br B0 B nc nf is vI vC vK w' ∧ Below w.heap.size w w' ∧ k ≤ is.length ∧ is.length - k = z) is.length ⟨0, fr, s42, hc, Below.refl _ _, Nat.zero_le _, by omega⟩ ?_
  rintro z a w' ⟨k, fr, s42, hc, hb, hle, rfl⟩
  by_cases hk : k < is.length
  · refine coRound fr s42 hc hl hk _ Q0 ?_
    rintro a' w2 ⟨q, rfl⟩ fr' h42
    exact ⟨is.length - (k + 1), by omega, k + 1, fr', h42, hc.drewN q, hb.trans ⟨rfl, rfl, rfl, Nat.le_refl _, fun _ _ => rfl⟩, hk, rfl⟩
  · exact coExit fr s42 hc hk _ Q0 (fun a' fr' => hX a' w' hb fr')

set_option maxHeartbeats 2000000 in
set_option maxRecDepth 100000 in
theorem l22 {I : In} {X : Ar} {Br Bv B B0 : Nat} {nc nf i : Nat} {vC vK vI : Value} {is : List (Int × ByteArray)} {a : Act} {w : World} (fr : FrG I X Br Bv nc nf i vC vK a) (hc : Cmp Br B0 B nc nf is vI vC vK w) (hl : is.length ≤ 30000) (K : Act → World → Prop) (Q0 : Exit → Act → World → Prop)
    (hK : ∀ a' w', Below w.heap.size w w' → FrG I X Br Bv nc nf i vC vK a' → K a' w') : (stm 22 (Tryd.f3.body.getD .skip)).wp Tryd.prog (Exit.then K Q0) a w := by
  obtain ⟨f, rfl, hf⟩ := lit559 a fr.size fr.defers
  have e0 := (hf 0).symm.trans fr.s0
  have e1 := (hf 1).symm.trans fr.s1
  have e2 := (hf 2).symm.trans fr.s2
  have e3 := (hf 3).symm.trans fr.s3
  have e4 := (hf 4).symm.trans fr.s4
  have e5 := (hf 5).symm.trans fr.s5
  have e6 := (hf 6).symm.trans fr.s6
  have e7 := (hf 7).symm.trans fr.s7
  have e21 := (hf 21).symm.trans fr.s21
  have e26 := (hf 26).symm.trans fr.s26
  have e27 := (hf 27).symm.trans fr.s27
  have e30 := (hf 30).symm.trans fr.s30
  have e31 := (hf 31).symm.trans fr.s31
  have e32 := (hf 32).symm.trans fr.s32
  have e33 := (hf 33).symm.trans fr.s33
  have e34 := (hf 34).symm.trans fr.s34
  clear fr hf 
  simp only [e0, e1, e2, e3, e4, e5, e6, e7, e21, e26, e27, e30, e31, e32, e33, e34]
  clear e0 e1 e2 e3 e4 e5 e6 e7 e21 e26 e27 e30 e31 e32 e33 e34
  conv => arg 2; whnf
  go_wp2_with fail
  exact coLoop ⟨rfl, rfl, rfl, rfl, rfl, rfl, rfl, rfl, rfl, rfl, rfl, rfl, rfl, rfl, rfl, rfl, rfl, rfl⟩ rfl hc hl _ (fun a' w' hb fr' => hK a' w' hb fr')

set_option maxHeartbeats 2000000 in
set_option maxRecDepth 100000 in
theorem l23 {I : In} {X : Ar} {Br Bv B B0 : Nat} {nc nf i : Nat} {vC vK vI : Value} {is : List (Int × ByteArray)} {a : Act} {w : World} (fr : FrG I X Br Bv nc nf i vC vK a) (Q : Exit → Act → World → Prop) (hR : ∀ a', RetB true a' → Q .ret a' w) : (rest 23 (Tryd.f3.body.getD .skip)).wp Tryd.prog Q a w := by
  obtain ⟨f, rfl, hf⟩ := lit559 a fr.size fr.defers
  have e0 := (hf 0).symm.trans fr.s0
  have e1 := (hf 1).symm.trans fr.s1
  have e2 := (hf 2).symm.trans fr.s2
  have e3 := (hf 3).symm.trans fr.s3
  have e4 := (hf 4).symm.trans fr.s4
  have e5 := (hf 5).symm.trans fr.s5
  have e6 := (hf 6).symm.trans fr.s6
  have e7 := (hf 7).symm.trans fr.s7
  have e21 := (hf 21).symm.trans fr.s21
  have e26 := (hf 26).symm.trans fr.s26
  have e27 := (hf 27).symm.trans fr.s27
  have e30 := (hf 30).symm.trans fr.s30
  have e31 := (hf 31).symm.trans fr.s31
  have e32 := (hf 32).symm.trans fr.s32
  have e33 := (hf 33).symm.trans fr.s33
  have e34 := (hf 34).symm.trans fr.s34
  clear fr hf 
  simp only [e0, e1, e2, e3, e4, e5, e6, e7, e21, e26, e27, e30, e31, e32, e33, e34]
  clear e0 e1 e2 e3 e4 e5 e6 e7 e21 e26 e27 e30 e31 e32 e33 e34
  conv => arg 2; whnf
  go_wp2_with fail
  exact ⟨rfl, rfl⟩
end Go.Proofs.Qxb6612928aDoor.H
