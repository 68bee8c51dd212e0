/-
  CheckHierarchy: the unit as it should be.
-/
import Derived.Test.Qxb6612928aDoorChC
import Derived.Deep.WholeRow
import Derived.Deep.MidRow
namespace Go.Proofs.Qxb6612928aDoor.H
open Go.RowKit Go.Maps
set_option linter.unusedVariables false

theorem placed_cases {I : In} {i : Nat} (h : placed I i = true) : (par I i = none ∧ I.hasP i = false) ∨ ∃ p, par I i = some p := by
  cases hp : par I i with
  | some p => exact Or.inr ⟨p, rfl⟩
  | none =>
    refine Or.inl ⟨rfl, ?_⟩
    cases hh : I.hasP i with
    | false => rfl
    | true => simp [placed, hp, hh] at h

/-- Place, at a unit as it should be. -/
theorem placeAll {I : In} {B Bu : Nat} {pp : Nat → Nat} {i W : Nat} {w : World} (F : Fits I) (U : Units I B Bu pp w) (T : Tab w) (hi : i < I.n) {v11 v1 v3 v4 v5 : Value} (hpv : ParV I Bu i v11) (hpl : placed I i = true) (hW : Bu < W) (hlt : W < w.heap.size)
    (c0 : w.cell? ⟨W, 0, none⟩ = some (.int .i32 (I.code i))) (c1 : w.cell? ⟨W, 1, none⟩ = some v1) (c2 : w.cell? ⟨W, 2, none⟩ = some (.string (I.name i))) (c3 : w.cell? ⟨W, 3, none⟩ = some v3) (c4 : w.cell? ⟨W, 4, none⟩ = some v4) (c5 : w.cell? ⟨W, 5, none⟩ = some v5)
    (hf : ∀ o, w.frozen? ⟨W, o, none⟩ = false) :
    Calls Tryd.prog 11 #[.pointer (some ⟨W, 0, none⟩), v11] w fun e w' => e = .returned (.tuple #[]) ∧ Below W w w' ∧ w'.cell? ⟨W, 3, none⟩ = some (.int .i64 (wantL I i)) ∧ w'.cell? ⟨W, 4, none⟩ = some (.string (wantC I i)) ∧ w'.cell? ⟨W, 5, none⟩ = some (.string (wantN I i)) := by
  rcases placed_cases hpl with ⟨hp, hh⟩ | ⟨p, hp⟩
  · obtain rfl := hpv.2 hh
    simp only [wantL, wantC, wantN, hp]
    exact place_nil W (I.code i) (I.name i) v1 v3 v4 v5 w (F.code i).1 (F.code i).2 T (F.name i) hlt c0 c1 c2 c3 c4 c5 hf
  · obtain rfl := hpv.1 p hp
    have hpn := par_lt hp
    simp only [wantL, wantC, wantN, hp]
    exact place_some W Bu (p * 20) (I.code i) (I.code p) (I.lvl p) (I.name i) (I.cp p) (I.np p) v1 v3 v4 v5 w (F.code i).1 (F.code i).2 T (F.name i) hlt (F.cp p) (F.np p) hW c0 c1 c2 c3 c4 c5 (U.c0 p hpn) (U.c3 p hpn) (U.c4 p hpn) (U.c5 p hpn) hf

set_option maxHeartbeats 1000000 in
set_option maxRecDepth 100000 in
/-- A unit that is not placed. -/
theorem p9n {I : In} {B Bu : Nat} {pp : Nat → Nat} {N Mc Br kb kc cap i : Nat} {wR : World} (C : CtxR I B Bu pp N Mc Br kb kc wR) (hi : i < I.n) {a : Act} {w : World} {cc cf : Nat} {is : List (Int × ByteArray)} {vI v10 v11 : Value} {ks : List ByteArray}
    (hf : FrM I Bu cap N Mc Br i v10 v11 false a) (hw : WM I Br wR cc cf is vI ks v10 w) (K : Act → World → Prop) (Q0 : Exit → Act → World → Prop)
    (hK : ∀ a' w', FrM I Bu cap N Mc Br i v10 v11 false a' → WM I Br wR cc cf is vI ks v10 w' → K a' w') :
    (stm 9 (chB (Tryd.f5.body.getD .skip))).wp Tryd.prog (Exit.then K Q0) a w := by
  obtain ⟨fr, s9, s10, s11, s12⟩ := hf
  obtain ⟨f, rfl, hf⟩ := lit149 a fr.size fr.defers
  have e0 := (hf 0).symm.trans fr.s0
  have e2 := (hf 2).symm.trans fr.s2
  have e5 := (hf 5).symm.trans fr.s5
  have e6 := (hf 6).symm.trans fr.s6
  have e7 := (hf 7).symm.trans fr.s7
  have e39 := (hf 39).symm.trans fr.s39
  have e40 := (hf 40).symm.trans fr.s40
  have e9 := (hf 9).symm.trans s9
  have e10 := (hf 10).symm.trans s10
  have e11 := (hf 11).symm.trans s11
  have e12 := (hf 12).symm.trans s12
  clear fr s9 s10 s11 s12 hf
  simp only [e0, e2, e5, e6, e7, e39, e40, e9, e10, e11, e12]
  clear e0 e2 e5 e6 e7 e39 e40 e9 e10 e11 e12
  conv => arg 2; whnf
  go_wp2_with fail
  exact hK _ _ ⟨⟨rfl, rfl, rfl, rfl, rfl, rfl, rfl, rfl, rfl⟩, rfl, rfl, rfl, rfl⟩ hw

/-- A unit's twenty cells. -/
def ucells (I : In) (pp : Nat → Nat) (i : Nat) : Array Value :=
  #[.int .i32 (I.code i), pcPtr I pp i, .string (I.name i), .int .i64 (I.lvl i), .string (I.cp i), .string (I.np i), zc 6, zc 7, .bool (I.del i), zc 9, zc 10, zc 11, zc 12, zc 13, zc 14, zc 15, zc 16, zc 17, zc 18, zc 19]

theorem ucells_at {I : In} {B Bu : Nat} {pp : Nat → Nat} {w : World} (U : Units I B Bu pp w) {i : Nat} (hi : i < I.n) : w.rangeAt Bu (i * 20) (ucells I pp i).toList := by
  intro j v h
  have hj : j < 20 := by
    rcases Nat.lt_or_ge j 20 with hl | hl
    · exact hl
    · rw [List.getElem?_eq_none (by simpa [ucells] using hl)] at h; cases h
  unfold ucells at h
  rcases j with _ | _ | _ | _ | _ | _ | _ | _ | _ | j
  · cases h; exact U.c0 i hi
  · cases h; exact U.c1 i hi
  · cases h; exact U.c2 i hi
  · cases h; exact U.c3 i hi
  · cases h; exact U.c4 i hi
  · cases h; exact U.c5 i hi
  · cases h; exact U.cz i hi 6 (by omega)
  · cases h; exact U.cz i hi 7 (by omega)
  · cases h; exact U.c8 i hi
  · have hz : v = zc (j + 9) := by
      have hj' : j < 11 := by omega
      rcases j with _ | _ | _ | _ | _ | _ | _ | _ | _ | _ | _ | j
      all_goals first | (cases h; rfl) | omega
    subst hz
    exact U.cz i hi (j + 9) (by omega)

theorem ucells_one (I : In) (pp : Nat → Nat) (i : Nat) : (ucells I pp i).all (·.oneCell') = true := by
  simp [ucells, zc, pcPtr, Value.oneCell']

theorem wpList_store_new {P : Program} {w : World} {ops : Array Oper} {rest : List Oper} {op : Oper} {a : Act} {Q : Exit → Act → World → Prop} (hgd : op.guard = none) (t : TypeId) (x y : Operand) (ho : op.op = .store t x y) (c c' : Array Value) (hx : a.eval x = .pointer (some ⟨w.heap.size, 0, none⟩)) (hy : a.eval y = .agg c')
    (hi : (P.info? t).map (·.size) = some c'.size) (hs : c.size = c'.size) (h1 : c'.all (·.oneCell') = true) (h : wpList P ops Q rest (a.put op.dst undef) (w.alloc (.cells c' t))) : wpList P ops Q (op :: rest) a (w.alloc (.cells c t)) := by
  refine wpList_plain hgd fun K hK => ?_
  unfold Oper.wp execOp
  simp only [ho, hx, hy, Sem.run_bind, run_storeAt_new w t c c' hi hs h1, Result.andThen_ok]
  exact hK _ _ h

theorem size40 : (Tryd.prog.info? 40).map (·.size) = some 20 := by kernel_rfl

set_option maxHeartbeats 1000000 in
set_option maxRecDepth 100000 in
/-- A placed unit. -/
theorem p9 {I : In} {B Bu : Nat} {pp : Nat → Nat} {N Mc Br kb kc cap i : Nat} {wR : World} (C : CtxR I B Bu pp N Mc Br kb kc wR) (hi : i < I.n) {a : Act} {w : World} {cc cf : Nat} {is : List (Int × ByteArray)} {vI v10 v11 : Value} {ks : List ByteArray}
    (hpv : ParV I Bu i v11) (hpl : placed I i = true)
    (hf : FrM I Bu cap N Mc Br i v10 v11 true a) (hw : WM I Br wR cc cf is vI ks v10 w) (hks : ks.length ≤ 9) (K : Act → World → Prop) (Q0 : Exit → Act → World → Prop)
    (hK : ∀ a' w' v10', FrM I Bu cap N Mc Br i v10' v11 true a' → WM I Br wR cc cf is vI ((ks ++ if badL I i then [LEVL] else []) ++ if badP I i then [PATH] else []) v10' w' → K a' w') :
    (stm 9 (chB (Tryd.f5.body.getD .skip))).wp Tryd.prog (Exit.then K Q0) a w := by
  obtain ⟨fr, s9, s10, s11, s12⟩ := hf
  obtain ⟨f, rfl, hf⟩ := lit149 a fr.size fr.defers
  have e0 := (hf 0).symm.trans fr.s0
  have e2 := (hf 2).symm.trans fr.s2
  have e5 := (hf 5).symm.trans fr.s5
  have e6 := (hf 6).symm.trans fr.s6
  have e7 := (hf 7).symm.trans fr.s7
  have e39 := (hf 39).symm.trans fr.s39
  have e40 := (hf 40).symm.trans fr.s40
  have e9 := (hf 9).symm.trans s9
  have e10 := (hf 10).symm.trans s10
  have e11 := (hf 11).symm.trans s11
  have e12 := (hf 12).symm.trans s12
  clear fr s9 s10 s11 s12 hf
  simp only [e0, e2, e5, e6, e7, e39, e40, e9, e10, e11, e12]
  clear e0 e2 e5 e6 e7 e39 e40 e9 e10 e11 e12
  have U := C.U.below hw.below C.hB
  have hrg := ucells_at U hi
  have hlt := hw.lt
  have hBu := C.U.lt
  have hBr := C.hB
  have HK : ∀ a' w', FrM I Bu cap N Mc Br i v10 v11 true a' → a'.tmps.getD 13 undef = .pointer (some ⟨w.heap.size, 0, none⟩) → WM I Br wR cc cf is vI ks v10 w' → Want I i w.heap.size v10 w' → (.seq (stm 2 (ch9 (Tryd.f5.body.getD .skip))) (rest 3 (ch9 (Tryd.f5.body.getD .skip))) : Code).wp Tryd.prog (Exit.then K Q0) a' w' := by
    intro a' w' h1 h13 h2 h3
    refine wp_seq ?_
    show (stm 2 (ch9 (Tryd.f5.body.getD .skip))).wp Tryd.prog (Exit.then (fun a w => (rest 3 (ch9 (Tryd.f5.body.getD .skip))).wp Tryd.prog (Exit.then K Q0) a w) (Exit.then K Q0)) a' w'
    exact p9b C hi h1 h13 h2 h3 (by omega) _ _ fun a2 w2 v2 g1 g13 g2 g3 => p9c C hi g1 g13 g2 g3 (by rw [List.length_append]; split <;> simp <;> omega) K Q0 fun a3 w3 v3 k1 k2 => hK a3 w3 v3 k1 k2
  conv => arg 2; whnf
  go_wp2_with (first | (refine wpList_load_mid rfl 40 _ rfl Bu (i * 20) rfl (ucells I pp i).toList _ hrg Tryd.underlying40 rfl size40 ?_) | (refine wpList_store_new rfl 40 _ _ rfl _ (ucells I pp i) rfl rfl size40 rfl (ucells_one I pp i) ?_))
  rename_i K1 h1 K2 h2
  have hwA := hw.alloc (.cells (ucells I pp i) 40)
  refine (placeAll C.F (C.U.below hwA.below C.hB) (C.tab.below hwA.below (by omega)) hi hpv hpl (by omega) (by simp) (cell_of_heap (heap_alloc_last w _) rfl) (cell_of_heap (heap_alloc_last w _) rfl) (cell_of_heap (heap_alloc_last w _) rfl) (cell_of_heap (heap_alloc_last w _) rfl) (cell_of_heap (heap_alloc_last w _) rfl) (cell_of_heap (heap_alloc_last w _) rfl) ?_).mono ?_
  · intro o
    have hz := heap_alloc_last w (.cells (ucells I pp i) 40)
    unfold World.frozen?
    simp only [hz]
    simp
  rintro e w1 ⟨rfl, hb, hc3, hc4, hc5⟩
  have hbw : Below w.heap.size w w1 := ((Below.refl _ _).alloc (Nat.le_refl _) _).trans hb
  have hw1 : WM I Br wR cc cf is vI ks v10 w1 := hw.call hbw
  have hW1 : Want I i w.heap.size v10 w1 := ⟨by have := hb.size; simp at this; omega, hc3, hc4, hc5, fun e => by have := (hw.rowK.lt _ e).2; omega⟩
  exact h2 _ _ (h1 _ _ (HK _ _ ⟨⟨rfl, rfl, rfl, rfl, rfl, rfl, rfl, rfl, rfl⟩, rfl, rfl, rfl, rfl⟩ rfl hw1 hW1))
end Go.Proofs.Qxb6612928aDoor.H
