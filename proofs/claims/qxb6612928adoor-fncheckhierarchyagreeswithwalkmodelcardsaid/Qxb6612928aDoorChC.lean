/-
  CheckHierarchy: a placed unit's level and paths.
-/
import Derived.Test.Qxb6612928aDoorChB
import Derived.BigQuiet
namespace Go.Proofs.Qxb6612928aDoor.H
open Go.RowKit Go.Maps
set_option linter.unusedVariables false

def thn : Code → Code
  | .cond _ a _ => a
  | c => c
def ch9 (c : Code) : Code := thn (sB (stm 9 (chB c)))

/-- The unit as it should be lies in block W. -/
structure Want (I : In) (i W : Nat) (v10 : Value) (w : World) : Prop where
  lt : W < w.heap.size
  c3 : w.cell? ⟨W, 3, none⟩ = some (.int .i64 (wantL I i))
  c4 : w.cell? ⟨W, 4, none⟩ = some (.string (wantC I i))
  c5 : w.cell? ⟨W, 5, none⟩ = some (.string (wantN I i))
  ne : v10.ownBlock ≠ some W

theorem Want.push {I : In} {i W : Nat} {v10 v' : Value} {w w' : World} {o : Obj} (h : Want I i W v10 w) (hg : (w.alloc o).grownBy w' v10.ownBlock) (hl : v'.ownBlock = v10.ownBlock ∨ v'.ownBlock = some (w.heap.size + 1)) : Want I i W v' w' := by
  have hlt := h.lt
  have hb : w'.heap[W]? = w.heap[W]? := (hg.block W (by simp; omega) (fun e => h.ne e.symm)).trans (((Below.refl w.heap.size w).alloc (Nat.le_refl _) o).block W hlt)
  refine ⟨?_, (World.cell?_of_block (a := ⟨W, 3, none⟩) hb).trans h.c3, (World.cell?_of_block (a := ⟨W, 4, none⟩) hb).trans h.c4, (World.cell?_of_block (a := ⟨W, 5, none⟩) hb).trans h.c5, ?_⟩
  · have := hg.size; simp at this; omega
  · rcases hl with hl | hl
    · rw [hl]; exact h.ne
    · rw [hl]; intro e; cases e; omega

theorem Want.drewN {I : In} {i W : Nat} {v10 : Value} {w : World} (h : Want I i W v10 w) (q : Nat) : Want I i W v10 (w.drewN q) := ⟨h.lt, h.c3, h.c4, h.c5, h.ne⟩

set_option maxHeartbeats 1000000 in
set_option maxRecDepth 100000 in
/-- 'if u.Level != want.Level'. -/
theorem p9b {I : In} {B Bu : Nat} {pp : Nat → Nat} {N Mc Br kb kc cap i : Nat} {wR : World} (C : CtxR I B Bu pp N Mc Br kb kc wR) (hi : i < I.n) {a : Act} {w : World} {cc cf : Nat} {is : List (Int × ByteArray)} {vI v10 v11 : Value} {ks : List ByteArray} {pl : Bool} {W : Nat}
    (hf : FrM I Bu cap N Mc Br i v10 v11 pl a) (s13 : a.tmps.getD 13 undef = .pointer (some ⟨W, 0, none⟩)) (hw : WM I Br wR cc cf is vI ks v10 w) (hW : Want I i W v10 w) (hks : ks.length ≤ 10) (K : Act → World → Prop) (Q0 : Exit → Act → World → Prop)
    (hK : ∀ a' w' v10', FrM I Bu cap N Mc Br i v10' v11 pl a' → a'.tmps.getD 13 undef = .pointer (some ⟨W, 0, none⟩) → WM I Br wR cc cf is vI (ks ++ if badL I i then [LEVL] else []) v10' w' → Want I i W v10' w' → K a' w') :
    (stm 2 (ch9 (Tryd.f5.body.getD .skip))).wp Tryd.prog (Exit.then K Q0) a w := by
  obtain ⟨fr, s9, s10, s11, s12⟩ := hf
  obtain ⟨f, rfl, hf⟩ := lit149 a fr.size fr.defers
  have e0 := (hf 0).symm.trans fr.s0
  have e2 := (hf 2).symm.trans fr.s2
  have e5 := (hf 5).symm.trans fr.s5
  have e6 := (hf 6).symm.trans fr.s6
  have e7 := (hf 7).symm.trans fr.s7
  have e39 := (hf 39).symm.trans fr.s39
  have e40 := (hf 40).symm.trans fr.s40
  have e9 := (hf 9).symm.trans s9
  have e10 := (hf 10).symm.trans s10
  have e11 := (hf 11).symm.trans s11
  have e12 := (hf 12).symm.trans s12
  have e13 := (hf 13).symm.trans s13
  clear fr s9 s10 s11 s12 hf
  simp only [e0, e2, e5, e6, e7, e39, e40, e9, e10, e11, e12, e13]
  clear e0 e2 e5 e6 e7 e39 e40 e9 e10 e11 e12
  clear s13 e13
  have d3 := (C.U.below hw.below C.hB).c3 i hi
  have dw := hW.c3
  by_cases hb : I.lvl i = wantL I i
  · have hbd : badL I i = false := by simp [badL, hb]
    have HK : ∀ a' w', FrM I Bu cap N Mc Br i v10 v11 pl a' → a'.tmps.getD 13 undef = .pointer (some ⟨W, 0, none⟩) → WM I Br wR cc cf is vI ks v10 w' → Want I i W v10 w' → K a' w' := fun a' w' h1 h13 h2 h3 => hK _ _ v10 h1 h13 (by rw [hbd]; simpa using h2) h3
    clear hK hbd
    conv => arg 2; whnf
    go_wp2_with fail
    go_quiet (fail)
    go_wp2_with fail
    exact HK _ _ ⟨⟨rfl, rfl, rfl, rfl, rfl, rfl, rfl, rfl, rfl⟩, rfl, rfl, rfl, rfl⟩ rfl (hw.drewN nq) (hW.drewN nq)
  · have hbd : badL I i = true := by simp [badL, hb]
    have HK : ∀ a' w' v10', FrM I Bu cap N Mc Br i v10' v11 pl a' → a'.tmps.getD 13 undef = .pointer (some ⟨W, 0, none⟩) → WM I Br wR cc cf is vI (ks ++ [LEVL]) v10' w' → Want I i W v10' w' → K a' w' := fun a' w' v' h1 h13 h2 h3 => hK _ _ v' h1 h13 (by rw [hbd]; simpa using h2) h3
    clear hK hbd
    conv => arg 2; whnf
    go_wp2_with fail
    go_quiet (fail)
    have hrow1 := (hw.drewN nq).rowK.alloc (.cells #[.string LEVL] 47)
    obtain ⟨i0, hi0, hz0, hz1, hz2⟩ := info_parts info47
    have hone : ∀ x ∈ [Value.string LEVL], x.oneCell' = true := by intro x hx; simp at hx; subst hx; rfl
    have hl1 : ks.length + 1 ≤ maxLen := by unfold maxLen; omega
    have hl2 : (ks.length + 1) * 16 ≤ 140737488355328 := by omega
    have hlt := hw.lt
    go_wp2_with (at_builtin; refine wpList_append_own_at _ rfl _ _ 46 rfl (Br + 1) 47 i0 (.string { data := #[] }) 1 16 Tryd.underlying46 hi0 hz0 hz1 hz2 rfl (by decide) v10 ks.length (ks.map Value.string) rfl hrow1 ⟨w.heap.size, 0, none⟩ 1 1 [.string LEVL] rfl rfl (cell_one_new _ _ _) hone hl1 hl2 (by simp; omega) ?_)
    intro v' w2 hr hg hnn hl
    have hw2 := ((hw.drewN nq).alloc (.cells #[.string LEVL] 47)).push (x := LEVL) hr hg (by simpa using hl)
    have hW2 := (hW.drewN nq).push hg hl
    go_wp2_with fail
    exact HK _ _ _ ⟨⟨rfl, rfl, rfl, rfl, rfl, rfl, rfl, rfl, rfl⟩, rfl, rfl, rfl, rfl⟩ rfl hw2 hW2

set_option maxHeartbeats 1000000 in
set_option maxRecDepth 100000 in
/-- The paths. -/
theorem p9c {I : In} {B Bu : Nat} {pp : Nat → Nat} {N Mc Br kb kc cap i : Nat} {wR : World} (C : CtxR I B Bu pp N Mc Br kb kc wR) (hi : i < I.n) {a : Act} {w : World} {cc cf : Nat} {is : List (Int × ByteArray)} {vI v10 v11 : Value} {ks : List ByteArray} {pl : Bool} {W : Nat}
    (hf : FrM I Bu cap N Mc Br i v10 v11 pl a) (s13 : a.tmps.getD 13 undef = .pointer (some ⟨W, 0, none⟩)) (hw : WM I Br wR cc cf is vI ks v10 w) (hW : Want I i W v10 w) (hks : ks.length ≤ 10) (K : Act → World → Prop) (Q0 : Exit → Act → World → Prop)
    (hK : ∀ a' w' v10', FrM I Bu cap N Mc Br i v10' v11 pl a' → WM I Br wR cc cf is vI (ks ++ if badP I i then [PATH] else []) v10' w' → K a' w') :
    (rest 3 (ch9 (Tryd.f5.body.getD .skip))).wp Tryd.prog (Exit.then K Q0) a w := by
  obtain ⟨fr, s9, s10, s11, s12⟩ := hf
  obtain ⟨f, rfl, hf⟩ := lit149 a fr.size fr.defers
  have e0 := (hf 0).symm.trans fr.s0
  have e2 := (hf 2).symm.trans fr.s2
  have e5 := (hf 5).symm.trans fr.s5
  have e6 := (hf 6).symm.trans fr.s6
  have e7 := (hf 7).symm.trans fr.s7
  have e39 := (hf 39).symm.trans fr.s39
  have e40 := (hf 40).symm.trans fr.s40
  have e9 := (hf 9).symm.trans s9
  have e10 := (hf 10).symm.trans s10
  have e11 := (hf 11).symm.trans s11
  have e12 := (hf 12).symm.trans s12
  have e13 := (hf 13).symm.trans s13
  clear fr s9 s10 s11 s12 hf
  simp only [e0, e2, e5, e6, e7, e39, e40, e9, e10, e11, e12, e13]
  clear e0 e2 e5 e6 e7 e39 e40 e9 e10 e11 e12
  clear s13 e13
  have d4 := (C.U.below hw.below C.hB).c4 i hi
  have d5 := (C.U.below hw.below C.hB).c5 i hi
  have dw4 := hW.c4
  have dw5 := hW.c5
  cases hA : ((I.cp i).toList != (wantC I i).toList) with
  | true =>
    have hA1 : ((I.cp i).toList == (wantC I i).toList) = false := by simpa only [bne, Bool.not_eq_true'] using hA
    have hA2 : (!((I.cp i).toList == (wantC I i).toList)) = true := by rw [hA1]; rfl
    have hbd : badP I i = true := by simp only [badP, hA, Bool.true_or]
    have HK : ∀ a' w' v10', FrM I Bu cap N Mc Br i v10' v11 pl a' → WM I Br wR cc cf is vI (ks ++ [PATH]) v10' w' → K a' w' := fun a' w' v' h1 h2 => hK _ _ v' h1 (by rw [hbd]; simpa using h2)
    clear hK hbd
    conv => arg 2; whnf
    go_wp2_with fail
    go_quiet (fail)
    have hrow1 := (hw.drewN nq).rowK.alloc (.cells #[.string PATH] 47)
    obtain ⟨i0, hi0, hz0, hz1, hz2⟩ := info_parts info47
    have hone : ∀ x ∈ [Value.string PATH], x.oneCell' = true := by intro x hx; simp at hx; subst hx; rfl
    have hl1 : ks.length + 1 ≤ maxLen := by unfold maxLen; omega
    have hl2 : (ks.length + 1) * 16 ≤ 140737488355328 := by omega
    have hlt := hw.lt
    go_wp2_with (at_builtin; refine wpList_append_own_at _ rfl _ _ 46 rfl (Br + 1) 47 i0 (.string { data := #[] }) 1 16 Tryd.underlying46 hi0 hz0 hz1 hz2 rfl (by decide) v10 ks.length (ks.map Value.string) rfl hrow1 ⟨w.heap.size, 0, none⟩ 1 1 [.string PATH] rfl rfl (cell_one_new _ _ _) hone hl1 hl2 (by simp; omega) ?_)
    intro v' w2 hr hg hnn hl
    have hw2 := ((hw.drewN nq).alloc (.cells #[.string PATH] 47)).push (x := PATH) hr hg (by simpa using hl)
    go_wp2_with fail
    exact HK _ _ _ ⟨⟨rfl, rfl, rfl, rfl, rfl, rfl, rfl, rfl, rfl⟩, rfl, rfl, rfl, rfl⟩ hw2
  | false =>
    have hA1 : ((I.cp i).toList == (wantC I i).toList) = true := by simpa only [bne, Bool.not_eq_false'] using hA
    have hA2 : (!((I.cp i).toList == (wantC I i).toList)) = false := by rw [hA1]; rfl
    cases hB : ((I.np i).toList != (wantN I i).toList) with
    | true =>
      have hB1 : ((I.np i).toList == (wantN I i).toList) = false := by simpa only [bne, Bool.not_eq_true'] using hB
      have hB2 : (!((I.np i).toList == (wantN I i).toList)) = true := by rw [hB1]; rfl
      have hbd : badP I i = true := by simp only [badP, hA, hB, Bool.or_true]
      have HK : ∀ a' w' v10', FrM I Bu cap N Mc Br i v10' v11 pl a' → WM I Br wR cc cf is vI (ks ++ [PATH]) v10' w' → K a' w' := fun a' w' v' h1 h2 => hK _ _ v' h1 (by rw [hbd]; simpa using h2)
      clear hK hbd
      conv => arg 2; whnf
      go_wp2_with fail
      go_quiet (fail)
      have hrow1 := (hw.drewN nq).rowK.alloc (.cells #[.string PATH] 47)
      obtain ⟨i0, hi0, hz0, hz1, hz2⟩ := info_parts info47
      have hone : ∀ x ∈ [Value.string PATH], x.oneCell' = true := by intro x hx; simp at hx; subst hx; rfl
      have hl1 : ks.length + 1 ≤ maxLen := by unfold maxLen; omega
      have hl2 : (ks.length + 1) * 16 ≤ 140737488355328 := by omega
      have hlt := hw.lt
      go_wp2_with (at_builtin; refine wpList_append_own_at _ rfl _ _ 46 rfl (Br + 1) 47 i0 (.string { data := #[] }) 1 16 Tryd.underlying46 hi0 hz0 hz1 hz2 rfl (by decide) v10 ks.length (ks.map Value.string) rfl hrow1 ⟨w.heap.size, 0, none⟩ 1 1 [.string PATH] rfl rfl (cell_one_new _ _ _) hone hl1 hl2 (by simp; omega) ?_)
      intro v' w2 hr hg hnn hl
      have hw2 := ((hw.drewN nq).alloc (.cells #[.string PATH] 47)).push (x := PATH) hr hg (by simpa using hl)
      go_wp2_with fail
      exact HK _ _ _ ⟨⟨rfl, rfl, rfl, rfl, rfl, rfl, rfl, rfl, rfl⟩, rfl, rfl, rfl, rfl⟩ hw2
    | false =>
      have hB1 : ((I.np i).toList == (wantN I i).toList) = true := by simpa only [bne, Bool.not_eq_false'] using hB
      have hB2 : (!((I.np i).toList == (wantN I i).toList)) = false := by rw [hB1]; rfl
      have hbd : badP I i = false := by simp only [badP, hA, hB, Bool.or_false]
      have HK : ∀ a' w', FrM I Bu cap N Mc Br i v10 v11 pl a' → WM I Br wR cc cf is vI ks v10 w' → K a' w' := fun a' w' h1 h2 => hK _ _ v10 h1 (by rw [hbd]; simpa using h2)
      clear hK hbd
      conv => arg 2; whnf
      go_wp2_with fail
      go_quiet (fail)
      go_wp2_with fail
      exact HK _ _ ⟨⟨rfl, rfl, rfl, rfl, rfl, rfl, rfl, rfl, rfl⟩, rfl, rfl, rfl, rfl⟩ (hw.drewN nq)

end Go.Proofs.Qxb6612928aDoor.H
