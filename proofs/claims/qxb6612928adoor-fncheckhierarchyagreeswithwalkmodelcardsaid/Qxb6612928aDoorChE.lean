/-
  CheckHierarchy: one unit: the head, the counts, the issues.
-/
import Derived.Test.Qxb6612928aDoorChD
import Derived.Deep.AppendLies
import Derived.Deep.RegionLaw
namespace Go.Proofs.Qxb6612928aDoor.H
open Go.RowKit Go.Maps
set_option linter.unusedVariables false

theorem csame {w : World} {a : Addr} {v u : Value} (h : w.cell? a = some u) : (w.setCell a v).cell? a = some v := World.cell?_setCell_same w a v h
theorem cother {w : World} {a b : Addr} {v : Value} (h : a ≠ b) : (w.setCell a v).cell? b = w.cell? b := World.cell?_setCell_other w a b v h

theorem grown_setCell (w : World) (b o : Nat) (v : Value) : w.grownBy (w.setCell ⟨b, o, none⟩ v) (some b) :=
  ⟨rfl, rfl, rfl, by simp, fun k hk hne => heap_setCell_other w ⟨b, o, none⟩ k v (fun e => hne (by rw [e]))⟩

theorem WM.notBr {I : In} {Br : Nat} {wR : World} {cc cf : Nat} {is : List (Int × ByteArray)} {vI : Value} {ks : List ByteArray} {v10 : Value} {w : World} (h : WM I Br wR cc cf is vI ks v10 w) : vI.ownBlock ≠ some Br ∧ v10.ownBlock ≠ some Br :=
  ⟨fun e => by have := (h.rowI.lt _ e).1; omega, fun e => by have := (h.rowK.lt _ e).1; omega⟩

theorem WM.set0 {I : In} {Br : Nat} {wR : World} {cc cf : Nat} {is : List (Int × ByteArray)} {vI : Value} {ks : List ByteArray} {v10 : Value} {w : World} (h : WM I Br wR cc cf is vI ks v10 w) (c : Nat) : WM I Br wR c cf is vI ks v10 (w.setCell ⟨Br, 0, none⟩ (.int .i64 c)) :=
  ⟨h.below.setCell (Nat.le_refl _) _, by simpa using h.lt, csame h.c0, (cother (by simp)).trans h.c1, (cother (by simp)).trans h.c2, fun o => by simpa using h.fz o, h.rowI.kept (grown_setCell _ _ _ _) (Or.inr h.notBr.1), h.rowK.kept (grown_setCell _ _ _ _) (Or.inr h.notBr.2), h.apart⟩

theorem WM.set1 {I : In} {Br : Nat} {wR : World} {cc cf : Nat} {is : List (Int × ByteArray)} {vI : Value} {ks : List ByteArray} {v10 : Value} {w : World} (h : WM I Br wR cc cf is vI ks v10 w) (c : Nat) : WM I Br wR cc c is vI ks v10 (w.setCell ⟨Br, 1, none⟩ (.int .i64 c)) :=
  ⟨h.below.setCell (Nat.le_refl _) _, by simpa using h.lt, (cother (by simp)).trans h.c0, csame h.c1, (cother (by simp)).trans h.c2, fun o => by simpa using h.fz o, h.rowI.kept (grown_setCell _ _ _ _) (Or.inr h.notBr.1), h.rowK.kept (grown_setCell _ _ _ _) (Or.inr h.notBr.2), h.apart⟩

/-- Behind an append to the issues, ahead of the store. -/
theorem WM.grow {I : In} {Br : Nat} {wR : World} {cc cf : Nat} {is : List (Int × ByteArray)} {vI : Value} {ks : List ByteArray} {v10 : Value} {w : World} (h : WM I Br wR cc cf is vI ks v10 w) {w' : World} (hg : w.grownBy w' vI.ownBlock) :
    Below Br wR w' ∧ Br < w'.heap.size ∧ (∀ o, w'.cell? ⟨Br, o, none⟩ = w.cell? ⟨Br, o, none⟩) ∧ (∀ o, w'.frozen? ⟨Br, o, none⟩ = false) ∧ w'.ownsRow (Br + 1) 47 1 v10 ks.length (ks.map Value.string) := by
  have hne : ∀ b, b ≤ Br → some b ≠ vI.ownBlock := fun b hb e => by have := (h.rowI.lt b e.symm).1; omega
  have hlt := h.lt
  have hblk : w'.heap[Br]? = w.heap[Br]? := hg.block Br h.lt (hne _ (Nat.le_refl _))
  refine ⟨h.below.trans ⟨hg.os, hg.tape, hg.output, hg.size, fun k hk => hg.block k (by omega) (hne k (by omega))⟩, Nat.lt_of_lt_of_le h.lt hg.size, fun o => World.cell?_of_block (a := ⟨Br, o, none⟩) hblk, fun o => (World.frozen?_of_block (a := ⟨Br, o, none⟩) hblk).trans (h.fz o), h.rowK.kept hg ?_⟩
  cases hv : v10.ownBlock with
  | none => exact Or.inl rfl
  | some g =>
    refine Or.inr (fun e => ?_)
    rcases h.apart with h0 | h0
    · rw [h0] at hv; cases hv
    · exact h0 (by rw [hv, e])

/-- Behind the store of the longer issues. -/
theorem WM.issue {I : In} {Br : Nat} {wR : World} {cc cf : Nat} {is : List (Int × ByteArray)} {vI : Value} {ks : List ByteArray} {v10 : Value} {w : World} (h : WM I Br wR cc cf is vI ks v10 w) {w' : World} {c : Int} {x : ByteArray} {g cap : Nat}
    (hr : w'.ownsRow (Br + 1) 51 2 (.slice (some ⟨g, 0, none⟩) (is.length + 1) cap) (is.length + 1) (issCells is ++ [.int .i32 c, .string x])) (hg : w.grownBy w' vI.ownBlock) (hl : vI.ownBlock = some g ∨ w.heap.size ≤ g) :
    WM I Br wR cc cf (is ++ [(c, x)]) (.slice (some ⟨g, 0, none⟩) (is.length + 1) cap) ks v10 (w'.setCell ⟨Br, 2, none⟩ (.slice (some ⟨g, 0, none⟩) (is.length + 1) cap)) := by
  obtain ⟨hb, hlt, hc, hfz, hk⟩ := h.grow hg
  have hI : (Value.slice (some ⟨g, 0, none⟩) (is.length + 1) cap).ownBlock ≠ some Br := fun e => by have := (hr.lt _ e).1; omega
  refine ⟨hb.setCell (Nat.le_refl _) _, by simpa using hlt, (cother (by simp)).trans ((hc 0).trans h.c0), (cother (by simp)).trans ((hc 1).trans h.c1), csame ((hc 2).trans h.c2), fun o => by simpa using hfz o, ?_, hk.kept (grown_setCell _ _ _ _) (Or.inr h.notBr.2), ?_⟩
  · have h2 := hr.kept (grown_setCell w' Br 2 (.slice (some ⟨g, 0, none⟩) (is.length + 1) cap)) (Or.inr hI)
    have e1 : issCells (is ++ [(c, x)]) = issCells is ++ [.int .i32 c, .string x] := by simp [issCells, List.flatMap_append]
    have e2 : (is ++ [(c, x)]).length = is.length + 1 := by simp
    rw [e1, e2]
    exact h2
  · cases hv : v10.ownBlock with
    | none => exact Or.inl rfl
    | some q =>
      refine Or.inr (fun e => ?_)
      have hq := (h.rowK.lt q hv).2
      have e' : q = g := by simpa [Value.ownBlock] using e
      subst e'
      rcases hl with hl | hl
      · rcases h.apart with h0 | h0
        · rw [h0] at hv; cases hv
        · exact h0 (by rw [hv, hl])
      · omega

set_option maxHeartbeats 1000000 in
set_option maxRecDepth 100000 in
theorem p0 {I : In} {B Bu : Nat} {pp : Nat → Nat} {N Mc Br kb kc cap i : Nat} {wR : World} (C : CtxR I B Bu pp N Mc Br kb kc wR) (hi : i < I.n) {a : Act} {w : World} {cc cf : Nat} {is : List (Int × ByteArray)} {vI v10 v11 : Value} {ks : List ByteArray}
    (fr : FrD I Bu cap N Mc Br i a) (hw : WM I Br wR cc cf is vI ks v10 w) (K : Act → World → Prop) (Q0 : Exit → Act → World → Prop)
    (hK : ∀ a' w', FrD I Bu cap N Mc Br i a' → a'.tmps.getD 8 undef = .int .i64 i → WM I Br wR cc cf is vI ks v10 w' → K a' w') :
    (stm 0 (chB (Tryd.f5.body.getD .skip))).wp Tryd.prog (Exit.then K Q0) a w := by
  obtain ⟨f, rfl, hf⟩ := lit149 a fr.size fr.defers
  have e0 := (hf 0).symm.trans fr.s0
  have e2 := (hf 2).symm.trans fr.s2
  have e5 := (hf 5).symm.trans fr.s5
  have e6 := (hf 6).symm.trans fr.s6
  have e7 := (hf 7).symm.trans fr.s7
  have e39 := (hf 39).symm.trans fr.s39
  have e40 := (hf 40).symm.trans fr.s40
  clear fr hf 
  simp only [e0, e2, e5, e6, e7, e39, e40]
  clear e0 e2 e5 e6 e7 e39 e40 
  conv => arg 2; whnf
  go_wp2_with fail
  exact hK _ _ ⟨rfl, rfl, rfl, rfl, rfl, rfl, rfl, rfl, rfl⟩ rfl hw

set_option maxHeartbeats 1000000 in
set_option maxRecDepth 100000 in
theorem p1 {I : In} {B Bu : Nat} {pp : Nat → Nat} {N Mc Br kb kc cap i : Nat} {wR : World} (C : CtxR I B Bu pp N Mc Br kb kc wR) (hi : i < I.n) {a : Act} {w : World} {cc cf : Nat} {is : List (Int × ByteArray)} {vI v10 v11 : Value} {ks : List ByteArray}
    (fr : FrD I Bu cap N Mc Br i a) (s8 : a.tmps.getD 8 undef = .int .i64 i) (hw : WM I Br wR cc cf is vI ks v10 w) (K : Act → World → Prop) (Q0 : Exit → Act → World → Prop)
    (hK : ∀ a' w', FrD I Bu cap N Mc Br i a' → a'.tmps.getD 9 undef = .pointer (some ⟨Bu, i * 20, none⟩) → WM I Br wR cc cf is vI ks v10 w' → K a' w') :
    (stm 1 (chB (Tryd.f5.body.getD .skip))).wp Tryd.prog (Exit.then K Q0) a w := by
  obtain ⟨f, rfl, hf⟩ := lit149 a fr.size fr.defers
  have e0 := (hf 0).symm.trans fr.s0
  have e2 := (hf 2).symm.trans fr.s2
  have e5 := (hf 5).symm.trans fr.s5
  have e6 := (hf 6).symm.trans fr.s6
  have e7 := (hf 7).symm.trans fr.s7
  have e39 := (hf 39).symm.trans fr.s39
  have e40 := (hf 40).symm.trans fr.s40
  have e8 := (hf 8).symm.trans s8
  clear fr hf s8
  simp only [e0, e2, e5, e6, e7, e39, e40, e8]
  clear e0 e2 e5 e6 e7 e39 e40 e8
  have hn := C.F.n
  have hi' : (i : Int) < I.n := by omega
  conv => arg 2; whnf
  go_wp2_with fail
  exact hK _ _ ⟨rfl, rfl, rfl, rfl, rfl, rfl, rfl, rfl, rfl⟩ rfl hw

set_option maxHeartbeats 1000000 in
set_option maxRecDepth 100000 in
theorem p2 {I : In} {B Bu : Nat} {pp : Nat → Nat} {N Mc Br kb kc cap i : Nat} {wR : World} (C : CtxR I B Bu pp N Mc Br kb kc wR) (hi : i < I.n) {a : Act} {w : World} {cc cf : Nat} {is : List (Int × ByteArray)} {vI v10 v11 : Value} {ks : List ByteArray}
    (K : Act → World → Prop) (Q0 : Exit → Act → World → Prop)
    (hX : ∀ a' w', I.del i = true → FrD I Bu cap N Mc Br i a' → WM I Br wR cc cf is vI ks v10 w' → Q0 (.exit 3) a' w')
    (fr : FrD I Bu cap N Mc Br i a) (s9 : a.tmps.getD 9 undef = .pointer (some ⟨Bu, i * 20, none⟩)) (hw : WM I Br wR cc cf is vI ks v10 w)
    (hK : ∀ a' w', I.del i = false → FrD I Bu cap N Mc Br i a' → a'.tmps.getD 9 undef = .pointer (some ⟨Bu, i * 20, none⟩) → WM I Br wR cc cf is vI ks v10 w' → K a' w') :
    (stm 2 (chB (Tryd.f5.body.getD .skip))).wp Tryd.prog (Exit.then K Q0) a w := by
  obtain ⟨f, rfl, hf⟩ := lit149 a fr.size fr.defers
  have e0 := (hf 0).symm.trans fr.s0
  have e2 := (hf 2).symm.trans fr.s2
  have e5 := (hf 5).symm.trans fr.s5
  have e6 := (hf 6).symm.trans fr.s6
  have e7 := (hf 7).symm.trans fr.s7
  have e39 := (hf 39).symm.trans fr.s39
  have e40 := (hf 40).symm.trans fr.s40
  have e9 := (hf 9).symm.trans s9
  clear fr hf s9
  simp only [e0, e2, e5, e6, e7, e39, e40, e9]
  clear e0 e2 e5 e6 e7 e39 e40 e9
  have d8 := (C.U.below hw.below C.hB).c8 i hi
  cases hd : I.del i with
  | true =>
    rw [hd] at d8
    have HX : ∀ a' w', FrD I Bu cap N Mc Br i a' → WM I Br wR cc cf is vI ks v10 w' → Q0 (.exit 3) a' w' := fun a' w' => hX a' w' hd
    clear hX hK
    conv => arg 2; whnf
    go_wp2_with fail
    exact HX _ _ ⟨rfl, rfl, rfl, rfl, rfl, rfl, rfl, rfl, rfl⟩ hw
  | false =>
    rw [hd] at d8
    have HK : ∀ a' w', FrD I Bu cap N Mc Br i a' → a'.tmps.getD 9 undef = .pointer (some ⟨Bu, i * 20, none⟩) → WM I Br wR cc cf is vI ks v10 w' → K a' w' := fun a' w' => hK a' w' hd
    clear hX hK
    conv => arg 2; whnf
    go_wp2_with fail
    exact HK _ _ ⟨rfl, rfl, rfl, rfl, rfl, rfl, rfl, rfl, rfl⟩ rfl hw

set_option maxHeartbeats 1000000 in
set_option maxRecDepth 100000 in
theorem p3 {I : In} {B Bu : Nat} {pp : Nat → Nat} {N Mc Br kb kc cap i : Nat} {wR : World} (C : CtxR I B Bu pp N Mc Br kb kc wR) (hi : i < I.n) {a : Act} {w : World} {cc cf : Nat} {is : List (Int × ByteArray)} {vI v10 v11 : Value} {ks : List ByteArray}
    (fr : FrD I Bu cap N Mc Br i a) (s9 : a.tmps.getD 9 undef = .pointer (some ⟨Bu, i * 20, none⟩)) (hw : WM I Br wR cc cf is vI ks v10 w) (hcc : cc ≤ 4096) (K : Act → World → Prop) (Q0 : Exit → Act → World → Prop)
    (hK : ∀ a' w', FrD I Bu cap N Mc Br i a' → a'.tmps.getD 9 undef = .pointer (some ⟨Bu, i * 20, none⟩) → WM I Br wR (cc + 1) cf is vI ks v10 w' → K a' w') :
    (stm 3 (chB (Tryd.f5.body.getD .skip))).wp Tryd.prog (Exit.then K Q0) a w := by
  obtain ⟨f, rfl, hf⟩ := lit149 a fr.size fr.defers
  have e0 := (hf 0).symm.trans fr.s0
  have e2 := (hf 2).symm.trans fr.s2
  have e5 := (hf 5).symm.trans fr.s5
  have e6 := (hf 6).symm.trans fr.s6
  have e7 := (hf 7).symm.trans fr.s7
  have e39 := (hf 39).symm.trans fr.s39
  have e40 := (hf 40).symm.trans fr.s40
  have e9 := (hf 9).symm.trans s9
  clear fr hf s9
  simp only [e0, e2, e5, e6, e7, e39, e40, e9]
  clear e0 e2 e5 e6 e7 e39 e40 e9
  have c0 := hw.c0
  have fz := hw.fz 0
  have hlt := hw.lt
  have h2 := hw.set0 (cc + 1)
  conv => arg 2; whnf
  go_wp2_with fail
  refine hK _ _ ⟨rfl, rfl, rfl, rfl, rfl, rfl, rfl, rfl, rfl⟩ rfl ?_
  have e : ((cc : Int) + 1) = ((cc + 1 : Nat) : Int) := by omega
  first | exact h2 | (rw [e]; exact h2) | (simp only [e]; exact h2)

set_option maxHeartbeats 1000000 in
set_option maxRecDepth 100000 in
theorem p4 {I : In} {B Bu : Nat} {pp : Nat → Nat} {N Mc Br kb kc cap i : Nat} {wR : World} (C : CtxR I B Bu pp N Mc Br kb kc wR) (hi : i < I.n) {a : Act} {w : World} {cc cf : Nat} {is : List (Int × ByteArray)} {vI : Value}
    (fr : FrD I Bu cap N Mc Br i a) (s9 : a.tmps.getD 9 undef = .pointer (some ⟨Bu, i * 20, none⟩)) (hw : WM I Br wR cc cf is vI [] (.slice none 0 0) w) (T : Code) (Q : Exit → Act → World → Prop)
    (hK : ∀ a' w', FrM I Bu cap N Mc Br i (.slice none 0 0) (.pointer none) true a' → WM I Br wR cc cf is vI [] (.slice none 0 0) w' → T.wp Tryd.prog Q a' w') :
    (Code.seq (stm 4 (chB (Tryd.f5.body.getD .skip))) (Code.seq (stm 5 (chB (Tryd.f5.body.getD .skip))) (Code.seq (stm 6 (chB (Tryd.f5.body.getD .skip))) T))).wp Tryd.prog Q a w := by
  obtain ⟨f, rfl, hf⟩ := lit149 a fr.size fr.defers
  have e0 := (hf 0).symm.trans fr.s0
  have e2 := (hf 2).symm.trans fr.s2
  have e5 := (hf 5).symm.trans fr.s5
  have e6 := (hf 6).symm.trans fr.s6
  have e7 := (hf 7).symm.trans fr.s7
  have e39 := (hf 39).symm.trans fr.s39
  have e40 := (hf 40).symm.trans fr.s40
  have e9 := (hf 9).symm.trans s9
  clear fr hf s9
  simp only [e0, e2, e5, e6, e7, e39, e40, e9]
  clear e0 e2 e5 e6 e7 e39 e40 e9
  conv => arg 2; arg 1; whnf
  conv => arg 2; arg 2; arg 1; whnf
  conv => arg 2; arg 2; arg 2; arg 1; whnf
  go_wp2_with fail
  exact hK _ _ ⟨⟨rfl, rfl, rfl, rfl, rfl, rfl, rfl, rfl, rfl⟩, rfl, rfl, rfl, rfl⟩ hw

set_option maxHeartbeats 1000000 in
set_option maxRecDepth 100000 in
theorem p11 {I : In} {B Bu : Nat} {pp : Nat → Nat} {N Mc Br kb kc cap i : Nat} {wR : World} (C : CtxR I B Bu pp N Mc Br kb kc wR) (hi : i < I.n) {a : Act} {w : World} {cc cf : Nat} {is : List (Int × ByteArray)} {vI v10 v11 : Value} {ks : List ByteArray} {pl : Bool}
    (hf : FrM I Bu cap N Mc Br i v10 v11 pl a) (hw : WM I Br wR cc cf is vI ks v10 w) (hcf : cf ≤ 4096) (hks : ks.length ≤ 10) (K : Act → World → Prop) (Q0 : Exit → Act → World → Prop)
    (hK : ∀ a' w', FrM I Bu cap N Mc Br i v10 v11 pl a' → WM I Br wR cc (if ks.isEmpty then cf else cf + 1) is vI ks v10 w' → K a' w') :
    (stm 11 (chB (Tryd.f5.body.getD .skip))).wp Tryd.prog (Exit.then K Q0) a w := by
  obtain ⟨fr, s9, s10, s11, s12⟩ := hf
  obtain ⟨f, rfl, hf⟩ := lit149 a fr.size fr.defers
  have e0 := (hf 0).symm.trans fr.s0
  have e2 := (hf 2).symm.trans fr.s2
  have e5 := (hf 5).symm.trans fr.s5
  have e6 := (hf 6).symm.trans fr.s6
  have e7 := (hf 7).symm.trans fr.s7
  have e39 := (hf 39).symm.trans fr.s39
  have e40 := (hf 40).symm.trans fr.s40
  have e9 := (hf 9).symm.trans s9
  have e10 := (hf 10).symm.trans s10
  have e11 := (hf 11).symm.trans s11
  have e12 := (hf 12).symm.trans s12
  clear fr hf s9 s10 s11 s12
  simp only [e0, e2, e5, e6, e7, e39, e40, e9, e10, e11, e12]
  clear e0 e2 e5 e6 e7 e39 e40 e9 e10 e11 e12
  obtain ⟨ao, cp10, rfl⟩ : ∃ ao cp10, v10 = .slice ao ks.length cp10 := ownsRow_shape hw.rowK
  have c1 := hw.c1
  have fz := hw.fz 1
  have hlt := hw.lt
  by_cases hz : ks.length = 0
  · have hk : ks = [] := List.eq_nil_of_length_eq_zero hz
    have HK : ∀ a' w', FrM I Bu cap N Mc Br i (.slice ao ks.length cp10) v11 pl a' → WM I Br wR cc cf is vI ks (.slice ao ks.length cp10) w' → K a' w' := fun a' w' h1 h2 => hK a' w' h1 (by simpa [hk] using h2)
    clear hK hk
    conv => arg 2; whnf
    go_wp2_with fail
    exact HK _ _ ⟨⟨rfl, rfl, rfl, rfl, rfl, rfl, rfl, rfl, rfl⟩, rfl, rfl, rfl, rfl⟩ hw
  · have hk : ks.isEmpty = false := by cases ks with
      | nil => exact absurd rfl hz
      | cons _ _ => rfl
    have HK : ∀ a' w', FrM I Bu cap N Mc Br i (.slice ao ks.length cp10) v11 pl a' → WM I Br wR cc (cf + 1) is vI ks (.slice ao ks.length cp10) w' → K a' w' := fun a' w' h1 h2 => hK a' w' h1 (by simpa [hk] using h2)
    have hz' : (0 : Int) < (ks.length : Int) := by omega
    have h2 := hw.set1 (cf + 1)
    clear hK hk
    conv => arg 2; whnf
    go_wp2_with fail
    refine HK _ _ ⟨⟨rfl, rfl, rfl, rfl, rfl, rfl, rfl, rfl, rfl⟩, rfl, rfl, rfl, rfl⟩ ?_
    have e : ((cf : Int) + 1) = ((cf + 1 : Nat) : Int) := by omega
    first | exact h2 | (rw [e]; exact h2) | (simp only [e]; exact h2)

end Go.Proofs.Qxb6612928aDoor.H
