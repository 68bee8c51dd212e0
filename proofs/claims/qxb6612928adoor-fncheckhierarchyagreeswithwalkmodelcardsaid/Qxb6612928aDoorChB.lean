/-
  CheckHierarchy: one unit's kinds of issues, statement by statement.
-/
import Derived.Test.Qxb6612928aDoorChA
namespace Go.Proofs.Qxb6612928aDoor.H
open Go.RowKit Go.Maps
set_option linter.unusedVariables false

/-- What the report loop finds: the world right behind 'var r'. -/
structure CtxR (I : In) (B Bu : Nat) (pp : Nat → Nat) (N Mc Br kb kc : Nat) (wR : World) : Prop where
  F : Fits I
  U : Units I B Bu pp wR
  hB : B ≤ Br
  hN : N + 2 < Br
  hMc : Mc < Br
  box : wR.cell? ⟨N + 2, 0, none⟩ = some (.map (some (N + 1)))
  map : MapIs anyV wR (N + 1) (byC I Bu) kb
  cyc : MapIs anyV wR Mc (cycM I) kc
  tab : Tab wR

/-- The frame in the report loop. -/
structure FrD (I : In) (Bu cap N Mc Br i : Nat) (a : Act) : Prop where
  size : a.tmps.size = 149
  defers : a.defers = []
  s0 : a.tmps.getD 0 undef = .slice (some ⟨Bu, 0, none⟩) I.n cap
  s2 : a.tmps.getD 2 undef = .pointer (some ⟨N, 0, none⟩)
  s5 : a.tmps.getD 5 undef = clo (N + 2)
  s6 : a.tmps.getD 6 undef = .map (some Mc)
  s7 : a.tmps.getD 7 undef = .pointer (some ⟨Br, 0, none⟩)
  s39 : a.tmps.getD 39 undef = .int .i64 I.n
  s40 : a.tmps.getD 40 undef = .int .i64 i

/-- The issues' cells. -/
def issCells (l : List (Int × ByteArray)) : List Value := l.flatMap fun p => [.int .i32 p.1, .string p.2]

theorem issCells_len (l : List (Int × ByteArray)) : (issCells l).length = l.length * 2 := by
  unfold issCells
  induction l with
  | nil => rfl
  | cons x xs ih => simp [List.flatMap_cons, ih]; omega

/-- The world in the middle of a round: the kinds so far are ks. -/
structure WM (I : In) (Br : Nat) (wR : World) (cc cf : Nat) (is : List (Int × ByteArray)) (vI : Value) (ks : List ByteArray) (v10 : Value) (w : World) : Prop where
  below : Below Br wR w
  lt : Br < w.heap.size
  c0 : w.cell? ⟨Br, 0, none⟩ = some (.int .i64 cc)
  c1 : w.cell? ⟨Br, 1, none⟩ = some (.int .i64 cf)
  c2 : w.cell? ⟨Br, 2, none⟩ = some vI
  fz : ∀ o, w.frozen? ⟨Br, o, none⟩ = false
  rowI : w.ownsRow (Br + 1) 51 2 vI is.length (issCells is)
  rowK : w.ownsRow (Br + 1) 47 1 v10 ks.length (ks.map Value.string)
  apart : v10.ownBlock = none ∨ v10.ownBlock ≠ vI.ownBlock

/-- The frame in the middle of a round. -/
structure FrM (I : In) (Bu cap N Mc Br i : Nat) (v10 v11 : Value) (pl : Bool) (a : Act) : Prop where
  fr : FrD I Bu cap N Mc Br i a
  s9 : a.tmps.getD 9 undef = .pointer (some ⟨Bu, i * 20, none⟩)
  s10 : a.tmps.getD 10 undef = v10
  s11 : a.tmps.getD 11 undef = v11
  s12 : a.tmps.getD 12 undef = .bool pl

theorem info47 : (Tryd.prog.info? 47).map (fun i => (i.zero, i.size, i.bytes)) = some (some (.string { data := #[] }), 1, 16) := by kernel_rfl
theorem info51 : (Tryd.prog.info? 51).map (fun i => (i.zero, i.size, i.bytes)) = some (some (.agg #[.int .i32 0, .string { data := #[] }]), 2, 24) := by kernel_rfl

/-- Behind a new block. -/
theorem WM.alloc {I : In} {Br : Nat} {wR : World} {cc cf : Nat} {is : List (Int × ByteArray)} {vI : Value} {ks : List ByteArray} {v10 : Value} {w : World} (h : WM I Br wR cc cf is vI ks v10 w) (o : Obj) : WM I Br wR cc cf is vI ks v10 (w.alloc o) := by
  have hb : Below w.heap.size w (w.alloc o) := (Below.refl _ _).alloc (Nat.le_refl _) _
  exact ⟨h.below.trans (hb.mono (Nat.le_of_lt h.lt)), by have := h.lt; simp; omega, (hb.cell (p := ⟨Br, 0, none⟩) h.lt).trans h.c0, (hb.cell (p := ⟨Br, 1, none⟩) h.lt).trans h.c1, (hb.cell (p := ⟨Br, 2, none⟩) h.lt).trans h.c2, fun o' => (hb.frozen (p := ⟨Br, o', none⟩) h.lt).trans (h.fz o'), h.rowI.alloc o, h.rowK.alloc o, h.apart⟩

/-- Behind a call that writes nothing old. -/
theorem WM.call {I : In} {Br : Nat} {wR : World} {cc cf : Nat} {is : List (Int × ByteArray)} {vI : Value} {ks : List ByteArray} {v10 : Value} {w w' : World} (h : WM I Br wR cc cf is vI ks v10 w) (hb : Below w.heap.size w w') : WM I Br wR cc cf is vI ks v10 w' := by
  have hg : w.grownBy w' none := ⟨hb.os, hb.tape, hb.output, hb.size, fun k hk _ => hb.block k hk⟩
  exact ⟨h.below.trans (hb.mono (Nat.le_of_lt h.lt)), Nat.lt_of_lt_of_le h.lt hb.size, (hb.cell (p := ⟨Br, 0, none⟩) h.lt).trans h.c0, (hb.cell (p := ⟨Br, 1, none⟩) h.lt).trans h.c1, (hb.cell (p := ⟨Br, 2, none⟩) h.lt).trans h.c2, fun o' => (hb.frozen (p := ⟨Br, o', none⟩) h.lt).trans (h.fz o'), h.rowI.kept hg (by cases vI.ownBlock <;> simp), h.rowK.kept hg (by cases v10.ownBlock <;> simp), h.apart⟩

theorem WM.drewN {I : In} {Br : Nat} {wR : World} {cc cf : Nat} {is : List (Int × ByteArray)} {vI : Value} {ks : List ByteArray} {v10 : Value} {w : World} (h : WM I Br wR cc cf is vI ks v10 w) (q : Nat) : WM I Br wR cc cf is vI ks v10 (w.drewN q) :=
  h.call ⟨rfl, rfl, rfl, Nat.le_refl _, fun _ _ => rfl⟩

/-- Behind an append to the kinds. -/
theorem WM.push {I : In} {Br : Nat} {wR : World} {cc cf : Nat} {is : List (Int × ByteArray)} {vI : Value} {ks : List ByteArray} {v10 : Value} {w : World} (h : WM I Br wR cc cf is vI ks v10 w) {x : ByteArray} {v' : Value} {w' : World}
    (hr : w'.ownsRow (Br + 1) 47 1 v' (ks.length + 1) (ks.map Value.string ++ [.string x])) (hg : w.grownBy w' v10.ownBlock) (hl : v'.ownBlock = v10.ownBlock ∨ v'.ownBlock = some w.heap.size) : WM I Br wR cc cf is vI (ks ++ [x]) v' w' := by
  have hlow : ∀ g, v10.ownBlock = some g → Br + 1 ≤ g := fun g hg => (h.rowK.lt g hg).1
  have hne : ∀ b, b ≤ Br → some b ≠ v10.ownBlock := fun b hb e => by have := hlow b e.symm; omega
  have hblk : w'.heap[Br]? = w.heap[Br]? := hg.block Br h.lt (hne _ (Nat.le_refl _))
  have hlt := h.lt
  refine ⟨h.below.trans ⟨hg.os, hg.tape, hg.output, hg.size, fun k hk => hg.block k (by omega) (hne k (by omega))⟩, Nat.lt_of_lt_of_le h.lt hg.size, (World.cell?_of_block (a := ⟨Br, 0, none⟩) hblk).trans h.c0, (World.cell?_of_block (a := ⟨Br, 1, none⟩) hblk).trans h.c1, (World.cell?_of_block (a := ⟨Br, 2, none⟩) hblk).trans h.c2, fun o' => (World.frozen?_of_block (a := ⟨Br, o', none⟩) hblk).trans (h.fz o'), ?_, by rw [List.length_append, List.map_append]; exact hr, ?_⟩
  · refine h.rowI.kept hg ?_
    cases hvi : vI.ownBlock with
    | none => exact Or.inl rfl
    | some g =>
      refine Or.inr (fun e => ?_)
      rcases h.apart with h0 | h0
      · rw [h0] at e; cases e
      · exact h0 (by rw [← e, hvi])
  · rcases hl with hl | hl
    · rw [hl]; exact h.apart
    · rw [hl]
      refine Or.inr (fun e => ?_)
      have := (h.rowI.lt _ e.symm).2
      omega

set_option maxHeartbeats 1000000 in
set_option maxRecDepth 100000 in
/-- 'if cyclic[u.Code]'. -/
theorem p8 {I : In} {B Bu : Nat} {pp : Nat → Nat} {N Mc Br kb kc cap i : Nat} {wR : World} (C : CtxR I B Bu pp N Mc Br kb kc wR) (hi : i < I.n) {a : Act} {w : World} {cc cf : Nat} {is : List (Int × ByteArray)} {vI v10 v11 : Value} {ks : List ByteArray} {pl : Bool}
    (hf : FrM I Bu cap N Mc Br i v10 v11 pl a) (hw : WM I Br wR cc cf is vI ks v10 w) (hks : ks.length ≤ 10) (K : Act → World → Prop) (Q0 : Exit → Act → World → Prop)
    (hK : ∀ a' w' v10', FrM I Bu cap N Mc Br i v10' v11 pl a' → WM I Br wR cc cf is vI (ks ++ if never I i then [CIRC] else []) v10' w' → K a' w') :
    (stm 8 (chB (Tryd.f5.body.getD .skip))).wp Tryd.prog (Exit.then K Q0) a w := by
  obtain ⟨fr, s9, s10, s11, s12⟩ := hf
  obtain ⟨f, rfl, hf⟩ := lit149 a fr.size fr.defers
  have e0 := (hf 0).symm.trans fr.s0
  have e2 := (hf 2).symm.trans fr.s2
  have e5 := (hf 5).symm.trans fr.s5
  have e6 := (hf 6).symm.trans fr.s6
  have e7 := (hf 7).symm.trans fr.s7
  have e39 := (hf 39).symm.trans fr.s39
  have e40 := (hf 40).symm.trans fr.s40
  have e9 := (hf 9).symm.trans s9
  have e10 := (hf 10).symm.trans s10
  have e11 := (hf 11).symm.trans s11
  have e12 := (hf 12).symm.trans s12
  clear fr s9 s10 s11 s12 hf
  simp only [e0, e2, e5, e6, e7, e39, e40, e9, e10, e11, e12]
  clear e0 e2 e5 e6 e7 e39 e40 e9 e10 e11 e12
  have d0 := (C.U.below hw.below C.hB).c0 i hi
  have hlk := (C.cyc.below hw.below C.hMc).look Tryd.underlying56 (zero4 w) rfl (C.F.code i).1 (C.F.code i).2
  have hcv : (cycM I (I.code i)).getD (.bool false) = .bool (never I i) := by
    simp only [cycM, find_code C.F.asc hi, Option.bind_some]
    cases never I i <;> rfl
  rw [hcv] at hlk
  clear hcv
  cases hnv : never I i with
  | false =>
    rw [hnv] at hlk
    have HK : ∀ a' w', FrM I Bu cap N Mc Br i v10 v11 pl a' → WM I Br wR cc cf is vI ks v10 w' → K a' w' := fun a' w' h1 h2 => hK _ _ v10 h1 (by rw [hnv]; simpa using h2)
    clear hK hnv
    conv => arg 2; whnf
    go_wp2_with fail
    exact HK _ _ ⟨⟨rfl, rfl, rfl, rfl, rfl, rfl, rfl, rfl, rfl⟩, rfl, rfl, rfl, rfl⟩ hw
  | true =>
    rw [hnv] at hlk
    have HK : ∀ a' w' v10', FrM I Bu cap N Mc Br i v10' v11 pl a' → WM I Br wR cc cf is vI (ks ++ [CIRC]) v10' w' → K a' w' := fun a' w' v' h1 h2 => hK _ _ v' h1 (by rw [hnv]; simpa using h2)
    have hrow1 := hw.rowK.alloc (.cells #[.string CIRC] 47)
    obtain ⟨i0, hi0, hz0, hz1, hz2⟩ := info_parts info47
    have hone : ∀ x ∈ [Value.string CIRC], x.oneCell' = true := by intro x hx; simp at hx; subst hx; rfl
    have hl1 : ks.length + 1 ≤ maxLen := by unfold maxLen; omega
    have hl2 : (ks.length + 1) * 16 ≤ 140737488355328 := by omega
    have hlt := hw.lt
    clear hK hnv
    conv => arg 2; whnf
    go_wp2_with (at_builtin; refine wpList_append_own_at _ rfl _ _ 46 rfl (Br + 1) 47 i0 (.string { data := #[] }) 1 16 Tryd.underlying46 hi0 hz0 hz1 hz2 rfl (by decide) v10 ks.length (ks.map Value.string) rfl hrow1 ⟨w.heap.size, 0, none⟩ 1 1 [.string CIRC] rfl rfl (cell_one_new _ _ _) hone hl1 hl2 (by simp; omega) ?_)
    intro v' w2 hr hg hnn hl
    have hw2 := (hw.alloc (.cells #[.string CIRC] 47)).push (x := CIRC) hr hg (by simpa using hl)
    go_wp2_with fail
    exact HK _ _ _ ⟨⟨rfl, rfl, rfl, rfl, rfl, rfl, rfl, rfl, rfl⟩, rfl, rfl, rfl, rfl⟩ hw2

/-- What the parent's variable holds. -/
def ParV (I : In) (Bu i : Nat) (v : Value) : Prop := (∀ p, par I i = some p → v = .pointer (some ⟨Bu, p * 20, none⟩)) ∧ (I.hasP i = false → v = .pointer none)

set_option maxHeartbeats 1000000 in
set_option maxRecDepth 100000 in
/-- The parent. -/
theorem p7 {I : In} {B Bu : Nat} {pp : Nat → Nat} {N Mc Br kb kc cap i : Nat} {wR : World} (C : CtxR I B Bu pp N Mc Br kb kc wR) (hi : i < I.n) {a : Act} {w : World} {cc cf : Nat} {is : List (Int × ByteArray)} {vI v10 : Value} {ks : List ByteArray}
    (hf : FrM I Bu cap N Mc Br i v10 (.pointer none) true a) (hw : WM I Br wR cc cf is vI ks v10 w) (hks : ks.length ≤ 10) (K : Act → World → Prop) (Q0 : Exit → Act → World → Prop)
    (hK : ∀ a' w' v10' v11', ParV I Bu i v11' → FrM I Bu cap N Mc Br i v10' v11' (placed I i) a' → WM I Br wR cc cf is vI (ks ++ if placed I i then [] else [ORPH]) v10' w' → K a' w') :
    (stm 7 (chB (Tryd.f5.body.getD .skip))).wp Tryd.prog (Exit.then K Q0) a w := by
  obtain ⟨fr, s9, s10, s11, s12⟩ := hf
  obtain ⟨f, rfl, hf⟩ := lit149 a fr.size fr.defers
  have e0 := (hf 0).symm.trans fr.s0
  have e2 := (hf 2).symm.trans fr.s2
  have e5 := (hf 5).symm.trans fr.s5
  have e6 := (hf 6).symm.trans fr.s6
  have e7 := (hf 7).symm.trans fr.s7
  have e39 := (hf 39).symm.trans fr.s39
  have e40 := (hf 40).symm.trans fr.s40
  have e9 := (hf 9).symm.trans s9
  have e10 := (hf 10).symm.trans s10
  have e11 := (hf 11).symm.trans s11
  have e12 := (hf 12).symm.trans s12
  clear fr s9 s10 s11 s12 hf
  simp only [e0, e2, e5, e6, e7, e39, e40, e9, e10, e11, e12]
  clear e0 e2 e5 e6 e7 e39 e40 e9 e10 e11 e12
  have U := C.U.below hw.below C.hB
  have d1 := U.c1 i hi
  simp only [clo]
  have box := (hw.below.cell (p := ⟨N + 2, 0, none⟩) C.hN).trans C.box
  have map := C.map.below hw.below (by have := C.hN; omega)
  cases hh : I.hasP i with
  | false =>
    simp only [pcPtr, hh, Bool.false_eq_true, if_false] at d1
    have hpl : placed I i = true := by simp [placed, hh]
    have HK : ∀ a' w', FrM I Bu cap N Mc Br i v10 (.pointer none) true a' → WM I Br wR cc cf is vI ks v10 w' → K a' w' := fun a' w' h1 h2 => hK _ _ v10 _ ⟨fun p hp => by simp [par, hh] at hp, fun _ => rfl⟩ (by rw [hpl]; exact h1) (by rw [hpl]; simpa using h2)
    clear hK hpl
    conv => arg 2; whnf
    go_wp2_with fail
    exact HK _ _ ⟨⟨rfl, rfl, rfl, rfl, rfl, rfl, rfl, rfl, rfl⟩, rfl, rfl, rfl, rfl⟩ hw
  | true =>
    simp only [pcPtr, hh, if_true] at d1
    cases hp : par I i with
    | some p =>
      have hpl : placed I i = true := by simp [placed, hp]
      have HK : ∀ a' w', FrM I Bu cap N Mc Br i v10 (.pointer (some ⟨Bu, p * 20, none⟩)) true a' → WM I Br wR cc cf is vI ks v10 w' → K a' w' := fun a' w' h1 h2 => hK _ _ v10 _ ⟨fun q hq => by rw [hp] at hq; cases hq; rfl, fun h => by simp [hh] at h⟩ (by rw [hpl]; exact h1) (by rw [hpl]; simpa using h2)
      have HC := closure_some C.F U box map hi hp
      clear hK hpl
      conv => arg 2; whnf
      go_wp2_with fail
      refine HC.mono ?_
      rintro e w1 ⟨rfl, q, rfl⟩
      have hw1 := hw.drewN q
      go_wp2_with fail
      exact HK _ _ ⟨⟨rfl, rfl, rfl, rfl, rfl, rfl, rfl, rfl, rfl⟩, rfl, rfl, rfl, rfl⟩ hw1
    | none =>
      have hpl : placed I i = false := by simp [placed, hp, hh]
      have HK : ∀ a' w' v10' x, FrM I Bu cap N Mc Br i v10' (.pointer x) false a' → WM I Br wR cc cf is vI (ks ++ [ORPH]) v10' w' → K a' w' := fun a' w' v10' x h1 h2 => hK _ _ v10' _ ⟨fun q hq => (by rw [hp] at hq; cases hq), fun h => by simp [hh] at h⟩ (by rw [hpl]; exact h1) (by rw [hpl]; simpa using h2)
      have HC := closure_none C.F U box map hi hh hp
      clear hK hpl
      conv => arg 2; whnf
      go_wp2_with fail
      refine HC.mono ?_
      rintro e w1 ⟨⟨x, rfl⟩, q, rfl⟩
      have hw1 := hw.drewN q
      generalize w.drewN q = w1 at hw1 ⊢
      have hrow1 := hw1.rowK.alloc (.cells #[.string ORPH] 47)
      obtain ⟨i0, hi0, hz0, hz1, hz2⟩ := info_parts info47
      have hone : ∀ x ∈ [Value.string ORPH], x.oneCell' = true := by intro x hx; simp at hx; subst hx; rfl
      have hl1 : ks.length + 1 ≤ maxLen := by unfold maxLen; omega
      have hl2 : (ks.length + 1) * 16 ≤ 140737488355328 := by omega
      have hlt := hw1.lt
      clear HC
      go_wp2_with (at_builtin; refine wpList_append_own_at _ rfl _ _ 46 rfl (Br + 1) 47 i0 (.string { data := #[] }) 1 16 Tryd.underlying46 hi0 hz0 hz1 hz2 rfl (by decide) v10 ks.length (ks.map Value.string) rfl hrow1 ⟨w1.heap.size, 0, none⟩ 1 1 [.string ORPH] rfl rfl (cell_one_new _ _ _) hone hl1 hl2 (by simp; omega) ?_)
      intro v' w2 hr hg hnn hl
      have hw2 := (hw1.alloc (.cells #[.string ORPH] 47)).push (x := ORPH) hr hg (by simpa using hl)
      go_wp2_with fail
      exact HK _ _ _ _ ⟨⟨rfl, rfl, rfl, rfl, rfl, rfl, rfl, rfl, rfl⟩, rfl, rfl, rfl, rfl⟩ hw2

set_option maxHeartbeats 1000000 in
set_option maxRecDepth 100000 in
/-- 'if u.Level > 17'. -/
theorem p10 {I : In} {B Bu : Nat} {pp : Nat → Nat} {N Mc Br kb kc cap i : Nat} {wR : World} (C : CtxR I B Bu pp N Mc Br kb kc wR) (hi : i < I.n) {a : Act} {w : World} {cc cf : Nat} {is : List (Int × ByteArray)} {vI v10 v11 : Value} {ks : List ByteArray} {pl : Bool}
    (hf : FrM I Bu cap N Mc Br i v10 v11 pl a) (hw : WM I Br wR cc cf is vI ks v10 w) (hks : ks.length ≤ 10) (K : Act → World → Prop) (Q0 : Exit → Act → World → Prop)
    (hK : ∀ a' w' v10', FrM I Bu cap N Mc Br i v10' v11 pl a' → WM I Br wR cc cf is vI (ks ++ if badD I i then [DEEP] else []) v10' w' → K a' w') :
    (stm 10 (chB (Tryd.f5.body.getD .skip))).wp Tryd.prog (Exit.then K Q0) a w := by
  obtain ⟨fr, s9, s10, s11, s12⟩ := hf
  obtain ⟨f, rfl, hf⟩ := lit149 a fr.size fr.defers
  have e0 := (hf 0).symm.trans fr.s0
  have e2 := (hf 2).symm.trans fr.s2
  have e5 := (hf 5).symm.trans fr.s5
  have e6 := (hf 6).symm.trans fr.s6
  have e7 := (hf 7).symm.trans fr.s7
  have e39 := (hf 39).symm.trans fr.s39
  have e40 := (hf 40).symm.trans fr.s40
  have e9 := (hf 9).symm.trans s9
  have e10 := (hf 10).symm.trans s10
  have e11 := (hf 11).symm.trans s11
  have e12 := (hf 12).symm.trans s12
  clear fr s9 s10 s11 s12 hf
  simp only [e0, e2, e5, e6, e7, e39, e40, e9, e10, e11, e12]
  clear e0 e2 e5 e6 e7 e39 e40 e9 e10 e11 e12
  have d3 := (C.U.below hw.below C.hB).c3 i hi
  have hl3 := C.F.lvl i
  by_cases hb : 17 < I.lvl i
  · have hbd : badD I i = true := by simp [badD, hb]
    have HK : ∀ a' w' v10', FrM I Bu cap N Mc Br i v10' v11 pl a' → WM I Br wR cc cf is vI (ks ++ [DEEP]) v10' w' → K a' w' := fun a' w' v' h1 h2 => hK _ _ v' h1 (by rw [hbd]; simpa using h2)
    have hrow1 := hw.rowK.alloc (.cells #[.string DEEP] 47)
    obtain ⟨i0, hi0, hz0, hz1, hz2⟩ := info_parts info47
    have hone : ∀ x ∈ [Value.string DEEP], x.oneCell' = true := by intro x hx; simp at hx; subst hx; rfl
    have hl1 : ks.length + 1 ≤ maxLen := by unfold maxLen; omega
    have hl2 : (ks.length + 1) * 16 ≤ 140737488355328 := by omega
    have hlt := hw.lt
    clear hK hbd
    conv => arg 2; whnf
    go_wp2_with (at_builtin; refine wpList_append_own_at _ rfl _ _ 46 rfl (Br + 1) 47 i0 (.string { data := #[] }) 1 16 Tryd.underlying46 hi0 hz0 hz1 hz2 rfl (by decide) v10 ks.length (ks.map Value.string) rfl hrow1 ⟨w.heap.size, 0, none⟩ 1 1 [.string DEEP] rfl rfl (cell_one_new _ _ _) hone hl1 hl2 (by simp; omega) ?_)
    intro v' w2 hr hg hnn hl
    have hw2 := (hw.alloc (.cells #[.string DEEP] 47)).push (x := DEEP) hr hg (by simpa using hl)
    go_wp2_with fail
    exact HK _ _ _ ⟨⟨rfl, rfl, rfl, rfl, rfl, rfl, rfl, rfl, rfl⟩, rfl, rfl, rfl, rfl⟩ hw2
  · have hbd : badD I i = false := by simp [badD, hb]
    have HK : ∀ a' w', FrM I Bu cap N Mc Br i v10 v11 pl a' → WM I Br wR cc cf is vI ks v10 w' → K a' w' := fun a' w' h1 h2 => hK _ _ v10 h1 (by rw [hbd]; simpa using h2)
    clear hK hbd
    conv => arg 2; whnf
    go_wp2_with fail
    exact HK _ _ ⟨⟨rfl, rfl, rfl, rfl, rfl, rfl, rfl, rfl, rfl⟩, rfl, rfl, rfl, rfl⟩ hw
end Go.Proofs.Qxb6612928aDoor.H
