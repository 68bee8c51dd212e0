/-
  The law: the model's loop: its state, its head.
-/
import Derived.Test.Qxb6612928aDoorLf
namespace Go.Proofs.Qxb6612928aDoor.H
open Go.RowKit Go.Maps
set_option linter.unusedVariables false

theorem info21 : (Tryd.prog.info? 21).map (fun i => (i.zero, i.size, i.bytes)) = some (some (.int .i32 0), 1, 4) := by kernel_rfl

/-- What the model's loop finds. -/
structure CtxM (I : In) (X : Ar) (Br Bv B : Nat) (wM : World) : Prop where
  F : Fits I
  ins : Inn I X wM
  hB : B = wM.heap.size
  hv : Bv < B
  val : ∀ j, j < I.n → wM.cell? ⟨Bv, j, none⟩ = some (.int .i64 (vld I j))

/-- The frame in the model's loop. -/
structure FrG (I : In) (X : Ar) (Br Bv nc nf i : Nat) (vC vK : Value) (a : Act) : Prop where
  size : a.tmps.size = 559
  defers : a.defers = []
  s0 : a.tmps.getD 0 undef = .slice X.a0 I.n X.c0
  s1 : a.tmps.getD 1 undef = .slice X.a1 I.n X.c1
  s2 : a.tmps.getD 2 undef = .slice X.a2 I.n X.c2
  s3 : a.tmps.getD 3 undef = .slice X.a3 I.n X.c3
  s4 : a.tmps.getD 4 undef = .slice X.a4 I.n X.c4
  s5 : a.tmps.getD 5 undef = .slice X.a5 I.n X.c5
  s6 : a.tmps.getD 6 undef = .slice X.a6 I.n X.c6
  s7 : a.tmps.getD 7 undef = .slice X.a7 I.n X.c7
  s21 : a.tmps.getD 21 undef = .int .i64 I.n
  s26 : a.tmps.getD 26 undef = .pointer (some ⟨Br, 0, none⟩)
  s27 : a.tmps.getD 27 undef = .slice (some ⟨Bv, 0, none⟩) I.n I.n
  s30 : a.tmps.getD 30 undef = .int .i64 nc
  s31 : a.tmps.getD 31 undef = .int .i64 nf
  s32 : a.tmps.getD 32 undef = vC
  s33 : a.tmps.getD 33 undef = vK
  s34 : a.tmps.getD 34 undef = .int .i64 i

/-- The world in the model's loop. -/
structure MW (B : Nat) (wM : World) (cs : List Int) (ks : List ByteArray) (vC vK : Value) (w : World) : Prop where
  below : Below B wM w
  le : B ≤ w.heap.size
  rowC : w.ownsRow B 21 1 vC cs.length (cs.map (Value.int .i32))
  rowK : w.ownsRow B 47 1 vK ks.length (ks.map Value.string)
  apart : ∀ g, vC.ownBlock = some g → vK.ownBlock ≠ some g

theorem MW.call {B : Nat} {wM : World} {cs : List Int} {ks : List ByteArray} {vC vK : Value} {w w' : World} (h : MW B wM cs ks vC vK w) (hb : Below w.heap.size w w') : MW B wM cs ks vC vK w' := by
  have hg : w.grownBy w' none := ⟨hb.os, hb.tape, hb.output, hb.size, fun k hk _ => hb.block k hk⟩
  exact ⟨h.below.trans (hb.mono h.le), Nat.le_trans h.le hb.size, h.rowC.kept hg (by cases vC.ownBlock <;> simp), h.rowK.kept hg (by cases vK.ownBlock <;> simp), h.apart⟩

theorem MW.alloc {B : Nat} {wM : World} {cs : List Int} {ks : List ByteArray} {vC vK : Value} {w : World} (h : MW B wM cs ks vC vK w) (o : Obj) : MW B wM cs ks vC vK (w.alloc o) :=
  h.call ((Below.refl _ _).alloc (Nat.le_refl _) _)

theorem MW.drewN {B : Nat} {wM : World} {cs : List Int} {ks : List ByteArray} {vC vK : Value} {w : World} (h : MW B wM cs ks vC vK w) (q : Nat) : MW B wM cs ks vC vK (w.drewN q) :=
  h.call ⟨rfl, rfl, rfl, Nat.le_refl _, fun _ _ => rfl⟩

theorem grown_below {B : Nat} {w w' : World} {row : Option Nat} (hg : w.grownBy w' row) (hB : B ≤ w.heap.size) (hr : ∀ g, row = some g → B ≤ g) : Below B w w' :=
  ⟨hg.os, hg.tape, hg.output, hg.size, fun k hk => hg.block k (by omega) (fun e => by have := hr k e.symm; omega)⟩

theorem MW.pushC {B : Nat} {wM : World} {cs : List Int} {ks : List ByteArray} {vC vK : Value} {w : World} (h : MW B wM cs ks vC vK w) {c : Int} {v' : Value} {w' : World}
    (hr : w'.ownsRow B 21 1 v' (cs.length + 1) (cs.map (Value.int .i32) ++ [.int .i32 c])) (hg : w.grownBy w' vC.ownBlock) (hl : v'.ownBlock = vC.ownBlock ∨ v'.ownBlock = some w.heap.size) : MW B wM (cs ++ [c]) ks v' vK w' := by
  refine ⟨h.below.trans (grown_below hg h.le fun g e => (h.rowC.lt g e).1), Nat.le_trans h.le hg.size, by rw [List.length_append, List.map_append]; exact hr, h.rowK.kept hg ?_, ?_⟩
  · cases hv : vK.ownBlock with
    | none => exact Or.inl rfl
    | some g => exact Or.inr (fun e => h.apart g e.symm hv)
  · intro g hg' e
    rcases hl with hl | hl
    · exact h.apart g (hl ▸ hg') e
    · rw [hl] at hg'
      cases hg'
      have := (h.rowK.lt _ e).2
      omega

theorem MW.pushK {B : Nat} {wM : World} {cs : List Int} {ks : List ByteArray} {vC vK : Value} {w : World} (h : MW B wM cs ks vC vK w) {x : ByteArray} {v' : Value} {w' : World}
    (hr : w'.ownsRow B 47 1 v' (ks.length + 1) (ks.map Value.string ++ [.string x])) (hg : w.grownBy w' vK.ownBlock) (hl : v'.ownBlock = vK.ownBlock ∨ v'.ownBlock = some w.heap.size) : MW B wM cs (ks ++ [x]) vC v' w' := by
  refine ⟨h.below.trans (grown_below hg h.le fun g e => (h.rowK.lt g e).1), Nat.le_trans h.le hg.size, h.rowC.kept hg ?_, by rw [List.length_append, List.map_append]; exact hr, ?_⟩
  · cases hv : vC.ownBlock with
    | none => exact Or.inl rfl
    | some g => exact Or.inr (fun e => h.apart g hv e.symm)
  · intro g hg' e
    rcases hl with hl | hl
    · exact h.apart g hg' (hl ▸ e)
    · rw [hl] at e
      cases e
      have := (h.rowC.lt _ hg').2
      omega

def moL (c : Code) : Code := lC (bC (sB (stm 20 c)))
def moB (c : Code) : Code := bC (sA (sB (moL c)))

set_option maxHeartbeats 2000000 in
set_option maxRecDepth 100000 in
theorem l16 {I : In} {X : Ar} {a : Act} {w : World} {Br Bv : Nat} (fr : FrB I X a) (s26 : a.tmps.getD 26 undef = .pointer (some ⟨Br, 0, none⟩)) (s27 : a.tmps.getD 27 undef = .slice (some ⟨Bv, 0, none⟩) I.n I.n) (hn : I.n ≤ 4096) (Tl : Code) (Q : Exit → Act → World → Prop)
    (hK : ∀ a' w' vC vK, MW w.heap.size w [] [] vC vK w' → (∀ z, a'.tmps.getD 34 undef = z → True) → FrB I X a' → a'.tmps.getD 26 undef = .pointer (some ⟨Br, 0, none⟩) → a'.tmps.getD 27 undef = .slice (some ⟨Bv, 0, none⟩) I.n I.n → a'.tmps.getD 30 undef = .int .i64 ((0 : Nat) : Int) → a'.tmps.getD 31 undef = .int .i64 ((0 : Nat) : Int) → a'.tmps.getD 32 undef = vC → a'.tmps.getD 33 undef = vK → Tl.wp Tryd.prog Q a' w') :
    (Code.seq (stm 16 (Tryd.f3.body.getD .skip)) (Code.seq (stm 17 (Tryd.f3.body.getD .skip)) (Code.seq (stm 18 (Tryd.f3.body.getD .skip)) (Code.seq (stm 19 (Tryd.f3.body.getD .skip)) Tl)))).wp Tryd.prog Q a w := by
  obtain ⟨f, rfl, hf⟩ := lit559 a fr.size fr.defers
  have e0 := (hf 0).symm.trans fr.s0
  have e1 := (hf 1).symm.trans fr.s1
  have e2 := (hf 2).symm.trans fr.s2
  have e3 := (hf 3).symm.trans fr.s3
  have e4 := (hf 4).symm.trans fr.s4
  have e5 := (hf 5).symm.trans fr.s5
  have e6 := (hf 6).symm.trans fr.s6
  have e7 := (hf 7).symm.trans fr.s7
  have e21 := (hf 21).symm.trans fr.s21
  have e26 := (hf 26).symm.trans s26
  have e27 := (hf 27).symm.trans s27
  clear fr hf s26 s27
  simp only [e0, e1, e2, e3, e4, e5, e6, e7, e21, e26, e27]
  clear e0 e1 e2 e3 e4 e5 e6 e7 e21 e26 e27
  obtain ⟨i0, hi0, hz0, hz1, hz2⟩ := info_parts info21
  obtain ⟨i1, hi1, hy0, hy1, hy2⟩ := info_parts info47
  have hb2 : i0.bytes * (5 * I.n) ≤ 281474976710656 := by rw [hz2]; omega
  have hb3 : 5 * I.n ≤ maxLen := by unfold maxLen; omega
  have hb4 : i1.bytes * (5 * I.n) ≤ 281474976710656 := by rw [hy2]; omega
  conv => arg 2; arg 1; whnf
  conv => arg 2; arg 2; arg 1; whnf
  conv => arg 2; arg 2; arg 2; arg 1; whnf
  conv => arg 2; arg 2; arg 2; arg 2; arg 1; whnf
  go_wp2_with (at_make; refine wpList_make_own w rfl _ _ 22 rfl w.heap.size 21 i0 (.int .i32 0) 1 Tryd.underlying22 hi0 hz0 hz1 .i64 .i64 (5 * (I.n : Int)) (5 * I.n) rfl rfl (by omega) hb2 hb3 (Nat.le_refl _) ?_)
  intro w1 hr1 hg1
  have hs1 := hg1.size
  have hlt1 := (hr1.lt w.heap.size rfl).2
  go_wp2_with (at_make; refine wpList_make_own w1 rfl _ _ 46 rfl w.heap.size 47 i1 (.string { data := #[] }) 1 Tryd.underlying46 hi1 hy0 hy1 .i64 .i64 (5 * (I.n : Int)) (5 * I.n) rfl rfl (by omega) hb4 hb3 hs1 ?_)
  intro w2 hr2 hg2
  have hM : MW w.heap.size w [] [] (.slice (some ⟨w.heap.size, 0, none⟩) 0 (5 * I.n)) (.slice (some ⟨w1.heap.size, 0, none⟩) 0 (5 * I.n)) w2 :=
    ⟨(grown_below hg1 (Nat.le_refl _) (fun g e => by cases e)).trans (grown_below hg2 hs1 (fun g e => by cases e)), Nat.le_trans hs1 hg2.size, hr1.kept hg2 (by simp [Value.ownBlock]), hr2, fun g e e' => by
      have h1 : w.heap.size = g := by simpa [Value.ownBlock] using e
      have h2 : w1.heap.size = g := by simpa [Value.ownBlock] using e'
      omega⟩
  clear hr1 hr2 hg1 hg2
  go_wp2_with fail
  exact hK _ _ _ _ hM (fun _ _ => trivial) ⟨rfl, rfl, rfl, rfl, rfl, rfl, rfl, rfl, rfl, rfl, rfl⟩ rfl rfl rfl rfl rfl rfl

set_option maxHeartbeats 2000000 in
set_option maxRecDepth 100000 in
theorem m0 {I : In} {X : Ar} {Br Bv B : Nat} {wM : World} {nc nf i : Nat} {vC vK : Value} {cs : List Int} {ks : List ByteArray} {a : Act} {w : World} (C : CtxM I X Br Bv B wM) (hi : i < I.n) (fr : FrG I X Br Bv nc nf i vC vK a) (hw : MW B wM cs ks vC vK w) (K : Act → World → Prop) (Q0 : Exit → Act → World → Prop)
    (hX : ∀ a', I.del i = true → FrG I X Br Bv nc nf i vC vK a' → Q0 (.exit 13) a' w) (hK : ∀ a', I.del i = false → FrG I X Br Bv nc nf i vC vK a' → K a' w) : (stm 0 (moB (Tryd.f3.body.getD .skip))).wp Tryd.prog (Exit.then K Q0) a w := by
  obtain ⟨f, rfl, hf⟩ := lit559 a fr.size fr.defers
  have e0 := (hf 0).symm.trans fr.s0
  have e1 := (hf 1).symm.trans fr.s1
  have e2 := (hf 2).symm.trans fr.s2
  have e3 := (hf 3).symm.trans fr.s3
  have e4 := (hf 4).symm.trans fr.s4
  have e5 := (hf 5).symm.trans fr.s5
  have e6 := (hf 6).symm.trans fr.s6
  have e7 := (hf 7).symm.trans fr.s7
  have e21 := (hf 21).symm.trans fr.s21
  have e26 := (hf 26).symm.trans fr.s26
  have e27 := (hf 27).symm.trans fr.s27
  have e30 := (hf 30).symm.trans fr.s30
  have e31 := (hf 31).symm.trans fr.s31
  have e32 := (hf 32).symm.trans fr.s32
  have e33 := (hf 33).symm.trans fr.s33
  have e34 := (hf 34).symm.trans fr.s34
  clear fr hf 
  simp only [e0, e1, e2, e3, e4, e5, e6, e7, e21, e26, e27, e30, e31, e32, e33, e34]
  clear e0 e1 e2 e3 e4 e5 e6 e7 e21 e26 e27 e30 e31 e32 e33 e34
  have hn := C.F.n
  have hi' : (i : Int) < I.n := by omega
  have insw := C.ins.below (Nat.le_of_eq C.hB.symm) hw.below
  obtain ⟨ad7, ha7, hc7⟩ := insw.r7 (by omega)
  have hr7 : w.cell? (ad7.add i) = some (.bool (I.del i)) := hc7 i hi
  rw [ha7]
  cases hd : I.del i with
  | true =>
    rw [hd] at hr7
    have HX : ∀ a', FrG I X Br Bv nc nf i vC vK a' → Q0 (.exit 13) a' w := fun a' => hX a' hd
    clear hX hK insw hc7
    conv => arg 2; whnf
    go_wp2_with fail
    exact ⟨rfl, rfl, rfl, rfl, rfl, rfl, rfl, rfl, rfl, by rw [ha7]; rfl, rfl, rfl, rfl, rfl, rfl, rfl, rfl, rfl⟩
  | false =>
    rw [hd] at hr7
    have HK : ∀ a', FrG I X Br Bv nc nf i vC vK a' → K a' w := fun a' => hK a' hd
    clear hX hK insw hc7
    conv => arg 2; whnf
    go_wp2_with fail
    exact ⟨rfl, rfl, rfl, rfl, rfl, rfl, rfl, rfl, rfl, by rw [ha7]; rfl, rfl, rfl, rfl, rfl, rfl, rfl, rfl, rfl⟩

set_option maxHeartbeats 2000000 in
set_option maxRecDepth 100000 in
theorem m1 {I : In} {X : Ar} {Br Bv B : Nat} {wM : World} {nc nf i : Nat} {vC vK : Value} {cs : List Int} {ks : List ByteArray} {a : Act} {w : World} (fr : FrG I X Br Bv nc nf i vC vK a) (hnc : nc ≤ 4096) (K : Act → World → Prop) (Q0 : Exit → Act → World → Prop)
    (hK : ∀ a', FrG I X Br Bv (nc + 1) nf i vC vK a' → K a' w) : (stm 1 (moB (Tryd.f3.body.getD .skip))).wp Tryd.prog (Exit.then K Q0) a w := by
  obtain ⟨f, rfl, hf⟩ := lit559 a fr.size fr.defers
  have e0 := (hf 0).symm.trans fr.s0
  have e1 := (hf 1).symm.trans fr.s1
  have e2 := (hf 2).symm.trans fr.s2
  have e3 := (hf 3).symm.trans fr.s3
  have e4 := (hf 4).symm.trans fr.s4
  have e5 := (hf 5).symm.trans fr.s5
  have e6 := (hf 6).symm.trans fr.s6
  have e7 := (hf 7).symm.trans fr.s7
  have e21 := (hf 21).symm.trans fr.s21
  have e26 := (hf 26).symm.trans fr.s26
  have e27 := (hf 27).symm.trans fr.s27
  have e30 := (hf 30).symm.trans fr.s30
  have e31 := (hf 31).symm.trans fr.s31
  have e32 := (hf 32).symm.trans fr.s32
  have e33 := (hf 33).symm.trans fr.s33
  have e34 := (hf 34).symm.trans fr.s34
  clear fr hf 
  simp only [e0, e1, e2, e3, e4, e5, e6, e7, e21, e26, e27, e30, e31, e32, e33, e34]
  clear e0 e1 e2 e3 e4 e5 e6 e7 e21 e26 e27 e30 e31 e32 e33 e34
  conv => arg 2; whnf
  go_wp2_with fail
  exact ⟨rfl, rfl, rfl, rfl, rfl, rfl, rfl, rfl, rfl, rfl, rfl, rfl, rfl, (by first | rfl | go_num), rfl, rfl, rfl, rfl⟩

set_option maxHeartbeats 2000000 in
set_option maxRecDepth 100000 in
theorem m2 {I : In} {X : Ar} {Br Bv B : Nat} {wM : World} {nc nf i : Nat} {vC vK : Value} {cs : List Int} {ks : List ByteArray} {a : Act} {w : World} (fr : FrG I X Br Bv nc nf i vC vK a) (hw : MW B wM cs ks vC vK w) (K : Act → World → Prop) (Q0 : Exit → Act → World → Prop)
    (hK : ∀ a', FrG I X Br Bv nc nf i vC vK a' → a'.tmps.getD 35 undef = .int .i64 ks.length → K a' w) : (stm 2 (moB (Tryd.f3.body.getD .skip))).wp Tryd.prog (Exit.then K Q0) a w := by
  obtain ⟨f, rfl, hf⟩ := lit559 a fr.size fr.defers
  have e0 := (hf 0).symm.trans fr.s0
  have e1 := (hf 1).symm.trans fr.s1
  have e2 := (hf 2).symm.trans fr.s2
  have e3 := (hf 3).symm.trans fr.s3
  have e4 := (hf 4).symm.trans fr.s4
  have e5 := (hf 5).symm.trans fr.s5
  have e6 := (hf 6).symm.trans fr.s6
  have e7 := (hf 7).symm.trans fr.s7
  have e21 := (hf 21).symm.trans fr.s21
  have e26 := (hf 26).symm.trans fr.s26
  have e27 := (hf 27).symm.trans fr.s27
  have e30 := (hf 30).symm.trans fr.s30
  have e31 := (hf 31).symm.trans fr.s31
  have e32 := (hf 32).symm.trans fr.s32
  have e33 := (hf 33).symm.trans fr.s33
  have e34 := (hf 34).symm.trans fr.s34
  clear fr hf 
  simp only [e0, e1, e2, e3, e4, e5, e6, e7, e21, e26, e27, e30, e31, e32, e33, e34]
  clear e0 e1 e2 e3 e4 e5 e6 e7 e21 e26 e27 e30 e31 e32 e33 e34
  obtain ⟨ao, cp, rfl⟩ := ownsRow_shape hw.rowK
  conv => arg 2; whnf
  go_wp2_with fail
  exact hK _ ⟨rfl, rfl, rfl, rfl, rfl, rfl, rfl, rfl, rfl, rfl, rfl, rfl, rfl, rfl, rfl, rfl, rfl, rfl⟩ rfl

set_option maxHeartbeats 2000000 in
set_option maxRecDepth 100000 in
theorem m3 {I : In} {X : Ar} {Br Bv B : Nat} {wM : World} {nc nf i : Nat} {vC vK : Value} {cs : List Int} {ks : List ByteArray} {a : Act} {w : World} (C : CtxM I X Br Bv B wM) (hi : i < I.n) (fr : FrG I X Br Bv nc nf i vC vK a) (hw : MW B wM cs ks vC vK w) {b : Int} (s35 : a.tmps.getD 35 undef = .int .i64 b) (K : Act → World → Prop) (Q0 : Exit → Act → World → Prop)
    (hK : ∀ a', FrG I X Br Bv nc nf i vC vK a' → a'.tmps.getD 35 undef = .int .i64 b → a'.tmps.getD 36 undef = .bool (placed I i) → K a' w) : (stm 3 (moB (Tryd.f3.body.getD .skip))).wp Tryd.prog (Exit.then K Q0) a w := by
  obtain ⟨f, rfl, hf⟩ := lit559 a fr.size fr.defers
  have e0 := (hf 0).symm.trans fr.s0
  have e1 := (hf 1).symm.trans fr.s1
  have e2 := (hf 2).symm.trans fr.s2
  have e3 := (hf 3).symm.trans fr.s3
  have e4 := (hf 4).symm.trans fr.s4
  have e5 := (hf 5).symm.trans fr.s5
  have e6 := (hf 6).symm.trans fr.s6
  have e7 := (hf 7).symm.trans fr.s7
  have e21 := (hf 21).symm.trans fr.s21
  have e26 := (hf 26).symm.trans fr.s26
  have e27 := (hf 27).symm.trans fr.s27
  have e30 := (hf 30).symm.trans fr.s30
  have e31 := (hf 31).symm.trans fr.s31
  have e32 := (hf 32).symm.trans fr.s32
  have e33 := (hf 33).symm.trans fr.s33
  have e34 := (hf 34).symm.trans fr.s34
  have e35 := (hf 35).symm.trans s35
  clear fr hf s35
  simp only [e0, e1, e2, e3, e4, e5, e6, e7, e21, e26, e27, e30, e31, e32, e33, e34, e35]
  clear e0 e1 e2 e3 e4 e5 e6 e7 e21 e26 e27 e30 e31 e32 e33 e34 e35
  have hn := C.F.n
  have hi' : (i : Int) < I.n := by omega
  have insw := C.ins.below (Nat.le_of_eq C.hB.symm) hw.below
  obtain ⟨ad1, ha1, hc1⟩ := insw.r1 (by omega)
  have hr1 : w.cell? (ad1.add i) = some (.bool (I.hasP i)) := hc1 i hi
  have hv : w.cell? ⟨Bv, i, none⟩ = some (.int .i64 (vld I i)) := (hw.below.cell (p := ⟨Bv, i, none⟩) C.hv).trans (C.val i hi)
  rw [ha1]
  cases hh : I.hasP i with
  | false =>
    rw [hh] at hr1
    have hp : placed I i = true := by simp [placed, hh]
    rw [hp] at hK
    clear insw hc1 hp hh
    conv => arg 2; whnf
    go_wp2_with fail
    exact hK _ ⟨rfl, rfl, rfl, by rw [ha1]; rfl, rfl, rfl, rfl, rfl, rfl, rfl, rfl, rfl, rfl, rfl, rfl, rfl, rfl, rfl⟩ rfl rfl
  | true =>
    rw [hh] at hr1
    cases hp : par I i with
    | none =>
      have hp' : placed I i = false := by simp [placed, hh, hp]
      have hvl : vld I i = -1 := by simp [vld, hp]
      rw [hp'] at hK
      rw [hvl] at hv
      clear insw hc1 hp hh hvl hp'
      conv => arg 2; whnf
      go_wp2_with fail
      exact hK _ ⟨rfl, rfl, rfl, by rw [ha1]; rfl, rfl, rfl, rfl, rfl, rfl, rfl, rfl, rfl, rfl, rfl, rfl, rfl, rfl, rfl⟩ rfl rfl
    | some j =>
      have hp' : placed I i = true := by simp [placed, hp]
      have hvl : vld I i = j := by simp [vld, hp]
      rw [hp'] at hK
      rw [hvl] at hv
      have hj0 : (0 : Int) ≤ (j : Int) := by omega
      clear insw hc1 hp hh hvl hp'
      conv => arg 2; whnf
      go_wp2_with fail
      exact hK _ ⟨rfl, rfl, rfl, by rw [ha1]; rfl, rfl, rfl, rfl, rfl, rfl, rfl, rfl, rfl, rfl, rfl, rfl, rfl, rfl, rfl⟩ rfl (by first | rfl | simp)

end Go.Proofs.Qxb6612928aDoor.H
