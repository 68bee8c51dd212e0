/-
  The law: the model's loop: a placed unit.
-/
import Derived.Test.Qxb6612928aDoorLg
namespace Go.Proofs.Qxb6612928aDoor.H
open Go.RowKit Go.Maps
set_option linter.unusedVariables false

def mo6 (c : Code) : Code := thn (sB (stm 6 (moB c)))

theorem ba_assoc (a b c : ByteArray) : a ++ b ++ c = a ++ (b ++ c) := by
  cases a; cases b; cases c
  first | exact ByteArray.append_assoc | (simp [ByteArray.append_assoc])

set_option maxHeartbeats 2000000 in
set_option maxRecDepth 100000 in
theorem q0 {I : In} {X : Ar} {Br Bv B : Nat} {wM : World} {nc nf i : Nat} {vC vK : Value} {cs : List Int} {ks : List ByteArray} {a : Act} {w : World} (C : CtxM I X Br Bv B wM) (hi : i < I.n) (fr : FrG I X Br Bv nc nf i vC vK a) (hw : MW B wM cs ks vC vK w) {b : Int} (s35 : a.tmps.getD 35 undef = .int .i64 b) (K : Act → World → Prop) (Q0 : Exit → Act → World → Prop)
    (hK : ∀ a' w', FrG I X Br Bv nc nf i vC vK a' → a'.tmps.getD 35 undef = .int .i64 b → a'.tmps.getD 37 undef = .string (dec (I.code i)) → MW B wM cs ks vC vK w' → K a' w') : (stm 0 (mo6 (Tryd.f3.body.getD .skip))).wp Tryd.prog (Exit.then K Q0) a w := by
  obtain ⟨f, rfl, hf⟩ := lit559 a fr.size fr.defers
  have e0 := (hf 0).symm.trans fr.s0
  have e1 := (hf 1).symm.trans fr.s1
  have e2 := (hf 2).symm.trans fr.s2
  have e3 := (hf 3).symm.trans fr.s3
  have e4 := (hf 4).symm.trans fr.s4
  have e5 := (hf 5).symm.trans fr.s5
  have e6 := (hf 6).symm.trans fr.s6
  have e7 := (hf 7).symm.trans fr.s7
  have e21 := (hf 21).symm.trans fr.s21
  have e26 := (hf 26).symm.trans fr.s26
  have e27 := (hf 27).symm.trans fr.s27
  have e30 := (hf 30).symm.trans fr.s30
  have e31 := (hf 31).symm.trans fr.s31
  have e32 := (hf 32).symm.trans fr.s32
  have e33 := (hf 33).symm.trans fr.s33
  have e34 := (hf 34).symm.trans fr.s34
  have e35 := (hf 35).symm.trans s35
  clear fr hf s35
  simp only [e0, e1, e2, e3, e4, e5, e6, e7, e21, e26, e27, e30, e31, e32, e33, e34, e35]
  clear e0 e1 e2 e3 e4 e5 e6 e7 e21 e26 e27 e30 e31 e32 e33 e34 e35
  have hn := C.F.n
  have hi' : (i : Int) < I.n := by omega
  have insw := C.ins.below (Nat.le_of_eq C.hB.symm) hw.below
  obtain ⟨ad0, ha0, hc0⟩ := insw.r0 (by omega)
  have hr0 : w.cell? (ad0.add i) = some (.int .i32 (I.code i)) := hc0 i hi
  have HC := itoa32 (I.code i) w (C.F.code i).1 (C.F.code i).2
  rw [ha0]
  conv => arg 2; whnf
  go_wp2_with fail
  refine HC.mono ?_
  rintro e w3 ⟨rfl, hb⟩
  have hw3 := hw.call hb
  clear HC insw hc0 hr0 hw
  go_wp2_with fail
  exact hK _ _ ⟨rfl, rfl, by rw [ha0]; rfl, rfl, rfl, rfl, rfl, rfl, rfl, rfl, rfl, rfl, rfl, rfl, rfl, rfl, rfl, rfl⟩ rfl rfl hw3

set_option maxHeartbeats 2000000 in
set_option maxRecDepth 100000 in
theorem q1 {I : In} {X : Ar} {Br Bv B : Nat} {wM : World} {nc nf i : Nat} {vC vK : Value} {cs : List Int} {ks : List ByteArray} {a : Act} {w : World} (C : CtxM I X Br Bv B wM) (hi : i < I.n) (fr : FrG I X Br Bv nc nf i vC vK a) (hw : MW B wM cs ks vC vK w) {b : Int} (s35 : a.tmps.getD 35 undef = .int .i64 b) (s37 : a.tmps.getD 37 undef = .string (dec (I.code i))) (Tl : Code) (Q : Exit → Act → World → Prop)
    (hK : ∀ a', FrG I X Br Bv nc nf i vC vK a' → a'.tmps.getD 35 undef = .int .i64 b → a'.tmps.getD 37 undef = .string (dec (I.code i)) → a'.tmps.getD 38 undef = .int .i64 1 → a'.tmps.getD 39 undef = .string (SL ++ dec (I.code i)) → a'.tmps.getD 40 undef = .string (SL ++ I.name i) → Tl.wp Tryd.prog Q a' w) :
    (Code.seq (stm 1 (mo6 (Tryd.f3.body.getD .skip))) (Code.seq (stm 2 (mo6 (Tryd.f3.body.getD .skip))) (Code.seq (stm 3 (mo6 (Tryd.f3.body.getD .skip))) Tl))).wp Tryd.prog Q a w := by
  obtain ⟨f, rfl, hf⟩ := lit559 a fr.size fr.defers
  have e0 := (hf 0).symm.trans fr.s0
  have e1 := (hf 1).symm.trans fr.s1
  have e2 := (hf 2).symm.trans fr.s2
  have e3 := (hf 3).symm.trans fr.s3
  have e4 := (hf 4).symm.trans fr.s4
  have e5 := (hf 5).symm.trans fr.s5
  have e6 := (hf 6).symm.trans fr.s6
  have e7 := (hf 7).symm.trans fr.s7
  have e21 := (hf 21).symm.trans fr.s21
  have e26 := (hf 26).symm.trans fr.s26
  have e27 := (hf 27).symm.trans fr.s27
  have e30 := (hf 30).symm.trans fr.s30
  have e31 := (hf 31).symm.trans fr.s31
  have e32 := (hf 32).symm.trans fr.s32
  have e33 := (hf 33).symm.trans fr.s33
  have e34 := (hf 34).symm.trans fr.s34
  have e35 := (hf 35).symm.trans s35
  have e37 := (hf 37).symm.trans s37
  clear fr hf s35 s37
  simp only [e0, e1, e2, e3, e4, e5, e6, e7, e21, e26, e27, e30, e31, e32, e33, e34, e35, e37]
  clear e0 e1 e2 e3 e4 e5 e6 e7 e21 e26 e27 e30 e31 e32 e33 e34 e35 e37
  have hn := C.F.n
  have hi' : (i : Int) < I.n := by omega
  have insw := C.ins.below (Nat.le_of_eq C.hB.symm) hw.below
  obtain ⟨ad3, ha3, hc3⟩ := insw.r3 (by omega)
  have hr3 : w.cell? (ad3.add i) = some (.string (I.name i)) := hc3 i hi
  have hds := dec_size (I.code i) (C.F.code i).1 (C.F.code i).2
  have hnm := C.F.name i
  generalize dec (I.code i) = D at *
  rw [ha3]
  clear insw hc3
  conv => arg 2; arg 1; whnf
  conv => arg 2; arg 2; arg 1; whnf
  conv => arg 2; arg 2; arg 2; arg 1; whnf
  go_wp2_with fail
  exact hK _ ⟨rfl, rfl, rfl, rfl, rfl, by rw [ha3]; rfl, rfl, rfl, rfl, rfl, rfl, rfl, rfl, rfl, rfl, rfl, rfl, rfl⟩ rfl rfl rfl rfl rfl

set_option maxHeartbeats 2000000 in
set_option maxRecDepth 100000 in
theorem q4 {I : In} {X : Ar} {Br Bv B : Nat} {wM : World} {nc nf i : Nat} {vC vK : Value} {cs : List Int} {ks : List ByteArray} {a : Act} {w : World} (C : CtxM I X Br Bv B wM) (hi : i < I.n) (fr : FrG I X Br Bv nc nf i vC vK a) (hw : MW B wM cs ks vC vK w) {b : Int} (s35 : a.tmps.getD 35 undef = .int .i64 b) (s37 : a.tmps.getD 37 undef = .string (dec (I.code i))) (s38 : a.tmps.getD 38 undef = .int .i64 1) (s39 : a.tmps.getD 39 undef = .string (SL ++ dec (I.code i))) (s40 : a.tmps.getD 40 undef = .string (SL ++ I.name i)) (K : Act → World → Prop) (Q0 : Exit → Act → World → Prop)
    (hK : ∀ a' w', FrG I X Br Bv nc nf i vC vK a' → a'.tmps.getD 35 undef = .int .i64 b → a'.tmps.getD 38 undef = .int .i64 (wantL I i) → a'.tmps.getD 39 undef = .string (wantC I i) → a'.tmps.getD 40 undef = .string (wantN I i) → MW B wM cs ks vC vK w' → K a' w') : (stm 4 (mo6 (Tryd.f3.body.getD .skip))).wp Tryd.prog (Exit.then K Q0) a w := by
  obtain ⟨f, rfl, hf⟩ := lit559 a fr.size fr.defers
  have e0 := (hf 0).symm.trans fr.s0
  have e1 := (hf 1).symm.trans fr.s1
  have e2 := (hf 2).symm.trans fr.s2
  have e3 := (hf 3).symm.trans fr.s3
  have e4 := (hf 4).symm.trans fr.s4
  have e5 := (hf 5).symm.trans fr.s5
  have e6 := (hf 6).symm.trans fr.s6
  have e7 := (hf 7).symm.trans fr.s7
  have e21 := (hf 21).symm.trans fr.s21
  have e26 := (hf 26).symm.trans fr.s26
  have e27 := (hf 27).symm.trans fr.s27
  have e30 := (hf 30).symm.trans fr.s30
  have e31 := (hf 31).symm.trans fr.s31
  have e32 := (hf 32).symm.trans fr.s32
  have e33 := (hf 33).symm.trans fr.s33
  have e34 := (hf 34).symm.trans fr.s34
  have e35 := (hf 35).symm.trans s35
  have e37 := (hf 37).symm.trans s37
  have e38 := (hf 38).symm.trans s38
  have e39 := (hf 39).symm.trans s39
  have e40 := (hf 40).symm.trans s40
  clear fr hf s35 s37 s38 s39 s40
  simp only [e0, e1, e2, e3, e4, e5, e6, e7, e21, e26, e27, e30, e31, e32, e33, e34, e35, e37, e38, e39, e40]
  clear e0 e1 e2 e3 e4 e5 e6 e7 e21 e26 e27 e30 e31 e32 e33 e34 e35 e37 e38 e39 e40
  have hn := C.F.n
  have hi' : (i : Int) < I.n := by omega
  have insw := C.ins.below (Nat.le_of_eq C.hB.symm) hw.below
  obtain ⟨ad3, ha3, hc3⟩ := insw.r3 (by omega)
  have hr3 : w.cell? (ad3.add i) = some (.string (I.name i)) := hc3 i hi
  have hds := dec_size (I.code i) (C.F.code i).1 (C.F.code i).2
  have hnm := C.F.name i
  have hv : w.cell? ⟨Bv, i, none⟩ = some (.int .i64 (vld I i)) := (hw.below.cell (p := ⟨Bv, i, none⟩) C.hv).trans (C.val i hi)
  rw [ha3]
  cases hp : par I i with
  | none =>
    have hvl : vld I i = -1 := by simp [vld, hp]
    rw [hvl] at hv
    have e1 : wantL I i = 1 := by simp [wantL, hp]
    have e2 : wantC I i = SL ++ dec (I.code i) := by simp [wantC, hp]
    have e3 : wantN I i = SL ++ I.name i := by simp [wantN, hp]
    rw [e1, e2, e3] at hK
    generalize SL ++ dec (I.code i) = D1 at *
    generalize SL ++ I.name i = D2 at *
    clear e1 e2 e3 hvl hp insw hc3 hds
    conv => arg 2; whnf
    go_wp2_with fail
    exact hK _ _ ⟨rfl, rfl, rfl, rfl, rfl, by rw [ha3]; rfl, rfl, rfl, rfl, rfl, rfl, rfl, rfl, rfl, rfl, rfl, rfl, rfl⟩ rfl rfl rfl rfl hw
  | some j =>
    have hj := par_lt hp
    have hj' : (j : Int) < I.n := by omega
    have hj0 : (0 : Int) ≤ (j : Int) := by omega
    have hvl : vld I i = j := by simp [vld, hp]
    rw [hvl] at hv
    have e1 : wantL I i = IntKind.i64.wrap (I.lvl j + 1) := by simp [wantL, hp]
    have e2 : wantC I i = I.cp j ++ SL ++ dec (I.code i) := by simp only [wantC, hp]; rw [ba_assoc]
    have e3 : wantN I i = I.np j ++ SL ++ I.name i := by simp only [wantN, hp]; rw [ba_assoc]
    rw [e1, e2, e3] at hK
    obtain ⟨ad4, ha4, hc4⟩ := insw.r4 (by omega)
    obtain ⟨ad5, ha5, hc5⟩ := insw.r5 (by omega)
    obtain ⟨ad6, ha6, hc6⟩ := insw.r6 (by omega)
    have hr4 : w.cell? (ad4.add j) = some (.int .i64 (I.lvl j)) := hc4 j hj
    have hr5 : w.cell? (ad5.add j) = some (.string (I.cp j)) := hc5 j hj
    have hr6 : w.cell? (ad6.add j) = some (.string (I.np j)) := hc6 j hj
    have hcp := C.F.cp j
    have hnp := C.F.np j
    have hz1 : (I.cp j ++ SL).size = (I.cp j).size + 1 := by rw [ByteArray.size_append]; rfl
    have hz2 : (I.np j ++ SL).size = (I.np j).size + 1 := by rw [ByteArray.size_append]; rfl
    have hl1 := (C.F.lvl j).1
    have hl2 := (C.F.lvl j).2
    rw [ha4, ha5, ha6]
    clear e1 e2 e3 hvl hp insw hc3 hc4 hc5 hc6
    conv => arg 2; whnf
    go_wp2_with fail
    go_quiet (fail)
    go_wp2_with fail
    exact hK _ _ ⟨rfl, rfl, rfl, rfl, rfl, by rw [ha3]; rfl, by rw [ha4]; rfl, by rw [ha5]; rfl, by rw [ha6]; rfl, rfl, rfl, rfl, rfl, rfl, rfl, rfl, rfl, rfl⟩ rfl (by first | rfl | (rw [← wrap_left]; rfl) | (rw [wrap_left]; rfl)) rfl rfl (hw.drewN nq)

set_option maxHeartbeats 2000000 in
set_option maxRecDepth 100000 in
theorem q5 {I : In} {X : Ar} {Br Bv B : Nat} {wM : World} {nc nf i : Nat} {vC vK : Value} {cs : List Int} {ks : List ByteArray} {a : Act} {w : World} (C : CtxM I X Br Bv B wM) (hi : i < I.n) (fr : FrG I X Br Bv nc nf i vC vK a) (hw : MW B wM cs ks vC vK w) (hlc : cs.length ≤ 30000) (hlk : ks.length ≤ 30000) {b : Int} (s35 : a.tmps.getD 35 undef = .int .i64 b) (s38 : a.tmps.getD 38 undef = .int .i64 (wantL I i)) (s39 : a.tmps.getD 39 undef = .string (wantC I i)) (s40 : a.tmps.getD 40 undef = .string (wantN I i)) (K : Act → World → Prop) (Q0 : Exit → Act → World → Prop)
    (hK : ∀ a' w' vC' vK', FrG I X Br Bv nc nf i vC' vK' a' → a'.tmps.getD 35 undef = .int .i64 b → a'.tmps.getD 39 undef = .string (wantC I i) → a'.tmps.getD 40 undef = .string (wantN I i) → MW B wM (cs ++ if badL I i then [I.code i] else []) (ks ++ if badL I i then [LEVL] else []) vC' vK' w' → K a' w') : (stm 5 (mo6 (Tryd.f3.body.getD .skip))).wp Tryd.prog (Exit.then K Q0) a w := by
  obtain ⟨f, rfl, hf⟩ := lit559 a fr.size fr.defers
  have e0 := (hf 0).symm.trans fr.s0
  have e1 := (hf 1).symm.trans fr.s1
  have e2 := (hf 2).symm.trans fr.s2
  have e3 := (hf 3).symm.trans fr.s3
  have e4 := (hf 4).symm.trans fr.s4
  have e5 := (hf 5).symm.trans fr.s5
  have e6 := (hf 6).symm.trans fr.s6
  have e7 := (hf 7).symm.trans fr.s7
  have e21 := (hf 21).symm.trans fr.s21
  have e26 := (hf 26).symm.trans fr.s26
  have e27 := (hf 27).symm.trans fr.s27
  have e30 := (hf 30).symm.trans fr.s30
  have e31 := (hf 31).symm.trans fr.s31
  have e32 := (hf 32).symm.trans fr.s32
  have e33 := (hf 33).symm.trans fr.s33
  have e34 := (hf 34).symm.trans fr.s34
  have e35 := (hf 35).symm.trans s35
  have e38 := (hf 38).symm.trans s38
  have e39 := (hf 39).symm.trans s39
  have e40 := (hf 40).symm.trans s40
  clear fr hf s35 s38 s39 s40
  simp only [e0, e1, e2, e3, e4, e5, e6, e7, e21, e26, e27, e30, e31, e32, e33, e34, e35, e38, e39, e40]
  clear e0 e1 e2 e3 e4 e5 e6 e7 e21 e26 e27 e30 e31 e32 e33 e34 e35 e38 e39 e40
  have hn := C.F.n
  have hi' : (i : Int) < I.n := by omega
  have insw := C.ins.below (Nat.le_of_eq C.hB.symm) hw.below
  obtain ⟨ad0, ha0, hc0⟩ := insw.r0 (by omega)
  have hr0 : w.cell? (ad0.add i) = some (.int .i32 (I.code i)) := hc0 i hi
  obtain ⟨ad4, ha4, hc4⟩ := insw.r4 (by omega)
  have hr4 : w.cell? (ad4.add i) = some (.int .i64 (I.lvl i)) := hc4 i hi
  rw [ha0, ha4]
  by_cases hb : I.lvl i = wantL I i
  · have hcond : badL I i = false := by simp [badL, hb]
    have HK : ∀ a' w', FrG I X Br Bv nc nf i vC vK a' → a'.tmps.getD 35 undef = .int .i64 b → a'.tmps.getD 39 undef = .string (wantC I i) → a'.tmps.getD 40 undef = .string (wantN I i) → MW B wM cs ks vC vK w' → K a' w' := fun a' w' x0 x1 x2 x3 x4 => hK a' w' vC vK x0 x1 x2 x3 (by rw [hcond]; simpa using x4)
    clear hK insw hc0 hc4 hcond
    generalize wantL I i = wl at *
    conv => arg 2; whnf
    go_wp2_with fail
    exact HK _ _ ⟨rfl, rfl, by rw [ha0]; rfl, rfl, rfl, rfl, by rw [ha4]; rfl, rfl, rfl, rfl, rfl, rfl, rfl, rfl, rfl, rfl, rfl, rfl⟩ rfl rfl rfl hw
  · have hcond : badL I i = true := by simp [badL, hb]
    have HK : ∀ a' w' vC' vK', FrG I X Br Bv nc nf i vC' vK' a' → a'.tmps.getD 35 undef = .int .i64 b → a'.tmps.getD 39 undef = .string (wantC I i) → a'.tmps.getD 40 undef = .string (wantN I i) → MW B wM (cs ++ [I.code i]) (ks ++ [LEVL]) vC' vK' w' → K a' w' := fun a' w' vC' vK' x0 x1 x2 x3 x4 => hK a' w' vC' vK' x0 x1 x2 x3 (by rw [hcond]; simpa using x4)
    obtain ⟨i0, hi0, hz0, hz1, hz2⟩ := info_parts info21
    obtain ⟨i1, hi1, hy0, hy1, hy2⟩ := info_parts info47
    have hone0 : ∀ x ∈ [Value.int .i32 (I.code i)], x.oneCell' = true := by intro x hx; simp at hx; subst hx; rfl
    have hone1 : ∀ x ∈ [Value.string LEVL], x.oneCell' = true := by intro x hx; simp at hx; subst hx; rfl
    have hq1 : cs.length + 1 ≤ maxLen := by unfold maxLen; omega
    have hq2 : (cs.length + 1) * 4 ≤ 140737488355328 := by omega
    have hq3 : ks.length + 1 ≤ maxLen := by unfold maxLen; omega
    have hq4 : (ks.length + 1) * 16 ≤ 140737488355328 := by omega
    have hrow1 := (hw).rowC.alloc (.cells #[.int .i32 (I.code i)] 21)
    have hBle := (hw).le
    clear hK insw hc0 hc4 hcond
    generalize wantL I i = wl at *
    conv => arg 2; whnf
    go_wp2_with (at_builtin; refine wpList_append_own_at _ rfl _ _ 22 rfl B 21 i0 (.int .i32 0) 1 4 Tryd.underlying22 hi0 hz0 hz1 hz2 rfl (by decide) vC cs.length (cs.map (Value.int .i32)) rfl hrow1 ⟨w.heap.size, 0, none⟩ 1 1 [.int .i32 (I.code i)] rfl rfl (cell_one_new _ _ _) hone0 hq1 hq2 (by simp; omega) ?_)
    intro v1 w1 hr hg hnn hl
    have hw1 := ((hw).alloc (.cells #[.int .i32 (I.code i)] 21)).pushC (c := I.code i) hr hg (by simpa using hl)
    have hrow2 := hw1.rowK.alloc (.cells #[.string LEVL] 47)
    have hBle1 := hw1.le
    clear hr hg hnn hl
    go_wp2_with (at_builtin; refine wpList_append_own_at _ rfl _ _ 46 rfl B 47 i1 (.string { data := #[] }) 1 16 Tryd.underlying46 hi1 hy0 hy1 hy2 rfl (by decide) vK ks.length (ks.map Value.string) rfl hrow2 ⟨w1.heap.size, 0, none⟩ 1 1 [.string LEVL] rfl rfl (cell_one_new _ _ _) hone1 hq3 hq4 (by simp; omega) ?_)
    intro v2 w2 hr hg hnn hl
    have hw2 := (hw1.alloc (.cells #[.string LEVL] 47)).pushK (x := LEVL) hr hg (by simpa using hl)
    clear hr hg hnn hl
    go_wp2_with fail
    exact HK _ _ _ _ ⟨rfl, rfl, by rw [ha0]; rfl, rfl, rfl, rfl, by rw [ha4]; rfl, rfl, rfl, rfl, rfl, rfl, rfl, rfl, rfl, rfl, rfl, rfl⟩ rfl rfl rfl hw2

set_option maxHeartbeats 2000000 in
set_option maxRecDepth 100000 in
theorem q6 {I : In} {X : Ar} {Br Bv B : Nat} {wM : World} {nc nf i : Nat} {vC vK : Value} {cs : List Int} {ks : List ByteArray} {a : Act} {w : World} (C : CtxM I X Br Bv B wM) (hi : i < I.n) (fr : FrG I X Br Bv nc nf i vC vK a) (hw : MW B wM cs ks vC vK w) (hlc : cs.length ≤ 30000) (hlk : ks.length ≤ 30000) {b : Int} (s35 : a.tmps.getD 35 undef = .int .i64 b) (s39 : a.tmps.getD 39 undef = .string (wantC I i)) (s40 : a.tmps.getD 40 undef = .string (wantN I i)) (K : Act → World → Prop) (Q0 : Exit → Act → World → Prop)
    (hK : ∀ a' w' vC' vK', FrG I X Br Bv nc nf i vC' vK' a' → a'.tmps.getD 35 undef = .int .i64 b → MW B wM (cs ++ if badP I i then [I.code i] else []) (ks ++ if badP I i then [PATH] else []) vC' vK' w' → K a' w') : (rest 6 (mo6 (Tryd.f3.body.getD .skip))).wp Tryd.prog (Exit.then K Q0) a w := by
  obtain ⟨f, rfl, hf⟩ := lit559 a fr.size fr.defers
  have e0 := (hf 0).symm.trans fr.s0
  have e1 := (hf 1).symm.trans fr.s1
  have e2 := (hf 2).symm.trans fr.s2
  have e3 := (hf 3).symm.trans fr.s3
  have e4 := (hf 4).symm.trans fr.s4
  have e5 := (hf 5).symm.trans fr.s5
  have e6 := (hf 6).symm.trans fr.s6
  have e7 := (hf 7).symm.trans fr.s7
  have e21 := (hf 21).symm.trans fr.s21
  have e26 := (hf 26).symm.trans fr.s26
  have e27 := (hf 27).symm.trans fr.s27
  have e30 := (hf 30).symm.trans fr.s30
  have e31 := (hf 31).symm.trans fr.s31
  have e32 := (hf 32).symm.trans fr.s32
  have e33 := (hf 33).symm.trans fr.s33
  have e34 := (hf 34).symm.trans fr.s34
  have e35 := (hf 35).symm.trans s35
  have e39 := (hf 39).symm.trans s39
  have e40 := (hf 40).symm.trans s40
  clear fr hf s35 s39 s40
  simp only [e0, e1, e2, e3, e4, e5, e6, e7, e21, e26, e27, e30, e31, e32, e33, e34, e35, e39, e40]
  clear e0 e1 e2 e3 e4 e5 e6 e7 e21 e26 e27 e30 e31 e32 e33 e34 e35 e39 e40
  have hn := C.F.n
  have hi' : (i : Int) < I.n := by omega
  have insw := C.ins.below (Nat.le_of_eq C.hB.symm) hw.below
  obtain ⟨ad0, ha0, hc0⟩ := insw.r0 (by omega)
  have hr0 : w.cell? (ad0.add i) = some (.int .i32 (I.code i)) := hc0 i hi
  obtain ⟨ad5, ha5, hc5⟩ := insw.r5 (by omega)
  have hr5 : w.cell? (ad5.add i) = some (.string (I.cp i)) := hc5 i hi
  obtain ⟨ad6, ha6, hc6⟩ := insw.r6 (by omega)
  have hr6 : w.cell? (ad6.add i) = some (.string (I.np i)) := hc6 i hi
  rw [ha0, ha5, ha6]
  cases hA : ((I.cp i).toList != (wantC I i).toList) with
  | true =>
    have hA1 : ((I.cp i).toList == (wantC I i).toList) = false := by simpa only [bne, Bool.not_eq_true'] using hA
    have hA2 : (!((I.cp i).toList == (wantC I i).toList)) = true := by rw [hA1]; rfl
    have hcond : badP I i = true := by simp only [badP, hA, Bool.true_or]
    have HK : ∀ a' w' vC' vK', FrG I X Br Bv nc nf i vC' vK' a' → a'.tmps.getD 35 undef = .int .i64 b → MW B wM (cs ++ [I.code i]) (ks ++ [PATH]) vC' vK' w' → K a' w' := fun a' w' vC' vK' x0 x1 x2 => hK a' w' vC' vK' x0 x1 (by rw [hcond]; simpa using x2)
    obtain ⟨i0, hi0, hz0, hz1, hz2⟩ := info_parts info21
    obtain ⟨i1, hi1, hy0, hy1, hy2⟩ := info_parts info47
    have hone0 : ∀ x ∈ [Value.int .i32 (I.code i)], x.oneCell' = true := by intro x hx; simp at hx; subst hx; rfl
    have hone1 : ∀ x ∈ [Value.string PATH], x.oneCell' = true := by intro x hx; simp at hx; subst hx; rfl
    have hq1 : cs.length + 1 ≤ maxLen := by unfold maxLen; omega
    have hq2 : (cs.length + 1) * 4 ≤ 140737488355328 := by omega
    have hq3 : ks.length + 1 ≤ maxLen := by unfold maxLen; omega
    have hq4 : (ks.length + 1) * 16 ≤ 140737488355328 := by omega
    have hrow1 := (hw).rowC.alloc (.cells #[.int .i32 (I.code i)] 21)
    have hBle := (hw).le
    clear hK insw hc0 hc5 hc6 hcond
    conv => arg 2; whnf
    go_wp2_with (at_builtin; refine wpList_append_own_at _ rfl _ _ 22 rfl B 21 i0 (.int .i32 0) 1 4 Tryd.underlying22 hi0 hz0 hz1 hz2 rfl (by decide) vC cs.length (cs.map (Value.int .i32)) rfl hrow1 ⟨w.heap.size, 0, none⟩ 1 1 [.int .i32 (I.code i)] rfl rfl (cell_one_new _ _ _) hone0 hq1 hq2 (by simp; omega) ?_)
    intro v1 w1 hr hg hnn hl
    have hw1 := ((hw).alloc (.cells #[.int .i32 (I.code i)] 21)).pushC (c := I.code i) hr hg (by simpa using hl)
    have hrow2 := hw1.rowK.alloc (.cells #[.string PATH] 47)
    have hBle1 := hw1.le
    clear hr hg hnn hl
    go_wp2_with (at_builtin; refine wpList_append_own_at _ rfl _ _ 46 rfl B 47 i1 (.string { data := #[] }) 1 16 Tryd.underlying46 hi1 hy0 hy1 hy2 rfl (by decide) vK ks.length (ks.map Value.string) rfl hrow2 ⟨w1.heap.size, 0, none⟩ 1 1 [.string PATH] rfl rfl (cell_one_new _ _ _) hone1 hq3 hq4 (by simp; omega) ?_)
    intro v2 w2 hr hg hnn hl
    have hw2 := (hw1.alloc (.cells #[.string PATH] 47)).pushK (x := PATH) hr hg (by simpa using hl)
    clear hr hg hnn hl
    go_wp2_with fail
    exact HK _ _ _ _ ⟨rfl, rfl, by rw [ha0]; rfl, rfl, rfl, rfl, rfl, by rw [ha5]; rfl, by rw [ha6]; rfl, rfl, rfl, rfl, rfl, rfl, rfl, rfl, rfl, rfl⟩ rfl hw2
  | false =>
    have hA1 : ((I.cp i).toList == (wantC I i).toList) = true := by simpa only [bne, Bool.not_eq_false'] using hA
    have hA2 : (!((I.cp i).toList == (wantC I i).toList)) = false := by rw [hA1]; rfl
    cases hB : ((I.np i).toList != (wantN I i).toList) with
    | true =>
      have hB1 : ((I.np i).toList == (wantN I i).toList) = false := by simpa only [bne, Bool.not_eq_true'] using hB
      have hB2 : (!((I.np i).toList == (wantN I i).toList)) = true := by rw [hB1]; rfl
      have hcond : badP I i = true := by simp only [badP, hA, hB, Bool.or_true]
      have HK : ∀ a' w' vC' vK', FrG I X Br Bv nc nf i vC' vK' a' → a'.tmps.getD 35 undef = .int .i64 b → MW B wM (cs ++ [I.code i]) (ks ++ [PATH]) vC' vK' w' → K a' w' := fun a' w' vC' vK' x0 x1 x2 => hK a' w' vC' vK' x0 x1 (by rw [hcond]; simpa using x2)
      obtain ⟨i0, hi0, hz0, hz1, hz2⟩ := info_parts info21
      obtain ⟨i1, hi1, hy0, hy1, hy2⟩ := info_parts info47
      have hone0 : ∀ x ∈ [Value.int .i32 (I.code i)], x.oneCell' = true := by intro x hx; simp at hx; subst hx; rfl
      have hone1 : ∀ x ∈ [Value.string PATH], x.oneCell' = true := by intro x hx; simp at hx; subst hx; rfl
      have hq1 : cs.length + 1 ≤ maxLen := by unfold maxLen; omega
      have hq2 : (cs.length + 1) * 4 ≤ 140737488355328 := by omega
      have hq3 : ks.length + 1 ≤ maxLen := by unfold maxLen; omega
      have hq4 : (ks.length + 1) * 16 ≤ 140737488355328 := by omega
      have hrow1 := (hw).rowC.alloc (.cells #[.int .i32 (I.code i)] 21)
      have hBle := (hw).le
      clear hK insw hc0 hc5 hc6 hcond
      conv => arg 2; whnf
      go_wp2_with (at_builtin; refine wpList_append_own_at _ rfl _ _ 22 rfl B 21 i0 (.int .i32 0) 1 4 Tryd.underlying22 hi0 hz0 hz1 hz2 rfl (by decide) vC cs.length (cs.map (Value.int .i32)) rfl hrow1 ⟨w.heap.size, 0, none⟩ 1 1 [.int .i32 (I.code i)] rfl rfl (cell_one_new _ _ _) hone0 hq1 hq2 (by simp; omega) ?_)
      intro v1 w1 hr hg hnn hl
      have hw1 := ((hw).alloc (.cells #[.int .i32 (I.code i)] 21)).pushC (c := I.code i) hr hg (by simpa using hl)
      have hrow2 := hw1.rowK.alloc (.cells #[.string PATH] 47)
      have hBle1 := hw1.le
      clear hr hg hnn hl
      go_wp2_with (at_builtin; refine wpList_append_own_at _ rfl _ _ 46 rfl B 47 i1 (.string { data := #[] }) 1 16 Tryd.underlying46 hi1 hy0 hy1 hy2 rfl (by decide) vK ks.length (ks.map Value.string) rfl hrow2 ⟨w1.heap.size, 0, none⟩ 1 1 [.string PATH] rfl rfl (cell_one_new _ _ _) hone1 hq3 hq4 (by simp; omega) ?_)
      intro v2 w2 hr hg hnn hl
      have hw2 := (hw1.alloc (.cells #[.string PATH] 47)).pushK (x := PATH) hr hg (by simpa using hl)
      clear hr hg hnn hl
      go_wp2_with fail
      exact HK _ _ _ _ ⟨rfl, rfl, by rw [ha0]; rfl, rfl, rfl, rfl, rfl, by rw [ha5]; rfl, by rw [ha6]; rfl, rfl, rfl, rfl, rfl, rfl, rfl, rfl, rfl, rfl⟩ rfl hw2
    | false =>
      have hB1 : ((I.np i).toList == (wantN I i).toList) = true := by simpa only [bne, Bool.not_eq_false'] using hB
      have hB2 : (!((I.np i).toList == (wantN I i).toList)) = false := by rw [hB1]; rfl
      have hcond : badP I i = false := by simp only [badP, hA, hB, Bool.or_false]
      have HK : ∀ a' w', FrG I X Br Bv nc nf i vC vK a' → a'.tmps.getD 35 undef = .int .i64 b → MW B wM cs ks vC vK w' → K a' w' := fun a' w' x0 x1 x2 => hK a' w' vC vK x0 x1 (by rw [hcond]; simpa using x2)
      clear hK insw hc0 hc5 hc6 hcond
      conv => arg 2; whnf
      go_wp2_with fail
      exact HK _ _ ⟨rfl, rfl, by rw [ha0]; rfl, rfl, rfl, rfl, rfl, by rw [ha5]; rfl, by rw [ha6]; rfl, rfl, rfl, rfl, rfl, rfl, rfl, rfl, rfl, rfl⟩ rfl hw

set_option maxHeartbeats 2000000 in
set_option maxRecDepth 100000 in
theorem m6n {I : In} {X : Ar} {Br Bv B : Nat} {wM : World} {nc nf i : Nat} {vC vK : Value} {cs : List Int} {ks : List ByteArray} {a : Act} {w : World} (fr : FrG I X Br Bv nc nf i vC vK a) (hw : MW B wM cs ks vC vK w) {b : Int} (s35 : a.tmps.getD 35 undef = .int .i64 b) (s36 : a.tmps.getD 36 undef = .bool false) (K : Act → World → Prop) (Q0 : Exit → Act → World → Prop)
    (hK : ∀ a', FrG I X Br Bv nc nf i vC vK a' → a'.tmps.getD 35 undef = .int .i64 b → K a' w) : (stm 6 (moB (Tryd.f3.body.getD .skip))).wp Tryd.prog (Exit.then K Q0) a w := by
  obtain ⟨f, rfl, hf⟩ := lit559 a fr.size fr.defers
  have e0 := (hf 0).symm.trans fr.s0
  have e1 := (hf 1).symm.trans fr.s1
  have e2 := (hf 2).symm.trans fr.s2
  have e3 := (hf 3).symm.trans fr.s3
  have e4 := (hf 4).symm.trans fr.s4
  have e5 := (hf 5).symm.trans fr.s5
  have e6 := (hf 6).symm.trans fr.s6
  have e7 := (hf 7).symm.trans fr.s7
  have e21 := (hf 21).symm.trans fr.s21
  have e26 := (hf 26).symm.trans fr.s26
  have e27 := (hf 27).symm.trans fr.s27
  have e30 := (hf 30).symm.trans fr.s30
  have e31 := (hf 31).symm.trans fr.s31
  have e32 := (hf 32).symm.trans fr.s32
  have e33 := (hf 33).symm.trans fr.s33
  have e34 := (hf 34).symm.trans fr.s34
  have e35 := (hf 35).symm.trans s35
  have e36 := (hf 36).symm.trans s36
  clear fr hf s35 s36
  simp only [e0, e1, e2, e3, e4, e5, e6, e7, e21, e26, e27, e30, e31, e32, e33, e34, e35, e36]
  clear e0 e1 e2 e3 e4 e5 e6 e7 e21 e26 e27 e30 e31 e32 e33 e34 e35 e36
  clear hw
  conv => arg 2; whnf
  go_wp2_with fail
  exact hK _ ⟨rfl, rfl, rfl, rfl, rfl, rfl, rfl, rfl, rfl, rfl, rfl, rfl, rfl, rfl, rfl, rfl, rfl, rfl⟩ rfl

set_option maxHeartbeats 2000000 in
set_option maxRecDepth 100000 in
theorem m6h {I : In} {X : Ar} {Br Bv B : Nat} {wM : World} {nc nf i : Nat} {vC vK : Value} {cs : List Int} {ks : List ByteArray} {a : Act} {w : World} (fr : FrG I X Br Bv nc nf i vC vK a) {b : Int} (s35 : a.tmps.getD 35 undef = .int .i64 b) (s36 : a.tmps.getD 36 undef = .bool true) (Q : Exit → Act → World → Prop) (hK : ∀ a', FrG I X Br Bv nc nf i vC vK a' → a'.tmps.getD 35 undef = .int .i64 b → (mo6 (Tryd.f3.body.getD .skip)).wp Tryd.prog Q a' w) :
    (stm 6 (moB (Tryd.f3.body.getD .skip))).wp Tryd.prog Q a w := by
  obtain ⟨f, rfl, hf⟩ := lit559 a fr.size fr.defers
  have e0 := (hf 0).symm.trans fr.s0
  have e1 := (hf 1).symm.trans fr.s1
  have e2 := (hf 2).symm.trans fr.s2
  have e3 := (hf 3).symm.trans fr.s3
  have e4 := (hf 4).symm.trans fr.s4
  have e5 := (hf 5).symm.trans fr.s5
  have e6 := (hf 6).symm.trans fr.s6
  have e7 := (hf 7).symm.trans fr.s7
  have e21 := (hf 21).symm.trans fr.s21
  have e26 := (hf 26).symm.trans fr.s26
  have e27 := (hf 27).symm.trans fr.s27
  have e30 := (hf 30).symm.trans fr.s30
  have e31 := (hf 31).symm.trans fr.s31
  have e32 := (hf 32).symm.trans fr.s32
  have e33 := (hf 33).symm.trans fr.s33
  have e34 := (hf 34).symm.trans fr.s34
  have e35 := (hf 35).symm.trans s35
  have e36 := (hf 36).symm.trans s36
  clear fr hf s35 s36
  simp only [e0, e1, e2, e3, e4, e5, e6, e7, e21, e26, e27, e30, e31, e32, e33, e34, e35, e36]
  clear e0 e1 e2 e3 e4 e5 e6 e7 e21 e26 e27 e30 e31 e32 e33 e34 e35 e36
  have hcode : stm 6 (moB (Tryd.f3.body.getD .skip)) = .seq (sA (stm 6 (moB (Tryd.f3.body.getD .skip)))) (.cond (.tmp 406) (mo6 (Tryd.f3.body.getD .skip)) .skip) := by rfl
  rw [hcode]
  clear hcode
  generalize (mo6 (Tryd.f3.body.getD .skip)) = TT at *
  conv => arg 2; arg 1; whnf
  go_wp2_with fail
  exact hK _ ⟨rfl, rfl, rfl, rfl, rfl, rfl, rfl, rfl, rfl, rfl, rfl, rfl, rfl, rfl, rfl, rfl, rfl, rfl⟩ rfl

theorem m6 {I : In} {X : Ar} {Br Bv B : Nat} {wM : World} {nc nf i : Nat} {vC vK : Value} {cs : List Int} {ks : List ByteArray} {a : Act} {w : World} (C : CtxM I X Br Bv B wM) (hi : i < I.n) (fr : FrG I X Br Bv nc nf i vC vK a) (hw : MW B wM cs ks vC vK w) (hlc : cs.length ≤ 29000) (hlk : ks.length ≤ 29000) {b : Int} (s35 : a.tmps.getD 35 undef = .int .i64 b) (s36 : a.tmps.getD 36 undef = .bool true) (K : Act → World → Prop) (Q0 : Exit → Act → World → Prop)
    (hK : ∀ a' w' vC' vK', FrG I X Br Bv nc nf i vC' vK' a' → a'.tmps.getD 35 undef = .int .i64 b → MW B wM ((cs ++ if badL I i then [I.code i] else []) ++ if badP I i then [I.code i] else []) ((ks ++ if badL I i then [LEVL] else []) ++ if badP I i then [PATH] else []) vC' vK' w' → K a' w') : (stm 6 (moB (Tryd.f3.body.getD .skip))).wp Tryd.prog (Exit.then K Q0) a w := by
  refine m6h (B := B) (wM := wM) (cs := cs) (ks := ks) fr s35 s36 _ ?_
  intro a1 fr s35
  have hcode : (mo6 (Tryd.f3.body.getD .skip)) = .seq (stm 0 (mo6 (Tryd.f3.body.getD .skip))) (.seq (stm 1 (mo6 (Tryd.f3.body.getD .skip))) (.seq (stm 2 (mo6 (Tryd.f3.body.getD .skip))) (.seq (stm 3 (mo6 (Tryd.f3.body.getD .skip))) (.seq (stm 4 (mo6 (Tryd.f3.body.getD .skip))) (.seq (stm 5 (mo6 (Tryd.f3.body.getD .skip))) (rest 6 (mo6 (Tryd.f3.body.getD .skip)))))))) := by rfl
  rw [hcode]
  clear hcode
  refine wp_seq' (q0 C hi fr hw s35 _ _ ?_)
  intro a2 w2 fr s35 s37 hw
  refine q1 C hi fr hw s35 s37 _ _ ?_
  intro a3 fr s35 s37 s38 s39 s40
  refine wp_seq' (q4 C hi fr hw s35 s37 s38 s39 s40 _ _ ?_)
  intro a4 w4 fr s35 s38 s39 s40 hw
  refine wp_seq' (q5 C hi fr hw (by omega) (by omega) s35 s38 s39 s40 _ _ ?_)
  intro a5 w5 vC5 vK5 fr s35 s39 s40 hw
  have l1 := len_if (badL I i) (I.code i)
  have l2 := len_if (badL I i) LEVL
  refine q6 C hi fr hw (by rw [List.length_append]; omega) (by rw [List.length_append]; omega) s35 s39 s40 K Q0 ?_
  exact hK

end Go.Proofs.Qxb6612928aDoor.H
