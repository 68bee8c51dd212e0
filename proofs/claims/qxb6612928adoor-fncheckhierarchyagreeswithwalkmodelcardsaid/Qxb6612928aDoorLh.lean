/-
  The law: the model's loop: the kinds that every unit may have.
-/
import Derived.Test.Qxb6612928aDoorLg
namespace Go.Proofs.Qxb6612928aDoor.H
open Go.RowKit Go.Maps
set_option linter.unusedVariables false

set_option maxHeartbeats 2000000 in
set_option maxRecDepth 100000 in
theorem m4 {I : In} {X : Ar} {Br Bv B : Nat} {wM : World} {nc nf i : Nat} {vC vK : Value} {cs : List Int} {ks : List ByteArray} {a : Act} {w : World} (C : CtxM I X Br Bv B wM) (hi : i < I.n) (fr : FrG I X Br Bv nc nf i vC vK a) (hw : MW B wM cs ks vC vK w) (hlc : cs.length ≤ 30000) (hlk : ks.length ≤ 30000) {b : Int} (s35 : a.tmps.getD 35 undef = .int .i64 b) (s36 : a.tmps.getD 36 undef = .bool (placed I i)) (K : Act → World → Prop) (Q0 : Exit → Act → World → Prop)
    (hK : ∀ a' w' vC' vK', FrG I X Br Bv nc nf i vC' vK' a' → a'.tmps.getD 35 undef = .int .i64 b → a'.tmps.getD 36 undef = .bool (placed I i) → MW B wM (cs ++ if placed I i then [] else [I.code i]) (ks ++ if placed I i then [] else [ORPH]) vC' vK' w' → K a' w') : (stm 4 (moB (Tryd.f3.body.getD .skip))).wp Tryd.prog (Exit.then K Q0) a w := by
  obtain ⟨f, rfl, hf⟩ := lit559 a fr.size fr.defers
  have e0 := (hf 0).symm.trans fr.s0
  have e1 := (hf 1).symm.trans fr.s1
  have e2 := (hf 2).symm.trans fr.s2
  have e3 := (hf 3).symm.trans fr.s3
  have e4 := (hf 4).symm.trans fr.s4
  have e5 := (hf 5).symm.trans fr.s5
  have e6 := (hf 6).symm.trans fr.s6
  have e7 := (hf 7).symm.trans fr.s7
  have e21 := (hf 21).symm.trans fr.s21
  have e26 := (hf 26).symm.trans fr.s26
  have e27 := (hf 27).symm.trans fr.s27
  have e30 := (hf 30).symm.trans fr.s30
  have e31 := (hf 31).symm.trans fr.s31
  have e32 := (hf 32).symm.trans fr.s32
  have e33 := (hf 33).symm.trans fr.s33
  have e34 := (hf 34).symm.trans fr.s34
  have e35 := (hf 35).symm.trans s35
  have e36 := (hf 36).symm.trans s36
  clear fr hf s35 s36
  simp only [e0, e1, e2, e3, e4, e5, e6, e7, e21, e26, e27, e30, e31, e32, e33, e34, e35, e36]
  clear e0 e1 e2 e3 e4 e5 e6 e7 e21 e26 e27 e30 e31 e32 e33 e34 e35 e36
  have hn := C.F.n
  have hi' : (i : Int) < I.n := by omega
  have insw := C.ins.below (Nat.le_of_eq C.hB.symm) hw.below
  obtain ⟨ad0, ha0, hc0⟩ := insw.r0 (by omega)
  have hr0 : w.cell? (ad0.add i) = some (.int .i32 (I.code i)) := hc0 i hi
  rw [ha0]
  cases hcond : placed I i with
  | true =>
    have HK : ∀ a' w', FrG I X Br Bv nc nf i vC vK a' → a'.tmps.getD 35 undef = .int .i64 b → a'.tmps.getD 36 undef = .bool true → MW B wM cs ks vC vK w' → K a' w' := fun a' w' x0 x1 x2 x3 => hK a' w' vC vK x0 x1 (by rw [hcond]; exact x2) (by rw [hcond]; simpa using x3)
    clear hK insw hc0 hcond
    conv => arg 2; whnf
    go_wp2_with fail
    exact HK _ _ ⟨rfl, rfl, by rw [ha0]; rfl, rfl, rfl, rfl, rfl, rfl, rfl, rfl, rfl, rfl, rfl, rfl, rfl, rfl, rfl, rfl⟩ rfl rfl hw
  | false =>
    have HK : ∀ a' w' vC' vK', FrG I X Br Bv nc nf i vC' vK' a' → a'.tmps.getD 35 undef = .int .i64 b → a'.tmps.getD 36 undef = .bool false → MW B wM (cs ++ [I.code i]) (ks ++ [ORPH]) vC' vK' w' → K a' w' := fun a' w' vC' vK' x0 x1 x2 x3 => hK a' w' vC' vK' x0 x1 (by rw [hcond]; exact x2) (by rw [hcond]; simpa using x3)
    obtain ⟨i0, hi0, hz0, hz1, hz2⟩ := info_parts info21
    obtain ⟨i1, hi1, hy0, hy1, hy2⟩ := info_parts info47
    have hone0 : ∀ x ∈ [Value.int .i32 (I.code i)], x.oneCell' = true := by intro x hx; simp at hx; subst hx; rfl
    have hone1 : ∀ x ∈ [Value.string ORPH], x.oneCell' = true := by intro x hx; simp at hx; subst hx; rfl
    have hq1 : cs.length + 1 ≤ maxLen := by unfold maxLen; omega
    have hq2 : (cs.length + 1) * 4 ≤ 140737488355328 := by omega
    have hq3 : ks.length + 1 ≤ maxLen := by unfold maxLen; omega
    have hq4 : (ks.length + 1) * 16 ≤ 140737488355328 := by omega
    have hrow1 := (hw).rowC.alloc (.cells #[.int .i32 (I.code i)] 21)
    have hBle := (hw).le
    clear hK insw hc0 hcond
    conv => arg 2; whnf
    go_wp2_with (at_builtin; refine wpList_append_own_at _ rfl _ _ 22 rfl B 21 i0 (.int .i32 0) 1 4 Tryd.underlying22 hi0 hz0 hz1 hz2 rfl (by decide) vC cs.length (cs.map (Value.int .i32)) rfl hrow1 ⟨w.heap.size, 0, none⟩ 1 1 [.int .i32 (I.code i)] rfl rfl (cell_one_new _ _ _) hone0 hq1 hq2 (by simp; omega) ?_)
    intro v1 w1 hr hg hnn hl
    have hw1 := ((hw).alloc (.cells #[.int .i32 (I.code i)] 21)).pushC (c := I.code i) hr hg (by simpa using hl)
    have hrow2 := hw1.rowK.alloc (.cells #[.string ORPH] 47)
    have hBle1 := hw1.le
    clear hr hg hnn hl
    go_wp2_with (at_builtin; refine wpList_append_own_at _ rfl _ _ 46 rfl B 47 i1 (.string { data := #[] }) 1 16 Tryd.underlying46 hi1 hy0 hy1 hy2 rfl (by decide) vK ks.length (ks.map Value.string) rfl hrow2 ⟨w1.heap.size, 0, none⟩ 1 1 [.string ORPH] rfl rfl (cell_one_new _ _ _) hone1 hq3 hq4 (by simp; omega) ?_)
    intro v2 w2 hr hg hnn hl
    have hw2 := (hw1.alloc (.cells #[.string ORPH] 47)).pushK (x := ORPH) hr hg (by simpa using hl)
    clear hr hg hnn hl
    go_wp2_with fail
    exact HK _ _ _ _ ⟨rfl, rfl, by rw [ha0]; rfl, rfl, rfl, rfl, rfl, rfl, rfl, rfl, rfl, rfl, rfl, rfl, rfl, rfl, rfl, rfl⟩ rfl rfl hw2

set_option maxHeartbeats 2000000 in
set_option maxRecDepth 100000 in
theorem m5 {I : In} {X : Ar} {Br Bv B : Nat} {wM : World} {nc nf i : Nat} {vC vK : Value} {cs : List Int} {ks : List ByteArray} {a : Act} {w : World} (C : CtxM I X Br Bv B wM) (hi : i < I.n) (fr : FrG I X Br Bv nc nf i vC vK a) (hw : MW B wM cs ks vC vK w) (hlc : cs.length ≤ 30000) (hlk : ks.length ≤ 30000) {pl : Bool} {b : Int} (s35 : a.tmps.getD 35 undef = .int .i64 b) (s36 : a.tmps.getD 36 undef = .bool pl) (K : Act → World → Prop) (Q0 : Exit → Act → World → Prop)
    (hK : ∀ a' w' vC' vK', FrG I X Br Bv nc nf i vC' vK' a' → a'.tmps.getD 35 undef = .int .i64 b → a'.tmps.getD 36 undef = .bool pl → MW B wM (cs ++ if never I i then [I.code i] else []) (ks ++ if never I i then [CIRC] else []) vC' vK' w' → K a' w') : (stm 5 (moB (Tryd.f3.body.getD .skip))).wp Tryd.prog (Exit.then K Q0) a w := by
  obtain ⟨f, rfl, hf⟩ := lit559 a fr.size fr.defers
  have e0 := (hf 0).symm.trans fr.s0
  have e1 := (hf 1).symm.trans fr.s1
  have e2 := (hf 2).symm.trans fr.s2
  have e3 := (hf 3).symm.trans fr.s3
  have e4 := (hf 4).symm.trans fr.s4
  have e5 := (hf 5).symm.trans fr.s5
  have e6 := (hf 6).symm.trans fr.s6
  have e7 := (hf 7).symm.trans fr.s7
  have e21 := (hf 21).symm.trans fr.s21
  have e26 := (hf 26).symm.trans fr.s26
  have e27 := (hf 27).symm.trans fr.s27
  have e30 := (hf 30).symm.trans fr.s30
  have e31 := (hf 31).symm.trans fr.s31
  have e32 := (hf 32).symm.trans fr.s32
  have e33 := (hf 33).symm.trans fr.s33
  have e34 := (hf 34).symm.trans fr.s34
  have e35 := (hf 35).symm.trans s35
  have e36 := (hf 36).symm.trans s36
  clear fr hf s35 s36
  simp only [e0, e1, e2, e3, e4, e5, e6, e7, e21, e26, e27, e30, e31, e32, e33, e34, e35, e36]
  clear e0 e1 e2 e3 e4 e5 e6 e7 e21 e26 e27 e30 e31 e32 e33 e34 e35 e36
  have hn := C.F.n
  have hi' : (i : Int) < I.n := by omega
  have insw := C.ins.below (Nat.le_of_eq C.hB.symm) hw.below
  obtain ⟨ad0, ha0, hc0⟩ := insw.r0 (by omega)
  have hr0 : w.cell? (ad0.add i) = some (.int .i32 (I.code i)) := hc0 i hi
  have HC := neverEnds_any I Bv i I.n w hn hi (fun k hk => (hw.below.cell (p := ⟨Bv, k, none⟩) C.hv).trans (C.val k hk))
  rw [ha0]
  cases hcond : never I i with
  | false =>
    rw [hcond] at HC
    have HK : ∀ a' w', FrG I X Br Bv nc nf i vC vK a' → a'.tmps.getD 35 undef = .int .i64 b → a'.tmps.getD 36 undef = .bool pl → MW B wM cs ks vC vK w' → K a' w' := fun a' w' x0 x1 x2 x3 => hK a' w' vC vK x0 x1 x2 (by rw [hcond]; simpa using x3)
    clear hK insw hc0 hcond
    conv => arg 2; whnf
    go_wp2_with fail
    refine HC.mono ?_
    rintro e w3 ⟨rfl, rfl⟩
    go_wp2_with fail
    exact HK _ _ ⟨rfl, rfl, by rw [ha0]; rfl, rfl, rfl, rfl, rfl, rfl, rfl, rfl, rfl, rfl, rfl, rfl, rfl, rfl, rfl, rfl⟩ rfl rfl hw
  | true =>
    rw [hcond] at HC
    have HK : ∀ a' w' vC' vK', FrG I X Br Bv nc nf i vC' vK' a' → a'.tmps.getD 35 undef = .int .i64 b → a'.tmps.getD 36 undef = .bool pl → MW B wM (cs ++ [I.code i]) (ks ++ [CIRC]) vC' vK' w' → K a' w' := fun a' w' vC' vK' x0 x1 x2 x3 => hK a' w' vC' vK' x0 x1 x2 (by rw [hcond]; simpa using x3)
    clear hK insw hc0 hcond
    conv => arg 2; whnf
    go_wp2_with fail
    refine HC.mono ?_
    rintro e w3 ⟨rfl, rfl⟩
    obtain ⟨i0, hi0, hz0, hz1, hz2⟩ := info_parts info21
    obtain ⟨i1, hi1, hy0, hy1, hy2⟩ := info_parts info47
    have hone0 : ∀ x ∈ [Value.int .i32 (I.code i)], x.oneCell' = true := by intro x hx; simp at hx; subst hx; rfl
    have hone1 : ∀ x ∈ [Value.string CIRC], x.oneCell' = true := by intro x hx; simp at hx; subst hx; rfl
    have hq1 : cs.length + 1 ≤ maxLen := by unfold maxLen; omega
    have hq2 : (cs.length + 1) * 4 ≤ 140737488355328 := by omega
    have hq3 : ks.length + 1 ≤ maxLen := by unfold maxLen; omega
    have hq4 : (ks.length + 1) * 16 ≤ 140737488355328 := by omega
    have hrow1 := (hw).rowC.alloc (.cells #[.int .i32 (I.code i)] 21)
    have hBle := (hw).le
    go_wp2_with (at_builtin; refine wpList_append_own_at _ rfl _ _ 22 rfl B 21 i0 (.int .i32 0) 1 4 Tryd.underlying22 hi0 hz0 hz1 hz2 rfl (by decide) vC cs.length (cs.map (Value.int .i32)) rfl hrow1 ⟨w3.heap.size, 0, none⟩ 1 1 [.int .i32 (I.code i)] rfl rfl (cell_one_new _ _ _) hone0 hq1 hq2 (by simp; omega) ?_)
    intro v1 w1 hr hg hnn hl
    have hw1 := ((hw).alloc (.cells #[.int .i32 (I.code i)] 21)).pushC (c := I.code i) hr hg (by simpa using hl)
    have hrow2 := hw1.rowK.alloc (.cells #[.string CIRC] 47)
    have hBle1 := hw1.le
    clear hr hg hnn hl
    go_wp2_with (at_builtin; refine wpList_append_own_at _ rfl _ _ 46 rfl B 47 i1 (.string { data := #[] }) 1 16 Tryd.underlying46 hi1 hy0 hy1 hy2 rfl (by decide) vK ks.length (ks.map Value.string) rfl hrow2 ⟨w1.heap.size, 0, none⟩ 1 1 [.string CIRC] rfl rfl (cell_one_new _ _ _) hone1 hq3 hq4 (by simp; omega) ?_)
    intro v2 w2 hr hg hnn hl
    have hw2 := (hw1.alloc (.cells #[.string CIRC] 47)).pushK (x := CIRC) hr hg (by simpa using hl)
    clear hr hg hnn hl
    go_wp2_with fail
    exact HK _ _ _ _ ⟨rfl, rfl, by rw [ha0]; rfl, rfl, rfl, rfl, rfl, rfl, rfl, rfl, rfl, rfl, rfl, rfl, rfl, rfl, rfl, rfl⟩ rfl rfl hw2

set_option maxHeartbeats 2000000 in
set_option maxRecDepth 100000 in
theorem m7 {I : In} {X : Ar} {Br Bv B : Nat} {wM : World} {nc nf i : Nat} {vC vK : Value} {cs : List Int} {ks : List ByteArray} {a : Act} {w : World} (C : CtxM I X Br Bv B wM) (hi : i < I.n) (fr : FrG I X Br Bv nc nf i vC vK a) (hw : MW B wM cs ks vC vK w) (hlc : cs.length ≤ 30000) (hlk : ks.length ≤ 30000) {b : Int} (s35 : a.tmps.getD 35 undef = .int .i64 b) (K : Act → World → Prop) (Q0 : Exit → Act → World → Prop)
    (hK : ∀ a' w' vC' vK', FrG I X Br Bv nc nf i vC' vK' a' → a'.tmps.getD 35 undef = .int .i64 b → MW B wM (cs ++ if badD I i then [I.code i] else []) (ks ++ if badD I i then [DEEP] else []) vC' vK' w' → K a' w') : (stm 7 (moB (Tryd.f3.body.getD .skip))).wp Tryd.prog (Exit.then K Q0) a w := by
  obtain ⟨f, rfl, hf⟩ := lit559 a fr.size fr.defers
  have e0 := (hf 0).symm.trans fr.s0
  have e1 := (hf 1).symm.trans fr.s1
  have e2 := (hf 2).symm.trans fr.s2
  have e3 := (hf 3).symm.trans fr.s3
  have e4 := (hf 4).symm.trans fr.s4
  have e5 := (hf 5).symm.trans fr.s5
  have e6 := (hf 6).symm.trans fr.s6
  have e7 := (hf 7).symm.trans fr.s7
  have e21 := (hf 21).symm.trans fr.s21
  have e26 := (hf 26).symm.trans fr.s26
  have e27 := (hf 27).symm.trans fr.s27
  have e30 := (hf 30).symm.trans fr.s30
  have e31 := (hf 31).symm.trans fr.s31
  have e32 := (hf 32).symm.trans fr.s32
  have e33 := (hf 33).symm.trans fr.s33
  have e34 := (hf 34).symm.trans fr.s34
  have e35 := (hf 35).symm.trans s35
  clear fr hf s35
  simp only [e0, e1, e2, e3, e4, e5, e6, e7, e21, e26, e27, e30, e31, e32, e33, e34, e35]
  clear e0 e1 e2 e3 e4 e5 e6 e7 e21 e26 e27 e30 e31 e32 e33 e34 e35
  have hn := C.F.n
  have hi' : (i : Int) < I.n := by omega
  have insw := C.ins.below (Nat.le_of_eq C.hB.symm) hw.below
  obtain ⟨ad0, ha0, hc0⟩ := insw.r0 (by omega)
  have hr0 : w.cell? (ad0.add i) = some (.int .i32 (I.code i)) := hc0 i hi
  obtain ⟨ad4, ha4, hc4⟩ := insw.r4 (by omega)
  have hr4 : w.cell? (ad4.add i) = some (.int .i64 (I.lvl i)) := hc4 i hi
  rw [ha0, ha4]
  by_cases hb : 17 < I.lvl i
  · have hcond : badD I i = true := by simp [badD, hb]
    have HK : ∀ a' w' vC' vK', FrG I X Br Bv nc nf i vC' vK' a' → a'.tmps.getD 35 undef = .int .i64 b → MW B wM (cs ++ [I.code i]) (ks ++ [DEEP]) vC' vK' w' → K a' w' := fun a' w' vC' vK' x0 x1 x2 => hK a' w' vC' vK' x0 x1 (by rw [hcond]; simpa using x2)
    obtain ⟨i0, hi0, hz0, hz1, hz2⟩ := info_parts info21
    obtain ⟨i1, hi1, hy0, hy1, hy2⟩ := info_parts info47
    have hone0 : ∀ x ∈ [Value.int .i32 (I.code i)], x.oneCell' = true := by intro x hx; simp at hx; subst hx; rfl
    have hone1 : ∀ x ∈ [Value.string DEEP], x.oneCell' = true := by intro x hx; simp at hx; subst hx; rfl
    have hq1 : cs.length + 1 ≤ maxLen := by unfold maxLen; omega
    have hq2 : (cs.length + 1) * 4 ≤ 140737488355328 := by omega
    have hq3 : ks.length + 1 ≤ maxLen := by unfold maxLen; omega
    have hq4 : (ks.length + 1) * 16 ≤ 140737488355328 := by omega
    have hrow1 := (hw).rowC.alloc (.cells #[.int .i32 (I.code i)] 21)
    have hBle := (hw).le
    clear hK insw hc0 hc4 hcond
    conv => arg 2; whnf
    go_wp2_with (at_builtin; refine wpList_append_own_at _ rfl _ _ 22 rfl B 21 i0 (.int .i32 0) 1 4 Tryd.underlying22 hi0 hz0 hz1 hz2 rfl (by decide) vC cs.length (cs.map (Value.int .i32)) rfl hrow1 ⟨w.heap.size, 0, none⟩ 1 1 [.int .i32 (I.code i)] rfl rfl (cell_one_new _ _ _) hone0 hq1 hq2 (by simp; omega) ?_)
    intro v1 w1 hr hg hnn hl
    have hw1 := ((hw).alloc (.cells #[.int .i32 (I.code i)] 21)).pushC (c := I.code i) hr hg (by simpa using hl)
    have hrow2 := hw1.rowK.alloc (.cells #[.string DEEP] 47)
    have hBle1 := hw1.le
    clear hr hg hnn hl
    go_wp2_with (at_builtin; refine wpList_append_own_at _ rfl _ _ 46 rfl B 47 i1 (.string { data := #[] }) 1 16 Tryd.underlying46 hi1 hy0 hy1 hy2 rfl (by decide) vK ks.length (ks.map Value.string) rfl hrow2 ⟨w1.heap.size, 0, none⟩ 1 1 [.string DEEP] rfl rfl (cell_one_new _ _ _) hone1 hq3 hq4 (by simp; omega) ?_)
    intro v2 w2 hr hg hnn hl
    have hw2 := (hw1.alloc (.cells #[.string DEEP] 47)).pushK (x := DEEP) hr hg (by simpa using hl)
    clear hr hg hnn hl
    go_wp2_with fail
    exact HK _ _ _ _ ⟨rfl, rfl, by rw [ha0]; rfl, rfl, rfl, rfl, by rw [ha4]; rfl, rfl, rfl, rfl, rfl, rfl, rfl, rfl, rfl, rfl, rfl, rfl⟩ rfl hw2
  · have hcond : badD I i = false := by simp [badD, hb]
    have HK : ∀ a' w', FrG I X Br Bv nc nf i vC vK a' → a'.tmps.getD 35 undef = .int .i64 b → MW B wM cs ks vC vK w' → K a' w' := fun a' w' x0 x1 x2 => hK a' w' vC vK x0 x1 (by rw [hcond]; simpa using x2)
    clear hK insw hc0 hc4 hcond
    conv => arg 2; whnf
    go_wp2_with fail
    exact HK _ _ ⟨rfl, rfl, by rw [ha0]; rfl, rfl, rfl, rfl, by rw [ha4]; rfl, rfl, rfl, rfl, rfl, rfl, rfl, rfl, rfl, rfl, rfl, rfl⟩ rfl hw

set_option maxHeartbeats 2000000 in
set_option maxRecDepth 100000 in
theorem m8 {I : In} {X : Ar} {Br Bv B : Nat} {wM : World} {nc nf i : Nat} {vC vK : Value} {cs : List Int} {ks : List ByteArray} {a : Act} {w : World} (fr : FrG I X Br Bv nc nf i vC vK a) (hw : MW B wM cs ks vC vK w) {b : Nat} (s35 : a.tmps.getD 35 undef = .int .i64 b) (hnf : nf ≤ 4096) (K : Act → World → Prop) (Q0 : Exit → Act → World → Prop)
    (hK : ∀ a', FrG I X Br Bv nc (if b < ks.length then nf + 1 else nf) i vC vK a' → K a' w) : (rest 8 (moB (Tryd.f3.body.getD .skip))).wp Tryd.prog (Exit.then K Q0) a w := by
  obtain ⟨f, rfl, hf⟩ := lit559 a fr.size fr.defers
  have e0 := (hf 0).symm.trans fr.s0
  have e1 := (hf 1).symm.trans fr.s1
  have e2 := (hf 2).symm.trans fr.s2
  have e3 := (hf 3).symm.trans fr.s3
  have e4 := (hf 4).symm.trans fr.s4
  have e5 := (hf 5).symm.trans fr.s5
  have e6 := (hf 6).symm.trans fr.s6
  have e7 := (hf 7).symm.trans fr.s7
  have e21 := (hf 21).symm.trans fr.s21
  have e26 := (hf 26).symm.trans fr.s26
  have e27 := (hf 27).symm.trans fr.s27
  have e30 := (hf 30).symm.trans fr.s30
  have e31 := (hf 31).symm.trans fr.s31
  have e32 := (hf 32).symm.trans fr.s32
  have e33 := (hf 33).symm.trans fr.s33
  have e34 := (hf 34).symm.trans fr.s34
  have e35 := (hf 35).symm.trans s35
  clear fr hf s35
  simp only [e0, e1, e2, e3, e4, e5, e6, e7, e21, e26, e27, e30, e31, e32, e33, e34, e35]
  clear e0 e1 e2 e3 e4 e5 e6 e7 e21 e26 e27 e30 e31 e32 e33 e34 e35
  obtain ⟨ao, cp, rfl⟩ := ownsRow_shape hw.rowK
  by_cases hlt : b < ks.length
  · have hlt' : (b : Int) < ks.length := by omega
    rw [if_pos hlt] at hK
    clear hw
    conv => arg 2; whnf
    go_wp2_with fail
    exact ⟨rfl, rfl, rfl, rfl, rfl, rfl, rfl, rfl, rfl, rfl, rfl, rfl, rfl, rfl, (by first | rfl | go_num), rfl, rfl, rfl⟩
  · have hlt' : ¬ (b : Int) < ks.length := by omega
    rw [if_neg hlt] at hK
    clear hw
    conv => arg 2; whnf
    go_wp2_with fail
    exact ⟨rfl, rfl, rfl, rfl, rfl, rfl, rfl, rfl, rfl, rfl, rfl, rfl, rfl, rfl, rfl, rfl, rfl, rfl⟩

end Go.Proofs.Qxb6612928aDoor.H
