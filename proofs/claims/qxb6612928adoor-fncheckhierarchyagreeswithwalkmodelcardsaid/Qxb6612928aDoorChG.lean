/-
  CheckHierarchy: the loop over the units.
-/
import Derived.Test.Qxb6612928aDoorChF
namespace Go.Proofs.Qxb6612928aDoor.H
open Go.RowKit Go.Maps
set_option linter.unusedVariables false

theorem WM.reset {I : In} {Br : Nat} {wR : World} {cc cf : Nat} {is : List (Int × ByteArray)} {vI : Value} {ks : List ByteArray} {v10 : Value} {w : World} (h : WM I Br wR cc cf is vI ks v10 w) : WM I Br wR cc cf is vI [] (.slice none 0 0) w :=
  ⟨h.below, h.lt, h.c0, h.c1, h.c2, h.fz, h.rowI, World.ownsRow_nil _ _ _ _, Or.inl rfl⟩

theorem chLoop3 {I : In} {B Bu : Nat} {pp : Nat → Nat} {N Mc Br kb kc cap i : Nat} {wR : World} (C : CtxR I B Bu pp N Mc Br kb kc wR) (hi : i < I.n) {a : Act} {w : World} {cc cf : Nat} {is : List (Int × ByteArray)} {v10 : Value} {ks : List ByteArray} {j : Nat}
    (h : KI I Bu cap N Mc Br i wR cc cf is ks v10 a w j) (hks : ks.length ≤ 10) (his : is.length ≤ 100000) (Q0 : Exit → Act → World → Prop)
    (hX : ∀ a' w', KI I Bu cap N Mc Br i wR cc cf is ks v10 a' w' ks.length → Q0 (.exit 4) a' w') :
    (Code.loop (chL3 (Tryd.f5.body.getD .skip))).wp Tryd.prog Q0 a w := by
  refine wp_loop_ghost (fun z a w => ∃ j, KI I Bu cap N Mc Br i wR cc cf is ks v10 a w j ∧ ks.length - j = z) (ks.length - j) ⟨j, h, rfl⟩ ?_
  rintro z a w ⟨j, h, rfl⟩
  exact chRound3 C hi h hks his _ Q0 hX (fun a' w' hj hn => ⟨ks.length - (j + 1), by omega, j + 1, hn, rfl⟩)

set_option maxHeartbeats 1000000 in
set_option maxRecDepth 100000 in
theorem p12 {I : In} {B Bu : Nat} {pp : Nat → Nat} {N Mc Br kb kc cap i : Nat} {wR : World} (C : CtxR I B Bu pp N Mc Br kb kc wR) (hi : i < I.n) {a : Act} {w : World} {cc cf : Nat} {is : List (Int × ByteArray)} {vI v10 v11 : Value} {ks : List ByteArray} {pl : Bool}
    (hf : FrM I Bu cap N Mc Br i v10 v11 pl a) (hw : WM I Br wR cc cf is vI ks v10 w) (his : is.length ≤ 100000) (hks : ks.length ≤ 10) (K : Act → World → Prop) (Q0 : Exit → Act → World → Prop)
    (hK : ∀ a' w' vI', FrD I Bu cap N Mc Br i a' → WM I Br wR cc cf (is ++ ks.map fun s => (I.code i, s)) vI' [] (.slice none 0 0) w' → K a' w') :
    (rest 12 (chB (Tryd.f5.body.getD .skip))).wp Tryd.prog (Exit.then K Q0) a w := by
  obtain ⟨fr, s9, s10, s11, s12⟩ := hf
  obtain ⟨f, rfl, hf⟩ := lit149 a fr.size fr.defers
  have e0 := (hf 0).symm.trans fr.s0
  have e2 := (hf 2).symm.trans fr.s2
  have e5 := (hf 5).symm.trans fr.s5
  have e6 := (hf 6).symm.trans fr.s6
  have e7 := (hf 7).symm.trans fr.s7
  have e39 := (hf 39).symm.trans fr.s39
  have e40 := (hf 40).symm.trans fr.s40
  have e9 := (hf 9).symm.trans s9
  have e10 := (hf 10).symm.trans s10
  clear fr s9 s10 s11 s12 hf
  simp only [e0, e2, e5, e6, e7, e39, e40, e9, e10]
  clear e0 e2 e5 e6 e7 e39 e40 e9 e10
  obtain ⟨ao, cp10, rfl⟩ : ∃ ao cp10, v10 = .slice ao ks.length cp10 := ownsRow_shape hw.rowK
  conv => arg 2; whnf
  go_wp2_with fail
  refine chLoop3 C hi (cap := cap) (j := 0) (cc := cc) (cf := cf) (is := is) (ks := ks) (v10 := .slice ao ks.length cp10) ⟨⟨rfl, rfl, rfl, rfl, rfl, rfl, rfl, rfl, rfl⟩, rfl, rfl, rfl, rfl, Nat.zero_le _, vI, by simpa [tagged] using hw⟩ hks his _ ?_
  rintro a' w' ⟨fr, s9, s129, s130, s131, le, vI', hw'⟩
  have ht : tagged (I.code i) ks ks.length = ks.map fun s => (I.code i, s) := by unfold tagged; rw [List.take_length]
  rw [ht] at hw'
  exact hK a' w' vI' fr hw'.reset

theorem wp_seq' {P : Program} {Q : Exit → Act → World → Prop} {a : Act} {w : World} {x y : Code} (h : x.wp P (Exit.then (fun a w => y.wp P Q a w) Q) a w) : (Code.seq x y).wp P Q a w := wp_seq h

theorem kinds_split (I : In) (i : Nat) (hp : placed I i = true) : kinds I i = (((([] ++ if placed I i then [] else [ORPH]) ++ if never I i then [CIRC] else []) ++ if badL I i then [LEVL] else []) ++ if badP I i then [PATH] else []) ++ if badD I i then [DEEP] else [] := by
  unfold kinds
  simp [hp]

theorem kinds_split' (I : In) (i : Nat) (hp : placed I i = false) : kinds I i = ((([] ++ if placed I i then [] else [ORPH]) ++ if never I i then [CIRC] else []) ++ if badD I i then [DEEP] else []) := by
  unfold kinds
  simp [hp]

theorem len_if {α : Type} (b : Bool) (x : α) : (if b then [x] else []).length ≤ 1 := by cases b <;> simp
theorem len_if' {α : Type} (b : Bool) (x : α) : (if b then [] else [x]).length ≤ 1 := by cases b <;> simp

theorem chk_step (I : In) (i : Nat) (h : I.del i = false) : chk I (i + 1) = chk I i + 1 := by rw [chk, h]; rfl
theorem fty_step (I : In) (i : Nat) (h : I.del i = false) : fty I (i + 1) = if (kinds I i).isEmpty then fty I i else fty I i + 1 := by rw [fty, h]; simp
theorem iss_step (I : In) (i : Nat) (h : I.del i = false) : iss I (i + 1) = iss I i ++ (kinds I i).map fun s => (I.code i, s) := by rw [iss, h]; rfl
theorem chk_del (I : In) (i : Nat) (h : I.del i = true) : chk I (i + 1) = chk I i := by rw [chk, h]; rfl
theorem fty_del (I : In) (i : Nat) (h : I.del i = true) : fty I (i + 1) = fty I i := by rw [fty, h]; simp
theorem iss_del (I : In) (i : Nat) (h : I.del i = true) : iss I (i + 1) = iss I i := by rw [iss, h]; rfl

/-- One unit. -/
theorem chBody {I : In} {B Bu : Nat} {pp : Nat → Nat} {N Mc Br kb kc cap i : Nat} {wR : World} (C : CtxR I B Bu pp N Mc Br kb kc wR) (hi : i < I.n) {a : Act} {w : World} {vI : Value}
    (fr : FrD I Bu cap N Mc Br i a) (hw : WM I Br wR (chk I i) (fty I i) (iss I i) vI [] (.slice none 0 0) w) (K : Act → World → Prop) (Q0 : Exit → Act → World → Prop)
    (hK : ∀ a' w' vI', FrD I Bu cap N Mc Br i a' → WM I Br wR (chk I (i + 1)) (fty I (i + 1)) (iss I (i + 1)) vI' [] (.slice none 0 0) w' → K a' w' ∧ Q0 (.exit 3) a' w') :
    (chB (Tryd.f5.body.getD .skip)).wp Tryd.prog (Exit.then K Q0) a w := by
  have hn := C.F.n
  have h1 := chk_le I i
  have h2 := fty_le I i
  have h3 := iss_le I i
  have hkl := kinds_le I i
  have hcode : chB (Tryd.f5.body.getD .skip) = (.seq (stm 0 (chB (Tryd.f5.body.getD .skip))) (.seq (stm 1 (chB (Tryd.f5.body.getD .skip))) (.seq (stm 2 (chB (Tryd.f5.body.getD .skip))) (.seq (stm 3 (chB (Tryd.f5.body.getD .skip))) (.seq (stm 4 (chB (Tryd.f5.body.getD .skip))) (.seq (stm 5 (chB (Tryd.f5.body.getD .skip))) (.seq (stm 6 (chB (Tryd.f5.body.getD .skip))) (.seq (stm 7 (chB (Tryd.f5.body.getD .skip))) (.seq (stm 8 (chB (Tryd.f5.body.getD .skip))) (.seq (stm 9 (chB (Tryd.f5.body.getD .skip))) (.seq (stm 10 (chB (Tryd.f5.body.getD .skip))) (.seq (stm 11 (chB (Tryd.f5.body.getD .skip))) (rest 12 (chB (Tryd.f5.body.getD .skip))))))))))))))) := by rfl
  rw [hcode]
  clear hcode
  refine wp_seq' (p0 (v11 := undef) C hi fr hw _ _ ?_)
  intro a1 w1 fr s8 hw
  refine wp_seq' (p1 (v11 := undef) C hi fr s8 hw _ _ ?_)
  intro a2 w2 fr s9 hw
  refine wp_seq' (p2 (v11 := undef) C hi _ _ ?_ fr s9 hw ?_)
  · intro a3 w3 hd fr hw
    refine (hK a3 w3 vI fr ?_).2
    rw [chk_del I i hd, fty_del I i hd, iss_del I i hd]; exact hw
  intro a3 w3 hd fr s9 hw
  refine wp_seq' (p3 (v11 := undef) C hi fr s9 hw (by omega) _ _ ?_)
  intro a4 w4 fr s9 hw
  refine p4 C hi fr s9 hw _ _ ?_
  intro a5 w5 fm hw
  refine wp_seq' (p7 C hi fm hw (by simp) _ _ ?_)
  intro a6 w6 v10 v11 hpv fm hw
  have l1 := len_if' (placed I i) ORPH
  have l2 := len_if (never I i) CIRC
  have l3 := len_if (badL I i) LEVL
  have l4 := len_if (badP I i) PATH
  have l5 := len_if (badD I i) DEEP
  refine wp_seq' (p8 C hi fm hw (by simp only [List.length_append, List.length_nil]; omega) _ _ ?_)
  intro a7 w7 v10 fm hw
  -- behind the kinds
  have FIN : ∀ a w v10 v11 pl, FrM I Bu cap N Mc Br i v10 v11 pl a → WM I Br wR (chk I i + 1) (fty I i) (iss I i) vI (kinds I i) v10 w → (Code.seq (stm 11 (chB (Tryd.f5.body.getD .skip))) (rest 12 (chB (Tryd.f5.body.getD .skip)))).wp Tryd.prog (Exit.then K Q0) a w := by
    intro a w v10 v11 pl fm hw
    refine wp_seq' (p11 C hi fm hw (by omega) (by omega) _ _ ?_)
    intro a w fm hw
    refine p12 C hi fm hw (by omega) (by omega) K Q0 ?_
    intro a w vI' fr hw
    refine (hK a w vI' fr ?_).1
    rw [chk_step I i hd, fty_step I i hd, iss_step I i hd]; exact hw
  cases hpl : placed I i with
  | true =>
    rw [hpl] at fm
    refine wp_seq' (p9 C hi hpv hpl fm hw (by simp only [List.length_append, List.length_nil]; omega) _ _ ?_)
    intro a8 w8 v10 fm hw
    refine wp_seq' (p10 C hi fm hw (by simp only [List.length_append, List.length_nil]; omega) _ _ ?_)
    intro a9 w9 v10 fm hw
    rw [← kinds_split I i hpl] at hw
    exact FIN _ _ _ _ _ fm hw
  | false =>
    rw [hpl] at fm
    refine wp_seq' (p9n C hi fm hw _ _ ?_)
    intro a8 w8 fm hw
    refine wp_seq' (p10 C hi fm hw (by simp only [List.length_append, List.length_nil]; omega) _ _ ?_)
    intro a9 w9 v10 fm hw
    rw [← kinds_split' I i hpl] at hw
    exact FIN _ _ _ _ _ fm hw

/-- The world and the frame between two units. -/
structure KR (I : In) (Bu cap N Mc Br : Nat) (wR : World) (a : Act) (w : World) (i : Nat) : Prop where
  fr : FrD I Bu cap N Mc Br i a
  le : i ≤ I.n
  wm : ∃ vI, WM I Br wR (chk I i) (fty I i) (iss I i) vI [] (.slice none 0 0) w

set_option maxHeartbeats 1000000 in
set_option maxRecDepth 100000 in
theorem chTail {I : In} {Bu cap N Mc Br i : Nat} {a : Act} {w : World} (fr : FrD I Bu cap N Mc Br i a) (hi : i < I.n) (hn : I.n ≤ 4096) (K : Act → World → Prop) (Q0 : Exit → Act → World → Prop)
    (hK : ∀ a', FrD I Bu cap N Mc Br (i + 1) a' → K a' w) : (sB (sB (sB (chL2 (Tryd.f5.body.getD .skip))))).wp Tryd.prog (Exit.then K Q0) a w := by
  obtain ⟨f, rfl, hf⟩ := lit149 a fr.size fr.defers
  have e0 := (hf 0).symm.trans fr.s0
  have e2 := (hf 2).symm.trans fr.s2
  have e5 := (hf 5).symm.trans fr.s5
  have e6 := (hf 6).symm.trans fr.s6
  have e7 := (hf 7).symm.trans fr.s7
  have e39 := (hf 39).symm.trans fr.s39
  have e40 := (hf 40).symm.trans fr.s40
  clear fr hf
  simp only [e0, e2, e5, e6, e7, e39, e40]
  clear e0 e2 e5 e6 e7 e39 e40
  conv => arg 2; whnf
  go_wp2_with fail
  exact ⟨rfl, rfl, rfl, rfl, rfl, rfl, rfl, rfl, by go_num⟩

set_option maxHeartbeats 1000000 in
set_option maxRecDepth 100000 in
theorem chTest {I : In} {Bu cap N Mc Br i : Nat} {a : Act} {w : World} (fr : FrD I Bu cap N Mc Br i a) (hn : I.n ≤ 4096) (hle : i ≤ I.n) (T : Code) (Q : Exit → Act → World → Prop)
    (hX : ∀ a', i = I.n → FrD I Bu cap N Mc Br i a' → Q (.exit 2) a' w) (hK : ∀ a', i < I.n → FrD I Bu cap N Mc Br i a' → T.wp Tryd.prog Q a' w) :
    (Code.seq (sA (chL2 (Tryd.f5.body.getD .skip))) (Code.seq (sA (sB (chL2 (Tryd.f5.body.getD .skip)))) T)).wp Tryd.prog Q a w := by
  obtain ⟨f, rfl, hf⟩ := lit149 a fr.size fr.defers
  have e0 := (hf 0).symm.trans fr.s0
  have e2 := (hf 2).symm.trans fr.s2
  have e5 := (hf 5).symm.trans fr.s5
  have e6 := (hf 6).symm.trans fr.s6
  have e7 := (hf 7).symm.trans fr.s7
  have e39 := (hf 39).symm.trans fr.s39
  have e40 := (hf 40).symm.trans fr.s40
  clear fr hf
  simp only [e0, e2, e5, e6, e7, e39, e40]
  clear e0 e2 e5 e6 e7 e39 e40
  by_cases hi : i < I.n
  · have hi' : (i : Int) < I.n := by omega
    have HK : ∀ a', FrD I Bu cap N Mc Br i a' → T.wp Tryd.prog Q a' w := fun a' => hK a' hi
    clear hX hK
    conv => arg 2; arg 1; whnf
    conv => arg 2; arg 2; arg 1; whnf
    go_wp2_with fail
    exact HK _ ⟨rfl, rfl, rfl, rfl, rfl, rfl, rfl, rfl, rfl⟩
  · obtain rfl : i = I.n := by omega
    have HX : ∀ a', FrD I Bu cap N Mc Br I.n a' → Q (.exit 2) a' w := fun a' => hX a' rfl
    clear hX hK
    conv => arg 2; arg 1; whnf
    conv => arg 2; arg 2; arg 1; whnf
    go_wp2_with fail
    exact ⟨rfl, rfl, rfl, rfl, rfl, rfl, rfl, rfl, rfl⟩

theorem wp_block_then {P : Program} {id : Nat} {c : Code} {K : Act → World → Prop} {Q : Exit → Act → World → Prop} {a : Act} {w : World} (h : c.wp P (Exit.then K (Exit.inBlock id (Exit.then K Q))) a w) : c.wp P (Exit.inBlock id (Exit.then K Q)) a w :=
  wp_mono h (by intro e a w h; cases e <;> exact h)

theorem inBlock_own {id : Nat} {K : Act → World → Prop} {Q : Exit → Act → World → Prop} {a : Act} {w : World} (h : K a w) : Exit.inBlock id (Exit.then K Q) (.exit id) a w := by
  simp only [Exit.inBlock, if_true]
  exact h

theorem chLoop2 {I : In} {B Bu : Nat} {pp : Nat → Nat} {N Mc Br kb kc cap i : Nat} {wR : World} (C : CtxR I B Bu pp N Mc Br kb kc wR) {a : Act} {w : World} (h : KR I Bu cap N Mc Br wR a w i) (Q0 : Exit → Act → World → Prop)
    (hX : ∀ a' w', KR I Bu cap N Mc Br wR a' w' I.n → Q0 (.exit 2) a' w') :
    (Code.loop (chL2 (Tryd.f5.body.getD .skip))).wp Tryd.prog Q0 a w := by
  refine wp_loop_ghost (fun z a w => ∃ i, KR I Bu cap N Mc Br wR a w i ∧ I.n - i = z) (I.n - i) ⟨i, h, rfl⟩ ?_
  rintro z a w ⟨i, ⟨fr, le, vI, hw⟩, rfl⟩
  have hcode : chL2 (Tryd.f5.body.getD .skip) = .seq (sA (chL2 (Tryd.f5.body.getD .skip))) (.seq (sA (sB (chL2 (Tryd.f5.body.getD .skip)))) (.seq (.block 3 (chB (Tryd.f5.body.getD .skip))) (sB (sB (sB (chL2 (Tryd.f5.body.getD .skip))))))) := by rfl
  rw [hcode]
  clear hcode
  refine chTest fr C.F.n le _ _ ?_ ?_
  · rintro a' rfl fr
    exact hX a' w ⟨fr, le, vI, hw⟩
  intro a1 hi fr
  have FIN : ∀ a w vI', FrD I Bu cap N Mc Br i a → WM I Br wR (chk I (i + 1)) (fty I (i + 1)) (iss I (i + 1)) vI' [] (.slice none 0 0) w → (sB (sB (sB (chL2 (Tryd.f5.body.getD .skip))))).wp Tryd.prog (Exit.then (fun a w => ∃ z', z' < I.n - i ∧ ∃ j, KR I Bu cap N Mc Br wR a w j ∧ I.n - j = z') Q0) a w := by
    intro a w vI' fr hw
    exact chTail fr hi C.F.n _ _ fun a' fr => ⟨I.n - (i + 1), by omega, i + 1, ⟨fr, hi, vI', hw⟩, rfl⟩
  refine wp_seq' (wp_block ?_)
  refine wp_block_then (chBody C hi fr hw _ _ ?_)
  intro a w vI' fr hw
  exact ⟨FIN a w vI' fr hw, inBlock_own (FIN a w vI' fr hw)⟩
end Go.Proofs.Qxb6612928aDoor.H
