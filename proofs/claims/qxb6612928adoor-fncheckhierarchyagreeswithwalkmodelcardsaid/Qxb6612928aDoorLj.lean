/-
  The law: the model's loop, whole.
-/
import Derived.Test.Qxb6612928aDoorLh
import Derived.Test.Qxb6612928aDoorLi
namespace Go.Proofs.Qxb6612928aDoor.H
open Go.RowKit Go.Maps
set_option linter.unusedVariables false

/-- The codes and the kinds of the issues. -/
def icodes (l : List (Int × ByteArray)) : List Int := l.map fun p => p.1
def ikinds (l : List (Int × ByteArray)) : List ByteArray := l.map fun p => p.2

theorem icodes_step (I : In) (i : Nat) (h : I.del i = false) : icodes (iss I (i + 1)) = icodes (iss I i) ++ (kinds I i).map fun _ => I.code i := by
  rw [iss_step I i h]; simp [icodes]
theorem ikinds_step (I : In) (i : Nat) (h : I.del i = false) : ikinds (iss I (i + 1)) = ikinds (iss I i) ++ kinds I i := by
  rw [iss_step I i h]; simp [ikinds, Function.comp_def]
theorem icodes_len (l : List (Int × ByteArray)) : (icodes l).length = l.length := by simp [icodes]
theorem ikinds_len (l : List (Int × ByteArray)) : (ikinds l).length = l.length := by simp [ikinds]

theorem codes_t (I : In) (i : Nat) (hp : placed I i = true) (cs : List Int) : ((((cs ++ if placed I i then [] else [I.code i]) ++ if never I i then [I.code i] else []) ++ if badL I i then [I.code i] else []) ++ if badP I i then [I.code i] else []) ++ (if badD I i then [I.code i] else []) = cs ++ (kinds I i).map fun _ => I.code i := by
  unfold kinds
  simp only [hp, if_true, Bool.true_and, List.append_nil, List.nil_append]
  cases never I i <;> cases badL I i <;> cases badP I i <;> cases badD I i <;> simp
theorem codes_f (I : In) (i : Nat) (hp : placed I i = false) (cs : List Int) : ((cs ++ if placed I i then [] else [I.code i]) ++ if never I i then [I.code i] else []) ++ (if badD I i then [I.code i] else []) = cs ++ (kinds I i).map fun _ => I.code i := by
  unfold kinds
  simp only [hp, Bool.false_eq_true, if_false, Bool.false_and, List.append_nil]
  cases never I i <;> cases badD I i <;> simp
theorem kinds_t (I : In) (i : Nat) (hp : placed I i = true) (ks : List ByteArray) : ((((ks ++ if placed I i then [] else [ORPH]) ++ if never I i then [CIRC] else []) ++ if badL I i then [LEVL] else []) ++ if badP I i then [PATH] else []) ++ (if badD I i then [DEEP] else []) = ks ++ kinds I i := by
  unfold kinds
  simp only [hp, if_true, Bool.true_and, List.append_nil, List.nil_append]
  simp only [List.append_assoc]
theorem kinds_f (I : In) (i : Nat) (hp : placed I i = false) (ks : List ByteArray) : ((ks ++ if placed I i then [] else [ORPH]) ++ if never I i then [CIRC] else []) ++ (if badD I i then [DEEP] else []) = ks ++ kinds I i := by
  unfold kinds
  simp only [hp, Bool.false_eq_true, if_false, Bool.false_and, List.append_nil]
  simp only [List.append_assoc]

theorem fty_at (I : In) (i : Nat) (h : I.del i = false) : (if (ikinds (iss I i)).length < (ikinds (iss I i) ++ kinds I i).length then fty I i + 1 else fty I i) = fty I (i + 1) := by
  rw [fty_step I i h, List.length_append]
  cases hk : kinds I i with
  | nil => simp
  | cons x xs => simp

theorem moBody {I : In} {X : Ar} {Br Bv B : Nat} {wM : World} {i : Nat} {vC vK : Value} {a : Act} {w : World} (C : CtxM I X Br Bv B wM) (hi : i < I.n) (fr : FrG I X Br Bv (chk I i) (fty I i) i vC vK a) (hw : MW B wM (icodes (iss I i)) (ikinds (iss I i)) vC vK w) (K : Act → World → Prop) (Q0 : Exit → Act → World → Prop)
    (hK : ∀ a' w' vC' vK', FrG I X Br Bv (chk I (i + 1)) (fty I (i + 1)) i vC' vK' a' → MW B wM (icodes (iss I (i + 1))) (ikinds (iss I (i + 1))) vC' vK' w' → K a' w' ∧ Q0 (.exit 13) a' w') :
    (moB (Tryd.f3.body.getD .skip)).wp Tryd.prog (Exit.then K Q0) a w := by
  have hn := C.F.n
  have h1 := chk_le I i
  have h2 := fty_le I i
  have h3 := iss_le I i
  have hc1 := icodes_len (iss I i)
  have hk1 := ikinds_len (iss I i)
  have hcode : (moB (Tryd.f3.body.getD .skip)) = .seq (stm 0 (moB (Tryd.f3.body.getD .skip))) (.seq (stm 1 (moB (Tryd.f3.body.getD .skip))) (.seq (stm 2 (moB (Tryd.f3.body.getD .skip))) (.seq (stm 3 (moB (Tryd.f3.body.getD .skip))) (.seq (stm 4 (moB (Tryd.f3.body.getD .skip))) (.seq (stm 5 (moB (Tryd.f3.body.getD .skip))) (.seq (stm 6 (moB (Tryd.f3.body.getD .skip))) (.seq (stm 7 (moB (Tryd.f3.body.getD .skip))) (rest 8 (moB (Tryd.f3.body.getD .skip)))))))))) := by rfl
  rw [hcode]
  clear hcode
  refine wp_seq' (m0 C hi fr hw _ _ ?_ ?_)
  · intro a' hd fr
    refine (hK a' w vC vK ?_ ?_).2
    · rw [chk_del I i hd, fty_del I i hd]; exact fr
    · rw [iss_del I i hd]; exact hw
  intro a1 hd fr
  refine wp_seq' (m1 (B := B) (wM := wM) (cs := []) (ks := []) fr (by omega) _ _ ?_)
  intro a2 fr
  refine wp_seq' (m2 fr hw _ _ ?_)
  intro a3 fr s35
  refine wp_seq' (m3 C hi fr hw s35 _ _ ?_)
  intro a4 fr s35 s36
  have l1 := len_if' (placed I i) ORPH
  have l1' := len_if' (placed I i) (I.code i)
  have l2 := len_if (never I i) CIRC
  have l2' := len_if (never I i) (I.code i)
  have l3 := len_if (badL I i) LEVL
  have l3' := len_if (badL I i) (I.code i)
  have l4 := len_if (badP I i) PATH
  have l4' := len_if (badP I i) (I.code i)
  refine wp_seq' (m4 C hi fr hw (by omega) (by omega) s35 s36 _ _ ?_)
  intro a5 w5 vC5 vK5 fr s35 s36 hw
  refine wp_seq' (m5 C hi fr hw (by simp only [List.length_append]; omega) (by simp only [List.length_append]; omega) s35 s36 _ _ ?_)
  intro a6 w6 vC6 vK6 fr s35 s36 hw
  have FIN : ∀ a w vC' vK', FrG I X Br Bv (chk I i + 1) (fty I i) i vC' vK' a → a.tmps.getD 35 undef = .int .i64 ((ikinds (iss I i)).length : Nat) → MW B wM (icodes (iss I i) ++ (kinds I i).map fun _ => I.code i) (ikinds (iss I i) ++ kinds I i) vC' vK' w → (rest 8 (moB (Tryd.f3.body.getD .skip))).wp Tryd.prog (Exit.then K Q0) a w := by
    intro a w vC' vK' fr s35 hw
    refine m8 fr hw s35 (by omega) K Q0 ?_
    intro a' fr
    refine (hK a' w vC' vK' ?_ ?_).1
    · rw [chk_step I i hd, ← fty_at I i hd]; exact fr
    · rw [icodes_step I i hd, ikinds_step I i hd]; exact hw
  cases hpl : placed I i with
  | true =>
    rw [hpl] at s36
    refine wp_seq' (m6 C hi fr hw (by simp only [List.length_append]; omega) (by simp only [List.length_append]; omega) s35 s36 _ _ ?_)
    intro a7 w7 vC7 vK7 fr s35 hw
    refine wp_seq' (m7 C hi fr hw (by simp only [List.length_append]; omega) (by simp only [List.length_append]; omega) s35 _ _ ?_)
    intro a8 w8 vC8 vK8 fr s35 hw
    rw [codes_t I i hpl, kinds_t I i hpl] at hw
    exact FIN _ _ _ _ fr s35 hw
  | false =>
    rw [hpl] at s36
    refine wp_seq' (m6n fr hw s35 s36 _ _ ?_)
    intro a7 fr s35
    refine wp_seq' (m7 C hi fr hw (by simp only [List.length_append]; omega) (by simp only [List.length_append]; omega) s35 _ _ ?_)
    intro a8 w8 vC8 vK8 fr s35 hw
    rw [codes_f I i hpl, kinds_f I i hpl] at hw
    exact FIN _ _ _ _ fr s35 hw

set_option maxHeartbeats 2000000 in
set_option maxRecDepth 100000 in
theorem moTail {I : In} {X : Ar} {Br Bv nc nf i : Nat} {vC vK : Value} {a : Act} {w : World} (fr : FrG I X Br Bv nc nf i vC vK a) (hi : i < I.n) (hn : I.n ≤ 4096) (K : Act → World → Prop) (Q0 : Exit → Act → World → Prop)
    (hK : ∀ a', FrG I X Br Bv nc nf (i + 1) vC vK a' → K a' w) : (sB (sB (moL (Tryd.f3.body.getD .skip)))).wp Tryd.prog (Exit.then K Q0) a w := by
  obtain ⟨f, rfl, hf⟩ := lit559 a fr.size fr.defers
  have e0 := (hf 0).symm.trans fr.s0
  have e1 := (hf 1).symm.trans fr.s1
  have e2 := (hf 2).symm.trans fr.s2
  have e3 := (hf 3).symm.trans fr.s3
  have e4 := (hf 4).symm.trans fr.s4
  have e5 := (hf 5).symm.trans fr.s5
  have e6 := (hf 6).symm.trans fr.s6
  have e7 := (hf 7).symm.trans fr.s7
  have e21 := (hf 21).symm.trans fr.s21
  have e26 := (hf 26).symm.trans fr.s26
  have e27 := (hf 27).symm.trans fr.s27
  have e30 := (hf 30).symm.trans fr.s30
  have e31 := (hf 31).symm.trans fr.s31
  have e32 := (hf 32).symm.trans fr.s32
  have e33 := (hf 33).symm.trans fr.s33
  have e34 := (hf 34).symm.trans fr.s34
  clear fr hf 
  simp only [e0, e1, e2, e3, e4, e5, e6, e7, e21, e26, e27, e30, e31, e32, e33, e34]
  clear e0 e1 e2 e3 e4 e5 e6 e7 e21 e26 e27 e30 e31 e32 e33 e34
  conv => arg 2; whnf
  go_wp2_with fail
  exact ⟨rfl, rfl, rfl, rfl, rfl, rfl, rfl, rfl, rfl, rfl, rfl, rfl, rfl, rfl, rfl, rfl, rfl, (by first | rfl | go_num)⟩

set_option maxHeartbeats 2000000 in
set_option maxRecDepth 100000 in
theorem moTest {I : In} {X : Ar} {Br Bv nc nf i : Nat} {vC vK : Value} {a : Act} {w : World} (fr : FrG I X Br Bv nc nf i vC vK a) (hle : i ≤ I.n) (Tl : Code) (Q : Exit → Act → World → Prop)
    (hX : ∀ a', i = I.n → FrG I X Br Bv nc nf i vC vK a' → Q (.exit 12) a' w) (hK : ∀ a', i < I.n → FrG I X Br Bv nc nf i vC vK a' → Tl.wp Tryd.prog Q a' w) :
    (Code.seq (sA (moL (Tryd.f3.body.getD .skip))) Tl).wp Tryd.prog Q a w := by
  obtain ⟨f, rfl, hf⟩ := lit559 a fr.size fr.defers
  have e0 := (hf 0).symm.trans fr.s0
  have e1 := (hf 1).symm.trans fr.s1
  have e2 := (hf 2).symm.trans fr.s2
  have e3 := (hf 3).symm.trans fr.s3
  have e4 := (hf 4).symm.trans fr.s4
  have e5 := (hf 5).symm.trans fr.s5
  have e6 := (hf 6).symm.trans fr.s6
  have e7 := (hf 7).symm.trans fr.s7
  have e21 := (hf 21).symm.trans fr.s21
  have e26 := (hf 26).symm.trans fr.s26
  have e27 := (hf 27).symm.trans fr.s27
  have e30 := (hf 30).symm.trans fr.s30
  have e31 := (hf 31).symm.trans fr.s31
  have e32 := (hf 32).symm.trans fr.s32
  have e33 := (hf 33).symm.trans fr.s33
  have e34 := (hf 34).symm.trans fr.s34
  clear fr hf 
  simp only [e0, e1, e2, e3, e4, e5, e6, e7, e21, e26, e27, e30, e31, e32, e33, e34]
  clear e0 e1 e2 e3 e4 e5 e6 e7 e21 e26 e27 e30 e31 e32 e33 e34
  by_cases hi : i < I.n
  · have hi' : (i : Int) < I.n := by omega
    have HK : ∀ a', FrG I X Br Bv nc nf i vC vK a' → Tl.wp Tryd.prog Q a' w := fun a' => hK a' hi
    clear hX hK
    conv => arg 2; arg 1; whnf
    go_wp2_with fail
    exact HK _ ⟨rfl, rfl, rfl, rfl, rfl, rfl, rfl, rfl, rfl, rfl, rfl, rfl, rfl, rfl, rfl, rfl, rfl, rfl⟩
  · have hi' : ¬ (i : Int) < I.n := by omega
    have HX : ∀ a', FrG I X Br Bv nc nf i vC vK a' → Q (.exit 12) a' w := fun a' => hX a' (by omega)
    clear hX hK
    conv => arg 2; arg 1; whnf
    go_wp2_with fail
    exact ⟨rfl, rfl, rfl, rfl, rfl, rfl, rfl, rfl, rfl, rfl, rfl, rfl, rfl, rfl, rfl, rfl, rfl, rfl⟩

/-- Between two rounds. -/
def MK (I : In) (X : Ar) (Br Bv B : Nat) (wM : World) (i : Nat) (a : Act) (w : World) : Prop := ∃ vC vK, FrG I X Br Bv (chk I i) (fty I i) i vC vK a ∧ MW B wM (icodes (iss I i)) (ikinds (iss I i)) vC vK w

theorem moLoop {I : In} {X : Ar} {Br Bv B : Nat} {wM : World} {a : Act} {w : World} (C : CtxM I X Br Bv B wM) (h : MK I X Br Bv B wM 0 a w) (Q0 : Exit → Act → World → Prop)
    (hX : ∀ a' w', MK I X Br Bv B wM I.n a' w' → Q0 (.exit 12) a' w') :
    (Code.loop (moL (Tryd.f3.body.getD .skip))).wp Tryd.prog Q0 a w := by
  refine wp_loop_ghost (fun z a w => ∃ i, MK I X Br Bv B wM i a w ∧ i ≤ I.n ∧ I.n - i = z) I.n ⟨0, h, Nat.zero_le _, by omega⟩ ?_
  rintro z a w ⟨i, ⟨vC, vK, fr, hw⟩, le, rfl⟩
  have hcode : (moL (Tryd.f3.body.getD .skip)) = .seq (sA (moL (Tryd.f3.body.getD .skip))) (.seq (.block 13 (moB (Tryd.f3.body.getD .skip))) (sB (sB (moL (Tryd.f3.body.getD .skip))))) := by rfl
  rw [hcode]
  clear hcode
  refine moTest fr le _ _ ?_ ?_
  · rintro a' rfl fr
    exact hX a' w ⟨vC, vK, fr, hw⟩
  intro a1 hi fr
  have FIN : ∀ a w vC' vK', FrG I X Br Bv (chk I (i + 1)) (fty I (i + 1)) i vC' vK' a → MW B wM (icodes (iss I (i + 1))) (ikinds (iss I (i + 1))) vC' vK' w → (sB (sB (moL (Tryd.f3.body.getD .skip)))).wp Tryd.prog (Exit.then (fun a w => ∃ z', z' < I.n - i ∧ ∃ j, MK I X Br Bv B wM j a w ∧ j ≤ I.n ∧ I.n - j = z') Q0) a w := by
    intro a w vC' vK' fr hw
    exact moTail fr hi C.F.n _ _ fun a' fr => ⟨I.n - (i + 1), by omega, i + 1, ⟨vC', vK', fr, hw⟩, hi, rfl⟩
  refine wp_seq' (wp_block ?_)
  refine wp_block_then (moBody C hi fr hw _ _ ?_)
  intro a w vC' vK' fr hw
  exact ⟨FIN a w vC' vK' fr hw, inBlock_own (FIN a w vC' vK' fr hw)⟩

set_option maxHeartbeats 2000000 in
set_option maxRecDepth 100000 in
theorem l20 {I : In} {X : Ar} {Br Bv B : Nat} {wM : World} {vC vK : Value} {a : Act} {w : World} (C : CtxM I X Br Bv B wM) (fr : FrB I X a) (s26 : a.tmps.getD 26 undef = .pointer (some ⟨Br, 0, none⟩)) (s27 : a.tmps.getD 27 undef = .slice (some ⟨Bv, 0, none⟩) I.n I.n) (s30 : a.tmps.getD 30 undef = .int .i64 ((0 : Nat) : Int)) (s31 : a.tmps.getD 31 undef = .int .i64 ((0 : Nat) : Int)) (s32 : a.tmps.getD 32 undef = vC) (s33 : a.tmps.getD 33 undef = vK) (hw : MW B wM [] [] vC vK w) (K : Act → World → Prop) (Q0 : Exit → Act → World → Prop)
    (hK : ∀ a' w', MK I X Br Bv B wM I.n a' w' → K a' w') : (stm 20 (Tryd.f3.body.getD .skip)).wp Tryd.prog (Exit.then K Q0) a w := by
  obtain ⟨f, rfl, hf⟩ := lit559 a fr.size fr.defers
  have e0 := (hf 0).symm.trans fr.s0
  have e1 := (hf 1).symm.trans fr.s1
  have e2 := (hf 2).symm.trans fr.s2
  have e3 := (hf 3).symm.trans fr.s3
  have e4 := (hf 4).symm.trans fr.s4
  have e5 := (hf 5).symm.trans fr.s5
  have e6 := (hf 6).symm.trans fr.s6
  have e7 := (hf 7).symm.trans fr.s7
  have e21 := (hf 21).symm.trans fr.s21
  have e26 := (hf 26).symm.trans s26
  have e27 := (hf 27).symm.trans s27
  have e30 := (hf 30).symm.trans s30
  have e31 := (hf 31).symm.trans s31
  have e32 := (hf 32).symm.trans s32
  have e33 := (hf 33).symm.trans s33
  clear fr hf s26 s27 s30 s31 s32 s33
  simp only [e0, e1, e2, e3, e4, e5, e6, e7, e21, e26, e27, e30, e31, e32, e33]
  clear e0 e1 e2 e3 e4 e5 e6 e7 e21 e26 e27 e30 e31 e32 e33
  conv => arg 2; whnf
  go_wp2_with fail
  exact moLoop C ⟨vC, vK, ⟨rfl, rfl, rfl, rfl, rfl, rfl, rfl, rfl, rfl, rfl, rfl, rfl, rfl, rfl, rfl, rfl, rfl, rfl⟩, hw⟩ _ (fun a' w' h => hK a' w' h)

end Go.Proofs.Qxb6612928aDoor.H
