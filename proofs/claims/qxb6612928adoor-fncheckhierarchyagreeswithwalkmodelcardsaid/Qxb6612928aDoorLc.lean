/-
  The law: the loops over the strings.
-/
import Derived.Test.Qxb6612928aDoorLa
namespace Go.Proofs.Qxb6612928aDoor.H
open Go.RowKit Go.Maps
set_option linter.unusedVariables false

def szL0 (c : Code) : Code := lC (bC (sB (stm 4 c)))

set_option maxHeartbeats 2000000 in
set_option maxRecDepth 100000 in
theorem szRound0 {I : In} {X : Ar} {a : Act} {w : World} {s : Int} {i : Nat} (fr : FrA I X a) (s17 : a.tmps.getD 17 undef = .int .i64 s) (s18 : a.tmps.getD 18 undef = .int .i64 i) (hs0 : 0 ≤ s) (hs1 : s ≤ 2097152) (hn : X.n3 ≤ 4096) (hA : Arr w X.a3 X.n3 fun j => .string (I.name j)) (hb : ∀ j, j < X.n3 → (I.name j).size ≤ 1048576) (hi : i ≤ X.n3) (K : Act → World → Prop) (Q0 : Exit → Act → World → Prop)
    (hX : ∀ a', FrA I X a' → a'.tmps.getD 17 undef = .int .i64 s → Q0 (.exit 0) a' w) (hK : ∀ a' s', i < X.n3 → 0 ≤ s' → s' ≤ 2097152 → FrA I X a' → a'.tmps.getD 17 undef = .int .i64 s' → a'.tmps.getD 18 undef = .int .i64 ((i + 1 : Nat) : Int) → K a' w) :
    (szL0 (Tryd.f3.body.getD .skip)).wp Tryd.prog (Exit.then K Q0) a w := by
  obtain ⟨f, rfl, hf⟩ := lit559 a fr.size fr.defers
  have e0 := (hf 0).symm.trans fr.s0
  have e1 := (hf 1).symm.trans fr.s1
  have e2 := (hf 2).symm.trans fr.s2
  have e3 := (hf 3).symm.trans fr.s3
  have e4 := (hf 4).symm.trans fr.s4
  have e5 := (hf 5).symm.trans fr.s5
  have e6 := (hf 6).symm.trans fr.s6
  have e7 := (hf 7).symm.trans fr.s7
  have e17 := (hf 17).symm.trans s17
  have e18 := (hf 18).symm.trans s18
  clear fr hf s17 s18
  simp only [e0, e1, e2, e3, e4, e5, e6, e7, e17, e18]
  clear e0 e1 e2 e3 e4 e5 e6 e7 e17 e18
  by_cases hlt : i < X.n3
  · have hlt' : (i : Int) < X.n3 := by omega
    by_cases hs : s ≤ 1048576
    · obtain ⟨ad, ha, hc⟩ := hA (by omega)
      have hcell := hc i hlt
      have hbi := hb i hlt
      have hbi' : ¬ (1048576 : Int) < (I.name i).size := by omega
      have HK : ∀ a', FrA I X a' → a'.tmps.getD 17 undef = .int .i64 (s + (I.name i).size) → a'.tmps.getD 18 undef = .int .i64 ((i + 1 : Nat) : Int) → K a' w := fun a' => hK a' _ hlt (by omega) (by omega)
      clear hX hK hc hA hb
      rw [ha]
      conv => arg 2; whnf
      go_wp2_with fail
      exact HK _ ⟨rfl, rfl, rfl, rfl, rfl, by rw [ha]; rfl, rfl, rfl, rfl, rfl⟩ (by first | rfl | go_num) (by first | rfl | go_num)
    · have hs' : ¬ s ≤ 1048576 := hs
      clear hK
      conv => arg 2; whnf
      go_wp2_with fail
      exact hX _ ⟨rfl, rfl, rfl, rfl, rfl, rfl, rfl, rfl, rfl, rfl⟩ rfl
  · have hlt' : ¬ (i : Int) < X.n3 := by omega
    clear hK
    conv => arg 2; whnf
    go_wp2_with fail
    exact hX _ ⟨rfl, rfl, rfl, rfl, rfl, rfl, rfl, rfl, rfl, rfl⟩ rfl

theorem szLoop0 {I : In} {X : Ar} {a : Act} {w : World} {s : Int} (fr : FrA I X a) (s17 : a.tmps.getD 17 undef = .int .i64 s) (sx : a.tmps.getD 18 undef = .int .i64 ((0 : Nat) : Int)) (hs0 : 0 ≤ s) (hs1 : s ≤ 2097152) (hn : X.n3 ≤ 4096) (hA : Arr w X.a3 X.n3 fun j => .string (I.name j)) (hb : ∀ j, j < X.n3 → (I.name j).size ≤ 1048576) (Q0 : Exit → Act → World → Prop)
    (hX : ∀ a' s', 0 ≤ s' → s' ≤ 2097152 → FrA I X a' → a'.tmps.getD 17 undef = .int .i64 s' → Q0 (.exit 0) a' w) :
    (Code.loop (szL0 (Tryd.f3.body.getD .skip))).wp Tryd.prog Q0 a w := by
  refine wp_loop_ghost (fun z a w' => w' = w ∧ ∃ i s, FrA I X a ∧ a.tmps.getD 17 undef = .int .i64 s ∧ a.tmps.getD 18 undef = .int .i64 ((i : Nat) : Int) ∧ 0 ≤ s ∧ s ≤ 2097152 ∧ i ≤ X.n3 ∧ X.n3 - i = z) X.n3 ⟨rfl, 0, s, fr, s17, sx, hs0, hs1, Nat.zero_le _, by omega⟩ ?_
  rintro z a w' ⟨rfl, i, s, fr, s17, sx, hs0, hs1, hi, rfl⟩
  exact szRound0 fr s17 sx hs0 hs1 hn hA hb hi _ Q0 (fun a' fr' h17 => hX a' s hs0 hs1 fr' h17) (fun a' s' hlt h0 h1 fr' h17 hx => ⟨X.n3 - (i + 1), by omega, rfl, i + 1, s', fr', h17, hx, h0, h1, hlt, rfl⟩)

set_option maxHeartbeats 2000000 in
set_option maxRecDepth 100000 in
theorem l4 {I : In} {X : Ar} {a : Act} {w : World} {s : Int} (fr : FrA I X a) (s17 : a.tmps.getD 17 undef = .int .i64 s) (hs0 : 0 ≤ s) (hs1 : s ≤ 2097152) (hn : X.n3 ≤ 4096) (hA : Arr w X.a3 X.n3 fun j => .string (I.name j)) (hb : ∀ j, j < X.n3 → (I.name j).size ≤ 1048576) (K : Act → World → Prop) (Q0 : Exit → Act → World → Prop)
    (hK : ∀ a' s', 0 ≤ s' → s' ≤ 2097152 → FrA I X a' → a'.tmps.getD 17 undef = .int .i64 s' → K a' w) : (stm 4 (Tryd.f3.body.getD .skip)).wp Tryd.prog (Exit.then K Q0) a w := by
  obtain ⟨f, rfl, hf⟩ := lit559 a fr.size fr.defers
  have e0 := (hf 0).symm.trans fr.s0
  have e1 := (hf 1).symm.trans fr.s1
  have e2 := (hf 2).symm.trans fr.s2
  have e3 := (hf 3).symm.trans fr.s3
  have e4 := (hf 4).symm.trans fr.s4
  have e5 := (hf 5).symm.trans fr.s5
  have e6 := (hf 6).symm.trans fr.s6
  have e7 := (hf 7).symm.trans fr.s7
  have e17 := (hf 17).symm.trans s17
  clear fr hf s17
  simp only [e0, e1, e2, e3, e4, e5, e6, e7, e17]
  clear e0 e1 e2 e3 e4 e5 e6 e7 e17
  conv => arg 2; whnf
  go_wp2_with fail
  exact szLoop0 ⟨rfl, rfl, rfl, rfl, rfl, rfl, rfl, rfl, rfl, rfl⟩ rfl rfl hs0 hs1 hn hA hb _ (fun a' s' h0 h1 fr' h17 => hK a' s' h0 h1 fr' h17)

def szL1 (c : Code) : Code := lC (bC (sB (stm 5 c)))

set_option maxHeartbeats 2000000 in
set_option maxRecDepth 100000 in
theorem szRound1 {I : In} {X : Ar} {a : Act} {w : World} {s : Int} {i : Nat} (fr : FrA I X a) (s17 : a.tmps.getD 17 undef = .int .i64 s) (s19 : a.tmps.getD 19 undef = .int .i64 i) (hs0 : 0 ≤ s) (hs1 : s ≤ 2097152) (hn : X.n5 ≤ 4096) (hA : Arr w X.a5 X.n5 fun j => .string (I.cp j)) (hb : ∀ j, j < X.n5 → (I.cp j).size ≤ 1048576) (hi : i ≤ X.n5) (K : Act → World → Prop) (Q0 : Exit → Act → World → Prop)
    (hX : ∀ a', FrA I X a' → a'.tmps.getD 17 undef = .int .i64 s → Q0 (.exit 2) a' w) (hK : ∀ a' s', i < X.n5 → 0 ≤ s' → s' ≤ 2097152 → FrA I X a' → a'.tmps.getD 17 undef = .int .i64 s' → a'.tmps.getD 19 undef = .int .i64 ((i + 1 : Nat) : Int) → K a' w) :
    (szL1 (Tryd.f3.body.getD .skip)).wp Tryd.prog (Exit.then K Q0) a w := by
  obtain ⟨f, rfl, hf⟩ := lit559 a fr.size fr.defers
  have e0 := (hf 0).symm.trans fr.s0
  have e1 := (hf 1).symm.trans fr.s1
  have e2 := (hf 2).symm.trans fr.s2
  have e3 := (hf 3).symm.trans fr.s3
  have e4 := (hf 4).symm.trans fr.s4
  have e5 := (hf 5).symm.trans fr.s5
  have e6 := (hf 6).symm.trans fr.s6
  have e7 := (hf 7).symm.trans fr.s7
  have e17 := (hf 17).symm.trans s17
  have e19 := (hf 19).symm.trans s19
  clear fr hf s17 s19
  simp only [e0, e1, e2, e3, e4, e5, e6, e7, e17, e19]
  clear e0 e1 e2 e3 e4 e5 e6 e7 e17 e19
  by_cases hlt : i < X.n5
  · have hlt' : (i : Int) < X.n5 := by omega
    by_cases hs : s ≤ 1048576
    · obtain ⟨ad, ha, hc⟩ := hA (by omega)
      have hcell := hc i hlt
      have hbi := hb i hlt
      have hbi' : ¬ (1048576 : Int) < (I.cp i).size := by omega
      have HK : ∀ a', FrA I X a' → a'.tmps.getD 17 undef = .int .i64 (s + (I.cp i).size) → a'.tmps.getD 19 undef = .int .i64 ((i + 1 : Nat) : Int) → K a' w := fun a' => hK a' _ hlt (by omega) (by omega)
      clear hX hK hc hA hb
      rw [ha]
      conv => arg 2; whnf
      go_wp2_with fail
      exact HK _ ⟨rfl, rfl, rfl, rfl, rfl, rfl, rfl, by rw [ha]; rfl, rfl, rfl⟩ (by first | rfl | go_num) (by first | rfl | go_num)
    · have hs' : ¬ s ≤ 1048576 := hs
      clear hK
      conv => arg 2; whnf
      go_wp2_with fail
      exact hX _ ⟨rfl, rfl, rfl, rfl, rfl, rfl, rfl, rfl, rfl, rfl⟩ rfl
  · have hlt' : ¬ (i : Int) < X.n5 := by omega
    clear hK
    conv => arg 2; whnf
    go_wp2_with fail
    exact hX _ ⟨rfl, rfl, rfl, rfl, rfl, rfl, rfl, rfl, rfl, rfl⟩ rfl

theorem szLoop1 {I : In} {X : Ar} {a : Act} {w : World} {s : Int} (fr : FrA I X a) (s17 : a.tmps.getD 17 undef = .int .i64 s) (sx : a.tmps.getD 19 undef = .int .i64 ((0 : Nat) : Int)) (hs0 : 0 ≤ s) (hs1 : s ≤ 2097152) (hn : X.n5 ≤ 4096) (hA : Arr w X.a5 X.n5 fun j => .string (I.cp j)) (hb : ∀ j, j < X.n5 → (I.cp j).size ≤ 1048576) (Q0 : Exit → Act → World → Prop)
    (hX : ∀ a' s', 0 ≤ s' → s' ≤ 2097152 → FrA I X a' → a'.tmps.getD 17 undef = .int .i64 s' → Q0 (.exit 2) a' w) :
    (Code.loop (szL1 (Tryd.f3.body.getD .skip))).wp Tryd.prog Q0 a w := by
  refine wp_loop_ghost (fun z a w' => w' = w ∧ ∃ i s, FrA I X a ∧ a.tmps.getD 17 undef = .int .i64 s ∧ a.tmps.getD 19 undef = .int .i64 ((i : Nat) : Int) ∧ 0 ≤ s ∧ s ≤ 2097152 ∧ i ≤ X.n5 ∧ X.n5 - i = z) X.n5 ⟨rfl, 0, s, fr, s17, sx, hs0, hs1, Nat.zero_le _, by omega⟩ ?_
  rintro z a w' ⟨rfl, i, s, fr, s17, sx, hs0, hs1, hi, rfl⟩
  exact szRound1 fr s17 sx hs0 hs1 hn hA hb hi _ Q0 (fun a' fr' h17 => hX a' s hs0 hs1 fr' h17) (fun a' s' hlt h0 h1 fr' h17 hx => ⟨X.n5 - (i + 1), by omega, rfl, i + 1, s', fr', h17, hx, h0, h1, hlt, rfl⟩)

set_option maxHeartbeats 2000000 in
set_option maxRecDepth 100000 in
theorem l5 {I : In} {X : Ar} {a : Act} {w : World} {s : Int} (fr : FrA I X a) (s17 : a.tmps.getD 17 undef = .int .i64 s) (hs0 : 0 ≤ s) (hs1 : s ≤ 2097152) (hn : X.n5 ≤ 4096) (hA : Arr w X.a5 X.n5 fun j => .string (I.cp j)) (hb : ∀ j, j < X.n5 → (I.cp j).size ≤ 1048576) (K : Act → World → Prop) (Q0 : Exit → Act → World → Prop)
    (hK : ∀ a' s', 0 ≤ s' → s' ≤ 2097152 → FrA I X a' → a'.tmps.getD 17 undef = .int .i64 s' → K a' w) : (stm 5 (Tryd.f3.body.getD .skip)).wp Tryd.prog (Exit.then K Q0) a w := by
  obtain ⟨f, rfl, hf⟩ := lit559 a fr.size fr.defers
  have e0 := (hf 0).symm.trans fr.s0
  have e1 := (hf 1).symm.trans fr.s1
  have e2 := (hf 2).symm.trans fr.s2
  have e3 := (hf 3).symm.trans fr.s3
  have e4 := (hf 4).symm.trans fr.s4
  have e5 := (hf 5).symm.trans fr.s5
  have e6 := (hf 6).symm.trans fr.s6
  have e7 := (hf 7).symm.trans fr.s7
  have e17 := (hf 17).symm.trans s17
  clear fr hf s17
  simp only [e0, e1, e2, e3, e4, e5, e6, e7, e17]
  clear e0 e1 e2 e3 e4 e5 e6 e7 e17
  conv => arg 2; whnf
  go_wp2_with fail
  exact szLoop1 ⟨rfl, rfl, rfl, rfl, rfl, rfl, rfl, rfl, rfl, rfl⟩ rfl rfl hs0 hs1 hn hA hb _ (fun a' s' h0 h1 fr' h17 => hK a' s' h0 h1 fr' h17)

def szL2 (c : Code) : Code := lC (bC (sB (stm 6 c)))

set_option maxHeartbeats 2000000 in
set_option maxRecDepth 100000 in
theorem szRound2 {I : In} {X : Ar} {a : Act} {w : World} {s : Int} {i : Nat} (fr : FrA I X a) (s17 : a.tmps.getD 17 undef = .int .i64 s) (s20 : a.tmps.getD 20 undef = .int .i64 i) (hs0 : 0 ≤ s) (hs1 : s ≤ 2097152) (hn : X.n6 ≤ 4096) (hA : Arr w X.a6 X.n6 fun j => .string (I.np j)) (hb : ∀ j, j < X.n6 → (I.np j).size ≤ 1048576) (hi : i ≤ X.n6) (K : Act → World → Prop) (Q0 : Exit → Act → World → Prop)
    (hX : ∀ a', FrA I X a' → a'.tmps.getD 17 undef = .int .i64 s → Q0 (.exit 4) a' w) (hK : ∀ a' s', i < X.n6 → 0 ≤ s' → s' ≤ 2097152 → FrA I X a' → a'.tmps.getD 17 undef = .int .i64 s' → a'.tmps.getD 20 undef = .int .i64 ((i + 1 : Nat) : Int) → K a' w) :
    (szL2 (Tryd.f3.body.getD .skip)).wp Tryd.prog (Exit.then K Q0) a w := by
  obtain ⟨f, rfl, hf⟩ := lit559 a fr.size fr.defers
  have e0 := (hf 0).symm.trans fr.s0
  have e1 := (hf 1).symm.trans fr.s1
  have e2 := (hf 2).symm.trans fr.s2
  have e3 := (hf 3).symm.trans fr.s3
  have e4 := (hf 4).symm.trans fr.s4
  have e5 := (hf 5).symm.trans fr.s5
  have e6 := (hf 6).symm.trans fr.s6
  have e7 := (hf 7).symm.trans fr.s7
  have e17 := (hf 17).symm.trans s17
  have e20 := (hf 20).symm.trans s20
  clear fr hf s17 s20
  simp only [e0, e1, e2, e3, e4, e5, e6, e7, e17, e20]
  clear e0 e1 e2 e3 e4 e5 e6 e7 e17 e20
  by_cases hlt : i < X.n6
  · have hlt' : (i : Int) < X.n6 := by omega
    by_cases hs : s ≤ 1048576
    · obtain ⟨ad, ha, hc⟩ := hA (by omega)
      have hcell := hc i hlt
      have hbi := hb i hlt
      have hbi' : ¬ (1048576 : Int) < (I.np i).size := by omega
      have HK : ∀ a', FrA I X a' → a'.tmps.getD 17 undef = .int .i64 (s + (I.np i).size) → a'.tmps.getD 20 undef = .int .i64 ((i + 1 : Nat) : Int) → K a' w := fun a' => hK a' _ hlt (by omega) (by omega)
      clear hX hK hc hA hb
      rw [ha]
      conv => arg 2; whnf
      go_wp2_with fail
      exact HK _ ⟨rfl, rfl, rfl, rfl, rfl, rfl, rfl, rfl, by rw [ha]; rfl, rfl⟩ (by first | rfl | go_num) (by first | rfl | go_num)
    · have hs' : ¬ s ≤ 1048576 := hs
      clear hK
      conv => arg 2; whnf
      go_wp2_with fail
      exact hX _ ⟨rfl, rfl, rfl, rfl, rfl, rfl, rfl, rfl, rfl, rfl⟩ rfl
  · have hlt' : ¬ (i : Int) < X.n6 := by omega
    clear hK
    conv => arg 2; whnf
    go_wp2_with fail
    exact hX _ ⟨rfl, rfl, rfl, rfl, rfl, rfl, rfl, rfl, rfl, rfl⟩ rfl

theorem szLoop2 {I : In} {X : Ar} {a : Act} {w : World} {s : Int} (fr : FrA I X a) (s17 : a.tmps.getD 17 undef = .int .i64 s) (sx : a.tmps.getD 20 undef = .int .i64 ((0 : Nat) : Int)) (hs0 : 0 ≤ s) (hs1 : s ≤ 2097152) (hn : X.n6 ≤ 4096) (hA : Arr w X.a6 X.n6 fun j => .string (I.np j)) (hb : ∀ j, j < X.n6 → (I.np j).size ≤ 1048576) (Q0 : Exit → Act → World → Prop)
    (hX : ∀ a' s', 0 ≤ s' → s' ≤ 2097152 → FrA I X a' → a'.tmps.getD 17 undef = .int .i64 s' → Q0 (.exit 4) a' w) :
    (Code.loop (szL2 (Tryd.f3.body.getD .skip))).wp Tryd.prog Q0 a w := by
  refine wp_loop_ghost (fun z a w' => w' = w ∧ ∃ i s, FrA I X a ∧ a.tmps.getD 17 undef = .int .i64 s ∧ a.tmps.getD 20 undef = .int .i64 ((i : Nat) : Int) ∧ 0 ≤ s ∧ s ≤ 2097152 ∧ i ≤ X.n6 ∧ X.n6 - i = z) X.n6 ⟨rfl, 0, s, fr, s17, sx, hs0, hs1, Nat.zero_le _, by omega⟩ ?_
  rintro z a w' ⟨rfl, i, s, fr, s17, sx, hs0, hs1, hi, rfl⟩
  exact szRound2 fr s17 sx hs0 hs1 hn hA hb hi _ Q0 (fun a' fr' h17 => hX a' s hs0 hs1 fr' h17) (fun a' s' hlt h0 h1 fr' h17 hx => ⟨X.n6 - (i + 1), by omega, rfl, i + 1, s', fr', h17, hx, h0, h1, hlt, rfl⟩)

set_option maxHeartbeats 2000000 in
set_option maxRecDepth 100000 in
theorem l6 {I : In} {X : Ar} {a : Act} {w : World} {s : Int} (fr : FrA I X a) (s17 : a.tmps.getD 17 undef = .int .i64 s) (hs0 : 0 ≤ s) (hs1 : s ≤ 2097152) (hn : X.n6 ≤ 4096) (hA : Arr w X.a6 X.n6 fun j => .string (I.np j)) (hb : ∀ j, j < X.n6 → (I.np j).size ≤ 1048576) (K : Act → World → Prop) (Q0 : Exit → Act → World → Prop)
    (hK : ∀ a' s', 0 ≤ s' → s' ≤ 2097152 → FrA I X a' → a'.tmps.getD 17 undef = .int .i64 s' → K a' w) : (stm 6 (Tryd.f3.body.getD .skip)).wp Tryd.prog (Exit.then K Q0) a w := by
  obtain ⟨f, rfl, hf⟩ := lit559 a fr.size fr.defers
  have e0 := (hf 0).symm.trans fr.s0
  have e1 := (hf 1).symm.trans fr.s1
  have e2 := (hf 2).symm.trans fr.s2
  have e3 := (hf 3).symm.trans fr.s3
  have e4 := (hf 4).symm.trans fr.s4
  have e5 := (hf 5).symm.trans fr.s5
  have e6 := (hf 6).symm.trans fr.s6
  have e7 := (hf 7).symm.trans fr.s7
  have e17 := (hf 17).symm.trans s17
  clear fr hf s17
  simp only [e0, e1, e2, e3, e4, e5, e6, e7, e17]
  clear e0 e1 e2 e3 e4 e5 e6 e7 e17
  conv => arg 2; whnf
  go_wp2_with fail
  exact szLoop2 ⟨rfl, rfl, rfl, rfl, rfl, rfl, rfl, rfl, rfl, rfl⟩ rfl rfl hs0 hs1 hn hA hb _ (fun a' s' h0 h1 fr' h17 => hK a' s' h0 h1 fr' h17)

end Go.Proofs.Qxb6612928aDoor.H
