/-
  The law: the report, and the model's parents.
-/
import Derived.Test.Qxb6612928aDoorLe
import Derived.Deep.OwnRows
namespace Go.Proofs.Qxb6612928aDoor.H
open Go.RowKit Go.Maps
set_option linter.unusedVariables false

/-- The report lies in block Br. -/
structure Rep (I : In) (B Br : Nat) (vI : Value) (w : World) : Prop where
  sz : w.heap.size = Br + 1
  c0 : w.cell? ⟨Br, 0, none⟩ = some (.int .i64 (chk I I.n))
  c1 : w.cell? ⟨Br, 1, none⟩ = some (.int .i64 (fty I I.n))
  c2 : w.cell? ⟨Br, 2, none⟩ = some vI
  row : w.ownsRow B 51 2 vI (iss I I.n).length (issCells (iss I I.n))

set_option maxHeartbeats 2000000 in
set_option maxRecDepth 100000 in
theorem l13 {I : In} {X : Ar} {a : Act} {w : World} {Bu : Nat} {w1 : World} {pp : Nat → Nat} (fr : FrB I X a) (s23 : a.tmps.getD 23 undef = .slice (some ⟨Bu, 0, none⟩) I.n I.n) (F : Fits I) (Fl : Fill I Bu w1 pp I.n w) (Tb : Tab w) (K : Act → World → Prop) (Q0 : Exit → Act → World → Prop)
    (hK : ∀ a' w' Br vI, Below w.heap.size w w' → Rep I w.heap.size Br vI w' → FrB I X a' → a'.tmps.getD 26 undef = .pointer (some ⟨Br, 0, none⟩) → K a' w') : (stm 13 (Tryd.f3.body.getD .skip)).wp Tryd.prog (Exit.then K Q0) a w := by
  obtain ⟨f, rfl, hf⟩ := lit559 a fr.size fr.defers
  have e0 := (hf 0).symm.trans fr.s0
  have e1 := (hf 1).symm.trans fr.s1
  have e2 := (hf 2).symm.trans fr.s2
  have e3 := (hf 3).symm.trans fr.s3
  have e4 := (hf 4).symm.trans fr.s4
  have e5 := (hf 5).symm.trans fr.s5
  have e6 := (hf 6).symm.trans fr.s6
  have e7 := (hf 7).symm.trans fr.s7
  have e21 := (hf 21).symm.trans fr.s21
  have e23 := (hf 23).symm.trans s23
  clear fr hf s23
  simp only [e0, e1, e2, e3, e4, e5, e6, e7, e21, e23]
  clear e0 e1 e2 e3 e4 e5 e6 e7 e21 e23
  have HC := checkH (cap := I.n) F Fl.units (Nat.le_refl _) Tb
  conv => arg 2; whnf
  go_wp2_with fail
  refine HC.mono ?_
  rintro e w2 ⟨vI, rfl, hrow, hb⟩
  clear HC
  obtain ⟨ao, cp, rfl⟩ := ownsRow_shape hrow
  have hl := heap_alloc_last w2 (.cells #[.int .i64 (chk I I.n), .int .i64 (fty I I.n), .slice ao (iss I I.n).length cp] 43)
  have hR : Rep I w.heap.size w2.heap.size (.slice ao (iss I I.n).length cp) (w2.alloc (.cells #[.int .i64 (chk I I.n), .int .i64 (fty I I.n), .slice ao (iss I I.n).length cp] 43)) :=
    ⟨by simp, cell_of_heap hl rfl, cell_of_heap hl rfl, cell_of_heap hl rfl, hrow.alloc _⟩
  have hb2 : Below w.heap.size w (w2.alloc (.cells #[.int .i64 (chk I I.n), .int .i64 (fty I I.n), .slice ao (iss I I.n).length cp] 43)) := hb.alloc hb.size _
  clear hl
  go_wp2_with fail
  exact hK _ _ _ _ hb2 hR ⟨rfl, rfl, rfl, rfl, rfl, rfl, rfl, rfl, rfl, rfl, rfl⟩ rfl

theorem info3 : (Tryd.prog.info? 3).map (fun i => (i.zero, i.size, i.bytes)) = some (some (.int .i64 0), 1, 8) := by kernel_rfl

/-- The model's slice 'valid', behind i rounds. -/
structure Val (I : In) (Bv : Nat) (wV : World) (i : Nat) (w : World) : Prop where
  below : Below Bv wV w
  lt : Bv < w.heap.size
  at' : ∀ j, j < I.n → w.cell? ⟨Bv, j, none⟩ = some (.int .i64 (if j < i then vld I j else 0))
  fz : ∀ o, w.frozen? ⟨Bv, o, none⟩ = false

theorem Val.set {I : In} {Bv : Nat} {wV : World} {i : Nat} {w : World} (h : Val I Bv wV i w) (hi : i < I.n) {v : Int} (hv : v = vld I i) : Val I Bv wV (i + 1) (w.setCell ⟨Bv, i, none⟩ (.int .i64 v)) := by
  subst hv
  refine ⟨h.below.setCell (Nat.le_refl _) _, by simpa using h.lt, fun j hj => ?_, fun o => by simpa using h.fz o⟩
  by_cases e : j = i
  · subst e
    rw [if_pos (by omega)]
    exact csame (h.at' j hj)
  · refine (cother (fun e' => e (congrArg Addr.off e').symm)).trans ((h.at' j hj).trans ?_)
    by_cases hl : j < i
    · rw [if_pos hl, if_pos (by omega)]
    · rw [if_neg hl, if_neg (by omega)]

theorem Val.set2 {I : In} {Bv : Nat} {wV : World} {i : Nat} {w : World} (h : Val I Bv wV i w) (hi : i < I.n) {v : Int} (u : Int) (hv : v = vld I i) : Val I Bv wV (i + 1) ((w.setCell ⟨Bv, i, none⟩ (.int .i64 u)).setCell ⟨Bv, i, none⟩ (.int .i64 v)) := by
  have h2 := h.set hi hv
  refine ⟨(h.below.setCell (Nat.le_refl _) _).setCell (Nat.le_refl _) _, by simpa using h.lt, fun j hj => ?_, fun o => by simpa using h.fz o⟩
  have h3 := h2.at' j hj
  by_cases e : j = i
  · subst e
    rw [if_pos (by omega)] at h3 ⊢
    rw [csame (csame (h.at' j hj))]
    rw [csame (h.at' j hj)] at h3
    exact h3
  · have hne : (⟨Bv, i, none⟩ : Addr) ≠ ⟨Bv, j, none⟩ := fun e' => e (congrArg Addr.off e').symm
    rw [cother hne] at h3 ⊢
    rw [cother hne]
    exact h3

set_option maxHeartbeats 2000000 in
set_option maxRecDepth 100000 in
theorem l14 {I : In} {X : Ar} {a : Act} {w : World} {Br : Nat} (fr : FrB I X a) (s26 : a.tmps.getD 26 undef = .pointer (some ⟨Br, 0, none⟩)) (hn : I.n ≤ 4096) (K : Act → World → Prop) (Q0 : Exit → Act → World → Prop)
    (hK : ∀ a' w', Val I w.heap.size w 0 w' → FrB I X a' → a'.tmps.getD 26 undef = .pointer (some ⟨Br, 0, none⟩) → a'.tmps.getD 27 undef = .slice (some ⟨w.heap.size, 0, none⟩) I.n I.n → K a' w') : (stm 14 (Tryd.f3.body.getD .skip)).wp Tryd.prog (Exit.then K Q0) a w := by
  obtain ⟨f, rfl, hf⟩ := lit559 a fr.size fr.defers
  have e0 := (hf 0).symm.trans fr.s0
  have e1 := (hf 1).symm.trans fr.s1
  have e2 := (hf 2).symm.trans fr.s2
  have e3 := (hf 3).symm.trans fr.s3
  have e4 := (hf 4).symm.trans fr.s4
  have e5 := (hf 5).symm.trans fr.s5
  have e6 := (hf 6).symm.trans fr.s6
  have e7 := (hf 7).symm.trans fr.s7
  have e21 := (hf 21).symm.trans fr.s21
  have e26 := (hf 26).symm.trans s26
  clear fr hf s26
  simp only [e0, e1, e2, e3, e4, e5, e6, e7, e21, e26]
  clear e0 e1 e2 e3 e4 e5 e6 e7 e21 e26
  obtain ⟨i0, hi0, hz0, hz1, hz2⟩ := info_parts info3
  have hb2 : i0.bytes * I.n ≤ 281474976710656 := by rw [hz2]; omega
  have hl := heap_alloc_last w (.cells (madeCells #[.int .i64 0] I.n) 3)
  have hV : Val I w.heap.size w 0 (w.alloc (.cells (madeCells #[.int .i64 0] I.n) 3)) := by
    refine ⟨(Below.refl _ _).alloc (Nat.le_refl _) _, by simp, fun j hj => cell_of_heap hl ?_, fun o => ?_⟩
    · simp [madeCells, hj, Nat.mod_one]
    · unfold World.frozen?
      simp only [hl]
      simp
  clear hl
  conv => arg 2; whnf
  go_wp2_with (at_make; refine wpList_make_row w rfl _ _ 25 rfl 3 i0 (.int .i64 0) Tryd.underlying25 hi0 hz0 hz1 rfl .i64 .i64 I.n rfl rfl hb2 (by omega) ?_)
  exact hK _ _ hV ⟨rfl, rfl, rfl, rfl, rfl, rfl, rfl, rfl, rfl, rfl, rfl⟩ rfl rfl

def vaL (c : Code) : Code := lC (bC (sB (stm 15 c)))

set_option maxHeartbeats 2000000 in
set_option maxRecDepth 100000 in
theorem vaExit {I : In} {X : Ar} {a : Act} {w : World} {Br Bv i : Nat} (fr : FrB I X a) (s26 : a.tmps.getD 26 undef = .pointer (some ⟨Br, 0, none⟩)) (s27 : a.tmps.getD 27 undef = .slice (some ⟨Bv, 0, none⟩) I.n I.n) (s28 : a.tmps.getD 28 undef = .int .i64 i) (hi : ¬ i < I.n) (K : Act → World → Prop) (Q0 : Exit → Act → World → Prop)
    (hX : ∀ a', FrB I X a' → a'.tmps.getD 26 undef = .pointer (some ⟨Br, 0, none⟩) → a'.tmps.getD 27 undef = .slice (some ⟨Bv, 0, none⟩) I.n I.n → Q0 (.exit 10) a' w) :
    (vaL (Tryd.f3.body.getD .skip)).wp Tryd.prog (Exit.then K Q0) a w := by
  obtain ⟨f, rfl, hf⟩ := lit559 a fr.size fr.defers
  have e0 := (hf 0).symm.trans fr.s0
  have e1 := (hf 1).symm.trans fr.s1
  have e2 := (hf 2).symm.trans fr.s2
  have e3 := (hf 3).symm.trans fr.s3
  have e4 := (hf 4).symm.trans fr.s4
  have e5 := (hf 5).symm.trans fr.s5
  have e6 := (hf 6).symm.trans fr.s6
  have e7 := (hf 7).symm.trans fr.s7
  have e21 := (hf 21).symm.trans fr.s21
  have e26 := (hf 26).symm.trans s26
  have e27 := (hf 27).symm.trans s27
  have e28 := (hf 28).symm.trans s28
  clear fr hf s26 s27 s28
  simp only [e0, e1, e2, e3, e4, e5, e6, e7, e21, e26, e27, e28]
  clear e0 e1 e2 e3 e4 e5 e6 e7 e21 e26 e27 e28
  have hi' : ¬ (i : Int) < I.n := by omega
  conv => arg 2; whnf
  go_wp2_with fail
  exact hX _ ⟨rfl, rfl, rfl, rfl, rfl, rfl, rfl, rfl, rfl, rfl, rfl⟩ rfl rfl

set_option maxHeartbeats 2000000 in
set_option maxRecDepth 100000 in
theorem vaRound {I : In} {X : Ar} {a : Act} {w : World} {Br Bv i : Nat} {wV : World} (fr : FrB I X a) (s26 : a.tmps.getD 26 undef = .pointer (some ⟨Br, 0, none⟩)) (s27 : a.tmps.getD 27 undef = .slice (some ⟨Bv, 0, none⟩) I.n I.n) (s28 : a.tmps.getD 28 undef = .int .i64 i) (F : Fits I) (hi : i < I.n) (hB : Bv = wV.heap.size) (ins : Inn I X wV) (V : Val I Bv wV i w) (K : Act → World → Prop) (Q0 : Exit → Act → World → Prop)
    (hK : ∀ a' w', Val I Bv wV (i + 1) w' → FrB I X a' → a'.tmps.getD 26 undef = .pointer (some ⟨Br, 0, none⟩) → a'.tmps.getD 27 undef = .slice (some ⟨Bv, 0, none⟩) I.n I.n → a'.tmps.getD 28 undef = .int .i64 ((i + 1 : Nat) : Int) → K a' w') :
    (vaL (Tryd.f3.body.getD .skip)).wp Tryd.prog (Exit.then K Q0) a w := by
  obtain ⟨f, rfl, hf⟩ := lit559 a fr.size fr.defers
  have e0 := (hf 0).symm.trans fr.s0
  have e1 := (hf 1).symm.trans fr.s1
  have e2 := (hf 2).symm.trans fr.s2
  have e3 := (hf 3).symm.trans fr.s3
  have e4 := (hf 4).symm.trans fr.s4
  have e5 := (hf 5).symm.trans fr.s5
  have e6 := (hf 6).symm.trans fr.s6
  have e7 := (hf 7).symm.trans fr.s7
  have e21 := (hf 21).symm.trans fr.s21
  have e26 := (hf 26).symm.trans s26
  have e27 := (hf 27).symm.trans s27
  have e28 := (hf 28).symm.trans s28
  clear fr hf s26 s27 s28
  simp only [e0, e1, e2, e3, e4, e5, e6, e7, e21, e26, e27, e28]
  clear e0 e1 e2 e3 e4 e5 e6 e7 e21 e26 e27 e28
  have hn := F.n
  have hi' : (i : Int) < I.n := by omega
  have insw := ins.below (by omega) V.below
  obtain ⟨ad1, ha1, hc1⟩ := insw.r1 (by omega)
  have hr1 : w.cell? (ad1.add i) = some (.bool (I.hasP i)) := hc1 i hi
  have hq1 : ∀ (W : World) (o : Nat) (v : Value), (W.setCell ⟨Bv, o, none⟩ v).cell? (ad1.add i) = W.cell? (ad1.add i) := far_set (inn_far ins.r1 (by omega) ha1 hi hB)
  obtain ⟨ad2, ha2, hc2⟩ := insw.r2 (by omega)
  have hr2 : w.cell? (ad2.add i) = some (.int .i32 (I.pc i)) := hc2 i hi
  have hq2 : ∀ (W : World) (o : Nat) (v : Value), (W.setCell ⟨Bv, o, none⟩ v).cell? (ad2.add i) = W.cell? (ad2.add i) := far_set (inn_far ins.r2 (by omega) ha2 hi hB)
  obtain ⟨ad7, ha7, hc7⟩ := insw.r7 (by omega)
  have v0 := V.at' i hi
  rw [if_neg (Nat.lt_irrefl i)] at v0
  have vf := V.fz i
  have hlt := V.lt
  have HV : Hid (Val I Bv wV i w) := V
  have hb1 : Below Bv wV (w.setCell ⟨Bv, i, none⟩ (.int .i64 (-1))) := V.below.setCell (Nat.le_refl _) _
  have HC := zzFind_any I X.a0 X.c0 (I.pc i) (w.setCell ⟨Bv, i, none⟩ (.int .i64 (-1))) F.asc hn (F.pc i).1 (F.pc i).2 (ins.below (by omega) hb1).r0
  have HK : ∀ a' w', Val I Bv wV (i + 1) w' → FrB I X a' → a'.tmps.getD 26 undef = .pointer (some ⟨Br, 0, none⟩) → a'.tmps.getD 27 undef = .slice (some ⟨Bv, 0, none⟩) I.n I.n → a'.tmps.getD 28 undef = .int .i64 ((i + 1 : Nat) : Int) → K a' w' := hK
  have HB : Hid (Bv = wV.heap.size) := hB
  clear hK V hb1 hB
  cases hh : I.hasP i with
  | false =>
    rw [hh] at hr1
    have hv : (-1 : Int) = vld I i := by simp [vld, par, hh]
    have HV2 := HV.out.set hi hv
    have HW : Hid (Val I Bv wV (i + 1) (w.setCell ⟨Bv, i, none⟩ (.int .i64 (-1)))) := HV2
    clear hv HV2 HC hc7 ins insw F hc1 hc2 hh
    rw [ha1, ha2]
    conv => arg 2; whnf
    go_wp2_with fail
    exact HK _ _ HW.out ⟨rfl, rfl, rfl, by rw [ha1]; rfl, by rw [ha2]; rfl, rfl, rfl, rfl, rfl, by rw [ha7]; rfl, rfl⟩ rfl rfl (by first | rfl | go_num)
  | true =>
    rw [hh] at hr1
    cases hf : find I (I.pc i) with
    | none =>
      have hfn : fnd I (I.pc i) = -1 := by simp [fnd, hf]
      have hv : (-1 : Int) = vld I i := by simp [vld, par, hh, hf]
      have HV2 := HV.out.set hi hv
      have HW : Hid (Val I Bv wV (i + 1) (w.setCell ⟨Bv, i, none⟩ (.int .i64 (-1)))) := HV2
      rw [hfn] at HC
      clear hv HV2 hc7 ins insw F hc1 hc2 hh hf hfn
      rw [ha1, ha2]
      conv => arg 2; whnf
      go_wp2_with fail
      refine HC.mono ?_
      rintro e w2 ⟨rfl, rfl⟩
      go_wp2_with fail
      exact HK _ _ HW.out ⟨rfl, rfl, rfl, by rw [ha1]; rfl, by rw [ha2]; rfl, rfl, rfl, rfl, rfl, by rw [ha7]; rfl, rfl⟩ rfl rfl (by first | rfl | go_num)
    | some j =>
      have hfn : fnd I (I.pc i) = j := by simp [fnd, hf]
      obtain ⟨hj, -⟩ := find_some hf
      have hj' : (j : Int) < I.n := by omega
      have hr7 : w.cell? (ad7.add j) = some (.bool (I.del j)) := hc7 j hj
      have hq7 : ∀ (W : World) (o : Nat) (v : Value), (W.setCell ⟨Bv, o, none⟩ v).cell? (ad7.add j) = W.cell? (ad7.add j) := far_set (inn_far ins.r7 (by omega) ha7 hj HB.out)
      have hj0 : (0 : Int) ≤ (j : Int) := by omega
      rw [hfn] at HC
      cases hd : I.del j with
      | true =>
        rw [hd] at hr7
        have hv : (-1 : Int) = vld I i := by simp [vld, par, hh, hf, hd]
        have HV2 := HV.out.set hi hv
        have HW : Hid (Val I Bv wV (i + 1) (w.setCell ⟨Bv, i, none⟩ (.int .i64 (-1)))) := HV2
        clear hv HV2 hc7 ins insw F hc1 hc2 hh hf hfn hd
        rw [ha1, ha2, ha7]
        conv => arg 2; whnf
        go_wp2_with fail
        refine HC.mono ?_
        rintro e w2 ⟨rfl, rfl⟩
        go_wp2_with fail
        exact HK _ _ HW.out ⟨rfl, rfl, rfl, by rw [ha1]; rfl, by rw [ha2]; rfl, rfl, rfl, rfl, rfl, by rw [ha7]; rfl, rfl⟩ rfl rfl (by first | rfl | go_num)
      | false =>
        rw [hd] at hr7
        have hv : (j : Int) = vld I i := by simp [vld, par, hh, hf, hd]
        have HV2 := HV.out.set2 hi (-1) hv
        have HV3 := HV.out.set hi hv
        have HW : Hid (Val I Bv wV (i + 1) ((w.setCell ⟨Bv, i, none⟩ (.int .i64 (-1))).setCell ⟨Bv, i, none⟩ (.int .i64 j))) := HV2
        have HW3 : Hid (Val I Bv wV (i + 1) (w.setCell ⟨Bv, i, none⟩ (.int .i64 j))) := HV3
        clear hv HV2 HV3 hc7 ins insw F hc1 hc2 hh hf hfn hd
        rw [ha1, ha2, ha7]
        conv => arg 2; whnf
        go_wp2_with fail
        refine HC.mono ?_
        rintro e w2 ⟨rfl, rfl⟩
        go_wp2_with fail
        first | exact HK _ _ HW.out ⟨rfl, rfl, rfl, by rw [ha1]; rfl, by rw [ha2]; rfl, rfl, rfl, rfl, rfl, by rw [ha7]; rfl, rfl⟩ rfl rfl (by first | rfl | go_num) | exact HK _ _ HW3.out ⟨rfl, rfl, rfl, by rw [ha1]; rfl, by rw [ha2]; rfl, rfl, rfl, rfl, rfl, by rw [ha7]; rfl, rfl⟩ rfl rfl (by first | rfl | go_num)

theorem vaLoop {I : In} {X : Ar} {a : Act} {w : World} {Br Bv : Nat} {wV : World} (fr : FrB I X a) (s26 : a.tmps.getD 26 undef = .pointer (some ⟨Br, 0, none⟩)) (s27 : a.tmps.getD 27 undef = .slice (some ⟨Bv, 0, none⟩) I.n I.n) (s28 : a.tmps.getD 28 undef = .int .i64 ((0 : Nat) : Int)) (F : Fits I) (hB : Bv = wV.heap.size) (ins : Inn I X wV) (V : Val I Bv wV 0 w) (Q0 : Exit → Act → World → Prop)
    (hX : ∀ a' w', Val I Bv wV I.n w' → FrB I X a' → a'.tmps.getD 26 undef = .pointer (some ⟨Br, 0, none⟩) → a'.tmps.getD 27 undef = .slice (some ⟨Bv, 0, none⟩) I.n I.n → Q0 (.exit 10) a' w') :
    (Code.loop (vaL (Tryd.f3.body.getD .skip))).wp Tryd.prog Q0 a w := by
  refine wp_loop_ghost (fun z a w' => ∃ i, Val I Bv wV i w' ∧ FrB I X a ∧ a.tmps.getD 26 undef = .pointer (some ⟨Br, 0, none⟩) ∧ a.tmps.getD 27 undef = .slice (some ⟨Bv, 0, none⟩) I.n I.n ∧ a.tmps.getD 28 undef = .int .i64 ((i : Nat) : Int) ∧ i ≤ I.n ∧ I.n - i = z) I.n ⟨0, V, fr, s26, s27, s28, Nat.zero_le _, by omega⟩ ?_
  rintro z a w' ⟨i, V, fr, s26, s27, s28, hi, rfl⟩
  by_cases hlt : i < I.n
  · exact vaRound fr s26 s27 s28 F hlt hB ins V _ Q0 (fun a' w2 V' fr' h26 h27 h28 => ⟨I.n - (i + 1), by omega, i + 1, V', fr', h26, h27, h28, hlt, rfl⟩)
  · obtain rfl : i = I.n := by omega
    exact vaExit fr s26 s27 s28 hlt _ Q0 (fun a' fr' h26 h27 => hX a' w' V fr' h26 h27)

set_option maxHeartbeats 2000000 in
set_option maxRecDepth 100000 in
theorem l15 {I : In} {X : Ar} {a : Act} {w : World} {Br Bv : Nat} {wV : World} (fr : FrB I X a) (s26 : a.tmps.getD 26 undef = .pointer (some ⟨Br, 0, none⟩)) (s27 : a.tmps.getD 27 undef = .slice (some ⟨Bv, 0, none⟩) I.n I.n) (F : Fits I) (hB : Bv = wV.heap.size) (ins : Inn I X wV) (V : Val I Bv wV 0 w) (K : Act → World → Prop) (Q0 : Exit → Act → World → Prop)
    (hK : ∀ a' w', Val I Bv wV I.n w' → FrB I X a' → a'.tmps.getD 26 undef = .pointer (some ⟨Br, 0, none⟩) → a'.tmps.getD 27 undef = .slice (some ⟨Bv, 0, none⟩) I.n I.n → K a' w') : (stm 15 (Tryd.f3.body.getD .skip)).wp Tryd.prog (Exit.then K Q0) a w := by
  obtain ⟨f, rfl, hf⟩ := lit559 a fr.size fr.defers
  have e0 := (hf 0).symm.trans fr.s0
  have e1 := (hf 1).symm.trans fr.s1
  have e2 := (hf 2).symm.trans fr.s2
  have e3 := (hf 3).symm.trans fr.s3
  have e4 := (hf 4).symm.trans fr.s4
  have e5 := (hf 5).symm.trans fr.s5
  have e6 := (hf 6).symm.trans fr.s6
  have e7 := (hf 7).symm.trans fr.s7
  have e21 := (hf 21).symm.trans fr.s21
  have e26 := (hf 26).symm.trans s26
  have e27 := (hf 27).symm.trans s27
  clear fr hf s26 s27
  simp only [e0, e1, e2, e3, e4, e5, e6, e7, e21, e26, e27]
  clear e0 e1 e2 e3 e4 e5 e6 e7 e21 e26 e27
  conv => arg 2; whnf
  go_wp2_with fail
  exact vaLoop ⟨rfl, rfl, rfl, rfl, rfl, rfl, rfl, rfl, rfl, rfl, rfl⟩ rfl rfl rfl F hB ins V _ (fun a' w' V' fr' h26 h27 => hK a' w' V' fr' h26 h27)
end Go.Proofs.Qxb6612928aDoor.H
