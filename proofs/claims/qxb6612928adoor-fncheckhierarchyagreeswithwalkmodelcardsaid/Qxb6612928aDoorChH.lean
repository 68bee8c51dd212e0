/-
  CheckHierarchy, whole.
-/
import Derived.Test.Qxb6612928aDoorChG
namespace Go.Proofs.Qxb6612928aDoor.H
open Go.RowKit Go.Maps
set_option linter.unusedVariables false

theorem ownsRow_low {w : World} {base base' : Nat} {e : TypeId} {size : Nat} {v : Value} {n : Nat} {xs : List Value} (h : w.ownsRow base e size v n xs) (hb : base' ≤ base) : w.ownsRow base' e size v n xs := by
  refine ⟨h.1, ?_⟩
  rcases h.2 with h | ⟨g, cp, cur, hv, hg, hr⟩
  · exact Or.inl h
  · exact Or.inr ⟨g, cp, cur, hv, Nat.le_trans hb hg, hr⟩

theorem results_cell {fn : Func} {p : Tmp} {ty : TypeId} (h : fn.results = #[.cell p ty]) (tmps : Array Value) (P : Program) (w : World) :
    (results fn tmps).run P w = ((asAddr (tmps.getD p undef)).run P w).andThen fun a w₁ => (loadVar ty a).run P w₁ := by
  simp only [results, h]
  simp [Sem.run_bind, Result.andThen]

theorem size43 : (Tryd.prog.info? 43).map (·.size) = some 3 := by kernel_rfl

set_option maxHeartbeats 1000000 in
set_option maxRecDepth 100000 in
theorem checkH {I : In} {B Bu : Nat} {pp : Nat → Nat} {cap : Nat} {w0 : World} (F : Fits I) (U : Units I B Bu pp w0) (hB : B ≤ w0.heap.size) (T : Tab w0) :
    Calls Tryd.prog 5 #[.slice (some ⟨Bu, 0, none⟩) I.n cap] w0 fun e w' => ∃ vI, e = .returned (.agg #[.int .i64 (chk I I.n), .int .i64 (fty I I.n), vI]) ∧ w'.ownsRow w0.heap.size 51 2 vI (iss I I.n).length (issCells (iss I I.n)) ∧ Below w0.heap.size w0 w' := by
  have hn := F.n
  have hmn := @run_makeMap_n 52 28 53 Tryd.underlying52
  go_enter Tryd.func5, Tryd.ntmps5
  go_wp2_with fail
  have hb3 : Below w0.heap.size w0 (((w0.alloc (.cells #[.int .i64 0, .int .i64 0, .slice none 0 0] 43)).alloc (.map #[] 0)).alloc (.cells #[.map (some (w0.heap.size + 1))] 52)) := (((Below.refl _ _).alloc (Nat.le_refl _) _).alloc (by simp) _).alloc (by simp; omega) _
  refine chLoop1 F U hB (cap := cap) (i := 0) ⟨⟨rfl, rfl, rfl, rfl, rfl⟩, rfl, rfl, Nat.zero_le _, hb3, by simp, (Below.heap_alloc _ _ _ (by simp; omega)).trans ((Below.heap_alloc _ _ _ (by simp)).trans (heap_alloc_last w0 _)), ?_, ?_⟩ _ ?_
  · have hl := heap_alloc_last ((w0.alloc (.cells #[.int .i64 0, .int .i64 0, .slice none 0 0] 43)).alloc (.map #[] 0)) (.cells #[.map (some (w0.heap.size + 1))] 52)
    have hsz : ((w0.alloc (.cells #[.int .i64 0, .int .i64 0, .slice none 0 0] 43)).alloc (.map #[] 0)).heap.size = w0.heap.size + 2 := by simp
    rw [hsz] at hl
    exact hl
  · rw [byCk_zero]
    have hm := (MapIs_made anyV (w0.alloc (.cells #[.int .i64 0, .int .i64 0, .slice none 0 0] 43))).below ((Below.refl _ _).alloc (Nat.le_refl _) (.cells #[.map (some (w0.heap.size + 1))] 52)) (by simp)
    have hsz : (w0.alloc (.cells #[.int .i64 0, .int .i64 0, .slice none 0 0] 43)).heap.size = w0.heap.size + 1 := by simp
    rw [hsz] at hm
    exact hm
  clear hb3 hmn
  rintro a1 w1 ⟨fr, s20, s21, le, below, size, res, box, map⟩
  rw [byCk_all] at map
  obtain ⟨f, rfl, hf⟩ := lit149 a1 fr.size fr.defers
  have e0 := (hf 0).symm.trans fr.s0
  have e2 := (hf 2).symm.trans fr.s2
  have e3 := (hf 3).symm.trans fr.s3
  clear fr s20 s21 hf
  simp only [e0, e2, e3]
  clear e0 e2 e3
  have HO := onCycles (cap := cap) (⟨F, U.below below hB, by omega, cell_of_heap (o := 0) box rfl, by omega, map⟩ : Ctx I B Bu pp (w0.heap.size + 2) (w0.heap.size + 1) I.n w1)
  simp only [clo] at HO
  go_wp2_with fail
  refine HO.mono ?_
  rintro e w2 ⟨Mc, kc, rfl, hMc, hcyc, hb2⟩
  clear HO
  have hs2 := hb2.size
  have hMlt := hcyc.lt
  have hbR : Below w2.heap.size w2 (w2.alloc (.cells #[.int .i64 0, .int .i64 0, .slice none 0 0] 43)) := (Below.refl _ _).alloc (Nat.le_refl _) _
  have hb02 : Below w0.heap.size w0 w2 := below.trans (hb2.mono (by omega))
  have hb0R : Below w0.heap.size w0 (w2.alloc (.cells #[.int .i64 0, .int .i64 0, .slice none 0 0] 43)) := hb02.trans (hbR.mono (by omega))
  have hlast := heap_alloc_last w2 (.cells #[.int .i64 0, .int .i64 0, .slice none 0 0] 43)
  have C : CtxR I B Bu pp w0.heap.size Mc w2.heap.size I.n kc (w2.alloc (.cells #[.int .i64 0, .int .i64 0, .slice none 0 0] 43)) :=
    ⟨F, U.below hb0R hB, by omega, by omega, hMlt, (hbR.cell (p := ⟨w0.heap.size + 2, 0, none⟩) (by show w0.heap.size + 2 < _; omega)).trans ((hb2.cell (p := ⟨w0.heap.size + 2, 0, none⟩) (by show w0.heap.size + 2 < _; omega)).trans (cell_of_heap (o := 0) box rfl)), (map.below hb2 (by omega)).below hbR (by omega), hcyc.below hbR hMlt, T.below hb0R (by have := U.lt; omega)⟩
  have hW : WM I w2.heap.size (w2.alloc (.cells #[.int .i64 0, .int .i64 0, .slice none 0 0] 43)) 0 0 [] (.slice none 0 0) [] (.slice none 0 0) (w2.alloc (.cells #[.int .i64 0, .int .i64 0, .slice none 0 0] 43)) :=
    ⟨Below.refl _ _, by simp, cell_of_heap hlast rfl, cell_of_heap hlast rfl, cell_of_heap hlast rfl, fun o => by unfold World.frozen?; simp only [hlast]; simp, World.ownsRow_nil _ _ _ _, World.ownsRow_nil _ _ _ _, Or.inl rfl⟩
  go_wp2_with fail
  refine chLoop2 C (cap := cap) (i := 0) ⟨⟨rfl, rfl, rfl, rfl, rfl, rfl, rfl, rfl, rfl⟩, Nat.zero_le _, .slice none 0 0, hW⟩ _ ?_
  rintro a3 w3 ⟨fr, le3, vI, hw⟩
  clear C hW
  obtain ⟨f, rfl, hf⟩ := lit149 a3 fr.size fr.defers
  have e2 := (hf 2).symm.trans fr.s2
  have e7 := (hf 7).symm.trans fr.s7
  clear fr hf
  simp only [e2, e7]
  clear e2 e7
  have c0 := hw.c0
  have c1 := hw.c1
  have c2 := hw.c2
  have hb3 := hw.below
  have hrow := hw.rowI
  have hlt3 := hw.lt
  have hres3 : w3.heap[w0.heap.size]? = some (.cells #[.int .i64 0, .int .i64 0, .slice none 0 0] 43) := (hb3.block _ (by omega)).trans ((hbR.block _ (by omega)).trans ((hb2.block _ (by omega)).trans res))
  have r0 := cell_of_heap (o := 0) hres3 rfl
  have r1 := cell_of_heap (o := 1) hres3 rfl
  have r2 := cell_of_heap (o := 2) hres3 rfl
  have rf : ∀ o, w3.frozen? ⟨w0.heap.size, o, none⟩ = false := fun o => by unfold World.frozen?; simp only [hres3]; simp
  have rf0 := rf 0
  have rf1 := rf 1
  have rf2 := rf 2
  obtain ⟨ao, cpI, rfl⟩ := ownsRow_shape hw.rowI
  clear hw
  go_wp2_with fail
  have hb4 : Below w0.heap.size w0 (((w3.setCell ⟨w0.heap.size, 0, none⟩ (.int .i64 (chk I I.n))).setCell ⟨w0.heap.size, 1, none⟩ (.int .i64 (fty I I.n))).setCell ⟨w0.heap.size, 2, none⟩ (.slice ao (iss I I.n).length cpI)) :=
    (((hb0R.trans (hb3.mono (by omega))).setCell (Nat.le_refl _) _).setCell (Nat.le_refl _) _).setCell (Nat.le_refl _) _
  have hne : (Value.slice ao (iss I I.n).length cpI).ownBlock ≠ some w0.heap.size := fun e => by have := (hrow.lt _ e).1; omega
  have hrow4 := ((hrow.kept (grown_setCell w3 w0.heap.size 0 (.int .i64 (chk I I.n))) (Or.inr hne)).kept (grown_setCell _ w0.heap.size 1 (.int .i64 (fty I I.n))) (Or.inr hne)).kept (grown_setCell _ w0.heap.size 2 (.slice ao (iss I I.n).length cpI)) (Or.inr hne)
  have hrg : (((w3.setCell ⟨w0.heap.size, 0, none⟩ (.int .i64 (chk I I.n))).setCell ⟨w0.heap.size, 1, none⟩ (.int .i64 (fty I I.n))).setCell ⟨w0.heap.size, 2, none⟩ (.slice ao (iss I I.n).length cpI)).rangeAt w0.heap.size 0 [.int .i64 (chk I I.n), .int .i64 (fty I I.n), .slice ao (iss I I.n).length cpI] := by
    intro j v hv
    rcases j with _ | _ | _ | j
    · cases hv
      exact (cother (by simp)).trans ((cother (by simp)).trans (csame r0))
    · cases hv
      exact (cother (by simp)).trans (csame ((cother (by simp)).trans r1))
    · cases hv
      exact csame ((cother (by simp)).trans ((cother (by simp)).trans r2))
    · cases hv
  generalize ((w3.setCell ⟨w0.heap.size, 0, none⟩ (.int .i64 (chk I I.n))).setCell ⟨w0.heap.size, 1, none⟩ (.int .i64 (fty I I.n))).setCell ⟨w0.heap.size, 2, none⟩ (.slice ao (iss I I.n).length cpI) = w4 at hb4 hrow4 hrg ⊢
  have hld := run_loadVar_mid (P := Tryd.prog) w4 w0.heap.size 0 43 _ _ hrg Tryd.underlying43 rfl size43
  have hrow5 : w4.ownsRow w0.heap.size 51 2 (.slice ao (iss I I.n).length cpI) (iss I I.n).length (issCells (iss I I.n)) := ownsRow_low hrow4 (by omega)
  refine bodyPost_ret (v := .agg #[.int .i64 (chk I I.n), .int .i64 (fty I I.n), .slice ao (iss I I.n).length cpI]) ?_ rfl ⟨_, rfl, hrow5, hb4⟩
  rw [results_cell rfl]
  simp [asAddr, Result.andThen, hld]
end Go.Proofs.Qxb6612928aDoor.H
