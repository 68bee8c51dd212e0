/-
  Contracts: Code.String, Place.
-/
import Derived.Test.Qxb6612928aDoorShelf
import Derived.Test.Qxb6612928aDoorSmall
import Derived.WalkSmall
import Derived.Lib.ItoaLen
namespace Go.Proofs.Qxb6612928aDoor.H
open Go.RowKit
set_option linter.unusedVariables false

/-- The table's name, off the given row. -/
def tabName : String := Rows.fnCheckHierarchyAgreesWithWalkModelRow.named.headD ""

/-- The table of powers of ten holds what the row lists. -/
def Tab (w : World) : Prop := Lib.TabIs Tryd.prog w tabName .u64 Lib.pow10Tab

theorem gTab : Tryd.prog.globalNamed tabName = some 0 := by kernel_rfl

theorem Tab.below {B : Nat} {w w' : World} (h : Tab w) (hb : Below B w w') (hB : 0 < B) : Tab w' :=
  var?_below hb gTab hB h

theorem below_grow (w : World) (k : Nat) (os : Array Obj) : Below w.heap.size w (Sort.grow (w.drewN k) os) :=
  ⟨rfl, rfl, rfl, by simp, fun i hi => Sort.heap_grow_old _ _ hi⟩

theorem codeString (c : Int) (h0 : -2147483648 ≤ c) (h1 : c ≤ 2147483647) (w : World) (ht : Tab w) :
    Calls Tryd.prog 12 #[.int .i32 c] w fun e w' => e = .returned (.string (dec c)) ∧ Below w.heap.size w w' := by
  go_enter Tryd.func12, Tryd.ntmps12
  go_wp2_with fail
  refine (Any.strconv_Itoa Tryd.laysM171 c (by omega) (by omega) _ ht).mono ?_
  rintro e w1 ⟨rfl, k, os, rfl⟩
  go_wp2_with fail
  go_ret
  exact ⟨rfl, below_grow _ _ _⟩

/-- Old cells and marks behind a call that writes nothing old. -/
theorem bcell {W w1 : World} (hb : Below W.heap.size W w1) : (∀ b o, b < W.heap.size → w1.cell? ⟨b, o, none⟩ = W.cell? ⟨b, o, none⟩) ∧ (∀ b o, b < W.heap.size → w1.frozen? ⟨b, o, none⟩ = W.frozen? ⟨b, o, none⟩) :=
  ⟨fun b o h => hb.cell (p := ⟨b, o, none⟩) h, fun b o h => hb.frozen (p := ⟨b, o, none⟩) h⟩

theorem wrap_left (n : Int) : IntKind.i64.wrap n = wrap64 n := IntWalk.i64_left n

theorem dec_size (c : Int) (h0 : -2147483648 ≤ c) (h1 : c ≤ 2147483647) : (dec c).size ≤ 21 := by
  have := Lib.itoa_length_le c (by omega) (by omega)
  rw [Lib.size_eq]
  simpa [dec] using this

/-- A cell behind a store: the same, or another. -/
theorem cell_at {w : World} {b o : Nat} {u v : Value} (h : w.cell? ⟨b, o, none⟩ = some u) : (w.setCell ⟨b, o, none⟩ v).cell? ⟨b, o, none⟩ = some v := World.cell?_setCell_same _ _ _ h
theorem cell_off {w : World} {b b' o o' : Nat} {v : Value} (h : ¬ (b = b' ∧ o = o')) : (w.setCell ⟨b, o, none⟩ v).cell? ⟨b', o', none⟩ = w.cell? ⟨b', o', none⟩ := by
  refine World.cell?_setCell_other _ _ _ _ (fun e => h ?_)
  simp only [Addr.mk.injEq, and_true] at e
  exact e

set_option maxHeartbeats 400000 in
/-- Place at a root. -/
theorem place_nil (bu : Nat) (c : Int) (nm : ByteArray) (v1 v3 v4 v5 : Value) (w : World) (h0 : -2147483648 ≤ c) (h1 : c ≤ 2147483647) (ht : Tab w) (hnm : nm.size ≤ 1048576) (hbu : bu < w.heap.size)
    (c0 : w.cell? ⟨bu, 0, none⟩ = some (.int .i32 c)) (c1 : w.cell? ⟨bu, 1, none⟩ = some v1) (c2 : w.cell? ⟨bu, 2, none⟩ = some (.string nm)) (c3 : w.cell? ⟨bu, 3, none⟩ = some v3) (c4 : w.cell? ⟨bu, 4, none⟩ = some v4) (c5 : w.cell? ⟨bu, 5, none⟩ = some v5)
    (hf : ∀ o, w.frozen? ⟨bu, o, none⟩ = false) :
    Calls Tryd.prog 11 #[.pointer (some ⟨bu, 0, none⟩), .pointer none] w fun e w' => e = .returned (.tuple #[]) ∧ Below bu w w' ∧ w'.cell? ⟨bu, 3, none⟩ = some (.int .i64 1) ∧ w'.cell? ⟨bu, 4, none⟩ = some (.string (SL ++ dec c)) ∧ w'.cell? ⟨bu, 5, none⟩ = some (.string (SL ++ nm)) := by
  have hds := dec_size c h0 h1
  go_enter Tryd.func11, Tryd.ntmps11
  go_wp2_with fail
  refine (codeString c h0 h1 _ ht).mono ?_
  rintro e w1 ⟨rfl, hb⟩
  have d0 := (hb.cell (p := ⟨bu, 0, none⟩) hbu).trans c0
  have d1 := (hb.cell (p := ⟨bu, 1, none⟩) hbu).trans c1
  have d2 := (hb.cell (p := ⟨bu, 2, none⟩) hbu).trans c2
  have d3 := (hb.cell (p := ⟨bu, 3, none⟩) hbu).trans c3
  have d4 := (hb.cell (p := ⟨bu, 4, none⟩) hbu).trans c4
  have d5 := (hb.cell (p := ⟨bu, 5, none⟩) hbu).trans c5
  have e1 := (hb.frozen (p := ⟨bu, 1, none⟩) hbu).trans (hf 1)
  have e3 := (hb.frozen (p := ⟨bu, 3, none⟩) hbu).trans (hf 3)
  have e4 := (hb.frozen (p := ⟨bu, 4, none⟩) hbu).trans (hf 4)
  have e5 := (hb.frozen (p := ⟨bu, 5, none⟩) hbu).trans (hf 5)
  clear c0 c1 c2 c3 c4 c5 hf
  go_wp2_with fail
  refine bodyPost_ret (v := .tuple #[]) (results_none rfl _ _ _) rfl ?_
  refine ⟨rfl, ((((hb.mono (Nat.le_of_lt hbu)).setCell (Nat.le_refl _) _).setCell (Nat.le_refl _) _).setCell (Nat.le_refl _) _).setCell (Nat.le_refl _) _, ?_, ?_, ?_⟩
  · rw [cell_off (by omega), cell_off (by omega), cell_at (u := v3) (by rw [cell_off (by omega)]; exact d3)]
  · rw [cell_off (by omega), cell_at (u := v4) (by rw [cell_off (by omega), cell_off (by omega)]; exact d4)]; rfl
  · rw [cell_at (u := v5) (by rw [cell_off (by omega), cell_off (by omega), cell_off (by omega)]; exact d5)]; rfl

set_option maxHeartbeats 1000000 in
/-- Place under a parent, whose cells lie elsewhere. -/
theorem place_some (bu bp op : Nat) (c pc pl : Int) (nm pcp pnp : ByteArray) (v1 v3 v4 v5 : Value) (w : World) (h0 : -2147483648 ≤ c) (h1 : c ≤ 2147483647) (ht : Tab w) (hnm : nm.size ≤ 1048576) (hbu : bu < w.heap.size)
    (hcp : pcp.size ≤ 1048576) (hnp : pnp.size ≤ 1048576) (hbp : bp < bu)
    (c0 : w.cell? ⟨bu, 0, none⟩ = some (.int .i32 c)) (c1 : w.cell? ⟨bu, 1, none⟩ = some v1) (c2 : w.cell? ⟨bu, 2, none⟩ = some (.string nm)) (c3 : w.cell? ⟨bu, 3, none⟩ = some v3) (c4 : w.cell? ⟨bu, 4, none⟩ = some v4) (c5 : w.cell? ⟨bu, 5, none⟩ = some v5)
    (p0 : w.cell? ⟨bp, op, none⟩ = some (.int .i32 pc)) (p3 : w.cell? ⟨bp, op + 3, none⟩ = some (.int .i64 pl)) (p4 : w.cell? ⟨bp, op + 4, none⟩ = some (.string pcp)) (p5 : w.cell? ⟨bp, op + 5, none⟩ = some (.string pnp))
    (hf : ∀ o, w.frozen? ⟨bu, o, none⟩ = false) :
    Calls Tryd.prog 11 #[.pointer (some ⟨bu, 0, none⟩), .pointer (some ⟨bp, op, none⟩)] w fun e w' => e = .returned (.tuple #[]) ∧ Below bu w w' ∧ w'.cell? ⟨bu, 3, none⟩ = some (.int .i64 (IntKind.i64.wrap (pl + 1))) ∧ w'.cell? ⟨bu, 4, none⟩ = some (.string (pcp ++ (SL ++ dec c))) ∧ w'.cell? ⟨bu, 5, none⟩ = some (.string (pnp ++ (SL ++ nm))) := by
  have hds := dec_size c h0 h1
  have hne : bu ≠ bp := by omega
  go_enter Tryd.func11, Tryd.ntmps11
  go_wp2_with fail
  refine (codeString c h0 h1 _ ht).mono ?_
  rintro e w1 ⟨rfl, hb⟩
  have hbs := hb.size
  have d0 := (hb.cell (p := ⟨bu, 0, none⟩) hbu).trans c0
  have d1 := (hb.cell (p := ⟨bu, 1, none⟩) hbu).trans c1
  have d2 := (hb.cell (p := ⟨bu, 2, none⟩) hbu).trans c2
  have d3 := (hb.cell (p := ⟨bu, 3, none⟩) hbu).trans c3
  have d4 := (hb.cell (p := ⟨bu, 4, none⟩) hbu).trans c4
  have d5 := (hb.cell (p := ⟨bu, 5, none⟩) hbu).trans c5
  have q0 := (hb.cell (p := ⟨bp, op, none⟩) (by show bp < _; omega)).trans p0
  have q3 := (hb.cell (p := ⟨bp, op + 3, none⟩) (by show bp < _; omega)).trans p3
  have q4 := (hb.cell (p := ⟨bp, op + 4, none⟩) (by show bp < _; omega)).trans p4
  have q5 := (hb.cell (p := ⟨bp, op + 5, none⟩) (by show bp < _; omega)).trans p5
  have e1 := (hb.frozen (p := ⟨bu, 1, none⟩) hbu).trans (hf 1)
  have e3 := (hb.frozen (p := ⟨bu, 3, none⟩) hbu).trans (hf 3)
  have e4 := (hb.frozen (p := ⟨bu, 4, none⟩) hbu).trans (hf 4)
  have e5 := (hb.frozen (p := ⟨bu, 5, none⟩) hbu).trans (hf 5)
  have hu1 : bu < w1.heap.size := by omega
  have hp1 : bp < w1.heap.size := by omega
  clear c0 c1 c2 c3 c4 c5 p0 p3 p4 p5 hf
  go_wp2_with fail
  go_end0
  refine ⟨rfl, (((((hb.mono (Nat.le_of_lt hbu)).setCell (Nat.le_refl _) _).setCell (Nat.le_refl _) _).setCell (Nat.le_refl _) _).setCell (Nat.le_refl _) _).alloc (by simp [World.setCell]; omega) _, ?_, ?_, ?_⟩
  · rw [World.cell?_alloc_lt _ _ _ (by simp [World.setCell]; omega), cell_off (by omega), cell_off (by omega), cell_at (u := v3) (by rw [cell_off (by omega)]; exact d3), wrap_left]
  · rw [World.cell?_alloc_lt _ _ _ (by simp [World.setCell]; omega), cell_off (by omega), cell_at (u := v4) (by rw [cell_off (by omega), cell_off (by omega)]; exact d4)]; rfl
  · rw [World.cell?_alloc_lt _ _ _ (by simp [World.setCell]; omega), cell_at (u := v5) (by rw [cell_off (by omega), cell_off (by omega), cell_off (by omega)]; exact d5)]; rfl
end Go.Proofs.Qxb6612928aDoor.H
