/-
  The law, whole.
-/
import Derived.Test.Qxb6612928aDoorLb
import Derived.Test.Qxb6612928aDoorLc
import Derived.Test.Qxb6612928aDoorLd
import Derived.Test.Qxb6612928aDoorLj
import Derived.Test.Qxb6612928aDoorLk
namespace Go.Proofs.Qxb6612928aDoor.H
open Go.RowKit Go.Maps
set_option linter.unusedVariables false

theorem cell_rep {w w' : World} {B : Nat} (hb : Below B w w') {p : Addr} {v : Value} (hp : p.block < B) (h : w.cell? p = some v) : w'.cell? p = some v := (hb.cell hp).trans h

theorem lawBody {I : In} {X : Ar} {w0 : World} {a : Act} (fr : FrA I X a) (ins : Ins I X w0) (L : Lens I X) (Tb : Tab w0)
    (hco : ∀ i, -2147483648 ≤ I.code i ∧ I.code i ≤ 2147483647) (hpc : ∀ i, -2147483648 ≤ I.pc i ∧ I.pc i ≤ 2147483647) (hlv : ∀ i, -9223372036854775808 ≤ I.lvl i ∧ I.lvl i ≤ 9223372036854775807)
    (d3 : ∀ j, ¬ j < X.n3 → (I.name j).size ≤ 1048576) (d5 : ∀ j, ¬ j < X.n5 → (I.cp j).size ≤ 1048576) (d6 : ∀ j, ¬ j < X.n6 → (I.np j).size ≤ 1048576) (hw0 : 0 < w0.heap.size)
    (Q : Exit → Act → World → Prop) (hR : ∀ a' w', RetB true a' → Below w0.heap.size w0 w' → Q .ret a' w') : (Tryd.f3.body.getD .skip).wp Tryd.prog Q a w0 := by
  have hcode : (Tryd.f3.body.getD .skip) = (.seq (stm 0 (Tryd.f3.body.getD .skip)) (.seq (stm 1 (Tryd.f3.body.getD .skip)) (.seq (stm 2 (Tryd.f3.body.getD .skip)) (.seq (stm 3 (Tryd.f3.body.getD .skip)) (.seq (stm 4 (Tryd.f3.body.getD .skip)) (.seq (stm 5 (Tryd.f3.body.getD .skip)) (.seq (stm 6 (Tryd.f3.body.getD .skip)) (.seq (stm 7 (Tryd.f3.body.getD .skip)) (.seq (stm 8 (Tryd.f3.body.getD .skip)) (.seq (stm 9 (Tryd.f3.body.getD .skip)) (.seq (stm 10 (Tryd.f3.body.getD .skip)) (.seq (stm 11 (Tryd.f3.body.getD .skip)) (.seq (stm 12 (Tryd.f3.body.getD .skip)) (.seq (stm 13 (Tryd.f3.body.getD .skip)) (.seq (stm 14 (Tryd.f3.body.getD .skip)) (.seq (stm 15 (Tryd.f3.body.getD .skip)) (.seq (stm 16 (Tryd.f3.body.getD .skip)) (.seq (stm 17 (Tryd.f3.body.getD .skip)) (.seq (stm 18 (Tryd.f3.body.getD .skip)) (.seq (stm 19 (Tryd.f3.body.getD .skip)) (.seq (stm 20 (Tryd.f3.body.getD .skip)) (.seq (stm 21 (Tryd.f3.body.getD .skip)) (.seq (stm 22 (Tryd.f3.body.getD .skip)) (rest 23 (Tryd.f3.body.getD .skip))))))))))))))))))))))))) := by rfl
  rw [hcode]
  clear hcode
  have hR0 : ∀ a', RetB true a' → Q .ret a' w0 := fun a' hr => hR a' w0 hr (Below.refl _ _)
  refine wp_seq' (l0 fr _ _ ?_)
  intro a1 fr
  refine wp_seq' (l1 fr ins L _ _ hR0 ?_)
  intro a2 b3 b5 b6 fr
  refine wp_seq' (l2 fr L _ _ hR0 ?_)
  intro a3 h0 h1 h2 h3 h4 h5 h6 h7 fr
  refine wp_seq' (l3 fr h0 h1 h2 h3 h4 h5 h6 h7 _ _ ?_)
  intro a4 s p0 p1 fr s17
  refine wp_seq' (l4 fr s17 p0 p1 h3 ins.r3 b3 _ _ ?_)
  intro a5 s p0 p1 fr s17
  refine wp_seq' (l5 fr s17 p0 p1 h5 ins.r5 b5 _ _ ?_)
  intro a6 s p0 p1 fr s17
  refine wp_seq' (l6 fr s17 p0 p1 h6 ins.r6 b6 _ _ ?_)
  intro a7 s p0 p1 fr s17
  refine wp_seq' (l7 fr s17 _ _ hR0 ?_)
  intro a8 fr
  refine wp_seq' (l8 fr _ _ ?_)
  intro a9 fr s21
  refine wp_seq' (l9 fr s21 _ _ hR0 ?_)
  intro a10 g1 g2 g3 g4 g5 g6 g7 fr
  have inn : Inn I X w0 := ⟨ins.r0, by rw [← g1]; exact ins.r1, by rw [← g2]; exact ins.r2, by rw [← g3]; exact ins.r3, by rw [← g4]; exact ins.r4, by rw [← g5]; exact ins.r5, by rw [← g6]; exact ins.r6, by rw [← g7]; exact ins.r7⟩
  refine wp_seq' (l10 fr h0 inn.r0 _ _ (fun a' w' hb hr => hR a' w' hr hb) ?_)
  intro a11 w1 asc hb1 fr
  have F : Fits I := ⟨h0, asc, hco, hpc, hlv, fun i => by
    by_cases h : i < X.n3
    · exact b3 i h
    · exact d3 i h, fun i => by
    by_cases h : i < X.n5
    · exact b5 i h
    · exact d5 i h, fun i => by
    by_cases h : i < X.n6
    · exact b6 i h
    · exact d6 i h⟩
  have inn1 := inn.below (Nat.le_refl _) hb1
  have sz1 := hb1.size
  refine wp_seq' (l11 fr h0 _ _ ?_)
  intro a12 w2 fr s23 Fl
  refine wp_seq' (l12 fr s23 h0 rfl inn1 Fl _ _ ?_)
  intro a13 w3 pp Fl fr s23
  have hlt3 := Fl.row.lt
  have hb13 := Fl.below
  have hb03 : Below w0.heap.size w0 w3 := hb1.trans (hb13.mono sz1)
  refine wp_seq' (l13 fr s23 F Fl (Tb.below hb03 hw0) _ _ ?_)
  intro a14 w4 Br vI hb34 rep fr s26
  have sz4 := hb34.size
  have hsz4 := rep.sz
  have hb14 : Below w1.heap.size w1 w4 := hb13.trans (hb34.mono (by omega))
  have hb04 : Below w0.heap.size w0 w4 := hb03.trans (hb34.mono (by omega))
  refine wp_seq' (l14 fr s26 h0 _ _ ?_)
  intro a15 w5 V fr s26 s27
  refine wp_seq' (l15 fr s26 s27 F rfl (inn1.below (Nat.le_refl _) hb14) V _ _ ?_)
  intro a16 w6 V fr s26 s27
  have hb46 := V.below
  have hlt6 := V.lt
  have inn6 : Inn I X w6 := (inn1.below (Nat.le_refl _) hb14).below (Nat.le_refl _) hb46
  refine l16 fr s26 s27 h0 _ _ ?_
  intro a17 w7 vC vK hm _ fr s26 s27 s30 s31 s32 s33
  have C : CtxM I X Br w4.heap.size w6.heap.size w6 := ⟨F, inn6, rfl, hlt6, fun j hj => by
    have := V.at' j hj
    rw [if_pos hj] at this
    exact this⟩
  refine wp_seq' (l20 C fr s26 s27 s30 s31 s32 s33 hm _ _ ?_)
  rintro a18 w8 ⟨vC, vK, fr, hm⟩
  have hb68 := hm.below
  have hle8 := hm.le
  have hb48 : Below w4.heap.size w4 w8 := hb46.trans (hb68.mono (by omega))
  have hb08 : Below w0.heap.size w0 w8 := hb04.trans (hb48.mono (by omega))
  have hg48 : w4.grownBy w8 none := ⟨hb48.os, hb48.tape, hb48.output, hb48.size, fun k hk _ => hb48.block k hk⟩
  have hC : Cmp Br w3.heap.size w6.heap.size (chk I I.n) (fty I I.n) (iss I I.n) vI vC vK w8 := by
    refine ⟨cell_rep hb48 (by show Br < _; omega) rep.c0, cell_rep hb48 (by show Br < _; omega) rep.c1, cell_rep hb48 (by show Br < _; omega) rep.c2, rep.row.kept hg48 (by cases vI.ownBlock <;> simp), ?_, ?_⟩
    · have := hm.rowC
      rw [icodes_len] at this
      simpa [icodes, Function.comp_def] using this
    · have := hm.rowK
      rw [ikinds_len] at this
      simpa [ikinds, Function.comp_def] using this
  have hil := iss_le I I.n
  refine wp_seq' (l21 fr hC _ _ ?_)
  intro a19 fr
  refine wp_seq' (l22 fr hC (by omega) _ _ ?_)
  intro a20 w9 hb89 fr
  refine l23 (B := 0) (B0 := 0) (vI := undef) (is := []) fr Q ?_
  intro a' hr
  exact hR a' w9 hr (hb08.trans (hb89.mono (by omega)))

set_option maxHeartbeats 2000000 in
set_option maxRecDepth 100000 in
theorem law {I : In} {X : Ar} {w0 : World} (ins : Ins I X w0) (L : Lens I X) (Tb : Tab w0)
    (hco : ∀ i, -2147483648 ≤ I.code i ∧ I.code i ≤ 2147483647) (hpc : ∀ i, -2147483648 ≤ I.pc i ∧ I.pc i ≤ 2147483647) (hlv : ∀ i, -9223372036854775808 ≤ I.lvl i ∧ I.lvl i ≤ 9223372036854775807)
    (d3 : ∀ j, ¬ j < X.n3 → (I.name j).size ≤ 1048576) (d5 : ∀ j, ¬ j < X.n5 → (I.cp j).size ≤ 1048576) (d6 : ∀ j, ¬ j < X.n6 → (I.np j).size ≤ 1048576) (hw0 : 0 < w0.heap.size) :
    Calls Tryd.prog 3 #[.slice X.a0 I.n X.c0, .slice X.a1 X.n1 X.c1, .slice X.a2 X.n2 X.c2, .slice X.a3 X.n3 X.c3, .slice X.a4 X.n4 X.c4, .slice X.a5 X.n5 X.c5, .slice X.a6 X.n6 X.c6, .slice X.a7 X.n7 X.c7] w0 fun e w' => e = .returned (.bool true) ∧ Below w0.heap.size w0 w' := by
  go_enter Tryd.func3, Tryd.ntmps3
  refine lawBody (I := I) (X := X) ⟨rfl, rfl, rfl, rfl, rfl, rfl, rfl, rfl, rfl, rfl⟩ ins L Tb hco hpc hlv d3 d5 d6 hw0 _ (fun a' w' hr hb => ?_)
  exact ret_of (R := fun e w' => e = .returned (.bool true) ∧ Below w0.heap.size w0 w') (fn := Tryd.f3) rfl hr ⟨rfl, hb⟩
end Go.Proofs.Qxb6612928aDoor.H
