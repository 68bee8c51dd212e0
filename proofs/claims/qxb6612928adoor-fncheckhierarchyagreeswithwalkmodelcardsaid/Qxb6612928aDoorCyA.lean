/-
  onCycles, its walking loop: one round.
-/
import Derived.Test.Qxb6612928aDoorFrame
import Derived.Maps.OwnOps
import Derived.Maps.AppendAt
import Derived.OwnWalk
namespace Go.Proofs.Qxb6612928aDoor.H
open Go.RowKit Go.Maps
set_option linter.unusedVariables false

/-- What onCycles finds when it is called. -/
structure Ctx (I : In) (B Bu : Nat) (pp : Nat → Nat) (Bx Mb kb : Nat) (w0 : World) : Prop where
  F : Fits I
  U : Units I B Bu pp w0
  hB : B ≤ w0.heap.size
  box : w0.cell? ⟨Bx, 0, none⟩ = some (.map (some Mb))
  lt : Bx < w0.heap.size
  map : MapIs anyV w0 Mb (byC I Bu) kb

/-- The closure's value. -/
def clo (Bx : Nat) : Value := .func (.func 9) #[] #[.pointer (some ⟨Bx, 0, none⟩)]

/-- The world during onCycles. -/
structure OC (I : In) (Bu : Nat) (w0 : World) (st : Nat → Nat) (pth : List Nat) (v6 : Value) (k left : Nat) (w : World) : Prop where
  below : Below w0.heap.size w0 w
  map : MapIs i64V w w0.heap.size (stM I st) k
  row : w.ownsRow (w0.heap.size + 1) 53 1 v6 pth.length (pth.map (uptr Bu))
  size : w0.heap.size + 1 ≤ w.heap.size
  cnt : k + 2 * zeros st I.n + left ≤ 2 * I.n

/-- The frame of onCycles: what stays. -/
structure Fr (I : In) (Bu cap Bx Ms i : Nat) (a : Act) : Prop where
  size : a.tmps.size = 92
  defers : a.defers = []
  s0 : a.tmps.getD 0 undef = .slice (some ⟨Bu, 0, none⟩) I.n cap
  s1 : a.tmps.getD 1 undef = clo Bx
  s5 : a.tmps.getD 5 undef = .map (some Ms)
  s22 : a.tmps.getD 22 undef = .int .i64 I.n
  s23 : a.tmps.getD 23 undef = .int .i64 i

/-! ### the parts of onCycles' code -/
def cyL1 (c : Code) : Code := lC (bC (sB (stm 3 c)))
def cyIn (c : Code) : Code := bC (sA (sB (sB (cyL1 c))))
def cyL2 (c : Code) : Code := lC (bC (sB (stm 2 (cyIn c))))
def cyL3 (c : Code) : Code := lC (bC (sB (stm 3 (cyIn c))))
def cyL4 (c : Code) : Code := lC (bC (sB (stm 5 c)))

theorem zero3 (w : World) : (zeroValue 3).run Tryd.prog w = .ok (.int .i64 0) w := by kernel_rfl
theorem zero4 (w : World) : (zeroValue 4).run Tryd.prog w = .ok (.bool false) w := by kernel_rfl
theorem info53 : (Tryd.prog.info? 53).map (fun i => (i.zero, i.size, i.bytes)) = some (some (.pointer none), 1, 8) := by kernel_rfl

/-- At the head of a round of the walking loop. -/
structure J2 (I : In) (B Bu cap Bx i : Nat) (w0 : World) (a : Act) (w : World) (st : Nat → Nat) (pth : List Nat) (u k : Nat) (v6 : Value) : Prop where
  fr : Fr I Bu cap Bx w0.heap.size i a
  s6 : a.tmps.getD 6 undef = v6
  s8 : a.tmps.getD 8 undef = .int .i64 2
  s9 : a.tmps.getD 9 undef = .pointer (some ⟨Bu, u * 20, none⟩)
  oc : OC I Bu w0 st pth v6 k pth.length w
  wk : Walks I st pth
  ld : Leads I pth u
  lt : u < I.n
  st0 : (pth = [] ∧ u = i) ∨ i ∈ pth
  keep : ∀ j, j < i → st j ≠ 0

/-- Behind the walking loop. -/
structure X2 (I : In) (B Bu cap Bx i : Nat) (w0 : World) (a : Act) (w : World) (st : Nat → Nat) (pth : List Nat) (e k : Nat) (v6 : Value) : Prop where
  fr : Fr I Bu cap Bx w0.heap.size i a
  s6 : a.tmps.getD 6 undef = v6
  s8 : a.tmps.getD 8 undef = .int .i64 e
  oc : OC I Bu w0 st pth v6 k pth.length w
  wk : Walks I st pth
  e23 : e = 2 ∨ e = 3
  e2 : e = 2 → ∀ x ∈ pth, Ends I x
  e3 : e = 3 → ∀ x ∈ pth, ¬ Ends I x
  st0 : st i ≠ 0
  keep : ∀ j, j < i → st j ≠ 0

theorem OC.drewN {I : In} {Bu : Nat} {w0 : World} {st : Nat → Nat} {pth : List Nat} {v6 : Value} {k left : Nat} {w : World} (h : OC I Bu w0 st pth v6 k left w) (q : Nat) : OC I Bu w0 st pth v6 k left (w.drewN q) :=
  ⟨⟨h.below.os, h.below.tape, h.below.output, h.below.size, h.below.block⟩, h.map.of_block rfl, h.row, h.size, h.cnt⟩

theorem st_ne {I : In} {st : Nat → Nat} {pth : List Nat} {u i : Nat} (wk : Walks I st pth) (h : (pth = [] ∧ u = i) ∨ i ∈ pth) (hst : st u ≠ 0) : st i ≠ 0 := by
  rcases h with ⟨_, rfl⟩ | h
  · exact hst
  · have := (wk.one i).2 h; omega

set_option maxHeartbeats 1000000 in
set_option maxRecDepth 100000 in
/-- The unit is coloured already. -/
theorem round2_hit {I : In} {B Bu : Nat} {pp : Nat → Nat} {Bx Mb kb cap i : Nat} {w0 : World} (C : Ctx I B Bu pp Bx Mb kb w0) {a : Act} {w : World} {st : Nat → Nat} {pth : List Nat} {u k : Nat} {v6 : Value}
    (h : J2 I B Bu cap Bx i w0 a w st pth u k v6) (hst : st u ≠ 0) (K : Act → World → Prop) (Q0 : Exit → Act → World → Prop) (hX : ∀ a' w' st pth e k v6, X2 I B Bu cap Bx i w0 a' w' st pth e k v6 → Q0 (.exit 2) a' w') :
    (cyL2 (Tryd.f10.body.getD .skip)).wp Tryd.prog (Exit.then K Q0) a w := by
  obtain ⟨fr, s6, s8, s9, oc, wk, ld, lt, st0, keep⟩ := h
  have HKeep : Hid (∀ j, j < i → st j ≠ 0) := keep
  clear keep
  obtain ⟨f, rfl, hf⟩ := lit92 a fr.size fr.defers
  have e0 := (hf 0).symm.trans fr.s0
  have e1 := (hf 1).symm.trans fr.s1
  have e5 := (hf 5).symm.trans fr.s5
  have e22 := (hf 22).symm.trans fr.s22
  have e23 := (hf 23).symm.trans fr.s23
  have e6 := (hf 6).symm.trans s6
  have e8 := (hf 8).symm.trans s8
  have e9 := (hf 9).symm.trans s9
  clear fr s6 s8 s9 hf
  simp only [e0, e1, e5, e22, e23, e6, e8, e9, clo]
  clear e0 e1 e5 e22 e23 e6 e8 e9
  have hlk := oc.map.look Tryd.underlying60 (zero3 w) rfl (C.F.code u).1 (C.F.code u).2
  rw [stM_get C.F.asc st lt] at hlk
  have d0 := (C.U.below oc.below C.hB).c0 u lt
  have hn0 : (((st u : Nat) : Int) != 0) = true := by rw [bne_iff_ne]; omega
  have hi := st_ne wk st0 hst
  have HT := wk.truth u lt
  have hle := wk.le u
  by_cases h1 : st u = 1
  · have h1' : (((st u : Nat) : Int) == 1) = true := by rw [beq_iff_eq]; omega
    have hm : u ∈ pth := (wk.one u).1 h1
    have hc := leads_cycle ld hm
    have HX : ∀ a' w', X2 I B Bu cap Bx i w0 a' w' st pth 3 k v6 → Q0 (.exit 2) a' w' := fun a' w' h => hX _ _ _ _ _ _ _ h
    clear hX h1
    conv => arg 2; whnf
    go_wp2_with fail
    refine ⟨⟨rfl, rfl, rfl, rfl, rfl, rfl, rfl⟩, rfl, rfl, oc, wk, Or.inr rfl, fun h => by omega, fun _ x hx => ?_, hi, HKeep.out⟩
    exact fun he => hc ((leads_ends _ _ ld x hx).1 he)
  · have h1' : (((st u : Nat) : Int) == 1) = false := beq_eq_false_iff_ne.2 (by omega)
    have HX : ∀ a' w', X2 I B Bu cap Bx i w0 a' w' st pth (st u) k v6 → Q0 (.exit 2) a' w' := fun a' w' h => hX _ _ _ _ _ _ _ h
    have hX2 : (st u = 2 ∨ st u = 3) ∧ (st u = 2 → ∀ x ∈ pth, Ends I x) ∧ (st u = 3 → ∀ x ∈ pth, ¬ Ends I x) := by
      refine ⟨by omega, fun h x hx => ?_, fun h x hx => ?_⟩
      · exact (leads_ends _ _ ld x hx).2 (HT.1 h)
      · exact fun he => HT.2 h ((leads_ends _ _ ld x hx).1 he)
    clear hX h1 HT
    conv => arg 2; whnf
    go_wp2_with fail
    exact ⟨⟨rfl, rfl, rfl, rfl, rfl, rfl, rfl⟩, rfl, rfl, oc, wk, hX2.1, hX2.2.1, hX2.2.2, hi, HKeep.out⟩

set_option maxHeartbeats 1000000 in
set_option maxRecDepth 100000 in
/-- The unit is new: it is marked and joins the path. -/
theorem round2_new {I : In} {B Bu : Nat} {pp : Nat → Nat} {Bx Mb kb cap i : Nat} {w0 : World} (C : Ctx I B Bu pp Bx Mb kb w0) {a : Act} {w : World} {st : Nat → Nat} {pth : List Nat} {u k : Nat} {v6 : Value}
    (h : J2 I B Bu cap Bx i w0 a w st pth u k v6) (hst : st u = 0) (K : Act → World → Prop) (Q0 : Exit → Act → World → Prop) (hX : ∀ a' w' st pth e k v6, X2 I B Bu cap Bx i w0 a' w' st pth e k v6 → Q0 (.exit 2) a' w')
    (hK : ∀ a' w' st' pth' u' k' v6', J2 I B Bu cap Bx i w0 a' w' st' pth' u' k' v6' → zeros st' I.n < zeros st I.n → K a' w') :
    (cyL2 (Tryd.f10.body.getD .skip)).wp Tryd.prog (Exit.then K Q0) a w := by
  obtain ⟨fr, s6, s8, s9, oc, wk, ld, lt, st0, keep⟩ := h
  have HKeep : Hid (∀ j, j < i → st j ≠ 0) := keep
  clear keep
  obtain ⟨f, rfl, hf⟩ := lit92 a fr.size fr.defers
  have e0 := (hf 0).symm.trans fr.s0
  have e1 := (hf 1).symm.trans fr.s1
  have e5 := (hf 5).symm.trans fr.s5
  have e22 := (hf 22).symm.trans fr.s22
  have e23 := (hf 23).symm.trans fr.s23
  have e6 := (hf 6).symm.trans s6
  have e8 := (hf 8).symm.trans s8
  have e9 := (hf 9).symm.trans s9
  clear fr s6 s8 s9 hf
  simp only [e0, e1, e5, e22, e23, e6, e8, e9, clo]
  clear e0 e1 e5 e22 e23 e6 e8 e9
  have hlk := oc.map.look Tryd.underlying60 (zero3 w) rfl (C.F.code u).1 (C.F.code u).2
  rw [stM_get C.F.asc st lt, hst] at hlk
  rw [show (((0 : Nat) : Int)) = 0 from rfl] at hlk
  have hn := C.F.n
  have hcnt := oc.cnt
  have hz := zeros_set (v := 1) hst (by omega) I.n lt
  obtain ⟨w1, hup, hm1, hT⟩ := oc.map.store Tryd.underlying60 (by unfold maxLen; omega) (C.F.code u).1 (C.F.code u).2 (v := .int .i64 1) rfl
  rw [show (Value.int .i64 1) = .int .i64 ((1 : Nat) : Int) from rfl, stM_upd C.F.asc st lt (by omega)] at hm1
  have d0 := (C.U.below oc.below C.hB).c0 u lt
  have hbel1 : Below w0.heap.size w0 w1 := oc.below.trans (turned_below hT (Nat.le_refl _))
  have hrow1 := oc.row.kept hT.grown (by
    cases hb : v6.ownBlock with
    | none => exact Or.inl rfl
    | some g => exact Or.inr (by have := (oc.row.lt g hb).1; intro e; simp at e; omega))
  have hsz1 := turned_size hT
  have hsz := oc.size
  obtain ⟨i0, hi0, hz0, hz1, hz2⟩ := info_parts info53
  have HD : Hid (w1.heap.size = w.heap.size) := hsz1
  clear hsz1
  conv => arg 2; whnf
  have hone : ∀ x ∈ [Value.pointer (some ⟨Bu, u * 20, none⟩)], x.oneCell' = true := by intro x hx; simp at hx; subst hx; rfl
  have hl1 : pth.length + 1 ≤ maxLen := by unfold maxLen; omega
  have hl2 : (pth.length + 1) * 8 ≤ 140737488355328 := by omega
  go_wp2_with (at_builtin; refine wpList_append_own _ rfl _ _ 61 rfl (w0.heap.size + 1) 53 i0 (.pointer none) 1 8 Tryd.underlying61 hi0 hz0 hz1 hz2 rfl (by decide) v6 pth.length (pth.map (uptr Bu)) rfl (hrow1.alloc _) ⟨w1.heap.size, 0, none⟩ 1 1 [.pointer (some ⟨Bu, u * 20, none⟩)] rfl rfl (cell_one_new _ _ _) hone hl1 hl2 (by have := HD.out; simp; omega) ?_)
  intro v' w2 hrow2 hgr hnn
  have hall : w1.grownBy w2 v6.ownBlock := (World.grownBy_alloc w1 _ _).trans hgr
  have hob : ∀ g, v6.ownBlock = some g → w0.heap.size + 1 ≤ g := fun g hg => (hrow1.lt g hg).1
  have hbel2 : Below w0.heap.size w0 w2 := hbel1.grown hall hbel1.size (fun g hg => by have := hob g hg; omega)
  have hm2 : MapIs i64V w2 w0.heap.size (stM I (setSt st u 1)) (k + 1) := hm1.of_block (hall.block _ hm1.lt (fun e => by have := hob _ e.symm; omega))
  have hU2 := C.U.below hbel2 C.hB
  have d1 := hU2.c1 u lt
  have hsz2 : w0.heap.size + 1 ≤ w2.heap.size := by have := hall.size; have := HD.out; omega
  have hrow3 : w2.ownsRow (w0.heap.size + 1) 53 1 v' (pth ++ [u]).length ((pth ++ [u]).map (uptr Bu)) := by
    rw [List.length_append, List.map_append]; exact hrow2
  have hoc : OC I Bu w0 (setSt st u 1) (pth ++ [u]) v' (k + 1) (pth ++ [u]).length w2 :=
    ⟨hbel2, hm2, hrow3, hsz2, by rw [List.length_append]; simp; omega⟩
  have hwk := wk.push lt
  have HK2 : Hid (∀ j, j < i → setSt st u 1 j ≠ 0) := by
    intro j hj
    unfold setSt
    split
    · omega
    · exact HKeep.out j hj
  have hin : i ∈ pth ++ [u] := by
    rcases st0 with ⟨_, rfl⟩ | h
    · simp
    · simp [h]
  have hsi : setSt st u 1 i ≠ 0 := by
    have := (hwk.one i).2 hin; omega
  have hbox := (hbel2.cell (p := ⟨Bx, 0, none⟩) C.lt).trans C.box
  have hmb := C.map.below hbel2 C.map.lt
  clear hlk hup hm1 hT d0 hbel1 hrow1 hgr hnn hrow2 oc wk hone hl1 hl2 hi0 hz0 hz1 hz2 hall hob HD hm2 hrow3 hcnt
  cases hp : par I u with
  | none =>
    have hend : ∀ x ∈ pth ++ [u], Ends I x := by
      intro x hx
      rcases List.mem_append.1 hx with hx | hx
      · exact (leads_ends _ _ ld x hx).2 (ends_none hp)
      · simp at hx; subst hx; exact ends_none hp
    have HX : ∀ a' w', X2 I B Bu cap Bx i w0 a' w' (setSt st u 1) (pth ++ [u]) 2 (k + 1) v' → Q0 (.exit 2) a' w' := fun a' w' h => hX _ _ _ _ _ _ _ h
    clear hX hK
    cases hh : I.hasP u with
    | false =>
      simp only [pcPtr, hh, if_false, Bool.false_eq_true] at d1
      clear hp hh hbox hmb hU2
      go_wp2_with fail
      exact ⟨⟨rfl, rfl, rfl, rfl, rfl, rfl, rfl⟩, rfl, rfl, hoc, hwk, Or.inl rfl, fun _ => hend, fun h => by omega, hsi, HK2.out⟩
    | true =>
      simp only [pcPtr, hh, if_true] at d1
      go_wp2_with fail
      refine (closure_none C.F hU2 hbox hmb lt hh hp).mono ?_
      rintro e w3 ⟨⟨x, rfl⟩, q, rfl⟩
      have hoc' := hoc.drewN q
      clear hp hh hbox hmb hU2 hoc
      go_wp2_with fail
      exact ⟨⟨rfl, rfl, rfl, rfl, rfl, rfl, rfl⟩, rfl, rfl, hoc', hwk, Or.inl rfl, fun _ => hend, fun h => by omega, hsi, HK2.out⟩
  | some p =>
    have hh : I.hasP u = true := by
      cases h : I.hasP u with
      | true => rfl
      | false => simp [par, h] at hp
    have hpn := par_lt hp
    have hld := leads_snoc _ _ _ ld hp
    have HK : ∀ a' w', J2 I B Bu cap Bx i w0 a' w' (setSt st u 1) (pth ++ [u]) p (k + 1) v' → K a' w' := fun a' w' h => hK _ _ _ _ _ _ _ h (by omega)
    clear hX hK
    simp only [pcPtr, hh, if_true] at d1
    go_wp2_with fail
    refine (closure_some C.F hU2 hbox hmb lt hp).mono ?_
    rintro e w3 ⟨rfl, q, rfl⟩
    have hoc' := hoc.drewN q
    clear hp hh hbox hmb hU2 hoc
    go_wp2_with fail
    exact ⟨⟨rfl, rfl, rfl, rfl, rfl, rfl, rfl⟩, rfl, rfl, rfl, hoc', hwk, hld, hpn, Or.inr hin, HK2.out⟩
end Go.Proofs.Qxb6612928aDoor.H
