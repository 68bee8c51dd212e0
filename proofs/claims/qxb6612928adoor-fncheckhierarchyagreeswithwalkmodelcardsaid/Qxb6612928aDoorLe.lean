/-
  The law: the units are laid.
-/
import Derived.Test.Qxb6612928aDoorLa
namespace Go.Proofs.Qxb6612928aDoor.H
open Go.RowKit Go.Maps
set_option linter.unusedVariables false

/-- A unit of zeros. -/
def zun : Array Value := #[.int .i32 0, .pointer none, .string { data := #[] }, .int .i64 0, .string { data := #[] }, .string { data := #[] }, .string { data := #[] }, .string { data := #[] }, .bool false, .int .i32 0, .string { data := #[] }, .pointer none, .pointer none, .slice none 0 0, .int .u64 0, .int .i64 0, .pointer none, .int .u64 0, .int .i64 0, .pointer none]

theorem info40 : (Tryd.prog.info? 40).map (fun i => (i.zero, i.size, decide (i.bytes ≤ 100000))) = some (some (.agg zun), 20, true) := by kernel_rfl

/-- The units' cells. -/
structure RowU (n Bu : Nat) (g : Nat → Nat → Value) (w : World) : Prop where
  at' : ∀ j, j < n → ∀ k, k < 20 → w.cell? ⟨Bu, j * 20 + k, none⟩ = some (g j k)
  fz : ∀ o, w.frozen? ⟨Bu, o, none⟩ = false
  lt : Bu < w.heap.size

def upd2 (g : Nat → Nat → Value) (i m : Nat) (v : Value) : Nat → Nat → Value := fun j k => if j = i ∧ k = m then v else g j k

theorem RowU.set {n Bu : Nat} {g : Nat → Nat → Value} {w : World} (h : RowU n Bu g w) {i : Nat} (hi : i < n) {m : Nat} (hm : m < 20) (v : Value) : RowU n Bu (upd2 g i m v) (w.setCell ⟨Bu, i * 20 + m, none⟩ v) := by
  refine ⟨fun j hj k hk => ?_, fun o => by simpa using h.fz o, by simpa using h.lt⟩
  unfold upd2
  by_cases e : j = i ∧ k = m
  · obtain ⟨rfl, rfl⟩ := e
    rw [if_pos ⟨rfl, rfl⟩]
    exact csame (h.at' j hj k hk)
  · rw [if_neg e]
    refine (cother ?_).trans (h.at' j hj k hk)
    intro e'
    have : i * 20 + m = j * 20 + k := congrArg Addr.off e'
    exact e ⟨by omega, by omega⟩

theorem RowU.alloc {n Bu : Nat} {g : Nat → Nat → Value} {w : World} (h : RowU n Bu g w) (o : Obj) : RowU n Bu g (w.alloc o) := by
  have hb : Below w.heap.size w (w.alloc o) := (Below.refl _ _).alloc (Nat.le_refl _) _
  exact ⟨fun j hj k hk => (hb.cell (p := ⟨Bu, j * 20 + k, none⟩) h.lt).trans (h.at' j hj k hk), fun x => (hb.frozen (p := ⟨Bu, x, none⟩) h.lt).trans (h.fz x), by have := h.lt; simp; omega⟩

theorem RowU.congr {n Bu : Nat} {g g' : Nat → Nat → Value} {w : World} (h : RowU n Bu g w) (e : ∀ j, j < n → ∀ k, k < 20 → g j k = g' j k) : RowU n Bu g' w :=
  ⟨fun j hj k hk => by rw [← e j hj k hk]; exact h.at' j hj k hk, h.fz, h.lt⟩

/-- The units behind i rounds. -/
def fillG (I : In) (pp : Nat → Nat) (i : Nat) : Nat → Nat → Value := fun j k => if j < i then (ucells I pp j).getD k undef else zun.getD k undef

theorem fill_f {I : In} {pp : Nat → Nat} {i : Nat} (hh : I.hasP i = false) (j k : Nat) (hk : k < 20) :
    upd2 (upd2 (upd2 (upd2 (upd2 (upd2 (fillG I pp i) i 0 (.int .i32 (I.code i))) i 2 (.string (I.name i))) i 3 (.int .i64 (I.lvl i))) i 4 (.string (I.cp i))) i 5 (.string (I.np i))) i 8 (.bool (I.del i)) j k = fillG I pp (i + 1) j k := by
  by_cases e : j = i
  · subst e
    have h1 : pcPtr I pp j = .pointer none := by simp [pcPtr, hh]
    rcases k with _ | _ | _ | _ | _ | _ | _ | _ | _ | _ | _ | _ | _ | _ | _ | _ | _ | _ | _ | _ | k
    all_goals first | omega | simp [upd2, fillG, ucells, zun, zc, h1]
  · simp only [upd2, e, false_and, if_false, fillG]
    by_cases hl : j < i
    · rw [if_pos hl, if_pos (by omega)]
    · rw [if_neg hl, if_neg (by omega)]

def ppSet (pp : Nat → Nat) (i b : Nat) : Nat → Nat := fun j => if j = i then b else pp j

theorem fill_t {I : In} {pp : Nat → Nat} {i b : Nat} (hh : I.hasP i = true) (j k : Nat) (hk : k < 20) :
    upd2 (upd2 (upd2 (upd2 (upd2 (upd2 (upd2 (fillG I pp i) i 0 (.int .i32 (I.code i))) i 1 (.pointer (some ⟨b, 0, none⟩))) i 2 (.string (I.name i))) i 3 (.int .i64 (I.lvl i))) i 4 (.string (I.cp i))) i 5 (.string (I.np i))) i 8 (.bool (I.del i)) j k = fillG I (ppSet pp i b) (i + 1) j k := by
  by_cases e : j = i
  · subst e
    have h1 : pcPtr I (ppSet pp j b) j = .pointer (some ⟨b, 0, none⟩) := by simp [pcPtr, hh, ppSet]
    rcases k with _ | _ | _ | _ | _ | _ | _ | _ | _ | _ | _ | _ | _ | _ | _ | _ | _ | _ | _ | _ | k
    all_goals first | omega | simp [upd2, fillG, ucells, zun, zc, h1]
  · simp only [upd2, e, false_and, if_false, fillG]
    by_cases hl : j < i
    · rw [if_pos hl, if_pos (by omega)]
      have h1 : ucells I (ppSet pp i b) j = ucells I pp j := by simp [ucells, pcPtr, ppSet, e]
      rw [h1]
    · rw [if_neg hl, if_neg (by omega)]

structure Fill (I : In) (Bu : Nat) (w1 : World) (pp : Nat → Nat) (i : Nat) (w : World) : Prop where
  below : Below Bu w1 w
  row : RowU I.n Bu (fillG I pp i) w
  pcs : ∀ j, j < i → I.hasP j = true → Bu < pp j ∧ pp j < w.heap.size ∧ w.cell? ⟨pp j, 0, none⟩ = some (.int .i32 (I.pc j))

theorem Fill.units {I : In} {Bu : Nat} {w1 : World} {pp : Nat → Nat} {w : World} (h : Fill I Bu w1 pp I.n w) : Units I w.heap.size Bu pp w := by
  have hk : ∀ j, j < I.n → ∀ k, k < 20 → w.cell? ⟨Bu, j * 20 + k, none⟩ = some ((ucells I pp j).getD k undef) := fun j hj k hk => by
    have := h.row.at' j hj k hk
    rw [this]; unfold fillG; rw [if_pos hj]
  refine ⟨h.row.lt, fun i hi hp => (h.pcs i hi hp).2.1, fun i hi => hk i hi 0 (by omega), fun i hi => hk i hi 1 (by omega), fun i hi hp => (h.pcs i hi hp).2.2, fun i hi => hk i hi 2 (by omega), fun i hi => hk i hi 3 (by omega), fun i hi => hk i hi 4 (by omega), fun i hi => hk i hi 5 (by omega), fun i hi => hk i hi 8 (by omega), fun i hi k hk' => ?_⟩
  rw [hk i hi k (by omega)]
  congr 1
  rcases k with _ | _ | _ | _ | _ | _ | _ | _ | _ | _ | _ | _ | _ | _ | _ | _ | _ | _ | _ | _ | k
  all_goals first | omega | rfl

theorem made_at (n j k : Nat) (hj : j < n) (hk : k < 20) : (madeCells zun (n * 20)).toList[j * 20 + k]? = some (zun.getD k undef) := by
  have h1 : j * 20 + k < n * 20 := by omega
  have h2 : zun.size = 20 := rfl
  have h3 : (j * 20 + k) % 20 = k := by omega
  have h4 : k < zun.size := by omega
  simp only [madeCells, Array.toList_map, List.getElem?_map, Array.toList_range, List.getElem?_range h1, Option.map_some, h2, h3]
  rw [getElem!_pos zun k h4]
  simp [Array.getD, h4]

set_option maxHeartbeats 2000000 in
set_option maxRecDepth 100000 in
theorem l11 {I : In} {X : Ar} {a : Act} {w : World} (fr : FrB I X a) (hn : I.n ≤ 4096) (K : Act → World → Prop) (Q0 : Exit → Act → World → Prop)
    (hK : ∀ a' w', FrB I X a' → a'.tmps.getD 23 undef = .slice (some ⟨w.heap.size, 0, none⟩) I.n I.n → Fill I w.heap.size w (fun _ => 0) 0 w' → K a' w') : (stm 11 (Tryd.f3.body.getD .skip)).wp Tryd.prog (Exit.then K Q0) a w := by
  obtain ⟨f, rfl, hf⟩ := lit559 a fr.size fr.defers
  have e0 := (hf 0).symm.trans fr.s0
  have e1 := (hf 1).symm.trans fr.s1
  have e2 := (hf 2).symm.trans fr.s2
  have e3 := (hf 3).symm.trans fr.s3
  have e4 := (hf 4).symm.trans fr.s4
  have e5 := (hf 5).symm.trans fr.s5
  have e6 := (hf 6).symm.trans fr.s6
  have e7 := (hf 7).symm.trans fr.s7
  have e21 := (hf 21).symm.trans fr.s21
  clear fr hf 
  simp only [e0, e1, e2, e3, e4, e5, e6, e7, e21]
  clear e0 e1 e2 e3 e4 e5 e6 e7 e21
  obtain ⟨i0, hi0, hz⟩ : ∃ i0, Tryd.prog.info? 40 = some i0 ∧ i0.zero = some (.agg zun) ∧ i0.size = 20 ∧ i0.bytes ≤ 100000 := by
    have := info40
    cases h : Tryd.prog.info? 40 with
    | none => simp [h] at this
    | some i0 => simp [h] at this; exact ⟨i0, rfl, this.1, this.2.1, this.2.2⟩
  obtain ⟨hz0, hz1, hz2⟩ := hz
  have hb2 : i0.bytes * I.n ≤ 281474976710656 := by
    have := Nat.mul_le_mul hz2 hn
    omega
  have hb3 : I.n ≤ maxLen := by unfold maxLen; omega
  conv => arg 2; whnf
  go_wp2_with (at_make; refine wpList_make_full w rfl _ _ 27 rfl w.heap.size 40 i0 (.agg zun) 20 Tryd.underlying27 hi0 hz0 hz1 .i64 .i64 I.n I.n I.n rfl rfl rfl rfl hb2 hb3 (Nat.le_refl _) ?_)
  intro w2 hr hg
  have hF : Fill I w.heap.size w (fun _ => 0) 0 w2 := by
    have hb : Below w.heap.size w w2 := ⟨hg.os, hg.tape, hg.output, hg.size, fun k hk => hg.block k hk (by simp)⟩
    have hlt := (hr.lt w.heap.size rfl).2
    refine ⟨hb, ⟨fun j hj k hk => ?_, fun o => ?_, hlt⟩, fun j hj => by omega⟩
    · have := hr.cells (g := w.heap.size) rfl (j * 20 + k) (zun.getD k undef) (made_at I.n j k hj hk)
      rw [Addr.add_mid] at this
      simpa [fillG] using this
    · rcases hr.2 with ⟨h1, _⟩ | ⟨g, cp, cur, hv, hg', hh, hr'⟩
      · cases h1
      · cases hv
        unfold World.frozen?
        simp only [hh]
        simp
  clear hr hg
  go_wp2_with fail
  exact hK _ _ ⟨rfl, rfl, rfl, rfl, rfl, rfl, rfl, rfl, rfl, rfl, rfl⟩ rfl hF

theorem far_set {p : Addr} {b : Nat} (h : p.block ≠ b) (W : World) (o : Nat) (v : Value) : (W.setCell ⟨b, o, none⟩ v).cell? p = W.cell? p :=
  cother (fun e => h (by rw [← e]))

theorem inn_far {w1 : World} {ao : Option Addr} {n : Nat} {f : Nat → Value} (h : Arr w1 ao n f) (hn : 0 < n) {ad : Addr} (ha : ao = some ad) {i Bu : Nat} (hi : i < n) (hB : Bu = w1.heap.size) : (ad.add i).block ≠ Bu := by
  obtain ⟨ad', ha', hc⟩ := h hn
  rw [ha] at ha'
  cases ha'
  have := cell_lt (hc i hi)
  omega

theorem Fill.next_f {I : In} {Bu : Nat} {w1 : World} {pp : Nat → Nat} {i : Nat} {w : World} (F : Fill I Bu w1 pp i w) (hi : i < I.n) (hh : I.hasP i = false) : Fill I Bu w1 pp (i + 1) (((((((w).setCell ⟨Bu, i * 20 + 0, none⟩ (.int .i32 (I.code i))).setCell ⟨Bu, i * 20 + 2, none⟩ (.string (I.name i))).setCell ⟨Bu, i * 20 + 3, none⟩ (.int .i64 (I.lvl i))).setCell ⟨Bu, i * 20 + 4, none⟩ (.string (I.cp i))).setCell ⟨Bu, i * 20 + 5, none⟩ (.string (I.np i))).setCell ⟨Bu, i * 20 + 8, none⟩ (.bool (I.del i))) := by
  have hr := ((((((F.row.set hi (by omega : 0 < 20) (.int .i32 (I.code i))).set hi (by omega : 2 < 20) (.string (I.name i))).set hi (by omega : 3 < 20) (.int .i64 (I.lvl i))).set hi (by omega : 4 < 20) (.string (I.cp i))).set hi (by omega : 5 < 20) (.string (I.np i))).set hi (by omega : 8 < 20) (.bool (I.del i)))
  refine ⟨((((((F.below.setCell (Nat.le_refl _) _).setCell (Nat.le_refl _) _).setCell (Nat.le_refl _) _).setCell (Nat.le_refl _) _).setCell (Nat.le_refl _) _).setCell (Nat.le_refl _) _), hr.congr (fun j _ k hk => fill_f hh j k hk), fun j hj hp => ?_⟩
  rcases Nat.lt_or_ge j i with h | h
  · obtain ⟨h1, h2, h3⟩ := F.pcs j h hp
    have hne : (⟨pp j, 0, none⟩ : Addr).block ≠ Bu := by show pp j ≠ Bu; omega
    refine ⟨h1, by simpa using h2, ?_⟩
    rw [far_set hne, far_set hne, far_set hne, far_set hne, far_set hne, far_set hne]
    exact h3
  · obtain rfl : j = i := by omega
    rw [hh] at hp; cases hp

theorem Fill.next_t {I : In} {Bu : Nat} {w1 : World} {pp : Nat → Nat} {i : Nat} {w : World} (F : Fill I Bu w1 pp i w) (hi : i < I.n) (hh : I.hasP i = true) : Fill I Bu w1 (ppSet pp i w.heap.size) (i + 1) (((((((((w).setCell ⟨Bu, i * 20 + 0, none⟩ (.int .i32 (I.code i))).setCell ⟨Bu, i * 20 + 1, none⟩ (.pointer (some ⟨w.heap.size, 0, none⟩))).setCell ⟨Bu, i * 20 + 2, none⟩ (.string (I.name i))).setCell ⟨Bu, i * 20 + 3, none⟩ (.int .i64 (I.lvl i))).setCell ⟨Bu, i * 20 + 4, none⟩ (.string (I.cp i))).setCell ⟨Bu, i * 20 + 5, none⟩ (.string (I.np i))).setCell ⟨Bu, i * 20 + 8, none⟩ (.bool (I.del i))).alloc (.cells #[.int .i32 (I.pc i)] 28)) := by
  have hr := (((((((F.row.set hi (by omega : 0 < 20) (.int .i32 (I.code i))).set hi (by omega : 1 < 20) (.pointer (some ⟨w.heap.size, 0, none⟩))).set hi (by omega : 2 < 20) (.string (I.name i))).set hi (by omega : 3 < 20) (.int .i64 (I.lvl i))).set hi (by omega : 4 < 20) (.string (I.cp i))).set hi (by omega : 5 < 20) (.string (I.np i))).set hi (by omega : 8 < 20) (.bool (I.del i)))
  have hlt := F.row.lt
  have hsz : ((((((((w).setCell ⟨Bu, i * 20 + 0, none⟩ (.int .i32 (I.code i))).setCell ⟨Bu, i * 20 + 1, none⟩ (.pointer (some ⟨w.heap.size, 0, none⟩))).setCell ⟨Bu, i * 20 + 2, none⟩ (.string (I.name i))).setCell ⟨Bu, i * 20 + 3, none⟩ (.int .i64 (I.lvl i))).setCell ⟨Bu, i * 20 + 4, none⟩ (.string (I.cp i))).setCell ⟨Bu, i * 20 + 5, none⟩ (.string (I.np i))).setCell ⟨Bu, i * 20 + 8, none⟩ (.bool (I.del i))).heap.size = w.heap.size := by simp
  have hb : Below Bu w1 ((((((((w).setCell ⟨Bu, i * 20 + 0, none⟩ (.int .i32 (I.code i))).setCell ⟨Bu, i * 20 + 1, none⟩ (.pointer (some ⟨w.heap.size, 0, none⟩))).setCell ⟨Bu, i * 20 + 2, none⟩ (.string (I.name i))).setCell ⟨Bu, i * 20 + 3, none⟩ (.int .i64 (I.lvl i))).setCell ⟨Bu, i * 20 + 4, none⟩ (.string (I.cp i))).setCell ⟨Bu, i * 20 + 5, none⟩ (.string (I.np i))).setCell ⟨Bu, i * 20 + 8, none⟩ (.bool (I.del i))) := (((((((F.below.setCell (Nat.le_refl _) _).setCell (Nat.le_refl _) _).setCell (Nat.le_refl _) _).setCell (Nat.le_refl _) _).setCell (Nat.le_refl _) _).setCell (Nat.le_refl _) _).setCell (Nat.le_refl _) _)
  have hc : ∀ p : Addr, p.block ≠ Bu → ((((((((w).setCell ⟨Bu, i * 20 + 0, none⟩ (.int .i32 (I.code i))).setCell ⟨Bu, i * 20 + 1, none⟩ (.pointer (some ⟨w.heap.size, 0, none⟩))).setCell ⟨Bu, i * 20 + 2, none⟩ (.string (I.name i))).setCell ⟨Bu, i * 20 + 3, none⟩ (.int .i64 (I.lvl i))).setCell ⟨Bu, i * 20 + 4, none⟩ (.string (I.cp i))).setCell ⟨Bu, i * 20 + 5, none⟩ (.string (I.np i))).setCell ⟨Bu, i * 20 + 8, none⟩ (.bool (I.del i))).cell? p = w.cell? p := fun p hne => by
    rw [far_set hne, far_set hne, far_set hne, far_set hne, far_set hne, far_set hne, far_set hne]
  have hr2 := hr.congr (fun j _ k hk => fill_t (b := w.heap.size) hh j k hk)
  generalize ((((((((w).setCell ⟨Bu, i * 20 + 0, none⟩ (.int .i32 (I.code i))).setCell ⟨Bu, i * 20 + 1, none⟩ (.pointer (some ⟨w.heap.size, 0, none⟩))).setCell ⟨Bu, i * 20 + 2, none⟩ (.string (I.name i))).setCell ⟨Bu, i * 20 + 3, none⟩ (.int .i64 (I.lvl i))).setCell ⟨Bu, i * 20 + 4, none⟩ (.string (I.cp i))).setCell ⟨Bu, i * 20 + 5, none⟩ (.string (I.np i))).setCell ⟨Bu, i * 20 + 8, none⟩ (.bool (I.del i))) = W at hr2 hsz hb hc ⊢
  have hba : Below W.heap.size W (W.alloc (.cells #[.int .i32 (I.pc i)] 28)) := (Below.refl _ _).alloc (Nat.le_refl _) _
  refine ⟨hb.alloc (by omega) _, hr2.alloc _, fun j hj hp => ?_⟩
  rcases Nat.lt_or_ge j i with h | h
  · obtain ⟨h1, h2, h3⟩ := F.pcs j h hp
    have e : ppSet pp i w.heap.size j = pp j := by unfold ppSet; rw [if_neg (by omega)]
    rw [e]
    have hne : (⟨pp j, 0, none⟩ : Addr).block ≠ Bu := by show pp j ≠ Bu; omega
    refine ⟨h1, by simp; omega, (hba.cell (p := ⟨pp j, 0, none⟩) (by show pp j < _; omega)).trans ((hc _ hne).trans h3)⟩
  · obtain rfl : j = i := by omega
    have e : ppSet pp j w.heap.size j = w.heap.size := by unfold ppSet; rw [if_pos rfl]
    rw [e]
    refine ⟨hlt, by simp; omega, ?_⟩
    rw [← hsz]
    exact cell_of_heap (heap_alloc_last W _) rfl

def fiL (c : Code) : Code := lC (bC (sB (stm 12 c)))

set_option maxHeartbeats 2000000 in
set_option maxRecDepth 100000 in
theorem fiRound {I : In} {X : Ar} {a : Act} {w : World} {Bu : Nat} {w1 : World} {pp : Nat → Nat} {i : Nat} (fr : FrB I X a) (s23 : a.tmps.getD 23 undef = .slice (some ⟨Bu, 0, none⟩) I.n I.n) (s24 : a.tmps.getD 24 undef = .int .i64 i) (hn : I.n ≤ 4096) (hi : i < I.n) (hB : Bu = w1.heap.size) (ins : Inn I X w1) (F : Fill I Bu w1 pp i w) (K : Act → World → Prop) (Q0 : Exit → Act → World → Prop)
    (hK : ∀ a' w' pp', Fill I Bu w1 pp' (i + 1) w' → FrB I X a' → a'.tmps.getD 23 undef = .slice (some ⟨Bu, 0, none⟩) I.n I.n → a'.tmps.getD 24 undef = .int .i64 ((i + 1 : Nat) : Int) → K a' w') :
    (fiL (Tryd.f3.body.getD .skip)).wp Tryd.prog (Exit.then K Q0) a w := by
  obtain ⟨f, rfl, hf⟩ := lit559 a fr.size fr.defers
  have e0 := (hf 0).symm.trans fr.s0
  have e1 := (hf 1).symm.trans fr.s1
  have e2 := (hf 2).symm.trans fr.s2
  have e3 := (hf 3).symm.trans fr.s3
  have e4 := (hf 4).symm.trans fr.s4
  have e5 := (hf 5).symm.trans fr.s5
  have e6 := (hf 6).symm.trans fr.s6
  have e7 := (hf 7).symm.trans fr.s7
  have e21 := (hf 21).symm.trans fr.s21
  have e23 := (hf 23).symm.trans s23
  have e24 := (hf 24).symm.trans s24
  clear fr hf s23 s24
  simp only [e0, e1, e2, e3, e4, e5, e6, e7, e21, e23, e24]
  clear e0 e1 e2 e3 e4 e5 e6 e7 e21 e23 e24
  have hi' : (i : Int) < I.n := by omega
  have insw := ins.below (by omega) F.below
  obtain ⟨ad0, ha0, hc0⟩ := insw.r0 (by omega)
  have hr0 : w.cell? (ad0.add i) = some (.int .i32 (I.code i)) := hc0 i hi
  obtain ⟨ad1, ha1, hc1⟩ := insw.r1 (by omega)
  have hr1 : w.cell? (ad1.add i) = some (.bool (I.hasP i)) := hc1 i hi
  obtain ⟨ad2, ha2, hc2⟩ := insw.r2 (by omega)
  have hr2 : w.cell? (ad2.add i) = some (.int .i32 (I.pc i)) := hc2 i hi
  obtain ⟨ad3, ha3, hc3⟩ := insw.r3 (by omega)
  have hr3 : w.cell? (ad3.add i) = some (.string (I.name i)) := hc3 i hi
  obtain ⟨ad4, ha4, hc4⟩ := insw.r4 (by omega)
  have hr4 : w.cell? (ad4.add i) = some (.int .i64 (I.lvl i)) := hc4 i hi
  obtain ⟨ad5, ha5, hc5⟩ := insw.r5 (by omega)
  have hr5 : w.cell? (ad5.add i) = some (.string (I.cp i)) := hc5 i hi
  obtain ⟨ad6, ha6, hc6⟩ := insw.r6 (by omega)
  have hr6 : w.cell? (ad6.add i) = some (.string (I.np i)) := hc6 i hi
  obtain ⟨ad7, ha7, hc7⟩ := insw.r7 (by omega)
  have hr7 : w.cell? (ad7.add i) = some (.bool (I.del i)) := hc7 i hi
  clear insw hc0 hc1 hc2 hc3 hc4 hc5 hc6 hc7
  have hl0 : (ad0.add i).block < w.heap.size := cell_lt hr0
  have hq0 : ∀ (W : World) (o : Nat) (v : Value), (W.setCell ⟨Bu, o, none⟩ v).cell? (ad0.add i) = W.cell? (ad0.add i) := far_set (inn_far ins.r0 (by omega) ha0 hi hB)
  have hl1 : (ad1.add i).block < w.heap.size := cell_lt hr1
  have hq1 : ∀ (W : World) (o : Nat) (v : Value), (W.setCell ⟨Bu, o, none⟩ v).cell? (ad1.add i) = W.cell? (ad1.add i) := far_set (inn_far ins.r1 (by omega) ha1 hi hB)
  have hl2 : (ad2.add i).block < w.heap.size := cell_lt hr2
  have hq2 : ∀ (W : World) (o : Nat) (v : Value), (W.setCell ⟨Bu, o, none⟩ v).cell? (ad2.add i) = W.cell? (ad2.add i) := far_set (inn_far ins.r2 (by omega) ha2 hi hB)
  have hl3 : (ad3.add i).block < w.heap.size := cell_lt hr3
  have hq3 : ∀ (W : World) (o : Nat) (v : Value), (W.setCell ⟨Bu, o, none⟩ v).cell? (ad3.add i) = W.cell? (ad3.add i) := far_set (inn_far ins.r3 (by omega) ha3 hi hB)
  have hl4 : (ad4.add i).block < w.heap.size := cell_lt hr4
  have hq4 : ∀ (W : World) (o : Nat) (v : Value), (W.setCell ⟨Bu, o, none⟩ v).cell? (ad4.add i) = W.cell? (ad4.add i) := far_set (inn_far ins.r4 (by omega) ha4 hi hB)
  have hl5 : (ad5.add i).block < w.heap.size := cell_lt hr5
  have hq5 : ∀ (W : World) (o : Nat) (v : Value), (W.setCell ⟨Bu, o, none⟩ v).cell? (ad5.add i) = W.cell? (ad5.add i) := far_set (inn_far ins.r5 (by omega) ha5 hi hB)
  have hl6 : (ad6.add i).block < w.heap.size := cell_lt hr6
  have hq6 : ∀ (W : World) (o : Nat) (v : Value), (W.setCell ⟨Bu, o, none⟩ v).cell? (ad6.add i) = W.cell? (ad6.add i) := far_set (inn_far ins.r6 (by omega) ha6 hi hB)
  have hl7 : (ad7.add i).block < w.heap.size := cell_lt hr7
  have hq7 : ∀ (W : World) (o : Nat) (v : Value), (W.setCell ⟨Bu, o, none⟩ v).cell? (ad7.add i) = W.cell? (ad7.add i) := far_set (inn_far ins.r7 (by omega) ha7 hi hB)

  have u0 := F.row.at' i hi 0 (by omega)
  have u1 := F.row.at' i hi 1 (by omega)
  have u2 := F.row.at' i hi 2 (by omega)
  have u3 := F.row.at' i hi 3 (by omega)
  have u4 := F.row.at' i hi 4 (by omega)
  have u5 := F.row.at' i hi 5 (by omega)
  have u8 := F.row.at' i hi 8 (by omega)
  have ug : ∀ k, fillG I pp i i k = zun.getD k undef := fun k => by simp [fillG]
  rw [ug] at u0 u1 u2 u3 u4 u5 u8
  have z0 := F.row.fz (i * 20 + 0)
  have z1 := F.row.fz (i * 20 + 1)
  have z2 := F.row.fz (i * 20 + 2)
  have z3 := F.row.fz (i * 20 + 3)
  have z4 := F.row.fz (i * 20 + 4)
  have z5 := F.row.fz (i * 20 + 5)
  have z8 := F.row.fz (i * 20 + 8)
  have hltB := F.row.lt
  have HB : Hid (Bu = w1.heap.size) := hB
  have HF : Hid (Fill I Bu w1 pp i w) := F
  clear F ins ug hB
  simp only [Nat.add_zero] at u0 z0
  rw [ha0, ha1, ha2, ha3, ha4, ha5, ha6, ha7]
  cases hh : I.hasP i with
  | false =>
    rw [hh] at hr1
    have HH : Hid (I.hasP i = false) := hh
    clear hh
    conv => arg 2; whnf
    go_wp2_with fail
    exact hK _ _ pp (HF.out.next_f hi HH.out) ⟨rfl, rfl, by rw [ha0]; rfl, by rw [ha1]; rfl, by rw [ha2]; rfl, by rw [ha3]; rfl, by rw [ha4]; rfl, by rw [ha5]; rfl, by rw [ha6]; rfl, by rw [ha7]; rfl, rfl⟩ rfl (by first | rfl | go_num)
  | true =>
    rw [hh] at hr1
    have HH : Hid (I.hasP i = true) := hh
    clear hh
    conv => arg 2; whnf
    go_wp2_with fail
    exact hK _ _ _ (HF.out.next_t hi HH.out) ⟨rfl, rfl, by rw [ha0]; rfl, by rw [ha1]; rfl, by rw [ha2]; rfl, by rw [ha3]; rfl, by rw [ha4]; rfl, by rw [ha5]; rfl, by rw [ha6]; rfl, by rw [ha7]; rfl, rfl⟩ rfl (by first | rfl | go_num)

set_option maxHeartbeats 2000000 in
set_option maxRecDepth 100000 in
theorem fiExit {I : In} {X : Ar} {a : Act} {w : World} {Bu i : Nat} (fr : FrB I X a) (s23 : a.tmps.getD 23 undef = .slice (some ⟨Bu, 0, none⟩) I.n I.n) (s24 : a.tmps.getD 24 undef = .int .i64 i) (hi : ¬ i < I.n) (K : Act → World → Prop) (Q0 : Exit → Act → World → Prop)
    (hX : ∀ a', FrB I X a' → a'.tmps.getD 23 undef = .slice (some ⟨Bu, 0, none⟩) I.n I.n → Q0 (.exit 8) a' w) :
    (fiL (Tryd.f3.body.getD .skip)).wp Tryd.prog (Exit.then K Q0) a w := by
  obtain ⟨f, rfl, hf⟩ := lit559 a fr.size fr.defers
  have e0 := (hf 0).symm.trans fr.s0
  have e1 := (hf 1).symm.trans fr.s1
  have e2 := (hf 2).symm.trans fr.s2
  have e3 := (hf 3).symm.trans fr.s3
  have e4 := (hf 4).symm.trans fr.s4
  have e5 := (hf 5).symm.trans fr.s5
  have e6 := (hf 6).symm.trans fr.s6
  have e7 := (hf 7).symm.trans fr.s7
  have e21 := (hf 21).symm.trans fr.s21
  have e23 := (hf 23).symm.trans s23
  have e24 := (hf 24).symm.trans s24
  clear fr hf s23 s24
  simp only [e0, e1, e2, e3, e4, e5, e6, e7, e21, e23, e24]
  clear e0 e1 e2 e3 e4 e5 e6 e7 e21 e23 e24
  have hi' : ¬ (i : Int) < I.n := by omega
  conv => arg 2; whnf
  go_wp2_with fail
  exact hX _ ⟨rfl, rfl, rfl, rfl, rfl, rfl, rfl, rfl, rfl, rfl, rfl⟩ rfl

theorem fiLoop {I : In} {X : Ar} {a : Act} {w : World} {Bu : Nat} {w1 : World} (fr : FrB I X a) (s23 : a.tmps.getD 23 undef = .slice (some ⟨Bu, 0, none⟩) I.n I.n) (s24 : a.tmps.getD 24 undef = .int .i64 ((0 : Nat) : Int)) (hn : I.n ≤ 4096) (hB : Bu = w1.heap.size) (ins : Inn I X w1) (F : Fill I Bu w1 (fun _ => 0) 0 w) (Q0 : Exit → Act → World → Prop)
    (hX : ∀ a' w' pp, Fill I Bu w1 pp I.n w' → FrB I X a' → a'.tmps.getD 23 undef = .slice (some ⟨Bu, 0, none⟩) I.n I.n → Q0 (.exit 8) a' w') :
    (Code.loop (fiL (Tryd.f3.body.getD .skip))).wp Tryd.prog Q0 a w := by
  refine wp_loop_ghost (fun z a w' => ∃ i pp, Fill I Bu w1 pp i w' ∧ FrB I X a ∧ a.tmps.getD 23 undef = .slice (some ⟨Bu, 0, none⟩) I.n I.n ∧ a.tmps.getD 24 undef = .int .i64 ((i : Nat) : Int) ∧ i ≤ I.n ∧ I.n - i = z) I.n ⟨0, fun _ => 0, F, fr, s23, s24, Nat.zero_le _, by omega⟩ ?_
  rintro z a w' ⟨i, pp, F, fr, s23, s24, hi, rfl⟩
  by_cases hlt : i < I.n
  · exact fiRound fr s23 s24 hn hlt hB ins F _ Q0 (fun a' w2 pp' F' fr' h23 h24 => ⟨I.n - (i + 1), by omega, i + 1, pp', F', fr', h23, h24, hlt, rfl⟩)
  · obtain rfl : i = I.n := by omega
    exact fiExit fr s23 s24 hlt _ Q0 (fun a' fr' h23 => hX a' w' pp F fr' h23)

set_option maxHeartbeats 2000000 in
set_option maxRecDepth 100000 in
theorem l12 {I : In} {X : Ar} {a : Act} {w : World} {Bu : Nat} {w1 : World} (fr : FrB I X a) (s23 : a.tmps.getD 23 undef = .slice (some ⟨Bu, 0, none⟩) I.n I.n) (hn : I.n ≤ 4096) (hB : Bu = w1.heap.size) (ins : Inn I X w1) (F : Fill I Bu w1 (fun _ => 0) 0 w) (K : Act → World → Prop) (Q0 : Exit → Act → World → Prop)
    (hK : ∀ a' w' pp, Fill I Bu w1 pp I.n w' → FrB I X a' → a'.tmps.getD 23 undef = .slice (some ⟨Bu, 0, none⟩) I.n I.n → K a' w') : (stm 12 (Tryd.f3.body.getD .skip)).wp Tryd.prog (Exit.then K Q0) a w := by
  obtain ⟨f, rfl, hf⟩ := lit559 a fr.size fr.defers
  have e0 := (hf 0).symm.trans fr.s0
  have e1 := (hf 1).symm.trans fr.s1
  have e2 := (hf 2).symm.trans fr.s2
  have e3 := (hf 3).symm.trans fr.s3
  have e4 := (hf 4).symm.trans fr.s4
  have e5 := (hf 5).symm.trans fr.s5
  have e6 := (hf 6).symm.trans fr.s6
  have e7 := (hf 7).symm.trans fr.s7
  have e21 := (hf 21).symm.trans fr.s21
  have e23 := (hf 23).symm.trans s23
  clear fr hf s23
  simp only [e0, e1, e2, e3, e4, e5, e6, e7, e21, e23]
  clear e0 e1 e2 e3 e4 e5 e6 e7 e21 e23
  conv => arg 2; whnf
  go_wp2_with fail
  exact fiLoop ⟨rfl, rfl, rfl, rfl, rfl, rfl, rfl, rfl, rfl, rfl, rfl⟩ rfl rfl hn hB ins F _ (fun a' w' pp F' fr' h23 => hK a' w' pp F' fr' h23)
end Go.Proofs.Qxb6612928aDoor.H
