/-
  CheckHierarchy: the loop that fills byCode.
-/
import Derived.Test.Qxb6612928aDoorCyD
import Derived.RegionTactic
import Derived.BigRegion
namespace Go.Proofs.Qxb6612928aDoor.H
open Go.RowKit Go.Maps
set_option linter.unusedVariables false

/-- What byCode holds after k rounds. -/
def byCk (I : In) (Bu k : Nat) : Int → Option Value := fun c => (find I c).bind fun j => if j < k then some (uptr Bu j) else none

theorem byCk_zero (I : In) (Bu : Nat) : byCk I Bu 0 = fun _ => none := by
  funext c; unfold byCk; cases find I c <;> simp

theorem byCk_all (I : In) (Bu : Nat) : byCk I Bu I.n = byC I Bu := by
  funext c
  unfold byCk byC
  cases hf : find I c with
  | none => rfl
  | some j => have := (find_some hf).1; simp [this]

theorem byCk_step {I : In} (h : Asc I) (Bu : Nat) {k : Nat} (hk : k < I.n) : upd (byCk I Bu k) (I.code k) (uptr Bu k) = byCk I Bu (k + 1) := by
  funext c
  by_cases e : c = I.code k
  · subst e
    rw [upd_same]
    unfold byCk
    rw [find_code h hk]
    simp
  · rw [upd_other _ _ e]
    unfold byCk
    cases hf : find I c with
    | none => rfl
    | some j =>
      have : j ≠ k := fun e' => e (by rw [← e']; exact ((find_some hf).2).symm)
      simp only [Option.bind_some]
      by_cases hj : j < k
      · rw [if_pos hj, if_pos (by omega)]
      · rw [if_neg hj, if_neg (by omega)]

/-! ### the parts of the code -/
def chL1 (c : Code) : Code := lC (bC (sB (stm 2 c)))
def chL2 (c : Code) : Code := lC (bC (sB (stm 6 c)))
def chB (c : Code) : Code := bC (sA (sB (sB (chL2 c))))

/-- The frame of CheckHierarchy ahead of the report. -/
structure FrC (I : In) (Bu cap N : Nat) (a : Act) : Prop where
  size : a.tmps.size = 149
  defers : a.defers = []
  s0 : a.tmps.getD 0 undef = .slice (some ⟨Bu, 0, none⟩) I.n cap
  s2 : a.tmps.getD 2 undef = .pointer (some ⟨N, 0, none⟩)
  s3 : a.tmps.getD 3 undef = .pointer (some ⟨N + 2, 0, none⟩)

/-- The world while byCode is filled. -/
structure K1 (I : In) (B Bu cap : Nat) (w0 : World) (a : Act) (w : World) (i : Nat) : Prop where
  fr : FrC I Bu cap w0.heap.size a
  s20 : a.tmps.getD 20 undef = .int .i64 I.n
  s21 : a.tmps.getD 21 undef = .int .i64 i
  le : i ≤ I.n
  below : Below w0.heap.size w0 w
  size : w.heap.size = w0.heap.size + 3
  res : w.heap[w0.heap.size]? = some (.cells #[.int .i64 0, .int .i64 0, .slice none 0 0] 43)
  box : w.heap[w0.heap.size + 2]? = some (.cells #[.map (some (w0.heap.size + 1))] 52)
  map : MapIs anyV w (w0.heap.size + 1) (byCk I Bu i) i

theorem cell_of_heap {w : World} {b o : Nat} {cs : Array Value} {t : TypeId} {v : Value} (h : w.heap[b]? = some (.cells cs t)) (hv : cs[o]? = some v) : w.cell? ⟨b, o, none⟩ = some v := by
  simp [World.cell?, h, hv]

set_option maxHeartbeats 1000000 in
set_option maxRecDepth 100000 in
theorem chRound1 {I : In} {B Bu : Nat} {pp : Nat → Nat} {cap : Nat} {w0 : World} (F : Fits I) (U : Units I B Bu pp w0) (hB : B ≤ w0.heap.size) {a : Act} {w : World} {i : Nat} (h : K1 I B Bu cap w0 a w i) (K : Act → World → Prop) (Q0 : Exit → Act → World → Prop)
    (hX : ∀ a' w', K1 I B Bu cap w0 a' w' I.n → Q0 (.exit 0) a' w') (hK : ∀ a' w', i < I.n → K1 I B Bu cap w0 a' w' (i + 1) → K a' w') :
    (chL1 (Tryd.f5.body.getD .skip)).wp Tryd.prog (Exit.then K Q0) a w := by
  obtain ⟨fr, s20, s21, le, below, size, res, box, map⟩ := h
  obtain ⟨f, rfl, hf⟩ := lit149 a fr.size fr.defers
  have e0 := (hf 0).symm.trans fr.s0
  have e2 := (hf 2).symm.trans fr.s2
  have e3 := (hf 3).symm.trans fr.s3
  have e20 := (hf 20).symm.trans s20
  have e21 := (hf 21).symm.trans s21
  clear fr s20 s21 hf
  simp only [e0, e2, e3, e20, e21]
  clear e0 e2 e3 e20 e21
  have hn := F.n
  by_cases hi : i < I.n
  · have hi' : (i : Int) < I.n := by omega
    have d0 := (U.below below hB).c0 i hi
    have db := cell_of_heap (o := 0) box rfl
    obtain ⟨w1, hup, hm1, hT⟩ := (map.of_block (w' := w.drew) rfl).store Tryd.underlying52 (by unfold maxLen; omega) (F.code i).1 (F.code i).2 (v := .pointer (some ⟨Bu, i * 20, none⟩)) rfl
    have hm2 : MapIs anyV w1 (w0.heap.size + 1) (byCk I Bu (i + 1)) (i + 1) := by have := byCk_step F.asc Bu hi; unfold uptr at this; rw [this] at hm1; exact hm1
    have hsz := turned_size hT
    have hbel1 : Below w0.heap.size w0 w1 := below.drew.trans (turned_below hT (by omega))
    have hres1 := (turned_other hT (k := w0.heap.size) (by show _ < w.heap.size; omega) (by omega)).trans res
    have hbox1 := (turned_other hT (k := w0.heap.size + 2) (by show _ < w.heap.size; omega) (by omega)).trans box
    have HK : ∀ a' w', K1 I B Bu cap w0 a' w' (i + 1) → K a' w' := fun a' w' h => hK _ _ hi h
    have HS : Hid (w1.heap.size = w0.heap.size + 3) := hsz.trans size
    clear hK hX hm1 hT hsz below res box map U F size
    conv => arg 2; whnf
    go_wp2_with fail
    go_region
    go_wp2_with fail
    exact ⟨⟨rfl, rfl, rfl, rfl, rfl⟩, rfl, by go_num, hi, hbel1, HS.out, hres1, hbox1, hm2⟩
  · obtain rfl : i = I.n := by omega
    have HX : ∀ a' w', K1 I B Bu cap w0 a' w' I.n → Q0 (.exit 0) a' w' := fun a' w' h => hX _ _ h
    clear hK hX hi
    conv => arg 2; whnf
    go_wp2_with fail
    exact ⟨⟨rfl, rfl, rfl, rfl, rfl⟩, rfl, rfl, le, below, size, res, box, map⟩

theorem chLoop1 {I : In} {B Bu : Nat} {pp : Nat → Nat} {cap : Nat} {w0 : World} (F : Fits I) (U : Units I B Bu pp w0) (hB : B ≤ w0.heap.size) {a : Act} {w : World} {i : Nat} (h : K1 I B Bu cap w0 a w i) (Q0 : Exit → Act → World → Prop)
    (hX : ∀ a' w', K1 I B Bu cap w0 a' w' I.n → Q0 (.exit 0) a' w') :
    (Code.loop (chL1 (Tryd.f5.body.getD .skip))).wp Tryd.prog Q0 a w := by
  refine wp_loop_ghost (fun z a w => ∃ i, K1 I B Bu cap w0 a w i ∧ I.n - i = z) (I.n - i) ⟨i, h, rfl⟩ ?_
  rintro z a w ⟨i, h, rfl⟩
  exact chRound1 F U hB h _ Q0 hX (fun a' w' hi hj => ⟨I.n - (i + 1), by omega, i + 1, hj, rfl⟩)
end Go.Proofs.Qxb6612928aDoor.H
