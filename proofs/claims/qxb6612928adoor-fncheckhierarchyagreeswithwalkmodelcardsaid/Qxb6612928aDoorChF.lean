/-
  CheckHierarchy: the loop that reports a unit's kinds.
-/
import Derived.Test.Qxb6612928aDoorChE
namespace Go.Proofs.Qxb6612928aDoor.H
open Go.RowKit Go.Maps
set_option linter.unusedVariables false

def chL3 (c : Code) : Code := lC (bC (sB (rest 12 (chB c))))

/-- The kinds of the issues that are reported. -/
def tagged (c : Int) (ks : List ByteArray) (j : Nat) : List (Int × ByteArray) := (ks.take j).map fun s => (c, s)

theorem tagged_step (c : Int) (ks : List ByteArray) {j : Nat} (hj : j < ks.length) : tagged c ks j ++ [(c, ks[j])] = tagged c ks (j + 1) := by
  unfold tagged
  rw [List.take_add_one, List.getElem?_eq_getElem hj, List.map_append]
  rfl

structure KI (I : In) (Bu cap N Mc Br i : Nat) (wR : World) (cc cf : Nat) (is : List (Int × ByteArray)) (ks : List ByteArray) (v10 : Value) (a : Act) (w : World) (j : Nat) : Prop where
  fr : FrD I Bu cap N Mc Br i a
  s9 : a.tmps.getD 9 undef = .pointer (some ⟨Bu, i * 20, none⟩)
  s129 : a.tmps.getD 129 undef = v10
  s130 : a.tmps.getD 130 undef = .int .i64 ks.length
  s131 : a.tmps.getD 131 undef = .int .i64 j
  le : j ≤ ks.length
  wm : ∃ vI, WM I Br wR cc cf (is ++ tagged (I.code i) ks j) vI ks v10 w

set_option maxHeartbeats 1000000 in
set_option maxRecDepth 100000 in
theorem chRound3 {I : In} {B Bu : Nat} {pp : Nat → Nat} {N Mc Br kb kc cap i : Nat} {wR : World} (C : CtxR I B Bu pp N Mc Br kb kc wR) (hi : i < I.n) {a : Act} {w : World} {cc cf : Nat} {is : List (Int × ByteArray)} {v10 : Value} {ks : List ByteArray} {j : Nat}
    (h : KI I Bu cap N Mc Br i wR cc cf is ks v10 a w j) (hks : ks.length ≤ 10) (his : is.length ≤ 100000) (K : Act → World → Prop) (Q0 : Exit → Act → World → Prop)
    (hX : ∀ a' w', KI I Bu cap N Mc Br i wR cc cf is ks v10 a' w' ks.length → Q0 (.exit 4) a' w')
    (hK : ∀ a' w', j < ks.length → KI I Bu cap N Mc Br i wR cc cf is ks v10 a' w' (j + 1) → K a' w') :
    (chL3 (Tryd.f5.body.getD .skip)).wp Tryd.prog (Exit.then K Q0) a w := by
  obtain ⟨fr, s9, s129, s130, s131, le, vI, hw⟩ := h
  obtain ⟨f, rfl, hf⟩ := lit149 a fr.size fr.defers
  have e0 := (hf 0).symm.trans fr.s0
  have e2 := (hf 2).symm.trans fr.s2
  have e5 := (hf 5).symm.trans fr.s5
  have e6 := (hf 6).symm.trans fr.s6
  have e7 := (hf 7).symm.trans fr.s7
  have e39 := (hf 39).symm.trans fr.s39
  have e40 := (hf 40).symm.trans fr.s40
  have e9 := (hf 9).symm.trans s9
  have e129 := (hf 129).symm.trans s129
  have e130 := (hf 130).symm.trans s130
  have e131 := (hf 131).symm.trans s131
  clear fr hf s9 s129 s130 s131
  simp only [e0, e2, e5, e6, e7, e39, e40, e9, e129, e130, e131]
  clear e0 e2 e5 e6 e7 e39 e40 e9 e129 e130 e131
  by_cases hj : j < ks.length
  · have HK : ∀ a' w', KI I Bu cap N Mc Br i wR cc cf is ks v10 a' w' (j + 1) → K a' w' := fun a' w' => hK a' w' hj
    clear hX hK
    obtain ⟨g10, cp10, rfl, -, -⟩ := hw.rowK.form (by omega)
    have hcell : w.cell? ⟨g10, j, none⟩ = some (.string ks[j]) := by
      have := hw.rowK.cells (g := g10) rfl j (.string ks[j]) (by simp [hj])
      rw [Addr.add_mid] at this
      simpa using this
    have hj' : (j : Int) < ks.length := by omega
    have d0 := (C.U.below hw.below C.hB).c0 i hi
    have c2 := hw.c2
    have fz2 := hw.fz 2
    have hlt := hw.lt
    generalize hx : ks[j] = x at hcell
    have hlen : (is ++ tagged (I.code i) ks j).length ≤ 100020 := by rw [List.length_append]; unfold tagged; simp; omega
    have hstep : is ++ tagged (I.code i) ks j ++ [(I.code i, x)] = is ++ tagged (I.code i) ks (j + 1) := by rw [List.append_assoc, ← hx, tagged_step (I.code i) ks hj]
    generalize is ++ tagged (I.code i) ks j = is0 at hw hlen hstep
    obtain ⟨i0, hi0, hz0, hz1, hz2⟩ := info_parts info51
    have hwd : WM I Br wR cc cf is0 vI ks (.slice (some ⟨g10, 0, none⟩) ks.length cp10) w.drew := hw.call ⟨rfl, rfl, rfl, Nat.le_refl _, fun _ _ => rfl⟩
    have hwa := hwd.alloc (.cells #[.int .i32 (I.code i), .string x] 51)
    have hown0 : Hid ((w.drew.alloc (.cells #[.int .i32 (I.code i), .string x] 51)).ownsRow (Br + 1) 51 2 vI is0.length (issCells is0)) := hwa.rowI
    have hnews : Hid (∀ q u, [Value.int .i32 (I.code i), .string x][q]? = some u → (w.drew.alloc (.cells #[.int .i32 (I.code i), .string x] 51)).cell? ((⟨w.heap.size, 0, none⟩ : Addr).add q) = some u) := by
      intro q u hq
      rw [Addr.add_mid]
      refine cell_of_heap (heap_alloc_last w.drew _) ?_
      simpa using hq
    have hone : Hid (∀ u ∈ [Value.int .i32 (I.code i), .string x], u.oneCell' = true) := by
      intro u hu
      simp at hu
      rcases hu with rfl | rfl <;> rfl
    have hb1 : Hid (is0.length + 1 ≤ maxLen) := by show _ ≤ maxLen; unfold maxLen; omega
    have hb2 : Hid ((is0.length + 1) * 24 ≤ 140737488355328) := by show _ ≤ _; omega
    have hb3 : Hid (Br + 1 ≤ (w.drew.alloc (.cells #[.int .i32 (I.code i), .string x] 51)).heap.size) := by show _ ≤ _; simp; omega
    have hb4 : Hid ((w.drew.alloc (.cells #[.int .i32 (I.code i), .string x] 51)).heap.size = w.heap.size + 1) := by show _ = _; simp
    have HW : Hid (∀ g cap' w1, w1.ownsRow (Br + 1) 51 2 (.slice (some ⟨g, 0, none⟩) (is0.length + 1) cap') (is0.length + 1) (issCells is0 ++ [.int .i32 (I.code i), .string x]) → (w.drew.alloc (.cells #[.int .i32 (I.code i), .string x] 51)).grownBy w1 vI.ownBlock → (vI.ownBlock = some g ∨ g = w.heap.size + 1) → WM I Br wR cc cf (is ++ tagged (I.code i) ks (j + 1)) (.slice (some ⟨g, 0, none⟩) (is0.length + 1) cap') ks (.slice (some ⟨g10, 0, none⟩) ks.length cp10) (w1.setCell ⟨Br, 2, none⟩ (.slice (some ⟨g, 0, none⟩) (is0.length + 1) cap'))) := by
      intro g cap' w1 h1 h2 h3
      rw [← hstep]
      refine hwa.issue h1 h2 ?_
      rcases h3 with h3 | h3
      · exact Or.inl h3
      · exact Or.inr (by simp [h3])
    have HC : Hid (∀ w1, (w.drew.alloc (.cells #[.int .i32 (I.code i), .string x] 51)).grownBy w1 vI.ownBlock → w1.cell? ⟨Br, 2, none⟩ = some vI ∧ w1.frozen? ⟨Br, 2, none⟩ = false) := fun w1 h => ⟨((hwa.grow h).2.2.1 2).trans hwa.c2, (hwa.grow h).2.2.2.1 2⟩
    clear hwa hwd hw hstep hlen his hx C
    refine wp_mono (Q := Exit.then K (fun _ _ _ => False)) ?_ (by intro e a w h; cases e <;> first | exact h | exact h.elim)
    conv => arg 2; whnf
    go_wp2_with fail
    go_region_law (refine step_append_lies _ rfl (.tmp 136) (.tmp 143) 41 rfl (Br + 1) 51 i0 (.agg #[.int .i32 0, .string { data := #[] }]) 2 24 Tryd.underlying41 hi0 hz0 hz1 hz2 rfl (by decide) vI is0.length (issCells is0) (by simp [Act.eval]) hown0.out ⟨w.heap.size, 0, none⟩ 1 1 [.int .i32 (I.code i), .string x] (by simp [Act.eval]) rfl hnews.out hone.out (by decide) hb1.out hb2.out hb3.out (w.heap.size + 1) hb4.out ?_; intro g cap' w1 hown hgrow hat hlt1; obtain ⟨hc2, hf2⟩ := HC.out w1 hgrow)
    all_goals go_wp2_with fail
    all_goals exact ⟨⟨rfl, rfl, rfl, rfl, rfl, rfl, rfl, rfl, rfl⟩, rfl, rfl, rfl, by go_num, hj, _, HW.out _ _ _ hown hgrow hat⟩
  · obtain rfl : j = ks.length := by omega
    have HX : ∀ a' w', KI I Bu cap N Mc Br i wR cc cf is ks v10 a' w' ks.length → Q0 (.exit 4) a' w' := hX
    clear hX hK hj
    conv => arg 2; whnf
    go_wp2_with fail
    exact ⟨⟨rfl, rfl, rfl, rfl, rfl, rfl, rfl, rfl, rfl⟩, rfl, rfl, rfl, rfl, le, vI, hw⟩
end Go.Proofs.Qxb6612928aDoor.H
