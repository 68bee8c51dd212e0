/-
  onCycles: the outer loop.
-/
import Derived.Test.Qxb6612928aDoorCyB
namespace Go.Proofs.Qxb6612928aDoor.H
open Go.RowKit Go.Maps
set_option linter.unusedVariables false

/-- At the head of a round of the outer loop. -/
structure J1 (I : In) (B Bu cap Bx : Nat) (w0 : World) (a : Act) (w : World) (st : Nat → Nat) (i k : Nat) (v6 : Value) : Prop where
  fr : Fr I Bu cap Bx w0.heap.size i a
  s6 : a.tmps.getD 6 undef = v6
  oc : OC I Bu w0 st [] v6 k 0 w
  calm : Calm I st
  done : ∀ j, j < i → st j ≠ 0
  le : i ≤ I.n

theorem ownsRow_shape {w : World} {base : Nat} {e : TypeId} {size : Nat} {v : Value} {n : Nat} {xs : List Value} (h : w.ownsRow base e size v n xs) : ∃ ao cp, v = .slice ao n cp := by
  rcases h.2 with ⟨h1, h2⟩ | ⟨g, cp, cur, hv, _⟩
  · exact ⟨none, 0, by rw [h1, h2]⟩
  · exact ⟨_, _, hv⟩

theorem ownsRow_cut {w : World} {base : Nat} {e : TypeId} {size g cap n : Nat} {xs : List Value} (h : w.ownsRow base e size (.slice (some ⟨g, 0, none⟩) n cap) n xs) : w.ownsRow base e size (.slice (some ⟨g, 0, none⟩) 0 cap) 0 [] := by
  rcases h.2 with ⟨h1, _⟩ | ⟨g', cp, cur, hv, hg, hh, hn, hcap, hcs, _⟩
  · cases h1
  · cases hv
    exact ⟨by simp, .inr ⟨_, _, cur, rfl, hg, hh, Nat.zero_le _, hcap, hcs, by simp⟩⟩

set_option maxHeartbeats 1000000 in
set_option maxRecDepth 100000 in
theorem round1 {I : In} {B Bu : Nat} {pp : Nat → Nat} {Bx Mb kb cap : Nat} {w0 : World} (C : Ctx I B Bu pp Bx Mb kb w0) {a : Act} {w : World} {st : Nat → Nat} {i k : Nat} {v6 : Value}
    (h : J1 I B Bu cap Bx w0 a w st i k v6) (K : Act → World → Prop) (Q0 : Exit → Act → World → Prop)
    (hX : ∀ a' w' st' k' v6', J1 I B Bu cap Bx w0 a' w' st' I.n k' v6' → Q0 (.exit 0) a' w') (hK : ∀ a' w' st' k' v6', i < I.n → J1 I B Bu cap Bx w0 a' w' st' (i + 1) k' v6' → K a' w') :
    (cyL1 (Tryd.f10.body.getD .skip)).wp Tryd.prog (Exit.then K Q0) a w := by
  obtain ⟨fr, s6, oc, calm, done, le⟩ := h
  obtain ⟨f, rfl, hf⟩ := lit92 a fr.size fr.defers
  have e0 := (hf 0).symm.trans fr.s0
  have e1 := (hf 1).symm.trans fr.s1
  have e5 := (hf 5).symm.trans fr.s5
  have e22 := (hf 22).symm.trans fr.s22
  have e23 := (hf 23).symm.trans fr.s23
  have e6 := (hf 6).symm.trans s6
  clear fr s6 hf
  simp only [e0, e1, e5, e22, e23, e6]
  clear e0 e1 e5 e22 e23 e6
  have hn := C.F.n
  by_cases hi : i < I.n
  · have hi' : (i : Int) < I.n := by omega
    have HK : ∀ a' w', (∃ st' k' v6', J1 I B Bu cap Bx w0 a' w' st' (i + 1) k' v6') → K a' w' := fun a' w' ⟨st', k', v6', h⟩ => hK _ _ _ _ _ hi h
    have HD : Hid (∀ j, j < i → st j ≠ 0) := done
    clear hK hX done
    conv => arg 2; whnf
    go_wp2_with fail
    refine loop2 C (cap := cap) (i := i) (st := st) (pth := []) (u := i) (k := k) (v6 := v6) ⟨⟨rfl, rfl, rfl, rfl, rfl, rfl, rfl⟩, rfl, rfl, rfl, oc, calm.walks, trivial, hi, Or.inl ⟨rfl, rfl⟩, (by exact HD.out)⟩ _ ?_
    intro a1 w1 st1 pth1 ee k1 v1 hx
    clear oc calm HD le
    obtain ⟨fr, s6, s8, oc, wk, e23, h2, h3, st0, keep⟩ := hx
    have HKeep : Hid (∀ j, j < i → st1 j ≠ 0) := keep
    clear keep
    obtain ⟨f1, rfl, hf⟩ := lit92 a1 fr.size fr.defers
    have e0 := (hf 0).symm.trans fr.s0
    have e1 := (hf 1).symm.trans fr.s1
    have e5 := (hf 5).symm.trans fr.s5
    have e22 := (hf 22).symm.trans fr.s22
    have e23' := (hf 23).symm.trans fr.s23
    have e6 := (hf 6).symm.trans s6
    have e8 := (hf 8).symm.trans s8
    clear fr s6 s8 hf
    simp only [e0, e1, e5, e22, e23', e6, e8]
    clear e0 e1 e5 e22 e23' e6 e8
    obtain ⟨ao, cp, HV⟩ := ownsRow_shape oc.row
    have hlen : pth1.length ≤ 2 * I.n := by have := oc.cnt; omega
    rw [HV]
    go_wp2_with fail
    refine loop3 C (cap := cap) (i := i) (st := st1) (pth := pth1) (e := ee) (v6 := v1) e23 wk.lt (t := 0) (k := k1) ⟨⟨rfl, rfl, rfl, rfl, rfl, rfl, rfl⟩, (by exact HV.symm), rfl, (by exact HV.symm), rfl, rfl, Nat.zero_le _, oc.below, by rw [List.take_zero, setAll_nil]; exact oc.map, oc.row, oc.size, oc.cnt, hlen⟩ _ ?_
    intro a2 w2 k2 hj
    obtain ⟨fr, s6, s8, s63, s64, s65, le, below, map, row, size, cnt, len⟩ := hj
    obtain ⟨f2, rfl, hf⟩ := lit92 a2 fr.size fr.defers
    have e0 := (hf 0).symm.trans fr.s0
    have e1 := (hf 1).symm.trans fr.s1
    have e5 := (hf 5).symm.trans fr.s5
    have e22 := (hf 22).symm.trans fr.s22
    have e23' := (hf 23).symm.trans fr.s23
    have e6 := (hf 6).symm.trans s6
    clear fr s6 s8 s63 s64 s65 hf
    simp only [e0, e1, e5, e22, e23', e6]
    clear e0 e1 e5 e22 e23' e6 HV
    rw [List.take_length] at map
    have calm' := wk.done e23 h2 h3
    have hz : zeros (setAll st1 pth1 ee) I.n = zeros st1 I.n := zeros_congr _ (fun j hj => by
      unfold setAll
      by_cases hm : j ∈ pth1
      · have := (wk.one j).2 hm; simp only [hm, if_true]; omega
      · simp only [hm, if_false])
    have hdone : ∀ j, j < i + 1 → setAll st1 pth1 ee j ≠ 0 := by
      intro j hj
      unfold setAll
      split
      · omega
      · by_cases e : j = i
        · rw [e]; exact st0
        · exact HKeep.out j (by omega)
    rcases row.2 with ⟨hv, h0⟩ | ⟨g, cq, cur, hv, hg, hh, hn2, hcap, hcs, htk⟩
    · have hoc : OC I Bu w0 (setAll st1 pth1 ee) [] (.slice none 0 0) k2 0 w2 := ⟨below, map, World.ownsRow_nil _ _ _ _, size, by omega⟩
      rw [hv]
      clear row hv wk h2 h3 map below
      go_wp2_with fail
      exact ⟨_, k2, _, ⟨rfl, rfl, rfl, rfl, rfl, rfl, by go_num⟩, rfl, hoc, calm', hdone, hi⟩
    · have hoc : OC I Bu w0 (setAll st1 pth1 ee) [] (.slice (some ⟨g, 0, none⟩) 0 cq) k2 0 w2 := ⟨below, map, ownsRow_cut (by rw [hv] at row; exact row), size, by omega⟩
      rw [hv]
      clear row hv wk h2 h3 map below hh htk
      go_wp2_with fail
      exact ⟨_, k2, _, ⟨rfl, rfl, rfl, rfl, rfl, rfl, by go_num⟩, rfl, hoc, calm', hdone, hi⟩
  · obtain rfl : i = I.n := by omega
    have HX : ∀ a' w', J1 I B Bu cap Bx w0 a' w' st I.n k v6 → Q0 (.exit 0) a' w' := fun a' w' h => hX _ _ _ _ _ h
    clear hK hX hi
    conv => arg 2; whnf
    go_wp2_with fail
    exact ⟨⟨rfl, rfl, rfl, rfl, rfl, rfl, rfl⟩, rfl, oc, calm, done, le⟩

theorem loop1 {I : In} {B Bu : Nat} {pp : Nat → Nat} {Bx Mb kb cap : Nat} {w0 : World} (C : Ctx I B Bu pp Bx Mb kb w0) {a : Act} {w : World} {st : Nat → Nat} {i k : Nat} {v6 : Value}
    (h : J1 I B Bu cap Bx w0 a w st i k v6) (Q0 : Exit → Act → World → Prop) (hX : ∀ a' w' st' k' v6', J1 I B Bu cap Bx w0 a' w' st' I.n k' v6' → Q0 (.exit 0) a' w') :
    (Code.loop (cyL1 (Tryd.f10.body.getD .skip))).wp Tryd.prog Q0 a w := by
  refine wp_loop_ghost (fun z a w => ∃ st i k v6, J1 I B Bu cap Bx w0 a w st i k v6 ∧ I.n - i = z) (I.n - i) ⟨st, i, k, v6, h, rfl⟩ ?_
  rintro z a w ⟨st, i, k, v6, h, rfl⟩
  exact round1 C h _ Q0 hX (fun a' w' st' k' v6' hi hj => ⟨I.n - (i + 1), by omega, st', i + 1, k', v6', hj, rfl⟩)
end Go.Proofs.Qxb6612928aDoor.H
