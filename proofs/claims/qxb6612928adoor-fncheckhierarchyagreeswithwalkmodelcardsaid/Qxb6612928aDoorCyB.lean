/-
  onCycles: the walking loop as a whole; the loop that colours the path.
-/
import Derived.Test.Qxb6612928aDoorCyA
import Derived.Deep.LoopGhost
namespace Go.Proofs.Qxb6612928aDoor.H
open Go.RowKit Go.Maps
set_option linter.unusedVariables false

theorem loop2 {I : In} {B Bu : Nat} {pp : Nat → Nat} {Bx Mb kb cap i : Nat} {w0 : World} (C : Ctx I B Bu pp Bx Mb kb w0) {a : Act} {w : World} {st : Nat → Nat} {pth : List Nat} {u k : Nat} {v6 : Value}
    (h : J2 I B Bu cap Bx i w0 a w st pth u k v6) (Q0 : Exit → Act → World → Prop) (hX : ∀ a' w' st pth e k v6, X2 I B Bu cap Bx i w0 a' w' st pth e k v6 → Q0 (.exit 2) a' w') :
    (Code.loop (cyL2 (Tryd.f10.body.getD .skip))).wp Tryd.prog Q0 a w := by
  refine wp_loop_ghost (fun z a w => ∃ st pth u k v6, J2 I B Bu cap Bx i w0 a w st pth u k v6 ∧ zeros st I.n = z) (zeros st I.n) ⟨st, pth, u, k, v6, h, rfl⟩ ?_
  rintro z a w ⟨st, pth, u, k, v6, h, rfl⟩
  by_cases hst : st u = 0
  · exact round2_new C h hst _ Q0 hX (fun a' w' st' pth' u' k' v6' hj hz => ⟨_, hz, st', pth', u', k', v6', hj, rfl⟩)
  · exact round2_hit C h hst _ Q0 hX

/-- At the head of a round of the colouring loop: the first t of the path bear the colour e. -/
structure J3 (I : In) (B Bu cap Bx i : Nat) (w0 : World) (st : Nat → Nat) (pth : List Nat) (e : Nat) (v6 : Value) (a : Act) (w : World) (t k : Nat) : Prop where
  fr : Fr I Bu cap Bx w0.heap.size i a
  s6 : a.tmps.getD 6 undef = v6
  s8 : a.tmps.getD 8 undef = .int .i64 e
  s63 : a.tmps.getD 63 undef = v6
  s64 : a.tmps.getD 64 undef = .int .i64 pth.length
  s65 : a.tmps.getD 65 undef = .int .i64 t
  le : t ≤ pth.length
  below : Below w0.heap.size w0 w
  map : MapIs i64V w w0.heap.size (stM I (setAll st (pth.take t) e)) k
  row : w.ownsRow (w0.heap.size + 1) 53 1 v6 pth.length (pth.map (uptr Bu))
  size : w0.heap.size + 1 ≤ w.heap.size
  cnt : k + 2 * zeros st I.n + (pth.length - t) ≤ 2 * I.n
  len : pth.length ≤ 2 * I.n

set_option maxHeartbeats 1000000 in
set_option maxRecDepth 100000 in
theorem round3 {I : In} {B Bu : Nat} {pp : Nat → Nat} {Bx Mb kb cap i : Nat} {w0 : World} (C : Ctx I B Bu pp Bx Mb kb w0) {st : Nat → Nat} {pth : List Nat} {e : Nat} {v6 : Value} (he : e = 2 ∨ e = 3) (hlt : ∀ j ∈ pth, j < I.n) {a : Act} {w : World} {t k : Nat}
    (h : J3 I B Bu cap Bx i w0 st pth e v6 a w t k) (K : Act → World → Prop) (Q0 : Exit → Act → World → Prop)
    (hX : ∀ a' w' k', J3 I B Bu cap Bx i w0 st pth e v6 a' w' pth.length k' → Q0 (.exit 4) a' w') (hK : ∀ a' w' k', t < pth.length → J3 I B Bu cap Bx i w0 st pth e v6 a' w' (t + 1) k' → K a' w') :
    (cyL3 (Tryd.f10.body.getD .skip)).wp Tryd.prog (Exit.then K Q0) a w := by
  obtain ⟨fr, s6, s8, s63, s64, s65, le, below, map, row, size, cnt, len⟩ := h
  obtain ⟨f, rfl, hf⟩ := lit92 a fr.size fr.defers
  have e0 := (hf 0).symm.trans fr.s0
  have e1 := (hf 1).symm.trans fr.s1
  have e5 := (hf 5).symm.trans fr.s5
  have e22 := (hf 22).symm.trans fr.s22
  have e23 := (hf 23).symm.trans fr.s23
  have e6 := (hf 6).symm.trans s6
  have e8 := (hf 8).symm.trans s8
  have e63 := (hf 63).symm.trans s63
  have e64 := (hf 64).symm.trans s64
  have e65 := (hf 65).symm.trans s65
  clear fr s6 s8 s63 s64 s65 hf
  simp only [e0, e1, e5, e22, e23, e6, e8, e63, e64, e65]
  clear e0 e1 e5 e22 e23 e6 e8 e63 e64 e65
  have hn := C.F.n
  by_cases ht : t < pth.length
  · have ht' : (t : Int) < pth.length := by omega
    have htb : (t : Int) ≤ 8192 := by omega
    have hu : pth[t] < I.n := hlt _ (List.getElem_mem ht)
    obtain ⟨u, Hu⟩ : ∃ u, Hid (pth[t] = u) := ⟨pth[t], (rfl : pth[t] = pth[t])⟩
    have hun : u < I.n := by have := Hu.out; omega
    have row0 := row
    obtain ⟨hlen, hr⟩ := row
    rcases hr with ⟨_, h0⟩ | ⟨g, cp, cur, hv, hg, hh, hn2, hcap, hcs, htk⟩
    · omega
    · have hcell := World.ownsRow.cellAt (by rw [hv] at row0; exact row0) t (by omega)
      have hx : (pth.map (uptr Bu))[t]? = some (.pointer (some ⟨Bu, u * 20, none⟩)) := by
        rw [List.getElem?_map, List.getElem?_eq_getElem ht, Hu.out]; rfl
      rw [hx] at hcell
      have d0 := (C.U.below below C.hB).c0 u hun
      obtain ⟨w1, hup, hm1, hT⟩ := map.store Tryd.underlying60 (by unfold maxLen; omega) (C.F.code u).1 (C.F.code u).2 (v := .int .i64 e) rfl
      rw [stM_upd C.F.asc _ hun (by omega), setAll_snoc] at hm1
      have hbel1 : Below w0.heap.size w0 w1 := below.trans (turned_below hT (Nat.le_refl _))
      have hrow1 := row0.kept hT.grown (by rw [hv]; exact Or.inr (by simp [Value.ownBlock]; omega))
      have hsz1 := turned_size hT
      have htk1 : pth.take t ++ [u] = pth.take (t + 1) := by rw [List.take_succ_eq_append_getElem ht, Hu.out]
      rw [htk1] at hm1
      have HK : ∀ a' w', J3 I B Bu cap Bx i w0 st pth e v6 a' w' (t + 1) (k + 1) → K a' w' := fun a' w' h => hK _ _ _ ht h
      have HJ : Below w0.heap.size w0 w1 ∧ MapIs i64V w1 w0.heap.size (stM I (setAll st (pth.take (t + 1)) e)) (k + 1) ∧ w1.ownsRow (w0.heap.size + 1) 53 1 v6 pth.length (pth.map (uptr Bu)) ∧ w0.heap.size + 1 ≤ w1.heap.size ∧ k + 1 + 2 * zeros st I.n + (pth.length - (t + 1)) ≤ 2 * I.n := ⟨hbel1, hm1, hrow1, by omega, by omega⟩
      have HV : Hid (v6 = .slice (some ⟨g, 0, none⟩) pth.length cp) := hv
      rw [hv]
      clear hK hX hm1 hT hbel1 hrow1 hsz1 htk1 hx row0 hlen hh htk hu Hu map below hv
      conv => arg 2; whnf
      go_wp2_with fail
      exact ⟨⟨rfl, rfl, rfl, rfl, rfl, rfl, rfl⟩, HV.out.symm, rfl, HV.out.symm, rfl, by go_num, by omega, HJ.1, HJ.2.1, HJ.2.2.1, HJ.2.2.2.1, HJ.2.2.2.2, len⟩
  · obtain rfl : t = pth.length := by omega
    have HX : ∀ a' w', J3 I B Bu cap Bx i w0 st pth e v6 a' w' pth.length k → Q0 (.exit 4) a' w' := fun a' w' h => hX _ _ _ h
    clear hK hX ht
    conv => arg 2; whnf
    go_wp2_with fail
    exact ⟨⟨rfl, rfl, rfl, rfl, rfl, rfl, rfl⟩, rfl, rfl, rfl, rfl, rfl, le, below, map, row, size, cnt, len⟩

theorem loop3 {I : In} {B Bu : Nat} {pp : Nat → Nat} {Bx Mb kb cap i : Nat} {w0 : World} (C : Ctx I B Bu pp Bx Mb kb w0) {st : Nat → Nat} {pth : List Nat} {e : Nat} {v6 : Value} (he : e = 2 ∨ e = 3) (hlt : ∀ j ∈ pth, j < I.n) {a : Act} {w : World} {t k : Nat}
    (h : J3 I B Bu cap Bx i w0 st pth e v6 a w t k) (Q0 : Exit → Act → World → Prop) (hX : ∀ a' w' k', J3 I B Bu cap Bx i w0 st pth e v6 a' w' pth.length k' → Q0 (.exit 4) a' w') :
    (Code.loop (cyL3 (Tryd.f10.body.getD .skip))).wp Tryd.prog Q0 a w := by
  refine wp_loop_ghost (fun z a w => ∃ t k, J3 I B Bu cap Bx i w0 st pth e v6 a w t k ∧ pth.length - t = z) (pth.length - t) ⟨t, k, h, rfl⟩ ?_
  rintro z a w ⟨t, k, h, rfl⟩
  exact round3 C he hlt h _ Q0 hX (fun a' w' k' ht hj => ⟨pth.length - (t + 1), by omega, t + 1, k', hj, rfl⟩)
end Go.Proofs.Qxb6612928aDoor.H
