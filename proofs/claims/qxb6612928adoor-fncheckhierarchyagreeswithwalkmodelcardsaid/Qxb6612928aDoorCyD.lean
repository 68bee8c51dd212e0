/-
  onCycles: the range over the colours; the function as a whole.
-/
import Derived.Test.Qxb6612928aDoorCyC
import Derived.Maps.RangeWalk
namespace Go.Proofs.Qxb6612928aDoor.H
open Go.RowKit Go.Maps
set_option linter.unusedVariables false

/-- What 'cycles' holds while some colours are still to come. -/
def cm (I : In) (st : Nat → Nat) (left : Lit → Bool) : Int → Option Value := fun c => (find I c).bind fun j => if st j = 3 ∧ left (.int .i32 c) = false then some (.bool true) else none

theorem cm_start (I : In) (st : Nat → Nat) (left : Lit → Bool) (h : ∀ c, left (.int .i32 c) = (stM I st c).isSome) : cm I st left = fun _ => none := by
  funext c
  unfold cm
  cases hf : find I c with
  | none => rfl
  | some j =>
    have := h c
    simp only [stM, hf, Option.bind_some] at this
    by_cases e : st j = 3
    · simp [e] at this; simp [this]
    · simp [e]

theorem cm_hit (I : In) (st : Nat → Nat) (left : Lit → Bool) (x : Int) (h : stM I st x = some (.int .i64 3)) :
    upd (cm I st left) x (.bool true) = cm I st (fun z => left z && !z.sameKey (.int .i32 x)) := by
  funext c
  by_cases e : c = x
  · subst e
    rw [upd_same]
    unfold cm
    cases hf : find I c with
    | none => simp [stM, hf] at h
    | some j =>
      have h3 : st j = 3 := by
        simp only [stM, hf, Option.bind_some] at h
        split at h
        · cases h
        · simp at h; omega
      simp [h3, Lit.sameKey]
  · rw [upd_other _ _ e]
    unfold cm
    have hk : (Lit.int .i32 c).sameKey (.int .i32 x) = false := sameKey_ne (by intro h; cases h; exact e rfl)
    simp [hk]

theorem cm_miss (I : In) (st : Nat → Nat) (left : Lit → Bool) (x s : Int) (h : stM I st x = some (.int .i64 s)) (hs : s ≠ 3) :
    cm I st left = cm I st (fun z => left z && !z.sameKey (.int .i32 x)) := by
  funext c
  by_cases e : c = x
  · subst e
    unfold cm
    cases hf : find I c with
    | none => rfl
    | some j =>
      have h3 : st j ≠ 3 := by
        simp only [stM, hf, Option.bind_some] at h
        split at h
        · cases h
        · simp at h; omega
      simp [h3]
  · unfold cm
    have hk : (Lit.int .i32 c).sameKey (.int .i32 x) = false := sameKey_ne (by intro h; cases h; exact e rfl)
    simp [hk]

theorem cm_end {I : In} {st : Nat → Nat} (calm : Calm I st) (done : ∀ j, j < I.n → st j ≠ 0) (left : Lit → Bool) (h : ∀ z, left z = false) : cm I st left = cycM I := by
  funext c
  unfold cm cycM
  cases hf : find I c with
  | none => rfl
  | some j =>
    have hj := (find_some hf).1
    have ht := calm.truth j hj
    have hl := calm.le j
    have hd := done j hj
    have he := ends_within hj
    simp only [Option.bind_some, h, and_true]
    unfold never
    cases hb : endsIn I I.n j with
    | true =>
      have : st j ≠ 3 := fun h3 => ht.2 h3 (he.2 hb)
      simp [this]
    | false =>
      have : st j = 3 := by
        have h2 : st j ≠ 2 := fun h2 => by have := he.1 (ht.1 h2); rw [hb] at this; cases this
        omega
      simp [this]

theorem b32 {n : Int} (h : (Lit.int .i32 n).wf = true) : -2147483648 ≤ n ∧ n ≤ 2147483647 := by
  simp [Lit.wf, IntKind.min, IntKind.max, IntKind.signed, IntKind.bits] at h
  omega

/-- 'make(map, n)'. -/
theorem run_makeMap_n {t k e : TypeId} (ht : Tryd.prog.underlying t = some (.map k e)) (n : Int) (w : World) : (Instr.makeMap t (some (.int .i64 n))).run Tryd.prog w = .ok (.map (some w.heap.size)) (w.alloc (.map #[] 0)) := by
  simp [Instr.makeMap, run_underlying ht, asInt, asIntOf]

/-- At the head of a round of the range. -/
structure J4 (I : In) (B Bu : Nat) (w0 : World) (st : Nat → Nat) (D : DataW Value) (k Mc : Nat) (a : Act) (w : World) (left : Lit → Bool) (cnt kc : Nat) : Prop where
  size : a.tmps.size = 92
  defers : a.defers = []
  s15 : a.tmps.getD 15 undef = .map (some Mc)
  s81 : a.tmps.getD 81 undef = .pointer (some ⟨Mc + 1, 0, none⟩)
  below : Below w0.heap.size w0 w
  rg : w.ranges Tryd.prog 28 (selE i64V) w0.heap.size (Mc + 1) k D left cnt
  cyc : MapIs anyV w Mc (cm I st left) kc
  cnt : kc + cnt ≤ 8192

set_option maxHeartbeats 1000000 in
set_option maxRecDepth 100000 in
theorem round4 {I : In} {B Bu : Nat} {w0 : World} {st : Nat → Nat} {D : DataW Value} {k Mc : Nat} (hm : ∀ c, has D (.int .i32 c) = (stM I st c).isSome ∧ ∀ z, D.atKey (.int .i32 c) (.held z) = .held ((stM I st c).getD z)) (hMc : w0.heap.size < Mc)
    {a : Act} {w : World} {left : Lit → Bool} {cnt kc : Nat} (h : J4 I B Bu w0 st D k Mc a w left cnt kc) (K : Act → World → Prop) (Q0 : Exit → Act → World → Prop)
    (hX : ∀ a' w' left' kc', (∀ z, left' z = false) → J4 I B Bu w0 st D k Mc a' w' left' 0 kc' → Q0 (.exit 6) a' w') (hK : ∀ a' w' left' cnt' kc', cnt' < cnt → J4 I B Bu w0 st D k Mc a' w' left' cnt' kc' → K a' w') :
    (cyL4 (Tryd.f10.body.getD .skip)).wp Tryd.prog (Exit.then K Q0) a w := by
  obtain ⟨size, defers, s15, s81, below, rg, cyc, hcnt⟩ := h
  obtain ⟨f, rfl, hf⟩ := lit92 a size defers
  have e15 := (hf 15).symm.trans s15
  have e81 := (hf 81).symm.trans s81
  clear s15 s81 hf size defers
  simp only [e15, e81]
  clear e15 e81
  have invK : ∀ key kl, keyOf Tryd.prog 28 key = some kl → ∃ x : Int, key = .int .i32 x := fun key kl h => by obtain ⟨x, h, _⟩ := keyOf_int_inv Tryd.underlying28 h; exact ⟨x, h⟩
  have invV : ∀ v y, selE i64V v = some y → ∃ c : Int, v = .int .i64 c := fun v y h => by
    have := (selE_inv h).1
    unfold i64V at this
    split at this
    · exact ⟨_, rfl⟩
    · cases this
  conv => arg 2; whnf
  go_wp2_with (at_next; refine wpList_next_ranges (α := Int) (β := Int) _ rfl _ rfl 28 law28 (selE i64V) (.int .i32) (.int .i64) invK invV w0.heap.size (Mc + 1) k D left cnt rfl rg ?_ ?_)
  · intro h0 hl
    subst h0
    have HX : ∀ a' w', J4 I B Bu w0 st D k Mc a' w' left 0 kc → Q0 (.exit 6) a' w' := fun a' w' h => hX _ _ _ _ hl h
    clear hX hK invK invV hm hl
    go_wp2_with fail
    exact ⟨rfl, rfl, rfl, rfl, below, rg, cyc, hcnt⟩
  · intro x c kl y1 y2 w1 cnt1 hkey hlk hv hat rg1 hlt hg1 hs1 hen
    obtain ⟨x', hx', rfl, hwx⟩ := keyOf_int_inv Tryd.underlying28 hkey
    cases hx'
    have hb := b32 hwx
    have hval : stM I st x = some (.int .i64 c) := by
      have h1 := congrArg Prod.fst (selE_inv hv).2
      simp only at h1
      have h2 := (hm x).2 undef
      rw [hat, h1] at h2
      simp only [DataW.held.injEq] at h2
      cases hs : stM I st x with
      | none => rw [hs] at h2; simp [undef] at h2
      | some v => rw [hs] at h2; simp at h2; rw [h2]
    have below1 : Below w0.heap.size w0 w1 := below.trans ⟨hg1.os, hg1.tape, hg1.output, hg1.size, fun j hj => hg1.block j (by have := below.size; omega) (by intro e; simp at e; omega)⟩
    have cyc1 : MapIs anyV w1 Mc (cm I st left) kc := cyc.of_block (hg1.block _ cyc.lt (by intro e; simp at e))
    clear hkey hlk hv hat below rg cyc hg1 hm invK invV hX
    by_cases h3 : c = 3
    · subst h3
      obtain ⟨w2, hup, cyc2, hT⟩ := cyc1.store Tryd.underlying56 (by unfold maxLen; omega) hb.1 hb.2 (v := .bool true) rfl
      rw [cm_hit I st left x hval] at cyc2
      have rg2 := rg1.kept hT.grown (by intro e; simp at e; omega) (by intro e; simp at e)
      have below2 : Below w0.heap.size w0 w2 := below1.trans (turned_below hT (by omega))
      have HK : ∀ a' w', J4 I B Bu w0 st D k Mc a' w' (fun z => left z && !z.sameKey (.int .i32 x)) cnt1 (kc + 1) → K a' w' := fun a' w' h => hK _ _ _ _ _ hlt h
      have hcn : kc + 1 + cnt1 ≤ 8192 := by omega
      clear hK hval hT cyc1 rg1 below1 hwx hlt
      go_wp2_with fail
      exact ⟨rfl, rfl, rfl, rfl, below2, rg2, cyc2, hcn⟩
    · have h3' : (c == 3) = false := beq_eq_false_iff_ne.2 h3
      have cyc2 := cyc1
      rw [cm_miss I st left x c hval h3] at cyc2
      have HK : ∀ a' w', J4 I B Bu w0 st D k Mc a' w' (fun z => left z && !z.sameKey (.int .i32 x)) cnt1 kc → K a' w' := fun a' w' h => hK _ _ _ _ _ hlt h
      have hcn : kc + cnt1 ≤ 8192 := by omega
      clear hK hval cyc1 h3 hwx hlt
      go_wp2_with fail
      exact ⟨rfl, rfl, rfl, rfl, below1, rg1, cyc2, hcn⟩

theorem loop4 {I : In} {B Bu : Nat} {w0 : World} {st : Nat → Nat} {D : DataW Value} {k Mc : Nat} (hm : ∀ c, has D (.int .i32 c) = (stM I st c).isSome ∧ ∀ z, D.atKey (.int .i32 c) (.held z) = .held ((stM I st c).getD z)) (hMc : w0.heap.size < Mc)
    {a : Act} {w : World} {left : Lit → Bool} {cnt kc : Nat} (h : J4 I B Bu w0 st D k Mc a w left cnt kc) (Q0 : Exit → Act → World → Prop)
    (hX : ∀ a' w' left' kc', (∀ z, left' z = false) → J4 I B Bu w0 st D k Mc a' w' left' 0 kc' → Q0 (.exit 6) a' w') :
    (Code.loop (cyL4 (Tryd.f10.body.getD .skip))).wp Tryd.prog Q0 a w := by
  refine wp_loop_ghost (fun z a w => ∃ left kc, J4 I B Bu w0 st D k Mc a w left z kc) cnt ⟨left, kc, h⟩ ?_
  rintro z a w ⟨left, kc, h⟩
  exact round4 hm hMc h _ Q0 hX (fun a' w' left' cnt' kc' hlt hj => ⟨cnt', hlt, left', kc', hj⟩)

set_option maxHeartbeats 1000000 in
set_option maxRecDepth 100000 in
/-- onCycles: the codes of just those units from which the walk along parents never ends. -/
theorem onCycles {I : In} {B Bu : Nat} {pp : Nat → Nat} {Bx Mb kb cap : Nat} {w0 : World} (C : Ctx I B Bu pp Bx Mb kb w0) :
    Calls Tryd.prog 10 #[.slice (some ⟨Bu, 0, none⟩) I.n cap, clo Bx] w0 fun e w' => ∃ Mc kc, e = .returned (.map (some Mc)) ∧ w0.heap.size ≤ Mc ∧ MapIs anyV w' Mc (cycM I) kc ∧ Below w0.heap.size w0 w' := by
  have hn := C.F.n
  have hmm := @run_makeMap Tryd.prog
  have hmn := @run_makeMap_n 60 28 3 Tryd.underlying60
  go_enter Tryd.func10, Tryd.ntmps10
  go_wp2_with fail
  refine loop1 C (cap := cap) (st := fun _ => 0) (i := 0) (k := 0) (v6 := .slice none 0 0) ⟨⟨rfl, rfl, rfl, rfl, rfl, rfl, rfl⟩, rfl, ⟨(Below.refl _ _).alloc (Nat.le_refl _) _, by rw [stM_empty]; exact MapIs_made _ _, World.ownsRow_nil _ _ _ _, by simp, by rw [zeros_zero]; omega⟩, ⟨fun j hj => ⟨fun h => by omega, fun h => by omega⟩, fun j => Or.inl rfl⟩, fun j hj => by omega, Nat.zero_le _⟩ _ ?_
  intro a1 w1 st k1 v1 hj
  obtain ⟨fr, s6, oc, calm, done, le⟩ := hj
  obtain ⟨f, rfl, hf⟩ := lit92 a1 fr.size fr.defers
  have e5 := (hf 5).symm.trans fr.s5
  clear fr s6 hf
  simp only [e5]
  clear e5 hmn
  have hcnt := oc.cnt
  have hbel := oc.below
  have hsz := oc.size
  obtain ⟨D, ho, hD, hm⟩ := oc.map
  have hsD := ho.size_le
  have HC : Hid (Calm I st) := calm
  have HDn : Hid (∀ j, j < I.n → st j ≠ 0) := done
  have HM : Hid (∀ c, has D (.int .i32 c) = (stM I st c).isSome ∧ ∀ z, D.atKey (.int .i32 c) (.held z) = .held ((stM I st c).getD z)) := hm
  have ho1 := ho.alloc (.map #[] 0)
  clear oc calm done hm
  go_wp2_with (at_range; refine wpList_range_own _ rfl _ 60 rfl 28 3 law28 Tryd.underlying60 (selE i64V) w0.heap.size k1 D rfl ho1 ?_)
  intro w2 hrg hg hs
  have hbel2 : Below w0.heap.size w0 w2 := (hbel.alloc hbel.size _).trans ⟨hg.os, hg.tape, hg.output, hg.size, fun j hj => hg.block j (by simp; omega) (by simp)⟩
  have hcyc : MapIs anyV w2 w1.heap.size (cm I st (has D)) 0 := by
    rw [cm_start I st (has D) (fun c => (HM.out c).1)]
    exact (MapIs_made anyV w1).of_block (hg.block _ (by simp) (by simp))
  clear ho ho1 hbel hg hs hmm
  go_wp2_with fail
  refine loop4 (I := I) (B := B) (Bu := Bu) (w0 := w0) (st := st) (D := D) (k := k1) (Mc := w1.heap.size) HM.out (by omega) (left := has D) (cnt := size D) (kc := 0) ⟨rfl, rfl, rfl, rfl, hbel2, hrg, hcyc, by omega⟩ _ ?_
  intro a3 w3 left kc hl hj
  obtain ⟨size, defers, s15, s81, below, rg, cyc, hcn⟩ := hj
  obtain ⟨f, rfl, hf⟩ := lit92 a3 size defers
  have e15 := (hf 15).symm.trans s15
  clear s15 s81 hf size defers
  simp only [e15]
  clear e15
  rw [cm_end HC.out HDn.out left hl] at cyc
  clear hl rg
  go_wp2_with fail
  go_ret
  exact ⟨w1.heap.size, kc, rfl, by omega, cyc, below⟩
end Go.Proofs.Qxb6612928aDoor.H
