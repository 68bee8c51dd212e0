/-
  The row and the tied card of FnCheckHierarchyAgreesWithWalkModel: the law's contract (Lz), the eight slices opened and shut again, the table of powers of ten off the row's cell 'laid'.
-/
import Derived.Test.Qxb6612928aDoorLz
import Derived.Test.Qxb6612928aDoorCards
import Derived.Test.Qxb6612928aDoorTie
import Derived.ProofKit
import Derived.Lib.LaidTab
import Derived.Stop.LaidErr
import Derived.Deep.DeepLaidRun
import Derived.Deep.Strs
import Derived.Deep.Grids
import Derived.ChangeSlices
import Derived.Carry
import Derived.OpenShut
import Derived.SevenTiedAt
namespace Go.Proofs.Qxb6612928aDoor.H
open Go.ChangeShapes Go.WideShapes Go.ChangeAt Go.RowKit
open Go.Deep

theorem own : ownKnob Tryd.prog.godebug = none := by kernel_rfl
theorem laidOut : laidOutB Tryd.prog = true := by kernel_rfl
theorem cells21 : Tryd.prog.cellsOf 21 = 1 := by kernel_rfl
theorem cells4 : Tryd.prog.cellsOf 4 = 1 := by kernel_rfl
theorem cells9 : Tryd.prog.cellsOf 9 = 1 := by kernel_rfl
theorem cells3 : Tryd.prog.cellsOf 3 = 1 := by kernel_rfl
theorem gTabType : (Tryd.prog.globals[0]?).map (·.type) = some 72 := by kernel_rfl

section
variable {H : Type} {enc : TypeId × Value → H} {W : World} {v : Value} {d : DataW H} {p : List MemPlace}

theorem of_cells {v u : Value} (hv : ∃ a n c, v = .slice a n c) (h : v.cells.toList = [u]) : v = u := by
  obtain ⟨a, n, c, rfl⟩ := hv
  simpa [Value.cells] using h

/-- A slice of integers that came in. -/
theorem arg_ints {t e : TypeId} {k : IntKind} {base : Nat} (ht : Tryd.prog.underlying t = some (.slice e)) (he : Tryd.prog.underlying e = some (.int k)) (hc : Tryd.prog.cellsOf e = 1)
    (hok : Value.okWide Tryd.prog W .any base t v) (h : DataW.Trod enc Tryd.prog W 0 (fun _ => true) true t v d p) :
    ∃ ao n c, ∃ f : Nat → Int, v = .slice ao n c ∧ Arr W ao n (fun j => .int k (f j)) ∧ n ≤ maxLen ∧ ∀ j, f j = 0 ∨ (Lit.int k (f j)).wf = true := by
  have hsh := okWide_slice ht hok
  obtain ⟨fuel, hf⟩ := h
  rcases open_ints ht he hc hf with ⟨hcs, _⟩ | ⟨a, len, cap, zs, hcs, _, hl, hm, hz, _, hcell, hwz⟩
  · obtain rfl := of_cells hsh hcs
    exact ⟨none, 0, 0, fun _ => 0, rfl, fun h => by omega, Nat.zero_le _, fun _ => Or.inl rfl⟩
  · obtain rfl := of_cells hsh hcs
    simp only [if_true] at hz
    refine ⟨some a, len, cap, fun j => zs.getD j 0, rfl, fun _ => ⟨a, rfl, fun j hj => hcell j (by omega)⟩, by omega, fun j => ?_⟩
    by_cases hj : j < zs.length
    · refine Or.inr (hwz _ ?_)
      simp only [List.getD, List.getElem?_eq_getElem hj, Option.getD_some]
      exact List.getElem_mem hj
    · exact Or.inl (by simp only [List.getD, List.getElem?_eq_none (Nat.le_of_not_lt hj), Option.getD_none])

theorem arg_bools {t e : TypeId} {base : Nat} (ht : Tryd.prog.underlying t = some (.slice e)) (he : Tryd.prog.underlying e = some .bool) (hc : Tryd.prog.cellsOf e = 1)
    (hok : Value.okWide Tryd.prog W .any base t v) (h : DataW.Trod enc Tryd.prog W 0 (fun _ => true) true t v d p) :
    ∃ ao n c, ∃ f : Nat → Bool, v = .slice ao n c ∧ Arr W ao n (fun j => .bool (f j)) ∧ n ≤ maxLen := by
  have hsh := okWide_slice ht hok
  obtain ⟨fuel, hf⟩ := h
  rcases open_bools ht he hc hf with ⟨hcs, _⟩ | ⟨a, len, cap, B, hcs, _, hl, hm, _, hcell⟩
  · obtain rfl := of_cells hsh hcs
    exact ⟨none, 0, 0, fun _ => false, rfl, fun h => by omega, Nat.zero_le _⟩
  · obtain rfl := of_cells hsh hcs
    exact ⟨some a, len, cap, B, rfl, fun _ => ⟨a, rfl, fun j hj => hcell j (by omega)⟩, by omega⟩

theorem arg_strs {t e : TypeId} {base : Nat} (ht : Tryd.prog.underlying t = some (.slice e)) (he : Tryd.prog.underlying e = some .string) (hc : Tryd.prog.cellsOf e = 1)
    (hok : Value.okWide Tryd.prog W .any base t v) (h : DataW.Trod enc Tryd.prog W 0 (fun _ => true) true t v d p) :
    ∃ ao n c, ∃ f : Nat → ByteArray, v = .slice ao n c ∧ Arr W ao n (fun j => .string (f j)) ∧ n ≤ maxLen ∧ (∀ j, j < n → (f j).size ≤ maxLen) ∧ ∀ j, ¬ j < n → (f j).size ≤ 1048576 := by
  have hsh := okWide_slice ht hok
  obtain ⟨fuel, hf⟩ := h
  rcases open_strs ht he hc hf with ⟨hcs, _⟩ | ⟨a, len, cap, m, S, hcs, _, hl, hm, hmm, _, hcell⟩
  · obtain rfl := of_cells hsh hcs
    exact ⟨none, 0, 0, fun _ => ⟨#[]⟩, rfl, fun h => by omega, Nat.zero_le _, fun j hj => by omega, fun j _ => by show (0 : Nat) ≤ _; omega⟩
  · obtain rfl := of_cells hsh hcs
    simp only [if_true] at hmm
    refine ⟨some a, len, cap, fun j => if j < len then S j else ⟨#[]⟩, rfl, fun _ => ⟨a, rfl, fun j hj => ?_⟩, by omega, fun j hj => ?_, fun j hj => ?_⟩
    · simp only [if_pos hj]; exact (hcell j (by omega)).1
    · simp only [if_pos hj]; exact (hcell j (by omega)).2
    · simp only [if_neg hj]; show (0 : Nat) ≤ _; omega
end

theorem wf_i32 {n : Int} (h : n = 0 ∨ (Lit.int .i32 n).wf = true) : -2147483648 ≤ n ∧ n ≤ 2147483647 := by
  rcases h with rfl | h
  · omega
  · have e1 : IntKind.i32.min = -2147483648 := rfl
    have e2 : IntKind.i32.max = 2147483647 := rfl
    simp [Lit.wf, e1, e2] at h
    omega

theorem wf_i64 {n : Int} (h : n = 0 ∨ (Lit.int .i64 n).wf = true) : -9223372036854775808 ≤ n ∧ n ≤ 9223372036854775807 := by
  rcases h with rfl | h
  · omega
  · have e1 : IntKind.i64.min = -9223372036854775808 := rfl
    have e2 : IntKind.i64.max = 9223372036854775807 := rfl
    simp [Lit.wf, e1, e2] at h
    omega

/-- A listed table's cells. -/
def cellsD : DataW Unit → Array Value
  | .agg l => (l.map fun
    | .lit (.int k n) => Value.int k n
    | _ => undef).toArray
  | _ => #[]

theorem tab_of_laid {W : World} (h : laidMet Tryd.prog Rows.fnCheckHierarchyAgreesWithWalkModelRow.laid W) : Tab W := by
  have h3 : laidMet Tryd.prog [(tabName, Lib.tabData .u64 Lib.pow10Tab)] W := h.tail.tail
  exact Lib.tabIs_of_head gTab gTabType Tryd.underlying72 (by first | exact Tryd.underlying8 | exact Tryd.underlying7 | exact Tryd.underlying6 | kernel_rfl) (by kernel_rfl) (by kernel_rfl) h3

/-- A variable's cells are laid. -/
def putC (h : Array Obj) (g : Nat) (cs : Array Value) : Array Obj := h.modify g fun
  | .cells _ t frozen => .cells cs t frozen
  | o => o

/-- A start that fits: the three tables as their texts lay them. -/
theorem laid_met (os : Os) (args : Array Value) : laidMet Tryd.prog Rows.fnCheckHierarchyAgreesWithWalkModelRow.laid ((({ World.holding Tryd.prog os ⟨#[], #[], []⟩ with heap := putC (putC (putC (World.holding Tryd.prog os ⟨#[], #[], []⟩).heap 0 (cellsD Rows.laid_internal_strconv_uint64pow10)) 1 (cellsD Rows.laid_math_bits_deBruijn32tab)) 2 (cellsD Rows.laid_math_bits_deBruijn64tab) } : World)).forCall (fun _ _ => 0) ⟨#[], args, []⟩).memory :=
  laidMet_of_run3 8 (by kernel_rfl) (by kernel_rfl) (by kernel_rfl)

set_option maxHeartbeats 1000000 in
set_option maxRecDepth 100000 in
theorem lifted (os : Os) (started : os.Started) (H : Type) (enc : TypeId × Value → H) :
    ReturnsInHanded {} Tryd.checked os 3 .any (fun w args => (Rows.fnCheckHierarchyAgreesWithWalkModelSpec.pre enc Tryd.prog Tryd.f3 Rows.fnCheckHierarchyAgreesWithWalkModelRow.domain false w args ∧ laidMet Tryd.prog Rows.fnCheckHierarchyAgreesWithWalkModelRow.laid w) ∧ sizedMet enc Tryd.prog Tryd.f3 (OpenSpec.ofChange Rows.fnCheckHierarchyAgreesWithWalkModelSpec) false w args)
      (Rows.fnCheckHierarchyAgreesWithWalkModelSpec.post enc Tryd.prog Tryd.f3 false true false false) := by
  refine returnsInHanded_of_change_and (C := Tryd.checked) (X := fun w _ => laidMet Tryd.prog Rows.fnCheckHierarchyAgreesWithWalkModelRow.laid w) (fun _ _ _ hh h => h.of_heap hh) own started (by kernel_rfl) Tryd.func3
    (ChangeSpec.witness_at (enc := enc) (C := Tryd.checked) (os := os) (X := fun w _ => laidMet Tryd.prog Rows.fnCheckHierarchyAgreesWithWalkModelRow.laid w) false ({ World.holding Tryd.prog os ⟨#[], #[], []⟩ with heap := putC (putC (putC (World.holding Tryd.prog os ⟨#[], #[], []⟩).heap 0 (cellsD Rows.laid_internal_strconv_uint64pow10)) 1 (cellsD Rows.laid_math_bits_deBruijn32tab)) 2 (cellsD Rows.laid_math_bits_deBruijn64tab) } : World) #[.slice none 0 0, .slice none 0 0, .slice none 0 0, .slice none 0 0, .slice none 0 0, .slice none 0 0, .slice none 0 0, .slice none 0 0] 8 rfl (by kernel_rfl) (by kernel_rfl) (by kernel_rfl) (by kernel_rfl) (by kernel_rfl) (laid_met os _)) ?_
  intro W base args ds gs before hval0 hW _ _ hL _
  have hval : ∀ (j : Nat) t v, Tryd.f3.params[j]? = some t → args[j]? = some v → Value.okWide Tryd.prog W .any base t v := hval0
  have hW' := hW
  obtain ⟨p, q, hA0, hV, rfl, _, _⟩ := hW
  have hA : DataW.TrodAll enc Tryd.prog W 0 (fun _ => true) true Tryd.f3.params.toList args.toList ds p := hA0
  rw [Tryd.params3] at hA hval
  obtain ⟨rfl, rfl⟩ := trodVars_none hV
  obtain ⟨v0, vs0, d0, ds0, p0, q0, e0a, rfl, rfl, h0, hA⟩ := trodAll_cons hA
  obtain ⟨v1, vs1, d1, ds1, p1, q1, e1a, rfl, rfl, h1, hA⟩ := trodAll_cons hA
  obtain ⟨v2, vs2, d2, ds2, p2, q2, e2a, rfl, rfl, h2, hA⟩ := trodAll_cons hA
  obtain ⟨v3, vs3, d3, ds3, p3, q3, e3a, rfl, rfl, h3, hA⟩ := trodAll_cons hA
  obtain ⟨v4, vs4, d4, ds4, p4, q4, e4a, rfl, rfl, h4, hA⟩ := trodAll_cons hA
  obtain ⟨v5, vs5, d5, ds5, p5, q5, e5a, rfl, rfl, h5, hA⟩ := trodAll_cons hA
  obtain ⟨v6, vs6, d6, ds6, p6, q6, e6a, rfl, rfl, h6, hA⟩ := trodAll_cons hA
  obtain ⟨v7, vs7, d7, ds7, p7, q7, e7a, rfl, rfl, h7, hA⟩ := trodAll_cons hA
  obtain ⟨rfl, rfl, rfl⟩ := trodAll_nil hA
  obtain ⟨l⟩ := args
  simp only at e0a
  subst e7a e6a e5a e4a e3a e2a e1a e0a
  obtain ⟨a0, n0, c0, C, rfl, r0, m0, w0⟩ := arg_ints Tryd.underlying22 Tryd.underlying21 cells21 (hval 0 22 v0 rfl rfl) h0
  obtain ⟨a1, n1, c1, HP, rfl, r1, m1⟩ := arg_bools Tryd.underlying23 Tryd.underlying4 cells4 (hval 1 23 v1 rfl rfl) h1
  obtain ⟨a2, n2, c2, PC, rfl, r2, m2, w2⟩ := arg_ints Tryd.underlying22 Tryd.underlying21 cells21 (hval 2 22 v2 rfl rfl) h2
  obtain ⟨a3, n3, c3, NM, rfl, r3, m3, z3, d3'⟩ := arg_strs Tryd.underlying24 Tryd.underlying9 cells9 (hval 3 24 v3 rfl rfl) h3
  obtain ⟨a4, n4, c4, LV, rfl, r4, m4, w4⟩ := arg_ints Tryd.underlying25 Tryd.underlying3 cells3 (hval 4 25 v4 rfl rfl) h4
  obtain ⟨a5, n5, c5, CP, rfl, r5, m5, z5, d5'⟩ := arg_strs Tryd.underlying24 Tryd.underlying9 cells9 (hval 5 24 v5 rfl rfl) h5
  obtain ⟨a6, n6, c6, NP, rfl, r6, m6, z6, d6'⟩ := arg_strs Tryd.underlying24 Tryd.underlying9 cells9 (hval 6 24 v6 rfl rfl) h6
  obtain ⟨a7, n7, c7, DL, rfl, r7, m7⟩ := arg_bools Tryd.underlying23 Tryd.underlying4 cells4 (hval 7 23 v7 rfl rfl) h7
  clear hA0 hval0
  have Tb := tab_of_laid hL
  have hw0 : 0 < W.heap.size := cell_lt (Lib.TabIs.cell Tb gTab 0 (by decide))
  have hlt : ∀ x ∈ p0 ++ (p1 ++ (p2 ++ (p3 ++ (p4 ++ (p5 ++ (p6 ++ (p7 ++ []))))))), x.block < W.heap.size := fun x hx => by
    have := hW'.lt x (by simpa using hx)
    simpa using this
  refine (law (I := ⟨n0, C, HP, PC, NM, LV, CP, NP, DL⟩) (X := ⟨a0, a1, a2, a3, a4, a5, a6, a7, n1, n2, n3, n4, n5, n6, n7, c0, c1, c2, c3, c4, c5, c6, c7⟩) (w0 := W) ⟨r0, r1, r2, r3, r4, r5, r6, r7⟩ ⟨m0, m1, m2, m3, m4, m5, m6, m7, z3, z5, z6⟩ Tb (fun i => wf_i32 (w0 i)) (fun i => wf_i32 (w2 i)) (fun i => wf_i64 (w4 i)) d3' d5' d6' hw0).mono fun e W' ⟨he, hb⟩ => ?_
  subst he
  have B : ∀ {t : TypeId} {v : Value} {d : DataW H} {ps : List MemPlace}, Tryd.prog.readableRec t = true → t < Tryd.prog.types.size → DataW.Trod enc Tryd.prog W 0 (fun _ => true) true t v d ps → (∀ x ∈ ps, x.block < W.heap.size) → DataW.Trod enc Tryd.prog W' 0 (fun b => decide (b < W.heap.size)) true t v d ps :=
    fun hr ht h hl => Below.trod laidOut hr ht h hb hl
  have R22 : Tryd.prog.readableRec 22 = true := by kernel_rfl
  have R23 : Tryd.prog.readableRec 23 = true := by kernel_rfl
  have R24 : Tryd.prog.readableRec 24 = true := by kernel_rfl
  have R25 : Tryd.prog.readableRec 25 = true := by kernel_rfl
  have S22 : 22 < Tryd.prog.types.size := of_decide_eq_true (by kernel_rfl)
  have S23 : 23 < Tryd.prog.types.size := of_decide_eq_true (by kernel_rfl)
  have S24 : 24 < Tryd.prog.types.size := of_decide_eq_true (by kernel_rfl)
  have S25 : 25 < Tryd.prog.types.size := of_decide_eq_true (by kernel_rfl)
  exact ⟨_, rfl, _, _, _, [], _, [], hW', trodAll_mk1 (shut_bool Tryd.underlying4 true),
    trodAll_cons_mk (B R22 S22 h0 (fun x hx => hlt x (by simp [hx]))) (trodAll_cons_mk (B R23 S23 h1 (fun x hx => hlt x (by simp [hx]))) (trodAll_cons_mk (B R22 S22 h2 (fun x hx => hlt x (by simp [hx]))) (trodAll_cons_mk (B R24 S24 h3 (fun x hx => hlt x (by simp [hx]))) (trodAll_cons_mk (B R25 S25 h4 (fun x hx => hlt x (by simp [hx]))) (trodAll_cons_mk (B R24 S24 h5 (fun x hx => hlt x (by simp [hx]))) (trodAll_cons_mk (B R24 S24 h6 (fun x hx => hlt x (by simp [hx]))) (trodAll_cons_mk (B R23 S23 h7 (fun x hx => hlt x (by simp [hx]))) trodAll_mk0))))))),
    rfl, hb.frame _, fun h => by cases h⟩

theorem row_holds : Rows.FnCheckHierarchyAgreesWithWalkModelSaid :=
  OpenClaim.holds_of_wide 3 Tryd.f3 rfl rfl rfl rfl rfl rfl rfl ⟨rfl, rfl, rfl, rfl, rfl⟩ rfl rfl rfl rfl rfl (by kernel_rfl) Tryd.func3 (by kernel_rfl)
    (of_decide_eq_true (by kernel_rfl)) (by unfold Func.isWrapper; first | (rw [if_pos (by decide +kernel)]; kernel_rfl) | (rw [if_neg (by decide +kernel)]; exact ⟨rfl, rfl⟩))
    (fun os started H enc _ => lifted os started H enc)

/-- The card, by the builder's one call. -/
theorem card_holds : Rows.FnCheckHierarchyAgreesWithWalkModelCardSaid :=
  Claim7.holds_tied_plain_at .later [] [.data, .data, .data] true Rows.fnCheckHierarchyAgreesWithWalkModelCard.stood.harness false
    row_holds (fun _ h => by cases h) (by kernel_rfl) (fun _ h => by cases h) fnCheckHierarchyAgreesWithWalkModel_row_tie rfl ⟨rfl, rfl⟩ (by kernel_rfl) rfl
    (fun f fn hf hfn => by
      obtain rfl : f = 3 := Option.some.inj ((show Tryd.prog.funcNamed Rows.fnCheckHierarchyAgreesWithWalkModelRow.func = some 3 by kernel_rfl).symm.trans hf) |>.symm
      obtain rfl : fn = Tryd.f3 := (Option.some.inj (Tryd.func3.symm.trans hfn)).symm
      exact ⟨by kernel_rfl, fun j t ht => by
        rw [Tryd.params3] at ht
        have hw : ([22, 23, 22, 24, 25, 24, 24, 23] : List Nat).all (fun t => !Tryd.prog.wantsStandIn t) = true := by kernel_rfl
        have hm : t ∈ ([22, 23, 22, 24, 25, 24, 24, 23] : List Nat) := by
          have := Array.mem_of_getElem? ht
          simpa using this
        have h2 := List.all_eq_true.1 hw t hm
        have h3 : Tryd.prog.wantsStandIn t = false := by simpa using h2
        exact h3⟩)
    (by kernel_rfl)
end Go.Proofs.Qxb6612928aDoor.H

namespace Go.Proofs.Qxb6612928aDoor.fnCheckHierarchyAgreesWithWalkModel
/-- ████ THE STATEMENT ████ -/
theorem proved : Rows.FnCheckHierarchyAgreesWithWalkModelCardSaid := H.card_holds
end Go.Proofs.Qxb6612928aDoor.fnCheckHierarchyAgreesWithWalkModel
