/-
  The told and tied card of FnStatusStringNamesDistinctWords: the row lifted at F.told, then the builder's one call. fmt's text is not come to on this road; the card bears the cell all the same.
-/
import Derived.Test.Qxb6613396aFmtCards
import Derived.Test.Qxb6613396aFmtTie
import Derived.Test.Qxb6613396aFmtStWalks
import Derived.ProofKit
import Derived.Stop.JoinedAt
import Derived.Stop.JoinedTold
import Derived.Stop.Texts
import Derived.Stop.ErrReads
import Derived.Stop.LaidErr
import Derived.ShutString
import Derived.OpenShut
import Derived.SevenTiedAt
import Derived.ChangeVars
import Derived.ChangeSame
namespace Go.Proofs.Qxb6613396aFmt.St
open Go.ChangeShapes Go.WideShapes Go.ChangeAt Go.RowKit Go.Kit
open Go.ChangeMaps (open_string shut_string)
open Go.Extern.Stop Go.Stop Go.Extern

/-- The listed variable's name, off the given row. -/
def vn : String := Rows.fnStatusStringNamesDistinctWordsSpec.vars.headD ""

theorem own : ownKnob Tryf.prog.godebug = none := by kernel_rfl
theorem laidOut : laidOutB Tryf.pinned.checked.prog = true := by kernel_rfl
theorem stops : Tryf.pinned.checked.prog.stops = Rows.fnStatusStringNamesDistinctWordsRow.stops := by kernel_rfl
theorem stopKnobs : Tryf.pinned.checked.prog.stopKnobs = [] := by kernel_rfl
theorem quiet (os : Os) : Stop.quiet Tryf.pinned.checked.prog os := by
  intro k hk
  rw [stopKnobs] at hk
  cases hk
theorem gN : Tryf.prog.globalNamed vn = some 0 := by kernel_rfl
theorem gNType : (Tryf.prog.globals[0]?).map (·.type) = some 28 := by kernel_rfl
theorem cells28 : Tryf.prog.cellsOf 28 = 9 := by kernel_rfl
theorem cells9 : Tryf.prog.cellsOf 9 = 1 := by kernel_rfl

def cells9S : Array Value := #[.string (nameB 0), .string (nameB 1), .string (nameB 2), .string (nameB 3), .string (nameB 4), .string (nameB 5), .string (nameB 6), .string (nameB 7), .string (nameB 8)]

theorem str_of_trod {H : Type} {enc : TypeId × Value → H} {w : World} {base : Nat} {sp : Nat → Bool} {held : Bool} {fuel : Nat} {c : Value} {y : DataW H × List MemPlace}
    (h : DataW.trod enc Tryf.prog w base sp held fuel 9 [c] = some y) : ∃ s : ByteArray, c = .string s ∧ y = (.lit (.string s.data.toList), []) := by
  obtain ⟨s, hc, hy, _⟩ := DataW.trod_string Tryf.underlying9 h
  simp only [List.cons.injEq, and_true] at hc
  exact ⟨s, hc, hy⟩

theorem ba_of_list {s : ByteArray} {l : List UInt8} (h : s.data.toList = l) : s = ⟨l.toArray⟩ := by rw [← h]

theorem cells_of_laid {W : World} (h : laidMet Tryf.prog [(vn, Rows.laid_example_com_holdfast_holdfast_statusNames)] W) : W.var? Tryf.prog vn = some cells9S := by
  obtain ⟨ps, ⟨g, t, cs, fuel, p, q, hg, ht, hvar, hd, _, _⟩, _⟩ := h
  obtain rfl := Option.some.inj (gN.symm.trans hg)
  obtain rfl := Option.some.inj (gNType.symm.trans ht)
  rw [hvar]
  congr 1
  obtain ⟨l⟩ := cs
  cases fuel with
  | zero => simp [DataW.trod] at hd
  | succ fuel =>
    simp only [DataW.trod, Tryf.underlying28, cells28, cells9] at hd
    split at hd
    · rename_i hl
      obtain ⟨c0, c1, c2, c3, c4, c5, c6, c7, c8, rfl⟩ : ∃ c0 c1 c2 c3 c4 c5 c6 c7 c8, l = [c0, c1, c2, c3, c4, c5, c6, c7, c8] := by
        match l, hl with
        | [a, b, c, d, e, f, g, h, i], _ => exact ⟨a, b, c, d, e, f, g, h, i, rfl⟩
      have e : List.range 9 = [0, 1, 2, 3, 4, 5, 6, 7, 8] := rfl
      rw [e] at hd
      simp only [Option.map_eq_some_iff, List.mapM_cons, List.mapM_nil, Option.bind_eq_bind, Option.bind_eq_some_iff, Option.pure_def, Option.some.injEq] at hd
      obtain ⟨xs, ⟨y0, h0, _, ⟨y1, h1, _, ⟨y2, h2, _, ⟨y3, h3, _, ⟨y4, h4, _, ⟨y5, h5, _, ⟨y6, h6, _, ⟨y7, h7, _, ⟨y8, h8, _, rfl, rfl⟩, rfl⟩, rfl⟩, rfl⟩, rfl⟩, rfl⟩, rfl⟩, rfl⟩, rfl⟩, hx⟩ := hd
      obtain ⟨n0, rfl, rfl⟩ := str_of_trod h0
      obtain ⟨n1, rfl, rfl⟩ := str_of_trod h1
      obtain ⟨n2, rfl, rfl⟩ := str_of_trod h2
      obtain ⟨n3, rfl, rfl⟩ := str_of_trod h3
      obtain ⟨n4, rfl, rfl⟩ := str_of_trod h4
      obtain ⟨n5, rfl, rfl⟩ := str_of_trod h5
      obtain ⟨n6, rfl, rfl⟩ := str_of_trod h6
      obtain ⟨n7, rfl, rfl⟩ := str_of_trod h7
      obtain ⟨n8, rfl, rfl⟩ := str_of_trod h8
      simp [Rows.laid_example_com_holdfast_holdfast_statusNames] at hx
      obtain ⟨⟨e0, e1, e2, e3, e4, e5, e6, e7, e8⟩, _⟩ := hx
      rw [ba_of_list e0, ba_of_list e1, ba_of_list e2, ba_of_list e3, ba_of_list e4, ba_of_list e5, ba_of_list e6, ba_of_list e7, ba_of_list e8]
      rfl
    · cases hd

theorem laid_met (os : Os) (args : Array Value) : laidMet Tryf.prog Rows.fnStatusStringNamesDistinctWordsRow.laid ((({ World.holding Tryf.prog os ⟨#[], #[], []⟩ with heap := (World.holding Tryf.prog os ⟨#[], #[], []⟩).heap.modify 0 fun
      | .cells _ t frozen => .cells cells9S t frozen
      | o => o } : World)).forCall (fun _ _ => 0) ⟨#[], args, []⟩).memory :=
  laidMet_of_run (ps := [.cell 0 0, .cell 0 1, .cell 0 2, .cell 0 3, .cell 0 4, .cell 0 5, .cell 0 6, .cell 0 7, .cell 0 8]) 8 (by kernel_rfl) (by kernel_rfl) (by kernel_rfl)

theorem reads_table {H : Type} (enc : TypeId × Value → H) (W : World) (sp : Nat → Bool) : DataW.trod enc Tryf.prog W 0 sp true 3 28 cells9S.toList = some (Rows.laid_example_com_holdfast_holdfast_statusNames, []) := by kernel_rfl

set_option maxRecDepth 100000 in
theorem t_lifted (os : Os) (started : os.Started) (H : Type) (enc : TypeId × Value → H) :
    ReturnsInTold none {} Tryf.checked os 3 .any Input.okWide ((OpenSpec.ofChange Rows.fnStatusStringNamesDistinctWordsSpec).preRow enc Tryf.prog Tryf.f3 [] false Rows.fnStatusStringNamesDistinctWordsRow.laid) (fun F => ((OpenSpec.ofChange Rows.fnStatusStringNamesDistinctWordsSpec).at F).post enc Tryf.prog Tryf.f3 false true false false) (aloneAtReturn Tryf.prog) nothingAlways := by
  refine returnsInTold_of_row (C := Tryf.checked) (s := OpenSpec.ofChange Rows.fnStatusStringNamesDistinctWordsSpec) (by kernel_rfl) own started (by kernel_rfl) Tryf.func3
    (OpenSpec.witness_stopped_at (enc := enc) (C := Tryf.checked) false ({ World.holding Tryf.prog os ⟨#[], #[], []⟩ with heap := (World.holding Tryf.prog os ⟨#[], #[], []⟩).heap.modify 0 fun
      | .cells _ t frozen => .cells cells9S t frozen
      | o => o } : World) #[.int .i64 0, .int .i64 0] rfl (by kernel_rfl) (by kernel_rfl) (by kernel_rfl)
      (OpenSpec.preRow_of_B rfl 8 (by kernel_rfl) (by kernel_rfl) (laid_met os _))) ?_
  intro F W base args ds gs before _ hF hval0 hW _ _ _ hL _
  have hval : ∀ (j : Nat) t v, Tryf.f3.params[j]? = some t → args[j]? = some v → Value.okWide Tryf.prog W .any base t v := hval0
  have hW' := hW
  obtain ⟨p, q, hA0, hV0, rfl, hfz, hnd⟩ := hW
  have hA : DataW.TrodAll enc Tryf.prog W 0 (fun _ => true) true Tryf.f3.params.toList args.toList ds p := hA0
  have hV : DataW.TrodVars enc Tryf.prog W (fun _ => true) [vn] gs q := hV0
  rw [Tryf.params3] at hA hval
  obtain ⟨v0, v1, d0, d1, p0, p1, rfl, rfl, rfl, h0, h1⟩ := trodAll_two hA
  obtain ⟨a0, rfl, rfl, rfl, w0⟩ := open_int Tryf.underlying3 (hval 0 3 v0 rfl rfl) h0
  obtain ⟨a1, rfl, rfl, rfl, w1⟩ := open_int Tryf.underlying3 (hval 1 3 v1 rfl rfl) h1
  obtain ⟨g, t, cs, fuel, d, p', rfl, hg, ht, hvar, hd, rfl⟩ := trodVars_one hV
  obtain rfl := Option.some.inj (gN.symm.trans hg)
  obtain rfl := Option.some.inj (gNType.symm.trans ht)
  obtain rfl : cs = cells9S := Option.some.inj (hvar.symm.trans (cells_of_laid hL))
  obtain ⟨rfl, rfl⟩ := DataW.Trod.unique (v := .agg cells9S) ⟨fuel, hd⟩ ⟨3, reads_table enc W _⟩
  clear hA0 hV0 hval0
  have hvars : ∀ sp : Nat → Bool, DataW.TrodVars enc Tryf.prog W sp [vn] [Rows.laid_example_com_holdfast_holdfast_statusNames] (MemPlace.row ⟨0, 0, none⟩ cells9S.size ++ [] ++ []) := fun sp =>
    ⟨0, 28, cells9S, 3, [], [], hg, ht, hvar, reads_table enc W sp, rfl, rfl⟩
  have hcell : ∀ i : Nat, i < 9 → W.cell? ⟨0, i, none⟩ = some (.string (nameB i)) := by
    intro i hi
    have := World.var?_cell hg hvar i
    rw [this]
    match i, hi with
    | 0, _ => rfl
    | 1, _ => rfl
    | 2, _ => rfl
    | 3, _ => rfl
    | 4, _ => rfl
    | 5, _ => rfl
    | 6, _ => rfl
    | 7, _ => rfl
    | 8, _ => rfl
  refine (law a0 a1 W hcell).mono fun e W' ⟨he, hw⟩ => ?_
  subst he; subst hw
  exact ⟨_, rfl, post_of_same (pa := []) hW' (fun _ _ _ => trodAll_mk1 (shut_bool Tryf.underlying4 true)) (fun sp _ => trodAll_mk2 (shut_int Tryf.underlying3 w0) (shut_int Tryf.underlying3 w1)) (fun sp _ => hvars sp) (by simp)
      (World.keptBut_refl _ _) (fun _ => rfl) (ok_one (by kernel_rfl) rfl (okWide_bool_mk Tryf.underlying4 _))⟩

/-- THE STATEMENT -/
theorem proved : Rows.FnStatusStringNamesDistinctWordsToldSaid :=
  Claim7.holds_of_told_tied_any_at .later 3 Tryf.f3 "fmt.Sprintf" [] [] _ _ _ _ _ (by kernel_rfl) rfl rfl rfl laidOut (by kernel_rfl) rfl ⟨rfl, rfl, rfl, rfl, rfl, rfl, rfl⟩ rfl rfl (by kernel_rfl) (by kernel_rfl) Tryf.func3 (by kernel_rfl)
    (of_decide_eq_true (by kernel_rfl)) (of_decide_eq_true (by kernel_rfl)) stops.symm rfl stopKnobs.symm (by kernel_rfl)
    (by kernel_rfl) (by kernel_rfl) (by kernel_rfl) (by kernel_rfl) (by kernel_rfl) (by kernel_rfl) (by kernel_rfl) (by kernel_rfl) (by kernel_rfl) rfl (by kernel_rfl) rfl rfl
    rfl rfl
    rfl (by kernel_rfl) (by kernel_rfl) (by kernel_rfl) (by decide) (by kernel_rfl) fnStatusStringNamesDistinctWords_row_tie
    (OpenClaim.moreEntering_of (by kernel_rfl) (by kernel_rfl) (by kernel_rfl) (by kernel_rfl) (by kernel_rfl) (by kernel_rfl) (by kernel_rfl) (by kernel_rfl) (by kernel_rfl) (by kernel_rfl))
    ⟨_, WideRow.started_initial, quiet _⟩
    (fun os started _ H enc _ => t_lifted os started H enc)
end Go.Proofs.Qxb6613396aFmt.St
