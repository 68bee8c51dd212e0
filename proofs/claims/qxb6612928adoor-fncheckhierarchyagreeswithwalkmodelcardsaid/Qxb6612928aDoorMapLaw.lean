/-
  A map keyed by codes, seen as a function: the kit's 'ownsMap' at whatever element (each element read as a token: itself).
-/
import Derived.Test.Qxb6612928aDoorUnit
import Derived.Maps.OwnSet
import Derived.Maps.Views
namespace Go.Proofs.Qxb6612928aDoor.H
open Go.RowKit Go.Maps
set_option linter.unusedVariables false

/-- Every element that passes 'ok' reads as itself. -/
def selE (ok : Value → Bool) (v : Value) : Option (DataW Value × List MemPlace) := if ok v then some (.held v, []) else none
def anyV (_ : Value) : Bool := true
def i64V : Value → Bool
  | .int .i64 _ => true
  | _ => false
theorem selE_pos {ok : Value → Bool} {v : Value} (h : ok v = true) : selE ok v = some (.held v, []) := by simp [selE, h]
theorem selE_inv {ok : Value → Bool} {v : Value} {y : DataW Value × List MemPlace} (h : selE ok v = some y) : ok v = true ∧ y = (.held v, []) := by
  unfold selE at h
  split at h
  · rename_i ho; exact ⟨ho, by cases h; rfl⟩
  · cases h

theorem law28 : Keyed Tryd.prog 28 := int_keyed Tryd.underlying28

/-- Block b is a map that holds m c at code c; at most k entries. -/
def MapIs (ok : Value → Bool) (w : World) (b : Nat) (m : Int → Option Value) (k : Nat) : Prop :=
  ∃ D, w.ownsMap Tryd.prog 28 (selE ok) b k D ∧ IsMap D ∧ ∀ c, has D (.int .i32 c) = (m c).isSome ∧ ∀ z, D.atKey (.int .i32 c) (.held z) = .held ((m c).getD z)

theorem MapIs.of_block {ok : Value → Bool} {w w' : World} {b : Nat} {m : Int → Option Value} {k : Nat} (h : MapIs ok w b m k) (hb : w'.heap[b]? = w.heap[b]?) : MapIs ok w' b m k := by
  obtain ⟨D, ⟨es, clock, h1, h2⟩, r⟩ := h
  exact ⟨D, ⟨es, clock, hb.trans h1, h2⟩, r⟩

theorem MapIs.below {ok : Value → Bool} {w w' : World} {b B : Nat} {m : Int → Option Value} {k : Nat} (h : MapIs ok w b m k) (hb : Below B w w') (hB : b < B) : MapIs ok w' b m k := h.of_block (hb.block b hB)

theorem MapIs.lt {ok : Value → Bool} {w : World} {b : Nat} {m : Int → Option Value} {k : Nat} (h : MapIs ok w b m k) : b < w.heap.size := by
  obtain ⟨D, ho, _⟩ := h; exact ho.lt

theorem MapIs.mono {ok : Value → Bool} {w : World} {b : Nat} {m : Int → Option Value} {k k' : Nat} (h : MapIs ok w b m k) (hk : k ≤ k') : MapIs ok w b m k' := by
  obtain ⟨D, ho, r⟩ := h; exact ⟨D, ho.mono hk, r⟩

theorem MapIs_made (ok : Value → Bool) (w : World) : MapIs ok (w.alloc (.map #[] 0)) w.heap.size (fun _ => none) 0 :=
  ⟨.map [], World.ownsMap_made w _ _ _, isMap_empty, fun c => ⟨rfl, fun z => rfl⟩⟩

theorem wf32 {c : Int} (h0 : -2147483648 ≤ c) (h1 : c ≤ 2147483647) : (Lit.int .i32 c).wf = true := WalkArith.wf_i32 (by omega)

theorem key32 {c : Int} (h0 : -2147483648 ≤ c) (h1 : c ≤ 2147483647) : keyOf Tryd.prog 28 (.int .i32 c) = some (.int .i32 c) := keyOf_int_mk Tryd.underlying28 (wf32 h0 h1)

/-- A look-up with 'ok'. -/
theorem MapIs.look_ok {ok : Value → Bool} {w : World} {b : Nat} {m : Int → Option Value} {k : Nat} (h : MapIs ok w b m k) {t e : TypeId} (ht : Tryd.prog.underlying t = some (.map 28 e)) {z : Value} (hz : (zeroValue e).run Tryd.prog w = .ok z w) (hoz : ok z = true) {c : Int} (h0 : -2147483648 ≤ c) (h1 : c ≤ 2147483647) :
    (Instr.lookup t (.map (some b)) (.int .i32 c) true).run Tryd.prog w = .ok (.tuple #[(m c).getD z, .bool (m c).isSome]) w := by
  obtain ⟨D, ho, _, hm⟩ := h
  obtain ⟨v, ps, hrun, hv⟩ := ho.look_ok law28 ht hz (zd := .held z) (zp := []) (selE_pos hoz) (key32 h0 h1)
  rw [hrun]
  have h2 := congrArg Prod.fst (selE_inv hv).2
  simp only at h2
  rw [(hm c).2 z] at h2
  simp only [DataW.held.injEq] at h2
  rw [(hm c).1, h2]

/-- A look-up without 'ok'. -/
theorem MapIs.look {ok : Value → Bool} {w : World} {b : Nat} {m : Int → Option Value} {k : Nat} (h : MapIs ok w b m k) {t e : TypeId} (ht : Tryd.prog.underlying t = some (.map 28 e)) {z : Value} (hz : (zeroValue e).run Tryd.prog w = .ok z w) (hoz : ok z = true) {c : Int} (h0 : -2147483648 ≤ c) (h1 : c ≤ 2147483647) :
    (Instr.lookup t (.map (some b)) (.int .i32 c) false).run Tryd.prog w = .ok ((m c).getD z) w := by
  obtain ⟨D, ho, _, hm⟩ := h
  obtain ⟨v, ps, hrun, hv⟩ := ho.lookup law28 ht hz (zd := .held z) (zp := []) (selE_pos hoz) (key32 h0 h1)
  rw [hrun]
  have h2 := congrArg Prod.fst (selE_inv hv).2
  simp only at h2
  rw [(hm c).2 z] at h2
  simp only [DataW.held.injEq] at h2
  rw [h2]

theorem isKey32 (c : Int) : WideAt.IsKeyLit (.int .i32 c) := trivial

/-- One place of a function laid anew. -/
def upd (m : Int → Option Value) (c : Int) (v : Value) : Int → Option Value := fun c' => if c' = c then some v else m c'
theorem upd_same (m : Int → Option Value) (c : Int) (v : Value) : upd m c v c = some v := if_pos rfl
theorem upd_other (m : Int → Option Value) {c c' : Int} (v : Value) (h : ¬ c' = c) : upd m c v c' = m c' := if_neg h

/-- A store. -/
theorem MapIs.store {ok : Value → Bool} {w : World} {b : Nat} {m : Int → Option Value} {k : Nat} (h : MapIs ok w b m k) {t e : TypeId} (ht : Tryd.prog.underlying t = some (.map 28 e)) (hk : k < maxLen) {c : Int} (h0 : -2147483648 ≤ c) (h1 : c ≤ 2147483647) {v : Value} (hov : ok v = true) :
    ∃ w', (Instr.mapUpdate t (.map (some b)) (.int .i32 c) v).run Tryd.prog w = .ok () w' ∧ MapIs ok w' b (upd m c v) (k + 1) ∧ w.mapTurned w' b := by
  obtain ⟨D, ho, hD, hm⟩ := h
  obtain ⟨w', hrun, ho', hT⟩ := ho.store law28 ht hk (key32 h0 h1) (val := v) (d := .held v) (ps := []) (selE_pos hov)
  refine ⟨w', hrun, ⟨_, ho', hD.put _ _, fun c' => ?_⟩, hT⟩
  by_cases e : c' = c
  · subst e
    rw [upd_same]
    exact ⟨has_put_same hD (isKey32 _) _, fun z => atKey_put_same hD (isKey32 _) _ _⟩
  · rw [upd_other _ _ e]
    have hne : (Lit.int .i32 c') ≠ .int .i32 c := by intro h; cases h; exact e rfl
    exact ⟨(has_put_other hne _).trans (hm c').1, fun z => (atKey_put_other hne _ _).trans ((hm c').2 z)⟩

/-- What is turned: that block alone. -/
theorem turned_below {w w' : World} {b B : Nat} (h : w.mapTurned w' b) (hB : B ≤ b) : Below B w w' := by
  have hg := h.grown
  obtain ⟨es, clock, es', clock', hb, rfl⟩ := h
  exact ⟨rfl, rfl, rfl, hg.size, fun k hk => hg.block k (by have := (Array.getElem?_eq_some_iff.1 hb).1; omega) (by intro e; simp at e; omega)⟩

theorem turned_other {w w' : World} {b k : Nat} (h : w.mapTurned w' b) (hk : k < w.heap.size) (hne : k ≠ b) : w'.heap[k]? = w.heap[k]? :=
  h.grown.block k hk (by intro e; simp at e; exact hne e)
theorem turned_size {w w' : World} {b : Nat} (h : w.mapTurned w' b) : w'.heap.size = w.heap.size := by
  obtain ⟨es, clock, es', clock', hb, rfl⟩ := h
  simp [ChangeMaps.setBlock]
end Go.Proofs.Qxb6612928aDoor.H
