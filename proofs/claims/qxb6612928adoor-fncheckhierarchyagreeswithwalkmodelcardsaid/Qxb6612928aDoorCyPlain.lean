/-
  PLAIN: the colouring of units by onCycles. No walk in sight.
-/
import Derived.Test.Qxb6612928aDoorClosure
namespace Go.Proofs.Qxb6612928aDoor.H
set_option linter.unusedVariables false

/-- One place of a colouring laid anew. -/
def setSt (st : Nat → Nat) (u v : Nat) : Nat → Nat := fun j => if j = u then v else st j

/-- How many of the first k places are not coloured yet. -/
def zeros (st : Nat → Nat) : Nat → Nat
  | 0 => 0
  | k + 1 => zeros st k + (if st k = 0 then 1 else 0)

theorem zeros_le (st : Nat → Nat) : ∀ k, zeros st k ≤ k
  | 0 => by simp [zeros]
  | k + 1 => by have := zeros_le st k; rw [zeros]; split <;> omega

theorem zeros_congr {st st' : Nat → Nat} : ∀ k, (∀ j, j < k → (st j = 0 ↔ st' j = 0)) → zeros st k = zeros st' k
  | 0, _ => rfl
  | k + 1, h => by
    rw [zeros, zeros, zeros_congr k (fun j hj => h j (by omega))]
    have := h k (by omega)
    by_cases e : st k = 0
    · rw [if_pos e, if_pos (this.1 e)]
    · rw [if_neg e, if_neg (fun h' => e (this.2 h'))]

theorem zeros_set {st : Nat → Nat} {u v : Nat} (h0 : st u = 0) (hv : v ≠ 0) : ∀ k, u < k → zeros (setSt st u v) k + 1 = zeros st k
  | 0, h => by omega
  | k + 1, h => by
    rw [zeros, zeros]
    by_cases e : u = k
    · subst e
      rw [zeros_congr (st := setSt st u v) (st' := st) u (fun j hj => by unfold setSt; rw [if_neg (by omega)])]
      simp [setSt, h0, hv]
    · have := zeros_set h0 hv k (by omega)
      have e2 : setSt st u v k = st k := by unfold setSt; rw [if_neg (fun h => e h.symm)]
      rw [e2]; omega

theorem zeros_zero (k : Nat) : zeros (fun _ => 0) k = k := by
  induction k with
  | zero => rfl
  | succ k ih => rw [zeros, ih]; simp

/-- The colours tell the truth. -/
def Truth (I : In) (st : Nat → Nat) : Prop := ∀ j, j < I.n → (st j = 2 → Ends I j) ∧ (st j = 3 → ¬ Ends I j)

/-- Each of the list leads to the next, the last to u. -/
def Leads (I : In) : List Nat → Nat → Prop
  | [], _ => True
  | [x], u => par I x = some u
  | x :: y :: l, u => par I x = some y ∧ Leads I (y :: l) u

theorem leads_ends {I : In} : ∀ (l : List Nat) (u : Nat), Leads I l u → ∀ x ∈ l, (Ends I x ↔ Ends I u)
  | [], _, _, x, hx => by simp at hx
  | [y], u, h, x, hx => by
    simp at hx; subst hx; exact ends_par h
  | y :: z :: l, u, h, x, hx => by
    rcases List.mem_cons.1 hx with rfl | hx
    · rw [ends_par h.1]; exact leads_ends (z :: l) u h.2 z (by simp)
    · exact leads_ends (z :: l) u h.2 x hx

theorem leads_step {I : In} : ∀ (l : List Nat) (u : Nat), Leads I l u → ∀ x ∈ l, ∃ k, stepTo I (k + 1) x = some u
  | [], _, _, x, hx => by simp at hx
  | [y], u, h, x, hx => by
    simp at hx; subst hx
    have h' : par I x = some u := h
    exact ⟨0, by simp [stepTo, h']⟩
  | y :: z :: l, u, h, x, hx => by
    rcases List.mem_cons.1 hx with rfl | hx
    · obtain ⟨k, hk⟩ := leads_step (z :: l) u h.2 z (by simp)
      exact ⟨k + 1, by rw [stepTo]; simp only [h.1]; exact hk⟩
    · exact leads_step (z :: l) u h.2 x hx

/-- The walk came back to its own path. -/
theorem leads_cycle {I : In} {l : List Nat} {u : Nat} (h : Leads I l u) (hu : u ∈ l) : ¬ Ends I u := by
  obtain ⟨k, hk⟩ := leads_step l u h u hu
  exact cycle_never hk

theorem leads_snoc {I : In} : ∀ (l : List Nat) (u p : Nat), Leads I l u → par I u = some p → Leads I (l ++ [u]) p
  | [], u, p, _, hp => hp
  | [y], u, p, h, hp => ⟨h, hp⟩
  | y :: z :: l, u, p, h, hp => ⟨h.1, leads_snoc (z :: l) u p h.2 hp⟩

/-- What the map 'state' holds. -/
def stM (I : In) (st : Nat → Nat) : Int → Option Value := fun c => (find I c).bind fun j => if st j = 0 then none else some (.int .i64 (st j))

theorem stM_code {I : In} (h : Asc I) (st : Nat → Nat) {j : Nat} (hj : j < I.n) : stM I st (I.code j) = if st j = 0 then none else some (.int .i64 (st j)) := by
  unfold stM; rw [find_code h hj]; rfl

theorem stM_get {I : In} (h : Asc I) (st : Nat → Nat) {j : Nat} (hj : j < I.n) : (stM I st (I.code j)).getD (.int .i64 0) = .int .i64 (st j) := by
  rw [stM_code h st hj]
  by_cases e : st j = 0
  · rw [if_pos e, e]; rfl
  · rw [if_neg e]; rfl

theorem stM_upd {I : In} (h : Asc I) (st : Nat → Nat) {u v : Nat} (hu : u < I.n) (hv : v ≠ 0) : upd (stM I st) (I.code u) (.int .i64 v) = stM I (setSt st u v) := by
  funext c
  by_cases e : c = I.code u
  · subst e
    rw [upd_same, stM_code h _ hu]
    simp [setSt, hv]
  · rw [upd_other _ _ e]
    unfold stM
    cases hf : find I c with
    | none => rfl
    | some j =>
      have : j ≠ u := fun e' => e (by rw [← e']; exact ((find_some hf).2).symm)
      simp [setSt, this]

theorem stM_empty (I : In) : stM I (fun _ => 0) = fun _ => none := by
  funext c
  unfold stM
  cases find I c <;> rfl

/-- The colours of the list laid anew. -/
def setAll (st : Nat → Nat) (l : List Nat) (e : Nat) : Nat → Nat := fun j => if j ∈ l then e else st j

theorem setAll_nil (st : Nat → Nat) (e : Nat) : setAll st [] e = st := by funext j; simp [setAll]
theorem setAll_snoc (st : Nat → Nat) (l : List Nat) (x e : Nat) : setSt (setAll st l e) x e = setAll st (l ++ [x]) e := by
  funext j
  unfold setSt setAll
  by_cases h : j = x
  · simp [h]
  · by_cases h2 : j ∈ l <;> simp [h, h2]

/-- What the map 'cycles' must hold in the end. -/
def cycM (I : In) : Int → Option Value := fun c => (find I c).bind fun j => if never I j then some (.bool true) else none

/-- Between two walks. -/
structure Calm (I : In) (st : Nat → Nat) : Prop where
  truth : Truth I st
  le : ∀ j, st j = 0 ∨ st j = 2 ∨ st j = 3

/-- During a walk: the path is marked 1, and nothing else. -/
structure Walks (I : In) (st : Nat → Nat) (pth : List Nat) : Prop where
  truth : Truth I st
  le : ∀ j, st j ≤ 3
  one : ∀ j, st j = 1 ↔ j ∈ pth
  lt : ∀ j ∈ pth, j < I.n

theorem Calm.walks {I : In} {st : Nat → Nat} (h : Calm I st) : Walks I st [] :=
  ⟨h.truth, fun j => by have := h.le j; omega, fun j => by have := h.le j; simp; omega, fun j hj => by simp at hj⟩

theorem Walks.push {I : In} {st : Nat → Nat} {pth : List Nat} (h : Walks I st pth) {u : Nat} (hu : u < I.n) : Walks I (setSt st u 1) (pth ++ [u]) := by
  refine ⟨fun j hj => ?_, fun j => ?_, fun j => ?_, fun j hj => ?_⟩
  · unfold setSt
    by_cases e : j = u
    · simp [e]
    · simp only [e, if_false]; exact h.truth j hj
  · unfold setSt
    by_cases e : j = u
    · simp [e]
    · simp only [e, if_false]; exact h.le j
  · unfold setSt
    by_cases e : j = u
    · simp [e]
    · simp [e, h.one j]
  · rcases List.mem_append.1 hj with hj | hj
    · exact h.lt j hj
    · simp at hj; omega

/-- The walk is over: all of the path get the colour e, which is true of them. -/
theorem Walks.done {I : In} {st : Nat → Nat} {pth : List Nat} (h : Walks I st pth) {e : Nat} (he : e = 2 ∨ e = 3) (h2 : e = 2 → ∀ x ∈ pth, Ends I x) (h3 : e = 3 → ∀ x ∈ pth, ¬ Ends I x) : Calm I (setAll st pth e) := by
  refine ⟨fun j hj => ?_, fun j => ?_⟩
  · unfold setAll
    by_cases hm : j ∈ pth
    · simp only [hm, if_true]; exact ⟨fun h' => h2 h' j hm, fun h' => h3 h' j hm⟩
    · simp only [hm, if_false]; exact h.truth j hj
  · unfold setAll
    by_cases hm : j ∈ pth
    · simp only [hm, if_true]; omega
    · simp only [hm, if_false]
      have h1 := h.le j
      have h2 : st j ≠ 1 := fun h' => hm ((h.one j).1 h')
      omega
end Go.Proofs.Qxb6612928aDoor.H
