/-
  PLAIN: what the hierarchy check computes, and the laws on walks along parents. No Go in sight.
-/
import Derived.Lib.Strings
import Derived.Lib.ItoaNum
namespace Go.Proofs.Qxb6612928aDoor.H

/-- The units of one tenant, as the eight arguments give them. -/
structure In where
  n : Nat
  code : Nat → Int
  hasP : Nat → Bool
  pc : Nat → Int
  name : Nat → ByteArray
  lvl : Nat → Int
  cp : Nat → ByteArray
  np : Nat → ByteArray
  del : Nat → Bool

/-- Codes strictly ascending. -/
def Asc (I : In) : Prop := ∀ i j : Nat, i < j → j < I.n → I.code i < I.code j

/-- The place of the unit with code c. -/
def find (I : In) (c : Int) : Option Nat := (List.range I.n).find? fun j => I.code j == c

/-- The place of unit i's parent, where it exists and is not deleted. -/
def par (I : In) (i : Nat) : Option Nat :=
  if I.hasP i then
    match find I (I.pc i) with
    | some j => if I.del j then none else some j
    | none => none
  else none

/-- Does following parents from i end within m looks? -/
def endsIn (I : In) : Nat → Nat → Bool
  | 0, _ => false
  | m + 1, i => match par I i with
    | none => true
    | some p => endsIn I m p

/-- Following parents from i ends. -/
def Ends (I : In) (i : Nat) : Prop := ∃ m, endsIn I m i = true

theorem find_some {I : In} {c : Int} {j : Nat} (h : find I c = some j) : j < I.n ∧ I.code j = c := by
  unfold find at h
  have h1 := List.mem_of_find?_eq_some h
  have h2 := List.find?_some h
  exact ⟨by simpa using h1, by simpa using h2⟩

theorem find_none {I : In} {c : Int} (h : find I c = none) (j : Nat) (hj : j < I.n) : I.code j ≠ c := by
  unfold find at h
  rw [List.find?_eq_none] at h
  simpa using h j (by simpa using hj)

theorem asc_inj {I : In} (h : Asc I) {i j : Nat} (hi : i < I.n) (hj : j < I.n) (e : I.code i = I.code j) : i = j := by
  rcases Nat.lt_trichotomy i j with hl | hl | hl
  · have := h i j hl hj; omega
  · exact hl
  · have := h j i hl hi; omega

theorem find_code {I : In} (h : Asc I) {j : Nat} (hj : j < I.n) : find I (I.code j) = some j := by
  cases hf : find I (I.code j) with
  | none => exact absurd rfl (find_none hf j hj)
  | some k => obtain ⟨hk, e⟩ := find_some hf; rw [asc_inj h hk hj e]

theorem par_lt {I : In} {i p : Nat} (h : par I i = some p) : p < I.n := by
  unfold par at h
  split at h
  · split at h
    · rename_i j hf
      split at h
      · cases h
      · cases h; exact (find_some hf).1
    · cases h
  · cases h

theorem endsIn_succ {I : In} : ∀ (m i : Nat), endsIn I m i = true → endsIn I (m + 1) i = true
  | 0, i, h => by simp [endsIn] at h
  | m + 1, i, h => by
    cases hp : par I i with
    | none => simp [endsIn, hp]
    | some p =>
      have h1 : endsIn I m p = true := by rw [endsIn] at h; simpa only [hp] using h
      have h2 := endsIn_succ m p h1
      rw [endsIn]; simp only [hp]; exact h2

theorem endsIn_mono {I : In} {m m' i : Nat} (hm : m ≤ m') (h : endsIn I m i = true) : endsIn I m' i = true := by
  induction m' with
  | zero =>
    obtain rfl : m = 0 := by omega
    exact h
  | succ k ih =>
    rcases Nat.lt_or_ge m (k + 1) with hl | hl
    · exact endsIn_succ _ _ (ih (by omega))
    · obtain rfl : m = k + 1 := by omega
      exact h

theorem ends_none {I : In} {i : Nat} (h : par I i = none) : Ends I i := ⟨1, by simp [endsIn, h]⟩

theorem ends_par {I : In} {i p : Nat} (h : par I i = some p) : Ends I i ↔ Ends I p := by
  constructor
  · rintro ⟨m, hm⟩
    cases m with
    | zero => simp [endsIn] at hm
    | succ m => rw [endsIn] at hm; simp only [h] at hm; exact ⟨m, hm⟩
  · rintro ⟨m, hm⟩
    exact ⟨m + 1, by rw [endsIn]; simp only [h]; exact hm⟩

/-- k steps along parents from i. -/
def stepTo (I : In) : Nat → Nat → Option Nat
  | 0, i => some i
  | k + 1, i => match par I i with
    | none => none
    | some p => stepTo I k p

theorem ends_step {I : In} : ∀ (k i j : Nat), stepTo I k i = some j → (Ends I i ↔ Ends I j)
  | 0, i, j, h => by simp [stepTo] at h; rw [h]
  | k + 1, i, j, h => by
    rw [stepTo] at h
    split at h
    · cases h
    · rename_i p hp
      rw [ends_par hp]; exact ends_step k p j h

theorem endsIn_step {I : In} : ∀ (k m i j : Nat), stepTo I k i = some j → endsIn I (k + m) i = endsIn I m j
  | 0, m, i, j, h => by simp [stepTo] at h; rw [h, Nat.zero_add]
  | k + 1, m, i, j, h => by
    rw [stepTo] at h
    split at h
    · cases h
    · rename_i p hp
      rw [show k + 1 + m = (k + m) + 1 from by omega, endsIn]
      simp only [hp]
      exact endsIn_step k m p j h

/-- A walk that comes back to where it began never ends. -/
theorem cycle_never {I : In} {k i : Nat} (h : stepTo I (k + 1) i = some i) : ¬ Ends I i := by
  rintro ⟨m, hm⟩
  induction m using Nat.strongRecOn with
  | _ m ih =>
    rcases Nat.lt_or_ge m (k + 1) with hl | hl
    · have := endsIn_mono (m' := k + 1 + 0) (by omega) hm
      rw [endsIn_step (k + 1) 0 i i h] at this
      simp [endsIn] at this
    · obtain ⟨d, rfl⟩ : ∃ d, m = k + 1 + d := ⟨m - (k + 1), by omega⟩
      rw [endsIn_step (k + 1) d i i h] at hm
      exact ih d (by omega) hm

/-! ### the pigeonhole -/
theorem pigeon : ∀ (n : Nat) (l : List Nat), l.Nodup → (∀ x ∈ l, x < n) → l.length ≤ n
  | 0, l, _, h => by
    cases l with
    | nil => simp
    | cons x xs => exact absurd (h x (by simp)) (by omega)
  | n + 1, l, hn, h => by
    have h1 : (l.filter fun x => x != n).length ≤ n := by
      refine pigeon n _ (hn.filter _) fun x hx => ?_
      have := List.mem_filter.1 hx
      have h2 := h x this.1
      have h3 : x ≠ n := by simpa using this.2
      omega
    have h2 : l.length ≤ (l.filter fun x => x != n).length + 1 := by
      clear h1 h
      induction l with
      | nil => simp
      | cons x xs ih =>
        have hx := List.nodup_cons.1 hn
        by_cases e : x = n
        · subst e
          have : xs.filter (fun y => y != x) = xs := List.filter_eq_self.2 fun y hy => by
            have : y ≠ x := fun e => hx.1 (e ▸ hy)
            simpa using this
          simp [this]
        · have e' : (x != n) = true := by simpa using e
          rw [List.filter_cons_of_pos (by simpa using e)]
          have := ih hx.2
          simp only [List.length_cons]; omega
    omega

/-- The first m places of the walk from i. -/
def trail (I : In) : Nat → Nat → List Nat
  | 0, _ => []
  | m + 1, i => match par I i with
    | none => [i]
    | some p => i :: trail I m p

theorem trail_mem {I : In} : ∀ (m i x : Nat), x ∈ trail I m i → ∃ k, stepTo I k i = some x
  | 0, i, x, h => by simp [trail] at h
  | m + 1, i, x, h => by
    rw [trail] at h
    split at h
    · simp at h; exact ⟨0, by simp [stepTo, h]⟩
    · rename_i p hp
      rcases List.mem_cons.1 h with rfl | h
      · exact ⟨0, rfl⟩
      · obtain ⟨k, hk⟩ := trail_mem m p x h
        exact ⟨k + 1, by rw [stepTo]; simp only [hp]; exact hk⟩

theorem trail_nodup {I : In} : ∀ (m i : Nat), Ends I i → (trail I m i).Nodup
  | 0, i, _ => by simp [trail]
  | m + 1, i, h => by
    rw [trail]
    split
    · simp
    · rename_i p hp
      refine List.nodup_cons.2 ⟨fun hm => ?_, trail_nodup m p ((ends_par hp).1 h)⟩
      obtain ⟨k, hk⟩ := trail_mem m p i hm
      have : stepTo I (k + 1) i = some i := by rw [stepTo]; simp only [hp]; exact hk
      exact cycle_never this h

theorem trail_len {I : In} : ∀ (m i : Nat), endsIn I m i = false → (trail I m i).length = m
  | 0, i, _ => by simp [trail]
  | m + 1, i, h => by
    rw [endsIn] at h
    rw [trail]
    split
    · rename_i hp; simp [hp] at h
    · rename_i p hp
      simp only [hp] at h
      rw [List.length_cons, trail_len m p h]

theorem trail_lt {I : In} : ∀ (m i x : Nat), i < I.n → x ∈ trail I m i → x < I.n
  | 0, i, x, _, h => by simp [trail] at h
  | m + 1, i, x, hi, h => by
    rw [trail] at h
    split at h
    · simp at h; omega
    · rename_i p hp
      rcases List.mem_cons.1 h with rfl | h
      · exact hi
      · exact trail_lt m p x (par_lt hp) h

theorem stepTo_of {I : In} : ∀ (k j : Nat), endsIn I k j = false → ∃ q, stepTo I k j = some q
  | 0, j, _ => ⟨j, rfl⟩
  | k + 1, j, hj => by
    rw [endsIn] at hj
    cases hp : par I j with
    | none => simp [hp] at hj
    | some p =>
      simp only [hp] at hj
      obtain ⟨q, hq⟩ := stepTo_of k p hj
      exact ⟨q, by rw [stepTo]; simp only [hp]; exact hq⟩

theorem stepTo_lt {I : In} : ∀ (k j r : Nat), j < I.n → stepTo I k j = some r → r < I.n
  | 0, j, r, hj, h => by simp [stepTo] at h; omega
  | k + 1, j, r, hj, h => by
    rw [stepTo] at h
    cases hp : par I j with
    | none => simp [hp] at h
    | some p => simp only [hp] at h; exact stepTo_lt k p r (par_lt hp) h

theorem trail_fresh {I : In} : ∀ (k j q : Nat), Ends I j → stepTo I k j = some q → q ∉ trail I k j
  | 0, j, q, _, _ => by simp [trail]
  | k + 1, j, q, hE, hq => by
    rw [stepTo] at hq
    rw [trail]
    cases hp : par I j with
    | none => simp [hp] at hq
    | some p =>
      simp only [hp] at hq
      intro hm
      rcases List.mem_cons.1 hm with rfl | hm
      · have : stepTo I (k + 1) q = some q := by rw [stepTo]; simp only [hp]; exact hq
        exact cycle_never this hE
      · exact trail_fresh k p q ((ends_par hp).1 hE) hq hm

/-- A walk that ends at all ends within n looks. -/
theorem ends_within {I : In} {i : Nat} (hi : i < I.n) : Ends I i ↔ endsIn I I.n i = true := by
  constructor
  · intro hE
    cases hb : endsIn I I.n i with
    | true => rfl
    | false =>
      obtain ⟨q, hq⟩ := stepTo_of I.n i hb
      have hp := pigeon I.n (q :: trail I I.n i) (List.nodup_cons.2 ⟨trail_fresh _ _ _ hE hq, trail_nodup _ _ hE⟩) (by
        intro x hx
        rcases List.mem_cons.1 hx with rfl | hx
        · exact stepTo_lt _ _ _ hi hq
        · exact trail_lt _ _ x hi hx)
      rw [List.length_cons, trail_len _ _ hb] at hp
      omega
  · intro h; exact ⟨_, h⟩

/-! ### what a unit's issues are -/
def ORPH : ByteArray := { data := #[79, 82, 80, 72, 65, 78, 69, 68, 95, 78, 79, 68, 69] }
def CIRC : ByteArray := { data := #[67, 73, 82, 67, 85, 76, 65, 82, 95, 82, 69, 70, 69, 82, 69, 78, 67, 69] }
def LEVL : ByteArray := { data := #[76, 69, 86, 69, 76, 95, 73, 78, 67, 79, 78, 83, 73, 83, 84, 69, 78, 67, 89] }
def PATH : ByteArray := { data := #[80, 65, 84, 72, 95, 77, 73, 83, 77, 65, 84, 67, 72] }
def DEEP : ByteArray := { data := #[68, 69, 80, 84, 72, 95, 86, 73, 79, 76, 65, 84, 73, 79, 78] }
def SL : ByteArray := { data := #[47] }

/-- The decimal text of a code. -/
def dec (c : Int) : ByteArray := ⟨(Go.Lib.itoa c).toArray⟩

def never (I : In) (i : Nat) : Bool := !endsIn I I.n i
def placed (I : In) (i : Nat) : Bool := !I.hasP i || (par I i).isSome
def wantL (I : In) (i : Nat) : Int := match par I i with
  | none => 1
  | some j => IntKind.i64.wrap (I.lvl j + 1)
def wantC (I : In) (i : Nat) : ByteArray := match par I i with
  | none => SL ++ dec (I.code i)
  | some j => I.cp j ++ (SL ++ dec (I.code i))
def wantN (I : In) (i : Nat) : ByteArray := match par I i with
  | none => SL ++ I.name i
  | some j => I.np j ++ (SL ++ I.name i)

def badL (I : In) (i : Nat) : Bool := I.lvl i != wantL I i
def badP (I : In) (i : Nat) : Bool := ((I.cp i).toList != (wantC I i).toList) || ((I.np i).toList != (wantN I i).toList)
def badD (I : In) (i : Nat) : Bool := decide (17 < I.lvl i)

/-- The kinds of unit i's issues, in their order. -/
def kinds (I : In) (i : Nat) : List ByteArray :=
  (if placed I i then [] else [ORPH]) ++ (if never I i then [CIRC] else []) ++ (if placed I i && badL I i then [LEVL] else []) ++ (if placed I i && badP I i then [PATH] else []) ++ (if badD I i then [DEEP] else [])

/-- The report over the first k units. -/
def chk (I : In) : Nat → Nat
  | 0 => 0
  | k + 1 => if I.del k then chk I k else chk I k + 1
def fty (I : In) : Nat → Nat
  | 0 => 0
  | k + 1 => if I.del k || (kinds I k).isEmpty then fty I k else fty I k + 1
def iss (I : In) : Nat → List (Int × ByteArray)
  | 0 => []
  | k + 1 => if I.del k then iss I k else iss I k ++ (kinds I k).map fun s => (I.code k, s)

theorem chk_le (I : In) : ∀ k, chk I k ≤ k
  | 0 => by simp [chk]
  | k + 1 => by have := chk_le I k; rw [chk]; split <;> omega
theorem fty_le (I : In) : ∀ k, fty I k ≤ k
  | 0 => by simp [fty]
  | k + 1 => by have := fty_le I k; rw [fty]; split <;> omega
theorem kinds_le (I : In) (i : Nat) : (kinds I i).length ≤ 5 := by
  unfold kinds
  simp only [List.length_append]
  have h : ∀ (b : Bool) (x : ByteArray), (if b then [x] else []).length ≤ 1 := by intro b x; cases b <;> simp
  have h' : ∀ (b : Bool) (x : ByteArray), (if b then [] else [x]).length ≤ 1 := by intro b x; cases b <;> simp
  have h1 := h' (placed I i) ORPH
  have h2 := h (never I i) CIRC
  have h3 := h (placed I i && badL I i) LEVL
  have h4 := h (placed I i && badP I i) PATH
  have h5 := h (badD I i) DEEP
  omega
theorem iss_le (I : In) : ∀ k, (iss I k).length ≤ 5 * k
  | 0 => by simp [iss]
  | k + 1 => by
    have := iss_le I k
    have h2 := kinds_le I k
    rw [iss]; split
    · omega
    · simp only [List.length_append, List.length_map]; omega
end Go.Proofs.Qxb6612928aDoor.H
