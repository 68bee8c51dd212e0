/-
  PLAIN LAW: a name of a checkpoint stream reads back, and is injective. Lists of bytes; no Go in sight.
-/
import Derived.Lib.Strings
namespace Go.Proofs.Qxb6613178a.CpPlain

/-- A group's name: it does not begin with ':' and holds no "::". -/
def GName (n : List UInt8) : Prop := n[0]? ≠ some 58 ∧ ∀ i : Nat, ¬ (n[i]? = some 58 ∧ n[i + 1]? = some 58)

/-- What stands between prefix and suffix. -/
def mid (s n : List UInt8) : List UInt8 := s ++ ([58, 58] ++ n)

theorem mid_at (s n : List UInt8) : (mid s n)[s.length]? = some 58 ∧ (mid s n)[s.length + 1]? = some 58 := by
  unfold mid
  constructor
  · rw [List.getElem?_append_right (by omega)]; simp
  · rw [List.getElem?_append_right (by omega)]; simp

theorem mid_ge (s n : List UInt8) (k : Nat) : (mid s n)[s.length + k]? = (58 :: 58 :: n)[k]? := by
  unfold mid
  rw [List.getElem?_append_right (by omega), show s.length + k - s.length = k from by omega]
  rfl

theorem mid_last (s n : List UInt8) (hn : GName n) (j : Nat) (hj : s.length < j) : ¬ ((mid s n)[j]? = some 58 ∧ (mid s n)[j + 1]? = some 58) := by
  obtain ⟨d, rfl⟩ : ∃ d, j = s.length + (d + 1) := ⟨j - (s.length + 1), by omega⟩
  rw [Nat.add_assoc s.length, mid_ge, mid_ge]
  cases d with
  | zero => exact fun h => hn.1 (by simpa using h.2)
  | succ d => exact fun h => hn.2 d (by simpa using h)

theorem mid_len (s n : List UInt8) : (mid s n).length = s.length + 2 + n.length := by simp [mid]; omega

theorem mid_take (s n : List UInt8) : (mid s n).take s.length = s := by simp [mid]
theorem mid_drop (s n : List UInt8) : (mid s n).drop (s.length + 2) = n := by
  unfold mid
  rw [← List.drop_drop, List.drop_left]
  rfl

theorem mid_inj (s n s' n' : List UInt8) (hn : GName n) (hn' : GName n') (h : mid s n = mid s' n') : s = s' ∧ n = n' := by
  have e : s.length = s'.length := by
    rcases Nat.lt_trichotomy s.length s'.length with hl | hl | hl
    · exact absurd (h ▸ mid_at s' n') (mid_last s n hn _ hl)
    · exact hl
    · exact absurd (h ▸ mid_at s n) (mid_last s' n' hn' _ hl)
  constructor
  · rw [← mid_take s n, ← mid_take s' n', h, e]
  · rw [← mid_drop s n, ← mid_drop s' n', h, e]

theorem wrap_inj (p q : List UInt8) (m m' : List UInt8) (h : p ++ (m ++ q) = p ++ (m' ++ q)) : m = m' :=
  List.append_cancel_right (List.append_cancel_left h)
end Go.Proofs.Qxb6613178a.CpPlain
