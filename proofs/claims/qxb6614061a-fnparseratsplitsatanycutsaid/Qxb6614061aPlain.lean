/-
  PLAIN LAW: prefixes of lists of bytes. No Go in sight.
-/
import Derived.Lib.Strings
namespace Go.Proofs.Qxb6614061a.Plain

/-- The prefix test at a position. -/
def preAt (s : List UInt8) (pos : Nat) (p : List UInt8) : Bool := Go.Lib.hasPrefix (s.drop pos) p

theorem preAt_append (s : List UInt8) (pos : Nat) (a b : List UInt8) :
    preAt s pos (a ++ b) = (preAt s pos a && preAt s (pos + a.length) b) := by
  unfold preAt Go.Lib.hasPrefix
  rw [← List.drop_drop]
  generalize s.drop pos = l
  induction a generalizing l with
  | nil => simp
  | cons x xs ih =>
    cases l with
    | nil => simp
    | cons y ys => simp [List.isPrefixOf, ih ys, Bool.and_assoc]

theorem preAt_long (s : List UInt8) (pos : Nat) (p : List UInt8) (h : s.length - pos < p.length) : preAt s pos p = false := by
  unfold preAt Go.Lib.hasPrefix
  rw [Bool.eq_false_iff]
  intro hp
  have := (List.isPrefixOf_iff_prefix.1 hp).length_le
  simp at this
  omega

/-- One byte more of the test: the first k bytes of p stand at pos. -/
theorem take_succ_preAt (s : List UInt8) (pos k : Nat) (p : List UInt8) (hk : k < p.length) (hs : pos + k < s.length) :
    preAt s pos (p.take (k + 1)) = (preAt s pos (p.take k) && (p[k] == s[pos + k])) := by
  rw [List.take_succ_eq_append_getElem hk, preAt_append]
  congr 1
  have hl : (p.take k).length = k := by simp; omega
  rw [hl]
  unfold preAt Go.Lib.hasPrefix
  rw [List.drop_eq_getElem_cons hs]
  simp [List.isPrefixOf]

theorem preAt_of_take_false (s : List UInt8) (pos k : Nat) (p : List UInt8) (h : preAt s pos (p.take k) = false) : preAt s pos p = false := by
  conv => lhs; rw [← List.take_append_drop k p]
  rw [preAt_append, h]
  rfl
end Go.Proofs.Qxb6614061a.Plain
