/-
  The law: its frame, its arguments.
-/
import Derived.Test.Qxb6612928aDoorZc
namespace Go.Proofs.Qxb6612928aDoor.H
open Go.RowKit Go.Maps
set_option linter.unusedVariables false

/-- Where the eight slices lie. -/
structure Ar where
  a0 : Option Addr
  a1 : Option Addr
  a2 : Option Addr
  a3 : Option Addr
  a4 : Option Addr
  a5 : Option Addr
  a6 : Option Addr
  a7 : Option Addr
  n1 : Nat
  n2 : Nat
  n3 : Nat
  n4 : Nat
  n5 : Nat
  n6 : Nat
  n7 : Nat
  c0 : Nat
  c1 : Nat
  c2 : Nat
  c3 : Nat
  c4 : Nat
  c5 : Nat
  c6 : Nat
  c7 : Nat

/-- The arguments, as they read in w. -/
structure Ins (I : In) (X : Ar) (w : World) : Prop where
  r0 : Arr w X.a0 I.n fun j => .int .i32 (I.code j)
  r1 : Arr w X.a1 X.n1 fun j => .bool (I.hasP j)
  r2 : Arr w X.a2 X.n2 fun j => .int .i32 (I.pc j)
  r3 : Arr w X.a3 X.n3 fun j => .string (I.name j)
  r4 : Arr w X.a4 X.n4 fun j => .int .i64 (I.lvl j)
  r5 : Arr w X.a5 X.n5 fun j => .string (I.cp j)
  r6 : Arr w X.a6 X.n6 fun j => .string (I.np j)
  r7 : Arr w X.a7 X.n7 fun j => .bool (I.del j)

theorem Ins.below {I : In} {X : Ar} {w w' : World} (h : Ins I X w) {B : Nat} (hB : w.heap.size ≤ B) (hb : Below B w w') : Ins I X w' :=
  ⟨h.r0.below hB hb, h.r1.below hB hb, h.r2.below hB hb, h.r3.below hB hb, h.r4.below hB hb, h.r5.below hB hb, h.r6.below hB hb, h.r7.below hB hb⟩

/-- The frame: the arguments. -/
structure FrA (I : In) (X : Ar) (a : Act) : Prop where
  size : a.tmps.size = 559
  defers : a.defers = []
  s0 : a.tmps.getD 0 undef = .slice X.a0 I.n X.c0
  s1 : a.tmps.getD 1 undef = .slice X.a1 X.n1 X.c1
  s2 : a.tmps.getD 2 undef = .slice X.a2 X.n2 X.c2
  s3 : a.tmps.getD 3 undef = .slice X.a3 X.n3 X.c3
  s4 : a.tmps.getD 4 undef = .slice X.a4 X.n4 X.c4
  s5 : a.tmps.getD 5 undef = .slice X.a5 X.n5 X.c5
  s6 : a.tmps.getD 6 undef = .slice X.a6 X.n6 X.c6
  s7 : a.tmps.getD 7 undef = .slice X.a7 X.n7 X.c7

/-- The frame behind the length checks: all eight are of one length. -/
structure FrB (I : In) (X : Ar) (a : Act) : Prop where
  size : a.tmps.size = 559
  defers : a.defers = []
  s0 : a.tmps.getD 0 undef = .slice X.a0 I.n X.c0
  s1 : a.tmps.getD 1 undef = .slice X.a1 I.n X.c1
  s2 : a.tmps.getD 2 undef = .slice X.a2 I.n X.c2
  s3 : a.tmps.getD 3 undef = .slice X.a3 I.n X.c3
  s4 : a.tmps.getD 4 undef = .slice X.a4 I.n X.c4
  s5 : a.tmps.getD 5 undef = .slice X.a5 I.n X.c5
  s6 : a.tmps.getD 6 undef = .slice X.a6 I.n X.c6
  s7 : a.tmps.getD 7 undef = .slice X.a7 I.n X.c7
  s21 : a.tmps.getD 21 undef = .int .i64 I.n

/-- The arguments, all of one length. -/
structure Inn (I : In) (X : Ar) (w : World) : Prop where
  r0 : Arr w X.a0 I.n fun j => .int .i32 (I.code j)
  r1 : Arr w X.a1 I.n fun j => .bool (I.hasP j)
  r2 : Arr w X.a2 I.n fun j => .int .i32 (I.pc j)
  r3 : Arr w X.a3 I.n fun j => .string (I.name j)
  r4 : Arr w X.a4 I.n fun j => .int .i64 (I.lvl j)
  r5 : Arr w X.a5 I.n fun j => .string (I.cp j)
  r6 : Arr w X.a6 I.n fun j => .string (I.np j)
  r7 : Arr w X.a7 I.n fun j => .bool (I.del j)

theorem Inn.below {I : In} {X : Ar} {w w' : World} (h : Inn I X w) {B : Nat} (hB : w.heap.size ≤ B) (hb : Below B w w') : Inn I X w' :=
  ⟨h.r0.below hB hb, h.r1.below hB hb, h.r2.below hB hb, h.r3.below hB hb, h.r4.below hB hb, h.r5.below hB hb, h.r6.below hB hb, h.r7.below hB hb⟩

/-- All lengths are lengths. -/
structure Lens (I : In) (X : Ar) : Prop where
  m0 : I.n ≤ maxLen
  m1 : X.n1 ≤ maxLen
  m2 : X.n2 ≤ maxLen
  m3 : X.n3 ≤ maxLen
  m4 : X.n4 ≤ maxLen
  m5 : X.n5 ≤ maxLen
  m6 : X.n6 ≤ maxLen
  m7 : X.n7 ≤ maxLen
  z3 : ∀ j, j < X.n3 → (I.name j).size ≤ maxLen
  z5 : ∀ j, j < X.n5 → (I.cp j).size ≤ maxLen
  z6 : ∀ j, j < X.n6 → (I.np j).size ≤ maxLen

theorem asc_of_steps {I : In} (h : ∀ j, j + 1 < I.n → I.code j < I.code (j + 1)) : Asc I := by
  intro i j hij hj
  induction j with
  | zero => omega
  | succ j ih =>
    rcases Nat.lt_or_ge i j with hl | hl
    · have := ih hl (by omega)
      have := h j hj
      omega
    · obtain rfl : i = j := by omega
      exact h i hj
end Go.Proofs.Qxb6612928aDoor.H
