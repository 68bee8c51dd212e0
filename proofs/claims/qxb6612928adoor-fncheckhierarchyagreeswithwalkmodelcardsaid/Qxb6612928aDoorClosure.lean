/-
  The units in memory; the closure parentOf.
-/
import Derived.Test.Qxb6612928aDoorMapLaw
namespace Go.Proofs.Qxb6612928aDoor.H
open Go.RowKit Go.Maps
set_option linter.unusedVariables false

/-- What the law's own bounds give. -/
structure Fits (I : In) : Prop where
  n : I.n ≤ 4096
  asc : Asc I
  code : ∀ i, -2147483648 ≤ I.code i ∧ I.code i ≤ 2147483647
  pc : ∀ i, -2147483648 ≤ I.pc i ∧ I.pc i ≤ 2147483647
  lvl : ∀ i, -9223372036854775808 ≤ I.lvl i ∧ I.lvl i ≤ 9223372036854775807
  name : ∀ i, (I.name i).size ≤ 1048576
  cp : ∀ i, (I.cp i).size ≤ 1048576
  np : ∀ i, (I.np i).size ≤ 1048576

/-- The cells of a unit that nobody sets. -/
def zc : Nat → Value
  | 6 => .string { data := #[] }
  | 7 => .string { data := #[] }
  | 9 => .int .i32 0
  | 10 => .string { data := #[] }
  | 11 => .pointer none
  | 12 => .pointer none
  | 13 => .slice none 0 0
  | 14 => .int .u64 0
  | 15 => .int .i64 0
  | 16 => .pointer none
  | 17 => .int .u64 0
  | 18 => .int .i64 0
  | 19 => .pointer none
  | _ => undef

/-- The parent's code lies in a block of its own. -/
def pcPtr (I : In) (pp : Nat → Nat) (i : Nat) : Value := .pointer (if I.hasP i then some ⟨pp i, 0, none⟩ else none)

/-- The units lie in block Bu, all below block B. -/
structure Units (I : In) (B Bu : Nat) (pp : Nat → Nat) (w : World) : Prop where
  lt : Bu < B
  ltp : ∀ i, i < I.n → I.hasP i = true → pp i < B
  c0 : ∀ i, i < I.n → w.cell? ⟨Bu, i * 20, none⟩ = some (.int .i32 (I.code i))
  c1 : ∀ i, i < I.n → w.cell? ⟨Bu, i * 20 + 1, none⟩ = some (pcPtr I pp i)
  cq : ∀ i, i < I.n → I.hasP i = true → w.cell? ⟨pp i, 0, none⟩ = some (.int .i32 (I.pc i))
  c2 : ∀ i, i < I.n → w.cell? ⟨Bu, i * 20 + 2, none⟩ = some (.string (I.name i))
  c3 : ∀ i, i < I.n → w.cell? ⟨Bu, i * 20 + 3, none⟩ = some (.int .i64 (I.lvl i))
  c4 : ∀ i, i < I.n → w.cell? ⟨Bu, i * 20 + 4, none⟩ = some (.string (I.cp i))
  c5 : ∀ i, i < I.n → w.cell? ⟨Bu, i * 20 + 5, none⟩ = some (.string (I.np i))
  c8 : ∀ i, i < I.n → w.cell? ⟨Bu, i * 20 + 8, none⟩ = some (.bool (I.del i))
  cz : ∀ i, i < I.n → ∀ k, k = 6 ∨ k = 7 ∨ (9 ≤ k ∧ k < 20) → w.cell? ⟨Bu, i * 20 + k, none⟩ = some (zc k)

theorem Units.below {I : In} {B Bu : Nat} {pp : Nat → Nat} {w w' : World} (h : Units I B Bu pp w) {B' : Nat} (hb : Below B' w w') (hB : B ≤ B') : Units I B Bu pp w' := by
  have k : ∀ o, w'.cell? ⟨Bu, o, none⟩ = w.cell? ⟨Bu, o, none⟩ := fun o => hb.cell (p := ⟨Bu, o, none⟩) (Nat.lt_of_lt_of_le h.lt hB)
  refine ⟨h.lt, h.ltp, fun i hi => (k _).trans (h.c0 i hi), fun i hi => (k _).trans (h.c1 i hi), fun i hi hp => ?_, fun i hi => (k _).trans (h.c2 i hi), fun i hi => (k _).trans (h.c3 i hi), fun i hi => (k _).trans (h.c4 i hi), fun i hi => (k _).trans (h.c5 i hi), fun i hi => (k _).trans (h.c8 i hi), fun i hi j hj => (k _).trans (h.cz i hi j hj)⟩
  exact (hb.cell (p := ⟨pp i, 0, none⟩) (Nat.lt_of_lt_of_le (h.ltp i hi hp) hB)).trans (h.cq i hi hp)

/-- A pointer to unit j. -/
def uptr (Bu j : Nat) : Value := .pointer (some ⟨Bu, j * 20, none⟩)

/-- What byCode holds. -/
def byC (I : In) (Bu : Nat) : Int → Option Value := fun c => (find I c).map fun j => uptr Bu j

theorem zero53 (w : World) : (zeroValue 53).run Tryd.prog w = .ok (.pointer none) w := by kernel_rfl

set_option maxHeartbeats 400000 in
theorem closure_some {I : In} {B Bu : Nat} {pp : Nat → Nat} {w : World} (F : Fits I) (hU : Units I B Bu pp w) {Bx Mb k : Nat} (hx : w.cell? ⟨Bx, 0, none⟩ = some (.map (some Mb))) (hM : MapIs anyV w Mb (byC I Bu) k) {i p : Nat} (hi : i < I.n) (hp : par I i = some p) :
    Calls Tryd.prog 9 #[.pointer (some ⟨Bu, i * 20, none⟩), .pointer (some ⟨Bx, 0, none⟩)] w fun e w' => e = .returned (.tuple #[.pointer (some ⟨Bu, p * 20, none⟩), .bool true]) ∧ ∃ q, w' = w.drewN q := by
  have hh : I.hasP i = true := by
    cases h : I.hasP i with
    | true => rfl
    | false => simp [par, h] at hp
  have hfd : find I (I.pc i) = some p ∧ I.del p = false := by
    unfold par at hp
    rw [if_pos hh] at hp
    cases hf : find I (I.pc i) with
    | none => simp [hf] at hp
    | some j =>
      simp only [hf] at hp
      cases hd : I.del j with
      | true => simp [hd] at hp
      | false => simp [hd] at hp; subst hp; exact ⟨rfl, hd⟩
  have hpn := par_lt hp
  have hlk : ∀ q, (Instr.lookup 52 (.map (some Mb)) (.int .i32 (I.pc i)) true).run Tryd.prog (w.drewN q) = .ok (.tuple #[.pointer (some ⟨Bu, p * 20, none⟩), .bool true]) (w.drewN q) := by
    intro q
    have := (hM.of_block (w' := w.drewN q) rfl).look_ok Tryd.underlying52 (zero53 _) rfl (F.pc i).1 (F.pc i).2
    rw [this]
    simp [byC, hfd.1, uptr]
  have d1 := hU.c1 i hi
  simp only [pcPtr, hh, if_true] at d1
  have dq := hU.cq i hi hh
  have d8 := hU.c8 p hpn
  rw [hfd.2] at d8
  clear hU hM F hh hp hfd
  go_enter Tryd.func9, Tryd.ntmps9
  go_wp2_with fail
  go_quiet (fail)
  go_wp2_with fail
  go_quiet (fail)
  go_wp2_with fail
  go_ret2
  exact ⟨rfl, _, World.drewN_drewN _ _ _⟩

set_option maxHeartbeats 400000 in
theorem closure_none {I : In} {B Bu : Nat} {pp : Nat → Nat} {w : World} (F : Fits I) (hU : Units I B Bu pp w) {Bx Mb k : Nat} (hx : w.cell? ⟨Bx, 0, none⟩ = some (.map (some Mb))) (hM : MapIs anyV w Mb (byC I Bu) k) {i : Nat} (hi : i < I.n) (hh : I.hasP i = true) (hp : par I i = none) :
    Calls Tryd.prog 9 #[.pointer (some ⟨Bu, i * 20, none⟩), .pointer (some ⟨Bx, 0, none⟩)] w fun e w' => (∃ x, e = .returned (.tuple #[.pointer x, .bool false])) ∧ ∃ q, w' = w.drewN q := by
  have d1 := hU.c1 i hi
  simp only [pcPtr, hh, if_true] at d1
  have dq := hU.cq i hi hh
  unfold par at hp
  rw [if_pos hh] at hp
  cases hf : find I (I.pc i) with
  | none =>
    have hlk : ∀ q, (Instr.lookup 52 (.map (some Mb)) (.int .i32 (I.pc i)) true).run Tryd.prog (w.drewN q) = .ok (.tuple #[.pointer none, .bool false]) (w.drewN q) := by
      intro q
      have := (hM.of_block (w' := w.drewN q) rfl).look_ok Tryd.underlying52 (zero53 _) rfl (F.pc i).1 (F.pc i).2
      rw [this]
      simp [byC, hf]
    clear hU hM F hh hp hf
    go_enter Tryd.func9, Tryd.ntmps9
    go_wp2_with fail
    go_quiet (fail)
    go_wp2_with fail
    go_quiet (fail)
    go_wp2_with fail
    go_ret2
    exact ⟨⟨_, rfl⟩, _, World.drewN_drewN _ _ _⟩
  | some j =>
    simp only [hf] at hp
    have hd : I.del j = true := by
      cases h : I.del j with
      | true => rfl
      | false => simp [h] at hp
    have hjn := (find_some hf).1
    have hlk : ∀ q, (Instr.lookup 52 (.map (some Mb)) (.int .i32 (I.pc i)) true).run Tryd.prog (w.drewN q) = .ok (.tuple #[.pointer (some ⟨Bu, j * 20, none⟩), .bool true]) (w.drewN q) := by
      intro q
      have := (hM.of_block (w' := w.drewN q) rfl).look_ok Tryd.underlying52 (zero53 _) rfl (F.pc i).1 (F.pc i).2
      rw [this]
      simp [byC, hf, uptr]
    have d8 := hU.c8 j hjn
    rw [hd] at d8
    clear hU hM F hh hp hf hd
    go_enter Tryd.func9, Tryd.ntmps9
    go_wp2_with fail
    go_quiet (fail)
    go_wp2_with fail
    go_quiet (fail)
    go_wp2_with fail
    go_ret2
    exact ⟨⟨_, rfl⟩, _, World.drewN_drewN _ _ _⟩
end Go.Proofs.Qxb6612928aDoor.H
