/-
  zzFind: binary search.
-/
import Derived.Test.Qxb6612928aDoorSmall
import Derived.Below
namespace Go.Proofs.Qxb6612928aDoor.H
open Go.RowKit
set_option linter.unusedVariables false

/-- A slice that came in: its cells, wherever they lie. -/
def Arr (w : World) (ao : Option Addr) (n : Nat) (f : Nat → Value) : Prop := 0 < n → ∃ a, ao = some a ∧ ∀ j, j < n → w.cell? (a.add j) = some (f j)

theorem cell_lt {w : World} {p : Addr} {v : Value} (h : w.cell? p = some v) : p.block < w.heap.size := by
  rcases Nat.lt_or_ge p.block w.heap.size with hl | hl
  · exact hl
  · have hz : w.heap[p.block]? = none := Array.getElem?_eq_none hl
    simp [World.cell?, hz] at h

theorem Arr.below {w w' : World} {ao : Option Addr} {n : Nat} {f : Nat → Value} (h : Arr w ao n f) {B : Nat} (hB : w.heap.size ≤ B) (hb : Below B w w') : Arr w' ao n f := by
  intro hn
  obtain ⟨a, rfl, hc⟩ := h hn
  exact ⟨a, rfl, fun j hj => (hb.cell (Nat.lt_of_lt_of_le (cell_lt (hc j hj)) hB)).trans (hc j hj)⟩

/-- What zzFind answers. -/
def fnd (I : In) (c : Int) : Int := match find I c with
  | none => -1
  | some p => p

theorem fnd_at {I : In} (ha : Asc I) {c : Int} {lo : Nat} (hlo : ∀ j, j < lo → I.code j < c) (hl : lo < I.n) (he : I.code lo = c) : fnd I c = lo := by
  unfold fnd; rw [← he, find_code ha hl]

theorem fnd_no {I : In} {c : Int} {lo : Nat} (hlo : ∀ j, j < lo → I.code j < c) (hhi : ∀ j, lo ≤ j → j < I.n → c ≤ I.code j) (ha : Asc I) (hne : lo < I.n → I.code lo ≠ c) : fnd I c = -1 := by
  unfold fnd
  cases hf : find I c with
  | none => rfl
  | some j =>
    exfalso
    obtain ⟨hj, he⟩ := find_some hf
    rcases Nat.lt_or_ge j lo with h | h
    · have := hlo j h; omega
    · rcases Nat.lt_or_ge lo j with h2 | h2
      · have := ha lo j h2 hj
        have := hhi lo (Nat.le_refl _) (by omega)
        omega
      · have : j = lo := by omega
        subst this
        exact hne hj he

set_option maxHeartbeats 1000000 in
theorem zzFind_any (I : In) (ao : Option Addr) (cap : Nat) (c : Int) (w : World) (ha : Asc I) (hn : I.n ≤ 4096) (h0 : -2147483648 ≤ c) (h1 : c ≤ 2147483647)
    (hA : Arr w ao I.n fun j => .int .i32 (I.code j)) :
    Calls Tryd.prog 6 #[.slice ao I.n cap, .int .i32 c] w fun e w' => e = .returned (.int .i64 (fnd I c)) ∧ w' = w := by
  by_cases hz : I.n = 0
  · have hr : fnd I c = -1 := fnd_no (lo := 0) (fun j hj => by omega) (fun j _ hj => by omega) ha (fun h => by omega)
    rw [hr, hz]
    clear hr hA
    go_enter Tryd.func6, Tryd.ntmps6
    go_wp2
    go_loop [5, 6] (fun c s => c = .int .i64 0 ∧ s = .int .i64 0) (fun _ _ => 0)
    case atStart => exact ⟨rfl, rfl⟩
    case round =>
      obtain ⟨rfl, rfl⟩ := hrel
      go_wp2
      go_ret
      exact ⟨rfl, rfl⟩
  · obtain ⟨ad, rfl, hc⟩ := hA (by omega)
    obtain ⟨n, hnn⟩ : ∃ n, I.n = n := ⟨_, rfl⟩
    rw [hnn] at hn hz hc
    rw [hnn]
    have HN : Hid (I.n = n) := hnn
    have HA : Hid (Asc I) := ha
    have HC : Hid (∀ k : Nat, k < n → w.cell? (ad.add k) = some (.int .i32 (I.code k))) := hc
    clear hnn hc ha hA
    go_enter Tryd.func6, Tryd.ntmps6
    go_wp2
    go_loop [5, 6] (fun c' s => ∃ (lo hi : Nat), lo ≤ hi ∧ hi ≤ n ∧ c' = .int .i64 lo ∧ s = .int .i64 hi ∧ Hid (∀ j, j < lo → I.code j < c) ∧ Hid (∀ j, hi ≤ j → j < n → c ≤ I.code j)) (fun x s => (intOf s).toNat - (intOf x).toNat)
    case atStart => exact ⟨0, n, Nat.zero_le _, Nat.le_refl _, rfl, rfl, fun j hj => by omega, fun j h h' => by omega⟩
    case round =>
      obtain ⟨lo, hi, hle, hhn, rfl, rfl, HL, HH⟩ := hrel
      by_cases hlt : lo < hi
      · have hlt' : (lo : Int) < hi := by omega
        have hmid : (lo : Int) + ((hi : Int) - lo).tdiv 2 = ((lo + (hi - lo) / 2 : Nat) : Int) := by
          have : (hi : Int) - lo = ((hi - lo : Nat) : Int) := by omega
          rw [this]
          have h2 : ((hi - lo : Nat) : Int).tdiv 2 = (((hi - lo) / 2 : Nat) : Int) := by
            rw [Int.tdiv_eq_ediv_of_nonneg (by omega)]; omega
          rw [h2]; omega
        generalize hm : lo + (hi - lo) / 2 = m at hmid
        have hm1 : lo ≤ m := by omega
        have hm2 : m < hi := by omega
        have hm' : (m : Int) < n := by omega
        have hcell := HC.out m (by omega)
        by_cases hcm : I.code m < c
        · have HL' : Hid (∀ j, j < m + 1 → I.code j < c) := by
            intro j hj
            rcases Nat.lt_or_ge j m with h | h
            · have := HA.out j m h (by rw [HN.out]; omega); omega
            · obtain rfl : j = m := by omega
              exact hcm
          go_wp2
          go_round
          case rel => exact ⟨m + 1, hi, by omega, by omega, by go_num, rfl, HL'.out, HH.out⟩
          case measure => simp [intOf]; omega
        · have HH' : Hid (∀ j, m ≤ j → j < n → c ≤ I.code j) := by
            intro j hj hj2
            rcases Nat.lt_or_ge m j with h | h
            · have := HA.out m j h (by rw [HN.out]; omega); omega
            · obtain rfl : j = m := by omega
              omega
          go_wp2
          go_round
          case rel => exact ⟨lo, m, by omega, by omega, rfl, rfl, HL.out, HH'.out⟩
          case measure => simp [intOf]; omega
      · obtain rfl : lo = hi := by omega
        by_cases hln : lo < n
        · have hln' : (lo : Int) < n := by omega
          have hcell := HC.out lo hln
          by_cases he : I.code lo = c
          · have HR : Hid (fnd I c = lo) := fnd_at HA.out HL.out (by rw [HN.out]; exact hln) he
            go_wp2
            go_ret
            exact ⟨ret_i64 HR.out.symm, rfl⟩
          · have HR : Hid (fnd I c = -1) := fnd_no HL.out (by rw [HN.out]; exact HH.out) HA.out (fun _ => he)
            go_wp2
            go_ret
            exact ⟨ret_i64 HR.out.symm, rfl⟩
        · have hln' : ¬ (lo : Int) < n := by omega
          have HR : Hid (fnd I c = -1) := fnd_no HL.out (by rw [HN.out]; exact HH.out) HA.out (fun h => by rw [HN.out] at h; omega)
          go_wp2
          go_ret
          exact ⟨ret_i64 HR.out.symm, rfl⟩
end Go.Proofs.Qxb6612928aDoor.H
