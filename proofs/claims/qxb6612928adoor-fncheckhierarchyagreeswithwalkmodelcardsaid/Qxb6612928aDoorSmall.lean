/-
  The small functions on the road: zzNeverEnds, zzFind.
-/
import Derived.Test.Qxb6612928aDoorRows
import Derived.Test.Qxb6612928aDoorPlain
import Derived.WalkKit
import Derived.WalkSpells
import Derived.WalkLawsBesides
import Derived.Deep.QuietTactic
import Derived.BigQuiet
namespace Go.Proofs.Qxb6612928aDoor.H
open Go.RowKit
set_option linter.unusedVariables false

theorem ret_bool {a b : Bool} (h : a = b) : Ending.returned (.bool a) = .returned (.bool b) := by rw [h]
theorem ret_i64 {a b : Int} (h : a = b) : Ending.returned (.int .i64 a) = .returned (.int .i64 b) := by rw [h]

/-- What the model's slice 'valid' holds. -/
def vld (I : In) (i : Nat) : Int := match par I i with
  | none => -1
  | some p => p

theorem vld_neg {I : In} {i : Nat} : vld I i < 0 ↔ par I i = none := by
  unfold vld
  cases h : par I i with
  | none => simp
  | some p => simp

theorem vld_some {I : In} {i p : Nat} (h : par I i = some p) : vld I i = p := by simp [vld, h]

set_option maxHeartbeats 400000 in
theorem neverEnds_any (I : In) (bv i : Nat) (cap : Nat) (w : World) (hn : I.n ≤ 4096) (hi : i < I.n)
    (hc : ∀ k : Nat, k < I.n → w.cell? ⟨bv, k, none⟩ = some (.int .i64 (vld I k))) :
    Calls Tryd.prog 7 #[.slice (some ⟨bv, 0, none⟩) I.n cap, .int .i64 i] w fun e w' => e = .returned (.bool (never I i)) ∧ w' = w := by
  obtain ⟨n, hnn⟩ : ∃ n, I.n = n := ⟨_, rfl⟩
  rw [hnn] at hn hi hc
  rw [hnn]
  have HN : Hid (I.n = n) := hnn
  clear hnn
  have HC : Hid (∀ k : Nat, k < n → w.cell? ⟨bv, k, none⟩ = some (.int .i64 (vld I k))) := hc
  clear hc
  go_enter Tryd.func7, Tryd.ntmps7
  go_wp2
  go_loop [5, 6] (fun c s => ∃ (k j : Nat), k ≤ n ∧ j < n ∧ s = .int .i64 k ∧ c = .int .i64 j ∧ Hid (stepTo I k i = some j)) (fun _ s => n - (intOf s).toNat)
  case atStart => exact ⟨0, i, Nat.zero_le _, hi, rfl, rfl, rfl⟩
  case round =>
    obtain ⟨k, j, hk, hj, rfl, rfl, HS⟩ := hrel
    by_cases hlt : k < n
    · have hlt' : (k : Int) < n := by omega
      have hj' : (j : Int) < n := by omega
      have hcell := HC.out j hj
      cases hp : par I j with
      | none =>
        have hv : vld I j = -1 := by simp [vld, hp]
        rw [hv] at hcell
        have HE : Hid (endsIn I n i = true) := by
          have h1 := endsIn_step k 1 i j HS.out
          have h2 : endsIn I 1 j = true := by simp [endsIn, hp]
          rw [h2] at h1
          exact endsIn_mono (by omega) h1
        clear hp hv
        go_wp2
        go_ret
        exact ⟨ret_bool (by unfold never; rw [HN.out, HE.out]; rfl), rfl⟩
      | some p =>
        have hv : vld I j = p := by simp [vld, hp]
        rw [hv] at hcell
        have hpn : p < n := by have := par_lt hp; rw [HN.out] at this; exact this
        have HS' : Hid (stepTo I (k + 1) i = some p) := by
          have key : ∀ (m a b c : Nat), stepTo I m a = some b → par I b = some c → stepTo I (m + 1) a = some c := by
            intro m
            induction m with
            | zero => intro a b c h1 h2; simp [stepTo] at h1; subst h1; simp [stepTo, h2]
            | succ m ih =>
              intro a b c h1 h2
              rw [stepTo] at h1
              cases ha : par I a with
              | none => simp [ha] at h1
              | some q =>
                simp only [ha] at h1
                have := ih q b c h1 h2
                rw [stepTo]; simp only [ha]; exact this
          exact key k i j p HS.out hp
        have hp0 : ¬ (p : Int) < 0 := by omega
        clear hp hv
        go_wp2
        go_round
        case rel => exact ⟨k + 1, p, by omega, hpn, by go_num, rfl, HS'.out⟩
        case measure => simp [intOf]; omega
    · obtain rfl : k = n := by omega
      have HE : Hid (endsIn I k i = false) := by
        have h1 := endsIn_step k 0 i j HS.out
        rw [Nat.add_zero] at h1
        rw [h1]; rfl
      go_wp2
      go_ret
      exact ⟨ret_bool (by unfold never; rw [HN.out, HE.out]; rfl), rfl⟩
end Go.Proofs.Qxb6612928aDoor.H
