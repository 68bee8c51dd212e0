/-
  The walk of the law FnCheckpointStreamParsesBackAndIsInjective, out of its callees' contracts.
-/
import Derived.Test.Qxb6613178aCpWalks
import Derived.ProofKit
namespace Go.Proofs.Qxb6613178a.Cp
open Go.RowKit
open Go.Proofs.Qxb6613178a.CpPlain
set_option linter.unusedVariables false

theorem grown_drewN {W w' : World} {n : Nat} (h : Grown W w') : Grown W (w'.drewN n) := h

theorem fin_yes {a b : List UInt8} {c d : Bool} (h : a = b) (hi : c = ((a == b) && d)) : (c == d) = true := by
  subst h; simp at hi; simp [hi]

theorem fin_no {a b : List UInt8} {c d : Bool} (h : ¬ a = b) (hi : c = ((a == b) && d)) : (!c) = true := by
  have : (a == b) = false := by simp [h]
  rw [this] at hi; simp at hi; simp [hi]

theorem neq_self (s : ByteArray) : (s.toList != s.toList) = false := by simp

set_option maxHeartbeats 1000000 in
/-- Both names are names of groups, all within bounds. -/
theorem law_in (a0 a1 a2 a3 : ByteArray) (l0 : a0.size ≤ 65536) (l1 : a1.size ≤ 65536) (l2 : a2.size ≤ 65536) (l3 : a3.size ≤ 65536) (w : World) :
    Calls Try.prog 3 #[.string a0, .string a1, .string a2, .string a3] w fun e w' => e = .returned (.bool true) ∧ Grown w w' := by
  have k0 : ¬ (65536 : Int) < a0.size := by omega
  have k1 : ¬ (65536 : Int) < a1.size := by omega
  have k2 : ¬ (65536 : Int) < a2.size := by omega
  have k3 : ¬ (65536 : Int) < a3.size := by omega
  go_enter Try.func3, Try.ntmps3
  go_wp2_with fail
  refine (zzBytes_yes a0 a1 a2 a3 _ (by omega)).mono ?_
  rintro e w1 ⟨rfl, rfl⟩
  go_wp2_with fail
  refine (isName a1 _ l1).mono ?_
  rintro e w1 (⟨rfl, rfl⟩ | ⟨rfl, HG1, rfl⟩)
  · go_wp2_with fail
    go_ret
    exact ⟨rfl, Grown.refl _⟩
  · go_wp2_with fail
    refine (isName a3 _ l3).mono ?_
    rintro e w1 (⟨rfl, rfl⟩ | ⟨rfl, HG2, rfl⟩)
    · go_wp2_with fail
      go_ret
      exact ⟨rfl, Grown.refl _⟩
    · go_wp2_with fail
      refine (checkpoint_any a0 a1 _ l0 l1).mono ?_
      rintro e w1 ⟨rfl, rfl⟩
      go_wp2_with fail
      refine (checkpoint_any a2 a3 _ l2 l3).mono ?_
      rintro e w1 ⟨rfl, rfl⟩
      go_wp2_with fail
      refine (split_mkc a0 a1 _ l0 l1 HG1.out).mono ?_
      rintro e w1 ⟨rfl, n1, rfl⟩
      have e0 := neq_self a0
      have e1 := neq_self a1
      have HI : Hid (((mkc a0 a1).toList == (mkc a2 a3).toList) = ((a0.toList == a2.toList) && (a1.toList == a3.toList))) := mkc_inj a0 a1 a2 a3 HG1.out HG2.out
      go_wp2_with fail
      · have hs : a0.toList = a2.toList := by assumption
        go_ret
        exact ⟨ret_bool (fin_yes hs HI.out), grown_drewN (Grown.refl _)⟩
      · have hs : ¬ a0.toList = a2.toList := by assumption
        go_ret
        exact ⟨ret_bool (fin_no hs HI.out), grown_drewN (Grown.refl _)⟩

set_option maxHeartbeats 1000000 in
theorem law (a0 a1 a2 a3 : ByteArray) (w0 : a0.size ≤ maxLen) (w1 : a1.size ≤ maxLen) (w2 : a2.size ≤ maxLen) (w3 : a3.size ≤ maxLen) (w : World) :
    Calls Try.prog 3 #[.string a0, .string a1, .string a2, .string a3] w fun e w' => e = .returned (.bool true) ∧ Grown w w' := by
  by_cases hsum : a0.size + a1.size + a2.size + a3.size ≤ 1048576
  · by_cases h0 : 65536 < a0.size
    · have h0' : (65536 : Int) < a0.size := by omega
      go_enter Try.func3, Try.ntmps3
      go_wp2_with fail
      refine (zzBytes_yes a0 a1 a2 a3 _ hsum).mono ?_
      rintro e w1 ⟨rfl, rfl⟩
      go_wp2_with fail
      go_ret
      exact ⟨rfl, Grown.refl _⟩
    · have h0' : ¬ (65536 : Int) < a0.size := by omega
      by_cases h1 : 65536 < a1.size
      · have h1' : (65536 : Int) < a1.size := by omega
        go_enter Try.func3, Try.ntmps3
        go_wp2_with fail
        refine (zzBytes_yes a0 a1 a2 a3 _ hsum).mono ?_
        rintro e w1 ⟨rfl, rfl⟩
        go_wp2_with fail
        go_ret
        exact ⟨rfl, Grown.refl _⟩
      · have h1' : ¬ (65536 : Int) < a1.size := by omega
        by_cases h2 : 65536 < a2.size
        · have h2' : (65536 : Int) < a2.size := by omega
          go_enter Try.func3, Try.ntmps3
          go_wp2_with fail
          refine (zzBytes_yes a0 a1 a2 a3 _ hsum).mono ?_
          rintro e w1 ⟨rfl, rfl⟩
          go_wp2_with fail
          go_ret
          exact ⟨rfl, Grown.refl _⟩
        · have h2' : ¬ (65536 : Int) < a2.size := by omega
          by_cases h3 : 65536 < a3.size
          · have h3' : (65536 : Int) < a3.size := by omega
            go_enter Try.func3, Try.ntmps3
            go_wp2_with fail
            refine (zzBytes_yes a0 a1 a2 a3 _ hsum).mono ?_
            rintro e w1 ⟨rfl, rfl⟩
            go_wp2_with fail
            go_ret
            exact ⟨rfl, Grown.refl _⟩
          · exact law_in a0 a1 a2 a3 (by omega) (by omega) (by omega) (by omega) w
  · go_enter Try.func3, Try.ntmps3
    go_wp2_with fail
    refine (zzBytes_no a0 a1 a2 a3 _ hsum w0 w1 w2 w3).mono ?_
    rintro e w1 ⟨rfl, rfl⟩
    go_wp2_with fail
    go_ret
    exact ⟨rfl, Grown.refl _⟩
end Go.Proofs.Qxb6613178a.Cp
