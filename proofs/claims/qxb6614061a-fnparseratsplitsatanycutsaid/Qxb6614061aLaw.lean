/-
  The walk of the law FnParserAtSplitsAtAnyCut, out of its callees' contracts.
-/
import Derived.Test.Qxb6614061aWalks
import Derived.ProofKit
namespace Go.Proofs.Qxb6614061a.W
open Go.RowKit
open Go.Proofs.Qxb6614061a.Plain
set_option linter.unusedVariables false

theorem grown_drewN {W w' : World} {n : Nat} (h : Grown W w') : Grown W (w'.drewN n) := h

theorem at_val (s p : ByteArray) (b : Nat) (k : Nat) (w : World) (v : Bool) (hv : preAt s.data.toList k p.data.toList = v) (hs : s.size ≤ maxLen) (hp : p.size ≤ maxLen) (hk : k ≤ s.size)
    (c0 : w.cell? ⟨b, 0, none⟩ = some (.string s)) (c1 : w.cell? ⟨b, 1, none⟩ = some (.int .i64 k)) :
    Calls Try.prog 12 #[.pointer (some ⟨b, 0, none⟩), .string p] w fun e w' => e = .returned (.bool v) ∧ ∃ n, w' = w.drewN n := by
  subst hv
  exact at_any s p b k w hs hp hk c0 c1

theorem prefixAt_val (s p : ByteArray) (k : Nat) (w : World) (v : Bool) (hv : preAt s.data.toList k p.data.toList = v) (hs : s.size ≤ 1048576) (hp : p.size ≤ 1048576) (hk : k ≤ s.size) :
    Calls Try.prog 13 #[.string s, .int .i64 k, .string p] w fun e w' => e = .returned (.bool v) ∧ ∃ n, w' = w.drewN n := by
  subst hv
  exact prefixAt_any s p k w hs hp hk

theorem split_data (s a b : ByteArray) (k : Nat) : preAt s.data.toList k (a ++ b).data.toList = (preAt s.data.toList k a.data.toList && preAt s.data.toList (k + a.size) b.data.toList) := by
  rw [show (a ++ b).data.toList = a.data.toList ++ b.data.toList by simp, preAt_append, ← Go.Lib.size_eq]

theorem size_app (a b : ByteArray) : (a ++ b).size = a.size + b.size := by simp

set_option maxHeartbeats 1000000 in
/-- The way on which all is compared, a fits into what is left. -/
theorem walk_fits (a0 : ByteArray) (k : Nat) (a2 : ByteArray) (a3 : ByteArray) (w : World) (hsum : a0.size + a2.size + a3.size ≤ 1048576) (hk : k ≤ a0.size) (hf : a2.size ≤ a0.size - k) :
    Calls Try.prog 4 #[.string a0, .int .i64 k, .string a2, .string a3] w fun e w' => e = .returned (.bool true) ∧ Grown w w' := by
  have l0 : ¬ (1048576 : Int) < a0.size := by omega
  have l2 : ¬ (1048576 : Int) < a2.size := by omega
  have l3 : ¬ (1048576 : Int) < a3.size := by omega
  have l4 : ¬ (1048576 : Int) < a0.size + a2.size + a3.size := by omega
  have hf' : (a2.size : Int) ≤ a0.size - k := by omega
  have b0 : a0.size ≤ maxLen := by unfold maxLen; omega
  have b2 : a2.size ≤ maxLen := by unfold maxLen; omega
  have b3 : a3.size ≤ maxLen := by unfold maxLen; omega
  have b23 : (a2 ++ a3).size ≤ maxLen := by rw [size_app]; unfold maxLen; omega
  have b23' : (a2 ++ a3).size ≤ 1048576 := by rw [size_app]; omega
  obtain ⟨A, HA⟩ : ∃ A, Hid (preAt a0.data.toList k a2.data.toList = A) := ⟨_, rfl⟩
  obtain ⟨B, HB⟩ : ∃ B, Hid (preAt a0.data.toList (k + a2.size) a3.data.toList = B) := ⟨_, rfl⟩
  have HP : Hid (preAt a0.data.toList k (a2 ++ a3).data.toList = (A && B)) := by have := split_data a0 a2 a3 k; rw [HA.out, HB.out] at this; exact this
  go_enter Try.func4, Try.ntmps4
  go_wp2_with (go_at_call 10; refine (zzBytes_yes _ _ _ _ _ hsum).mono ?_; rintro e w' ⟨rfl, rfl⟩)
  refine (newParser_any _ _ _).mono ?_
  rintro e w1 ⟨rfl, rfl⟩
  go_wp2_with fail
  refine (at_val a0 (a2 ++ a3) _ k _ _ HP.out b0 b23 hk (by simp) (by simp)).mono ?_
  rintro e w1 ⟨rfl, n1, rfl⟩
  go_wp2_with fail
  refine (at_val a0 a2 _ k _ _ HA.out b0 b2 hk (by simp) (by simp)).mono ?_
  rintro e w1 ⟨rfl, n2, rfl⟩
  go_wp2_with fail
  rw [show ((k : Int) + (a2.size : Int)) = ((k + a2.size : Nat) : Int) from by omega]
  refine (newParser_any _ _ _).mono ?_
  rintro e w1 ⟨rfl, rfl⟩
  go_wp2_with fail
  refine (at_val a0 a3 _ (k + a2.size) _ _ HB.out b0 b3 (by omega) (by rw [World.cell?_alloc_at _ _ _ _ (by simp)]; simp) (by rw [World.cell?_alloc_at _ _ _ _ (by simp)]; simp)).mono ?_
  rintro e w1 ⟨rfl, n3, rfl⟩
  cases A <;> cases B
  all_goals
    go_wp2_with fail
    refine (prefixAt_val a0 (a2 ++ a3) k _ _ HP.out (by omega) b23' hk).mono ?_
    rintro e w1 ⟨rfl, n4, rfl⟩
    go_wp2
    go_ret
    exact ⟨rfl, by repeat (first | exact Grown.refl _ | apply grown_drewN | apply Grown.drew | apply Grown.alloc)⟩

set_option maxHeartbeats 1000000 in
/-- The way on which a is longer than what is left. -/
theorem walk_short (a0 : ByteArray) (k : Nat) (a2 : ByteArray) (a3 : ByteArray) (w : World) (hsum : a0.size + a2.size + a3.size ≤ 1048576) (hk : k ≤ a0.size) (hf : ¬ a2.size ≤ a0.size - k) :
    Calls Try.prog 4 #[.string a0, .int .i64 k, .string a2, .string a3] w fun e w' => e = .returned (.bool true) ∧ Grown w w' := by
  have l0 : ¬ (1048576 : Int) < a0.size := by omega
  have l2 : ¬ (1048576 : Int) < a2.size := by omega
  have l3 : ¬ (1048576 : Int) < a3.size := by omega
  have l4 : ¬ (1048576 : Int) < a0.size + a2.size + a3.size := by omega
  have hf' : ¬ (a2.size : Int) ≤ a0.size - k := by omega
  have b0 : a0.size ≤ maxLen := by unfold maxLen; omega
  have b2 : a2.size ≤ maxLen := by unfold maxLen; omega
  have b23 : (a2 ++ a3).size ≤ maxLen := by rw [size_app]; unfold maxLen; omega
  have b23' : (a2 ++ a3).size ≤ 1048576 := by rw [size_app]; omega
  have HA : Hid (preAt a0.data.toList k a2.data.toList = false) := preAt_long _ _ _ (by rw [← Go.Lib.size_eq, ← Go.Lib.size_eq]; omega)
  have HP : Hid (preAt a0.data.toList k (a2 ++ a3).data.toList = false) := by have := split_data a0 a2 a3 k; rw [HA.out, Bool.false_and] at this; exact this
  go_enter Try.func4, Try.ntmps4
  go_wp2_with (go_at_call 10; refine (zzBytes_yes _ _ _ _ _ hsum).mono ?_; rintro e w' ⟨rfl, rfl⟩)
  refine (newParser_any _ _ _).mono ?_
  rintro e w1 ⟨rfl, rfl⟩
  go_wp2_with fail
  refine (at_val a0 (a2 ++ a3) _ k _ _ HP.out b0 b23 hk (by simp) (by simp)).mono ?_
  rintro e w1 ⟨rfl, n1, rfl⟩
  go_wp2_with fail
  refine (at_val a0 a2 _ k _ _ HA.out b0 b2 hk (by simp) (by simp)).mono ?_
  rintro e w1 ⟨rfl, n2, rfl⟩
  go_wp2_with fail
  refine (prefixAt_val a0 (a2 ++ a3) k _ _ HP.out (by omega) b23' hk).mono ?_
  rintro e w1 ⟨rfl, n4, rfl⟩
  go_wp2
  go_ret
  exact ⟨rfl, by repeat (first | exact Grown.refl _ | apply grown_drewN | apply Grown.drew | apply Grown.alloc)⟩

set_option maxHeartbeats 1000000 in
theorem walk (a0 : ByteArray) (a1 : Int) (a2 : ByteArray) (a3 : ByteArray) (w0 : a0.size ≤ maxLen) (w1 : (Lit.int .i64 a1).wf = true) (w2 : a2.size ≤ maxLen) (w3 : a3.size ≤ maxLen) (w : World) :
    Calls Try.prog 4 #[.string a0, .int .i64 a1, .string a2, .string a3] w fun e w' => e = .returned (.bool true) ∧ Grown w w' := by
  by_cases hsum : a0.size + a2.size + a3.size ≤ 1048576
  · by_cases hneg : a1 < 0
    · have l0 : ¬ (1048576 : Int) < a0.size := by omega
      have l2 : ¬ (1048576 : Int) < a2.size := by omega
      have l3 : ¬ (1048576 : Int) < a3.size := by omega
      go_enter Try.func4, Try.ntmps4
      go_wp2_with (go_at_call 10; refine (zzBytes_yes _ _ _ _ _ hsum).mono ?_; rintro e w' ⟨rfl, rfl⟩)
      go_ret
      exact ⟨rfl, Grown.refl _⟩
    · obtain ⟨k, rfl⟩ := Int.eq_ofNat_of_zero_le (by omega : 0 ≤ a1)
      by_cases hk : k ≤ a0.size
      · by_cases hf : a2.size ≤ a0.size - k
        · exact walk_fits a0 k a2 a3 w hsum hk hf
        · exact walk_short a0 k a2 a3 w hsum hk hf
      · have hk' : (a0.size : Int) < k := by omega
        have l0 : ¬ (1048576 : Int) < a0.size := by omega
        have l2 : ¬ (1048576 : Int) < a2.size := by omega
        have l3 : ¬ (1048576 : Int) < a3.size := by omega
        go_enter Try.func4, Try.ntmps4
        go_wp2_with (go_at_call 10; refine (zzBytes_yes _ _ _ _ _ hsum).mono ?_; rintro e w' ⟨rfl, rfl⟩)
        go_ret
        exact ⟨rfl, Grown.refl _⟩
  · go_enter Try.func4, Try.ntmps4
    go_wp2_with (go_at_call 10; refine (zzBytes_no _ _ _ _ _ hsum w0 w2 w3).mono ?_; rintro e w' ⟨rfl, rfl⟩)
    go_ret
    exact ⟨rfl, Grown.refl _⟩

end Go.Proofs.Qxb6614061a.W
