/-
  zzBytes, whole.
-/
import Derived.Test.Qxb6612928aDoorZb
namespace Go.Proofs.Qxb6612928aDoor.H
open Go.RowKit Go.Maps
set_option linter.unusedVariables false

set_option maxHeartbeats 2000000 in
set_option maxRecDepth 100000 in
theorem zzBytes (a0 a1 a2 a3 a4 a5 a6 a7 : Option Addr) (n0 n1 n2 n3 n4 n5 n6 n7 c0 c1 c2 c3 c4 c5 c6 c7 : Nat) (w : World) (S3 S5 S6 : Nat → ByteArray) (hn : n0 ≤ maxLen ∧ n1 ≤ maxLen ∧ n2 ≤ maxLen ∧ n3 ≤ maxLen ∧ n4 ≤ maxLen ∧ n5 ≤ maxLen ∧ n6 ≤ maxLen ∧ n7 ≤ maxLen)
    (hA3 : Arr w a3 n3 fun j => .string (S3 j)) (hA5 : Arr w a5 n5 fun j => .string (S5 j)) (hA6 : Arr w a6 n6 fun j => .string (S6 j))
    (hS3 : ∀ j, j < n3 → (S3 j).size ≤ maxLen) (hS5 : ∀ j, j < n5 → (S5 j).size ≤ maxLen) (hS6 : ∀ j, j < n6 → (S6 j).size ≤ maxLen) :
    Calls Tryd.prog 4 #[.slice a0 n0 c0, .slice a1 n1 c1, .slice a2 n2 c2, .slice a3 n3 c3, .slice a4 n4 c4, .slice a5 n5 c5, .slice a6 n6 c6, .slice a7 n7 c7] w fun e w' => ∃ b, e = .returned (.bool b) ∧ w' = w ∧ (b = true → (∀ j, j < n3 → (S3 j).size ≤ 1048576) ∧ (∀ j, j < n5 → (S5 j).size ≤ 1048576) ∧ (∀ j, j < n6 → (S6 j).size ≤ 1048576)) := by
  unfold maxLen at hn
  obtain ⟨hn0, hn1, hn2, hn3, hn4, hn5, hn6, hn7⟩ := hn
  have HA3 : Hid (Arr w a3 n3 fun j => .string (S3 j)) := hA3
  have HA5 : Hid (Arr w a5 n5 fun j => .string (S5 j)) := hA5
  have HA6 : Hid (Arr w a6 n6 fun j => .string (S6 j)) := hA6
  have HS3 : Hid (∀ j, j < n3 → (S3 j).size ≤ maxLen) := hS3
  have HS5 : Hid (∀ j, j < n5 → (S5 j).size ≤ maxLen) := hS5
  have HS6 : Hid (∀ j, j < n6 → (S6 j).size ≤ maxLen) := hS6
  clear hA3 hA5 hA6 hS3 hS5 hS6
  go_enter Tryd.func4, Tryd.ntmps4
  go_wp2_with fail
  all_goals first | (go_ret; exact ⟨false, rfl, rfl, fun h => by cases h⟩) | skip
  refine zbLoop0 (S := S3) ⟨rfl, rfl, rfl, rfl, rfl, rfl, rfl, rfl, rfl, rfl⟩ rfl rfl (by omega) (by omega) (by omega) HA3.out HS3.out _ ?_ ?_
  · intro a' hr
    exact ret_of (R := fun e w' => ∃ b, e = .returned (.bool b) ∧ w' = w ∧ (b = true → (∀ j, j < n3 → (S3 j).size ≤ 1048576) ∧ (∀ j, j < n5 → (S5 j).size ≤ 1048576) ∧ (∀ j, j < n6 → (S6 j).size ≤ 1048576))) (fn := Tryd.f4) rfl hr ⟨false, rfl, rfl, fun h => by cases h⟩
  intro b0 s0' hall0 hs0 hs1 fr s17
  have HL0 : Hid (∀ j, j < n3 → (S3 j).size ≤ 1048576) := hall0
  clear hall0
  obtain ⟨f, rfl, hf⟩ := lit156 b0 fr.size fr.defers
  have e0 := (hf 0).symm.trans fr.s0
  have e1 := (hf 1).symm.trans fr.s1
  have e2 := (hf 2).symm.trans fr.s2
  have e3 := (hf 3).symm.trans fr.s3
  have e4 := (hf 4).symm.trans fr.s4
  have e5 := (hf 5).symm.trans fr.s5
  have e6 := (hf 6).symm.trans fr.s6
  have e7 := (hf 7).symm.trans fr.s7
  have e17 := (hf 17).symm.trans s17
  clear fr hf s17
  simp only [e0, e1, e2, e3, e4, e5, e6, e7, e17]
  clear e0 e1 e2 e3 e4 e5 e6 e7 e17
  go_wp2_with fail
  all_goals first | (go_ret; exact ⟨false, rfl, rfl, fun h => by cases h⟩) | skip
  refine zbLoop1 (S := S5) ⟨rfl, rfl, rfl, rfl, rfl, rfl, rfl, rfl, rfl, rfl⟩ rfl rfl (by omega) (by omega) (by omega) HA5.out HS5.out _ ?_ ?_
  · intro a' hr
    exact ret_of (R := fun e w' => ∃ b, e = .returned (.bool b) ∧ w' = w ∧ (b = true → (∀ j, j < n3 → (S3 j).size ≤ 1048576) ∧ (∀ j, j < n5 → (S5 j).size ≤ 1048576) ∧ (∀ j, j < n6 → (S6 j).size ≤ 1048576))) (fn := Tryd.f4) rfl hr ⟨false, rfl, rfl, fun h => by cases h⟩
  intro b1 s1' hall1 hs0 hs1 fr s17
  have HL1 : Hid (∀ j, j < n5 → (S5 j).size ≤ 1048576) := hall1
  clear hall1
  obtain ⟨f, rfl, hf⟩ := lit156 b1 fr.size fr.defers
  have e0 := (hf 0).symm.trans fr.s0
  have e1 := (hf 1).symm.trans fr.s1
  have e2 := (hf 2).symm.trans fr.s2
  have e3 := (hf 3).symm.trans fr.s3
  have e4 := (hf 4).symm.trans fr.s4
  have e5 := (hf 5).symm.trans fr.s5
  have e6 := (hf 6).symm.trans fr.s6
  have e7 := (hf 7).symm.trans fr.s7
  have e17 := (hf 17).symm.trans s17
  clear fr hf s17
  simp only [e0, e1, e2, e3, e4, e5, e6, e7, e17]
  clear e0 e1 e2 e3 e4 e5 e6 e7 e17
  go_wp2_with fail
  all_goals first | (go_ret; exact ⟨false, rfl, rfl, fun h => by cases h⟩) | skip
  refine zbLoop2 (S := S6) ⟨rfl, rfl, rfl, rfl, rfl, rfl, rfl, rfl, rfl, rfl⟩ rfl rfl (by omega) (by omega) (by omega) HA6.out HS6.out _ ?_ ?_
  · intro a' hr
    exact ret_of (R := fun e w' => ∃ b, e = .returned (.bool b) ∧ w' = w ∧ (b = true → (∀ j, j < n3 → (S3 j).size ≤ 1048576) ∧ (∀ j, j < n5 → (S5 j).size ≤ 1048576) ∧ (∀ j, j < n6 → (S6 j).size ≤ 1048576))) (fn := Tryd.f4) rfl hr ⟨false, rfl, rfl, fun h => by cases h⟩
  intro b2 s2' hall2 hs0 hs1 fr s17
  have HL2 : Hid (∀ j, j < n6 → (S6 j).size ≤ 1048576) := hall2
  clear hall2
  obtain ⟨f, rfl, hf⟩ := lit156 b2 fr.size fr.defers
  have e0 := (hf 0).symm.trans fr.s0
  have e1 := (hf 1).symm.trans fr.s1
  have e2 := (hf 2).symm.trans fr.s2
  have e3 := (hf 3).symm.trans fr.s3
  have e4 := (hf 4).symm.trans fr.s4
  have e5 := (hf 5).symm.trans fr.s5
  have e6 := (hf 6).symm.trans fr.s6
  have e7 := (hf 7).symm.trans fr.s7
  have e17 := (hf 17).symm.trans s17
  clear fr hf s17
  simp only [e0, e1, e2, e3, e4, e5, e6, e7, e17]
  clear e0 e1 e2 e3 e4 e5 e6 e7 e17
  go_wp2_with fail
  all_goals go_ret
  all_goals first | exact ⟨false, rfl, rfl, fun h => by cases h⟩ | exact ⟨true, rfl, rfl, fun _ => ⟨HL0.out, HL1.out, HL2.out⟩⟩
end Go.Proofs.Qxb6612928aDoor.H
