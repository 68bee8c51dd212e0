/-
  The walks: each Go function on the road of FnParserAtSplitsAtAnyCut by a contract.
-/
import Derived.Test.Qxb6614061aRows
import Derived.Test.Qxb6614061aPlain
import Derived.WalkKit
import Derived.WalkSpells
import Derived.WalkLawsBesides
import Derived.Deep.QuietTactic
import Derived.BigQuiet
namespace Go.Proofs.Qxb6614061a.W
open Go.RowKit
set_option linter.unusedVariables false
open Go.Proofs.Qxb6614061a.Plain

set_option maxHeartbeats 400000 in
theorem zzBytes_yes (s a b : ByteArray) (p : Int) (w : World) (h : s.size + a.size + b.size ≤ 1048576) :
    Calls Try.prog 10 #[.string s, .int .i64 p, .string a, .string b] w fun e w' => e = .returned (.bool true) ∧ w' = w := by
  have h1 : ¬ (1048576 : Int) < s.size := by omega
  have h2 : ¬ (1048576 : Int) < a.size := by omega
  have h3 : ¬ (1048576 : Int) < b.size := by omega
  go_enter Try.func10, Try.ntmps10
  go_wp2
  go_ret
  exact ⟨rfl, rfl⟩

set_option maxHeartbeats 400000 in
theorem zzBytes_no (s a b : ByteArray) (p : Int) (w : World) (h : ¬ s.size + a.size + b.size ≤ 1048576) (hs : s.size ≤ maxLen) (ha : a.size ≤ maxLen) (hb : b.size ≤ maxLen) :
    Calls Try.prog 10 #[.string s, .int .i64 p, .string a, .string b] w fun e w' => e = .returned (.bool false) ∧ w' = w := by
  unfold maxLen at hs ha hb
  go_enter Try.func10, Try.ntmps10
  go_wp2
  all_goals
    go_ret
    exact ⟨rfl, rfl⟩

theorem ret_bool {a b : Bool} (h : a = b) : Ending.returned (.bool a) = .returned (.bool b) := by rw [h]

theorem hp_yes (s p : ByteArray) (h : p.size ≤ s.size) : ((s.extract 0 p.size).toList == p.toList) = Go.Lib.hasPrefix s.data.toList p.data.toList := by
  rw [← Go.Lib.hasPrefix_of_take, Go.Lib.extract_toList, Go.Lib.toList_data, Go.Lib.size_eq, List.drop_zero, Nat.sub_zero, decide_eq_true (by rw [← Go.Lib.size_eq, ← Go.Lib.size_eq]; exact h)]
  rfl

theorem hp_no (s p : ByteArray) (h : ¬ p.size ≤ s.size) : false = Go.Lib.hasPrefix s.data.toList p.data.toList := by
  rw [← Go.Lib.hasPrefix_of_take, decide_eq_false (by rw [← Go.Lib.size_eq, ← Go.Lib.size_eq]; exact h)]
  rfl

theorem hasPrefix_any (s p : ByteArray) (w : World) (hs : s.size ≤ maxLen) (hp : p.size ≤ maxLen) :
    Calls Try.prog 19 #[.string s, .string p] w fun e w' => e = .returned (.bool (Go.Lib.hasPrefix s.data.toList p.data.toList)) ∧ w' = w := by
  unfold maxLen at hs hp
  by_cases h : p.size ≤ s.size
  · go_enter Try.func19, Try.ntmps19
    go_wp2
    go_ret
    exact ⟨ret_bool (hp_yes s p h), rfl⟩
  · go_enter Try.func19, Try.ntmps19
    go_wp2
    go_ret
    exact ⟨ret_bool (hp_no s p h), rfl⟩

theorem newParser_any (s : ByteArray) (p : Int) (w : World) :
    Calls Try.prog 11 #[.string s, .int .i64 p] w fun e w' => e = .returned (.pointer (some ⟨w.heap.size, 0, none⟩)) ∧ w' = w.alloc (.cells #[.string s, .int .i64 p, .slice none 0 0, .int .i64 0, .slice none 0 0, .slice none 0 0, .slice none 0 0] 61) := by
  go_enter Try.func11, Try.ntmps11
  go_wp2
  go_ret
  exact ⟨rfl, rfl⟩

theorem at_any (s p : ByteArray) (b : Nat) (k : Nat) (w : World) (hs : s.size ≤ maxLen) (hp : p.size ≤ maxLen) (hk : k ≤ s.size)
    (c0 : w.cell? ⟨b, 0, none⟩ = some (.string s)) (c1 : w.cell? ⟨b, 1, none⟩ = some (.int .i64 k)) :
    Calls Try.prog 12 #[.pointer (some ⟨b, 0, none⟩), .string p] w fun e w' => e = .returned (.bool (preAt s.data.toList k p.data.toList)) ∧ ∃ n, w' = w.drewN n := by
  go_enter Try.func12, Try.ntmps12
  go_wp2
  go_quiet ((go_at_call 19; exact Calls.quiet_of_same (hasPrefix_any _ _ _ (by unfold maxLen at hs ⊢; simp; omega) hp)))
  go_wp2
  go_ret
  exact ⟨ret_bool (by unfold preAt; rw [Go.Lib.extract_data, List.take_of_length_le (by rw [List.length_drop, ← Go.Lib.size_eq]; exact Nat.le_refl _)]), nq, rfl⟩

theorem i64_sum (k j : Nat) (h : k + j ≤ 9223372036854775807) : IntKind.i64.wrap ((k : Int) + (j : Int)) = (k : Int) + (j : Int) := by
  rw [IntKind.wrap_i64]; omega

theorem toNat_sum (k j : Nat) : ((k : Int) + (j : Int)).toNat = k + j := by omega

theorem byte_ne {x y : UInt8} (h : (((x.toNat : Int) != (y.toNat : Int)) = true)) : (y == x) = false := by
  rw [bne_iff_ne] at h
  rw [beq_eq_false_iff_ne]
  intro e
  exact h (by rw [e])

theorem byte_eq {x y : UInt8} (h : ¬ (((x.toNat : Int) != (y.toNat : Int)) = true)) : (y == x) = true := by
  rw [bne_iff_ne, Decidable.not_not] at h
  rw [beq_iff_eq]
  exact UInt8.toNat_inj.1 (by omega)

theorem step_take (s p : ByteArray) (k j : Nat) (hp : j < p.size) (hs : k + j < s.size) (h : preAt s.data.toList k (p.data.toList.take j) = true) :
    preAt s.data.toList k (p.data.toList.take (j + 1)) = (p[j] == s[k + j]) := by
  rw [take_succ_preAt _ _ _ _ (by rw [← Go.Lib.size_eq]; exact hp) (by rw [← Go.Lib.size_eq]; exact hs), h]
  rfl

set_option maxHeartbeats 400000 in
theorem prefixAt_any (s p : ByteArray) (k : Nat) (w : World) (hs : s.size ≤ 1048576) (hp : p.size ≤ 1048576) (hk : k ≤ s.size) :
    Calls Try.prog 13 #[.string s, .int .i64 k, .string p] w fun e w' => e = .returned (.bool (preAt s.data.toList k p.data.toList)) ∧ ∃ n, w' = w.drewN n := by
  by_cases hl : p.size ≤ s.size - k
  · have hl' : ¬ (s.size : Int) - k < p.size := by omega
    go_enter Try.func13, Try.ntmps13
    go_wp2
    go_loopw [7] (fun i wr => ∃ j : Nat, j ≤ p.size ∧ i = .int .i64 j ∧ Hid (preAt s.data.toList k (p.data.toList.take j) = true) ∧ ∃ n, wr = w.drewN n) (fun i _ => p.size - (intOf i).toNat)
    case atStart => exact ⟨0, Nat.zero_le _, rfl, rfl, 0, rfl⟩
    case round =>
      obtain ⟨j, hj, rfl, HT, n, rfl⟩ := hrel
      by_cases hlt : j < p.size
      · have hw := i64_sum k j (by omega)
        have hn := toNat_sum k j
        have hkj : (k : Int) + j < s.size := by omega
        have hkj' : k + j < s.size := by omega
        have hlt' : (j : Int) < p.size := by omega
        have h0 : (0 : Int) ≤ (k : Int) + j := by omega
        have HS : Hid (preAt s.data.toList k (p.data.toList.take (j + 1)) = (p[j] == s[k + j])) := step_take s p k j hlt hkj' HT.out
        go_wp2
        go_quiet (fail)
        by_cases hne : ((s[k + j].toNat : Int) != (p[j].toNat : Int)) = true
        · have HN : Hid ((p[j] == s[k + j]) = false) := byte_ne hne
          go_wp2
          go_ret
          exact ⟨ret_bool (by rw [preAt_of_take_false _ _ (j + 1) _ (HS.out.trans HN.out)]), n + nq, World.drewN_drewN _ _ _⟩
        · have HN : Hid ((p[j] == s[k + j]) = true) := byte_eq hne
          have hne' : ((s[k + j].toNat : Int) != (p[j].toNat : Int)) = false := by simpa using hne
          clear hne
          go_wp2
          go_roundw
          case rel => exact ⟨j + 1, by omega, by go_num, HS.out.trans HN.out, n + nq, by simp⟩
          case measure => simp [intOf]; omega
      · go_wp2
        go_ret
        exact ⟨ret_bool (by rw [← HT.out, List.take_of_length_le (by rw [← Go.Lib.size_eq]; omega)]), n, rfl⟩
  · have hl' : (s.size : Int) - k < p.size := by omega
    go_enter Try.func13, Try.ntmps13
    go_wp2
    go_ret
    exact ⟨ret_bool (by rw [preAt_long _ _ _ (by rw [← Go.Lib.size_eq, ← Go.Lib.size_eq]; omega)]), 0, rfl⟩
end Go.Proofs.Qxb6614061a.W
