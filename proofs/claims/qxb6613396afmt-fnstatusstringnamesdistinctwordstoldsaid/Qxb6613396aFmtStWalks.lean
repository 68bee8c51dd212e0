/-
  The walks on the road of FnStatusStringNamesDistinctWords: each Go function by a contract. fmt is not come to.
-/
import Derived.Test.Qxb6613396aFmtRows
import Derived.WalkKit
import Derived.WalkSpells
import Derived.WalkLawsBesides
namespace Go.Proofs.Qxb6613396aFmt.St
open Go.RowKit
set_option linter.unusedVariables false

theorem ret_bool {a b : Bool} (h : a = b) : Ending.returned (.bool a) = .returned (.bool b) := by rw [h]

/-- One or more words of lower-case letters, each pair parted by one blank: byte by byte. -/
structure Words (s : ByteArray) : Prop where
  pos : 0 < s.size
  first : ((s[0]'pos).toNat : Int) ≠ 32
  last : ((s[s.size - 1]'(by omega)).toNat : Int) ≠ 32
  blank : ∀ (i : Nat) (h : i + 1 < s.size), (s[i + 1].toNat : Int) = 32 → ((s[i]'(by omega)).toNat : Int) ≠ 32
  letter : ∀ (i : Nat) (h : i < s.size), (s[i].toNat : Int) ≠ 32 → 97 ≤ (s[i].toNat : Int) ∧ (s[i].toNat : Int) ≤ 122

set_option maxHeartbeats 400000 in
theorem isWords_yes (s : ByteArray) (w : World) (hs : s.size ≤ 1000) (hw : Words s) :
    Calls Tryf.prog 5 #[.string s] w fun e w' => e = .returned (.bool true) ∧ w' = w := by
  have pos := hw.pos
  have first := hw.first
  have last := hw.last
  have z0 : ((s.size : Int) == 0) = false := beq_eq_false_iff_ne.2 (by omega)
  have z1 : (((s[0]'pos).toNat : Int) == 32) = false := by simpa using first
  have z2 : (((s[s.size - 1]'(by omega)).toNat : Int) == 32) = false := by simpa using last
  have z3 : ((s.size : Int) - 1).toNat = s.size - 1 := by omega
  have z4 : (0 : Int) < s.size := by omega
  clear first last
  go_enter Tryf.func5, Tryf.ntmps5
  go_wp2
  go_loop [3, 4] (fun i c => ∃ j : Nat, j ≤ s.size ∧ i = .int .i64 j) (fun i _ => s.size - (intOf i).toNat)
  case atStart => exact ⟨0, Nat.zero_le _, rfl⟩
  case round =>
    obtain ⟨j, hj, rfl⟩ := hrel
    by_cases hlt : j < s.size
    · have hlt' : (j : Int) < s.size := by omega
      by_cases hA : ((s[j].toNat : Int) == 32) = true
      · have hj0 : j ≠ 0 := by
          intro e; subst e; rw [z1] at hA; cases hA
        obtain ⟨k, rfl⟩ : ∃ k, j = k + 1 := ⟨j - 1, by omega⟩
        have hk : k < s.size := by omega
        have hB : (((s[k]'hk).toNat : Int) == 32) = false := by
          have := hw.blank k hlt (by simpa using hA)
          simpa using this
        have hn : ((k : Int) + 1 - 1).toNat = k := by omega
        have hk1 : (k : Int) + 1 - 1 < s.size := by omega
        have hk0 : (0 : Int) ≤ (k : Int) + 1 - 1 := by omega
        clear hj0
        go_wp2
        go_round
        case rel => exact ⟨k + 1 + 1, by omega, by go_num⟩
        case measure => simp [intOf]; omega
      · have hl := hw.letter j hlt (by simpa using hA)
        have hA' : ((s[j].toNat : Int) == 32) = false := by simpa using hA
        have l1 : ¬ (s[j].toNat : Int) < 97 := by omega
        have l2 : ¬ (122 : Int) < (s[j].toNat : Int) := by omega
        clear hA hl
        go_wp2
        go_round
        case rel => exact ⟨j + 1, by omega, by go_num⟩
        case measure => simp [intOf]; omega
    · go_wp2
      go_ret
      exact ⟨rfl, rfl⟩

/-- The nine names, as the row lists them. -/
def names : List (List UInt8) := [[110, 111, 32, 116, 114, 97, 110, 115, 97, 99, 116, 105, 111, 110], [97, 99, 116, 105, 118, 101], [109, 97, 114, 107, 101, 100, 32, 114, 111, 108, 108, 98, 97, 99, 107], [112, 114, 101, 112, 97, 114, 105, 110, 103], [112, 114, 101, 112, 97, 114, 101, 100], [99, 111, 109, 109, 105, 116, 116, 105, 110, 103], [114, 111, 108, 108, 105, 110, 103, 32, 98, 97, 99, 107], [99, 111, 109, 109, 105, 116, 116, 101, 100], [114, 111, 108, 108, 101, 100, 32, 98, 97, 99, 107]]

def nameB (i : Nat) : ByteArray := ⟨(names.getD i []).toArray⟩

theorem string_any (k : Nat) (hk : k < 9) (w : World) (hc : w.cell? ⟨0, k, none⟩ = some (.string (nameB k))) :
    Calls Tryf.prog 4 #[.int .i64 k] w fun e w' => e = .returned (.string (nameB k)) ∧ w' = w := by
  have hk' : ¬ (9 : Int) ≤ k := by omega
  go_enter Tryf.func4, Tryf.ntmps4
  go_wp2
  go_ret
  exact ⟨rfl, rfl⟩

/-- Every name is made of words. -/
theorem names_words : ∀ k : Fin 9, Words (nameB k.val) := by
  have hp : ∀ k : Fin 9, 0 < (nameB k.val).size := by decide +kernel
  have hf : ∀ k : Fin 9, (((nameB k.val).get! 0).toNat : Int) ≠ 32 := by decide +kernel
  have hl : ∀ k : Fin 9, (((nameB k.val).get! ((nameB k.val).size - 1)).toNat : Int) ≠ 32 := by decide +kernel
  have hb : ∀ k : Fin 9, ∀ i : Nat, i < (nameB k.val).size - 1 → (((nameB k.val).get! (i + 1)).toNat : Int) = 32 → (((nameB k.val).get! i).toNat : Int) ≠ 32 := by decide +kernel
  have hc : ∀ k : Fin 9, ∀ i : Nat, i < (nameB k.val).size → (((nameB k.val).get! i).toNat : Int) ≠ 32 → 97 ≤ (((nameB k.val).get! i).toNat : Int) ∧ (((nameB k.val).get! i).toNat : Int) ≤ 122 := by decide +kernel
  have hg : ∀ (s : ByteArray) (i : Nat) (h : i < s.size), s.get! i = s[i] := by
    intro s i h
    obtain ⟨a⟩ := s
    exact getElem!_pos a i h
  intro k
  refine ⟨hp k, ?_, ?_, fun i h => ?_, fun i h => ?_⟩
  · rw [← hg]; exact hf k
  · rw [← hg]; exact hl k
  · rw [← hg, ← hg]; exact hb k i (by omega)
  · rw [← hg]; exact hc k i h

theorem names_small : ∀ k : Fin 9, (nameB k.val).size ≤ 1000 := by decide +kernel

theorem names_apart : ∀ k m : Fin 9, ((nameB k.val).data.toList == (nameB m.val).data.toList) = ((k.val : Int) == (m.val : Int)) := by decide +kernel

theorem fin_law (k m : Nat) (hk : k < 9) (hm : m < 9) : ((((k : Int) == (m : Int)) == ((nameB k).toList == (nameB m).toList)) = true) := by
  have := names_apart ⟨k, hk⟩ ⟨m, hm⟩
  rw [ByteArray.toList_eq, ByteArray.toList_eq, this]
  simp

set_option maxHeartbeats 400000 in
theorem law_in (k m : Nat) (hk : k < 9) (hm : m < 9) (w : World) (hc : w.cell? ⟨0, k, none⟩ = some (.string (nameB k))) (hd : w.cell? ⟨0, m, none⟩ = some (.string (nameB m))) :
    Calls Tryf.prog 3 #[.int .i64 k, .int .i64 m] w fun e w' => e = .returned (.bool true) ∧ w' = w := by
  have k1 : ¬ (8 : Int) < k := by omega
  have m1 : ¬ (8 : Int) < m := by omega
  have k0 : ¬ (k : Int) < 0 := by omega
  have m0 : ¬ (m : Int) < 0 := by omega
  have HF := fin_law k m hk hm
  go_enter Tryf.func3, Tryf.ntmps3
  go_wp2_with fail
  refine (string_any k hk _ hc).mono ?_
  rintro e w1 ⟨rfl, rfl⟩
  go_wp2_with fail
  refine (string_any m hm _ hd).mono ?_
  rintro e w1 ⟨rfl, rfl⟩
  go_wp2_with fail
  refine (isWords_yes (nameB k) _ (names_small ⟨k, hk⟩) (names_words ⟨k, hk⟩)).mono ?_
  rintro e w1 ⟨rfl, rfl⟩
  go_wp2_with fail
  refine (isWords_yes (nameB m) _ (names_small ⟨m, hm⟩) (names_words ⟨m, hm⟩)).mono ?_
  rintro e w1 ⟨rfl, rfl⟩
  go_wp2_with fail
  go_ret
  exact ⟨rfl, rfl⟩

set_option maxHeartbeats 400000 in
theorem law (a b : Int) (w : World) (hc : ∀ i : Nat, i < 9 → w.cell? ⟨0, i, none⟩ = some (.string (nameB i))) :
    Calls Tryf.prog 3 #[.int .i64 a, .int .i64 b] w fun e w' => e = .returned (.bool true) ∧ w' = w := by
  by_cases h0 : a < 0
  · clear hc
    go_enter Tryf.func3, Tryf.ntmps3
    go_wp2_with fail
    go_ret
    exact ⟨rfl, rfl⟩
  · by_cases h1 : 8 < a
    · clear hc
      go_enter Tryf.func3, Tryf.ntmps3
      go_wp2_with fail
      go_ret
      exact ⟨rfl, rfl⟩
    · by_cases h2 : b < 0
      · clear hc
        go_enter Tryf.func3, Tryf.ntmps3
        go_wp2_with fail
        go_ret
        exact ⟨rfl, rfl⟩
      · by_cases h3 : 8 < b
        · clear hc
          go_enter Tryf.func3, Tryf.ntmps3
          go_wp2_with fail
          go_ret
          exact ⟨rfl, rfl⟩
        · obtain ⟨k, rfl⟩ := Int.eq_ofNat_of_zero_le (by omega : 0 ≤ a)
          obtain ⟨m, rfl⟩ := Int.eq_ofNat_of_zero_le (by omega : 0 ≤ b)
          exact law_in k m (by omega) (by omega) w (hc k (by omega)) (hc m (by omega))
end Go.Proofs.Qxb6613396aFmt.St
