/-
  The functions on the road of FnCheckpointStreamParsesBackAndIsInjective, each by a contract.
-/
import Derived.Test.Qxb6613178aRows
import Derived.Test.Qxb6613178aCpPlain
import Derived.WalkKit
import Derived.WalkSpells
import Derived.WalkLawsBesides
import Derived.Deep.QuietTactic
import Derived.BigQuiet
namespace Go.Proofs.Qxb6613178a.Cp
open Go.RowKit
open Go.Proofs.Qxb6613178a.CpPlain
set_option linter.unusedVariables false

theorem ret_bool {a b : Bool} (h : a = b) : Ending.returned (.bool a) = .returned (.bool b) := by rw [h]

set_option maxHeartbeats 400000 in
theorem zzBytes_yes (a b c d : ByteArray) (w : World) (h : a.size + b.size + c.size + d.size ≤ 1048576) :
    Calls Try.prog 5 #[.string a, .string b, .string c, .string d] w fun e w' => e = .returned (.bool true) ∧ w' = w := by
  have h1 : ¬ (1048576 : Int) < a.size := by omega
  have h2 : ¬ (1048576 : Int) < b.size := by omega
  have h3 : ¬ (1048576 : Int) < c.size := by omega
  have h4 : ¬ (1048576 : Int) < d.size := by omega
  go_enter Try.func5, Try.ntmps5
  go_wp2
  go_ret
  exact ⟨rfl, rfl⟩

set_option maxHeartbeats 400000 in
theorem zzBytes_no (a b c d : ByteArray) (w : World) (h : ¬ a.size + b.size + c.size + d.size ≤ 1048576) (ha : a.size ≤ maxLen) (hb : b.size ≤ maxLen) (hc : c.size ≤ maxLen) (hd : d.size ≤ maxLen) :
    Calls Try.prog 5 #[.string a, .string b, .string c, .string d] w fun e w' => e = .returned (.bool false) ∧ w' = w := by
  unfold maxLen at ha hb hc hd
  go_enter Try.func5, Try.ntmps5
  go_wp2
  all_goals
    go_ret
    exact ⟨rfl, rfl⟩

theorem byte58 {x : UInt8} : (((x.toNat : Int) == 58) = true) ↔ x = 58 := by
  rw [beq_iff_eq]
  constructor
  · intro h; exact UInt8.toNat_inj.1 (by simpa using (by omega : x.toNat = 58))
  · intro h; rw [h]; rfl

theorem get_some (n : ByteArray) (i : Nat) (h : i < n.size) : n.data.toList[i]? = some n[i] := by
  rw [List.getElem?_eq_getElem (by rw [← Go.Lib.size_eq]; exact h)]; rfl

theorem get_none (n : ByteArray) (i : Nat) (h : n.size ≤ i) : n.data.toList[i]? = none := by
  rw [List.getElem?_eq_none (by rw [← Go.Lib.size_eq]; exact h)]

/-- No "::" among the first j places. -/
def NoneTo (n : List UInt8) (j : Nat) : Prop := ∀ i : Nat, i < j → ¬ (n[i]? = some 58 ∧ n[i + 1]? = some 58)

theorem noneTo_succ {n : List UInt8} {j : Nat} (h : NoneTo n j) (hj : ¬ (n[j]? = some 58 ∧ n[j + 1]? = some 58)) : NoneTo n (j + 1) := by
  intro i hi
  by_cases e : i = j
  · subst e; exact hj
  · exact h i (by omega)

theorem good_of (n : ByteArray) (j : Nat) (h0 : n.data.toList[0]? ≠ some 58) (h : NoneTo n.data.toList j) (hj : n.size ≤ j + 1) : GName n.data.toList := by
  refine ⟨h0, fun i => ?_⟩
  by_cases e : i < j
  · exact h i e
  · rintro ⟨_, h2⟩
    rw [get_none n (i + 1) (by omega)] at h2
    cases h2

set_option maxHeartbeats 400000 in
theorem isName (n : ByteArray) (w : World) (hn : n.size ≤ 65536) :
    Calls Try.prog 6 #[.string n] w fun e w' => (e = .returned (.bool false) ∧ w' = w) ∨ (e = .returned (.bool true) ∧ Hid (GName n.data.toList) ∧ w' = w) := by
  by_cases hz : n.size = 0
  · have hz' : ¬ (0 : Int) < n.size := by omega
    have H : Hid (GName n.data.toList) := good_of n 0 (by rw [get_none n 0 (by omega)]; simp) (fun i hi => by omega) (by omega)
    have hz2 : ((n.size : Int)) = 0 := by omega
    clear hz hz'
    go_enter Try.func6, Try.ntmps6
    go_wp2
    go_loop [3] (fun i => i = .int .i64 0) (fun i => 0)
    case atStart => rfl
    case round =>
      subst hrel
      go_wp2
      go_ret
      exact .inr ⟨rfl, rfl⟩
  · have hz' : (0 : Int) < n.size := by omega
    have hz0 : 0 < n.size := by omega
    clear hz
    by_cases h0 : ((n[0].toNat : Int) == 58) = true
    · go_enter Try.func6, Try.ntmps6
      go_wp2
      go_ret
      exact .inl ⟨rfl, rfl⟩
    · have H0 : Hid (n.data.toList[0]? ≠ some 58) := by
        intro e; rw [get_some n 0 hz0] at e; exact h0 (byte58.2 (by simpa using e))
      have h0' : ((n[0].toNat : Int) == 58) = false := by simpa using h0
      clear h0
      go_enter Try.func6, Try.ntmps6
      go_wp2
      go_loop [3] (fun i => ∃ j : Nat, j ≤ n.size ∧ i = .int .i64 j ∧ Hid (NoneTo n.data.toList j)) (fun i => n.size - (intOf i).toNat)
      case atStart => exact ⟨0, Nat.zero_le _, rfl, fun i hi => by omega⟩
      case round =>
        obtain ⟨j, hj, rfl, HT⟩ := hrel
        by_cases hlt : j + 1 < n.size
        · have hlt' : (j : Int) + 1 < n.size := by omega
          have hj0 : j < n.size := by omega
          have hj1 : (j : Int) < n.size := by omega
          by_cases hA : ((n[j].toNat : Int) == 58) = true
          · by_cases hB : ((n[j + 1].toNat : Int) == 58) = true
            · go_wp2
              go_ret
              exact .inl ⟨rfl, rfl⟩
            · have HN : Hid (NoneTo n.data.toList (j + 1)) := noneTo_succ HT.out (by rw [get_some n (j + 1) hlt]; rintro ⟨_, e⟩; exact hB (byte58.2 (by simpa using e)))
              have hB' : ((n[j + 1].toNat : Int) == 58) = false := by simpa using hB
              clear hB
              go_wp2
              go_round
              case rel => exact ⟨j + 1, by omega, by go_num, HN.out⟩
              case measure => simp [intOf]; omega
          · have HN : Hid (NoneTo n.data.toList (j + 1)) := noneTo_succ HT.out (by rw [get_some n j hj0]; rintro ⟨e, _⟩; exact hA (byte58.2 (by simpa using e)))
            have hA' : ((n[j].toNat : Int) == 58) = false := by simpa using hA
            clear hA
            go_wp2
            go_round
            case rel => exact ⟨j + 1, by omega, by go_num, HN.out⟩
            case measure => simp [intOf]; omega
        · have hlt' : ¬ (j : Int) + 1 < n.size := by omega
          go_wp2
          go_ret
          exact .inr ⟨rfl, good_of n j H0.out HT.out (by omega), rfl⟩

/-- The last "::" of m stands at k. -/
def LastAt (m : List UInt8) (k : Nat) : Prop := m[k]? = some 58 ∧ m[k + 1]? = some 58 ∧ ∀ j : Nat, k < j → ¬ (m[j]? = some 58 ∧ m[j + 1]? = some 58)

/-- What the loop holds in 'at' after j rounds. -/
def AtAfter (m : List UInt8) (k j : Nat) (a : Int) : Prop := (k < j → a = k) ∧ -1 ≤ a ∧ a < j

theorem at_hit {m : List UInt8} {k j : Nat} {a : Int} (hl : LastAt m k) (h : AtAfter m k j a) (hh : m[j]? = some 58 ∧ m[j + 1]? = some 58) : AtAfter m k (j + 1) j := by
  have : ¬ k < j := fun hk => hl.2.2 j hk hh
  exact ⟨fun hk => by omega, by omega, by omega⟩

theorem at_miss {m : List UInt8} {k j : Nat} {a : Int} (hl : LastAt m k) (h : AtAfter m k j a) (hh : ¬ (m[j]? = some 58 ∧ m[j + 1]? = some 58)) : AtAfter m k (j + 1) a := by
  have : k ≠ j := fun e => hh (e ▸ ⟨hl.1, hl.2.1⟩)
  exact ⟨fun hk => h.1 (by omega), h.2.1, by have := h.2.2; omega⟩

theorem at_end {m : List UInt8} {k j : Nat} {a : Int} (h : AtAfter m k j a) (hk : k < j) : a = k := h.1 hk

theorem lastAt_lt {m : ByteArray} {k : Nat} (h : LastAt m.data.toList k) : k + 1 < m.size := by
  rcases Nat.lt_or_ge (k + 1) m.size with h' | h'
  · exact h'
  · have := h.2.1; rw [get_none m (k + 1) h'] at this; cases this

theorem toNat_2 (k : Nat) : ((k : Int) + 2).toNat = k + 2 := by omega
theorem toNat_0 (k : Nat) : ((k : Int)).toNat = k := by omega
theorem i64_2 (k : Nat) (h : k + 2 ≤ 9223372036854775807) : IntKind.i64.wrap ((k : Int) + 2) = (k : Int) + 2 := by
  rw [IntKind.wrap_i64]; omega

set_option maxHeartbeats 1000000 in
theorem split_yes (c m : ByteArray) (k : Nat) (w : World) (hc : 37 ≤ c.size) (hc2 : c.size ≤ 1048576)
    (hp : ((c.extract 0 24).toList == [36, 112, 101, 114, 115, 105, 115, 116, 101, 110, 116, 115, 117, 98, 115, 99, 114, 105, 112, 116, 105, 111, 110, 45]) = true)
    (hq : ((c.extract (c.size - 11) c.size).toList == [45, 99, 104, 101, 99, 107, 112, 111, 105, 110, 116]) = true)
    (hm : c.extract 24 (c.size - 11) = m) (hms : m.size ≤ 1048576) (HL : Hid (LastAt m.data.toList k)) :
    Calls Try.prog 8 #[.string c] w fun e w' => e = .returned (.tuple #[.string (m.extract 0 k), .string (m.extract (k + 2) m.size), .bool true]) ∧ ∃ n, w' = w.drewN n := by
  have hkm := lastAt_lt HL.out
  have h37 : ¬ (c.size : Int) < 37 := by omega
  go_enter Try.func8, Try.ntmps8
  go_wp2
  clear hp hq hm
  go_loop [6, 7] (fun a i => ∃ (j : Nat) (x : Int), j ≤ m.size ∧ i = .int .i64 j ∧ a = .int .i64 x ∧ Hid (AtAfter m.data.toList k j x)) (fun _ i => m.size - (intOf i).toNat)
  case atStart => exact ⟨0, -1, Nat.zero_le _, rfl, rfl, fun h => by omega, by omega, by omega⟩
  case round =>
    obtain ⟨j, x, hj, rfl, rfl, HT⟩ := hrel
    by_cases hlt : j + 1 < m.size
    · have hlt' : (j : Int) + 1 < m.size := by omega
      have hj0 : j < m.size := by omega
      have hj1 : (j : Int) < m.size := by omega
      by_cases hA : ((m[j].toNat : Int) == 58) = true
      · by_cases hB : ((m[j + 1].toNat : Int) == 58) = true
        · have HN : Hid (AtAfter m.data.toList k (j + 1) j) := at_hit HL.out HT.out (by rw [get_some m j hj0, get_some m (j + 1) hlt, byte58.1 hA, byte58.1 hB]; exact ⟨rfl, rfl⟩)
          go_wp2
          go_round
          case rel => exact ⟨j + 1, j, by omega, by go_num, rfl, HN.out⟩
          case measure => simp [intOf]; omega
        · have HN : Hid (AtAfter m.data.toList k (j + 1) x) := at_miss HL.out HT.out (by rw [get_some m (j + 1) hlt]; rintro ⟨_, e⟩; exact hB (byte58.2 (by simpa using e)))
          have hB' : ((m[j + 1].toNat : Int) == 58) = false := by simpa using hB
          clear hB
          go_wp2
          go_round
          case rel => exact ⟨j + 1, x, by omega, by go_num, rfl, HN.out⟩
          case measure => simp [intOf]; omega
      · have HN : Hid (AtAfter m.data.toList k (j + 1) x) := at_miss HL.out HT.out (by rw [get_some m j hj0]; rintro ⟨e, _⟩; exact hA (byte58.2 (by simpa using e)))
        have hA' : ((m[j].toNat : Int) == 58) = false := by simpa using hA
        clear hA
        go_wp2
        go_round
        case rel => exact ⟨j + 1, x, by omega, by go_num, rfl, HN.out⟩
        case measure => simp [intOf]; omega
    · have hlt' : ¬ (j : Int) + 1 < m.size := by omega
      obtain rfl : x = k := at_end HT.out (by omega)
      have hw := i64_2 k (by omega)
      have hn := toNat_2 k
      have hb1 : (k : Int) + 2 ≤ m.size := by omega
      have hb2 : (k : Int) ≤ m.size := by omega
      have hb3 : k + 2 ≤ m.size := by omega
      have hb4 : (0 : Int) ≤ (k : Int) + 2 := by omega
      go_wp2
      go_quiet (fail)
      go_wp2
      go_ret3
      exact ⟨rfl, nq, rfl⟩

/-- The checkpoint stream's name, as the Go text lays it together. -/
def mkc (s n : ByteArray) : ByteArray := { data := #[36, 112, 101, 114, 115, 105, 115, 116, 101, 110, 116, 115, 117, 98, 115, 99, 114, 105, 112, 116, 105, 111, 110, 45] } ++ s ++ { data := #[58, 58] } ++ n ++ { data := #[45, 99, 104, 101, 99, 107, 112, 111, 105, 110, 116] }

theorem checkpoint_any (s n : ByteArray) (w : World) (hs : s.size ≤ 65536) (hn : n.size ≤ 65536) :
    Calls Try.prog 7 #[.string s, .string n] w fun e w' => e = .returned (.string (mkc s n)) ∧ w' = w := by
  go_enter Try.func7, Try.ntmps7
  go_wp2
  go_ret
  exact ⟨rfl, rfl⟩

theorem mkc_list (s n : ByteArray) : (mkc s n).data.toList = [36, 112, 101, 114, 115, 105, 115, 116, 101, 110, 116, 115, 117, 98, 115, 99, 114, 105, 112, 116, 105, 111, 110, 45] ++ (mid s.data.toList n.data.toList ++ [45, 99, 104, 101, 99, 107, 112, 111, 105, 110, 116]) := by
  unfold mkc mid
  simp

theorem mkc_size (s n : ByteArray) : (mkc s n).size = 37 + s.size + n.size := by
  rw [Go.Lib.size_eq, mkc_list, List.length_append, List.length_append, mid_len, ← Go.Lib.size_eq, ← Go.Lib.size_eq]
  simp; omega

theorem mkc_head (s n : ByteArray) : (((mkc s n).extract 0 24).toList == [36, 112, 101, 114, 115, 105, 115, 116, 101, 110, 116, 115, 117, 98, 115, 99, 114, 105, 112, 116, 105, 111, 110, 45]) = true := by
  rw [Go.Lib.extract_toList, mkc_list]
  simp

theorem mkc_tail (s n : ByteArray) : (((mkc s n).extract ((mkc s n).size - 11) (mkc s n).size).toList == [45, 99, 104, 101, 99, 107, 112, 111, 105, 110, 116]) = true := by
  rw [Go.Lib.extract_toList, mkc_list, mkc_size, show 37 + s.size + n.size - (37 + s.size + n.size - 11) = 11 from by omega, ← List.append_assoc, List.drop_left' (by rw [List.length_append, mid_len, ← Go.Lib.size_eq, ← Go.Lib.size_eq]; simp; omega)]
  rfl

/-- What stands between. -/
def mbar (s n : ByteArray) : ByteArray := ⟨(mid s.data.toList n.data.toList).toArray⟩

theorem mbar_list (s n : ByteArray) : (mbar s n).data.toList = mid s.data.toList n.data.toList := rfl

theorem mbar_size (s n : ByteArray) : (mbar s n).size = s.size + 2 + n.size := by
  rw [Go.Lib.size_eq, mbar_list, mid_len, ← Go.Lib.size_eq, ← Go.Lib.size_eq]

theorem mkc_mid (s n : ByteArray) : (mkc s n).extract 24 ((mkc s n).size - 11) = mbar s n := by
  rw [Go.Lib.extract_eq, mkc_list, mkc_size, List.drop_left' (by simp), List.take_left' (by rw [mid_len, ← Go.Lib.size_eq, ← Go.Lib.size_eq]; omega)]
  rfl

theorem mbar_last (s n : ByteArray) (h : GName n.data.toList) : LastAt (mbar s n).data.toList s.size := by
  rw [mbar_list, Go.Lib.size_eq]
  exact ⟨(mid_at _ _).1, (mid_at _ _).2, fun j hj => mid_last _ _ h j hj⟩

theorem mbar_left (s n : ByteArray) : (mbar s n).extract 0 s.size = s := by
  rw [Go.Lib.extract_eq, mbar_list, List.drop_zero, Nat.sub_zero, Go.Lib.size_eq, mid_take, Go.Lib.mk_data]

theorem mbar_right (s n : ByteArray) : (mbar s n).extract (s.size + 2) (mbar s n).size = n := by
  rw [Go.Lib.extract_eq, mbar_list, mbar_size, show s.size + 2 = s.data.toList.length + 2 from by rw [← Go.Lib.size_eq], mid_drop, List.take_of_length_le (by rw [← Go.Lib.size_eq, ← Go.Lib.size_eq]; omega), Go.Lib.mk_data]

theorem split_mkc (s n : ByteArray) (w : World) (hs : s.size ≤ 65536) (hn : n.size ≤ 65536) (hg : GName n.data.toList) :
    Calls Try.prog 8 #[.string (mkc s n)] w fun e w' => e = .returned (.tuple #[.string s, .string n, .bool true]) ∧ ∃ k, w' = w.drewN k := by
  have h := split_yes (mkc s n) (mbar s n) s.size w (by rw [mkc_size]; omega) (by rw [mkc_size]; omega) (mkc_head s n) (mkc_tail s n) (mkc_mid s n) (by rw [mbar_size]; omega) (mbar_last s n hg)
  rw [mbar_left, mbar_right] at h
  exact h

theorem mkc_inj (s n s' n' : ByteArray) (hg : GName n.data.toList) (hg' : GName n'.data.toList) : ((mkc s n).toList == (mkc s' n').toList) = ((s.toList == s'.toList) && (n.toList == n'.toList)) := by
  simp only [Go.Lib.toList_data]
  rw [Bool.eq_iff_iff, Bool.and_eq_true, beq_iff_eq, beq_iff_eq, beq_iff_eq, mkc_list, mkc_list]
  constructor
  · intro h
    exact mid_inj _ _ _ _ hg hg' (wrap_inj _ _ _ _ h)
  · rintro ⟨e1, e2⟩
    rw [e1, e2]
end Go.Proofs.Qxb6613178a.Cp
