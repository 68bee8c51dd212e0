/-
  zzBytes: the bound on the total length: it reads, and its yes bounds every string.
-/
import Derived.Test.Qxb6612928aDoorItoa
namespace Go.Proofs.Qxb6612928aDoor.H
open Go.RowKit Go.Maps
set_option linter.unusedVariables false

set_option maxRecDepth 100000 in
theorem lit156 (a : Act) (hs : a.tmps.size = 156) (hd : a.defers = []) : ∃ f : Nat → Value, a = ⟨#[f 0, f 1, f 2, f 3, f 4, f 5, f 6, f 7, f 8, f 9, f 10, f 11, f 12, f 13, f 14, f 15, f 16, f 17, f 18, f 19, f 20, f 21, f 22, f 23, f 24, f 25, f 26, f 27, f 28, f 29, f 30, f 31, f 32, f 33, f 34, f 35, f 36, f 37, f 38, f 39, f 40, f 41, f 42, f 43, f 44, f 45, f 46, f 47, f 48, f 49, f 50, f 51, f 52, f 53, f 54, f 55, f 56, f 57, f 58, f 59, f 60, f 61, f 62, f 63, f 64, f 65, f 66, f 67, f 68, f 69, f 70, f 71, f 72, f 73, f 74, f 75, f 76, f 77, f 78, f 79, f 80, f 81, f 82, f 83, f 84, f 85, f 86, f 87, f 88, f 89, f 90, f 91, f 92, f 93, f 94, f 95, f 96, f 97, f 98, f 99, f 100, f 101, f 102, f 103, f 104, f 105, f 106, f 107, f 108, f 109, f 110, f 111, f 112, f 113, f 114, f 115, f 116, f 117, f 118, f 119, f 120, f 121, f 122, f 123, f 124, f 125, f 126, f 127, f 128, f 129, f 130, f 131, f 132, f 133, f 134, f 135, f 136, f 137, f 138, f 139, f 140, f 141, f 142, f 143, f 144, f 145, f 146, f 147, f 148, f 149, f 150, f 151, f 152, f 153, f 154, f 155], []⟩ ∧ ∀ i, a.tmps.getD i undef = f i :=
  ⟨fun i => a.tmps.getD i undef, (lit_of 156 a hs hd).trans (by kernel_rfl), fun _ => rfl⟩

/-- The frame at a return with b. -/
def RetB (b : Bool) (a : Act) : Prop := a.defers = [] ∧ a.tmps.getD 16 undef = .bool b

theorem ret_of {fn : Func} {R : Ending → World → Prop} {b : Bool} {a : Act} {w : World} (hfn : fn.results = #[.tmp 16]) (h : RetB b a) (hR : R (.returned (.bool b)) w) : bodyPost Tryd.prog fn R .ret a w := by
  refine bodyPost_ret (v := .bool b) ?_ h.1 hR
  have h2 := h.2
  simp [results, hfn]
  simpa using h2

structure FrZ (a0 a1 a2 a3 a4 a5 a6 a7 : Option Addr) (n0 n1 n2 n3 n4 n5 n6 n7 c0 c1 c2 c3 c4 c5 c6 c7 : Nat) (a : Act) : Prop where
  size : a.tmps.size = 156
  defers : a.defers = []
  s0 : a.tmps.getD 0 undef = .slice a0 n0 c0
  s1 : a.tmps.getD 1 undef = .slice a1 n1 c1
  s2 : a.tmps.getD 2 undef = .slice a2 n2 c2
  s3 : a.tmps.getD 3 undef = .slice a3 n3 c3
  s4 : a.tmps.getD 4 undef = .slice a4 n4 c4
  s5 : a.tmps.getD 5 undef = .slice a5 n5 c5
  s6 : a.tmps.getD 6 undef = .slice a6 n6 c6
  s7 : a.tmps.getD 7 undef = .slice a7 n7 c7

def zbL0 (c : Code) : Code := lC (bC (sB (stm 14 c)))

set_option maxHeartbeats 1000000 in
set_option maxRecDepth 100000 in
theorem zbRound0 {a0 a1 a2 a3 a4 a5 a6 a7 : Option Addr} {n0 n1 n2 n3 n4 n5 n6 n7 c0 c1 c2 c3 c4 c5 c6 c7 : Nat} {a : Act} {w : World} {s : Int} {i : Nat} {S : Nat → ByteArray} (fr : FrZ a0 a1 a2 a3 a4 a5 a6 a7 n0 n1 n2 n3 n4 n5 n6 n7 c0 c1 c2 c3 c4 c5 c6 c7 a) (s17 : a.tmps.getD 17 undef = .int .i64 s) (sx : a.tmps.getD 18 undef = .int .i64 i) (hs0 : 0 ≤ s) (hs1 : s ≤ 1048576) (hn : n3 ≤ 1048576) (hA : Arr w a3 n3 fun j => .string (S j)) (hSz : ∀ j, j < n3 → (S j).size ≤ maxLen) (hi : i ≤ n3) (K : Act → World → Prop) (Q0 : Exit → Act → World → Prop)
    (hR : ∀ a', RetB false a' → Q0 .ret a' w) (hX : ∀ a', i = n3 → FrZ a0 a1 a2 a3 a4 a5 a6 a7 n0 n1 n2 n3 n4 n5 n6 n7 c0 c1 c2 c3 c4 c5 c6 c7 a' → a'.tmps.getD 17 undef = .int .i64 s → Q0 (.exit 0) a' w)
    (hK : ∀ a' s', i < n3 → (S i).size ≤ 1048576 → 0 ≤ s' → s' ≤ 1048576 → FrZ a0 a1 a2 a3 a4 a5 a6 a7 n0 n1 n2 n3 n4 n5 n6 n7 c0 c1 c2 c3 c4 c5 c6 c7 a' → a'.tmps.getD 17 undef = .int .i64 s' → a'.tmps.getD 18 undef = .int .i64 ((i + 1 : Nat) : Int) → K a' w) :
    (zbL0 (Tryd.f4.body.getD .skip)).wp Tryd.prog (Exit.then K Q0) a w := by
  obtain ⟨f, rfl, hf⟩ := lit156 a fr.size fr.defers
  have e0 := (hf 0).symm.trans fr.s0
  have e1 := (hf 1).symm.trans fr.s1
  have e2 := (hf 2).symm.trans fr.s2
  have e3 := (hf 3).symm.trans fr.s3
  have e4 := (hf 4).symm.trans fr.s4
  have e5 := (hf 5).symm.trans fr.s5
  have e6 := (hf 6).symm.trans fr.s6
  have e7 := (hf 7).symm.trans fr.s7
  have e17 := (hf 17).symm.trans s17
  have e18 := (hf 18).symm.trans sx
  clear fr hf s17 sx
  simp only [e0, e1, e2, e3, e4, e5, e6, e7, e17, e18]
  clear e0 e1 e2 e3 e4 e5 e6 e7 e17 e18
  by_cases hlt : i < n3
  · obtain ⟨ad, rfl, hc⟩ := hA (by omega)
    have hcell := hc i hlt
    have hlt' : (i : Int) < n3 := by omega
    have hsz := hSz i hlt
    unfold maxLen at hsz
    by_cases hb : (S i).size ≤ 1048576
    · have hb' : ¬ (1048576 : Int) < (S i).size := by omega
      by_cases ht : s + (S i).size ≤ 1048576
      · have ht' : ¬ (1048576 : Int) < s + (S i).size := by omega
        have HK : ∀ a', FrZ a0 a1 a2 (some ad) a4 a5 a6 a7 n0 n1 n2 n3 n4 n5 n6 n7 c0 c1 c2 c3 c4 c5 c6 c7 a' → a'.tmps.getD 17 undef = .int .i64 (s + (S i).size) → a'.tmps.getD 18 undef = .int .i64 ((i + 1 : Nat) : Int) → K a' w := fun a' => hK a' _ hlt hb (by omega) ht
        clear hR hX hK hc hA hSz
        conv => arg 2; whnf
        go_wp2_with fail
        exact HK _ ⟨rfl, rfl, rfl, rfl, rfl, rfl, rfl, rfl, rfl, rfl⟩ (by first | rfl | go_num) (by first | rfl | go_num)
      · have ht' : (1048576 : Int) < s + (S i).size := by omega
        clear hX hK hc hA hSz
        conv => arg 2; whnf
        go_wp2_with fail
        exact ⟨rfl, rfl⟩
    · have hb' : (1048576 : Int) < (S i).size := by omega
      clear hX hK hc hA hSz
      conv => arg 2; whnf
      go_wp2_with fail
      exact ⟨rfl, rfl⟩
  · obtain rfl : i = n3 := by omega
    have HX : ∀ a', FrZ a0 a1 a2 a3 a4 a5 a6 a7 n0 n1 n2 i n4 n5 n6 n7 c0 c1 c2 c3 c4 c5 c6 c7 a' → a'.tmps.getD 17 undef = .int .i64 s → Q0 (.exit 0) a' w := fun a' => hX a' rfl
    clear hR hX hK hSz
    conv => arg 2; whnf
    go_wp2_with fail
    exact HX _ ⟨rfl, rfl, rfl, rfl, rfl, rfl, rfl, rfl, rfl, rfl⟩ rfl

theorem zbLoop0 {a0 a1 a2 a3 a4 a5 a6 a7 : Option Addr} {n0 n1 n2 n3 n4 n5 n6 n7 c0 c1 c2 c3 c4 c5 c6 c7 : Nat} {a : Act} {w : World} {s : Int} {S : Nat → ByteArray} (fr : FrZ a0 a1 a2 a3 a4 a5 a6 a7 n0 n1 n2 n3 n4 n5 n6 n7 c0 c1 c2 c3 c4 c5 c6 c7 a) (s17 : a.tmps.getD 17 undef = .int .i64 s) (sx : a.tmps.getD 18 undef = .int .i64 ((0 : Nat) : Int)) (hs0 : 0 ≤ s) (hs1 : s ≤ 1048576) (hn : n3 ≤ 1048576) (hA : Arr w a3 n3 fun j => .string (S j)) (hSz : ∀ j, j < n3 → (S j).size ≤ maxLen) (Q0 : Exit → Act → World → Prop)
    (hR : ∀ a', RetB false a' → Q0 .ret a' w) (hX : ∀ a' s', (∀ j, j < n3 → (S j).size ≤ 1048576) → 0 ≤ s' → s' ≤ 1048576 → FrZ a0 a1 a2 a3 a4 a5 a6 a7 n0 n1 n2 n3 n4 n5 n6 n7 c0 c1 c2 c3 c4 c5 c6 c7 a' → a'.tmps.getD 17 undef = .int .i64 s' → Q0 (.exit 0) a' w) :
    (Code.loop (zbL0 (Tryd.f4.body.getD .skip))).wp Tryd.prog Q0 a w := by
  refine wp_loop_ghost (fun z a w' => w' = w ∧ ∃ i s, FrZ a0 a1 a2 a3 a4 a5 a6 a7 n0 n1 n2 n3 n4 n5 n6 n7 c0 c1 c2 c3 c4 c5 c6 c7 a ∧ a.tmps.getD 17 undef = .int .i64 s ∧ a.tmps.getD 18 undef = .int .i64 ((i : Nat) : Int) ∧ 0 ≤ s ∧ s ≤ 1048576 ∧ i ≤ n3 ∧ (∀ j, j < i → (S j).size ≤ 1048576) ∧ n3 - i = z) n3 ⟨rfl, 0, s, fr, s17, sx, hs0, hs1, Nat.zero_le _, fun j hj => by omega, by omega⟩ ?_
  rintro z a w' ⟨rfl, i, s, fr, s17, sx, hs0, hs1, hi, hall, rfl⟩
  exact zbRound0 fr s17 sx hs0 hs1 hn hA hSz hi _ Q0 hR (fun a' hin fr' h17 => hX a' s (by rw [← hin]; exact hall) hs0 hs1 fr' h17) (fun a' s' hlt hb h0 h1 fr' h17 hx => ⟨n3 - (i + 1), by omega, rfl, i + 1, s', fr', h17, hx, h0, h1, hlt, fun j hj => by
    rcases Nat.lt_or_ge j i with h | h
    · exact hall j h
    · obtain rfl : j = i := by omega
      exact hb, rfl⟩)

def zbL1 (c : Code) : Code := lC (bC (sB (stm 21 c)))

set_option maxHeartbeats 1000000 in
set_option maxRecDepth 100000 in
theorem zbRound1 {a0 a1 a2 a3 a4 a5 a6 a7 : Option Addr} {n0 n1 n2 n3 n4 n5 n6 n7 c0 c1 c2 c3 c4 c5 c6 c7 : Nat} {a : Act} {w : World} {s : Int} {i : Nat} {S : Nat → ByteArray} (fr : FrZ a0 a1 a2 a3 a4 a5 a6 a7 n0 n1 n2 n3 n4 n5 n6 n7 c0 c1 c2 c3 c4 c5 c6 c7 a) (s17 : a.tmps.getD 17 undef = .int .i64 s) (sx : a.tmps.getD 19 undef = .int .i64 i) (hs0 : 0 ≤ s) (hs1 : s ≤ 1048576) (hn : n5 ≤ 1048576) (hA : Arr w a5 n5 fun j => .string (S j)) (hSz : ∀ j, j < n5 → (S j).size ≤ maxLen) (hi : i ≤ n5) (K : Act → World → Prop) (Q0 : Exit → Act → World → Prop)
    (hR : ∀ a', RetB false a' → Q0 .ret a' w) (hX : ∀ a', i = n5 → FrZ a0 a1 a2 a3 a4 a5 a6 a7 n0 n1 n2 n3 n4 n5 n6 n7 c0 c1 c2 c3 c4 c5 c6 c7 a' → a'.tmps.getD 17 undef = .int .i64 s → Q0 (.exit 2) a' w)
    (hK : ∀ a' s', i < n5 → (S i).size ≤ 1048576 → 0 ≤ s' → s' ≤ 1048576 → FrZ a0 a1 a2 a3 a4 a5 a6 a7 n0 n1 n2 n3 n4 n5 n6 n7 c0 c1 c2 c3 c4 c5 c6 c7 a' → a'.tmps.getD 17 undef = .int .i64 s' → a'.tmps.getD 19 undef = .int .i64 ((i + 1 : Nat) : Int) → K a' w) :
    (zbL1 (Tryd.f4.body.getD .skip)).wp Tryd.prog (Exit.then K Q0) a w := by
  obtain ⟨f, rfl, hf⟩ := lit156 a fr.size fr.defers
  have e0 := (hf 0).symm.trans fr.s0
  have e1 := (hf 1).symm.trans fr.s1
  have e2 := (hf 2).symm.trans fr.s2
  have e3 := (hf 3).symm.trans fr.s3
  have e4 := (hf 4).symm.trans fr.s4
  have e5 := (hf 5).symm.trans fr.s5
  have e6 := (hf 6).symm.trans fr.s6
  have e7 := (hf 7).symm.trans fr.s7
  have e17 := (hf 17).symm.trans s17
  have e19 := (hf 19).symm.trans sx
  clear fr hf s17 sx
  simp only [e0, e1, e2, e3, e4, e5, e6, e7, e17, e19]
  clear e0 e1 e2 e3 e4 e5 e6 e7 e17 e19
  by_cases hlt : i < n5
  · obtain ⟨ad, rfl, hc⟩ := hA (by omega)
    have hcell := hc i hlt
    have hlt' : (i : Int) < n5 := by omega
    have hsz := hSz i hlt
    unfold maxLen at hsz
    by_cases hb : (S i).size ≤ 1048576
    · have hb' : ¬ (1048576 : Int) < (S i).size := by omega
      by_cases ht : s + (S i).size ≤ 1048576
      · have ht' : ¬ (1048576 : Int) < s + (S i).size := by omega
        have HK : ∀ a', FrZ a0 a1 a2 a3 a4 (some ad) a6 a7 n0 n1 n2 n3 n4 n5 n6 n7 c0 c1 c2 c3 c4 c5 c6 c7 a' → a'.tmps.getD 17 undef = .int .i64 (s + (S i).size) → a'.tmps.getD 19 undef = .int .i64 ((i + 1 : Nat) : Int) → K a' w := fun a' => hK a' _ hlt hb (by omega) ht
        clear hR hX hK hc hA hSz
        conv => arg 2; whnf
        go_wp2_with fail
        exact HK _ ⟨rfl, rfl, rfl, rfl, rfl, rfl, rfl, rfl, rfl, rfl⟩ (by first | rfl | go_num) (by first | rfl | go_num)
      · have ht' : (1048576 : Int) < s + (S i).size := by omega
        clear hX hK hc hA hSz
        conv => arg 2; whnf
        go_wp2_with fail
        exact ⟨rfl, rfl⟩
    · have hb' : (1048576 : Int) < (S i).size := by omega
      clear hX hK hc hA hSz
      conv => arg 2; whnf
      go_wp2_with fail
      exact ⟨rfl, rfl⟩
  · obtain rfl : i = n5 := by omega
    have HX : ∀ a', FrZ a0 a1 a2 a3 a4 a5 a6 a7 n0 n1 n2 n3 n4 i n6 n7 c0 c1 c2 c3 c4 c5 c6 c7 a' → a'.tmps.getD 17 undef = .int .i64 s → Q0 (.exit 2) a' w := fun a' => hX a' rfl
    clear hR hX hK hSz
    conv => arg 2; whnf
    go_wp2_with fail
    exact HX _ ⟨rfl, rfl, rfl, rfl, rfl, rfl, rfl, rfl, rfl, rfl⟩ rfl

theorem zbLoop1 {a0 a1 a2 a3 a4 a5 a6 a7 : Option Addr} {n0 n1 n2 n3 n4 n5 n6 n7 c0 c1 c2 c3 c4 c5 c6 c7 : Nat} {a : Act} {w : World} {s : Int} {S : Nat → ByteArray} (fr : FrZ a0 a1 a2 a3 a4 a5 a6 a7 n0 n1 n2 n3 n4 n5 n6 n7 c0 c1 c2 c3 c4 c5 c6 c7 a) (s17 : a.tmps.getD 17 undef = .int .i64 s) (sx : a.tmps.getD 19 undef = .int .i64 ((0 : Nat) : Int)) (hs0 : 0 ≤ s) (hs1 : s ≤ 1048576) (hn : n5 ≤ 1048576) (hA : Arr w a5 n5 fun j => .string (S j)) (hSz : ∀ j, j < n5 → (S j).size ≤ maxLen) (Q0 : Exit → Act → World → Prop)
    (hR : ∀ a', RetB false a' → Q0 .ret a' w) (hX : ∀ a' s', (∀ j, j < n5 → (S j).size ≤ 1048576) → 0 ≤ s' → s' ≤ 1048576 → FrZ a0 a1 a2 a3 a4 a5 a6 a7 n0 n1 n2 n3 n4 n5 n6 n7 c0 c1 c2 c3 c4 c5 c6 c7 a' → a'.tmps.getD 17 undef = .int .i64 s' → Q0 (.exit 2) a' w) :
    (Code.loop (zbL1 (Tryd.f4.body.getD .skip))).wp Tryd.prog Q0 a w := by
  refine wp_loop_ghost (fun z a w' => w' = w ∧ ∃ i s, FrZ a0 a1 a2 a3 a4 a5 a6 a7 n0 n1 n2 n3 n4 n5 n6 n7 c0 c1 c2 c3 c4 c5 c6 c7 a ∧ a.tmps.getD 17 undef = .int .i64 s ∧ a.tmps.getD 19 undef = .int .i64 ((i : Nat) : Int) ∧ 0 ≤ s ∧ s ≤ 1048576 ∧ i ≤ n5 ∧ (∀ j, j < i → (S j).size ≤ 1048576) ∧ n5 - i = z) n5 ⟨rfl, 0, s, fr, s17, sx, hs0, hs1, Nat.zero_le _, fun j hj => by omega, by omega⟩ ?_
  rintro z a w' ⟨rfl, i, s, fr, s17, sx, hs0, hs1, hi, hall, rfl⟩
  exact zbRound1 fr s17 sx hs0 hs1 hn hA hSz hi _ Q0 hR (fun a' hin fr' h17 => hX a' s (by rw [← hin]; exact hall) hs0 hs1 fr' h17) (fun a' s' hlt hb h0 h1 fr' h17 hx => ⟨n5 - (i + 1), by omega, rfl, i + 1, s', fr', h17, hx, h0, h1, hlt, fun j hj => by
    rcases Nat.lt_or_ge j i with h | h
    · exact hall j h
    · obtain rfl : j = i := by omega
      exact hb, rfl⟩)

def zbL2 (c : Code) : Code := lC (bC (sB (stm 25 c)))

set_option maxHeartbeats 1000000 in
set_option maxRecDepth 100000 in
theorem zbRound2 {a0 a1 a2 a3 a4 a5 a6 a7 : Option Addr} {n0 n1 n2 n3 n4 n5 n6 n7 c0 c1 c2 c3 c4 c5 c6 c7 : Nat} {a : Act} {w : World} {s : Int} {i : Nat} {S : Nat → ByteArray} (fr : FrZ a0 a1 a2 a3 a4 a5 a6 a7 n0 n1 n2 n3 n4 n5 n6 n7 c0 c1 c2 c3 c4 c5 c6 c7 a) (s17 : a.tmps.getD 17 undef = .int .i64 s) (sx : a.tmps.getD 20 undef = .int .i64 i) (hs0 : 0 ≤ s) (hs1 : s ≤ 1048576) (hn : n6 ≤ 1048576) (hA : Arr w a6 n6 fun j => .string (S j)) (hSz : ∀ j, j < n6 → (S j).size ≤ maxLen) (hi : i ≤ n6) (K : Act → World → Prop) (Q0 : Exit → Act → World → Prop)
    (hR : ∀ a', RetB false a' → Q0 .ret a' w) (hX : ∀ a', i = n6 → FrZ a0 a1 a2 a3 a4 a5 a6 a7 n0 n1 n2 n3 n4 n5 n6 n7 c0 c1 c2 c3 c4 c5 c6 c7 a' → a'.tmps.getD 17 undef = .int .i64 s → Q0 (.exit 4) a' w)
    (hK : ∀ a' s', i < n6 → (S i).size ≤ 1048576 → 0 ≤ s' → s' ≤ 1048576 → FrZ a0 a1 a2 a3 a4 a5 a6 a7 n0 n1 n2 n3 n4 n5 n6 n7 c0 c1 c2 c3 c4 c5 c6 c7 a' → a'.tmps.getD 17 undef = .int .i64 s' → a'.tmps.getD 20 undef = .int .i64 ((i + 1 : Nat) : Int) → K a' w) :
    (zbL2 (Tryd.f4.body.getD .skip)).wp Tryd.prog (Exit.then K Q0) a w := by
  obtain ⟨f, rfl, hf⟩ := lit156 a fr.size fr.defers
  have e0 := (hf 0).symm.trans fr.s0
  have e1 := (hf 1).symm.trans fr.s1
  have e2 := (hf 2).symm.trans fr.s2
  have e3 := (hf 3).symm.trans fr.s3
  have e4 := (hf 4).symm.trans fr.s4
  have e5 := (hf 5).symm.trans fr.s5
  have e6 := (hf 6).symm.trans fr.s6
  have e7 := (hf 7).symm.trans fr.s7
  have e17 := (hf 17).symm.trans s17
  have e20 := (hf 20).symm.trans sx
  clear fr hf s17 sx
  simp only [e0, e1, e2, e3, e4, e5, e6, e7, e17, e20]
  clear e0 e1 e2 e3 e4 e5 e6 e7 e17 e20
  by_cases hlt : i < n6
  · obtain ⟨ad, rfl, hc⟩ := hA (by omega)
    have hcell := hc i hlt
    have hlt' : (i : Int) < n6 := by omega
    have hsz := hSz i hlt
    unfold maxLen at hsz
    by_cases hb : (S i).size ≤ 1048576
    · have hb' : ¬ (1048576 : Int) < (S i).size := by omega
      by_cases ht : s + (S i).size ≤ 1048576
      · have ht' : ¬ (1048576 : Int) < s + (S i).size := by omega
        have HK : ∀ a', FrZ a0 a1 a2 a3 a4 a5 (some ad) a7 n0 n1 n2 n3 n4 n5 n6 n7 c0 c1 c2 c3 c4 c5 c6 c7 a' → a'.tmps.getD 17 undef = .int .i64 (s + (S i).size) → a'.tmps.getD 20 undef = .int .i64 ((i + 1 : Nat) : Int) → K a' w := fun a' => hK a' _ hlt hb (by omega) ht
        clear hR hX hK hc hA hSz
        conv => arg 2; whnf
        go_wp2_with fail
        exact HK _ ⟨rfl, rfl, rfl, rfl, rfl, rfl, rfl, rfl, rfl, rfl⟩ (by first | rfl | go_num) (by first | rfl | go_num)
      · have ht' : (1048576 : Int) < s + (S i).size := by omega
        clear hX hK hc hA hSz
        conv => arg 2; whnf
        go_wp2_with fail
        exact ⟨rfl, rfl⟩
    · have hb' : (1048576 : Int) < (S i).size := by omega
      clear hX hK hc hA hSz
      conv => arg 2; whnf
      go_wp2_with fail
      exact ⟨rfl, rfl⟩
  · obtain rfl : i = n6 := by omega
    have HX : ∀ a', FrZ a0 a1 a2 a3 a4 a5 a6 a7 n0 n1 n2 n3 n4 n5 i n7 c0 c1 c2 c3 c4 c5 c6 c7 a' → a'.tmps.getD 17 undef = .int .i64 s → Q0 (.exit 4) a' w := fun a' => hX a' rfl
    clear hR hX hK hSz
    conv => arg 2; whnf
    go_wp2_with fail
    exact HX _ ⟨rfl, rfl, rfl, rfl, rfl, rfl, rfl, rfl, rfl, rfl⟩ rfl

theorem zbLoop2 {a0 a1 a2 a3 a4 a5 a6 a7 : Option Addr} {n0 n1 n2 n3 n4 n5 n6 n7 c0 c1 c2 c3 c4 c5 c6 c7 : Nat} {a : Act} {w : World} {s : Int} {S : Nat → ByteArray} (fr : FrZ a0 a1 a2 a3 a4 a5 a6 a7 n0 n1 n2 n3 n4 n5 n6 n7 c0 c1 c2 c3 c4 c5 c6 c7 a) (s17 : a.tmps.getD 17 undef = .int .i64 s) (sx : a.tmps.getD 20 undef = .int .i64 ((0 : Nat) : Int)) (hs0 : 0 ≤ s) (hs1 : s ≤ 1048576) (hn : n6 ≤ 1048576) (hA : Arr w a6 n6 fun j => .string (S j)) (hSz : ∀ j, j < n6 → (S j).size ≤ maxLen) (Q0 : Exit → Act → World → Prop)
    (hR : ∀ a', RetB false a' → Q0 .ret a' w) (hX : ∀ a' s', (∀ j, j < n6 → (S j).size ≤ 1048576) → 0 ≤ s' → s' ≤ 1048576 → FrZ a0 a1 a2 a3 a4 a5 a6 a7 n0 n1 n2 n3 n4 n5 n6 n7 c0 c1 c2 c3 c4 c5 c6 c7 a' → a'.tmps.getD 17 undef = .int .i64 s' → Q0 (.exit 4) a' w) :
    (Code.loop (zbL2 (Tryd.f4.body.getD .skip))).wp Tryd.prog Q0 a w := by
  refine wp_loop_ghost (fun z a w' => w' = w ∧ ∃ i s, FrZ a0 a1 a2 a3 a4 a5 a6 a7 n0 n1 n2 n3 n4 n5 n6 n7 c0 c1 c2 c3 c4 c5 c6 c7 a ∧ a.tmps.getD 17 undef = .int .i64 s ∧ a.tmps.getD 20 undef = .int .i64 ((i : Nat) : Int) ∧ 0 ≤ s ∧ s ≤ 1048576 ∧ i ≤ n6 ∧ (∀ j, j < i → (S j).size ≤ 1048576) ∧ n6 - i = z) n6 ⟨rfl, 0, s, fr, s17, sx, hs0, hs1, Nat.zero_le _, fun j hj => by omega, by omega⟩ ?_
  rintro z a w' ⟨rfl, i, s, fr, s17, sx, hs0, hs1, hi, hall, rfl⟩
  exact zbRound2 fr s17 sx hs0 hs1 hn hA hSz hi _ Q0 hR (fun a' hin fr' h17 => hX a' s (by rw [← hin]; exact hall) hs0 hs1 fr' h17) (fun a' s' hlt hb h0 h1 fr' h17 hx => ⟨n6 - (i + 1), by omega, rfl, i + 1, s', fr', h17, hx, h0, h1, hlt, fun j hj => by
    rcases Nat.lt_or_ge j i with h | h
    · exact hall j h
    · obtain rfl : j = i := by omega
      exact hb, rfl⟩)

end Go.Proofs.Qxb6612928aDoor.H
