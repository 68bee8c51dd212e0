/-
  zzItoa32: the decimal writer of the model.
-/
import Derived.Test.Qxb6612928aDoorFind
import Derived.Test.Qxb6612928aDoorChH
import Derived.Laws.BytesArg
namespace Go.Proofs.Qxb6612928aDoor.H
open Go.RowKit Go.Maps
set_option linter.unusedVariables false

set_option maxRecDepth 100000 in
theorem lit34 (a : Act) (hs : a.tmps.size = 34) (hd : a.defers = []) : ∃ f : Nat → Value, a = ⟨#[f 0, f 1, f 2, f 3, f 4, f 5, f 6, f 7, f 8, f 9, f 10, f 11, f 12, f 13, f 14, f 15, f 16, f 17, f 18, f 19, f 20, f 21, f 22, f 23, f 24, f 25, f 26, f 27, f 28, f 29, f 30, f 31, f 32, f 33], []⟩ ∧ ∀ i, a.tmps.getD i undef = f i :=
  ⟨fun i => a.tmps.getD i undef, (lit_of 34 a hs hd).trans (by kernel_rfl), fun _ => rfl⟩

def itL (c : Code) : Code := lC (bC (stm 6 c))

/-- The digits written so far lie at the buffer's end. -/
structure Buf (N : Nat) (w0 : World) (L : List UInt8) (w : World) : Prop where
  below : Below N w0 w
  lt : N < w.heap.size
  le : L.length ≤ 12
  has : ∀ k, k < 12 → ∃ u, w.cell? ⟨N, k, none⟩ = some u
  fz : ∀ o, w.frozen? ⟨N, o, none⟩ = false
  at' : ∀ t, t < L.length → w.cell? ⟨N, 12 - L.length + t, none⟩ = some (.int .u8 ((L.getD t 0).toNat : Nat))

theorem Buf.push {N : Nat} {w0 w : World} {L : List UInt8} (h : Buf N w0 L w) (d : UInt8) (hl : L.length < 12) : Buf N w0 (d :: L) (w.setCell ⟨N, 12 - L.length - 1, none⟩ (.int .u8 (d.toNat : Nat))) := by
  refine ⟨h.below.setCell (Nat.le_refl _) _, by simpa using h.lt, by simp; omega, ?_, fun o => by simpa using h.fz o, ?_⟩
  · intro k hk
    by_cases e : k = 12 - L.length - 1
    · subst e
      obtain ⟨u, hu⟩ := h.has _ hk
      exact ⟨_, csame hu⟩
    · obtain ⟨u, hu⟩ := h.has k hk
      exact ⟨u, (cother (by intro e'; apply e; simpa using e'.symm)).trans hu⟩
  · intro t ht
    rcases t with _ | t
    · obtain ⟨u, hu⟩ := h.has (12 - L.length - 1) (by omega)
      have e : 12 - (d :: L).length + 0 = 12 - L.length - 1 := by simp; omega
      rw [e]
      simpa using csame hu
    · have ht' : t < L.length := by simpa using ht
      have e : 12 - (d :: L).length + (t + 1) = 12 - L.length + t := by simp; omega
      rw [e]
      refine (cother ?_).trans ?_
      · intro e'
        have : 12 - L.length - 1 = 12 - L.length + t := congrArg Addr.off e'
        omega
      · simpa using h.at' t ht'

structure KT (N : Nat) (w0 : World) (v0 : Nat) (neg : Bool) (a : Act) (w : World) (v : Nat) (L : List UInt8) : Prop where
  size : a.tmps.size = 34
  defers : a.defers = []
  s3 : a.tmps.getD 3 undef = .int .i64 v
  s4 : a.tmps.getD 4 undef = .bool neg
  s5 : a.tmps.getD 5 undef = .pointer (some ⟨N, 0, none⟩)
  s6 : a.tmps.getD 6 undef = .int .i64 ((12 - L.length : Nat) : Int)
  buf : Buf N w0 L w

theorem byte_dig (v : Nat) : (UInt8.ofNat (48 + v % 10)).toNat = 48 + v % 10 := by
  rw [UInt8.toNat_ofNat']; omega

set_option maxHeartbeats 1000000 in
set_option maxRecDepth 100000 in
theorem itRound {N v0 : Nat} {w0 : World} {neg : Bool} {a : Act} {w : World} {v : Nat} {L : List UInt8} (h : KT N w0 v0 neg a w v L) (hd : Lib.decDigits v0 = Lib.decDigits v ++ L) (hn : Lib.nDigits v + L.length ≤ 10) (hv : v ≤ 2147483648) (K : Act → World → Prop) (Q0 : Exit → Act → World → Prop)
    (hX : ∀ a' w' L', Lib.decDigits v0 = L' → L'.length ≤ 10 → KT N w0 v0 neg a' w' 0 L' → Q0 (.exit 0) a' w')
    (hK : ∀ a' w' v' L', v' < v → Lib.decDigits v0 = Lib.decDigits v' ++ L' → Lib.nDigits v' + L'.length ≤ 10 → KT N w0 v0 neg a' w' v' L' → K a' w') :
    (itL (Tryd.f8.body.getD .skip)).wp Tryd.prog (Exit.then K Q0) a w := by
  obtain ⟨size, defers, s3, s4, s5, s6, buf⟩ := h
  obtain ⟨f, rfl, hf⟩ := lit34 a size defers
  have e3 := (hf 3).symm.trans s3
  have e4 := (hf 4).symm.trans s4
  have e5 := (hf 5).symm.trans s5
  have e6 := (hf 6).symm.trans s6
  clear size defers s3 s4 s5 s6 hf
  simp only [e3, e4, e5, e6]
  clear e3 e4 e5 e6
  have hnp : 1 ≤ Lib.nDigits v := by
    by_cases h10 : v < 10
    · rw [Lib.nDigits_small h10]; omega
    · rw [Lib.nDigits_big h10]; omega
  have hb2 := buf.push (UInt8.ofNat (48 + v % 10)) (by omega)
  rw [byte_dig] at hb2
  obtain ⟨u, hu⟩ := buf.has (12 - L.length - 1) (by omega)
  have hfz := buf.fz (12 - L.length - 1)
  have hr : (v : Int).tmod 10 = ((v % 10 : Nat) : Int) := by rw [Int.tmod_eq_emod_of_nonneg (by omega)]; omega
  have hq : (v : Int).tdiv 10 = ((v / 10 : Nat) : Int) := by rw [Int.tdiv_eq_ediv_of_nonneg (by omega)]; omega
  have hp1 : ((12 - L.length : Nat) : Int) - 1 = ((12 - L.length - 1 : Nat) : Int) := by omega
  have hlen : (UInt8.ofNat (48 + v % 10) :: L).length = L.length + 1 := by simp
  have hcast : ((48 + v % 10 : Nat) : Int) = 48 + (v : Int) % 10 := by omega
  rw [hcast] at hb2
  obtain ⟨p, hpp⟩ : ∃ p, 12 - L.length - 1 = p := ⟨_, rfl⟩
  have hpl : 12 - (UInt8.ofNat (48 + v % 10) :: L).length = p := by rw [hlen]; omega
  rw [hpp] at hb2 hu hfz hp1
  by_cases h10 : v < 10
  · have hz : (v : Int) / 10 = 0 := by omega
    have hD : Lib.decDigits v0 = UInt8.ofNat (48 + v % 10) :: L := by
      rw [hd, Lib.decDigits_one h10, Nat.mod_eq_of_lt h10]; rfl
    have hle : (UInt8.ofNat (48 + v % 10) :: L).length ≤ 10 := by rw [hlen]; omega
    have HX : ∀ a' w', KT N w0 v0 neg a' w' 0 (UInt8.ofNat (48 + v % 10) :: L) → Q0 (.exit 0) a' w' := fun a' w' => hX a' w' _ hD hle
    have HP : Hid (12 - (UInt8.ofNat (48 + v % 10) :: L).length = p) := hpl
    clear hX hK hD hle hlen hpl
    generalize UInt8.ofNat (48 + v % 10) :: L = L' at *
    conv => arg 2; whnf
    go_wp2_with fail
    exact ⟨rfl, rfl, by first | rfl | (simp; omega), rfl, rfl, by rw [HP.out]; rfl, hb2⟩
  · have hz : ¬ (v : Int) / 10 = 0 := by omega
    have hD : Lib.decDigits v0 = Lib.decDigits (v / 10) ++ (UInt8.ofNat (48 + v % 10) :: L) := by
      rw [hd, Lib.decDigits, dif_neg h10, List.append_assoc]; rfl
    have hN : Lib.nDigits (v / 10) + (UInt8.ofNat (48 + v % 10) :: L).length ≤ 10 := by
      rw [Lib.nDigits_big h10] at hn; rw [hlen]; omega
    have HK : ∀ a' w', KT N w0 v0 neg a' w' (v / 10) (UInt8.ofNat (48 + v % 10) :: L) → K a' w' := fun a' w' => hK a' w' _ _ (by omega) hD hN
    have HP : Hid (12 - (UInt8.ofNat (48 + v % 10) :: L).length = p) := hpl
    clear hX hK hD hN hlen hpl
    generalize UInt8.ofNat (48 + v % 10) :: L = L' at *
    conv => arg 2; whnf
    go_wp2_with fail
    exact ⟨rfl, rfl, by first | rfl | (simp; done), rfl, rfl, by rw [HP.out]; rfl, hb2⟩

theorem itLoop {N v0 : Nat} {w0 : World} {neg : Bool} {a : Act} {w : World} {v : Nat} {L : List UInt8} (h : KT N w0 v0 neg a w v L) (hd : Lib.decDigits v0 = Lib.decDigits v ++ L) (hn : Lib.nDigits v + L.length ≤ 10) (hv : v ≤ 2147483648) (Q0 : Exit → Act → World → Prop)
    (hX : ∀ a' w' L', Lib.decDigits v0 = L' → L'.length ≤ 10 → KT N w0 v0 neg a' w' 0 L' → Q0 (.exit 0) a' w') :
    (Code.loop (itL (Tryd.f8.body.getD .skip))).wp Tryd.prog Q0 a w := by
  refine wp_loop_ghost (fun z a w => ∃ v L, KT N w0 v0 neg a w v L ∧ Lib.decDigits v0 = Lib.decDigits v ++ L ∧ Lib.nDigits v + L.length ≤ 10 ∧ v ≤ 2147483648 ∧ v = z) v ⟨v, L, h, hd, hn, hv, rfl⟩ ?_
  rintro z a w ⟨v, L, h, hd, hn, hv, rfl⟩
  exact itRound h hd hn hv _ Q0 hX (fun a' w' v' L' hlt hd' hn' h' => ⟨v', hlt, v', L', h', hd', hn', by omega, rfl⟩)

theorem nDigits_32 {v : Nat} (hv : v ≤ 2147483648) : Lib.nDigits v ≤ 10 := by
  by_cases h : v < 10 ^ 9
  · have : ∀ k v, v < 10 ^ k → Lib.nDigits v ≤ max k 1 := by
      intro k
      induction k with
      | zero => intro v hv; rw [Lib.nDigits_small (by omega)]; omega
      | succ k ih =>
        intro v hv
        by_cases h10 : v < 10
        · rw [Lib.nDigits_small h10]; omega
        · rw [Lib.nDigits_big h10]
          have := ih (v / 10) (by rw [Nat.pow_succ] at hv; omega)
          rcases k with _ | k
          · simp at hv; omega
          · omega
    have := this 9 v h
    omega
  · rw [Lib.nDigits_unique 9 v (by omega) (by omega)]; omega

theorem buf_new (w0 : World) (c : Array Value) (hc : c.size = 12) : Buf w0.heap.size w0 [] (w0.alloc (.cells c 59)) := by
  have hl := heap_alloc_last w0 (.cells c 59)
  refine ⟨(Below.refl _ _).alloc (Nat.le_refl _) _, by simp, by simp, fun k hk => ?_, fun o => ?_, fun t ht => by simp at ht⟩
  · have hk' : k < c.size := by omega
    exact ⟨c[k], cell_of_heap hl (by simp [hk'])⟩
  · unfold World.frozen?; simp only [hl]; simp

/-- The buffer's end, as a string. -/
theorem Buf.conv {N : Nat} {w0 w : World} {L : List UInt8} (h : Buf N w0 L w) (cap : Nat) : (convert 33 9 (.slice (some ⟨N, 12 - L.length, none⟩) L.length cap)).run Tryd.prog w = .ok (.string ⟨L.toArray⟩) w := by
  have := run_convert_bytes_arg (P := Tryd.prog) w 33 5 Tryd.underlying33 Tryd.underlying5 N (12 - L.length) L.length cap (L.map fun d => ((d.toNat : Nat) : Int)) (by simp) (fun i hi => by
    rw [h.at' i hi]
    simp [List.getD, hi]) 9 Tryd.underlying9
  rw [this]
  congr 2
  unfold strOfNums
  congr 1
  simp [Function.comp_def]

set_option maxHeartbeats 1000000 in
set_option maxRecDepth 100000 in
theorem itoa32 (c : Int) (w0 : World) (h0 : -2147483648 ≤ c) (h1 : c ≤ 2147483647) :
    Calls Tryd.prog 8 #[.int .i32 c] w0 fun e w' => e = .returned (.string (dec c)) ∧ Below w0.heap.size w0 w' := by
  by_cases hneg : c < 0
  · have hna : -c = ((c.natAbs : Nat) : Int) := by omega
    have hdec : dec c = ⟨((45 : UInt8) :: Lib.decDigits c.natAbs).toArray⟩ := by unfold dec Lib.itoa; rw [if_pos hneg]
    rw [hdec]
    clear hdec
    have hv0 : c.natAbs ≤ 2147483648 := by omega
    go_enter Tryd.func8, Tryd.ntmps8
    go_wp2_with fail
    refine itLoop (N := w0.heap.size) (w0 := w0) (v0 := c.natAbs) (neg := true) (v := c.natAbs) (L := []) ⟨rfl, rfl, by first | rfl | (rw [← hna]; rfl) | (rw [hna]; rfl), rfl, rfl, rfl, buf_new _ _ rfl⟩ (by simp) (by simpa using nDigits_32 hv0) hv0 _ ?_
    rintro a' w' L' hL hle ⟨size, defers, s3, s4, s5, s6, buf⟩
    obtain ⟨f, rfl, hf⟩ := lit34 a' size defers
    have e3 := (hf 3).symm.trans s3
    have e4 := (hf 4).symm.trans s4
    have e5 := (hf 5).symm.trans s5
    have e6 := (hf 6).symm.trans s6
    clear size defers s3 s4 s5 s6 hf
    simp only [e3, e4, e5, e6]
    clear e3 e4 e5 e6
    subst hL
    have hb2 := buf.push 45 (by omega)
    have hcv := hb2.conv
    obtain ⟨u, hu⟩ := buf.has (12 - (Lib.decDigits c.natAbs).length - 1) (by omega)
    have hfz := buf.fz (12 - (Lib.decDigits c.natAbs).length - 1)
    have hbel := hb2.below
    have hp1 : ((12 - (Lib.decDigits c.natAbs).length : Nat) : Int) - 1 = ((12 - (Lib.decDigits c.natAbs).length - 1 : Nat) : Int) := by omega
    have hl1 : ((45 : UInt8) :: Lib.decDigits c.natAbs).length = 12 - (12 - (Lib.decDigits c.natAbs).length - 1) := by simp; omega
    have hl2 : 12 - ((45 : UInt8) :: Lib.decDigits c.natAbs).length = 12 - (Lib.decDigits c.natAbs).length - 1 := by simp; omega
    rw [hl2, hl1] at hcv
    obtain ⟨p, hpp⟩ : ∃ p, 12 - (Lib.decDigits c.natAbs).length - 1 = p := ⟨_, rfl⟩
    rw [hpp] at hcv hu hfz hbel hp1
    have hp12 : (p : Int) ≤ 12 := by omega
    have hpne : ¬ 12 = p := by omega
    have hplt : (p : Int) < 12 := by omega
    have h45 : ((UInt8.toNat 45 : Nat) : Int) = 45 := rfl
    rw [h45] at hcv hbel
    clear hb2 buf hl1 hl2 hpp
    obtain ⟨R, hR⟩ : ∃ R, ((45 : UInt8) :: Lib.decDigits c.natAbs).toArray = R := ⟨_, rfl⟩
    rw [hR] at hcv
    have HR : Hid (((45 : UInt8) :: Lib.decDigits c.natAbs).toArray = R) := hR
    clear hR
    go_wp2_with fail
    go_ret
    exact ⟨by rw [HR.out]; rfl, hbel⟩
  · have hdec : dec c = ⟨(Lib.decDigits c.toNat).toArray⟩ := by unfold dec Lib.itoa; rw [if_neg hneg]
    obtain ⟨v0, rfl⟩ : ∃ v0 : Nat, c = v0 := ⟨c.toNat, by omega⟩
    rw [hdec]
    clear hdec
    have hv0 : v0 ≤ 2147483648 := by omega
    simp only [Int.toNat_natCast]
    have hna : True := trivial
    go_enter Tryd.func8, Tryd.ntmps8
    go_wp2_with fail
    refine itLoop (N := w0.heap.size) (w0 := w0) (v0 := v0) (neg := false) (v := v0) (L := []) ⟨rfl, rfl, by first | rfl, rfl, rfl, rfl, buf_new _ _ rfl⟩ (by simp) (by simpa using nDigits_32 hv0) hv0 _ ?_
    rintro a' w' L' hL hle ⟨size, defers, s3, s4, s5, s6, buf⟩
    obtain ⟨f, rfl, hf⟩ := lit34 a' size defers
    have e3 := (hf 3).symm.trans s3
    have e4 := (hf 4).symm.trans s4
    have e5 := (hf 5).symm.trans s5
    have e6 := (hf 6).symm.trans s6
    clear size defers s3 s4 s5 s6 hf
    simp only [e3, e4, e5, e6]
    clear e3 e4 e5 e6
    subst hL
    have hcv := buf.conv
    have hbel := buf.below
    have hnp : 1 ≤ (Lib.decDigits v0).length := by
      rw [Lib.decDigits_length]
      by_cases h10 : v0 < 10
      · rw [Lib.nDigits_small h10]; omega
      · rw [Lib.nDigits_big h10]; omega
    obtain ⟨p, hpp⟩ : ∃ p, 12 - (Lib.decDigits v0).length = p := ⟨_, rfl⟩
    have hl1 : (Lib.decDigits v0).length = 12 - p := by omega
    rw [hl1] at hcv
    rw [hpp]
    have hcv' : ∀ cap, (convert 33 9 (.slice (some ⟨w0.heap.size, p, none⟩) (12 - p) cap)).run Tryd.prog w' = .ok (.string ⟨(Lib.decDigits v0).toArray⟩) w' := by
      intro cap
      have := hcv cap
      rwa [show 12 - (12 - p) = p from by omega] at this
    have hp12 : (p : Int) ≤ 12 := by omega
    have hpne : ¬ 12 = p := by omega
    clear buf hl1 hpp hcv hnp hle
    obtain ⟨R, hR⟩ : ∃ R, (Lib.decDigits v0).toArray = R := ⟨_, rfl⟩
    rw [hR] at hcv'
    have HR : Hid ((Lib.decDigits v0).toArray = R) := hR
    clear hR
    go_wp2_with fail
    go_ret
    exact ⟨by rw [HR.out]; rfl, hbel⟩
end Go.Proofs.Qxb6612928aDoor.H
