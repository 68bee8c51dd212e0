/-
  The channel functions on the road of FnSignalCoalescesUpToWakeRoom, each by a contract.
-/
import Derived.Test.Qxb6613178aRows
import Derived.WalkKit
import Derived.WalkSpells
import Derived.WalkLawsBesides
import Derived.Conc.LoneSelect
import Derived.Conc.LoneSelectN
import Derived.Laws.Rows
import Derived.Laws.Runes
import Derived.Laws.Tables
namespace Go.Proofs.Qxb6613178a.Ch
open Go.Conc Go.RowKit
set_option linter.unusedVariables false

theorem bytes41 : ∃ i, Try.prog.info? 41 = some i ∧ i.bytes = 0 := by
  have h : (Try.prog.info? 41).map (·.bytes) = some 0 := by kernel_rfl
  obtain ⟨i, hi, hb⟩ := Option.map_eq_some_iff.1 h
  exact ⟨i, hi, hb⟩

theorem mk (w : World) (n : Nat) (hn : n ≤ 65536) : (Instr.makeChan 30 (.int .i64 n)).run Try.prog w = .ok (.chan (some w.heap.size)) (w.alloc (.chan n #[] false 0 0 false)) := by
  obtain ⟨i, hi, hb⟩ := bytes41
  simpa using run_makeChan (P := Try.prog) (w := w) Try.underlying30 hi .i64 n (by omega) (by rw [hb]; omega)

theorem bd (w : World) : (Instr.build 41 #[]).run Try.prog w = .ok (.agg #[]) w := run_build w 41 #[] #[] (by kernel_rfl)

theorem newGroup (n : Nat) (hn : n ≤ 65536) (w : World) : Calls Try.prog 9 #[.int .i64 n] w fun e w' => e = .returned (.pointer (some ⟨w.heap.size + 1, 0, none⟩)) ∧ ∃ X : Array Value, w' = (w.alloc (.chan n #[] false 0 0 false)).alloc (.cells X 61) ∧ X[18]? = some (.chan (some w.heap.size)) := by
  have hmk := fun w => mk w n hn
  go_enter Try.func9, Try.ntmps9
  go_wp2
  go_ret
  exact ⟨rfl, _, rfl, rfl⟩

theorem wake (b c : Nat) (w : World) (hcell : w.cell? ⟨b, 18, none⟩ = some (.chan (some c))) : Calls Try.prog 11 #[.pointer (some ⟨b, 0, none⟩)] w fun e w' => e = .returned (.chan (some c)) ∧ w' = w := by
  go_enter Try.func11, Try.ntmps11
  go_wp2
  go_ret
  exact ⟨rfl, rfl⟩

set_option maxRecDepth 100000 in
/-- 'signal' where the wake channel has room: one token more. -/
theorem signal_room (b c cap s r : Nat) (buf : Array Value) (w : World) (hcell : w.cell? ⟨b, 18, none⟩ = some (.chan (some c))) (hch : w.heap[c]? = some (.chan cap buf false s r false)) (hroom : buf.size < cap) :
    Calls Try.prog 13 #[.pointer (some ⟨b, 0, none⟩)] w fun e w' => e = .returned (.tuple #[]) ∧ w' = w.setChan c cap (buf.push (.agg #[])) false (s + 1) r false := by
  refine calls_of_loneTo fun cs => ?_
  have e : Frame.enter Try.prog 13 #[.pointer (some ⟨b, 0, none⟩)] .normal = (base 13).at ⟨#[.pointer (some ⟨b, 0, none⟩), undef, undef, undef, undef, undef, undef, undef, undef, undef], []⟩ [.code (Try.f13.body.getD .skip)] := by
    simp [Frame.enter, Frame.at, Try.func13, base, Try.f13]
  rw [e]
  have hbd := bd
  refine LoneTo.goes (n := 30) ?_
  simp only [Try.f13, Option.getD_some]
  s_c stepG_seq
  s_c stepG_seq
  s_reg
  s_op
  s_op
  s_op
  s_op
  s_c stepG_region_end
  s_reg
  s_op
  s_c stepG_region_end
  s_c stepG_seq
  s_reg
  s_stop
  refine LoneTo.step (step_lone_select_send_room (c := c) (cap := cap) (buf := buf) (s := s) (r := r) (tm := false) (stepG_comm (cases := #[scase c (.agg #[]) (.agg #[])]) (blocking := false) (shape := .select) (w' := w) rfl rfl (by decide) (by simp [go_sem, execOp, scase, Act.eval])) hch hroom) ?_
  rw [Frame.finish_at]
  walk_nrm
  refine LoneTo.goes (n := 20) ?_
  s_op
  s_op
  s_c stepG_region_end
  s_c stepG_block
  s_cond true
  s_c stepG_skip
  s_c stepG_inBlock
  s_c stepG_end
  s_stop
  exact LoneTo.done ⟨.returned (.tuple #[]), _, rfl, ⟨rfl, rfl⟩, rfl, rfl, rfl, rfl, _, Try.func13, by simp [results, Try.f13]⟩

set_option maxRecDepth 100000 in
/-- 'signal' where the wake channel is full: nothing turns. -/
theorem signal_full (b c cap s r : Nat) (buf : Array Value) (w : World) (hcell : w.cell? ⟨b, 18, none⟩ = some (.chan (some c))) (hch : w.heap[c]? = some (.chan cap buf false s r false)) (hfull : cap ≤ buf.size) :
    Calls Try.prog 13 #[.pointer (some ⟨b, 0, none⟩)] w fun e w' => e = .returned (.tuple #[]) ∧ w' = w := by
  refine calls_of_loneTo fun cs => ?_
  have e : Frame.enter Try.prog 13 #[.pointer (some ⟨b, 0, none⟩)] .normal = (base 13).at ⟨#[.pointer (some ⟨b, 0, none⟩), undef, undef, undef, undef, undef, undef, undef, undef, undef], []⟩ [.code (Try.f13.body.getD .skip)] := by
    simp [Frame.enter, Frame.at, Try.func13, base, Try.f13]
  rw [e]
  have hbd := bd
  refine LoneTo.goes (n := 30) ?_
  simp only [Try.f13, Option.getD_some]
  s_c stepG_seq
  s_c stepG_seq
  s_reg
  s_op
  s_op
  s_op
  s_op
  s_c stepG_region_end
  s_reg
  s_op
  s_c stepG_region_end
  s_c stepG_seq
  s_reg
  s_stop
  refine LoneTo.step (step_lone_select_send_full (c := c) (cap := cap) (buf := buf) (s := s) (r := r) (tm := false) (stepG_comm (cases := #[scase c (.agg #[]) (.agg #[])]) (blocking := false) (shape := .select) (w' := w) rfl rfl (by decide) (by simp [go_sem, execOp, scase, Act.eval])) hch hfull) ?_
  rw [Frame.finish_at]
  walk_nrm
  refine LoneTo.goes (n := 20) ?_
  s_op
  s_op
  s_c stepG_region_end
  s_c stepG_block
  s_cond false
  s_c stepG_skip
  s_c stepG_inBlock
  s_c stepG_end
  s_stop
  exact LoneTo.done ⟨.returned (.tuple #[]), _, rfl, ⟨rfl, rfl⟩, rfl, rfl, rfl, rfl, _, Try.func13, by simp [results, Try.f13]⟩

/-- What the world holds between two signals: the group's cell that leads to the channel; the channel, open, with k tokens. -/
def Has (b c cap k : Nat) (w : World) : Prop := w.cell? ⟨b, 18, none⟩ = some (.chan (some c)) ∧ ∃ (buf : Array Value) (s r : Nat), buf.size = k ∧ w.heap[c]? = some (.chan cap buf false s r false)

theorem cell_setChan (w : World) (b c i cap : Nat) (buf : Array Value) (s r : Nat) (h : b ≠ c) : (w.setChan c cap buf false s r false).cell? ⟨b, i, none⟩ = w.cell? ⟨b, i, none⟩ := by
  refine World.cell?_of_block (w := w) ?_
  simp only [World.setChan]
  rw [Array.getElem?_setIfInBounds_ne (fun h' => h h'.symm)]

/-- ZZgroupSignal: one token more, up to the channel's room; of what lies below block B nothing turns. -/
theorem groupSignal (B b c cap k : Nat) (w : World) (hH : Has b c cap k w) (hbc : b ≠ c) (hB : B ≤ c) :
    Calls Try.prog 10 #[.pointer (some ⟨b, 0, none⟩)] w fun e w' => e = .returned (.tuple #[]) ∧ Has b c cap (if k < cap then k + 1 else k) w' ∧ Below B w w' := by
  obtain ⟨hcell, buf, s, r, hk, hch⟩ := hH
  have hc : c < w.heap.size := by
    rcases Nat.lt_or_ge c w.heap.size with h | h
    · exact h
    · rw [Array.getElem?_eq_none h] at hch; cases hch
  by_cases hroom : k < cap
  · have hr : buf.size < cap := by omega
    have HK : Hid (buf.size = k) := hk
    clear hk
    go_enter Try.func10, Try.ntmps10
    go_wp2_with (go_at_call 13; refine (signal_room b c cap s r buf _ hcell hch hr).mono ?_; rintro e w' ⟨rfl, rfl⟩)
    go_end0
    refine ⟨rfl, ?_, below_setChan (Below.refl _ _) hB _ _ _ _ _ _⟩
    exact ⟨(cell_setChan _ _ _ _ _ _ _ _ hbc).trans hcell, _, _, _, by rw [Array.size_push, HK.out], heap_setChan _ _ _ _ _ _ _ _ hc⟩
  · have hf : cap ≤ buf.size := by omega
    have HK : Hid (buf.size = k) := hk
    clear hk
    go_enter Try.func10, Try.ntmps10
    go_wp2_with (go_at_call 13; refine (signal_full b c cap s r buf _ hcell hch hf).mono ?_; rintro e w' ⟨rfl, rfl⟩)
    go_end0
    refine ⟨rfl, ?_, Below.refl _ _⟩
    exact ⟨hcell, _, _, _, HK.out, hch⟩

theorem ret_bool {a b : Bool} (h : a = b) : Ending.returned (.bool a) = .returned (.bool b) := by rw [h]

theorem min_step (j cap : Nat) : (if min j cap < cap then min j cap + 1 else min j cap) = min (j + 1) cap := by
  split <;> omega

set_option maxHeartbeats 400000 in
/-- The law's walk where both numbers lie within their bounds. -/
theorem law_in (n m : Nat) (hn : n ≤ 65536) (hm : m ≤ 65536) (w : World) :
    Calls Try.prog 4 #[.int .i64 n, .int .i64 m] w fun e w' => e = .returned (.bool true) ∧ Below w.heap.size w w' := by
  have l0 : ¬ (65536 : Int) < n := by omega
  have l1 : ¬ (65536 : Int) < m := by omega
  have k0 : ¬ (n : Int) < 0 := by omega
  have k1 : ¬ (m : Int) < 0 := by omega
  go_enter Try.func4, Try.ntmps4
  go_wp2_with fail
  refine (newGroup n hn _).mono ?_
  rintro e w1 ⟨rfl, X, HW, HX⟩
  have hb1 : Below w.heap.size w w1 := by rw [HW]; exact ((Below.refl _ w).alloc (Nat.le_refl _) _).alloc (by simp) _
  have hH1 : Has (w.heap.size + 1) w.heap.size n 0 w1 := by
    rw [HW]
    refine ⟨?_, #[], 0, 0, rfl, ?_⟩
    · rw [World.cell?_alloc_at _ _ _ _ (by simp)]; exact HX
    · rw [Below.heap_alloc _ _ _ (by simp)]; exact heap_alloc_new _ _
  clear HW HX
  go_wp2_with fail
  go_loopw [6] (fun i wr => ∃ j : Nat, j ≤ m ∧ i = .int .i64 j ∧ Has (w.heap.size + 1) w.heap.size n (min j n) wr ∧ Below w.heap.size w wr) (fun i _ => m - (intOf i).toNat)
  case atStart => exact ⟨0, Nat.zero_le _, rfl, by simpa using hH1, hb1⟩
  case round =>
    obtain ⟨j, hj, rfl, hH, hb⟩ := hrel
    by_cases hlt : j < m
    · have hlt' : (j : Int) < m := by omega
      go_wp2_with (go_at_call 10; refine (groupSignal w.heap.size _ _ _ _ _ hH (by omega) (Nat.le_refl _)).mono ?_; rintro e w' ⟨rfl, hH', hb'⟩)
      go_roundw
      case rel => exact ⟨j + 1, by omega, by go_num, by rw [min_step] at hH'; exact hH', hb.trans hb'⟩
      case measure => simp [intOf]; omega
    · obtain rfl : j = m := by omega
      obtain ⟨hcell, buf, s, r, hsz, hch⟩ := hH
      have HZ : Hid (buf.size = min j n) := hsz
      clear hsz
      have hlen := fun ty => run_len_chan (P := Try.prog) 30 ty Try.underlying30 hch
      clear hlt
      by_cases hc : n < j
      · have hc' : (n : Int) < j := by omega
        go_wp2_with fail
        refine (wake _ _ _ hcell).mono ?_
        rintro e w' ⟨rfl, rfl⟩
        clear hch hcell
        go_wp2_with fail
        go_ret
        exact ⟨ret_bool (by have := HZ.out; rw [beq_iff_eq]; omega), hb⟩
      · have hc' : ¬ (n : Int) < j := by omega
        go_wp2_with fail
        refine (wake _ _ _ hcell).mono ?_
        rintro e w' ⟨rfl, rfl⟩
        clear hch hcell
        go_wp2_with fail
        go_ret
        exact ⟨ret_bool (by have := HZ.out; rw [beq_iff_eq]; omega), hb⟩

set_option maxHeartbeats 400000 in
/-- The law's walk. -/
theorem law (a0 a1 : Int) (w : World) :
    Calls Try.prog 4 #[.int .i64 a0, .int .i64 a1] w fun e w' => e = .returned (.bool true) ∧ Below w.heap.size w w' := by
  by_cases h0 : a0 < 0
  · go_enter Try.func4, Try.ntmps4
    go_wp2_with fail
    go_ret
    exact ⟨rfl, Below.refl _ _⟩
  · by_cases h1 : 65536 < a0
    · go_enter Try.func4, Try.ntmps4
      go_wp2_with fail
      go_ret
      exact ⟨rfl, Below.refl _ _⟩
    · by_cases h2 : a1 < 0
      · go_enter Try.func4, Try.ntmps4
        go_wp2_with fail
        go_ret
        exact ⟨rfl, Below.refl _ _⟩
      · by_cases h3 : 65536 < a1
        · go_enter Try.func4, Try.ntmps4
          go_wp2_with fail
          go_ret
          exact ⟨rfl, Below.refl _ _⟩
        · obtain ⟨n, rfl⟩ := Int.eq_ofNat_of_zero_le (by omega : 0 ≤ a0)
          obtain ⟨m, rfl⟩ := Int.eq_ofNat_of_zero_le (by omega : 0 ≤ a1)
          exact law_in n m (by omega) (by omega) w
end Go.Proofs.Qxb6613178a.Ch
