/-
  zzSame at two configurations that read the same; the thin wrappers.
-/
import Derived.Test.Qxb6001112aCompl
import Derived.Test.Qxb6001112aStatM
namespace Go.Proofs.Qxb6001112a
open Go.RowKit

/-- A new block, at the call's own bound. -/
theorem bnew {w wr : World} (h : Below w.heap.size w wr) (o : Obj) : Below w.heap.size w (wr.alloc o) := h.alloc h.size o

set_option maxRecDepth 100000 in
set_option maxHeartbeats 1600000 in
theorem same_any (a b : Option Addr) (n ca cb : Nat) (l : List Mem) (w : World) (ha : LiesM w a l) (hb : LiesM w b l) (hn : n = l.length) (hb6 : n ≤ 65536) :
    Calls Try.prog 19 #[.slice a n ca, .slice b n cb] w fun e w' => e = .returned (.bool true) ∧ Below w.heap.size w w' := by
  have HN : Hid (n = l.length) := hn
  clear hn
  go_enter Try.func19, Try.ntmps19
  go_wp2
  go_loopw [5] (fun i wr => ∃ (k : Nat), k ≤ n ∧ i = .int .i64 k ∧ Below w.heap.size w wr) (fun i _ => n - (intOf i).toNat)
  case atStart => exact ⟨0, Nat.zero_le _, rfl, Below.refl _ _⟩
  case round =>
    obtain ⟨k, hk, rfl, hbel⟩ := hrel
    by_cases hlt : k < n
    · obtain ⟨g, i, s, p, e0, hm, hc0, hc1, hc2, hg⟩ := ha.at (k := k) (by have := HN.out; omega)
      obtain ⟨g', i', s', p', e0', hm', hc0', hc1', hc2', hg'⟩ := hb.at (k := k) (by have := HN.out; omega)
      subst e0 e0'
      rw [hm] at hm'
      simp only [Option.some.injEq, Mem.mk.injEq] at hm'
      obtain ⟨rfl, rfl, rfl⟩ := hm'
      have r0 := (hbel.cell (by exact hg)).trans hc0
      have r1 := (hbel.cell (by exact hg)).trans hc1
      have r2 := (hbel.cell (by exact hg)).trans hc2
      have q0 := (hbel.cell (by exact hg')).trans hc0'
      have q1 := (hbel.cell (by exact hg')).trans hc1'
      have q2 := (hbel.cell (by exact hg')).trans hc2'
      have hsz := hbel.size
      clear hm ha hb hc0 hc1 hc2 hc0' hc1' hc2'
      have z0 : (0 : Int) ≤ (k : Int) := by omega
      have z1 : (k : Int) < (n : Int) := by omega
      have y0 : g < wr.heap.size := by omega
      have y1 : g' < wr.heap.size := by omega
      go_wp2
      go_quiet (fail)
      go_wp2_with fail
      go_region_held3 (fun w' => w'.cell? ⟨g, k * 3, none⟩ = some (.int .u64 i) ∧ w'.cell? ⟨g, k * 3 + 1, none⟩ = some (.string s) ∧ w'.cell? ⟨g, k * 3 + 2, none⟩ = some (.int .u8 p) ∧ w'.cell? ⟨g', k * 3, none⟩ = some (.int .u64 i) ∧ w'.cell? ⟨g', k * 3 + 1, none⟩ = some (.string s) ∧ w'.cell? ⟨g', k * 3 + 2, none⟩ = some (.int .u8 p))
        (go_keep) ((go_at_call 24; refine (partOf_any _ _ _ _).mono ?_; rintro e w' ⟨rfl, rfl⟩))
      all_goals go_wp2
      all_goals
        go_roundw
        case rel => exact ⟨k + 1, by omega, by go_num, bnew (bnew (below_drewN hbel _) _) _⟩
        case measure => simp [intOf]; omega
    · go_wp2
      go_ret
      exact ⟨rfl, hbel⟩

set_option maxHeartbeats 400000 in
theorem zzConf_any (ao : Option Addr) (n cap : Nat) (ss : List St) (w : World) (hl : LiesS w ao ss) (hn : n = ss.length) (hb : n ≤ 65536) :
    Calls Try.prog 17 #[.slice ao n cap] w fun e w' => ∃ ao' cap', e = .returned (.slice ao' n cap') ∧ LiesM w' ao' (ss.map memOf) ∧ Below w.heap.size w w' := by
  have H : Hid (Calls Try.prog 29 #[.slice ao n cap] w fun e w' => ∃ ao' cap', e = .returned (.slice ao' n cap') ∧ LiesM w' ao' (ss.map memOf) ∧ Below w.heap.size w w') := conf_any ao n cap ss w hl hn hb
  clear hl hn hb
  go_enter Try.func17, Try.ntmps17
  go_wp2_with fail
  refine (H.out).mono ?_
  rintro e w' ⟨ao', cap', rfl, h1, h2⟩
  go_wp2
  go_ret
  exact ⟨_, _, rfl, h1, h2⟩

set_option maxHeartbeats 400000 in
theorem zzCompl_any (ao : Option Addr) (n cap : Nat) (l : List Mem) (w : World) (hl : LiesM w ao l) (hn : n = l.length) (hb : n ≤ 65536) :
    Calls Try.prog 26 #[.slice ao n cap] w fun e w' => ∃ ao' m cap', e = .returned (.slice ao' m cap') ∧ m = (compl l).length ∧ LiesM w' ao' (compl l) ∧ Below w.heap.size w w' := by
  have H : Hid (Calls Try.prog 31 #[.slice ao n cap] w fun e w' => ∃ ao' m cap', e = .returned (.slice ao' m cap') ∧ m = (compl l).length ∧ LiesM w' ao' (compl l) ∧ Below w.heap.size w w') := compl_any ao n cap l w hl hn hb
  clear hl hn hb
  go_enter Try.func26, Try.ntmps26
  go_wp2_with fail
  refine (H.out).mono ?_
  rintro e w' ⟨ao', m, cap', rfl, h1, h2, h3⟩
  have H1 : Hid (m = (compl l).length) := h1
  clear h1
  go_wp2
  go_ret
  exact ⟨_, _, _, rfl, H1.out, h2, h3⟩

set_option maxHeartbeats 400000 in
theorem zzStats_nil (ao : Option Addr) (n cap : Nat) (index : Int) (l : List Mem) (w : World) (hl : LiesM w ao l) (hn : n = l.length) (hb : n ≤ 65536) :
    Calls Try.prog 18 #[.slice ao n cap, .int .u64 index, .slice none 0 0] w fun e w' => ∃ ao' cap' ss, e = .returned (.slice ao' n cap') ∧ LiesS w' ao' ss ∧ Reports (jointB l) index l ss ∧ (∀ s ∈ ss, s.mt = none) ∧ Below w.heap.size w w' := by
  have H : Hid (Calls Try.prog 30 #[.slice ao n cap, .int .u64 index, .slice none 0 0] w fun e w' => ∃ ao' cap' ss, e = .returned (.slice ao' n cap') ∧ LiesS w' ao' ss ∧ Reports (jointB l) index l ss ∧ (∀ s ∈ ss, s.mt = none) ∧ Below w.heap.size w w') := stats_nil ao n cap index l w hl hn hb
  clear hl hn hb
  go_enter Try.func18, Try.ntmps18
  go_wp2_with fail
  refine (H.out).mono ?_
  rintro e w' ⟨ao', cap', ss, rfl, h1, h2, h3, h4⟩
  have H2 : Hid (Reports (jointB l) index l ss ∧ (∀ s ∈ ss, s.mt = none)) := ⟨h2, h3⟩
  clear h2 h3
  go_wp2
  go_ret
  exact ⟨_, _, _, rfl, h1, H2.out.1, H2.out.2, h4⟩

set_option maxHeartbeats 400000 in
theorem zzStats_match (ao : Option Addr) (n cap : Nat) (index : Int) (am : Addr) (nm cm : Nat) (fm : Nat → Int) (l : List Mem) (w : World) (hl : LiesM w ao l) (hn : n = l.length) (hb : n ≤ 65536)
    (hm : Lies w (some am) nm (fun i => .int .u64 (fm i))) (hnm : n ≤ nm) :
    Calls Try.prog 18 #[.slice ao n cap, .int .u64 index, .slice (some am) nm cm] w fun e w' => ∃ ao' cap' ss, e = .returned (.slice ao' n cap') ∧ LiesS w' ao' ss ∧ Reports (jointB l) index l ss ∧ Ptrs w.heap.size w' fm ss ∧ Below w.heap.size w w' := by
  have H : Hid (Calls Try.prog 30 #[.slice ao n cap, .int .u64 index, .slice (some am) nm cm] w fun e w' => ∃ ao' cap' ss, e = .returned (.slice ao' n cap') ∧ LiesS w' ao' ss ∧ Reports (jointB l) index l ss ∧ Ptrs w.heap.size w' fm ss ∧ Below w.heap.size w w') := stats_match ao n cap index am nm cm fm l w hl hn hb hm hnm
  clear hl hn hb hm hnm
  go_enter Try.func18, Try.ntmps18
  go_wp2_with fail
  refine (H.out).mono ?_
  rintro e w' ⟨ao', cap', ss, rfl, h1, h2, h3, h4⟩
  have H2 : Hid (Reports (jointB l) index l ss ∧ Ptrs w.heap.size w' fm ss) := ⟨h2, h3⟩
  clear h2 h3
  go_wp2
  go_ret
  exact ⟨_, _, _, rfl, h1, H2.out.1, H2.out.2, h4⟩

end Go.Proofs.Qxb6001112a
