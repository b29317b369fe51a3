/-
  configurationOf and completed, by contract.
-/
import Derived.Test.Qxb6001112aStat
namespace Go.Proofs.Qxb6001112a
open Go.RowKit

def memOf (s : St) : Mem := ⟨s.id, s.addr, if s.part == 0 && s.voting then 3 else s.part⟩

theorem heap_two_new' (w : World) (o1 o2 : Obj) : ((w.alloc o1).alloc o2).heap[w.heap.size + 1]? = some o2 := heap_two_new w o1 o2

theorem below_two' {w wr w1 : World} {row : Option Nat} {o1 o2 : Obj} (hbel : Below w.heap.size w wr) (hg : ((wr.alloc o1).alloc o2).grownBy w1 row) (hr : ∀ k, row = some k → w.heap.size ≤ k) : Below w.heap.size w w1 :=
  ((hbel.alloc hbel.size _).alloc (by have := hbel.size; simp; omega) _).grown hg (by have := hbel.size; simp; omega) hr

theorem ownsM_snoc {w : World} {base k g cap : Nat} {l : List Mem} {i p : Int} {s : ByteArray}
    (h : w.ownsRow base 51 3 (.slice (some ⟨g, 0, none⟩) (k + 1) cap) (k + 1) (rowM l ++ [.int .u64 i, .string s, .int .u8 p])) :
    w.ownsRow base 51 3 (.slice (some ⟨g, 0, none⟩) (k + 1) cap) (k + 1) (rowM (l ++ [⟨i, s, p⟩])) := by
  rw [rowM_snoc]; exact h

theorem map_take_snoc (f : St → Mem) (ss : List St) (k : Nat) (s : St) (h : ss[k]? = some s) : (ss.take (k + 1)).map f = (ss.take k).map f ++ [f s] := by
  rw [List.take_add_one, h]; simp

set_option maxRecDepth 100000 in
set_option maxHeartbeats 1600000 in
theorem conf_any (ao : Option Addr) (n cap : Nat) (ss : List St) (w : World) (hl : LiesS w ao ss) (hn : n = ss.length) (hb : n ≤ 65536) :
    Calls Try.prog 29 #[.slice ao n cap] w fun e w' => ∃ ao' cap', e = .returned (.slice ao' n cap') ∧ LiesM w' ao' (ss.map memOf) ∧ Below w.heap.size w w' := by
  obtain ⟨i0, hi0, hz0, hz1, hz2⟩ := info_parts Try.info51
  have HN : Hid (n = ss.length) := hn
  clear hn
  go_enter Try.func29, Try.ntmps29
  go_wp2
  go_loopw [3, 9] (fun v i wr => ∃ (k : Nat) (ao : Option Addr) (cap : Nat), k ≤ n ∧ i = .int .i64 k ∧ v = .slice ao k cap ∧ wr.ownsRow w.heap.size 51 3 (.slice ao k cap) k (rowM ((ss.take k).map memOf)) ∧ Below w.heap.size w wr)
      (fun _ i _ => n - (intOf i).toNat)
  case atStart =>
    exact ⟨0, _, _, Nat.zero_le _, rfl, rfl, World.ownsRow_nil _ _ _ _, Below.refl _ _⟩
  case round =>
    obtain ⟨k, ar, cr, hk, rfl, rfl, hown, hbel⟩ := hrel
    by_cases hlt : k < n
    · obtain ⟨st, hst⟩ : ∃ st, ss[k]? = some st := ⟨ss[k]'(by have := HN.out; omega), by have := HN.out; simp⟩
      have HS := map_take_snoc memOf ss k st hst
      obtain ⟨g, e0, hc0, hc1, hc2, hc3, hc4, hc5, hg⟩ := hl.at hst
      subst e0
      obtain ⟨i, s, v, q, mt, ix⟩ := st
      simp only at hc0 hc1 hc2 hc3 hc4 hc5
      have r0 := (hbel.cell (by exact hg)).trans hc0
      have r1 := (hbel.cell (by exact hg)).trans hc1
      have r2 := (hbel.cell (by exact hg)).trans hc2
      have r3 := (hbel.cell (by exact hg)).trans hc3
      have r4 := (hbel.cell (by exact hg)).trans hc4
      have r5 := (hbel.cell (by exact hg)).trans hc5
      have hsz := hbel.size
      obtain ⟨lk, hlk⟩ : ∃ lk, lk = (ss.take k).map memOf := ⟨_, rfl⟩
      rw [← hlk] at hown HS
      clear hst hl hc0 hc1 hc2 hc3 hc4 hc5 hlk
      have HS' : Hid ((ss.take (k + 1)).map memOf = lk ++ [memOf ⟨i, s, v, q, mt, ix⟩]) := HS
      clear HS
      by_cases h3 : q = 0 ∧ v = true
      · obtain ⟨rfl, rfl⟩ := h3
        go_wp2_with (at_builtin; refine wpList_append_lies _ rfl _ _ 34 rfl w.heap.size 51 i0 _ 3 32 Try.underlying34 hi0 hz0 hz1 hz2 rfl (by omega) (.slice ar k cr) k (rowM lk) rfl ((hown.alloc _).alloc _) ⟨wr.heap.size + 1, 0, none⟩ 1 1 [.int .u64 i, .string s, .int .u8 3] rfl rfl (World.news_of_block (cs := #[.int .u64 i, .string s, .int .u8 3]) (t := 51) (fr := (0, 0)) (heap_two_new' wr _ _)) (by simp [Value.oneCell']) (by omega) (by unfold maxLen; omega) (by omega) (by simp; omega) (wr.heap.size + 2) (by simp) ?_; intro gg cap' w2 hown1 hgrow hat hlt')
        go_roundw
        case rel => exact ⟨k + 1, _, _, by omega, by go_num, rfl, by rw [HS'.out]; exact ownsM_snoc hown1, below_two' hbel hgrow (fun k hk => (hown.lt k hk).1)⟩
        case measure => simp [intOf]; omega
      · have hq : Hid (memOf ⟨i, s, v, q, mt, ix⟩ = ⟨i, s, q⟩) := by
          unfold Hid memOf
          by_cases h0 : q = 0 <;> simp_all
        by_cases h0 : q = 0
        · have hv : v = false := by cases v <;> simp_all
          subst h0 hv
          clear h3
          go_wp2_with (at_builtin; refine wpList_append_lies _ rfl _ _ 34 rfl w.heap.size 51 i0 _ 3 32 Try.underlying34 hi0 hz0 hz1 hz2 rfl (by omega) (.slice ar k cr) k (rowM lk) rfl ((hown.alloc _).alloc _) ⟨wr.heap.size + 1, 0, none⟩ 1 1 [.int .u64 i, .string s, .int .u8 0] rfl rfl (World.news_of_block (cs := #[.int .u64 i, .string s, .int .u8 0]) (t := 51) (fr := (0, 0)) (heap_two_new' wr _ _)) (by simp [Value.oneCell']) (by omega) (by unfold maxLen; omega) (by omega) (by simp; omega) (wr.heap.size + 2) (by simp) ?_; intro gg cap' w2 hown1 hgrow hat hlt')
          go_roundw
          case rel => exact ⟨k + 1, _, _, by omega, by go_num, rfl, by rw [HS'.out, hq.out]; exact ownsM_snoc hown1, below_two' hbel hgrow (fun k hk => (hown.lt k hk).1)⟩
          case measure => simp [intOf]; omega
        · have t0 : (q == 0) = false := by simp [h0]
          clear h3 h0
          go_wp2_with (at_builtin; refine wpList_append_lies _ rfl _ _ 34 rfl w.heap.size 51 i0 _ 3 32 Try.underlying34 hi0 hz0 hz1 hz2 rfl (by omega) (.slice ar k cr) k (rowM lk) rfl ((hown.alloc _).alloc _) ⟨wr.heap.size + 1, 0, none⟩ 1 1 [.int .u64 i, .string s, .int .u8 q] rfl rfl (World.news_of_block (cs := #[.int .u64 i, .string s, .int .u8 q]) (t := 51) (fr := (0, 0)) (heap_two_new' wr _ _)) (by simp [Value.oneCell']) (by omega) (by unfold maxLen; omega) (by omega) (by simp; omega) (wr.heap.size + 2) (by simp) ?_; intro gg cap' w2 hown1 hgrow hat hlt')
          go_roundw
          case rel => exact ⟨k + 1, _, _, by omega, by go_num, rfl, by rw [HS'.out, hq.out]; exact ownsM_snoc hown1, below_two' hbel hgrow (fun k hk => (hown.lt k hk).1)⟩
          case measure => simp [intOf]; omega
    · go_wp2
      go_ret
      have e : k = n := by omega
      rw [List.take_of_length_le (by have := HN.out; omega)] at hown
      subst e
      exact ⟨_, _, rfl, liesM_of_owns (by simpa using HN.out) hown, hbel⟩

end Go.Proofs.Qxb6001112a
