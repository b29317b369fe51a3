/-
  zzBuild, by contract.
-/
import Derived.Test.Qxb6001112aPlain
namespace Go.Proofs.Qxb6001112a
open Go.RowKit

theorem heap_two_new (w : World) (o1 o2 : Obj) : ((w.alloc o1).alloc o2).drew.heap[w.heap.size + 1]? = some o2 := by
  show ((w.heap.push o1).push o2)[w.heap.size + 1]? = _
  rw [Array.getElem?_push, if_pos (by simp)]

theorem owns_snoc {w : World} {base k g cap : Nat} {fi : Nat → Int} {fa : Nat → ByteArray} {fp : Nat → Int}
    (h : w.ownsRow base 51 3 (.slice (some ⟨g, 0, none⟩) (k + 1) cap) (k + 1) (rowM (mk fi fa fp k) ++ [.int .u64 (fi k), .string (fa k), .int .u8 (fp k)])) :
    w.ownsRow base 51 3 (.slice (some ⟨g, 0, none⟩) (k + 1) cap) (k + 1) (rowM (mk fi fa fp (k + 1))) := by
  rw [mk_succ, rowM_snoc]; exact h

theorem below_two {w wr w1 : World} {row : Option Nat} {o1 o2 : Obj} (hbel : Below w.heap.size w wr) (hg : ((wr.alloc o1).alloc o2).drew.grownBy w1 row) (hr : ∀ k, row = some k → w.heap.size ≤ k) : Below w.heap.size w w1 :=
  (((hbel.alloc hbel.size _).alloc (by have := hbel.size; simp; omega) _).drew).grown hg (by have := hbel.size; simp; omega) hr

set_option maxRecDepth 100000 in
set_option maxHeartbeats 1600000 in
theorem build_any (a0 a1 a2 : Option Addr) (n0 n1 n2 c0 c1 c2 n : Nat) (fi : Nat → Int) (fa : Nat → ByteArray) (fp : Nat → Int) (w : World)
    (h0 : Lies w a0 n0 (fun i => .int .u64 (fi i))) (h1 : Lies w a1 n1 (fun i => .string (fa i))) (h2 : Lies w a2 n2 (fun i => .int .u8 (fp i)))
    (hn0 : n ≤ n0) (hn1 : n ≤ n1) (hn2 : n ≤ n2) (hn : n ≤ 65536) :
    Calls Try.prog 16 #[.slice a0 n0 c0, .slice a1 n1 c1, .slice a2 n2 c2, .int .i64 n] w fun e w' => ∃ ao cap, e = .returned (.slice ao n cap) ∧ LiesM w' ao (mk fi fa fp n) ∧ Below w.heap.size w w' := by
  obtain ⟨i0, hi0, hz0, hz1, hz2⟩ := info_parts Try.info51
  go_enter Try.func16, Try.ntmps16
  go_wp2_with (at_make; refine wpList_make_own _ rfl _ _ 34 rfl w.heap.size 51 i0 _ 3 Try.underlying34 hi0 hz0 hz1 .i64 .i64 _ n rfl rfl rfl (by rw [hz2]; omega) (by unfold maxLen; omega) (Nat.le_refl _) ?_; intro w1 hown1 hgrow1)
  go_loopw [9, 10] (fun v i wr => ∃ (k : Nat) (ao : Option Addr) (cap : Nat), k ≤ n ∧ i = .int .i64 k ∧ v = .slice ao k cap ∧ wr.ownsRow w.heap.size 51 3 (.slice ao k cap) k (rowM (mk fi fa fp k)) ∧ Below w.heap.size w wr)
      (fun _ i _ => n - (intOf i).toNat)
  case atStart =>
    exact ⟨0, _, _, Nat.zero_le _, rfl, rfl, hown1, (Below.refl _ _).grown hgrow1 (Nat.le_refl _) (fun k hk => by cases hk)⟩
  case round =>
    obtain ⟨k, ao, cap, hk, rfl, rfl, hown, hbel⟩ := hrel
    clear hown1 hgrow1
    by_cases hlt : k < n
    · obtain ⟨b0, o0, e0, hc0⟩ : ∃ b off, a0 = some ⟨b, off, none⟩ ∧ w.cell? ⟨b, off + k, none⟩ = some (.int .u64 (fi k)) := by
        rcases h0 with h | ⟨b, off, rfl, hc⟩
        · omega
        · exact ⟨b, off, rfl, hc k (by omega)⟩
      obtain ⟨b1, o1, e1, hc1⟩ : ∃ b off, a1 = some ⟨b, off, none⟩ ∧ w.cell? ⟨b, off + k, none⟩ = some (.string (fa k)) := by
        rcases h1 with h | ⟨b, off, rfl, hc⟩
        · omega
        · exact ⟨b, off, rfl, hc k (by omega)⟩
      obtain ⟨b2, o2, e2, hc2⟩ : ∃ b off, a2 = some ⟨b, off, none⟩ ∧ w.cell? ⟨b, off + k, none⟩ = some (.int .u8 (fp k)) := by
        rcases h2 with h | ⟨b, off, rfl, hc⟩
        · omega
        · exact ⟨b, off, rfl, hc k (by omega)⟩
      clear h0 h1 h2
      subst e0 e1 e2
      have l0 := World.block_lt_of_cell? w _ hc0
      have l1 := World.block_lt_of_cell? w _ hc1
      have l2 := World.block_lt_of_cell? w _ hc2
      have hr0 := (hbel.cell (by exact l0)).trans hc0
      have hr1 := (hbel.cell (by exact l1)).trans hc1
      have hr2 := (hbel.cell (by exact l2)).trans hc2
      simp only at l0 l1 l2
      clear hc0 hc1 hc2
      have hsz := hbel.size
      have g0 : (0 : Int) ≤ (k : Int) := by omega
      have g1 : (k : Int) < (n0 : Int) := by omega
      have g2 : (k : Int) < (n1 : Int) := by omega
      have g3 : (k : Int) < (n2 : Int) := by omega
      have q0 : some b0 ≠ Value.ownBlock (.slice ao k cap) := fun e => by have := hown.lt _ e.symm; omega
      have q1 : some b1 ≠ Value.ownBlock (.slice ao k cap) := fun e => by have := hown.lt _ e.symm; omega
      have q2 : some b2 ≠ Value.ownBlock (.slice ao k cap) := fun e => by have := hown.lt _ e.symm; omega
      go_wp2_with fail
      go_region_held3 (fun w' => w'.cell? ⟨b0, o0 + k, none⟩ = some (.int .u64 (fi k)) ∧ w'.cell? ⟨b1, o1 + k, none⟩ = some (.string (fa k)) ∧ w'.cell? ⟨b2, o2 + k, none⟩ = some (.int .u8 (fp k)))
        (first
          | go_keep
          | (go_split_ands
             refine ⟨?_, ?_, ?_⟩
             · (rw [hgrow.cell_far _ (by simp; omega) q0]; assumption)
             · (rw [hgrow.cell_far _ (by simp; omega) q1]; assumption)
             · (rw [hgrow.cell_far _ (by simp; omega) q2]; assumption)))
        (first
          | (go_at_call 28; refine (member_any _ _ _ _).mono ?_; rintro e w' ⟨rfl, rfl⟩)
          | (refine step_append_lies _ (by rfl) _ _ _ (by rfl) w.heap.size 51 i0 _ 3 32 Try.underlying34 hi0 hz0 hz1 hz2 rfl (by omega) (.slice ao k cap) k (rowM (mk fi fa fp k)) (by rfl) (((hown.alloc _).alloc _).drew)
              ⟨wr.heap.size + 1, 0, none⟩ 1 1 [.int .u64 (fi k), .string (fa k), .int .u8 (fp k)] (by rfl) (by rfl) (World.news_of_block (cs := #[.int .u64 (fi k), .string (fa k), .int .u8 (fp k)]) (t := 51) (fr := (0, 0)) (heap_two_new wr _ _)) (by simp [Value.oneCell'])
              (by omega) (by unfold maxLen; omega) (by omega) (by simp; omega) (wr.heap.size + 2) (by simp) ?_; intro gg cap' w1 hown1 hgrow hat hlt'))
      have R := owns_snoc hown1
      have RB := below_two hbel hgrow (fun k hk => (hown.lt k hk).1)
      clear hown1 hgrow hown hbel hr0 hr1 hr2
      go_wp2
      go_roundw
      case rel => exact ⟨k + 1, _, _, by omega, by go_num, rfl, R, RB⟩
      case measure => simp [intOf]; omega
    · go_wp2
      go_ret
      have e : k = n := by omega
      subst e
      exact ⟨_, _, rfl, liesM_of_owns (mk_length _ _ _ _).symm hown, hbel⟩

end Go.Proofs.Qxb6001112a
