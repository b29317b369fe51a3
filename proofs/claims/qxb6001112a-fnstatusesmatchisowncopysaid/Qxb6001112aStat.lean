/-
  memberStatuses, by contract: match nil.
-/
import Derived.Test.Qxb6001112aPlainS
namespace Go.Proofs.Qxb6001112a
open Go.RowKit

theorem heap_four_new (w : World) (o1 o2 o3 o4 : Obj) : ((((w.alloc o1).alloc o2).alloc o3).alloc o4).drew.heap[w.heap.size + 3]? = some o4 := by
  show ((((w.heap.push o1).push o2).push o3).push o4)[w.heap.size + 3]? = _
  rw [Array.getElem?_push, if_pos (by simp)]

theorem below_four {w wr w1 : World} {row : Option Nat} {o1 o2 o3 o4 : Obj} (hbel : Below w.heap.size w wr) (hg : ((((wr.alloc o1).alloc o2).alloc o3).alloc o4).drew.grownBy w1 row) (hr : ∀ k, row = some k → w.heap.size ≤ k) : Below w.heap.size w w1 :=
  (((((hbel.alloc hbel.size _).alloc (by have := hbel.size; simp; omega) _).alloc (by have := hbel.size; simp; omega) _).alloc (by have := hbel.size; simp; omega) _).drew).grown hg (by have := hbel.size; simp; omega) hr

theorem ownsS_snoc {w : World} {base k g cap : Nat} {ss : List St} {i index q : Int} {s : ByteArray} {v : Bool} {mt : Option Addr}
    (h : w.ownsRow base 44 6 (.slice (some ⟨g, 0, none⟩) (k + 1) cap) (k + 1) (rowS ss ++ [.int .u64 i, .string s, .bool v, .int .u8 q, .pointer mt, .int .u64 index])) :
    w.ownsRow base 44 6 (.slice (some ⟨g, 0, none⟩) (k + 1) cap) (k + 1) (rowS (ss ++ [⟨i, s, v, q, mt, index⟩])) := by
  rw [rowS_snoc]; exact h

theorem all_none_snoc {ss : List St} (h : ∀ s ∈ ss, s.mt = none) {i index q : Int} {s : ByteArray} {v : Bool} : ∀ t ∈ ss ++ [(⟨i, s, v, q, none, index⟩ : St)], t.mt = none := by
  intro t ht
  rcases List.mem_append.1 ht with ht | ht
  · exact h t ht
  · simp at ht; subst ht; rfl

set_option maxRecDepth 100000 in
set_option maxHeartbeats 1600000 in
theorem stats_nil (ao : Option Addr) (n cap : Nat) (index : Int) (l : List Mem) (w : World) (hl : LiesM w ao l) (hn : n = l.length) (hb : n ≤ 65536) :
    Calls Try.prog 30 #[.slice ao n cap, .int .u64 index, .slice none 0 0] w fun e w' => ∃ ao' cap' ss, e = .returned (.slice ao' n cap') ∧ LiesS w' ao' ss ∧ Reports (jointB l) index l ss ∧ (∀ s ∈ ss, s.mt = none) ∧ Below w.heap.size w w' := by
  obtain ⟨i0, hi0, hz0, hz1, hz2⟩ := info_parts Try.info44
  have HN : Hid (n = l.length) := hn
  obtain ⟨J, hJ⟩ : ∃ J, J = jointB l := ⟨_, rfl⟩
  have hjoint := joint_any ao n cap l w hl hn hb
  rw [← hJ] at hjoint ⊢
  have HJ : Hid (Calls Try.prog 32 #[.slice ao n cap] w fun e w' => e = .returned (.bool J) ∧ Below w.heap.size w w') := hjoint
  clear hn hJ hjoint
  have qN : ∀ (w : World) (a : Option Addr) (n c n' c' : Nat), (binOp .neq 22 (.slice a n c) (.slice none n' c')).run Try.prog w = .ok (.bool (!a.isNone)) w := fun w a n c n' c' => run_neq_slice_nil_any w _ _ a n c n' c' Try.underlying22
  go_enter Try.func30, Try.ntmps30
  go_wp2_with fail
  refine (HJ.out).mono ?_
  rintro e w0 ⟨rfl, hb0⟩
  have hs0 := hb0.size
  clear HJ
  go_wp2_with (at_make; refine wpList_make_own _ rfl _ _ 37 rfl w.heap.size 44 i0 _ 6 Try.underlying37 hi0 hz0 hz1 .i64 .i64 _ n rfl rfl rfl (by rw [hz2]; omega) (by unfold maxLen; omega) (by omega) ?_; intro w1 hown1 hgrow1)
  go_loopw [8, 20] (fun v i wr => ∃ (k : Nat) (ao : Option Addr) (cap : Nat) (ss : List St), k ≤ n ∧ i = .int .i64 k ∧ v = .slice ao k cap ∧ wr.ownsRow w.heap.size 44 6 (.slice ao k cap) k (rowS ss) ∧ Reports J index (l.take k) ss ∧ (∀ s ∈ ss, s.mt = none) ∧ Below w.heap.size w wr)
      (fun _ i _ => n - (intOf i).toNat)
  case atStart =>
    exact ⟨0, _, _, [], Nat.zero_le _, rfl, rfl, hown1, by simp [Reports], by simp, hb0.grown hgrow1 hs0 (fun k hk => by cases hk)⟩
  case round =>
    obtain ⟨k, ar, cr, ss, hk, rfl, rfl, hown, hrep, hnone, hbel⟩ := hrel
    have HR : Hid (Reports J index (l.take k) ss) := hrep
    have HO : Hid (∀ s ∈ ss, s.mt = none) := hnone
    clear hown1 hgrow1 hrep hnone hb0 hs0
    by_cases hlt : k < n
    · obtain ⟨g, i, s, p, e0, hm, hc0, hc1, hc2, hg⟩ := hl.at (k := k) (by have := HN.out; omega)
      subst e0
      have HM : Hid (l[k]? = some ⟨i, s, p⟩) := hm
      have r0 := (hbel.cell (by exact hg)).trans hc0
      have r1 := (hbel.cell (by exact hg)).trans hc1
      have r2 := (hbel.cell (by exact hg)).trans hc2
      have hsz := hbel.size
      clear hm hl hc0 hc1 hc2
      go_wp2_with fail
      have x0 : (wr.alloc (.cells #[.int .u64 i, .string s, .int .u8 p] 51)).cell? ⟨wr.heap.size, 0, none⟩ = some (.int .u64 i) := by simp
      have x1 : (wr.alloc (.cells #[.int .u64 i, .string s, .int .u8 p] 51)).cell? ⟨wr.heap.size, 1, none⟩ = some (.string s) := by simp
      have x2 : (wr.alloc (.cells #[.int .u64 i, .string s, .int .u8 p] 51)).cell? ⟨wr.heap.size, 2, none⟩ = some (.int .u8 p) := by simp
      cases J
      · go_region_held3 (fun w' => w'.cell? ⟨wr.heap.size, 0, none⟩ = some (.int .u64 i) ∧ w'.cell? ⟨wr.heap.size, 1, none⟩ = some (.string s) ∧ w'.cell? ⟨wr.heap.size, 2, none⟩ = some (.int .u8 p))
          (go_keep) ((go_at_call 33; refine (votes_any _ _ _ _).mono ?_; rintro e w' ⟨rfl, rfl⟩))
        all_goals
          clear x0 x1 x2 r0 r1 r2
          go_wp2_with (at_builtin; refine wpList_append_lies _ rfl _ _ 37 rfl w.heap.size 44 i0 _ 6 48 Try.underlying37 hi0 hz0 hz1 hz2 rfl (by omega) (.slice ar k cr) k (rowS ss) rfl (((((hown.alloc _).alloc _).alloc _).alloc _).drew) ⟨wr.heap.size + 3, 0, none⟩ 1 1 [.int .u64 i, .string s, .bool (p != 0), .int .u8 0, .pointer none, .int .u64 index] rfl rfl (World.news_of_block (cs := #[.int .u64 i, .string s, .bool (p != 0), .int .u8 0, .pointer none, .int .u64 index]) (t := 44) (fr := (0, 0)) (heap_four_new wr _ _ _ _)) (by simp [Value.oneCell']) (by omega) (by unfold maxLen; omega) (by omega) (by simp; omega) (wr.heap.size + 4) (by simp) ?_; intro gg cap' w2 hown1 hgrow hat hlt')
          go_roundw
          case rel => exact ⟨k + 1, _, _, _, by omega, by go_num, rfl, ownsS_snoc hown1, HR.out.snoc HM.out none, all_none_snoc HO.out, below_four hbel hgrow (fun k hk => (hown.lt k hk).1)⟩
          case measure => simp [intOf]; omega
      · go_region_held3 (fun w' => w'.cell? ⟨wr.heap.size, 0, none⟩ = some (.int .u64 i) ∧ w'.cell? ⟨wr.heap.size, 1, none⟩ = some (.string s) ∧ w'.cell? ⟨wr.heap.size, 2, none⟩ = some (.int .u8 p))
          (go_keep) ((go_at_call 33; refine (votes_any _ _ _ _).mono ?_; rintro e w' ⟨rfl, rfl⟩))
        all_goals
          clear x0 x1 x2 r0 r1 r2
          go_wp2_with (at_builtin; refine wpList_append_lies _ rfl _ _ 37 rfl w.heap.size 44 i0 _ 6 48 Try.underlying37 hi0 hz0 hz1 hz2 rfl (by omega) (.slice ar k cr) k (rowS ss) rfl (((((hown.alloc _).alloc _).alloc _).alloc _).drew) ⟨wr.heap.size + 3, 0, none⟩ 1 1 [.int .u64 i, .string s, .bool (p != 0), .int .u8 p, .pointer none, .int .u64 index] rfl rfl (World.news_of_block (cs := #[.int .u64 i, .string s, .bool (p != 0), .int .u8 p, .pointer none, .int .u64 index]) (t := 44) (fr := (0, 0)) (heap_four_new wr _ _ _ _)) (by simp [Value.oneCell']) (by omega) (by unfold maxLen; omega) (by omega) (by simp; omega) (wr.heap.size + 4) (by simp) ?_; intro gg cap' w2 hown1 hgrow hat hlt')
          go_roundw
          case rel => exact ⟨k + 1, _, _, _, by omega, by go_num, rfl, ownsS_snoc hown1, HR.out.snoc HM.out none, all_none_snoc HO.out, below_four hbel hgrow (fun k hk => (hown.lt k hk).1)⟩
          case measure => simp [intOf]; omega
    · go_wp2
      go_ret
      have e : k = n := by omega
      have hlen : k = ss.length := by have h1 := HR.out.length; rw [List.length_take] at h1; have := HN.out; omega
      have hrep := HR.out
      rw [List.take_of_length_le (by have := HN.out; omega)] at hrep
      subst e
      exact ⟨_, _, ss, rfl, liesS_of_owns hlen hown, hrep, HO.out, hbel⟩

end Go.Proofs.Qxb6001112a
