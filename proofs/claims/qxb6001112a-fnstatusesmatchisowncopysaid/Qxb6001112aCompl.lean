/-
  completed, by contract.
-/
import Derived.Test.Qxb6001112aConf
namespace Go.Proofs.Qxb6001112a
open Go.RowKit

def complOne (m : Mem) : Option Mem := if m.part = 1 then none else if m.part = 2 ∨ m.part = 3 then some ⟨m.id, m.addr, 3⟩ else some m
def compl (l : List Mem) : List Mem := l.filterMap complOne

theorem compl_take (l : List Mem) (k : Nat) (m : Mem) (h : l[k]? = some m) : compl (l.take (k + 1)) = compl (l.take k) ++ (complOne m).toList := by
  unfold compl
  rw [List.take_add_one, h, List.filterMap_append]
  cases hm : complOne m <;> simp [hm]

theorem compl_length (l : List Mem) : (compl l).length ≤ l.length := List.length_filterMap_le _ _

set_option maxRecDepth 100000 in
set_option maxHeartbeats 1600000 in
theorem compl_any (ao : Option Addr) (n cap : Nat) (l : List Mem) (w : World) (hl : LiesM w ao l) (hn : n = l.length) (hb : n ≤ 65536) :
    Calls Try.prog 31 #[.slice ao n cap] w fun e w' => ∃ ao' m cap', e = .returned (.slice ao' m cap') ∧ m = (compl l).length ∧ LiesM w' ao' (compl l) ∧ Below w.heap.size w w' := by
  obtain ⟨i0, hi0, hz0, hz1, hz2⟩ := info_parts Try.info51
  have HN : Hid (n = l.length) := hn
  clear hn
  go_enter Try.func31, Try.ntmps31
  go_wp2
  go_loopw [3, 8] (fun v i wr => ∃ (k m : Nat) (ao : Option Addr) (cap : Nat) (lk : List Mem), k ≤ n ∧ m ≤ k ∧ i = .int .i64 k ∧ v = .slice ao m cap ∧ Hid (lk = compl (l.take k)) ∧ Hid (m = lk.length) ∧ wr.ownsRow w.heap.size 51 3 (.slice ao m cap) m (rowM lk) ∧ Below w.heap.size w wr)
      (fun _ i _ => n - (intOf i).toNat)
  case atStart =>
    exact ⟨0, 0, _, _, [], Nat.zero_le _, Nat.zero_le _, rfl, rfl, by simp [Hid, compl], by simp [Hid], World.ownsRow_nil _ _ _ _, Below.refl _ _⟩
  case round =>
    obtain ⟨k, m, ar, cr, lk, hk, hmk, rfl, rfl, HK, HLm, hown, hbel⟩ := hrel
    by_cases hlt : k < n
    · obtain ⟨g, i, s, p, e0, hm, hc0, hc1, hc2, hg⟩ := hl.at (k := k) (by have := HN.out; omega)
      subst e0
      have HS : Hid (compl (l.take (k + 1)) = lk ++ (complOne ⟨i, s, p⟩).toList) := by unfold Hid; rw [HK.out]; exact compl_take l k _ hm
      have r0 := (hbel.cell (by exact hg)).trans hc0
      have r1 := (hbel.cell (by exact hg)).trans hc1
      have r2 := (hbel.cell (by exact hg)).trans hc2
      have hsz := hbel.size
      clear hm hl hc0 hc1 hc2
      by_cases p1 : p = 1
      · subst p1
        have HC : Hid (lk = compl (l.take (k + 1))) := by unfold Hid; rw [HS.out]; simp [complOne]
        go_wp2
        go_roundw
        case rel => exact ⟨k + 1, m, _, _, _, by omega, by omega, by go_num, rfl, HC, HLm, hown.alloc _, hbel.alloc hsz _⟩
        case measure => simp [intOf]; omega
      by_cases p2 : p = 2
      · subst p2
        have HC : Hid (lk ++ [⟨i, s, 3⟩] = compl (l.take (k + 1))) := by unfold Hid; rw [HS.out]; simp [complOne]
        clear p1
        go_wp2_with (at_builtin; refine wpList_append_lies _ rfl _ _ 34 rfl w.heap.size 51 i0 _ 3 32 Try.underlying34 hi0 hz0 hz1 hz2 rfl (by omega) (.slice ar m cr) m (rowM lk) rfl ((hown.alloc _).alloc _) ⟨wr.heap.size + 1, 0, none⟩ 1 1 [.int .u64 i, .string s, .int .u8 3] rfl rfl (World.news_of_block (cs := #[.int .u64 i, .string s, .int .u8 3]) (t := 51) (fr := (0, 0)) (heap_two_new' wr _ _)) (by simp [Value.oneCell']) (by omega) (by unfold maxLen; omega) (by omega) (by simp; omega) (wr.heap.size + 2) (by simp) ?_; intro gg cap' w2 hown1 hgrow hat hlt')
        go_roundw
        case rel => exact ⟨k + 1, m + 1, _, _, _, by omega, by omega, by go_num, rfl, HC, by unfold Hid; simp [HLm.out], ownsM_snoc hown1, below_two' hbel hgrow (fun k hk => (hown.lt k hk).1)⟩
        case measure => simp [intOf]; omega
      by_cases p3 : p = 3
      · subst p3
        have HC : Hid (lk ++ [⟨i, s, 3⟩] = compl (l.take (k + 1))) := by unfold Hid; rw [HS.out]; simp [complOne]
        clear p1 p2
        go_wp2_with (at_builtin; refine wpList_append_lies _ rfl _ _ 34 rfl w.heap.size 51 i0 _ 3 32 Try.underlying34 hi0 hz0 hz1 hz2 rfl (by omega) (.slice ar m cr) m (rowM lk) rfl ((hown.alloc _).alloc _) ⟨wr.heap.size + 1, 0, none⟩ 1 1 [.int .u64 i, .string s, .int .u8 3] rfl rfl (World.news_of_block (cs := #[.int .u64 i, .string s, .int .u8 3]) (t := 51) (fr := (0, 0)) (heap_two_new' wr _ _)) (by simp [Value.oneCell']) (by omega) (by unfold maxLen; omega) (by omega) (by simp; omega) (wr.heap.size + 2) (by simp) ?_; intro gg cap' w2 hown1 hgrow hat hlt')
        go_roundw
        case rel => exact ⟨k + 1, m + 1, _, _, _, by omega, by omega, by go_num, rfl, HC, by unfold Hid; simp [HLm.out], ownsM_snoc hown1, below_two' hbel hgrow (fun k hk => (hown.lt k hk).1)⟩
        case measure => simp [intOf]; omega
      · have HC : Hid (lk ++ [⟨i, s, p⟩] = compl (l.take (k + 1))) := by unfold Hid; rw [HS.out]; simp [complOne, p1, p2, p3]
        have t1 : (p == 1) = false := by simp [p1]
        have t2 : (p == 2) = false := by simp [p2]
        have t3 : (p == 3) = false := by simp [p3]
        clear p1 p2 p3
        go_wp2_with (at_builtin; refine wpList_append_lies _ rfl _ _ 34 rfl w.heap.size 51 i0 _ 3 32 Try.underlying34 hi0 hz0 hz1 hz2 rfl (by omega) (.slice ar m cr) m (rowM lk) rfl ((hown.alloc _).alloc _) ⟨wr.heap.size + 1, 0, none⟩ 1 1 [.int .u64 i, .string s, .int .u8 p] rfl rfl (World.news_of_block (cs := #[.int .u64 i, .string s, .int .u8 p]) (t := 51) (fr := (0, 0)) (heap_two_new' wr _ _)) (by simp [Value.oneCell']) (by omega) (by unfold maxLen; omega) (by omega) (by simp; omega) (wr.heap.size + 2) (by simp) ?_; intro gg cap' w2 hown1 hgrow hat hlt')
        go_roundw
        case rel => exact ⟨k + 1, m + 1, _, _, _, by omega, by omega, by go_num, rfl, HC, by unfold Hid; simp [HLm.out], ownsM_snoc hown1, below_two' hbel hgrow (fun k hk => (hown.lt k hk).1)⟩
        case measure => simp [intOf]; omega
    · go_wp2
      go_ret
      have e : lk = compl l := by
        rw [HK.out, List.take_of_length_le (by have := HN.out; omega)]
      exact ⟨_, m, _, rfl, by rw [← e]; exact HLm.out, by rw [← e]; exact liesM_of_owns HLm.out hown, hbel⟩

end Go.Proofs.Qxb6001112a
