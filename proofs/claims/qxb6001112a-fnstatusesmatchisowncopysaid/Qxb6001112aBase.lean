/-
  THE BASE of the walks over seat b6001112a: closed facts on types; the plain functions; small laws on worlds.
-/
import Derived.Test.Qxb6001112aRows
import Derived.WalkKit
import Derived.WalkSpells
import Derived.WalkLawsBesides
import Derived.StillTactics
import Derived.OwnWalk
import Derived.Laws.Pointers
import Derived.Deep.RegionHeld3
import Derived.Deep.AppendLies
import Derived.Deep.QuietTactic
import Derived.BigQuiet
import Derived.Deep.OwnRows
namespace Go.Proofs.Qxb6001112a
open Go.RowKit

theorem Try.info25 : (Try.prog.info? 25).map (fun i => (i.zero, i.size, i.bytes)) = some (some (.int .u64 0), 1, 8) := by kernel_rfl
theorem Try.info9 : (Try.prog.info? 9).map (fun i => (i.zero, i.size, i.bytes)) = some (some (.string ByteArray.empty), 1, 16) := by kernel_rfl
theorem Try.info5 : (Try.prog.info? 5).map (fun i => (i.zero, i.size, i.bytes)) = some (some (.int .u8 0), 1, 1) := by kernel_rfl
theorem Try.info4 : (Try.prog.info? 4).map (fun i => (i.zero, i.size, i.bytes)) = some (some (.bool false), 1, 1) := by kernel_rfl
theorem Try.info51 : (Try.prog.info? 51).map (fun i => (i.zero, i.size, i.bytes)) = some (some (.agg #[.int .u64 0, .string ByteArray.empty, .int .u8 0]), 3, 32) := by kernel_rfl
theorem Try.info44 : (Try.prog.info? 44).map (fun i => (i.zero, i.size, i.bytes)) = some (some (.agg #[.int .u64 0, .string ByteArray.empty, .bool false, .int .u8 0, .pointer none, .int .u64 0]), 6, 48) := by kernel_rfl

set_option maxHeartbeats 400000 in
theorem min_any (a b : Int) (w : World) :
    Calls Try.prog 11 #[.int .i64 a, .int .i64 b] w fun e w' => e = .returned (.int .i64 (min a b)) ∧ w' = w := by
  by_cases h : a < b
  · have hm : min a b = a := by omega
    rw [hm]; clear hm
    go_enter Try.func11, Try.ntmps11
    go_wp2
    go_ret
    exact ⟨rfl, rfl⟩
  · have hm : min a b = b := by omega
    rw [hm]; clear hm
    go_enter Try.func11, Try.ntmps11
    go_wp2
    go_ret
    exact ⟨rfl, rfl⟩

set_option maxHeartbeats 400000 in
theorem partOf_any (i : Int) (s : ByteArray) (p : Int) (w : World) :
    Calls Try.prog 24 #[.agg #[.int .u64 i, .string s, .int .u8 p]] w fun e w' => e = .returned (.int .u8 p) ∧ w' = w.alloc (.cells #[.int .u64 i, .string s, .int .u8 p] 51) := by
  go_enter Try.func24, Try.ntmps24
  go_wp2
  go_ret
  exact ⟨rfl, rfl⟩

set_option maxHeartbeats 400000 in
theorem votes_any (i : Int) (s : ByteArray) (p : Int) (w : World) :
    Calls Try.prog 33 #[.agg #[.int .u64 i, .string s, .int .u8 p]] w fun e w' => e = .returned (.bool (p != 0)) ∧ w' = w.alloc (.cells #[.int .u64 i, .string s, .int .u8 p] 51) := by
  go_enter Try.func33, Try.ntmps33
  go_wp2
  go_ret
  exact ⟨rfl, rfl⟩

set_option maxHeartbeats 400000 in
theorem member_any (i : Int) (s : ByteArray) (p : Int) (w : World) :
    Calls Try.prog 28 #[.int .u64 i, .string s, .int .u8 p] w fun e w' => e = .returned (.agg #[.int .u64 i, .string s, .int .u8 p]) ∧ w' = w.alloc (.cells #[.int .u64 i, .string s, .int .u8 p] 51) := by
  go_enter Try.func28, Try.ntmps28
  go_wp2
  refine bodyPost_ret (v := .agg #[.int .u64 i, .string s, .int .u8 p]) (by simp [results, Try.results28, go_sem]) rfl ⟨rfl, ?_⟩
  rfl

end Go.Proofs.Qxb6001112a
