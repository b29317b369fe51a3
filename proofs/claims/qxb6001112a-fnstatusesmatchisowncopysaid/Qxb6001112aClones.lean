/-
  THE CLONES (zzCloneU64, zzCloneStr, zzCloneU8, zzCloneBool), by contract.
-/
import Derived.Test.Qxb6001112aBase
namespace Go.Proofs.Qxb6001112a
open Go.RowKit

/-- A slice of one-cell elements as a reader finds it: empty, or its n cells lie there. -/
def Lies (w : World) (ao : Option Addr) (n : Nat) (f : Nat → Value) : Prop :=
  n = 0 ∨ ∃ b off, ao = some ⟨b, off, none⟩ ∧ ∀ j, j < n → w.cell? ⟨b, off + j, none⟩ = some (f j)

theorem Lies.below {w w' : World} {ao : Option Addr} {n : Nat} {f : Nat → Value} (h : Lies w ao n f) (hb : Below w.heap.size w w') : Lies w' ao n f := by
  rcases h with h | ⟨b, off, rfl, hc⟩
  · exact .inl h
  · refine .inr ⟨b, off, rfl, fun j hj => ?_⟩
    have h1 := hc j hj
    have hlt := World.block_lt_of_cell? w _ h1
    exact (hb.cell hlt).trans h1

theorem Lies.mono {w : World} {ao : Option Addr} {n m : Nat} {f : Nat → Value} (h : Lies w ao n f) (hm : m ≤ n) : Lies w ao m f := by
  rcases h with h | ⟨b, off, rfl, hc⟩
  · exact .inl (by omega)
  · exact .inr ⟨b, off, rfl, fun j hj => hc j (by omega)⟩

/-- What a clone hands back: nil of nil; else a new row. -/
def Cloned (t : TypeId) (w w' : World) (ao ao' : Option Addr) (n : Nat) (f : Nat → Value) : Prop :=
  (ao = none ∧ n = 0 ∧ ao' = none) ∨ (ao ≠ none ∧ ao' = some ⟨w.heap.size, 0, none⟩ ∧ w'.rowIs w.heap.size t n f)

theorem Cloned.lies {t : TypeId} {w w' : World} {ao ao' : Option Addr} {n : Nat} {f : Nat → Value} (h : Cloned t w w' ao ao' n f) : Lies w' ao' n f := by
  rcases h with ⟨_, h, _⟩ | ⟨_, rfl, hr⟩
  · exact .inl h
  · exact .inr ⟨_, 0, rfl, fun j hj => by simpa using hr.cell hj⟩

theorem clone_step {wr : World} {B t n k : Nat} {f : Nat → Value} {z : Value} (hr : wr.rowIs B t n (fun j => if j < k then f j else z)) :
    (wr.setCell ⟨B, k, none⟩ (f k)).rowIs B t n (fun j => if j < k + 1 then f j else z) := by
  refine (hr.set k (f k)).congr fun j hj => ?_
  by_cases h1 : j = k
  · subst h1; simp
  · by_cases h2 : j < k
    · simp [h1, h2, show j < k + 1 by omega]
    · simp [h1, h2, show ¬ j < k + 1 by omega]

set_option maxHeartbeats 400000 in
theorem cloneU64_any (ao : Option Addr) (n cap : Nat) (f : Nat → Int) (w : World) (h : Lies w ao n (fun i => .int .u64 (f i))) (hn : n ≤ 65536) :
    Calls Try.prog 13 #[.slice ao n cap] w fun e w' => ∃ ao', e = .returned (.slice ao' n n) ∧ Cloned 25 w w' ao ao' n (fun i => .int .u64 (f i)) ∧ Below w.heap.size w w' := by
  have qT : ∀ (w : World) (a : Option Addr) (n c n' c' : Nat), (binOp .eql 22 (.slice a n c) (.slice none n' c')).run Try.prog w = .ok (.bool a.isNone) w := fun w a n c n' c' => Lib.run_eql_slice_nil w _ _ a n c n' c' Try.underlying22
  have hmk := run_make_row' (P := Try.prog) 22 25 (.int .u64 0) 8 Try.underlying22 Try.info25 rfl .i64 .i64 n (by omega) (by omega)
  cases ao with
  | none =>
    have hn0 : n = 0 := by
      rcases h with h | ⟨b, off, h, _⟩
      · exact h
      · cases h
    subst hn0
    go_enter Try.func13, Try.ntmps13
    go_wp2
    go_ret
    exact ⟨none, rfl, .inl ⟨rfl, rfl, rfl⟩, Below.refl _ _⟩
  | some a =>
    go_enter Try.func13, Try.ntmps13
    go_wp2
    go_loopw [4] (fun i wr => ∃ k : Nat, k ≤ n ∧ i = .int .i64 k ∧ wr.rowIs w.heap.size 25 n (fun j => if j < k then .int .u64 (f j) else .int .u64 0) ∧ Below w.heap.size w wr)
      (fun i _ => n - (intOf i).toNat)
    case atStart =>
      exact ⟨0, Nat.zero_le _, rfl, (World.rowIs_made w _ n 25).congr (fun i _ => by simp), (Below.refl _ _).alloc (Nat.le_refl _) _⟩
    case round =>
      obtain ⟨k, hk, rfl, hrow, hbel⟩ := hrel
      by_cases hlt : k < n
      · rcases h with h | ⟨b, off, he, hc⟩
        · omega
        · obtain ⟨rfl⟩ := he
          have h1 := hc k hlt
          have hb := World.block_lt_of_cell? w _ h1
          have hcx : wr.cell? ⟨b, off + k, none⟩ = some (.int .u64 (f k)) := (hbel.cell hb).trans h1
          have hfz := hrow.frozen k
          have hcd : wr.cell? ⟨w.heap.size, k, none⟩ = some (.int .u64 0) := by simpa using hrow.cell hlt
          have R := clone_step (f := fun j => .int .u64 (f j)) hrow
          have RB := hbel.setCell (p := ⟨w.heap.size, k, none⟩) (Nat.le_refl _) (.int .u64 (f k))
          clear hrow hbel hc h1 hb
          go_wp2
          go_roundw
          case rel => exact ⟨k + 1, by omega, by go_num, R, RB⟩
          case measure => simp [intOf]; omega
      · go_wp2
        go_ret
        have hkn : k = n := by omega
        subst hkn
        exact ⟨_, rfl, .inr ⟨by simp, rfl, hrow.congr (fun j hj => by simp [hj])⟩, hbel⟩

set_option maxHeartbeats 400000 in
theorem cloneStr_any (ao : Option Addr) (n cap : Nat) (f : Nat → ByteArray) (w : World) (h : Lies w ao n (fun i => .string (f i))) (hn : n ≤ 65536) :
    Calls Try.prog 14 #[.slice ao n cap] w fun e w' => ∃ ao', e = .returned (.slice ao' n n) ∧ Cloned 9 w w' ao ao' n (fun i => .string (f i)) ∧ Below w.heap.size w w' := by
  have qT : ∀ (w : World) (a : Option Addr) (n c n' c' : Nat), (binOp .eql 23 (.slice a n c) (.slice none n' c')).run Try.prog w = .ok (.bool a.isNone) w := fun w a n c n' c' => Lib.run_eql_slice_nil w _ _ a n c n' c' Try.underlying23
  have hmk := run_make_row' (P := Try.prog) 23 9 (.string ByteArray.empty) 16 Try.underlying23 Try.info9 rfl .i64 .i64 n (by omega) (by omega)
  cases ao with
  | none =>
    have hn0 : n = 0 := by
      rcases h with h | ⟨b, off, h, _⟩
      · exact h
      · cases h
    subst hn0
    go_enter Try.func14, Try.ntmps14
    go_wp2
    go_ret
    exact ⟨none, rfl, .inl ⟨rfl, rfl, rfl⟩, Below.refl _ _⟩
  | some a =>
    go_enter Try.func14, Try.ntmps14
    go_wp2
    go_loopw [4] (fun i wr => ∃ k : Nat, k ≤ n ∧ i = .int .i64 k ∧ wr.rowIs w.heap.size 9 n (fun j => if j < k then .string (f j) else .string ByteArray.empty) ∧ Below w.heap.size w wr)
      (fun i _ => n - (intOf i).toNat)
    case atStart =>
      exact ⟨0, Nat.zero_le _, rfl, (World.rowIs_made w _ n 9).congr (fun i _ => by simp), (Below.refl _ _).alloc (Nat.le_refl _) _⟩
    case round =>
      obtain ⟨k, hk, rfl, hrow, hbel⟩ := hrel
      by_cases hlt : k < n
      · rcases h with h | ⟨b, off, he, hc⟩
        · omega
        · obtain ⟨rfl⟩ := he
          have h1 := hc k hlt
          have hb := World.block_lt_of_cell? w _ h1
          have hcx : wr.cell? ⟨b, off + k, none⟩ = some (.string (f k)) := (hbel.cell hb).trans h1
          have hfz := hrow.frozen k
          have hcd : wr.cell? ⟨w.heap.size, k, none⟩ = some (.string ByteArray.empty) := by simpa using hrow.cell hlt
          have R := clone_step (f := fun j => .string (f j)) hrow
          have RB := hbel.setCell (p := ⟨w.heap.size, k, none⟩) (Nat.le_refl _) (.string (f k))
          clear hrow hbel hc h1 hb
          go_wp2
          go_roundw
          case rel => exact ⟨k + 1, by omega, by go_num, R, RB⟩
          case measure => simp [intOf]; omega
      · go_wp2
        go_ret
        have hkn : k = n := by omega
        subst hkn
        exact ⟨_, rfl, .inr ⟨by simp, rfl, hrow.congr (fun j hj => by simp [hj])⟩, hbel⟩

set_option maxHeartbeats 400000 in
theorem cloneU8_any (ao : Option Addr) (n cap : Nat) (f : Nat → Int) (w : World) (h : Lies w ao n (fun i => .int .u8 (f i))) (hn : n ≤ 65536) :
    Calls Try.prog 15 #[.slice ao n cap] w fun e w' => ∃ ao', e = .returned (.slice ao' n n) ∧ Cloned 5 w w' ao ao' n (fun i => .int .u8 (f i)) ∧ Below w.heap.size w w' := by
  have qT : ∀ (w : World) (a : Option Addr) (n c n' c' : Nat), (binOp .eql 24 (.slice a n c) (.slice none n' c')).run Try.prog w = .ok (.bool a.isNone) w := fun w a n c n' c' => Lib.run_eql_slice_nil w _ _ a n c n' c' Try.underlying24
  have hmk := run_make_row' (P := Try.prog) 24 5 (.int .u8 0) 1 Try.underlying24 Try.info5 rfl .i64 .i64 n (by omega) (by omega)
  cases ao with
  | none =>
    have hn0 : n = 0 := by
      rcases h with h | ⟨b, off, h, _⟩
      · exact h
      · cases h
    subst hn0
    go_enter Try.func15, Try.ntmps15
    go_wp2
    go_ret
    exact ⟨none, rfl, .inl ⟨rfl, rfl, rfl⟩, Below.refl _ _⟩
  | some a =>
    go_enter Try.func15, Try.ntmps15
    go_wp2
    go_loopw [4] (fun i wr => ∃ k : Nat, k ≤ n ∧ i = .int .i64 k ∧ wr.rowIs w.heap.size 5 n (fun j => if j < k then .int .u8 (f j) else .int .u8 0) ∧ Below w.heap.size w wr)
      (fun i _ => n - (intOf i).toNat)
    case atStart =>
      exact ⟨0, Nat.zero_le _, rfl, (World.rowIs_made w _ n 5).congr (fun i _ => by simp), (Below.refl _ _).alloc (Nat.le_refl _) _⟩
    case round =>
      obtain ⟨k, hk, rfl, hrow, hbel⟩ := hrel
      by_cases hlt : k < n
      · rcases h with h | ⟨b, off, he, hc⟩
        · omega
        · obtain ⟨rfl⟩ := he
          have h1 := hc k hlt
          have hb := World.block_lt_of_cell? w _ h1
          have hcx : wr.cell? ⟨b, off + k, none⟩ = some (.int .u8 (f k)) := (hbel.cell hb).trans h1
          have hfz := hrow.frozen k
          have hcd : wr.cell? ⟨w.heap.size, k, none⟩ = some (.int .u8 0) := by simpa using hrow.cell hlt
          have R := clone_step (f := fun j => .int .u8 (f j)) hrow
          have RB := hbel.setCell (p := ⟨w.heap.size, k, none⟩) (Nat.le_refl _) (.int .u8 (f k))
          clear hrow hbel hc h1 hb
          go_wp2
          go_roundw
          case rel => exact ⟨k + 1, by omega, by go_num, R, RB⟩
          case measure => simp [intOf]; omega
      · go_wp2
        go_ret
        have hkn : k = n := by omega
        subst hkn
        exact ⟨_, rfl, .inr ⟨by simp, rfl, hrow.congr (fun j hj => by simp [hj])⟩, hbel⟩

set_option maxHeartbeats 400000 in
theorem cloneBool_any (ao : Option Addr) (n cap : Nat) (f : Nat → Bool) (w : World) (h : Lies w ao n (fun i => .bool (f i))) (hn : n ≤ 65536) :
    Calls Try.prog 23 #[.slice ao n cap] w fun e w' => ∃ ao', e = .returned (.slice ao' n n) ∧ Cloned 4 w w' ao ao' n (fun i => .bool (f i)) ∧ Below w.heap.size w w' := by
  have qT : ∀ (w : World) (a : Option Addr) (n c n' c' : Nat), (binOp .eql 45 (.slice a n c) (.slice none n' c')).run Try.prog w = .ok (.bool a.isNone) w := fun w a n c n' c' => Lib.run_eql_slice_nil w _ _ a n c n' c' Try.underlying45
  have hmk := run_make_row' (P := Try.prog) 45 4 (.bool false) 1 Try.underlying45 Try.info4 rfl .i64 .i64 n (by omega) (by omega)
  cases ao with
  | none =>
    have hn0 : n = 0 := by
      rcases h with h | ⟨b, off, h, _⟩
      · exact h
      · cases h
    subst hn0
    go_enter Try.func23, Try.ntmps23
    go_wp2
    go_ret
    exact ⟨none, rfl, .inl ⟨rfl, rfl, rfl⟩, Below.refl _ _⟩
  | some a =>
    go_enter Try.func23, Try.ntmps23
    go_wp2
    go_loopw [4] (fun i wr => ∃ k : Nat, k ≤ n ∧ i = .int .i64 k ∧ wr.rowIs w.heap.size 4 n (fun j => if j < k then .bool (f j) else .bool false) ∧ Below w.heap.size w wr)
      (fun i _ => n - (intOf i).toNat)
    case atStart =>
      exact ⟨0, Nat.zero_le _, rfl, (World.rowIs_made w _ n 4).congr (fun i _ => by simp), (Below.refl _ _).alloc (Nat.le_refl _) _⟩
    case round =>
      obtain ⟨k, hk, rfl, hrow, hbel⟩ := hrel
      by_cases hlt : k < n
      · rcases h with h | ⟨b, off, he, hc⟩
        · omega
        · obtain ⟨rfl⟩ := he
          have h1 := hc k hlt
          have hb := World.block_lt_of_cell? w _ h1
          have hcx : wr.cell? ⟨b, off + k, none⟩ = some (.bool (f k)) := (hbel.cell hb).trans h1
          have hfz := hrow.frozen k
          have hcd : wr.cell? ⟨w.heap.size, k, none⟩ = some (.bool false) := by simpa using hrow.cell hlt
          have R := clone_step (f := fun j => .bool (f j)) hrow
          have RB := hbel.setCell (p := ⟨w.heap.size, k, none⟩) (Nat.le_refl _) (.bool (f k))
          clear hrow hbel hc h1 hb
          go_wp2
          go_roundw
          case rel => exact ⟨k + 1, by omega, by go_num, R, RB⟩
          case measure => simp [intOf]; omega
      · go_wp2
        go_ret
        have hkn : k = n := by omega
        subst hkn
        exact ⟨_, rfl, .inr ⟨by simp, rfl, hrow.congr (fun j hj => by simp [hj])⟩, hbel⟩

end Go.Proofs.Qxb6001112a
