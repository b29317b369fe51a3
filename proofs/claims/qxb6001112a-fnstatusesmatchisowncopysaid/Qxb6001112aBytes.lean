/-
  The bounds on total length that the deliverer laid (zzBytes_..): each answers some bool and only reads.
-/
import Derived.Test.Qxb6001112aSizes
namespace Go.Proofs.Qxb6001112a
open Go.RowKit

set_option maxHeartbeats 1000000 in
theorem bytesRoundTrip (a0 : Option Addr) (n0 c0 : Nat) (a1 : Option Addr) (n1 c1 : Nat) (a2 : Option Addr) (n2 c2 : Nat) (x3 : Int) (a4 : Option Addr) (n4 c4 : Nat) (s : Nat → ByteArray) (w : World) (h : Lies w a1 n1 (fun i => .string (s i))) :
    Calls Try.prog 9 #[.slice a0 n0 c0, .slice a1 n1 c1, .slice a2 n2 c2, .int .u64 x3, .slice a4 n4 c4] w fun e w' => SomeBool (fun _ => True) e ∧ w' = w := by
  go_enter Try.func9, Try.ntmps9
  go_wp2
  all_goals first
    | (go_ret; exact ⟨⟨_, rfl, trivial⟩, rfl⟩)
    | skip
  go_loop [11, 12] (fun t i => ∃ (k : Nat) (u : Int), k ≤ n1 ∧ i = .int .i64 k ∧ t = .int .i64 u ∧ 0 ≤ u ∧ u ≤ 1048576) (fun _ i => n1 - (intOf i).toNat)
  case atStart => exact ⟨0, _, Nat.zero_le _, rfl, rfl, by omega, by omega⟩
  case round =>
    obtain ⟨k, u, hk, rfl, rfl, hu0, hu1⟩ := hrel
    by_cases hlt : k < n1
    · rcases h with h | ⟨b, off, rfl, hc⟩
      · omega
      · have h1 := hc k hlt
        obtain ⟨sk, hsk⟩ : ∃ sk, sk = s k := ⟨_, rfl⟩
        simp only [← hsk] at h1
        clear hsk hc
        go_wp2
        all_goals first
          | (go_ret; exact ⟨⟨_, rfl, trivial⟩, rfl⟩)
          | (go_round
             case rel => exact ⟨k + 1, _, by omega, by go_num, rfl, by omega, by omega⟩
             case measure => simp [intOf]; omega)
    · go_wp2
      all_goals (go_ret; exact ⟨⟨_, rfl, trivial⟩, rfl⟩)

set_option maxHeartbeats 1000000 in
theorem bytesReportMembers (a0 : Option Addr) (n0 c0 : Nat) (a1 : Option Addr) (n1 c1 : Nat) (a2 : Option Addr) (n2 c2 : Nat) (x3 : Int) (s : Nat → ByteArray) (w : World) (h : Lies w a1 n1 (fun i => .string (s i))) :
    Calls Try.prog 20 #[.slice a0 n0 c0, .slice a1 n1 c1, .slice a2 n2 c2, .int .u64 x3] w fun e w' => SomeBool (fun _ => True) e ∧ w' = w := by
  go_enter Try.func20, Try.ntmps20
  go_wp2
  all_goals first
    | (go_ret; exact ⟨⟨_, rfl, trivial⟩, rfl⟩)
    | skip
  go_loop [9, 10] (fun t i => ∃ (k : Nat) (u : Int), k ≤ n1 ∧ i = .int .i64 k ∧ t = .int .i64 u ∧ 0 ≤ u ∧ u ≤ 1048576) (fun _ i => n1 - (intOf i).toNat)
  case atStart => exact ⟨0, _, Nat.zero_le _, rfl, rfl, by omega, by omega⟩
  case round =>
    obtain ⟨k, u, hk, rfl, rfl, hu0, hu1⟩ := hrel
    by_cases hlt : k < n1
    · rcases h with h | ⟨b, off, rfl, hc⟩
      · omega
      · have h1 := hc k hlt
        obtain ⟨sk, hsk⟩ : ∃ sk, sk = s k := ⟨_, rfl⟩
        simp only [← hsk] at h1
        clear hsk hc
        go_wp2
        all_goals first
          | (go_ret; exact ⟨⟨_, rfl, trivial⟩, rfl⟩)
          | (go_round
             case rel => exact ⟨k + 1, _, by omega, by go_num, rfl, by omega, by omega⟩
             case measure => simp [intOf]; omega)
    · go_wp2
      all_goals (go_ret; exact ⟨⟨_, rfl, trivial⟩, rfl⟩)

set_option maxHeartbeats 1000000 in
theorem bytesMatchIsOwnCopy (a0 : Option Addr) (n0 c0 : Nat) (a1 : Option Addr) (n1 c1 : Nat) (a2 : Option Addr) (n2 c2 : Nat) (x3 : Int) (a4 : Option Addr) (n4 c4 : Nat) (s : Nat → ByteArray) (w : World) (h : Lies w a1 n1 (fun i => .string (s i))) :
    Calls Try.prog 21 #[.slice a0 n0 c0, .slice a1 n1 c1, .slice a2 n2 c2, .int .u64 x3, .slice a4 n4 c4] w fun e w' => SomeBool (fun _ => True) e ∧ w' = w := by
  go_enter Try.func21, Try.ntmps21
  go_wp2
  all_goals first
    | (go_ret; exact ⟨⟨_, rfl, trivial⟩, rfl⟩)
    | skip
  go_loop [11, 12] (fun t i => ∃ (k : Nat) (u : Int), k ≤ n1 ∧ i = .int .i64 k ∧ t = .int .i64 u ∧ 0 ≤ u ∧ u ≤ 1048576) (fun _ i => n1 - (intOf i).toNat)
  case atStart => exact ⟨0, _, Nat.zero_le _, rfl, rfl, by omega, by omega⟩
  case round =>
    obtain ⟨k, u, hk, rfl, rfl, hu0, hu1⟩ := hrel
    by_cases hlt : k < n1
    · rcases h with h | ⟨b, off, rfl, hc⟩
      · omega
      · have h1 := hc k hlt
        obtain ⟨sk, hsk⟩ : ∃ sk, sk = s k := ⟨_, rfl⟩
        simp only [← hsk] at h1
        clear hsk hc
        go_wp2
        all_goals first
          | (go_ret; exact ⟨⟨_, rfl, trivial⟩, rfl⟩)
          | (go_round
             case rel => exact ⟨k + 1, _, by omega, by go_num, rfl, by omega, by omega⟩
             case measure => simp [intOf]; omega)
    · go_wp2
      all_goals (go_ret; exact ⟨⟨_, rfl, trivial⟩, rfl⟩)

set_option maxHeartbeats 1000000 in
theorem bytesConfigurationOf (a0 : Option Addr) (n0 c0 : Nat) (a1 : Option Addr) (n1 c1 : Nat) (a2 : Option Addr) (n2 c2 : Nat) (a3 : Option Addr) (n3 c3 : Nat) (x4 : Int) (s : Nat → ByteArray) (w : World) (h : Lies w a1 n1 (fun i => .string (s i))) :
    Calls Try.prog 22 #[.slice a0 n0 c0, .slice a1 n1 c1, .slice a2 n2 c2, .slice a3 n3 c3, .int .u64 x4] w fun e w' => SomeBool (fun _ => True) e ∧ w' = w := by
  go_enter Try.func22, Try.ntmps22
  go_wp2
  all_goals first
    | (go_ret; exact ⟨⟨_, rfl, trivial⟩, rfl⟩)
    | skip
  go_loop [11, 12] (fun t i => ∃ (k : Nat) (u : Int), k ≤ n1 ∧ i = .int .i64 k ∧ t = .int .i64 u ∧ 0 ≤ u ∧ u ≤ 1048576) (fun _ i => n1 - (intOf i).toNat)
  case atStart => exact ⟨0, _, Nat.zero_le _, rfl, rfl, by omega, by omega⟩
  case round =>
    obtain ⟨k, u, hk, rfl, rfl, hu0, hu1⟩ := hrel
    by_cases hlt : k < n1
    · rcases h with h | ⟨b, off, rfl, hc⟩
      · omega
      · have h1 := hc k hlt
        obtain ⟨sk, hsk⟩ : ∃ sk, sk = s k := ⟨_, rfl⟩
        simp only [← hsk] at h1
        clear hsk hc
        go_wp2
        all_goals first
          | (go_ret; exact ⟨⟨_, rfl, trivial⟩, rfl⟩)
          | (go_round
             case rel => exact ⟨k + 1, _, by omega, by go_num, rfl, by omega, by omega⟩
             case measure => simp [intOf]; omega)
    · go_wp2
      all_goals (go_ret; exact ⟨⟨_, rfl, trivial⟩, rfl⟩)

set_option maxHeartbeats 1000000 in
theorem bytesCompletedIsNotJoint (a0 : Option Addr) (n0 c0 : Nat) (a1 : Option Addr) (n1 c1 : Nat) (a2 : Option Addr) (n2 c2 : Nat) (s : Nat → ByteArray) (w : World) (h : Lies w a1 n1 (fun i => .string (s i))) :
    Calls Try.prog 25 #[.slice a0 n0 c0, .slice a1 n1 c1, .slice a2 n2 c2] w fun e w' => SomeBool (fun _ => True) e ∧ w' = w := by
  go_enter Try.func25, Try.ntmps25
  go_wp2
  all_goals first
    | (go_ret; exact ⟨⟨_, rfl, trivial⟩, rfl⟩)
    | skip
  go_loop [7, 8] (fun t i => ∃ (k : Nat) (u : Int), k ≤ n1 ∧ i = .int .i64 k ∧ t = .int .i64 u ∧ 0 ≤ u ∧ u ≤ 1048576) (fun _ i => n1 - (intOf i).toNat)
  case atStart => exact ⟨0, _, Nat.zero_le _, rfl, rfl, by omega, by omega⟩
  case round =>
    obtain ⟨k, u, hk, rfl, rfl, hu0, hu1⟩ := hrel
    by_cases hlt : k < n1
    · rcases h with h | ⟨b, off, rfl, hc⟩
      · omega
      · have h1 := hc k hlt
        obtain ⟨sk, hsk⟩ : ∃ sk, sk = s k := ⟨_, rfl⟩
        simp only [← hsk] at h1
        clear hsk hc
        go_wp2
        all_goals first
          | (go_ret; exact ⟨⟨_, rfl, trivial⟩, rfl⟩)
          | (go_round
             case rel => exact ⟨k + 1, _, by omega, by go_num, rfl, by omega, by omega⟩
             case measure => simp [intOf]; omega)
    · go_wp2
      all_goals (go_ret; exact ⟨⟨_, rfl, trivial⟩, rfl⟩)

set_option maxHeartbeats 1000000 in
theorem bytesCompletedKeeps (a0 : Option Addr) (n0 c0 : Nat) (a1 : Option Addr) (n1 c1 : Nat) (a2 : Option Addr) (n2 c2 : Nat) (s : Nat → ByteArray) (w : World) (h : Lies w a1 n1 (fun i => .string (s i))) :
    Calls Try.prog 27 #[.slice a0 n0 c0, .slice a1 n1 c1, .slice a2 n2 c2] w fun e w' => SomeBool (fun _ => True) e ∧ w' = w := by
  go_enter Try.func27, Try.ntmps27
  go_wp2
  all_goals first
    | (go_ret; exact ⟨⟨_, rfl, trivial⟩, rfl⟩)
    | skip
  go_loop [7, 8] (fun t i => ∃ (k : Nat) (u : Int), k ≤ n1 ∧ i = .int .i64 k ∧ t = .int .i64 u ∧ 0 ≤ u ∧ u ≤ 1048576) (fun _ i => n1 - (intOf i).toNat)
  case atStart => exact ⟨0, _, Nat.zero_le _, rfl, rfl, by omega, by omega⟩
  case round =>
    obtain ⟨k, u, hk, rfl, rfl, hu0, hu1⟩ := hrel
    by_cases hlt : k < n1
    · rcases h with h | ⟨b, off, rfl, hc⟩
      · omega
      · have h1 := hc k hlt
        obtain ⟨sk, hsk⟩ : ∃ sk, sk = s k := ⟨_, rfl⟩
        simp only [← hsk] at h1
        clear hsk hc
        go_wp2
        all_goals first
          | (go_ret; exact ⟨⟨_, rfl, trivial⟩, rfl⟩)
          | (go_round
             case rel => exact ⟨k + 1, _, by omega, by go_num, rfl, by omega, by omega⟩
             case measure => simp [intOf]; omega)
    · go_wp2
      all_goals (go_ret; exact ⟨⟨_, rfl, trivial⟩, rfl⟩)

end Go.Proofs.Qxb6001112a
