/-
  zzTooBig, zzPartsValid, by contract.
-/
import Derived.Test.Qxb6001112aClones
namespace Go.Proofs.Qxb6001112a
open Go.RowKit

/-- Some bool is handed back, and Q holds of it (a name, so that the walk does not take it apart). -/
def SomeBool (Q : Bool → Prop) (e : Ending) : Prop := ∃ b, e = .returned (.bool b) ∧ Q b

-- zzTooBig, all counts within 65,536: a bool, and nothing turns.
set_option maxHeartbeats 1000000 in
theorem tooBig_in (a0 a1 a2 a3 a4 : Option Addr) (n0 n1 n2 n3 n4 c0 c1 c2 c3 c4 : Nat) (s : Nat → ByteArray) (w : World) (h : Lies w a1 n1 (fun i => .string (s i)))
    (b0 : n0 ≤ 65536) (b1 : n1 ≤ 65536) (b2 : n2 ≤ 65536) (b3 : n3 ≤ 65536) (b4 : n4 ≤ 65536) :
    Calls Try.prog 10 #[.slice a0 n0 c0, .slice a1 n1 c1, .slice a2 n2 c2, .slice a3 n3 c3, .slice a4 n4 c4] w fun e w' => SomeBool (fun _ => True) e ∧ w' = w := by
  go_enter Try.func10, Try.ntmps10
  go_wp2
  · go_ret
    exact ⟨⟨_, rfl, trivial⟩, rfl⟩
  · go_loop [11, 12] (fun t i => ∃ (k : Nat) (u : Int), k ≤ n1 ∧ i = .int .i64 k ∧ t = .int .i64 u ∧ 0 ≤ u ∧ u ≤ 1048576) (fun _ i => n1 - (intOf i).toNat)
    case atStart => exact ⟨0, _, Nat.zero_le _, rfl, rfl, by omega, by omega⟩
    case round =>
      obtain ⟨k, u, hk, rfl, rfl, hu0, hu1⟩ := hrel
      by_cases hlt : k < n1
      · rcases h with h | ⟨b, off, rfl, hc⟩
        · omega
        · have h1 := hc k hlt
          obtain ⟨sk, hsk⟩ : ∃ sk, sk = s k := ⟨_, rfl⟩
          simp only [← hsk] at h1
          clear hsk hc
          go_wp2
          all_goals first
            | (go_ret; exact ⟨⟨_, rfl, trivial⟩, rfl⟩)
            | (go_round
               case rel => exact ⟨k + 1, _, by omega, by go_num, rfl, by omega, by omega⟩
               case measure => simp [intOf]; omega)
      · go_wp2
        go_ret
        exact ⟨⟨_, rfl, trivial⟩, rfl⟩

/-- zzTooBig, a count beyond 65,536: true. -/
theorem tooBig_over (a0 a1 a2 a3 a4 : Option Addr) (n0 n1 n2 n3 n4 c0 c1 c2 c3 c4 : Nat) (w : World)
    (h : 65536 < n0 ∨ 65536 < n1 ∨ 65536 < n2 ∨ 65536 < n3 ∨ 65536 < n4) :
    Calls Try.prog 10 #[.slice a0 n0 c0, .slice a1 n1 c1, .slice a2 n2 c2, .slice a3 n3 c3, .slice a4 n4 c4] w fun e w' => e = .returned (.bool true) ∧ w' = w := by
  by_cases h0 : 65536 < n0
  · clear h
    go_enter Try.func10, Try.ntmps10
    go_wp2
    go_ret
    exact ⟨rfl, rfl⟩
  by_cases h1 : 65536 < n1
  · clear h
    go_enter Try.func10, Try.ntmps10
    go_wp2
    go_ret
    exact ⟨rfl, rfl⟩
  by_cases h2 : 65536 < n2
  · clear h
    go_enter Try.func10, Try.ntmps10
    go_wp2
    go_ret
    exact ⟨rfl, rfl⟩
  by_cases h3 : 65536 < n3
  · clear h
    go_enter Try.func10, Try.ntmps10
    go_wp2
    go_ret
    exact ⟨rfl, rfl⟩
  have h4 : 65536 < n4 := by omega
  clear h
  go_enter Try.func10, Try.ntmps10
  go_wp2
  go_ret
  exact ⟨rfl, rfl⟩

/-- zzTooBig: it only reads; where it says no, all counts are within 65,536. -/
theorem tooBig_any (a0 a1 a2 a3 a4 : Option Addr) (n0 n1 n2 n3 n4 c0 c1 c2 c3 c4 : Nat) (s : Nat → ByteArray) (w : World) (h : Lies w a1 n1 (fun i => .string (s i))) :
    Calls Try.prog 10 #[.slice a0 n0 c0, .slice a1 n1 c1, .slice a2 n2 c2, .slice a3 n3 c3, .slice a4 n4 c4] w fun e w' =>
      SomeBool (fun b => b = false → n0 ≤ 65536 ∧ n1 ≤ 65536 ∧ n2 ≤ 65536 ∧ n3 ≤ 65536 ∧ n4 ≤ 65536) e ∧ w' = w := by
  by_cases hb : n0 ≤ 65536 ∧ n1 ≤ 65536 ∧ n2 ≤ 65536 ∧ n3 ≤ 65536 ∧ n4 ≤ 65536
  · obtain ⟨b0, b1, b2, b3, b4⟩ := hb
    refine (tooBig_in a0 a1 a2 a3 a4 n0 n1 n2 n3 n4 c0 c1 c2 c3 c4 s w h b0 b1 b2 b3 b4).mono ?_
    rintro e w' ⟨⟨b, rfl, _⟩, rfl⟩
    exact ⟨⟨b, rfl, fun _ => ⟨b0, b1, b2, b3, b4⟩⟩, rfl⟩
  · refine (tooBig_over a0 a1 a2 a3 a4 n0 n1 n2 n3 n4 c0 c1 c2 c3 c4 w (by omega)).mono ?_
    rintro e w' ⟨rfl, rfl⟩
    exact ⟨⟨true, rfl, by simp⟩, rfl⟩

/-- zzPartsValid: are the first n parts at most 3? -/
def allLe (f : Nat → Int) (n : Nat) : Prop := ∀ i, i < n → f i ≤ 3

set_option maxHeartbeats 400000 in
theorem partsValid_any (ao : Option Addr) (len cap n : Nat) (f : Nat → Int) (w : World) (h : Lies w ao len (fun i => .int .u8 (f i))) (hn : n ≤ len) (hl : len ≤ 65536) :
    Calls Try.prog 12 #[.slice ao len cap, .int .i64 n] w fun e w' => SomeBool (fun b => b = true → allLe f n) e ∧ w' = w := by
  go_enter Try.func12, Try.ntmps12
  go_wp2
  go_loop [5] (fun i => ∃ k : Nat, k ≤ n ∧ i = .int .i64 k ∧ Hid (allLe f k)) (fun i => n - (intOf i).toNat)
  case atStart => exact ⟨0, Nat.zero_le _, rfl, fun i hi => absurd hi (by omega)⟩
  case round =>
    obtain ⟨k, hk, rfl, hall⟩ := hrel
    by_cases hlt : k < n
    · rcases h with h | ⟨b, off, rfl, hc⟩
      · omega
      · have h1 := hc k (by omega)
        obtain ⟨p, hp⟩ : ∃ p, p = f k := ⟨_, rfl⟩
        simp only [← hp] at h1
        have HP : Hid (p = f k) := hp
        clear hc hp
        by_cases h3 : 3 < p
        · go_wp2
          go_ret
          exact ⟨⟨_, rfl, by simp⟩, rfl⟩
        · go_wp2
          go_round
          case rel =>
            refine ⟨k + 1, by omega, by go_num, fun i hi => ?_⟩
            by_cases e : i = k
            · subst e; rw [← HP.out]; omega
            · exact hall.out i (by omega)
          case measure => simp [intOf]; omega
    · go_wp2
      go_ret
      have e : k = n := by omega
      subst e
      exact ⟨⟨_, rfl, fun _ => hall.out⟩, rfl⟩

end Go.Proofs.Qxb6001112a
