/-
  The bounds on total length (zzBytes_..), by contract: each only reads; where it says yes, every length is small.
-/
import Derived.Test.Qxb6001792aBase
namespace Go.Proofs.Qxb6001792a
open Go.RowKit Go.Maps

/-- A slice of slices of strings as a reader finds it. -/
structure LiesV (w : World) (ao : Option Addr) (n : Nat) (va : Nat → Option Addr) (vl vc : Nat → Nat) (vs : Nat → Nat → ByteArray) : Prop where
  outer : Lies w ao n (fun i => .slice (va i) (vl i) (vc i))
  inner : ∀ i, i < n → Lies w (va i) (vl i) (fun j => .string (vs i j))

theorem LiesV.below {w w' : World} {ao : Option Addr} {n : Nat} {va : Nat → Option Addr} {vl vc : Nat → Nat} {vs : Nat → Nat → ByteArray} (h : LiesV w ao n va vl vc vs) (hb : Below w.heap.size w w') : LiesV w' ao n va vl vc vs :=
  ⟨h.outer.below hb, fun i hi => (h.inner i hi).below hb⟩

/-- Every string and every inner slice is short. -/
structure Small (n0 n1 : Nat) (nm : Nat → ByteArray) (vl : Nat → Nat) (vs : Nat → Nat → ByteArray) : Prop where
  names : ∀ i, i < n0 → (nm i).size ≤ 1048576
  lens : ∀ i, i < n1 → vl i ≤ 1048576
  vals : ∀ i, i < n1 → ∀ j, j < vl i → (vs i j).size ≤ 1048576

set_option maxHeartbeats 2000000 in
theorem bytesTrip (a0 : Option Addr) (n0 c0 : Nat) (a1 : Option Addr) (n1 c1 : Nat) (nm : Nat → ByteArray) (va : Nat → Option Addr) (vl vc : Nat → Nat) (vs : Nat → Nat → ByteArray) (w : World)
    (h0 : Lies w a0 n0 (fun i => .string (nm i))) (h1 : LiesV w a1 n1 va vl vc vs) :
    Calls Try.prog 15 #[.slice a0 n0 c0, .slice a1 n1 c1] w fun e w' => SomeBool (fun b => b = true → Small n0 n1 nm vl vs) e ∧ w' = w := by
  have ho := h1.outer
  have HI : Hid (∀ i, i < n1 → Lies w (va i) (vl i) (fun j => .string (vs i j))) := h1.inner
  clear h1
  go_enter Try.func15, Try.ntmps15
  go_wp2
  all_goals first
    | (go_ret; exact ⟨⟨_, rfl, by simp⟩, rfl⟩)
    | skip
  go_loop [5, 6] (fun t i => ∃ (k : Nat) (u : Int), k ≤ n0 ∧ i = .int .i64 k ∧ t = .int .i64 u ∧ 0 ≤ u ∧ u ≤ 1048576 ∧ Hid (∀ i, i < k → (nm i).size ≤ 1048576)) (fun _ i => n0 - (intOf i).toNat)
  case atStart => exact ⟨0, _, Nat.zero_le _, rfl, rfl, by omega, by omega, fun i hi => absurd hi (by omega)⟩
  case round =>
    obtain ⟨k, u, hk, rfl, rfl, hu0, hu1, HN⟩ := hrel
    by_cases hlt : k < n0
    · obtain ⟨b, off, e0, hc, _⟩ := h0.at hlt
      subst e0
      obtain ⟨sk, hsk⟩ : ∃ sk, sk = nm k := ⟨_, rfl⟩
      have HS : Hid (sk = nm k) := hsk
      simp only [← hsk] at hc
      clear hsk h0 ho
      go_wp2
      all_goals first
        | (go_ret; exact ⟨⟨_, rfl, by simp⟩, rfl⟩)
        | (go_round
           case rel =>
             refine ⟨k + 1, _, by omega, by go_num, rfl, by omega, by omega, fun i hi => ?_⟩
             by_cases e : i = k
             · subst e; rw [← HS.out]; omega
             · exact HN.out i (by omega)
           case measure => simp [intOf]; omega)
    · have HN0 : Hid (∀ i, i < n0 → (nm i).size ≤ 1048576) := fun i hi => HN.out i (by omega)
      clear HN h0
      go_wp2
      all_goals first
        | (go_ret; exact ⟨⟨_, rfl, by simp⟩, rfl⟩)
        | skip
      go_loop [5, 7] (fun t i => ∃ (k : Nat) (u : Int), k ≤ n1 ∧ i = .int .i64 k ∧ t = .int .i64 u ∧ 0 ≤ u ∧ u ≤ 1048576 ∧ Hid (∀ i, i < k → vl i ≤ 1048576 ∧ ∀ j, j < vl i → (vs i j).size ≤ 1048576)) (fun _ i => n1 - (intOf i).toNat)
      case atStart => exact ⟨0, _, Nat.zero_le _, rfl, rfl, by omega, by omega, fun i hi => absurd hi (by omega)⟩
      case round =>
        clear hk hu0 hu1 hlt
        obtain ⟨k, u, hk, rfl, rfl, hu0, hu1, HV⟩ := hrel
        by_cases hlt : k < n1
        · obtain ⟨b, off, e0, hc, _⟩ := ho.at hlt
          have hin := HI.out k hlt
          subst e0
          obtain ⟨ak, hak⟩ : ∃ x, x = va k := ⟨_, rfl⟩
          obtain ⟨lk, hlk⟩ : ∃ x, x = vl k := ⟨_, rfl⟩
          obtain ⟨ck, hck⟩ : ∃ x, x = vc k := ⟨_, rfl⟩
          simp only [← hak, ← hlk, ← hck] at hc hin
          have HL : Hid (lk = vl k) := hlk
          clear hak hlk hck ho HI
          go_wp2
          all_goals first
            | (go_ret; exact ⟨⟨_, rfl, by simp⟩, rfl⟩)
            | skip
          have hl20 : lk ≤ 1048576 := by omega
          go_loop [5, 8] (fun t i => ∃ (m : Nat) (u : Int), m ≤ lk ∧ i = .int .i64 m ∧ t = .int .i64 u ∧ 0 ≤ u ∧ u ≤ 1048576 ∧ Hid (∀ j, j < m → (vs k j).size ≤ 1048576)) (fun _ i => lk - (intOf i).toNat)
          case atStart => exact ⟨0, _, Nat.zero_le _, rfl, rfl, by omega, by omega, fun i hi => absurd hi (by omega)⟩
          case round =>
            clear hu0 hu1
            obtain ⟨m, u, hm, rfl, rfl, hu0, hu1, HJ⟩ := hrel
            by_cases hlm : m < lk
            · obtain ⟨b2, off2, e2, hc2, _⟩ := hin.at hlm
              subst e2
              obtain ⟨sk, hsk⟩ : ∃ sk, sk = vs k m := ⟨_, rfl⟩
              have HS : Hid (sk = vs k m) := hsk
              simp only [← hsk] at hc2
              clear hsk hin
              go_wp2
              all_goals first
                | (go_ret; exact ⟨⟨_, rfl, by simp⟩, rfl⟩)
                | (go_round
                   case rel =>
                     refine ⟨m + 1, _, by omega, by go_num, rfl, by omega, by omega, fun j hj => ?_⟩
                     by_cases e : j = m
                     · subst e; rw [← HS.out]; omega
                     · exact HJ.out j (by omega)
                   case measure => simp [intOf]; omega)
            · go_wp2
              go_round
              case rel =>
                refine ⟨k + 1, _, by omega, by go_num, rfl, by omega, by omega, fun i hi => ?_⟩
                by_cases e : i = k
                · subst e; exact ⟨by have := HL.out; omega, fun j hj => HJ.out j (by have := HL.out; omega)⟩
                · exact HV.out i (by omega)
              case measure => simp [intOf]; omega
        · go_wp2
          go_ret
          exact ⟨⟨_, rfl, fun _ => ⟨HN0.out, fun i hi => (HV.out i (by omega)).1, fun i hi => (HV.out i (by omega)).2⟩⟩, rfl⟩

set_option maxHeartbeats 2000000 in
theorem bytesLists (a0 : Option Addr) (n0 c0 : Nat) (a1 : Option Addr) (n1 c1 : Nat) (nm : Nat → ByteArray) (va : Nat → Option Addr) (vl vc : Nat → Nat) (vs : Nat → Nat → ByteArray) (w : World)
    (h0 : Lies w a0 n0 (fun i => .string (nm i))) (h1 : LiesV w a1 n1 va vl vc vs) :
    Calls Try.prog 25 #[.slice a0 n0 c0, .slice a1 n1 c1] w fun e w' => SomeBool (fun b => b = true → Small n0 n1 nm vl vs) e ∧ w' = w := by
  have ho := h1.outer
  have HI : Hid (∀ i, i < n1 → Lies w (va i) (vl i) (fun j => .string (vs i j))) := h1.inner
  clear h1
  go_enter Try.func25, Try.ntmps25
  go_wp2
  all_goals first
    | (go_ret; exact ⟨⟨_, rfl, by simp⟩, rfl⟩)
    | skip
  go_loop [5, 6] (fun t i => ∃ (k : Nat) (u : Int), k ≤ n0 ∧ i = .int .i64 k ∧ t = .int .i64 u ∧ 0 ≤ u ∧ u ≤ 1048576 ∧ Hid (∀ i, i < k → (nm i).size ≤ 1048576)) (fun _ i => n0 - (intOf i).toNat)
  case atStart => exact ⟨0, _, Nat.zero_le _, rfl, rfl, by omega, by omega, fun i hi => absurd hi (by omega)⟩
  case round =>
    obtain ⟨k, u, hk, rfl, rfl, hu0, hu1, HN⟩ := hrel
    by_cases hlt : k < n0
    · obtain ⟨b, off, e0, hc, _⟩ := h0.at hlt
      subst e0
      obtain ⟨sk, hsk⟩ : ∃ sk, sk = nm k := ⟨_, rfl⟩
      have HS : Hid (sk = nm k) := hsk
      simp only [← hsk] at hc
      clear hsk h0 ho
      go_wp2
      all_goals first
        | (go_ret; exact ⟨⟨_, rfl, by simp⟩, rfl⟩)
        | (go_round
           case rel =>
             refine ⟨k + 1, _, by omega, by go_num, rfl, by omega, by omega, fun i hi => ?_⟩
             by_cases e : i = k
             · subst e; rw [← HS.out]; omega
             · exact HN.out i (by omega)
           case measure => simp [intOf]; omega)
    · have HN0 : Hid (∀ i, i < n0 → (nm i).size ≤ 1048576) := fun i hi => HN.out i (by omega)
      clear HN h0
      go_wp2
      all_goals first
        | (go_ret; exact ⟨⟨_, rfl, by simp⟩, rfl⟩)
        | skip
      go_loop [5, 7] (fun t i => ∃ (k : Nat) (u : Int), k ≤ n1 ∧ i = .int .i64 k ∧ t = .int .i64 u ∧ 0 ≤ u ∧ u ≤ 1048576 ∧ Hid (∀ i, i < k → vl i ≤ 1048576 ∧ ∀ j, j < vl i → (vs i j).size ≤ 1048576)) (fun _ i => n1 - (intOf i).toNat)
      case atStart => exact ⟨0, _, Nat.zero_le _, rfl, rfl, by omega, by omega, fun i hi => absurd hi (by omega)⟩
      case round =>
        clear hk hu0 hu1 hlt
        obtain ⟨k, u, hk, rfl, rfl, hu0, hu1, HV⟩ := hrel
        by_cases hlt : k < n1
        · obtain ⟨b, off, e0, hc, _⟩ := ho.at hlt
          have hin := HI.out k hlt
          subst e0
          obtain ⟨ak, hak⟩ : ∃ x, x = va k := ⟨_, rfl⟩
          obtain ⟨lk, hlk⟩ : ∃ x, x = vl k := ⟨_, rfl⟩
          obtain ⟨ck, hck⟩ : ∃ x, x = vc k := ⟨_, rfl⟩
          simp only [← hak, ← hlk, ← hck] at hc hin
          have HL : Hid (lk = vl k) := hlk
          clear hak hlk hck ho HI
          go_wp2
          all_goals first
            | (go_ret; exact ⟨⟨_, rfl, by simp⟩, rfl⟩)
            | skip
          have hl20 : lk ≤ 1048576 := by omega
          go_loop [5, 8] (fun t i => ∃ (m : Nat) (u : Int), m ≤ lk ∧ i = .int .i64 m ∧ t = .int .i64 u ∧ 0 ≤ u ∧ u ≤ 1048576 ∧ Hid (∀ j, j < m → (vs k j).size ≤ 1048576)) (fun _ i => lk - (intOf i).toNat)
          case atStart => exact ⟨0, _, Nat.zero_le _, rfl, rfl, by omega, by omega, fun i hi => absurd hi (by omega)⟩
          case round =>
            clear hu0 hu1
            obtain ⟨m, u, hm, rfl, rfl, hu0, hu1, HJ⟩ := hrel
            by_cases hlm : m < lk
            · obtain ⟨b2, off2, e2, hc2, _⟩ := hin.at hlm
              subst e2
              obtain ⟨sk, hsk⟩ : ∃ sk, sk = vs k m := ⟨_, rfl⟩
              have HS : Hid (sk = vs k m) := hsk
              simp only [← hsk] at hc2
              clear hsk hin
              go_wp2
              all_goals first
                | (go_ret; exact ⟨⟨_, rfl, by simp⟩, rfl⟩)
                | (go_round
                   case rel =>
                     refine ⟨m + 1, _, by omega, by go_num, rfl, by omega, by omega, fun j hj => ?_⟩
                     by_cases e : j = m
                     · subst e; rw [← HS.out]; omega
                     · exact HJ.out j (by omega)
                   case measure => simp [intOf]; omega)
            · go_wp2
              go_round
              case rel =>
                refine ⟨k + 1, _, by omega, by go_num, rfl, by omega, by omega, fun i hi => ?_⟩
                by_cases e : i = k
                · subst e; exact ⟨by have := HL.out; omega, fun j hj => HJ.out j (by have := HL.out; omega)⟩
                · exact HV.out i (by omega)
              case measure => simp [intOf]; omega
        · go_wp2
          go_ret
          exact ⟨⟨_, rfl, fun _ => ⟨HN0.out, fun i hi => (HV.out i (by omega)).1, fun i hi => (HV.out i (by omega)).2⟩⟩, rfl⟩

end Go.Proofs.Qxb6001792a
