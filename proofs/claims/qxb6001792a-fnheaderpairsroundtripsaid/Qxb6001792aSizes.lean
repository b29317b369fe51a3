/-
  zzPairedCount, zzHeaderBytes, by contract.
-/
import Derived.Test.Qxb6001792aBytes
namespace Go.Proofs.Qxb6001792a
open Go.RowKit Go.Maps

def sumTo (f : Nat → Nat) : Nat → Nat
  | 0 => 0
  | k + 1 => sumTo f k + f k

theorem sumTo_mono (f : Nat → Nat) {a b : Nat} (h : a ≤ b) : sumTo f a ≤ sumTo f b := by
  induction b with
  | zero => have : a = 0 := by omega
            subst this; exact Nat.le_refl _
  | succ b ih =>
    by_cases e : a = b + 1
    · subst e; exact Nat.le_refl _
    · have := ih (by omega)
      simp only [sumTo]; omega

def SomeInt (Q : Int → Prop) (e : Ending) : Prop := ∃ t, e = .returned (.int .i64 t) ∧ Q t

set_option maxHeartbeats 400000 in
theorem paired_any (a0 : Option Addr) (n0 c0 : Nat) (a1 : Option Addr) (n1 c1 m : Nat) (hm : m = min n0 n1) (w : World) :
    Calls Try.prog 23 #[.slice a0 n0 c0, .slice a1 n1 c1] w fun e w' => e = .returned (.int .i64 m) ∧ w' = w := by
  by_cases h : n1 < n0
  · have e : m = n1 := by omega
    subst e
    clear hm
    go_enter Try.func23, Try.ntmps23
    go_wp2
    go_ret
    exact ⟨rfl, rfl⟩
  · have e : m = n0 := by omega
    subst e
    clear hm
    go_enter Try.func23, Try.ntmps23
    go_wp2
    go_ret
    exact ⟨rfl, rfl⟩

set_option maxRecDepth 100000 in
set_option maxHeartbeats 4000000 in
theorem headerBytes_any (a0 : Option Addr) (n0 c0 : Nat) (a1 : Option Addr) (n1 c1 : Nat) (nm : Nat → ByteArray) (va : Nat → Option Addr) (vl vc : Nat → Nat) (vs : Nat → Nat → ByteArray) (w : World)
    (h0 : Lies w a0 n0 (fun i => .string (nm i))) (h1 : LiesV w a1 n1 va vl vc vs) (hs : Small n0 n1 nm vl vs) (b0 : n0 ≤ 65536) (b1 : n1 ≤ 65536) :
    Calls Try.prog 16 #[.slice a0 n0 c0, .slice a1 n1 c1] w fun e w' => SomeInt (fun t => t ≤ 1048576 → sumTo vl n1 ≤ 65536) e ∧ Below w.heap.size w w' := by
  have ho := h1.outer
  have HI : Hid (∀ i, i < n1 → Lies w (va i) (vl i) (fun j => .string (vs i j))) := h1.inner
  have HSm : Hid (Small n0 n1 nm vl vs) := hs
  clear h1 hs
  go_enter Try.func16, Try.ntmps16
  go_wp2
  · go_ret
    exact ⟨⟨_, rfl, fun h => by omega⟩, Below.refl _ _⟩
  go_loop [5, 6] (fun t i => ∃ (k : Nat) (u : Int), k ≤ n0 ∧ i = .int .i64 k ∧ t = .int .i64 u ∧ 0 ≤ u ∧ u ≤ 1048576) (fun _ i => n0 - (intOf i).toNat)
  case atStart => exact ⟨0, _, Nat.zero_le _, rfl, rfl, by omega, by omega⟩
  case round =>
    obtain ⟨k, u, hk, rfl, rfl, hu0, hu1⟩ := hrel
    by_cases hlt : k < n0
    · obtain ⟨b, off, e0, hc, _⟩ := h0.at hlt
      subst e0
      have hsz := HSm.out.names k hlt
      obtain ⟨sk, hsk⟩ : ∃ sk, sk = nm k := ⟨_, rfl⟩
      simp only [← hsk] at hc hsz
      clear hsk h0 ho
      go_wp2
      · go_ret
        exact ⟨⟨_, rfl, fun h => by omega⟩, Below.refl _ _⟩
      · go_round
        case rel => exact ⟨k + 1, _, by omega, by go_num, rfl, by omega, by omega⟩
        case measure => simp [intOf]; omega
    · go_wp2
      go_loop [5, 7] (fun t i => ∃ (k : Nat) (u : Int), k ≤ n1 ∧ i = .int .i64 k ∧ t = .int .i64 u ∧ 0 ≤ u ∧ u ≤ 1048576 ∧ Hid (16 * (sumTo vl k : Int) ≤ u)) (fun _ i => n1 - (intOf i).toNat)
      case atStart => exact ⟨0, _, Nat.zero_le _, rfl, rfl, by omega, by omega, by simp only [Hid, sumTo]; omega⟩
      case round =>
        clear hk hu0 hu1 hlt
        obtain ⟨k, u, hk, rfl, rfl, hu0, hu1, HV⟩ := hrel
        by_cases hlt : k < n1
        · obtain ⟨b, off, e0, hc, _⟩ := ho.at hlt
          have hin := HI.out k hlt
          have hl20 := HSm.out.lens k hlt
          have HZ : Hid (∀ j, j < vl k → (vs k j).size ≤ 1048576) := HSm.out.vals k hlt
          subst e0
          obtain ⟨ak, hak⟩ : ∃ x, x = va k := ⟨_, rfl⟩
          obtain ⟨lk, hlk⟩ : ∃ x, x = vl k := ⟨_, rfl⟩
          obtain ⟨ck, hck⟩ : ∃ x, x = vc k := ⟨_, rfl⟩
          simp only [← hak, ← hlk, ← hck] at hc hin hl20
          have HL : Hid (lk = vl k) := hlk
          clear hak hlk hck h0
          go_wp2
          · go_ret
            exact ⟨⟨_, rfl, fun h => by omega⟩, Below.refl _ _⟩
          have HV1 : Hid (16 * (sumTo vl (k + 1) : Int) ≤ u + 16 * lk) := by
            have h1 := HV.out
            have h2 := HL.out
            simp only [Hid, sumTo]
            omega
          go_loop [5, 8] (fun t i => ∃ (m : Nat) (u2 : Int), m ≤ lk ∧ i = .int .i64 m ∧ t = .int .i64 u2 ∧ 0 ≤ u2 ∧ u2 ≤ 1048576 ∧ Hid (16 * (sumTo vl (k + 1) : Int) ≤ u2)) (fun _ i => lk - (intOf i).toNat)
          case atStart => exact ⟨0, _, Nat.zero_le _, rfl, rfl, by omega, by omega, by have := HV1.out; simp only [Hid]; omega⟩
          case round =>
            clear HV1
            obtain ⟨m, u2, hm, rfl, rfl, hv0, hv1, HW⟩ := hrel
            by_cases hlm : m < lk
            · obtain ⟨b2, off2, e2, hc2, _⟩ := hin.at hlm
              subst e2
              have hsz := HZ.out m (by have := HL.out; omega)
              obtain ⟨sk, hsk⟩ : ∃ sk, sk = vs k m := ⟨_, rfl⟩
              simp only [← hsk] at hc2 hsz
              clear hsk hin ho
              go_wp2
              · go_ret
                exact ⟨⟨_, rfl, fun h => by omega⟩, Below.refl _ _⟩
              · go_round
                case rel => exact ⟨m + 1, _, by omega, by go_num, rfl, by omega, by omega, by have := HW.out; simp only [Hid]; omega⟩
                case measure => simp [intOf]; omega
            · go_wp2
              go_round
              case rel => exact ⟨k + 1, _, by omega, by go_num, rfl, by omega, by omega, HW⟩
              case measure => simp [intOf]; omega
        · have HF : Hid (sumTo vl n1 ≤ 65536) := by
            have e : k = n1 := by omega
            have := HV.out
            rw [e] at this
            simp only [Hid]
            omega
          clear HV
          go_wp2_with fail
          obtain ⟨n, HN, l0, l1⟩ : ∃ m, Hid (m = min n0 n1) ∧ m ≤ n0 ∧ m ≤ n1 := ⟨min n0 n1, rfl, by omega, by omega⟩
          refine (paired_any a0 n0 c0 a1 n1 c1 n HN.out _).mono ?_
          rintro e w' ⟨rfl, rfl⟩
          clear HN
          go_wp2
          go_loopw [5, 10] (fun t i wr => ∃ (k : Nat) (u : Int), k ≤ n ∧ i = .int .i64 k ∧ t = .int .i64 u ∧ 0 ≤ u ∧ u ≤ 1048576 ∧ Below w'.heap.size w' wr) (fun _ i _ => n - (intOf i).toNat)
          case atStart => exact ⟨0, _, Nat.zero_le _, rfl, rfl, by omega, by omega, Below.refl _ _⟩
          case round =>
            clear hk hu0 hu1 hlt
            obtain ⟨k, u, hk, rfl, rfl, hu0, hu1, hbel⟩ := hrel
            by_cases hlt : k < n
            · obtain ⟨b, off, e0, hc, lb⟩ := ho.at (k := k) (by omega)
              obtain ⟨nb, no, e1, hcn, lbn⟩ := h0.at (k := k) (by omega)
              have hin := HI.out k (by omega)
              have hl20 := HSm.out.lens k (by omega)
              have hsn := HSm.out.names k (by omega)
              have HZ : Hid (∀ j, j < vl k → (vs k j).size ≤ 1048576) := HSm.out.vals k (by omega)
              subst e0 e1
              obtain ⟨ak, hak⟩ : ∃ x, x = va k := ⟨_, rfl⟩
              obtain ⟨lk, hlk⟩ : ∃ x, x = vl k := ⟨_, rfl⟩
              obtain ⟨ck, hck⟩ : ∃ x, x = vc k := ⟨_, rfl⟩
              obtain ⟨nk, hnk⟩ : ∃ x, x = nm k := ⟨_, rfl⟩
              simp only [← hak, ← hlk, ← hck, ← hnk] at hc hin hl20 hcn hsn
              have HL : Hid (lk = vl k) := hlk
              clear hak hlk hck hnk ho h0
              have rc := (hbel.cell (by exact lb)).trans hc
              have g0 : (0 : Int) ≤ (k : Int) := by omega
              have g1 : (k : Int) < (n0 : Int) := by omega
              have g2 : (k : Int) < (n1 : Int) := by omega
              go_wp2
              go_loopw [5, 11] (fun t i wr2 => ∃ (m : Nat) (u2 : Int), m ≤ lk ∧ i = .int .i64 m ∧ t = .int .i64 u2 ∧ 0 ≤ u2 ∧ u2 ≤ 1048576 ∧ Below w'.heap.size w' wr2) (fun _ i _ => lk - (intOf i).toNat)
              case atStart => exact ⟨0, _, Nat.zero_le _, rfl, rfl, by omega, by omega, hbel⟩
              case round =>
                obtain ⟨m, u2, hm, rfl, rfl, hv0, hv1, hbel2⟩ := hrel
                have rc := (hbel2.cell (by exact lb)).trans hc
                have rn := (hbel2.cell (by exact lbn)).trans hcn
                by_cases hlm : m < lk
                · obtain ⟨b2, off2, e2, hc2, lb2⟩ := hin.at hlm
                  subst e2
                  have rs := (hbel2.cell (by exact lb2)).trans hc2
                  have hsz := HZ.out m (by have := HL.out; omega)
                  obtain ⟨sk, hsk⟩ : ∃ sk, sk = vs k m := ⟨_, rfl⟩
                  simp only [← hsk] at rs hsz
                  have g3 : (0 : Int) ≤ (m : Int) := by omega
                  have g4 : (m : Int) < (lk : Int) := by omega
                  clear hsk hin hc2 hc hcn
                  go_wp2
                  go_quiet (fail)
                  go_wp2
                  · go_ret
                    exact ⟨⟨_, rfl, fun h => by omega⟩, below_drewN hbel2 _⟩
                  · go_roundw
                    case rel => exact ⟨m + 1, _, by omega, by go_num, rfl, by omega, by omega, below_drewN hbel2 _⟩
                    case measure => simp [intOf]; omega
                · go_wp2
                  go_roundw
                  case rel => exact ⟨k + 1, _, by omega, by go_num, rfl, by omega, by omega, hbel2⟩
                  case measure => simp [intOf]; omega
            · go_wp2
              go_ret
              exact ⟨⟨_, rfl, fun _ => HF.out⟩, hbel⟩

end Go.Proofs.Qxb6001792a
