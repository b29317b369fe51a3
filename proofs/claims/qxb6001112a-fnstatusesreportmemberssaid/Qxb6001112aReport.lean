/-
  FnStatusesReportMembers: the walk.
-/
import Derived.Test.Qxb6001112aLawKit
namespace Go.Proofs.Qxb6001112a
open Go.RowKit

set_option maxRecDepth 100000 in
set_option maxHeartbeats 4000000 in
theorem report_walk (a0 : Option Addr) (n0 c0 : Nat) (a1 : Option Addr) (n1 c1 : Nat) (a2 : Option Addr) (n2 c2 : Nat) (index : Int) (fi : Nat → Int) (fa : Nat → ByteArray) (fp : Nat → Int) (w : World)
    (h0 : Lies w a0 n0 (fun i => .int .u64 (fi i))) (h1 : Lies w a1 n1 (fun i => .string (fa i))) (h2 : Lies w a2 n2 (fun i => .int .u8 (fp i))) :
    Calls Try.prog 4 #[.slice a0 n0 c0, .slice a1 n1 c1, .slice a2 n2 c2, .int .u64 index] w fun e w' => e = .returned (.bool true) ∧ Below w.heap.size w w' := by
  go_enter Try.func4, Try.ntmps4
  go_wp2_with fail
  refine (bytesReportMembers a0 n0 c0 a1 n1 c1 a2 n2 c2 index fa w h1).mono ?_
  rintro e w' ⟨⟨b, rfl, _⟩, rfl⟩
  cases b
  · go_wp2
    go_ret
    exact ⟨rfl, Below.refl _ _⟩
  go_wp2_with fail
  refine (tooBig_any a0 a1 a2 none none n0 n1 n2 0 0 c0 c1 c2 0 0 fa _ h1).mono ?_
  rintro e w' ⟨⟨b, rfl, hbd⟩, rfl⟩
  cases b
  case true =>
    go_wp2
    go_ret
    exact ⟨rfl, Below.refl _ _⟩
  obtain ⟨b0, b1, b2, _, _⟩ := hbd rfl
  clear hbd
  go_wp2_with fail
  refine (cloneU64_any a0 n0 c0 fi _ h0 b0).mono ?_
  rintro e wa ⟨a0', rfl, hcl, hba⟩
  have k0 := hcl.lies
  have k1 := h1.below hba
  have k2 := h2.below hba
  clear hcl h0 h1 h2
  go_wp2_with fail
  refine (cloneStr_any a1 n1 c1 fa _ k1 b1).mono ?_
  rintro e wb ⟨a1', rfl, hcl, hbb⟩
  have m0 := k0.below hbb
  have m1 := hcl.lies
  have m2 := k2.below hbb
  have hB := hba.trans (hbb.mono hba.size)
  clear hcl k0 k1 k2 hba hbb
  go_wp2_with fail
  refine (cloneU8_any a2 n2 c2 fp _ m2 b2).mono ?_
  rintro e wc ⟨a2', rfl, hcl, hbc⟩
  have k0 := m0.below hbc
  have k1 := m1.below hbc
  have k2 := hcl.lies
  have hC := hB.trans (hbc.mono hB.size)
  clear hcl m0 m1 m2 hB hbc
  go_wp2_with fail
  obtain ⟨n12, H12, d1, d2⟩ : ∃ m, Hid (m = min n1 n2) ∧ m ≤ n1 ∧ m ≤ n2 := ⟨min n1 n2, rfl, by omega, by omega⟩
  refine (min_nat n1 n2 n12 H12.out _).mono ?_
  rintro e w' ⟨rfl, rfl⟩
  go_wp2_with fail
  obtain ⟨n, HN, l0, l12⟩ : ∃ m, Hid (m = min n0 n12) ∧ m ≤ n0 ∧ m ≤ n12 := ⟨min n0 n12, rfl, by omega, by omega⟩
  refine (min_nat n0 n12 n HN.out _).mono ?_
  rintro e w' ⟨rfl, rfl⟩
  have l1 : n ≤ n1 := by omega
  have l2 : n ≤ n2 := by omega
  clear H12 HN d1 d2 l12
  have l6 : n ≤ 65536 := by omega
  go_wp2_with fail
  refine (build_any a0' a1' a2' n0 n1 n2 n0 n1 n2 n fi fa fp _ k0 k1 k2 l0 l1 l2 l6).mono ?_
  rintro e wd ⟨ac, cc, rfl, hm, hbd⟩
  have m0 := (k0.below hbd).mono l0
  have m1 := (k1.below hbd).mono l1
  have m2 := (k2.below hbd).mono l2
  have hD := hC.trans (hbd.mono hC.size)
  clear k0 k1 k2 hC hbd
  go_wp2_with fail
  refine (zzStats_nil ac n cc index (mk fi fa fp n) _ hm (mk_length _ _ _ _).symm l6).mono ?_
  rintro e we ⟨sa, sc, ss, rfl, hs, hrep, hnone, hbe⟩
  have k0 := m0.below hbe
  have k1 := m1.below hbe
  have k2 := m2.below hbe
  have hE := hD.trans (hbe.mono hD.size)
  have HR : Hid (Reports (jointB (mk fi fa fp n)) index (mk fi fa fp n) ss) := hrep
  have HO : Hid (∀ s ∈ ss, s.mt = none) := hnone
  clear m0 m1 m2 hD hbe hm hrep hnone
  go_wp2
  go_loop [12, 13] (fun j i => ∃ (k : Nat) (b : Bool), k ≤ n ∧ i = .int .i64 k ∧ j = .bool b ∧ Hid (b = jointB (mk fi fa fp k))) (fun _ i => n - (intOf i).toNat)
  case atStart => exact ⟨0, false, Nat.zero_le _, rfl, rfl, rfl⟩
  case round =>
    obtain ⟨k, b, hk, rfl, rfl, hj⟩ := hrel
    by_cases hlt : k < n
    · obtain ⟨pb, po, e0, hc, hlb⟩ := k2.at hlt
      subst e0
      obtain ⟨p, hp⟩ : ∃ p, p = fp k := ⟨_, rfl⟩
      have HP : Hid (p = fp k) := hp
      simp only [← hp] at hc
      clear hp
      have HJ : Hid (jointB (mk fi fa fp (k + 1)) = (b || (p == 1 || p == 2))) := by unfold Hid; rw [hj.out, HP.out]; exact jointB_mk_succ fi fa fp k
      clear k0 k1 hs
      by_cases p1 : p = 1
      · subst p1
        go_wp2
        go_round
        case rel => exact ⟨k + 1, true, by omega, by go_num, rfl, by unfold Hid; rw [HJ.out]; simp⟩
        case measure => simp [intOf]; omega
      by_cases p2 : p = 2
      · subst p2
        clear p1
        go_wp2
        go_round
        case rel => exact ⟨k + 1, true, by omega, by go_num, rfl, by unfold Hid; rw [HJ.out]; simp⟩
        case measure => simp [intOf]; omega
      · have t1 : (p == 1) = false := by simp [p1]
        have t2 : (p == 2) = false := by simp [p2]
        go_wp2
        go_round
        case rel => exact ⟨k + 1, b, by omega, by go_num, rfl, by unfold Hid; rw [HJ.out]; simp [t1, t2]⟩
        case measure => simp [intOf]; omega
    · have e : n = k := by omega
      subst e
      clear hlt hk
      rw [← hj.out] at HR
      clear hj
      go_wp2
      go_loopw [14] (fun i wr => ∃ k : Nat, k ≤ n ∧ i = .int .i64 k ∧ Below we.heap.size we wr) (fun i _ => n - (intOf i).toNat)
      case atStart => exact ⟨0, Nat.zero_le _, rfl, Below.refl _ _⟩
      case round =>
        obtain ⟨k, hk, rfl, hbel⟩ := hrel
        by_cases hlt : k < n
        · obtain ⟨mt, hst⟩ := HR.out.at (mk_at fi fa fp n k hlt)
          have hmt : mt = none := HO.out _ (List.mem_of_getElem? hst)
          subst hmt
          obtain ⟨g, e0, s0, s1, s2, s3, s4, s5, hg⟩ := hs.at hst
          obtain ⟨ib, io, e1, ci, li⟩ := k0.at hlt
          obtain ⟨ab, ao, e2, ca, la⟩ := k1.at hlt
          obtain ⟨pb, po, e3, cp, lp⟩ := k2.at hlt
          obtain ⟨id, hid⟩ : ∃ p, p = fi k := ⟨_, rfl⟩
          obtain ⟨ad, had⟩ : ∃ p, p = fa k := ⟨_, rfl⟩
          obtain ⟨p, hp⟩ : ∃ p, p = fp k := ⟨_, rfl⟩
          simp only [← hid, ← had, ← hp] at s0 s1 s2 s3 s4 s5 ci ca cp
          clear hid had hp hst hs k0 k1 k2 HR HO
          subst e0 e1 e2 e3
          have s0 := (hbel.cell (by exact hg)).trans s0
          have s1 := (hbel.cell (by exact hg)).trans s1
          have s2 := (hbel.cell (by exact hg)).trans s2
          have s3 := (hbel.cell (by exact hg)).trans s3
          have s4 := (hbel.cell (by exact hg)).trans s4
          have s5 := (hbel.cell (by exact hg)).trans s5
          have ci := (hbel.cell (by exact li)).trans ci
          have ca := (hbel.cell (by exact la)).trans ca
          have cp := (hbel.cell (by exact lp)).trans cp
          have hsz := hbel.size
          have z0 : (0 : Int) ≤ (k : Int) := by omega
          have z1 : (k : Int) < (n0 : Int) := by omega
          have z2 : (k : Int) < (n1 : Int) := by omega
          have z3 : (k : Int) < (n2 : Int) := by omega
          have z4 : (k : Int) < (n : Int) := by omega
          have y0 : g < wr.heap.size := by omega
          have y1 : ib < wr.heap.size := by omega
          have y2 : ab < wr.heap.size := by omega
          have y3 : pb < wr.heap.size := by omega
          have ci1 : ∀ o, (wr.alloc o).cell? ⟨ib, io + k, none⟩ = some (.int .u64 id) := fun o => cell_later ((Below.refl _ wr).alloc (Nat.le_refl _) o) ci
          have ca1 : ∀ o, (wr.alloc o).cell? ⟨ab, ao + k, none⟩ = some (.string ad) := fun o => cell_later ((Below.refl _ wr).alloc (Nat.le_refl _) o) ca
          have cp1 : ∀ o, (wr.alloc o).cell? ⟨pb, po + k, none⟩ = some (.int .u8 p) := fun o => cell_later ((Below.refl _ wr).alloc (Nat.le_refl _) o) cp
          cases b
          · simp only [Bool.false_eq_true, if_false] at s3
            go_wp2
            go_quiet (fail)
            go_wp2
            go_quiet (fail)
            go_wp2
            go_roundw
            case rel => exact ⟨k + 1, by omega, by go_num, by first | exact below_drewN (bnew hbel _) _ | exact bnew (below_drewN hbel _) _⟩
            case measure => simp [intOf]; omega
          · simp only [if_true] at s3
            by_cases p0 : p = 0
            · subst p0
              go_wp2
              go_quiet (fail)
              go_wp2
              go_quiet (fail)
              go_wp2
              go_quiet (fail)
              go_wp2
              go_roundw
              case rel => exact ⟨k + 1, by omega, by go_num, by first | exact below_drewN (bnew hbel _) _ | exact bnew (below_drewN hbel _) _⟩
              case measure => simp [intOf]; omega
            · have t0 : (p != 0) = true := by simp [p0]
              clear p0
              go_wp2
              go_quiet (fail)
              go_wp2
              go_quiet (fail)
              go_wp2
              go_quiet (fail)
              go_wp2
              go_roundw
              case rel => exact ⟨k + 1, by omega, by go_num, by first | exact below_drewN (bnew hbel _) _ | exact bnew (below_drewN hbel _) _⟩
              case measure => simp [intOf]; omega
        · go_wp2
          go_ret
          exact ⟨rfl, hE.trans (hbel.mono hE.size)⟩

end Go.Proofs.Qxb6001112a
