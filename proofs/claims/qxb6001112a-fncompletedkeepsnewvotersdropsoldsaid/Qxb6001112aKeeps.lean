/-
  FnCompletedKeepsNewVotersDropsOld: the plain laws, and the walk.
-/
import Derived.Test.Qxb6001112aNotJoint
namespace Go.Proofs.Qxb6001112a
open Go.RowKit

/-- Where the k-th member is kept, it stands in the completed configuration behind what the members ahead of it left. -/
theorem compl_at (l : List Mem) (k : Nat) (m x : Mem) (hm : l[k]? = some m) (hx : complOne m = some x) : (compl l)[(compl (l.take k)).length]? = some x := by
  have hk : k < l.length := (List.getElem?_eq_some_iff.1 hm).1
  have e : compl l = compl (l.take k) ++ x :: compl (l.drop (k + 1)) := by
    conv => lhs; rw [← List.take_append_drop k l]
    unfold compl
    rw [List.filterMap_append]
    congr 1
    rw [List.drop_eq_getElem_cons hk]
    have : l[k] = m := by
      have h1 := List.getElem?_eq_getElem hk
      rw [hm] at h1
      simpa using h1.symm
    rw [this, List.filterMap_cons, hx]
  rw [e, List.getElem?_append_right (Nat.le_refl _)]
  simp

theorem complOne_drop (i : Int) (s : ByteArray) : complOne ⟨i, s, 1⟩ = none := by simp [complOne]
theorem complOne_three (i : Int) (s : ByteArray) : complOne ⟨i, s, 3⟩ = some ⟨i, s, 3⟩ := by simp [complOne]
theorem complOne_two (i : Int) (s : ByteArray) : complOne ⟨i, s, 2⟩ = some ⟨i, s, 3⟩ := by simp [complOne]
theorem complOne_zero (i : Int) (s : ByteArray) : complOne ⟨i, s, 0⟩ = some ⟨i, s, 0⟩ := by simp [complOne]

theorem mk_take (fi : Nat → Int) (fa : Nat → ByteArray) (fp : Nat → Int) (n k : Nat) (h : k ≤ n) : (mk fi fa fp n).take k = mk fi fa fp k := by
  apply List.ext_getElem?
  intro i
  by_cases hi : i < k
  · rw [List.getElem?_take_of_lt hi, mk_at _ _ _ _ _ (by omega), mk_at _ _ _ _ _ hi]
  · rw [List.getElem?_eq_none (by simp; omega), List.getElem?_eq_none (by rw [mk_length]; omega)]

/-- One round: the place in the completed configuration, and how far it has come. -/
theorem compl_round (fi : Nat → Int) (fa : Nat → ByteArray) (fp : Nat → Int) (n k : Nat) (h : k < n) (x : Mem) (hx : complOne ⟨fi k, fa k, fp k⟩ = some x) :
    (compl (mk fi fa fp n))[(compl (mk fi fa fp k)).length]? = some x ∧ (compl (mk fi fa fp (k + 1))).length = (compl (mk fi fa fp k)).length + 1 := by
  have hm := mk_at fi fa fp n k h
  have h1 := compl_at _ k _ x hm hx
  rw [mk_take fi fa fp n k (by omega)] at h1
  refine ⟨h1, ?_⟩
  have h2 := compl_take _ k _ hm
  rw [mk_take fi fa fp n k (by omega), mk_take fi fa fp n (k + 1) (by omega), hx] at h2
  rw [h2]
  simp

theorem compl_skip (fi : Nat → Int) (fa : Nat → ByteArray) (fp : Nat → Int) (n k : Nat) (h : k < n) (hx : complOne ⟨fi k, fa k, fp k⟩ = none) :
    (compl (mk fi fa fp (k + 1))).length = (compl (mk fi fa fp k)).length := by
  have hm := mk_at fi fa fp n k h
  have h2 := compl_take _ k _ hm
  rw [mk_take fi fa fp n k (by omega), mk_take fi fa fp n (k + 1) (by omega), hx] at h2
  rw [h2]
  simp

set_option maxRecDepth 100000 in
set_option maxHeartbeats 4000000 in
theorem keeps_walk (a0 : Option Addr) (n0 c0 : Nat) (a1 : Option Addr) (n1 c1 : Nat) (a2 : Option Addr) (n2 c2 : Nat) (fi : Nat → Int) (fa : Nat → ByteArray) (fp : Nat → Int) (w : World)
    (h0 : Lies w a0 n0 (fun i => .int .u64 (fi i))) (h1 : Lies w a1 n1 (fun i => .string (fa i))) (h2 : Lies w a2 n2 (fun i => .int .u8 (fp i))) (hp : ∀ i, 0 ≤ fp i) :
    Calls Try.prog 8 #[.slice a0 n0 c0, .slice a1 n1 c1, .slice a2 n2 c2] w fun e w' => e = .returned (.bool true) ∧ Below w.heap.size w w' := by
  have HP : Hid (∀ i, 0 ≤ fp i) := hp
  clear hp
  go_enter Try.func8, Try.ntmps8
  go_wp2_with fail
  refine (bytesCompletedKeeps a0 n0 c0 a1 n1 c1 a2 n2 c2 fa w h1).mono ?_
  rintro e w' ⟨⟨b, rfl, _⟩, rfl⟩
  cases b
  · go_wp2
    go_ret
    exact ⟨rfl, Below.refl _ _⟩
  go_wp2_with fail
  refine (tooBig_any a0 a1 a2 none none n0 n1 n2 0 0 c0 c1 c2 0 0 fa _ h1).mono ?_
  rintro e w' ⟨⟨b, rfl, hbd⟩, rfl⟩
  cases b
  case true =>
    go_wp2
    go_ret
    exact ⟨rfl, Below.refl _ _⟩
  obtain ⟨b0, b1, b2, _, _⟩ := hbd rfl
  clear hbd
  go_wp2_with fail
  obtain ⟨n12, H12, d1, d2⟩ : ∃ m, Hid (m = min n1 n2) ∧ m ≤ n1 ∧ m ≤ n2 := ⟨min n1 n2, rfl, by omega, by omega⟩
  refine (min_nat n1 n2 n12 H12.out _).mono ?_
  rintro e w' ⟨rfl, rfl⟩
  go_wp2_with fail
  obtain ⟨n, HN, l0, l12⟩ : ∃ m, Hid (m = min n0 n12) ∧ m ≤ n0 ∧ m ≤ n12 := ⟨min n0 n12, rfl, by omega, by omega⟩
  refine (min_nat n0 n12 n HN.out _).mono ?_
  rintro e w' ⟨rfl, rfl⟩
  have l1 : n ≤ n1 := by omega
  have l2 : n ≤ n2 := by omega
  clear H12 HN d1 d2 l12
  have l6 : n ≤ 65536 := by omega
  go_wp2_with fail
  refine (partsValid_any a2 n2 c2 n fp _ h2 l2 b2).mono ?_
  rintro e w' ⟨⟨b, rfl, hval⟩, rfl⟩
  cases b
  · go_wp2
    go_ret
    exact ⟨rfl, Below.refl _ _⟩
  have HV : Hid (allLe fp n) := hval rfl
  clear hval
  go_wp2_with fail
  refine (cloneU64_any a0 n0 c0 fi _ h0 b0).mono ?_
  rintro e wa ⟨a0', rfl, hcl, hba⟩
  have k0 := hcl.lies
  have k1 := h1.below hba
  have k2 := h2.below hba
  clear hcl h0 h1 h2
  go_wp2_with fail
  refine (cloneStr_any a1 n1 c1 fa _ k1 b1).mono ?_
  rintro e wb ⟨a1', rfl, hcl, hbb⟩
  have m0 := k0.below hbb
  have m1 := hcl.lies
  have m2 := k2.below hbb
  have hB := hba.trans (hbb.mono hba.size)
  clear hcl k0 k1 k2 hba hbb
  go_wp2_with fail
  refine (cloneU8_any a2 n2 c2 fp _ m2 b2).mono ?_
  rintro e wc ⟨a2', rfl, hcl, hbc⟩
  have k0 := m0.below hbc
  have k1 := m1.below hbc
  have k2 := hcl.lies
  have hC := hB.trans (hbc.mono hB.size)
  clear hcl m0 m1 m2 hB hbc
  go_wp2_with fail
  refine (build_any a0' a1' a2' n0 n1 n2 n0 n1 n2 n fi fa fp _ k0 k1 k2 l0 l1 l2 l6).mono ?_
  rintro e wd ⟨ac, cc, rfl, hm, hbd⟩
  have m0 := (k0.below hbd).mono l0
  have m1 := (k1.below hbd).mono l1
  have m2 := (k2.below hbd).mono l2
  have hD := hC.trans (hbd.mono hC.size)
  clear k0 k1 k2 hC hbd
  go_wp2_with fail
  refine (zzCompl_any ac n cc (mk fi fa fp n) _ hm (mk_length _ _ _ _).symm l6).mono ?_
  rintro e we ⟨ad, m, cd, rfl, hml, hd, hbe⟩
  have HM : Hid (m = (compl (mk fi fa fp n)).length) := hml
  have hm6 : m ≤ 65536 := by have h1 := compl_length (mk fi fa fp n); rw [mk_length] at h1; omega
  have k0 := m0.below hbe
  have k1 := m1.below hbe
  have k2 := m2.below hbe
  have hE := hD.trans (hbe.mono hD.size)
  clear hml hbe hm hD m0 m1 m2
  go_wp2
  go_loopw [10, 11] (fun jv i wr => ∃ (k j : Nat), k ≤ n ∧ j ≤ k ∧ i = .int .i64 k ∧ jv = .int .i64 j ∧ Hid (j = (compl (mk fi fa fp k)).length) ∧ Below we.heap.size we wr) (fun _ i _ => n - (intOf i).toNat)
  case atStart => exact ⟨0, 0, Nat.zero_le _, Nat.zero_le _, rfl, rfl, rfl, Below.refl _ _⟩
  case round =>
    obtain ⟨k, j, hk, hjk, rfl, rfl, HJ, hbel⟩ := hrel
    by_cases hlt : k < n
    · obtain ⟨ib, io, e1, ci, li⟩ := k0.at hlt
      obtain ⟨ab, ao, e2, ca, la⟩ := k1.at hlt
      obtain ⟨pb, po, e3, cp, lp⟩ := k2.at hlt
      obtain ⟨id, hid⟩ : ∃ p, p = fi k := ⟨_, rfl⟩
      obtain ⟨ad, had⟩ : ∃ p, p = fa k := ⟨_, rfl⟩
      obtain ⟨p, hp⟩ : ∃ p, p = fp k := ⟨_, rfl⟩
      simp only [← hid, ← had, ← hp] at ci ca cp
      have HI : Hid (id = fi k) := hid
      have HA : Hid (ad = fa k) := had
      have HQ : Hid (p = fp k) := hp
      have pl : 0 ≤ p := by rw [hp]; exact HP.out k
      have pu : p ≤ 3 := by rw [hp]; exact HV.out k hlt
      clear hid had hp k0 k1 k2
      subst e1 e2 e3
      have ci := (hbel.cell (by exact li)).trans ci
      have ca := (hbel.cell (by exact la)).trans ca
      have cp := (hbel.cell (by exact lp)).trans cp
      have hsz := hbel.size
      have z0 : (0 : Int) ≤ (k : Int) := by omega
      have z1 : (k : Int) < (n0 : Int) := by omega
      have z2 : (k : Int) < (n1 : Int) := by omega
      have z5 : (k : Int) < (n2 : Int) := by omega
      have y3 : pb < wr.heap.size := by omega
      have cp1 : ∀ q o, ((wr.drewN q).alloc o).cell? ⟨pb, po + k, none⟩ = some (.int .u8 p) := fun q o => cell_later ((below_drewN (Below.refl _ wr) q).alloc (Nat.le_refl _) o) cp
      rcases (show p = 1 ∨ p = 0 ∨ p = 2 ∨ p = 3 by omega) with q | q | q | q
      · subst q
        have hj1 := compl_skip fi fa fp n k hlt (by rw [← HI.out, ← HA.out, ← HQ.out]; exact complOne_drop _ _)
        have HJ1 : Hid (j = (compl (mk fi fa fp (k + 1))).length) := by unfold Hid; rw [hj1]; exact HJ.out
        clear hj1
        go_wp2
        go_roundw
        case rel => exact ⟨k + 1, j, by omega, by omega, by go_num, rfl, HJ1, hbel⟩
        case measure => simp [intOf]; omega
      · subst q
        obtain ⟨hx, hj1⟩ := compl_round fi fa fp n k hlt ⟨id, ad, 0⟩ (by rw [← HI.out, ← HA.out, ← HQ.out]; exact complOne_zero _ _)
        have hjm : j < m := by rw [HJ.out, HM.out]; exact (List.getElem?_eq_some_iff.1 hx).1
        obtain ⟨g, i', s', p', e0, hmk, r0, r1, r2, hg⟩ := hd.at (k := j) (by have := HM.out; omega)
        rw [HJ.out, hx] at hmk
        simp only [Option.some.injEq, Mem.mk.injEq] at hmk
        obtain ⟨rfl, rfl, rfl⟩ := hmk
        have HJ1 : Hid (j + 1 = (compl (mk fi fa fp (k + 1))).length) := by unfold Hid; rw [hj1, ← HJ.out]
        subst e0
        have r0 := (hbel.cell (by exact hg)).trans r0
        have r1 := (hbel.cell (by exact hg)).trans r1
        have r2 := (hbel.cell (by exact hg)).trans r2
        have z3 : (j : Int) < (m : Int) := by omega
        have z4 : (0 : Int) ≤ (j : Int) := by omega
        clear hx hj1 hd
        go_wp2
        go_quiet (fail)
        go_wp2_with (go_at_call 24; refine (partOf_any _ _ _ _).mono ?_; rintro e w' ⟨rfl, rfl⟩)
        go_roundw
        case rel => exact ⟨k + 1, j + 1, by omega, by omega, by go_num, by go_num, HJ1, by first | exact bnew (below_drewN hbel _) _ | exact below_drewN (bnew hbel _) _⟩
        case measure => simp [intOf]; omega
      · subst q
        obtain ⟨hx, hj1⟩ := compl_round fi fa fp n k hlt ⟨id, ad, 3⟩ (by rw [← HI.out, ← HA.out, ← HQ.out]; exact complOne_two _ _)
        have hjm : j < m := by rw [HJ.out, HM.out]; exact (List.getElem?_eq_some_iff.1 hx).1
        obtain ⟨g, i', s', p', e0, hmk, r0, r1, r2, hg⟩ := hd.at (k := j) (by have := HM.out; omega)
        rw [HJ.out, hx] at hmk
        simp only [Option.some.injEq, Mem.mk.injEq] at hmk
        obtain ⟨rfl, rfl, rfl⟩ := hmk
        have HJ1 : Hid (j + 1 = (compl (mk fi fa fp (k + 1))).length) := by unfold Hid; rw [hj1, ← HJ.out]
        subst e0
        have r0 := (hbel.cell (by exact hg)).trans r0
        have r1 := (hbel.cell (by exact hg)).trans r1
        have r2 := (hbel.cell (by exact hg)).trans r2
        have z3 : (j : Int) < (m : Int) := by omega
        have z4 : (0 : Int) ≤ (j : Int) := by omega
        clear hx hj1 hd
        go_wp2
        go_quiet (fail)
        go_wp2_with (go_at_call 24; refine (partOf_any _ _ _ _).mono ?_; rintro e w' ⟨rfl, rfl⟩)
        go_roundw
        case rel => exact ⟨k + 1, j + 1, by omega, by omega, by go_num, by go_num, HJ1, by first | exact bnew (below_drewN hbel _) _ | exact below_drewN (bnew hbel _) _⟩
        case measure => simp [intOf]; omega
      · subst q
        obtain ⟨hx, hj1⟩ := compl_round fi fa fp n k hlt ⟨id, ad, 3⟩ (by rw [← HI.out, ← HA.out, ← HQ.out]; exact complOne_three _ _)
        have hjm : j < m := by rw [HJ.out, HM.out]; exact (List.getElem?_eq_some_iff.1 hx).1
        obtain ⟨g, i', s', p', e0, hmk, r0, r1, r2, hg⟩ := hd.at (k := j) (by have := HM.out; omega)
        rw [HJ.out, hx] at hmk
        simp only [Option.some.injEq, Mem.mk.injEq] at hmk
        obtain ⟨rfl, rfl, rfl⟩ := hmk
        have HJ1 : Hid (j + 1 = (compl (mk fi fa fp (k + 1))).length) := by unfold Hid; rw [hj1, ← HJ.out]
        subst e0
        have r0 := (hbel.cell (by exact hg)).trans r0
        have r1 := (hbel.cell (by exact hg)).trans r1
        have r2 := (hbel.cell (by exact hg)).trans r2
        have z3 : (j : Int) < (m : Int) := by omega
        have z4 : (0 : Int) ≤ (j : Int) := by omega
        clear hx hj1 hd
        go_wp2
        go_quiet (fail)
        go_wp2_with (go_at_call 24; refine (partOf_any _ _ _ _).mono ?_; rintro e w' ⟨rfl, rfl⟩)
        go_roundw
        case rel => exact ⟨k + 1, j + 1, by omega, by omega, by go_num, by go_num, HJ1, by first | exact bnew (below_drewN hbel _) _ | exact below_drewN (bnew hbel _) _⟩
        case measure => simp [intOf]; omega
    · have e : n = k := by omega
      have ej : m = j := by rw [HM.out, HJ.out, e]
      subst ej
      go_wp2
      go_ret
      exact ⟨by simp, hE.trans (hbel.mono hE.size)⟩

end Go.Proofs.Qxb6001112a
