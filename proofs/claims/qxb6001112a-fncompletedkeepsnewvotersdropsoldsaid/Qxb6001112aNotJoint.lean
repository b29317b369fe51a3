/-
  FnCompletedIsNotJointAndIdempotent: the plain laws, and the walk.
-/
import Derived.Test.Qxb6001112aLaws
namespace Go.Proofs.Qxb6001112a
open Go.RowKit

/-- What complOne leaves is neither an old voter nor a new one, and complOne leaves it alone. -/
theorem complOne_fix {m x : Mem} (h : complOne m = some x) : x.part ≠ 1 ∧ x.part ≠ 2 ∧ complOne x = some x := by
  obtain ⟨i, s, p⟩ := m
  simp only [complOne] at h
  by_cases h1 : p = 1
  · simp [h1] at h
  · by_cases h2 : p = 2 ∨ p = 3
    · simp only [h1, h2, if_false, if_true, Option.some.injEq] at h
      subst h
      simp [complOne]
    · simp only [h1, h2, if_false, Option.some.injEq] at h
      subst h
      have h3 : p ≠ 2 := fun e => h2 (.inl e)
      exact ⟨h1, h3, by simp [complOne, h1, h2]⟩

theorem compl_parts (l : List Mem) (k : Nat) (x : Mem) (h : (compl l)[k]? = some x) : x.part ≠ 1 ∧ x.part ≠ 2 := by
  have hm := List.mem_of_getElem? h
  obtain ⟨m, _, hx⟩ := List.mem_filterMap.1 hm
  exact ⟨(complOne_fix hx).1, (complOne_fix hx).2.1⟩

theorem filterMap_fix (l : List Mem) (h : ∀ x ∈ l, complOne x = some x) : compl l = l := by
  induction l with
  | nil => rfl
  | cons a t ih =>
    unfold compl
    rw [List.filterMap_cons, h a (List.mem_cons_self ..)]
    simp only
    rw [show t.filterMap complOne = t from ih (fun x hx => h x (List.mem_cons_of_mem _ hx))]

theorem compl_compl (l : List Mem) : compl (compl l) = compl l := by
  refine filterMap_fix _ fun x hx => ?_
  obtain ⟨m, _, he⟩ := List.mem_filterMap.1 hx
  exact (complOne_fix he).2.2

theorem compl_of_not_joint (l : List Mem) (h : jointB l = false) : compl l = l := by
  refine filterMap_fix _ fun x hx => ?_
  obtain ⟨k, hk⟩ := List.getElem?_of_mem hx
  have hn := jointB_false l h k x hk
  obtain ⟨i, s, p⟩ := x
  simp only at hn
  by_cases h3 : p = 3
  · subst h3; simp [complOne]
  · simp [complOne, hn.1, hn.2, h3]

set_option maxRecDepth 100000 in
set_option maxHeartbeats 4000000 in
theorem notJoint_walk (a0 : Option Addr) (n0 c0 : Nat) (a1 : Option Addr) (n1 c1 : Nat) (a2 : Option Addr) (n2 c2 : Nat) (fi : Nat → Int) (fa : Nat → ByteArray) (fp : Nat → Int) (w : World)
    (h0 : Lies w a0 n0 (fun i => .int .u64 (fi i))) (h1 : Lies w a1 n1 (fun i => .string (fa i))) (h2 : Lies w a2 n2 (fun i => .int .u8 (fp i))) :
    Calls Try.prog 7 #[.slice a0 n0 c0, .slice a1 n1 c1, .slice a2 n2 c2] w fun e w' => e = .returned (.bool true) ∧ Below w.heap.size w w' := by
  go_enter Try.func7, Try.ntmps7
  go_wp2_with fail
  refine (bytesCompletedIsNotJoint a0 n0 c0 a1 n1 c1 a2 n2 c2 fa w h1).mono ?_
  rintro e w' ⟨⟨b, rfl, _⟩, rfl⟩
  cases b
  · go_wp2
    go_ret
    exact ⟨rfl, Below.refl _ _⟩
  go_wp2_with fail
  refine (tooBig_any a0 a1 a2 none none n0 n1 n2 0 0 c0 c1 c2 0 0 fa _ h1).mono ?_
  rintro e w' ⟨⟨b, rfl, hbd⟩, rfl⟩
  cases b
  case true =>
    go_wp2
    go_ret
    exact ⟨rfl, Below.refl _ _⟩
  obtain ⟨b0, b1, b2, _, _⟩ := hbd rfl
  clear hbd
  go_wp2_with fail
  refine (cloneU64_any a0 n0 c0 fi _ h0 b0).mono ?_
  rintro e wa ⟨a0', rfl, hcl, hba⟩
  have k0 := hcl.lies
  have k1 := h1.below hba
  have k2 := h2.below hba
  clear hcl h0 h1 h2
  go_wp2_with fail
  refine (cloneStr_any a1 n1 c1 fa _ k1 b1).mono ?_
  rintro e wb ⟨a1', rfl, hcl, hbb⟩
  have m0 := k0.below hbb
  have m1 := hcl.lies
  have m2 := k2.below hbb
  have hB := hba.trans (hbb.mono hba.size)
  clear hcl k0 k1 k2 hba hbb
  go_wp2_with fail
  refine (cloneU8_any a2 n2 c2 fp _ m2 b2).mono ?_
  rintro e wc ⟨a2', rfl, hcl, hbc⟩
  have k0 := m0.below hbc
  have k1 := m1.below hbc
  have k2 := hcl.lies
  have hC := hB.trans (hbc.mono hB.size)
  clear hcl m0 m1 m2 hB hbc
  go_wp2_with fail
  obtain ⟨n12, H12, d1, d2⟩ : ∃ m, Hid (m = min n1 n2) ∧ m ≤ n1 ∧ m ≤ n2 := ⟨min n1 n2, rfl, by omega, by omega⟩
  refine (min_nat n1 n2 n12 H12.out _).mono ?_
  rintro e w' ⟨rfl, rfl⟩
  go_wp2_with fail
  obtain ⟨n, HN, l0, l12⟩ : ∃ m, Hid (m = min n0 n12) ∧ m ≤ n0 ∧ m ≤ n12 := ⟨min n0 n12, rfl, by omega, by omega⟩
  refine (min_nat n0 n12 n HN.out _).mono ?_
  rintro e w' ⟨rfl, rfl⟩
  have l1 : n ≤ n1 := by omega
  have l2 : n ≤ n2 := by omega
  clear H12 HN d1 d2 l12
  have l6 : n ≤ 65536 := by omega
  go_wp2_with fail
  refine (build_any a0' a1' a2' n0 n1 n2 n0 n1 n2 n fi fa fp _ k0 k1 k2 l0 l1 l2 l6).mono ?_
  rintro e wd ⟨ac, cc, rfl, hm, hbd⟩
  have m0 := (k0.below hbd).mono l0
  have m1 := (k1.below hbd).mono l1
  have m2 := (k2.below hbd).mono l2
  have hD := hC.trans (hbd.mono hC.size)
  clear k0 k1 k2 hC hbd
  go_wp2
  go_loop [9, 10] (fun j i => ∃ (k : Nat) (b : Bool), k ≤ n ∧ i = .int .i64 k ∧ j = .bool b ∧ Hid (b = jointB (mk fi fa fp k))) (fun _ i => n - (intOf i).toNat)
  case atStart => exact ⟨0, false, Nat.zero_le _, rfl, rfl, rfl⟩
  case round =>
    obtain ⟨k, b, hk, rfl, rfl, hj⟩ := hrel
    by_cases hlt : k < n
    · obtain ⟨pb, po, e0, hc, hlb⟩ := m2.at hlt
      subst e0
      obtain ⟨p, hp⟩ : ∃ p, p = fp k := ⟨_, rfl⟩
      have HP : Hid (p = fp k) := hp
      simp only [← hp] at hc
      clear hp
      have HJ : Hid (jointB (mk fi fa fp (k + 1)) = (b || (p == 1 || p == 2))) := by unfold Hid; rw [hj.out, HP.out]; exact jointB_mk_succ fi fa fp k
      clear m0 m1 hm
      by_cases p1 : p = 1
      · subst p1
        go_wp2
        go_round
        case rel => exact ⟨k + 1, true, by omega, by go_num, rfl, by unfold Hid; rw [HJ.out]; simp⟩
        case measure => simp [intOf]; omega
      by_cases p2 : p = 2
      · subst p2
        clear p1
        go_wp2
        go_round
        case rel => exact ⟨k + 1, true, by omega, by go_num, rfl, by unfold Hid; rw [HJ.out]; simp⟩
        case measure => simp [intOf]; omega
      · have t1 : (p == 1) = false := by simp [p1]
        have t2 : (p == 2) = false := by simp [p2]
        go_wp2
        go_round
        case rel => exact ⟨k + 1, b, by omega, by go_num, rfl, by unfold Hid; rw [HJ.out]; simp [t1, t2]⟩
        case measure => simp [intOf]; omega
    · have e : n = k := by omega
      subst e
      clear hlt hk m0 m1 m2
      go_wp2_with fail
      refine (zzCompl_any ac n cc (mk fi fa fp n) _ hm (mk_length _ _ _ _).symm l6).mono ?_
      rintro e we ⟨ad, m, cd, rfl, hml, hd, hbe⟩
      have HM : Hid (m = (compl (mk fi fa fp n)).length) := hml
      have hm6 : m ≤ 65536 := by have h1 := compl_length (mk fi fa fp n); rw [mk_length] at h1; omega
      have hcm := hm.below hbe
      have hE := hD.trans (hbe.mono hD.size)
      clear hml hbe hm hD
      go_wp2
      go_loopw [12] (fun i wr => ∃ k : Nat, k ≤ m ∧ i = .int .i64 k ∧ Below we.heap.size we wr) (fun i _ => m - (intOf i).toNat)
      case atStart => exact ⟨0, Nat.zero_le _, rfl, Below.refl _ _⟩
      case round =>
        obtain ⟨k, hk, rfl, hbel⟩ := hrel
        by_cases hlt : k < m
        · obtain ⟨g, i, s, p, e0, hmk, r0, r1, r2, hg⟩ := hd.at (k := k) (by have := HM.out; omega)
          obtain ⟨p1, p2⟩ := compl_parts _ _ _ hmk
          simp only at p1 p2
          subst e0
          have r0 := (hbel.cell (by exact hg)).trans r0
          have r1 := (hbel.cell (by exact hg)).trans r1
          have r2 := (hbel.cell (by exact hg)).trans r2
          have t1 : (p == 1) = false := by simp [p1]
          have t2 : (p == 2) = false := by simp [p2]
          clear hmk hd p1 p2 hcm
          go_wp2_with (go_at_call 24; refine (partOf_any _ _ _ _).mono ?_; rintro e w' ⟨rfl, rfl⟩)
          go_roundw
          case rel => exact ⟨k + 1, by omega, by go_num, bnew hbel _⟩
          case measure => simp [intOf]; omega
        · have hd2 := hd.below hbel
          have hcm2 := hcm.below hbel
          have hF := hE.trans (hbel.mono hE.size)
          clear hd hcm hE hbel
          go_wp2_with fail
          refine (zzCompl_any ad m cd (compl (mk fi fa fp n)) _ hd2 HM.out hm6).mono ?_
          rintro e wf ⟨ae, m', ce, rfl, hml, he, hbf⟩
          rw [compl_compl] at hml he
          have em : m = m' := by rw [hml]; exact HM.out
          subst em
          have hd3 := hd2.below hbf
          have hcm3 := hcm2.below hbf
          have hG := hF.trans (hbf.mono hF.size)
          clear hml hd2 hcm2 hF hbf
          go_wp2_with fail
          refine (same_any ae ad m ce cd (compl (mk fi fa fp n)) _ he hd3 HM.out hm6).mono ?_
          rintro e wg ⟨rfl, hbg⟩
          have hd4 := hd3.below hbg
          have hcm4 := hcm3.below hbg
          have hH := hG.trans (hbg.mono hG.size)
          clear he hd3 hcm3 hG hbg
          cases b
          · have ec := compl_of_not_joint (mk fi fa fp n) hj.out.symm
            rw [ec] at hd4
            have em : n = m := by have h1 := HM.out; rw [ec, mk_length] at h1; exact h1.symm
            subst em
            clear ec
            go_wp2_with fail
            refine (same_any ad ac n cd cc (mk fi fa fp n) _ hd4 hcm4 (mk_length _ _ _ _).symm l6).mono ?_
            rintro e wh ⟨rfl, hbh⟩
            go_wp2
            go_ret
            exact ⟨rfl, hH.trans (hbh.mono hH.size)⟩
          · go_wp2_with fail
            go_ret
            exact ⟨rfl, hH⟩

end Go.Proofs.Qxb6001112a
