/-
  FnStatusesRoundTrip: the walk.
-/
import Derived.Test.Qxb6001112aLaws
namespace Go.Proofs.Qxb6001112a
open Go.RowKit

set_option maxRecDepth 100000 in
set_option maxHeartbeats 4000000 in
theorem trip_walk (a0 : Option Addr) (n0 c0 : Nat) (a1 : Option Addr) (n1 c1 : Nat) (a2 : Option Addr) (n2 c2 : Nat) (index : Int) (a4 : Option Addr) (n4 c4 : Nat) (fi : Nat → Int) (fa : Nat → ByteArray) (fp : Nat → Int) (fm : Nat → Int) (w : World)
    (h0 : Lies w a0 n0 (fun i => .int .u64 (fi i))) (h1 : Lies w a1 n1 (fun i => .string (fa i))) (h2 : Lies w a2 n2 (fun i => .int .u8 (fp i))) (h4 : Lies w a4 n4 (fun i => .int .u64 (fm i))) (hp : ∀ i, 0 ≤ fp i) :
    Calls Try.prog 3 #[.slice a0 n0 c0, .slice a1 n1 c1, .slice a2 n2 c2, .int .u64 index, .slice a4 n4 c4] w fun e w' => e = .returned (.bool true) ∧ Below w.heap.size w w' := by
  have HP : Hid (∀ i, 0 ≤ fp i) := hp
  clear hp
  have qN : ∀ (w : World) (a : Option Addr) (n c n' c' : Nat), (binOp .neq 22 (.slice a n c) (.slice none n' c')).run Try.prog w = .ok (.bool (!a.isNone)) w := fun w a n c n' c' => run_neq_slice_nil_any w _ _ a n c n' c' Try.underlying22
  go_enter Try.func3, Try.ntmps3
  go_wp2_with fail
  refine (bytesRoundTrip a0 n0 c0 a1 n1 c1 a2 n2 c2 index a4 n4 c4 fa w h1).mono ?_
  rintro e w' ⟨⟨b, rfl, _⟩, rfl⟩
  cases b
  · go_wp2
    go_ret
    exact ⟨rfl, Below.refl _ _⟩
  go_wp2_with fail
  refine (tooBig_any a0 a1 a2 a4 none n0 n1 n2 n4 0 c0 c1 c2 c4 0 fa _ h1).mono ?_
  rintro e w' ⟨⟨b, rfl, hbd⟩, rfl⟩
  cases b
  case true =>
    go_wp2
    go_ret
    exact ⟨rfl, Below.refl _ _⟩
  obtain ⟨b0, b1, b2, b4, _⟩ := hbd rfl
  clear hbd
  go_wp2_with fail
  obtain ⟨n12, H12, d1, d2⟩ : ∃ m, Hid (m = min n1 n2) ∧ m ≤ n1 ∧ m ≤ n2 := ⟨min n1 n2, rfl, by omega, by omega⟩
  refine (min_nat n1 n2 n12 H12.out _).mono ?_
  rintro e w' ⟨rfl, rfl⟩
  go_wp2_with fail
  obtain ⟨n, HN, l0, l12⟩ : ∃ m, Hid (m = min n0 n12) ∧ m ≤ n0 ∧ m ≤ n12 := ⟨min n0 n12, rfl, by omega, by omega⟩
  refine (min_nat n0 n12 n HN.out _).mono ?_
  rintro e w' ⟨rfl, rfl⟩
  have l1 : n ≤ n1 := by omega
  have l2 : n ≤ n2 := by omega
  clear H12 HN d1 d2 l12
  have l6 : n ≤ 65536 := by omega
  rcases a4 with _ | am
  · have e4 : n4 = 0 := by
      rcases h4 with h | ⟨b, off, h, _⟩
      · exact h
      · cases h
    subst e4
    go_wp2_with fail
    refine (partsValid_any a2 n2 c2 n fp _ h2 l2 b2).mono ?_
    rintro e w' ⟨⟨b, rfl, hval⟩, rfl⟩
    cases b
    · go_wp2
      go_ret
      exact ⟨rfl, Below.refl _ _⟩
    have HV : Hid (allLe fp n) := hval rfl
    clear hval
    go_wp2_with fail
    refine (cloneU64_any a0 n0 c0 fi _ h0 b0).mono ?_
    rintro e wa ⟨a0', rfl, hcl, hba⟩
    have k0 := hcl.lies
    have k1 := h1.below hba
    have k2 := h2.below hba
    have k4 := h4.below hba
    clear hcl h0 h1 h2 h4
    go_wp2_with fail
    refine (cloneStr_any a1 n1 c1 fa _ k1 b1).mono ?_
    rintro e wb ⟨a1', rfl, hcl, hbb⟩
    have m0 := k0.below hbb
    have m1 := hcl.lies
    have m2 := k2.below hbb
    have m4 := k4.below hbb
    have hB := hba.trans (hbb.mono hba.size)
    clear hcl k0 k1 k2 k4 hba hbb
    go_wp2_with fail
    refine (cloneU8_any a2 n2 c2 fp _ m2 b2).mono ?_
    rintro e wc ⟨a2', rfl, hcl, hbc⟩
    have k0 := m0.below hbc
    have k1 := m1.below hbc
    have k2 := hcl.lies
    have k4 := m4.below hbc
    have hC := hB.trans (hbc.mono hB.size)
    clear hcl m0 m1 m2 m4 hB hbc
    go_wp2_with fail
    refine (cloneU64_any none 0 c4 fm _ k4 b4).mono ?_
    rintro e wc2 ⟨a4', rfl, hcl, hbc⟩
    have e4 : a4' = none := by rcases hcl with ⟨_, _, h⟩ | ⟨h, _, _⟩; exact h; exact absurd rfl h
    subst e4
    have m0 := k0.below hbc
    have m1 := k1.below hbc
    have m2 := k2.below hbc
    have m4 := hcl.lies
    have hC2 := hC.trans (hbc.mono hC.size)
    clear hcl k0 k1 k2 k4 hC hbc
    go_wp2_with fail
    refine (build_any a0' a1' a2' n0 n1 n2 n0 n1 n2 n fi fa fp _ m0 m1 m2 l0 l1 l2 l6).mono ?_
    rintro e wd ⟨ac, cc, rfl, hm, hbd⟩
    have k4 := m4.below hbd
    have hD := hC2.trans (hbd.mono hC2.size)
    clear m0 m1 m2 m4 hC2 hbd
    go_wp2_with fail
    refine (zzStats_nil ac n cc index (mk fi fa fp n) _ hm (mk_length _ _ _ _).symm l6).mono ?_
    rintro e we ⟨sa, sc, ss, rfl, hs, hrep, hnone, hbe⟩
    clear hnone
    have HB : Hid (ss.map memOf = mk fi fa fp n) := reports_back hrep (mk_bounds HP.out HV.out)
    have HL : Hid (n = ss.length) := by unfold Hid; rw [hrep.length, mk_length]
    have hm2 := hm.below hbe
    have hE := hD.trans (hbe.mono hD.size)
    clear k4 hD hbe hm hrep
    go_wp2_with fail
    refine (zzConf_any sa n sc ss _ hs HL.out l6).mono ?_
    rintro e wf ⟨ab, cb, rfl, hm3, hbf⟩
    rw [HB.out] at hm3
    have hm4 := hm2.below hbf
    have hF := hE.trans (hbf.mono hE.size)
    clear hs hm2 hbf hE HL HB
    go_wp2_with fail
    refine (same_any ab ac n cb cc (mk fi fa fp n) _ hm3 hm4 (mk_length _ _ _ _).symm l6).mono ?_
    rintro e wg ⟨rfl, hbg⟩
    go_wp2
    go_ret
    exact ⟨rfl, hF.trans (hbg.mono hF.size)⟩
  · by_cases hlt4 : n4 < n
    · go_wp2
      go_ret
      exact ⟨rfl, Below.refl _ _⟩
    have l4 : n ≤ n4 := by omega
    go_wp2_with fail
    refine (partsValid_any a2 n2 c2 n fp _ h2 l2 b2).mono ?_
    rintro e w' ⟨⟨b, rfl, hval⟩, rfl⟩
    cases b
    · go_wp2
      go_ret
      exact ⟨rfl, Below.refl _ _⟩
    have HV : Hid (allLe fp n) := hval rfl
    clear hval
    go_wp2_with fail
    refine (cloneU64_any a0 n0 c0 fi _ h0 b0).mono ?_
    rintro e wa ⟨a0', rfl, hcl, hba⟩
    have k0 := hcl.lies
    have k1 := h1.below hba
    have k2 := h2.below hba
    have k4 := h4.below hba
    clear hcl h0 h1 h2 h4
    go_wp2_with fail
    refine (cloneStr_any a1 n1 c1 fa _ k1 b1).mono ?_
    rintro e wb ⟨a1', rfl, hcl, hbb⟩
    have m0 := k0.below hbb
    have m1 := hcl.lies
    have m2 := k2.below hbb
    have m4 := k4.below hbb
    have hB := hba.trans (hbb.mono hba.size)
    clear hcl k0 k1 k2 k4 hba hbb
    go_wp2_with fail
    refine (cloneU8_any a2 n2 c2 fp _ m2 b2).mono ?_
    rintro e wc ⟨a2', rfl, hcl, hbc⟩
    have k0 := m0.below hbc
    have k1 := m1.below hbc
    have k2 := hcl.lies
    have k4 := m4.below hbc
    have hC := hB.trans (hbc.mono hB.size)
    clear hcl m0 m1 m2 m4 hB hbc
    go_wp2_with fail
    refine (cloneU64_any (some am) n4 c4 fm _ k4 b4).mono ?_
    rintro e wc2 ⟨a4', rfl, hcl, hbc⟩
    obtain ⟨am', e4⟩ : ∃ x, a4' = some x := by rcases hcl with ⟨h, _, _⟩ | ⟨_, h, _⟩; cases h; exact ⟨_, h⟩
    subst e4
    have m0 := k0.below hbc
    have m1 := k1.below hbc
    have m2 := k2.below hbc
    have m4 := hcl.lies
    have hC2 := hC.trans (hbc.mono hC.size)
    clear hcl k0 k1 k2 k4 hC hbc
    go_wp2_with fail
    refine (build_any a0' a1' a2' n0 n1 n2 n0 n1 n2 n fi fa fp _ m0 m1 m2 l0 l1 l2 l6).mono ?_
    rintro e wd ⟨ac, cc, rfl, hm, hbd⟩
    have k4 := m4.below hbd
    have hD := hC2.trans (hbd.mono hC2.size)
    clear m0 m1 m2 m4 hC2 hbd
    go_wp2_with fail
    refine (zzStats_match ac n cc index am' n4 n4 fm (mk fi fa fp n) _ hm (mk_length _ _ _ _).symm l6 k4 l4).mono ?_
    rintro e we ⟨sa, sc, ss, rfl, hs, hrep, hptr, hbe⟩
    clear hptr
    have HB : Hid (ss.map memOf = mk fi fa fp n) := reports_back hrep (mk_bounds HP.out HV.out)
    have HL : Hid (n = ss.length) := by unfold Hid; rw [hrep.length, mk_length]
    have hm2 := hm.below hbe
    have hE := hD.trans (hbe.mono hD.size)
    clear k4 hD hbe hm hrep
    go_wp2_with fail
    refine (zzConf_any sa n sc ss _ hs HL.out l6).mono ?_
    rintro e wf ⟨ab, cb, rfl, hm3, hbf⟩
    rw [HB.out] at hm3
    have hm4 := hm2.below hbf
    have hF := hE.trans (hbf.mono hE.size)
    clear hs hm2 hbf hE HL HB
    go_wp2_with fail
    refine (same_any ab ac n cb cc (mk fi fa fp n) _ hm3 hm4 (mk_length _ _ _ _).symm l6).mono ?_
    rintro e wg ⟨rfl, hbg⟩
    go_wp2
    go_ret
    exact ⟨rfl, hF.trans (hbg.mono hF.size)⟩

end Go.Proofs.Qxb6001112a
