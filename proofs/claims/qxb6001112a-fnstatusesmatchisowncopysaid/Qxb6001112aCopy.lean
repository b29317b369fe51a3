/-
  FnStatusesMatchIsOwnCopy: the walk.
-/
import Derived.Test.Qxb6001112aCopyMem
namespace Go.Proofs.Qxb6001112a
open Go.RowKit

set_option maxRecDepth 100000 in
set_option maxHeartbeats 4000000 in
theorem copy_walk (a0 : Option Addr) (n0 c0 : Nat) (a1 : Option Addr) (n1 c1 : Nat) (a2 : Option Addr) (n2 c2 : Nat) (index : Int) (a4 : Option Addr) (n4 c4 : Nat) (fi : Nat → Int) (fa : Nat → ByteArray) (fp : Nat → Int) (fm : Nat → Int) (w : World)
    (h0 : Lies w a0 n0 (fun i => .int .u64 (fi i))) (h1 : Lies w a1 n1 (fun i => .string (fa i))) (h2 : Lies w a2 n2 (fun i => .int .u8 (fp i))) (h4 : Lies w a4 n4 (fun i => .int .u64 (fm i))) (hw : ∀ i, (Lit.int .u64 (fm i)).wf = true) :
    Calls Try.prog 5 #[.slice a0 n0 c0, .slice a1 n1 c1, .slice a2 n2 c2, .int .u64 index, .slice a4 n4 c4] w fun e w' => e = .returned (.bool true) ∧ Below w.heap.size w w' := by
  have HW : Hid (∀ i, (Lit.int .u64 (fm i)).wf = true) := hw
  clear hw
  have qN : ∀ (w : World) (a : Option Addr) (n c n' c' : Nat), (binOp .neq 22 (.slice a n c) (.slice none n' c')).run Try.prog w = .ok (.bool (!a.isNone)) w := fun w a n c n' c' => run_neq_slice_nil_any w _ _ a n c n' c' Try.underlying22
  have qE : ∀ (w : World) (a : Option Addr) (n c n' c' : Nat), (binOp .eql 22 (.slice a n c) (.slice none n' c')).run Try.prog w = .ok (.bool a.isNone) w := fun w a n c n' c' => Lib.run_eql_slice_nil w _ _ a n c n' c' Try.underlying22
  go_enter Try.func5, Try.ntmps5
  go_wp2_with fail
  refine (bytesMatchIsOwnCopy a0 n0 c0 a1 n1 c1 a2 n2 c2 index a4 n4 c4 fa w h1).mono ?_
  rintro e w' ⟨⟨b, rfl, _⟩, rfl⟩
  cases b
  · go_wp2
    go_ret
    exact ⟨rfl, Below.refl _ _⟩
  go_wp2_with fail
  refine (tooBig_any a0 a1 a2 a4 none n0 n1 n2 n4 0 c0 c1 c2 c4 0 fa _ h1).mono ?_
  rintro e w' ⟨⟨b, rfl, hbd⟩, rfl⟩
  cases b
  case true =>
    go_wp2
    go_ret
    exact ⟨rfl, Below.refl _ _⟩
  obtain ⟨b0, b1, b2, b4, _⟩ := hbd rfl
  clear hbd
  go_wp2_with fail
  obtain ⟨n12, H12, d1, d2⟩ : ∃ m, Hid (m = min n1 n2) ∧ m ≤ n1 ∧ m ≤ n2 := ⟨min n1 n2, rfl, by omega, by omega⟩
  refine (min_nat n1 n2 n12 H12.out _).mono ?_
  rintro e w' ⟨rfl, rfl⟩
  go_wp2_with fail
  obtain ⟨n, HN, l0, l12⟩ : ∃ m, Hid (m = min n0 n12) ∧ m ≤ n0 ∧ m ≤ n12 := ⟨min n0 n12, rfl, by omega, by omega⟩
  refine (min_nat n0 n12 n HN.out _).mono ?_
  rintro e w' ⟨rfl, rfl⟩
  have l1 : n ≤ n1 := by omega
  have l2 : n ≤ n2 := by omega
  clear H12 HN d1 d2 l12
  have l6 : n ≤ 65536 := by omega
  rcases a4 with _ | am
  · have e4 : n4 = 0 := by
      rcases h4 with h | ⟨b, off, h, _⟩
      · exact h
      · cases h
    subst e4
    go_wp2_with fail
    refine (cloneU64_any a0 n0 c0 fi _ h0 b0).mono ?_
    rintro e wa ⟨a0', rfl, hcl, hba⟩
    have k0 := hcl.lies
    have k1 := h1.below hba
    have k2 := h2.below hba
    have k4 := h4.below hba
    clear hcl h0 h1 h2 h4
    go_wp2_with fail
    refine (cloneStr_any a1 n1 c1 fa _ k1 b1).mono ?_
    rintro e wb ⟨a1', rfl, hcl, hbb⟩
    have m0 := k0.below hbb
    have m1 := hcl.lies
    have m2 := k2.below hbb
    have m4 := k4.below hbb
    have hB := hba.trans (hbb.mono hba.size)
    clear hcl k0 k1 k2 k4 hba hbb
    go_wp2_with fail
    refine (cloneU8_any a2 n2 c2 fp _ m2 b2).mono ?_
    rintro e wc ⟨a2', rfl, hcl, hbc⟩
    have k0 := m0.below hbc
    have k1 := m1.below hbc
    have k2 := hcl.lies
    have k4 := m4.below hbc
    have hC := hB.trans (hbc.mono hB.size)
    clear hcl m0 m1 m2 m4 hB hbc
    go_wp2_with fail
    refine (cloneU64_any none 0 c4 fm _ k4 b4).mono ?_
    rintro e wc2 ⟨a4', rfl, hcl, hbc⟩
    have e4 : a4' = none := by rcases hcl with ⟨_, _, h⟩ | ⟨h, _, _⟩; exact h; exact absurd rfl h
    subst e4
    have m0 := k0.below hbc
    have m1 := k1.below hbc
    have m2 := k2.below hbc
    have hC2 := hC.trans (hbc.mono hC.size)
    clear hcl k0 k1 k2 k4 hC hbc
    go_wp2_with fail
    refine (build_any a0' a1' a2' n0 n1 n2 n0 n1 n2 n fi fa fp _ m0 m1 m2 l0 l1 l2 l6).mono ?_
    rintro e wd ⟨ac, cc, rfl, hm, hbd⟩
    have hD := hC2.trans (hbd.mono hC2.size)
    clear m0 m1 m2 hC2 hbd
    go_wp2_with fail
    refine (zzStats_nil ac n cc index (mk fi fa fp n) _ hm (mk_length _ _ _ _).symm l6).mono ?_
    rintro e we ⟨sa, sc, ss, rfl, hs, hrep, hnone, hbe⟩
    have HO : Hid (∀ s ∈ ss, s.mt = none) := hnone
    have HL : Hid (n = ss.length) := by unfold Hid; rw [hrep.length, mk_length]
    have hE := hD.trans (hbe.mono hD.size)
    clear hnone hrep hm hD hbe
    go_wp2
    go_loop [14] (fun i => ∃ k : Nat, k ≤ n ∧ i = .int .i64 k) (fun i => n - (intOf i).toNat)
    case atStart => exact ⟨0, Nat.zero_le _, rfl⟩
    case round =>
      obtain ⟨k, hk, rfl⟩ := hrel
      by_cases hlt : k < n
      · obtain ⟨st, hst⟩ : ∃ st, ss[k]? = some st := ⟨ss[k]'(by have := HL.out; omega), by have := HL.out; simp⟩
        have hmt := HO.out st (List.mem_of_getElem? hst)
        obtain ⟨g, e0, s0, s1, s2, s3, s4, s5, hg⟩ := hs.at hst
        rw [hmt] at s4
        subst e0
        clear s0 s1 s2 s3 s5 hmt hst hs
        go_wp2
        go_round
        case rel => exact ⟨k + 1, by omega, by go_num⟩
        case measure => simp [intOf]; omega
      · go_wp2
        go_ret
        exact ⟨rfl, hE⟩
  · by_cases hlt4 : n4 < n
    · go_wp2
      go_ret
      exact ⟨rfl, Below.refl _ _⟩
    have l4 : n ≤ n4 := by omega
    go_wp2_with fail
    refine (cloneU64_any a0 n0 c0 fi _ h0 b0).mono ?_
    rintro e wa ⟨a0', rfl, hcl, hba⟩
    have k0 := hcl.lies
    have k1 := h1.below hba
    have k2 := h2.below hba
    have k4 := h4.below hba
    clear hcl h0 h1 h2 h4
    go_wp2_with fail
    refine (cloneStr_any a1 n1 c1 fa _ k1 b1).mono ?_
    rintro e wb ⟨a1', rfl, hcl, hbb⟩
    have m0 := k0.below hbb
    have m1 := hcl.lies
    have m2 := k2.below hbb
    have m4 := k4.below hbb
    have hB := hba.trans (hbb.mono hba.size)
    clear hcl k0 k1 k2 k4 hba hbb
    go_wp2_with fail
    refine (cloneU8_any a2 n2 c2 fp _ m2 b2).mono ?_
    rintro e wc ⟨a2', rfl, hcl, hbc⟩
    have k0 := m0.below hbc
    have k1 := m1.below hbc
    have k2 := hcl.lies
    have k4 := m4.below hbc
    have hC := hB.trans (hbc.mono hB.size)
    clear hcl m0 m1 m2 m4 hB hbc
    go_wp2_with fail
    refine (cloneU64_any (some am) n4 c4 fm _ k4 b4).mono ?_
    rintro e wc2 ⟨a4', rfl, hcl, hbc⟩
    have hml := hcl.lies
    obtain ⟨e4, hrow⟩ : a4' = some ⟨wc.heap.size, 0, none⟩ ∧ wc2.rowIs wc.heap.size 25 n4 (fun i => .int .u64 (fm i)) := by
      rcases hcl with ⟨h, _, _⟩ | ⟨_, h, hr⟩
      · cases h
      · exact ⟨h, hr⟩
    subst e4
    obtain ⟨MB, hMB⟩ : ∃ MB, MB = wc.heap.size := ⟨_, rfl⟩
    have lMB := hC.size
    rw [← hMB] at lMB
    have lMB2 : MB < wc2.heap.size := by have := hrow.lt; omega
    rw [← hMB] at hrow hml ⊢
    clear hMB
    have m0 := k0.below hbc
    have m1 := k1.below hbc
    have m2 := k2.below hbc
    have hC2 := hC.trans (hbc.mono hC.size)
    clear hcl k0 k1 k2 k4 hC hbc
    go_wp2_with fail
    refine (build_any a0' a1' a2' n0 n1 n2 n0 n1 n2 n fi fa fp _ m0 m1 m2 l0 l1 l2 l6).mono ?_
    rintro e wd ⟨ac, cc, rfl, hm, hbd⟩
    have hml2 := hml.below hbd
    have hrow2 := hrow.of_block (hbd.block MB lMB2)
    have lMB3 : MB < wd.heap.size := hrow2.lt
    clear hml hrow lMB2
    have hD := hC2.trans (hbd.mono hC2.size)
    clear m0 m1 m2 hC2 hbd
    go_wp2_with fail
    refine (zzStats_match ac n cc index ⟨MB, 0, none⟩ n4 n4 fm (mk fi fa fp n) _ hm (mk_length _ _ _ _).symm l6 hml2 l4).mono ?_
    rintro e we ⟨sa, sc, ss, rfl, hs, hrep, hptr, hbe⟩
    obtain ⟨B, hBlo, hst⟩ := copyState_start hs (by rw [hrep.length, mk_length]) (hrow2.of_block (hbe.block MB lMB3)) lMB3 hptr
    have HBlo : Hid (∀ i, i < n → wd.heap.size ≤ B i) := hBlo
    have hE := hD.trans (hbe.mono hD.size)
    have HD := hD.size
    clear hBlo hs hptr hrep hm hD hbe hml2 hrow2
    go_wp2
    go_loopw [14] (fun i wr => ∃ k : Nat, k ≤ n ∧ i = .int .i64 k ∧ CopyState wr n n4 sa MB B (fun i => .int .u64 (fm i)) (fun i => .int .u64 (fm i)) ∧ Below w'.heap.size w' wr) (fun i _ => n - (intOf i).toNat)
    case atStart => exact ⟨0, Nat.zero_le _, rfl, hst, hE⟩
    case round =>
      obtain ⟨k, hk, rfl, hcs, hbel⟩ := hrel
      by_cases hlt : k < n
      · obtain ⟨g, e0, s4, sb, _, sm, _⟩ := hcs.at hlt l4
        subst e0
        have z0 : (0 : Int) ≤ (k : Int) := by omega
        have z1 : (k : Int) < (n : Int) := by omega
        have z2 : (k : Int) < (n4 : Int) := by omega
        go_wp2
        go_quiet (fail)
        go_wp2
        go_roundw
        case rel => exact ⟨k + 1, by omega, by go_num, hcs.drewN _, below_drewN hbel _⟩
        case measure => simp [intOf]; omega
      · clear hE hst
        go_wp2
        go_loopw [15] (fun i wr => ∃ k : Nat, k ≤ n ∧ i = .int .i64 k ∧ CopyState wr n n4 sa MB B (fun j => if j < k then .int .u64 (notv (fm j)) else .int .u64 (fm j)) (fun i => .int .u64 (fm i)) ∧ Below w'.heap.size w' wr) (fun i _ => n - (intOf i).toNat)
        case atStart => exact ⟨0, Nat.zero_le _, rfl, hcs.congr (fun i _ => by simp) (fun _ _ => rfl), hbel⟩
        case round =>
          clear hcs hbel
          obtain ⟨k, hk, rfl, hcs, hbel⟩ := hrel
          by_cases hlt : k < n
          · obtain ⟨g, e0, _, _, _, sm, sf⟩ := hcs.at hlt l4
            simp only [Nat.lt_irrefl, if_false] at sm
            clear e0
            have z0 : (0 : Int) ≤ (k : Int) := by omega
            have z2 : (k : Int) < (n4 : Int) := by omega
            go_wp2
            go_roundw
            case rel => exact ⟨k + 1, by omega, by go_num, hcs.flip (F := fun j => .int .u64 (notv (fm j))), hbel.setCell (p := ⟨MB, k, none⟩) lMB _⟩
            case measure => simp [intOf]; omega
          · have e : n = k := by omega
            subst e
            go_wp2
            go_loopw [16] (fun i wr => ∃ k : Nat, k ≤ n ∧ i = .int .i64 k ∧ CopyState wr n n4 sa MB B (fun j => if j < n then .int .u64 (notv (fm j)) else .int .u64 (fm j)) (fun i => .int .u64 (fm i)) ∧ Below w'.heap.size w' wr) (fun i _ => n - (intOf i).toNat)
            case atStart => exact ⟨0, Nat.zero_le _, rfl, hcs, hbel⟩
            case round =>
              clear hcs hbel
              obtain ⟨k, hk, rfl, hcs, hbel⟩ := hrel
              by_cases hlt : k < n
              · obtain ⟨g, e0, s4, sb, _, sm, _⟩ := hcs.at hlt l4
                simp only [hlt, if_true] at sm
                subst e0
                have z0 : (0 : Int) ≤ (k : Int) := by omega
                have z1 : (k : Int) < (n : Int) := by omega
                have z2 : (k : Int) < (n4 : Int) := by omega
                have hnn := notv_notv (fm k) (HW.out k)
                go_wp2
                go_quiet (fail)
                go_wp2
                go_roundw
                case rel => exact ⟨k + 1, by omega, by go_num, hcs.drewN _, below_drewN hbel _⟩
                case measure => simp [intOf]; omega
              · go_wp2
                go_loopw [17] (fun i wr => ∃ k : Nat, k ≤ n ∧ i = .int .i64 k ∧ CopyState wr n n4 sa MB B (fun j => if j < n then .int .u64 (notv (fm j)) else .int .u64 (fm j)) (fun j => if j < k then .int .u64 j else .int .u64 (fm j)) ∧ Below w'.heap.size w' wr) (fun i _ => n - (intOf i).toNat)
                case atStart => exact ⟨0, Nat.zero_le _, rfl, hcs.congr (fun _ _ => rfl) (fun i _ => by simp), hbel⟩
                case round =>
                  clear hcs hbel
                  obtain ⟨k, hk, rfl, hcs, hbel⟩ := hrel
                  by_cases hlt : k < n
                  · obtain ⟨g, e0, s4, sb, sf, _, _⟩ := hcs.at hlt l4
                    simp only [Nat.lt_irrefl, if_false] at sb
                    subst e0
                    have z0 : (0 : Int) ≤ (k : Int) := by omega
                    have z1 : (k : Int) < (n : Int) := by omega
                    have lB := HBlo.out k hlt
                    go_wp2
                    go_roundw
                    case rel => exact ⟨k + 1, by omega, by go_num, hcs.box (G := fun j => .int .u64 j) hlt, hbel.setCell (p := ⟨B k, 0, none⟩) (by exact Nat.le_trans HD lB) _⟩
                    case measure => simp [intOf]; omega
                  · have e : n = k := by omega
                    subst e
                    go_wp2
                    go_loopw [18] (fun i wr => ∃ k : Nat, k ≤ n ∧ i = .int .i64 k ∧ CopyState wr n n4 sa MB B (fun j => if j < n then .int .u64 (notv (fm j)) else .int .u64 (fm j)) (fun j => if j < n then .int .u64 j else .int .u64 (fm j)) ∧ Below w'.heap.size w' wr) (fun i _ => n - (intOf i).toNat)
                    case atStart => exact ⟨0, Nat.zero_le _, rfl, hcs, hbel⟩
                    case round =>
                      clear hcs hbel
                      obtain ⟨k, hk, rfl, hcs, hbel⟩ := hrel
                      by_cases hlt : k < n
                      · obtain ⟨g, e0, s4, sb, _, _, _⟩ := hcs.at hlt l4
                        simp only [hlt, if_true] at sb
                        subst e0
                        have z0 : (0 : Int) ≤ (k : Int) := by omega
                        have z1 : (k : Int) < (n : Int) := by omega
                        go_wp2
                        go_roundw
                        case rel => exact ⟨k + 1, by omega, by go_num, hcs, hbel⟩
                        case measure => simp [intOf]; omega
                      · go_wp2
                        go_ret
                        exact ⟨rfl, hbel⟩

end Go.Proofs.Qxb6001112a
