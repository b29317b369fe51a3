/-
  FnHeaderPairsListsEveryValueUnderItsName: the walk.
-/
import Derived.Test.Qxb6001792aFacts
namespace Go.Proofs.Qxb6001792a
open Go.RowKit Go.Maps

set_option maxRecDepth 100000 in
set_option maxHeartbeats 4000000 in
theorem lists_walk (a0 : Option Addr) (n0 c0 : Nat) (a1 : Option Addr) (n1 c1 : Nat) (nm : Nat → ByteArray) (va : Nat → Option Addr) (vl vc : Nat → Nat) (vs : Nat → Nat → ByteArray) (w : World)
    (h0 : Lies w a0 n0 (fun i => .string (nm i))) (h1 : LiesV w a1 n1 va vl vc vs) :
    Calls Try.prog 7 #[.slice a0 n0 c0, .slice a1 n1 c1] w fun e w' => e = .returned (.bool true) ∧ Below w.heap.size w w' := by
  have hmm := @run_makeMap Try.prog
  have HI1 := h1
  go_enter Try.func7, Try.ntmps7
  go_wp2_with fail
  refine (bytesLists a0 n0 c0 a1 n1 c1 nm va vl vc vs w h0 h1).mono ?_
  rintro e w' ⟨⟨b, rfl, hsm⟩, rfl⟩
  clear HI1
  cases b
  · go_wp2
    go_ret
    exact ⟨rfl, Below.refl _ _⟩
  have hsm := hsm rfl
  by_cases b0 : 65536 < n0
  · clear hsm h1 h0
    go_wp2
    go_ret
    exact ⟨rfl, Below.refl _ _⟩
  by_cases b1 : 65536 < n1
  · clear hsm h1 h0
    go_wp2
    go_ret
    exact ⟨rfl, Below.refl _ _⟩
  have b0 : n0 ≤ 65536 := by omega
  have b1 : n1 ≤ 65536 := by omega
  have hd0 : decide ((65536 : Int) < (n0 : Int)) = false := decide_eq_false (by omega)
  have hd1 : decide ((65536 : Int) < (n1 : Int)) = false := decide_eq_false (by omega)
  have HSm : Hid (Small n0 n1 nm vl vs) := hsm
  have hc := headerBytes_any a0 n0 c0 a1 n1 c1 nm va vl vc vs w' h0 h1 hsm b0 b1
  have HC : Hid (Calls Try.prog 16 #[.slice a0 n0 c0, .slice a1 n1 c1] w' fun e w'' => SomeInt (fun t => t ≤ 1048576 → sumTo vl n1 ≤ 65536) e ∧ Below w'.heap.size w' w'') := hc
  clear hsm hc
  go_wp2_with fail
  refine HC.out.mono ?_
  rintro e wA ⟨⟨t, rfl, ht⟩, hbA⟩
  clear HC
  by_cases ht2 : 1048576 < t
  · clear ht
    go_wp2
    go_ret
    exact ⟨rfl, hbA⟩
  have hd2 : decide ((1048576 : Int) < t) = false := decide_eq_false (by omega)
  have hsum1 := ht (by omega)
  have HSum1 : Hid (sumTo vl n1 ≤ 65536) := hsum1
  clear ht hsum1
  have k0 := h0.below hbA
  have k1 := h1.below hbA
  clear h0 h1
  go_wp2_with fail
  refine (cloneStr_any a0 n0 c0 nm _ k0 (by omega)).mono ?_
  rintro e wB ⟨a0', rfl, hcl, hbB⟩
  have m0 := hcl.lies
  have m1 := k1.below hbB
  have hB := hbA.trans (hbB.mono hbA.size)
  clear hcl k0 k1 hbA hbB
  go_wp2_with fail
  refine (cloneValues_any a1 n1 c1 va vl vc vs _ m1 b1 HSm.out.lens).mono ?_
  rintro e wC ⟨a1', va', rfl, q1, hbC⟩
  have q0 := m0.below hbC
  have hC := hB.trans (hbC.mono hB.size)
  clear m0 m1 hB hbC
  obtain ⟨n, HN, l0, l1⟩ : ∃ m, Hid (m = min n0 n1) ∧ m ≤ n0 ∧ m ≤ n1 := ⟨min n0 n1, rfl, by omega, by omega⟩
  have HSum : Hid (sumTo vl n ≤ 65536) := Nat.le_trans (sumTo_mono vl l1) HSum1.out
  clear HSum1
  go_wp2_with fail
  refine (buildHeader_any a0' n0 n0 a1' n1 n1 n nm va' vl vl vs _ q0 q1 HN.out (by omega) HSm.out.names HSum.out).mono ?_
  rintro e wD ⟨B, lo, ks, f, rfl, hBlo, hhead, hbD⟩
  have p0 := q0.below hbD
  have hD := hC.trans (hbD.mono hC.size)
  have HG65 : Hid (∀ s, ((groupTo nm vl vs n s).getD []).length ≤ 65536) := fun s => Nat.le_trans (groupTo_length nm vl vs n s) HSum.out
  have HDom : Hid (∀ s, (groupTo nm vl vs n s).isSome = true ↔ ∃ i, i < n ∧ nm i = s) := groupTo_dom nm vl vs n
  have HSz : Hid (∀ s t, t ∈ (groupTo nm vl vs n s).getD [] → s.size ≤ 1048576 ∧ t.size ≤ 1048576) := fun s t ht => by
    obtain ⟨i, j, hi, hj, rfl⟩ := groupTo_mem ht
    refine ⟨?_, HSm.out.vals i (by omega) j hj⟩
    have h5 : (groupTo nm vl vs n s).isSome = true := by
      cases hg : groupTo nm vl vs n s
      · rw [hg] at ht; simp at ht
      · rfl
    obtain ⟨i', hi', rfl⟩ := (HDom.out s).1 h5
    exact HSm.out.names i' (by omega)
  obtain ⟨G, hGe⟩ : ∃ G, G = groupTo nm vl vs n := ⟨_, rfl⟩
  rw [← hGe] at hhead HG65 HDom HSz
  clear q0 q1 hC hbD HSum hBlo hGe
  go_wp2_with fail
  refine (zzPairs_any B lo n ks f G _ hhead (by omega) HG65.out).mono ?_
  rintro e wE ⟨pa, q, pc, cs, ps, rfl, hq, hps, hprow, hpv, hvals, hbE⟩
  have o0 := p0.below hbE
  have hhead2 := hhead.below hbE
  have hE := hD.trans (hbE.mono hD.size)
  have HV : Hid (∀ s, valsOf s ps = (G s).getD []) := hvals
  have HCS : Hid (q = cs.length) := hq
  clear p0 hhead hD hbE hvals hq
  obtain ⟨p, hp⟩ : ∃ p, p = ps.length := ⟨_, rfl⟩
  have hq2 : q = 2 * p := by have h1 := HCS.out; have h2 := hpv.1; omega
  have HPl : Hid (p = ps.length) := hp
  have hpb : p ≤ 4294967296 := by omega
  subst hq2
  clear hp hps
  have hst := MapV.made wE
  go_wp2_with fail
  go_loopw [8] (fun pv wr => ∃ (i k j : Nat) (kc : List ByteArray) (fc : ByteArray → Option Value), i ≤ p ∧ pv = .int .i64 k ∧ Hid (k = 2 * i) ∧ k ≤ 2 * p ∧ j ≤ i ∧ MapV wr wE.heap.size j kc fc ∧ Hid (∀ s, (fc s).getD (.int .i64 0) = .int .i64 (valsOf s (ps.take i)).length) ∧ Below wE.heap.size wE wr) (fun pv _ => 2 * p - (intOf pv).toNat)
  case atStart => exact ⟨0, 0, 0, [], fun _ => none, Nat.zero_le _, rfl, rfl, Nat.zero_le _, Nat.le_refl _, hst, fun s => by simp [valsOf], (Below.refl _ _).alloc (Nat.le_refl _) _⟩
  case round =>
    clear hst
    obtain ⟨i, k, j, kc, fc, hi, rfl, HK, hk2, hj, hmap, HF, hbel⟩ := hrel
    by_cases hlt : i < p
    · obtain ⟨g, s, t, b1, c1, b2, c2, e0, hpi, hg, r1, r2, y1, y2⟩ := pair_at hprow hpv HPl.out hlt
      subst e0
      rw [← HK.out] at r1 r2
      have hki : k + 1 < 2 * p := by have := HK.out; omega
      obtain ⟨wv, hwv⟩ : ∃ x, x = (f s).getD (.slice none 0 0) := ⟨_, rfl⟩
      obtain ⟨l, hl⟩ : ∃ x, x = (G s).getD [] := ⟨_, rfl⟩
      have hrowS := hhead2.at s
      have htl := mem_valsOf hpi
      have hval := valsOf_at hpi
      rw [HV.out s] at htl hval
      obtain ⟨sz1, sz2⟩ := HSz.out s t htl
      rw [← hl] at hrowS hval
      obtain ⟨c, hc⟩ : ∃ x, x = (valsOf s (ps.take i)).length := ⟨_, rfl⟩
      rw [← hc] at hval
      have hcl : c < l.length := (List.getElem?_eq_some_iff.1 hval).1
      obtain ⟨wa, wc, ewv, hownw⟩ := hrowS
      have hliesw := lies_of_row rfl (by rw [← ewv]; exact hownw)
      obtain ⟨wb, wo, ewa, hcw, lwb⟩ := hliesw.at hcl
      have egd : l.getD c ByteArray.empty = t := by simp [List.getD, hval]
      rw [egd] at hcw
      subst ewa
      have hcb : c ≤ 65536 := by have h6 := HG65.out s; rw [← hl] at h6; omega
      have hml : s.size ≤ maxLen := by unfold maxLen; omega
      have hl1 := (hhead2.map.below hbel).look Try.underlying33 (zero27 _) s hml
      have hl2 := hmap.look Try.underlying45 (zero3 _) s hml
      rw [ewv] at hl1
      rw [HF.out s, ← hc] at hl2
      obtain ⟨ll, hll⟩ : ∃ x, x = l.length := ⟨_, rfl⟩
      rw [← hll] at hl1 hcl
      have hcv := bytesV_string (y1.below hbel)
      have hy2 := bytesV_cells (y2.below hbel)
      have s1 := (hbel.cell (by exact hg)).trans r1
      have s2 := (hbel.cell (by exact hg)).trans r2
      have s3 := (hbel.cell (by exact lwb)).trans hcw
      have HC : Hid (c = (valsOf s (ps.take i)).length) := hc
      have HPI : Hid (ps[i]? = some (s, t)) := hpi
      have HY2 : Hid (∀ j (h : j < t.size), wr.cell? ⟨b2, j, none⟩ = some (.int .u8 (t[j].toNat : Int))) := hy2
      clear hc hll hwv hl hval htl hownw hliesw hcw r1 r2 y1 y2 hpi egd ewv hy2 o0 hpv hprow hhead2
      have hd5 : decide ((ll : Int) ≤ (c : Int)) = false := decide_eq_false (by omega)
      have z0 : (0 : Int) ≤ (k : Int) := by omega
      have z1 : (k : Int) + 1 < 2 * (p : Int) := by omega
      have z2 : (0 : Int) ≤ (c : Int) := by omega
      have z3 : (c : Int) < (ll : Int) := by omega
      have hw1 : IntKind.i64.wrap ((k : Int) + 1) = (k : Int) + 1 := by rw [IntKind.wrap_i64]; omega
      have z4 : (0 : Int) ≤ (k : Int) + 1 := by omega
      have z5 : ((k : Int) + 1).toNat = k + 1 := by omega
      go_wp2
      go_quiet ((go_at_call 26; refine Calls.quiet_of (bytesAre_any _ _ _ _ ?_ ?_); exact HY2.out; exact sz2))
      clear HY2 hw1
      have hmapq := fun q => hmap.drewN q
      go_wp2_with (at_mapUpdate; refine wpList_store_V _ rfl _ _ _ 45 3 rfl Try.underlying45 wE.heap.size j kc fc rfl (hmap.drewN _) (by unfold maxLen; omega) s _ rfl rfl hml ?_; intro w1 ks1 hmap1 hg1)
      have HFn : Hid (∀ x, ((fun y => if y = s then some (Value.int .i64 ((c : Int) + 1)) else fc y) x).getD (.int .i64 0) = .int .i64 (valsOf x (ps.take (i + 1))).length) := fun x => by
        rw [valsOf_take HPI.out x]
        by_cases e : x = s
        · subst e
          simp only [if_true, Option.getD_some, ← HC.out]
          simp
        · simp only [e, if_false]
          exact HF.out x
      go_roundw
      case rel => exact ⟨i + 1, k + 2, j + 1, ks1, _, by omega, by go_num, by have := HK.out; simp only [Hid]; omega, by have := HK.out; omega, by omega, hmap1, HFn, (below_drewN hbel _).grown hg1 hbel.size (fun j hj => by cases hj; exact Nat.le_refl _)⟩
      case measure => simp [intOf]; omega
    · have ei : i = p := by omega
      have ek : k = 2 * p := by have := HK.out; omega
      have HFin : Hid (∀ s, (fc s).getD (.int .i64 0) = .int .i64 ((G s).getD []).length) := fun s => by
        have h7 := HF.out s
        rw [List.take_of_length_le (by have := HPl.out; omega), HV.out s] at h7
        exact h7
      have x0 := o0.below hbel
      have hhead3 := hhead2.below hbel
      have hF := hE.trans (hbel.mono hE.size)
      have HNm : Hid (∀ i, i < n0 → (nm i).size ≤ 1048576) := HSm.out.names
      clear HF hprow hpv o0 hhead2 hbel hE HV
      go_wp2_with fail
      refine (paired_any a0' n0 n0 a1' n1 n1 n HN.out _).mono ?_
      rintro e wP ⟨rfl, rfl⟩
      go_wp2_with fail
      refine (distinct_any a0' n0 n0 n nm _ x0 l0 (by omega) HNm.out).mono ?_
      rintro e wF ⟨ka, m, kcp, kl, rfl, hkm, hmn, hkl, _, hkmem, hbF⟩
      have hhead4 := hhead3.below hbF
      have hmap4 := hmap.below hbF
      have hG := hF.trans (hbF.mono hF.size)
      have HKM : Hid (m = kl.length) := hkm
      have HKmem : Hid (∀ s, s ∈ kl ↔ ∃ i, i < n ∧ nm i = s) := hkmem
      clear hhead3 hmap hF hkm hkmem hbF x0
      go_wp2
      go_loopw [13] (fun iv wr2 => ∃ k : Nat, k ≤ m ∧ iv = .int .i64 k ∧ Below wF.heap.size wF wr2) (fun iv _ => m - (intOf iv).toNat)
      case atStart => exact ⟨0, Nat.zero_le _, rfl, Below.refl _ _⟩
      case round =>
        obtain ⟨k2, hk2', rfl, hbel⟩ := hrel
        by_cases hlt2 : k2 < m
        · obtain ⟨kb, ko, e0, hck, lkb⟩ := hkl.at hlt2
          subst e0
          obtain ⟨sk, hsk⟩ : ∃ x, x = kl.getD k2 ByteArray.empty := ⟨_, rfl⟩
          have hmem : sk ∈ kl := by
            rw [hsk]
            have h8 : k2 < kl.length := by have := HKM.out; omega
            simp [List.getD, List.getElem?_eq_getElem h8]
          obtain ⟨i9, hi9, e9⟩ := (HKmem.out sk).1 hmem
          have hs20 : sk.size ≤ 1048576 := by rw [← e9]; exact HNm.out i9 (by omega)
          have rk := (hbel.cell (by exact lkb)).trans hck
          simp only [← hsk] at rk
          have hml : sk.size ≤ maxLen := by unfold maxLen; omega
          obtain ⟨wa, wc, ewv, _⟩ := (hhead4.below hbel).at sk
          obtain ⟨ll, hll⟩ : ∃ x, x = ((G sk).getD []).length := ⟨_, rfl⟩
          have hq1 : ∀ q, (Instr.lookup 45 (.map (some wE.heap.size)) (.string sk) false).run Try.prog (wr.drewN q) = .ok (.int .i64 ll) (wr.drewN q) := fun q => by
            have h9 := ((hmap4.below hbel).drewN q).look Try.underlying45 (zero3 _) sk hml
            rw [HFin.out sk, ← hll] at h9
            exact h9
          have hq2 : ∀ q, (Instr.lookup 33 (.map (some B)) (.string sk) false).run Try.prog (wr.drewN q) = .ok (.slice wa ll wc) (wr.drewN q) := fun q => by
            have h9 := ((hhead4.below hbel).map.drewN q).look Try.underlying33 (zero27 _) sk hml
            rw [ewv, ← hll] at h9
            exact h9
          have z0 : (0 : Int) ≤ (k2 : Int) := by omega
          have z1 : (k2 : Int) < (m : Int) := by omega
          clear hll hsk hmem e9 hck hkl hhead4 hmap4 ewv
          go_wp2
          go_quiet (fail)
          go_wp2
          go_roundw
          case rel => exact ⟨k2 + 1, by omega, by go_num, below_drewN hbel _⟩
          case measure => simp [intOf]; omega
        · go_wp2
          go_ret
          exact ⟨rfl, hG.trans (hbel.mono hG.size)⟩

end Go.Proofs.Qxb6001792a
