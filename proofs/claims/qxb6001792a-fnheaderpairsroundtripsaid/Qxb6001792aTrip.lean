/-
  FnHeaderPairsRoundTrip: the walk.
-/
import Derived.Test.Qxb6001792aBack
namespace Go.Proofs.Qxb6001792a
open Go.RowKit Go.Maps

/-- How many of the keys have a value. -/
def keptOf (ps : List (ByteArray × ByteArray)) (l : List ByteArray) : Nat := (l.filter (fun s => !(valsOf s ps).isEmpty)).length

theorem keptOf_take {ps : List (ByteArray × ByteArray)} {l : List ByteArray} {k : Nat} {s : ByteArray} (h : l[k]? = some s) : keptOf ps (l.take (k + 1)) = keptOf ps (l.take k) + if (valsOf s ps).length = 0 then 0 else 1 := by
  unfold keptOf
  rw [List.take_add_one, h, List.filter_append, List.length_append]
  by_cases e : valsOf s ps = []
  · simp [e]
  · have e2 : (valsOf s ps).length ≠ 0 := by simpa using e
    simp [e]

theorem keptOf_le (ps : List (ByteArray × ByteArray)) (l : List ByteArray) : keptOf ps l ≤ l.length := List.length_filter_le _ _

theorem gOf_isSome (ps : List (ByteArray × ByteArray)) (s : ByteArray) : (gOf ps s).isSome = !(valsOf s ps).isEmpty := by
  unfold gOf
  by_cases h : valsOf s ps = []
  · simp [h]
  · simp [h]

theorem kept_all {ps : List (ByteArray × ByteArray)} {kl ks : List ByteArray} (h1 : kl.Nodup) (h2 : ks.Nodup) (hk : ∀ s, s ∈ ks ↔ valsOf s ps ≠ []) (hl : ∀ s, valsOf s ps ≠ [] → s ∈ kl) : keptOf ps kl = ks.length := by
  unfold keptOf
  refine List.Perm.length_eq ((List.perm_ext_iff_of_nodup (h1.filter _) h2).2 fun s => ?_)
  rw [List.mem_filter, hk s]
  constructor
  · rintro ⟨_, h⟩; simpa using h
  · intro h; exact ⟨hl s h, by simpa using h⟩

set_option maxRecDepth 100000 in
set_option maxHeartbeats 4000000 in
theorem trip_walk (a0 : Option Addr) (n0 c0 : Nat) (a1 : Option Addr) (n1 c1 : Nat) (nm : Nat → ByteArray) (va : Nat → Option Addr) (vl vc : Nat → Nat) (vs : Nat → Nat → ByteArray) (w : World)
    (h0 : Lies w a0 n0 (fun i => .string (nm i))) (h1 : LiesV w a1 n1 va vl vc vs) :
    Calls Try.prog 6 #[.slice a0 n0 c0, .slice a1 n1 c1] w fun e w' => e = .returned (.bool true) ∧ Below w.heap.size w w' := by
  have hmm := @run_makeMap Try.prog
  have HI1 := h1
  go_enter Try.func6, Try.ntmps6
  go_wp2_with fail
  refine (bytesTrip a0 n0 c0 a1 n1 c1 nm va vl vc vs w h0 h1).mono ?_
  rintro e w' ⟨⟨b, rfl, hsm⟩, rfl⟩
  clear HI1
  cases b
  · go_wp2
    go_ret
    exact ⟨rfl, Below.refl _ _⟩
  have hsm := hsm rfl
  by_cases b0 : 65536 < n0
  · clear hsm h1 h0
    go_wp2
    go_ret
    exact ⟨rfl, Below.refl _ _⟩
  by_cases b1 : 65536 < n1
  · clear hsm h1 h0
    go_wp2
    go_ret
    exact ⟨rfl, Below.refl _ _⟩
  have b0 : n0 ≤ 65536 := by omega
  have b1 : n1 ≤ 65536 := by omega
  have hd0 : decide ((65536 : Int) < (n0 : Int)) = false := decide_eq_false (by omega)
  have hd1 : decide ((65536 : Int) < (n1 : Int)) = false := decide_eq_false (by omega)
  have HSm : Hid (Small n0 n1 nm vl vs) := hsm
  have hc := headerBytes_any a0 n0 c0 a1 n1 c1 nm va vl vc vs w' h0 h1 hsm b0 b1
  have HC : Hid (Calls Try.prog 16 #[.slice a0 n0 c0, .slice a1 n1 c1] w' fun e w'' => SomeInt (fun t => t ≤ 1048576 → sumTo vl n1 ≤ 65536) e ∧ Below w'.heap.size w' w'') := hc
  clear hsm hc
  go_wp2_with fail
  refine HC.out.mono ?_
  rintro e wA ⟨⟨t, rfl, ht⟩, hbA⟩
  clear HC
  by_cases ht2 : 1048576 < t
  · clear ht
    go_wp2
    go_ret
    exact ⟨rfl, hbA⟩
  have hd2 : decide ((1048576 : Int) < t) = false := decide_eq_false (by omega)
  have hsum1 := ht (by omega)
  have HSum1 : Hid (sumTo vl n1 ≤ 65536) := hsum1
  clear ht hsum1
  have k0 := h0.below hbA
  have k1 := h1.below hbA
  clear h0 h1
  go_wp2_with fail
  refine (cloneStr_any a0 n0 c0 nm _ k0 (by omega)).mono ?_
  rintro e wB ⟨a0', rfl, hcl, hbB⟩
  have m0 := hcl.lies
  have m1 := k1.below hbB
  have hB := hbA.trans (hbB.mono hbA.size)
  clear hcl k0 k1 hbA hbB
  go_wp2_with fail
  refine (cloneValues_any a1 n1 c1 va vl vc vs _ m1 b1 HSm.out.lens).mono ?_
  rintro e wC ⟨a1', va', rfl, q1, hbC⟩
  have q0 := m0.below hbC
  have hC := hB.trans (hbC.mono hB.size)
  clear m0 m1 hB hbC
  obtain ⟨n, HN, l0, l1⟩ : ∃ m, Hid (m = min n0 n1) ∧ m ≤ n0 ∧ m ≤ n1 := ⟨min n0 n1, rfl, by omega, by omega⟩
  have HSum : Hid (sumTo vl n ≤ 65536) := Nat.le_trans (sumTo_mono vl l1) HSum1.out
  clear HSum1
  go_wp2_with fail
  refine (buildHeader_any a0' n0 n0 a1' n1 n1 n nm va' vl vl vs _ q0 q1 HN.out (by omega) HSm.out.names HSum.out).mono ?_
  rintro e wD ⟨B, lo, ks, f, rfl, hBlo, hhead, hbD⟩
  have p0 := q0.below hbD
  have hD := hC.trans (hbD.mono hC.size)
  have HG65 : Hid (∀ s, ((groupTo nm vl vs n s).getD []).length ≤ 65536) := fun s => Nat.le_trans (groupTo_length nm vl vs n s) HSum.out
  have HDom : Hid (∀ s, (groupTo nm vl vs n s).isSome = true ↔ ∃ i, i < n ∧ nm i = s) := groupTo_dom nm vl vs n
  have HSz : Hid (∀ s t, t ∈ (groupTo nm vl vs n s).getD [] → s.size ≤ 1048576 ∧ t.size ≤ 1048576) := fun s t ht => by
    obtain ⟨i, j, hi, hj, rfl⟩ := groupTo_mem ht
    refine ⟨?_, HSm.out.vals i (by omega) j hj⟩
    have h5 : (groupTo nm vl vs n s).isSome = true := by
      cases hg : groupTo nm vl vs n s
      · rw [hg] at ht; simp at ht
      · rfl
    obtain ⟨i', hi', rfl⟩ := (HDom.out s).1 h5
    exact HSm.out.names i' (by omega)
  obtain ⟨G, hGe⟩ : ∃ G, G = groupTo nm vl vs n := ⟨_, rfl⟩
  rw [← hGe] at hhead HG65 HDom HSz
  clear q0 q1 hC hbD HSum hBlo hGe
  go_wp2_with fail
  refine (zzPairs_any B lo n ks f G _ hhead (by omega) HG65.out).mono ?_
  rintro e wE ⟨pa, q, pc, cs, ps, rfl, hq, hps, hprow, hpv, hvals, hbE⟩
  have o0 := p0.below hbE
  have hhead2 := hhead.below hbE
  have hE := hD.trans (hbE.mono hD.size)
  have HV : Hid (∀ s, valsOf s ps = (G s).getD []) := hvals
  have HCS : Hid (q = cs.length) := hq
  clear p0 hhead hD hbE hvals hq
  obtain ⟨p, hp⟩ : ∃ p, p = ps.length := ⟨_, rfl⟩
  have hq2 : q = 2 * p := by have h1 := HCS.out; have h2 := hpv.1; omega
  have hpb : p ≤ 4294967296 := by omega
  have hps2 : ∀ (i : Nat) s t, ps[i]? = some (s, t) → s.size ≤ 1048576 := fun i s t h => by
    have h5 := mem_valsOf h
    rw [HV.out s] at h5
    exact (HSz.out s t h5).1
  subst hq2
  have HB : Hid (Calls Try.prog 21 #[.slice pa (2 * p) pc] wE fun e w' => ∃ B lo ks f, e = .returned (.tuple #[.map (some B), .nilIface]) ∧ Head w' lo B p ks f (gOf ps) ∧ Below wE.heap.size wE w') := zzFrom_any _ pa p pc cs ps wE hprow hpv hp hpb hps2
  clear hp hps hprow hpv hps2 HCS
  go_wp2_with fail
  refine HB.out.mono ?_
  rintro e wG ⟨B2, lo2, ks2, f2, rfl, hback, hbG⟩
  have x0 := o0.below hbG
  have hhead3 := hhead2.below hbG
  have hF := hE.trans (hbG.mono hE.size)
  have HNm : Hid (∀ i, i < n0 → (nm i).size ≤ 1048576) := HSm.out.names
  clear HB o0 hhead2 hE hbG
  go_wp2_with fail
  refine (paired_any a0' n0 n0 a1' n1 n1 n HN.out _).mono ?_
  rintro e wP ⟨rfl, rfl⟩
  go_wp2_with fail
  refine (distinct_any a0' n0 n0 n nm _ x0 l0 (by omega) HNm.out).mono ?_
  rintro e wF ⟨ka, m, kcp, kl, rfl, hkm, hmn, hkl, hknd, hkmem, hbF⟩
  have hhead4 := hhead3.below hbF
  have hback4 := hback.below hbF
  have hG := hF.trans (hbF.mono hF.size)
  have HKM : Hid (m = kl.length) := hkm
  have HKmem : Hid (∀ s, s ∈ kl ↔ ∃ i, i < n ∧ nm i = s) := hkmem
  have HKnd : Hid (kl.Nodup) := hknd
  clear hhead3 hback hF hkm hkmem hknd hbF x0
  go_wp2
  go_loopw [10, 11] (fun kv iv wr => ∃ (k kept : Nat), k ≤ m ∧ iv = .int .i64 k ∧ kv = .int .i64 kept ∧ kept ≤ k ∧ Hid (kept = keptOf ps (kl.take k)) ∧ Below wF.heap.size wF wr) (fun _ iv _ => m - (intOf iv).toNat)
  case atStart => exact ⟨0, 0, Nat.zero_le _, rfl, rfl, Nat.le_refl _, by simp [Hid, keptOf], Below.refl _ _⟩
  case round =>
    obtain ⟨k2, kept, hk2', rfl, rfl, hkk, HKept, hbel⟩ := hrel
    by_cases hlt2 : k2 < m
    · obtain ⟨kb, ko, e0, hck, lkb⟩ := hkl.at hlt2
      subst e0
      obtain ⟨sk, hsk⟩ : ∃ x, x = kl.getD k2 ByteArray.empty := ⟨_, rfl⟩
      have h8 : k2 < kl.length := by have := HKM.out; omega
      have hat : kl[k2]? = some sk := by rw [hsk]; simp [List.getD, List.getElem?_eq_getElem h8]
      obtain ⟨i9, hi9, e9⟩ := (HKmem.out sk).1 (List.mem_of_getElem? hat)
      have hs20 : sk.size ≤ 1048576 := by rw [← e9]; exact HNm.out i9 (by omega)
      have hnext := keptOf_take (ps := ps) hat
      have rk := (hbel.cell (by exact lkb)).trans hck
      simp only [← hsk] at rk
      have hml : sk.size ≤ maxLen := by unfold maxLen; omega
      have hw5 := (hhead4.below hbel).at sk
      have hg5 := (hback4.below hbel).at sk
      have hdom := (hback4.below hbel).dom sk
      rw [gOf_isSome] at hdom
      rw [gOf_getD] at hg5
      rw [← HV.out sk] at hw5
      have hl65 : (valsOf sk ps).length ≤ 65536 := by rw [HV.out sk]; exact HG65.out sk
      obtain ⟨l, hl⟩ : ∃ x, x = valsOf sk ps := ⟨_, rfl⟩
      rw [← hl] at hw5 hg5 hdom hl65 hnext
      obtain ⟨wa, wc, ewv, hownw⟩ := hw5
      obtain ⟨ga, gc, egv, howng⟩ := hg5
      have hliesw := lies_of_row rfl (by rw [← ewv]; exact hownw)
      have hliesg := lies_of_row rfl (by rw [← egv]; exact howng)
      have hq1 := (hhead4.below hbel).map.look Try.underlying33 (zero27 _) sk hml
      have hq2 := (hback4.below hbel).map.look_ok Try.underlying37 (zero27 _) sk hml
      rw [ewv] at hq1
      rw [egv, hdom] at hq2
      obtain ⟨ll, hll⟩ : ∃ x, x = l.length := ⟨_, rfl⟩
      rw [← hll] at hq1 hq2 hliesw hliesg hl65 hnext
      have HNext : Hid (keptOf ps (kl.take (k2 + 1)) = keptOf ps (kl.take k2) + if ll = 0 then 0 else 1) := hnext
      have z0 : (0 : Int) ≤ (k2 : Int) := by omega
      have z1 : (k2 : Int) < (m : Int) := by omega
      clear hnext hl hsk e9 hck hat hownw howng ewv egv hdom h8
      by_cases hzero : ll = 0
      · have hem : (!l.isEmpty) = false := by
          have : l = [] := List.length_eq_zero_iff.1 (by omega)
          simp [this]
        rw [hem] at hq2
        have HK2 : Hid (kept = keptOf ps (kl.take (k2 + 1))) := by simp only [Hid]; rw [HNext.out, ← HKept.out]; simp [hzero]
        clear hliesw hliesg hem hll HNext
        subst hzero
        go_wp2
        go_roundw
        case rel => exact ⟨k2 + 1, kept, by omega, by go_num, rfl, by omega, HK2, hbel⟩
        case measure => simp [intOf]; omega
      · have hem : (!l.isEmpty) = true := by
          have : l ≠ [] := fun e => hzero (by rw [hll, e]; rfl)
          simp [this]
        rw [hem] at hq2
        have HK2 : Hid (kept + 1 = keptOf ps (kl.take (k2 + 1))) := by simp only [Hid]; rw [HNext.out, ← HKept.out]; simp [hzero]
        have hdz : decide ((ll : Int) = 0) = false := decide_eq_false (by omega)
        clear hem hll HNext
        go_wp2_with fail
        refine (sameStrings_any ga wa ll gc wc _ _ hliesg hliesw (by omega)).mono ?_
        rintro e wS ⟨rfl, hbS⟩
        have hbel2 := hbel.trans (hbS.mono hbel.size)
        clear hliesw hliesg hq1 hq2 rk hbel hbS
        go_wp2
        go_roundw
        case rel => exact ⟨k2 + 1, kept + 1, by omega, by go_num, by go_num, by omega, HK2, hbel2⟩
        case measure => simp [intOf]; omega
    · have ek : k2 = m := by omega
      have hlen := (hback4.below hbel).map.len Try.underlying37
      have hall : kept = ks2.length := by
        rw [HKept.out, List.take_of_length_le (by have := HKM.out; omega)]
        obtain ⟨D, _, _, _, _, hnd, hks⟩ := hback4.map
        refine kept_all HKnd.out hnd (fun s => ?_) (fun s hs => ?_)
        · rw [hks s, hback4.dom s, gOf_isSome]
          simp
        · refine (HKmem.out s).2 ((HDom.out s).1 ?_)
          rw [HV.out s] at hs
          cases hg : G s
          · rw [hg] at hs; exact absurd rfl hs
          · rfl
      rw [← hall] at hlen
      clear hall hback4 hhead4 hkl HKept
      go_wp2
      go_ret
      exact ⟨rfl, hG.trans (hbel.mono hG.size)⟩

end Go.Proofs.Qxb6001792a
