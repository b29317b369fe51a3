/-
  FnConfigurationOfStableUnderStatuses: the walk.
-/
import Derived.Test.Qxb6001112aLaws
namespace Go.Proofs.Qxb6001112a
open Go.RowKit

/-- The statuses made of columns. -/
def mkS (fi : Nat → Int) (fa : Nat → ByteArray) (fv : Nat → Bool) (fp : Nat → Int) (index : Int) (n : Nat) : List St := (List.range n).map fun i => ⟨fi i, fa i, fv i, fp i, none, index⟩
theorem mkS_length (fi : Nat → Int) (fa : Nat → ByteArray) (fv : Nat → Bool) (fp : Nat → Int) (index : Int) (n : Nat) : (mkS fi fa fv fp index n).length = n := by simp [mkS]
theorem mkS_succ (fi : Nat → Int) (fa : Nat → ByteArray) (fv : Nat → Bool) (fp : Nat → Int) (index : Int) (n : Nat) : mkS fi fa fv fp index (n + 1) = mkS fi fa fv fp index n ++ [⟨fi n, fa n, fv n, fp n, none, index⟩] := by simp [mkS, List.range_succ]

/-- The part that configurationOf gives. -/
def partOf (v : Bool) (p : Int) : Int := if p == 0 && v then 3 else p

theorem mkS_conf (fi : Nat → Int) (fa : Nat → ByteArray) (fv : Nat → Bool) (fp : Nat → Int) (index : Int) (n : Nat) : (mkS fi fa fv fp index n).map memOf = mk fi fa (fun i => partOf (fv i) (fp i)) n := by
  simp [mkS, mk, memOf, partOf]

theorem partOf_bounds (v : Bool) (p : Int) (h0 : 0 ≤ p) (h3 : p ≤ 3) : 0 ≤ partOf v p ∧ partOf v p ≤ 3 := by
  unfold partOf
  split <;> omega

theorem partOf_votes (v : Bool) (p : Int) : (partOf v p != 0) = (v || p != 0) := by
  unfold partOf
  cases v
  · simp
  · by_cases h : p = 0
    · subst h; decide
    · simp [h]

theorem stable_bounds {fi : Nat → Int} {fa : Nat → ByteArray} {fv : Nat → Bool} {fp : Nat → Int} {n : Nat} (h0 : ∀ i, 0 ≤ fp i) (h3 : allLe fp n) (k : Nat) (m : Mem) (hm : (mk fi fa (fun i => partOf (fv i) (fp i)) n)[k]? = some m) : 0 ≤ m.part ∧ m.part ≤ 3 := by
  have hk : k < n := by
    have := (List.getElem?_eq_some_iff.1 hm).1
    rwa [mk_length] at this
  rw [mk_at _ _ _ n k hk] at hm
  simp only [Option.some.injEq] at hm
  subst hm
  exact partOf_bounds _ _ (h0 k) (h3 k hk)

theorem heap_one_new (w : World) (o1 : Obj) : (w.alloc o1).drew.heap[w.heap.size]? = some o1 := by
  show (w.heap.push o1)[w.heap.size]? = _
  rw [Array.getElem?_push, if_pos rfl]

theorem ownsS_mk {w : World} {base k g cap : Nat} {fi : Nat → Int} {fa : Nat → ByteArray} {fv : Nat → Bool} {fp : Nat → Int} {index : Int}
    (h : w.ownsRow base 44 6 (.slice (some ⟨g, 0, none⟩) (k + 1) cap) (k + 1) (rowS (mkS fi fa fv fp index k) ++ [.int .u64 (fi k), .string (fa k), .bool (fv k), .int .u8 (fp k), .pointer none, .int .u64 index])) :
    w.ownsRow base 44 6 (.slice (some ⟨g, 0, none⟩) (k + 1) cap) (k + 1) (rowS (mkS fi fa fv fp index (k + 1))) := by
  rw [mkS_succ]; exact ownsS_snoc h

theorem below_one {w wr w1 : World} {row : Option Nat} {o1 : Obj} (hbel : Below w.heap.size w wr) (hg : (wr.alloc o1).drew.grownBy w1 row) (hr : ∀ k, row = some k → w.heap.size ≤ k) : Below w.heap.size w w1 :=
  ((hbel.alloc hbel.size _).drew).grown hg (by have := hbel.size; simp; omega) hr

/-- 'wpAnyH_take', the slot that is written given by its number. -/
theorem takeH {P : Program} {ops : Array Oper} {Q : Exit → Act → World → Prop} {md : Region.Mode} {S : World → Prop} {i : Nat} {oi : Oper} {d : Option Tmp} {v : Value} {fuel : Nat} {listed : Array Bool} {a : Act} {w : World} (hi : ops[i]? = some oi) (hd : oi.dst = d)
    (hs : Region.noSelect ops = true) (hf : Region.free md ops listed i = true) (hr : (Region.ready md ops listed).contains i = true)
    (hQ : ∀ c a w, Q (.panic c) (a.put d v) w → Q (.panic c) a w) (hy : YieldsIf P ops S oi v a) (hS : S w)
    (h : wpAnyH P md ops Q S fuel (listed.setIfInBounds i true) (a.put d v) w) : wpAnyH P md ops Q S (fuel + 1) listed a w := by
  subst hd
  exact wpAnyH_take hi hs hf hr hQ hy hS h

set_option linter.unusedSimpArgs false in
set_option maxRecDepth 100000 in
set_option maxHeartbeats 4000000 in
theorem stable_walk (a0 : Option Addr) (n0 c0 : Nat) (a1 : Option Addr) (n1 c1 : Nat) (a2 : Option Addr) (n2 c2 : Nat) (a3 : Option Addr) (n3 c3 : Nat) (index : Int) (fi : Nat → Int) (fa : Nat → ByteArray) (fv : Nat → Bool) (fp : Nat → Int) (w : World)
    (h0 : Lies w a0 n0 (fun i => .int .u64 (fi i))) (h1 : Lies w a1 n1 (fun i => .string (fa i))) (h2 : Lies w a2 n2 (fun i => .bool (fv i))) (h3 : Lies w a3 n3 (fun i => .int .u8 (fp i))) (hp : ∀ i, 0 ≤ fp i) :
    Calls Try.prog 6 #[.slice a0 n0 c0, .slice a1 n1 c1, .slice a2 n2 c2, .slice a3 n3 c3, .int .u64 index] w fun e w' => e = .returned (.bool true) ∧ Below w.heap.size w w' := by
  have HP : Hid (∀ i, 0 ≤ fp i) := hp
  clear hp
  obtain ⟨i0, hi0, hz0, hz1, hz2⟩ := info_parts Try.info44
  go_enter Try.func6, Try.ntmps6
  go_wp2_with fail
  refine (bytesConfigurationOf a0 n0 c0 a1 n1 c1 a2 n2 c2 a3 n3 c3 index fa w h1).mono ?_
  rintro e w' ⟨⟨b, rfl, _⟩, rfl⟩
  cases b
  · go_wp2
    go_ret
    exact ⟨rfl, Below.refl _ _⟩
  go_wp2_with fail
  refine (tooBig_any a0 a1 a3 none a2 n0 n1 n3 0 n2 c0 c1 c3 0 c2 fa _ h1).mono ?_
  rintro e w' ⟨⟨b, rfl, hbd⟩, rfl⟩
  cases b
  case true =>
    go_wp2
    go_ret
    exact ⟨rfl, Below.refl _ _⟩
  obtain ⟨b0, b1, b3, _, b2⟩ := hbd rfl
  clear hbd
  go_wp2_with fail
  obtain ⟨n01, H1, d1, d2⟩ : ∃ m, Hid (m = min n0 n1) ∧ m ≤ n0 ∧ m ≤ n1 := ⟨min n0 n1, rfl, by omega, by omega⟩
  refine (min_nat n0 n1 n01 H1.out _).mono ?_
  rintro e w' ⟨rfl, rfl⟩
  go_wp2_with fail
  obtain ⟨n23, H2, d3, d4⟩ : ∃ m, Hid (m = min n2 n3) ∧ m ≤ n2 ∧ m ≤ n3 := ⟨min n2 n3, rfl, by omega, by omega⟩
  refine (min_nat n2 n3 n23 H2.out _).mono ?_
  rintro e w' ⟨rfl, rfl⟩
  go_wp2_with fail
  obtain ⟨n, H3, d5, d6⟩ : ∃ m, Hid (m = min n01 n23) ∧ m ≤ n01 ∧ m ≤ n23 := ⟨min n01 n23, rfl, by omega, by omega⟩
  refine (min_nat n01 n23 n H3.out _).mono ?_
  rintro e w' ⟨rfl, rfl⟩
  have l0 : n ≤ n0 := by omega
  have l1 : n ≤ n1 := by omega
  have l2 : n ≤ n2 := by omega
  have l3 : n ≤ n3 := by omega
  clear H1 H2 H3 d1 d2 d3 d4 d5 d6
  have l6 : n ≤ 65536 := by omega
  go_wp2_with fail
  refine (partsValid_any a3 n3 c3 n fp _ h3 l3 b3).mono ?_
  rintro e w' ⟨⟨b, rfl, hval⟩, rfl⟩
  cases b
  · go_wp2
    go_ret
    exact ⟨rfl, Below.refl _ _⟩
  have HV : Hid (allLe fp n) := hval rfl
  clear hval
  go_wp2_with fail
  refine (cloneU64_any a0 n0 c0 fi _ h0 b0).mono ?_
  rintro e wa ⟨a0', rfl, hcl, hba⟩
  have k0 := hcl.lies
  have k1 := h1.below hba
  have k2 := h2.below hba
  have k3 := h3.below hba
  clear hcl h0 h1 h2 h3
  go_wp2_with fail
  refine (cloneStr_any a1 n1 c1 fa _ k1 b1).mono ?_
  rintro e wb ⟨a1', rfl, hcl, hbb⟩
  have m0 := k0.below hbb
  have m1 := hcl.lies
  have m2 := k2.below hbb
  have m3 := k3.below hbb
  have hB := hba.trans (hbb.mono hba.size)
  clear hcl k0 k1 k2 k3 hba hbb
  go_wp2_with fail
  refine (cloneBool_any a2 n2 c2 fv _ m2 b2).mono ?_
  rintro e wc ⟨a2', rfl, hcl, hbc⟩
  have k0 := m0.below hbc
  have k1 := m1.below hbc
  have k2 := hcl.lies
  have k3 := m3.below hbc
  have hC := hB.trans (hbc.mono hB.size)
  clear hcl m0 m1 m2 m3 hB hbc
  go_wp2_with fail
  refine (cloneU8_any a3 n3 c3 fp _ k3 b3).mono ?_
  rintro e wd ⟨a3', rfl, hcl, hbd⟩
  have m0 := (k0.below hbd).mono l0
  have m1 := (k1.below hbd).mono l1
  have m2 := (k2.below hbd).mono l2
  have m3 := hcl.lies.mono l3
  have hD := hC.trans (hbd.mono hC.size)
  clear hcl k0 k1 k2 k3 hC hbd
  go_wp2_with (at_make; refine wpList_make_own _ rfl _ _ 37 rfl wd.heap.size 44 i0 _ 6 Try.underlying37 hi0 hz0 hz1 .i64 .i64 _ n rfl rfl rfl (by rw [hz2]; omega) (by unfold maxLen; omega) (Nat.le_refl _) ?_; intro w1 hown1 hgrow1)
  go_loopw [12, 13] (fun v i wr => ∃ (k : Nat) (ao : Option Addr) (cap : Nat), k ≤ n ∧ i = .int .i64 k ∧ v = .slice ao k cap ∧ wr.ownsRow wd.heap.size 44 6 (.slice ao k cap) k (rowS (mkS fi fa fv fp index k)) ∧ Below wd.heap.size wd wr)
      (fun _ i _ => n - (intOf i).toNat)
  case atStart =>
    exact ⟨0, _, _, Nat.zero_le _, rfl, rfl, hown1, (Below.refl _ _).grown hgrow1 (Nat.le_refl _) (fun k hk => by cases hk)⟩
  case round =>
    obtain ⟨k, ar, cr, hk, rfl, rfl, hown, hbel⟩ := hrel
    clear hown1 hgrow1
    by_cases hlt : k < n
    · obtain ⟨ib, io, e0, ci, li⟩ := m0.at hlt
      obtain ⟨ab, ao, e1, ca, la⟩ := m1.at hlt
      obtain ⟨vb, vo, e2, cv, lv⟩ := m2.at hlt
      obtain ⟨pb, po, e3, cp, lp⟩ := m3.at hlt
      clear m0 m1 m2 m3
      subst e0 e1 e2 e3
      have ci := (hbel.cell (by exact li)).trans ci
      have ca := (hbel.cell (by exact la)).trans ca
      have cv := (hbel.cell (by exact lv)).trans cv
      have cp := (hbel.cell (by exact lp)).trans cp
      have hsz := hbel.size
      have g0 : (0 : Int) ≤ (k : Int) := by omega
      have g1 : (k : Int) < (n0 : Int) := by omega
      have g2 : (k : Int) < (n1 : Int) := by omega
      have g3 : (k : Int) < (n2 : Int) := by omega
      have g4 : (k : Int) < (n3 : Int) := by omega
      have q0 : some ib ≠ Value.ownBlock (.slice ar k cr) := fun e => by have := hown.lt _ e.symm; omega
      have q1 : some ab ≠ Value.ownBlock (.slice ar k cr) := fun e => by have := hown.lt _ e.symm; omega
      have q2 : some vb ≠ Value.ownBlock (.slice ar k cr) := fun e => by have := hown.lt _ e.symm; omega
      have q3 : some pb ≠ Value.ownBlock (.slice ar k cr) := fun e => by have := hown.lt _ e.symm; omega
      go_wp2_with fail
      go_region_held3 (fun w' => w'.cell? ⟨ib, io + k, none⟩ = some (.int .u64 (fi k)) ∧ w'.cell? ⟨ab, ao + k, none⟩ = some (.string (fa k)) ∧ w'.cell? ⟨vb, vo + k, none⟩ = some (.bool (fv k)) ∧ w'.cell? ⟨pb, po + k, none⟩ = some (.int .u8 (fp k)))
        (first
          | go_keep
          | (go_split_ands
             refine ⟨?_, ?_, ?_, ?_⟩
             · (rw [hgrow.cell_far _ (by simp; omega) q0]; assumption)
             · (rw [hgrow.cell_far _ (by simp; omega) q1]; assumption)
             · (rw [hgrow.cell_far _ (by simp; omega) q2]; assumption)
             · (rw [hgrow.cell_far _ (by simp; omega) q3]; assumption)))
        ((refine step_append_lies _ (by rfl) _ _ _ (by rfl) wd.heap.size 44 i0 _ 6 48 Try.underlying37 hi0 hz0 hz1 hz2 rfl (by omega) (.slice ar k cr) k (rowS (mkS fi fa fv fp index k)) (by rfl) ((hown.alloc _).drew)
              ⟨wr.heap.size, 0, none⟩ 1 1 [.int .u64 (fi k), .string (fa k), .bool (fv k), .int .u8 (fp k), .pointer none, .int .u64 index] (by rfl) (by rfl) (World.news_of_block (cs := #[.int .u64 (fi k), .string (fa k), .bool (fv k), .int .u8 (fp k), .pointer none, .int .u64 index]) (t := 44) (fr := (0, 0)) (heap_one_new wr _)) (by simp [Value.oneCell'])
              (by omega) (by unfold maxLen; omega) (by omega) (by simp; omega) (wr.heap.size + 1) (by simp) ?_; intro gg cap' w2 hown2 hgrow hat hlt'))
      have R := ownsS_mk hown2
      have RB := below_one hbel hgrow (fun k hk => (hown.lt k hk).1)
      clear hown2 hgrow hown hbel ci ca cv cp
      go_wp2
      go_roundw
      case rel => exact ⟨k + 1, _, _, by omega, by go_num, rfl, R, RB⟩
      case measure => simp [intOf]; omega
    · have e : n = k := by omega
      subst e
      have hs := liesS_of_owns (mkS_length _ _ _ _ _ _).symm hown
      have k0 := m0.below hbel
      have k1 := m1.below hbel
      have k2 := m2.below hbel
      have k3 := m3.below hbel
      have hE := hD.trans (hbel.mono hD.size)
      clear m0 m1 m2 m3 hown hbel hD
      go_wp2_with fail
      refine (zzConf_any _ n _ (mkS fi fa fv fp index n) _ hs (mkS_length _ _ _ _ _ _).symm l6).mono ?_
      rintro e we ⟨ac, cc, rfl, hm, hbe⟩
      rw [mkS_conf] at hm
      have m0 := k0.below hbe
      have m1 := k1.below hbe
      have m2 := k2.below hbe
      have m3 := k3.below hbe
      have hF := hE.trans (hbe.mono hE.size)
      clear hs k0 k1 k2 k3 hbe hE
      go_wp2
      go_loopw [15] (fun i wr => ∃ k : Nat, k ≤ n ∧ i = .int .i64 k ∧ Below we.heap.size we wr) (fun i _ => n - (intOf i).toNat)
      case atStart => exact ⟨0, Nat.zero_le _, rfl, Below.refl _ _⟩
      case round =>
        obtain ⟨k, hk, rfl, hbel⟩ := hrel
        by_cases hlt : k < n
        · obtain ⟨ib, io, e0, ci, li⟩ := m0.at hlt
          obtain ⟨ab, ao, e1, ca, la⟩ := m1.at hlt
          obtain ⟨vb, vo, e2, cv, lv⟩ := m2.at hlt
          obtain ⟨pb, po, e3, cp, lp⟩ := m3.at hlt
          obtain ⟨g, i', s', q, e4, hmk, r0, r1, r2, hg⟩ := hm.at (k := k) (by rw [mk_length]; omega)
          rw [mk_at _ _ _ n k hlt] at hmk
          simp only [Option.some.injEq, Mem.mk.injEq] at hmk
          obtain ⟨hi', hs', hq⟩ := hmk
          have hvt := partOf_votes (fv k) (fp k)
          rw [hq] at hvt
          subst hi' hs'
          obtain ⟨id, hid⟩ : ∃ p, p = fi k := ⟨_, rfl⟩
          obtain ⟨ad, had⟩ : ∃ p, p = fa k := ⟨_, rfl⟩
          obtain ⟨v, hv⟩ : ∃ p, p = fv k := ⟨_, rfl⟩
          obtain ⟨p, hpp⟩ : ∃ p, p = fp k := ⟨_, rfl⟩
          simp only [← hid, ← had, ← hv, ← hpp] at ci ca cv cp r0 r1 r2 hvt
          clear m0 m1 m2 m3 hm hid had hv hpp hq
          subst e0 e1 e2 e3 e4
          have ci := (hbel.cell (by exact li)).trans ci
          have ca := (hbel.cell (by exact la)).trans ca
          have cv := (hbel.cell (by exact lv)).trans cv
          have cp := (hbel.cell (by exact lp)).trans cp
          have r0 := (hbel.cell (by exact hg)).trans r0
          have r1 := (hbel.cell (by exact hg)).trans r1
          have r2 := (hbel.cell (by exact hg)).trans r2
          have hsz := hbel.size
          have g0 : (0 : Int) ≤ (k : Int) := by omega
          have g1 : (k : Int) < (n0 : Int) := by omega
          have g2 : (k : Int) < (n1 : Int) := by omega
          have g3 : (k : Int) < (n2 : Int) := by omega
          have g4 : (k : Int) < (n3 : Int) := by omega
          have g5 : (k : Int) < (n : Int) := by omega
          have y0 : g < wr.heap.size := by omega
          have y1 : vb < wr.heap.size := by omega
          have y2 : pb < wr.heap.size := by omega
          cases v
          · have hvt : (q != 0) = (p != 0) := by simpa using hvt
            go_wp2
            go_quiet (fail)
            go_wp2_with fail
            go_region_held3 (fun w' => w'.cell? ⟨g, k * 3, none⟩ = some (.int .u64 id) ∧ w'.cell? ⟨g, k * 3 + 1, none⟩ = some (.string ad) ∧ w'.cell? ⟨g, k * 3 + 2, none⟩ = some (.int .u8 q) ∧ w'.cell? ⟨vb, vo + k, none⟩ = some (.bool false) ∧ w'.cell? ⟨pb, po + k, none⟩ = some (.int .u8 p))
              (go_keep) ((go_at_call 24; refine (partOf_any _ _ _ _).mono ?_; rintro e w' ⟨rfl, rfl⟩))
            go_wp2
            go_roundw
            case rel => exact ⟨k + 1, by omega, by go_num, by first | exact bnew (below_drewN hbel _) _ | exact (bnew (below_drewN hbel _) _).drew | exact below_drewN (bnew hbel _) _⟩
            case measure => simp [intOf]; omega
          · have hvt : (q != 0) = true := by simpa using hvt
            go_wp2
            go_quiet (fail)
            go_wp2_with fail
            refine wp_region_held_drew (S := fun w' => w'.cell? ⟨g, k * 3, none⟩ = some (.int .u64 id) ∧ w'.cell? ⟨g, k * 3 + 1, none⟩ = some (.string ad) ∧ w'.cell? ⟨g, k * 3 + 2, none⟩ = some (.int .u8 q) ∧ w'.cell? ⟨vb, vo + k, none⟩ = some (.bool true)) (by kernel_rfl) ?_ (fun hHeld => ?_)
            · go_keep
            refine takeH (i := 0) (d := some 116) (v := ?_) rfl rfl (by kernel_rfl) (by kernel_rfl) (by kernel_rfl) (fun _ _ _ h => h) (Or.inl ⟨by rfl, ?_⟩) (by assumption) ?_
            rotate_left
            · (intro w5 hSw; (try dsimp only at hSw); go_simp; all_goals with_reducible rfl)
            simp only [Act.put, List.setIfInBounds_toArray, List.set_cons_zero, List.set_cons_succ]
            refine takeH (i := 1) (d := some 117) (v := ?_) rfl rfl (by kernel_rfl) (by kernel_rfl) (by kernel_rfl) (fun _ _ _ h => h) (Or.inl ⟨by rfl, ?_⟩) (by assumption) ?_
            rotate_left
            · (intro w5 hSw; (try dsimp only at hSw); go_simp; all_goals with_reducible rfl)
            simp only [Act.put, List.setIfInBounds_toArray, List.set_cons_zero, List.set_cons_succ]
            refine takeH (i := 2) (d := some 118) (v := ?_) rfl rfl (by kernel_rfl) (by kernel_rfl) (by kernel_rfl) (fun _ _ _ h => h) (Or.inl ⟨by rfl, ?_⟩) (by assumption) ?_
            rotate_left
            · (intro w5 hSw; (try dsimp only at hSw); go_simp; all_goals with_reducible rfl)
            simp only [Act.put, List.setIfInBounds_toArray, List.set_cons_zero, List.set_cons_succ]
            refine takeH (i := 3) (d := some 119) (v := ?_) rfl rfl (by kernel_rfl) (by kernel_rfl) (by kernel_rfl) (fun _ _ _ h => h) (Or.inl ⟨by rfl, ?_⟩) (by assumption) ?_
            rotate_left
            · (intro w5 hSw; (try dsimp only at hSw); go_simp; all_goals with_reducible rfl)
            simp only [Act.put, List.setIfInBounds_toArray, List.set_cons_zero, List.set_cons_succ]
            refine takeH (i := 6) (d := some 122) (v := ?_) rfl rfl (by kernel_rfl) (by kernel_rfl) (by kernel_rfl) (fun _ _ _ h => h) (Or.inl ⟨by rfl, ?_⟩) (by assumption) ?_
            rotate_left
            · (intro w5 hSw; (try dsimp only at hSw); go_simp; all_goals with_reducible rfl)
            simp only [Act.put, List.setIfInBounds_toArray, List.set_cons_zero, List.set_cons_succ]
            refine takeH (i := 7) (d := some 123) (v := ?_) rfl rfl (by kernel_rfl) (by kernel_rfl) (by kernel_rfl) (fun _ _ _ h => h) (Or.inl ⟨by rfl, ?_⟩) (by assumption) ?_
            rotate_left
            · (intro w5 hSw; (try dsimp only at hSw); go_simp; all_goals with_reducible rfl)
            simp only [Act.put, List.setIfInBounds_toArray, List.set_cons_zero, List.set_cons_succ]
            refine takeH (i := 8) (d := some 124) (v := ?_) rfl rfl (by kernel_rfl) (by kernel_rfl) (by kernel_rfl) (fun _ _ _ h => h) (Or.inl ⟨by rfl, ?_⟩) (by assumption) ?_
            rotate_left
            · (intro w5 hSw; (try dsimp only at hSw); go_simp; all_goals with_reducible rfl)
            simp only [Act.put, List.setIfInBounds_toArray, List.set_cons_zero, List.set_cons_succ]
            refine takeH (i := 9) (d := some 125) (v := ?_) rfl rfl (by kernel_rfl) (by kernel_rfl) (by kernel_rfl) (fun _ _ _ h => h) (Or.inl ⟨by rfl, ?_⟩) (by assumption) ?_
            rotate_left
            · (intro w5 hSw; (try dsimp only at hSw); go_simp; all_goals with_reducible rfl)
            simp only [Act.put, List.setIfInBounds_toArray, List.set_cons_zero, List.set_cons_succ]
            refine wpAnyH_ready (rs := [4]) (by kernel_rfl) (by simp) ?_
            refine AllReadyH.cons rfl (fun K hK => ?_) AllReadyH.nil
            go_simp
            go_at_call 24
            refine (partOf_any _ _ _ _).mono ?_
            rintro e w' ⟨rfl, rfl⟩
            refine hK.out _ _ ?_ (fun hHeld2 => ?_)
            · go_keep
            clear hK K
            refine takeH (i := 5) (d := some 121) (v := ?_) rfl rfl (by kernel_rfl) (by kernel_rfl) (by kernel_rfl) (fun _ _ _ h => h) (Or.inl ⟨by rfl, ?_⟩) (by assumption) ?_
            rotate_left
            · (intro w5 hSw; (try dsimp only at hSw); go_simp; all_goals with_reducible rfl)
            simp only [Act.put, List.setIfInBounds_toArray, List.set_cons_zero, List.set_cons_succ]
            refine takeH (i := 10) (d := some 126) (v := ?_) rfl rfl (by kernel_rfl) (by kernel_rfl) (by kernel_rfl) (fun _ _ _ h => h) (Or.inl ⟨by rfl, ?_⟩) (by assumption) ?_
            rotate_left
            · (intro w5 hSw; (try dsimp only at hSw); go_simp; all_goals with_reducible rfl)
            simp only [Act.put, List.setIfInBounds_toArray, List.set_cons_zero, List.set_cons_succ]
            refine takeH (i := 11) (d := some 127) (v := undef) rfl rfl (by kernel_rfl) (by kernel_rfl) (by kernel_rfl) (fun _ _ _ h => h) (Or.inr ⟨by rfl, rfl⟩) (by assumption) ?_
            simp only [Act.put, List.setIfInBounds_toArray, List.set_cons_zero, List.set_cons_succ]
            refine takeH (i := 12) (d := some 128) (v := undef) rfl rfl (by kernel_rfl) (by kernel_rfl) (by kernel_rfl) (fun _ _ _ h => h) (Or.inr ⟨by rfl, rfl⟩) (by assumption) ?_
            simp only [Act.put, List.setIfInBounds_toArray, List.set_cons_zero, List.set_cons_succ]
            refine takeH (i := 13) (d := some 129) (v := undef) rfl rfl (by kernel_rfl) (by kernel_rfl) (by kernel_rfl) (fun _ _ _ h => h) (Or.inr ⟨by rfl, rfl⟩) (by assumption) ?_
            simp only [Act.put, List.setIfInBounds_toArray, List.set_cons_zero, List.set_cons_succ]
            refine takeH (i := 14) (d := some 130) (v := undef) rfl rfl (by kernel_rfl) (by kernel_rfl) (by kernel_rfl) (fun _ _ _ h => h) (Or.inr ⟨by rfl, rfl⟩) (by assumption) ?_
            simp only [Act.put, List.setIfInBounds_toArray, List.set_cons_zero, List.set_cons_succ]
            refine takeH (i := 15) (d := some 131) (v := undef) rfl rfl (by kernel_rfl) (by kernel_rfl) (by kernel_rfl) (fun _ _ _ h => h) (Or.inr ⟨by rfl, rfl⟩) (by assumption) ?_
            simp only [Act.put, List.setIfInBounds_toArray, List.set_cons_zero, List.set_cons_succ]
            refine takeH (i := 16) (d := some 132) (v := ?_) rfl rfl (by kernel_rfl) (by kernel_rfl) (by kernel_rfl) (fun _ _ _ h => h) (Or.inl ⟨by rfl, ?_⟩) (by assumption) ?_
            rotate_left
            · (intro w5 hSw; (try dsimp only at hSw); go_simp; all_goals with_reducible rfl)
            simp only [Act.put, List.setIfInBounds_toArray, List.set_cons_zero, List.set_cons_succ]
            refine takeH (i := 17) (d := some 133) (v := ?_) rfl rfl (by kernel_rfl) (by kernel_rfl) (by kernel_rfl) (fun _ _ _ h => h) (Or.inl ⟨by rfl, ?_⟩) (by assumption) ?_
            rotate_left
            · (intro w5 hSw; (try dsimp only at hSw); go_simp; all_goals with_reducible rfl)
            simp only [Act.put, List.setIfInBounds_toArray, List.set_cons_zero, List.set_cons_succ]
            refine wpAnyH_done (by kernel_rfl) ?_ _
            go_wp2
            go_roundw
            case rel => exact ⟨k + 1, by omega, by go_num, by first | exact bnew (below_drewN hbel _) _ | exact (bnew (below_drewN hbel _) _).drew | exact below_drewN (bnew hbel _) _⟩
            case measure => simp [intOf]; omega
        · have m0 := m0.below hbel
          have m1 := m1.below hbel
          have m2 := m2.below hbel
          have m3 := m3.below hbel
          have hm2 := hm.below hbel
          have hG := hF.trans (hbel.mono hF.size)
          clear hm hbel hF m0 m1
          go_wp2_with fail
          refine (zzStats_nil ac n cc index (mk fi fa (fun i => partOf (fv i) (fp i)) n) _ hm2 (mk_length _ _ _ _).symm l6).mono ?_
          rintro e wf ⟨sa, sc, ss, rfl, hs, hrep, hnone, hbf⟩
          have HR : Hid (Reports (jointB (mk fi fa (fun i => partOf (fv i) (fp i)) n)) index (mk fi fa (fun i => partOf (fv i) (fp i)) n) ss) := hrep
          have k2 := m2.below hbf
          have k3 := m3.below hbf
          have hm3 := hm2.below hbf
          have hH := hG.trans (hbf.mono hG.size)
          clear hrep hnone m2 m3 hm2 hbf hG
          go_wp2
          go_loopw [17] (fun i wr => ∃ k : Nat, k ≤ n ∧ i = .int .i64 k ∧ Below wf.heap.size wf wr) (fun i _ => n - (intOf i).toNat)
          case atStart => exact ⟨0, Nat.zero_le _, rfl, Below.refl _ _⟩
          case round =>
            obtain ⟨k, hk, rfl, hbel⟩ := hrel
            by_cases hlt : k < n
            · obtain ⟨vb, vo, e2, cv, lv⟩ := k2.at hlt
              obtain ⟨pb, po, e3, cp, lp⟩ := k3.at hlt
              obtain ⟨mt, hst⟩ := HR.out.at (mk_at fi fa (fun i => partOf (fv i) (fp i)) n k hlt)
              obtain ⟨g, e4, s0, s1, s2, s3, s4, s5, hg⟩ := hs.at hst
              simp only [partOf_votes] at s2
              obtain ⟨v, hv⟩ : ∃ p, p = fv k := ⟨_, rfl⟩
              obtain ⟨p, hpp⟩ : ∃ p, p = fp k := ⟨_, rfl⟩
              simp only [← hv, ← hpp] at cv cp s2
              clear k2 k3 hm3 hv hpp hst hs s0 s1 s3 s4 s5
              subst e2 e3 e4
              have cv := (hbel.cell (by exact lv)).trans cv
              have cp := (hbel.cell (by exact lp)).trans cp
              have s2 := (hbel.cell (by exact hg)).trans s2
              have hsz := hbel.size
              have g0 : (0 : Int) ≤ (k : Int) := by omega
              have g3 : (k : Int) < (n2 : Int) := by omega
              have g4 : (k : Int) < (n3 : Int) := by omega
              have g5 : (k : Int) < (n : Int) := by omega
              cases v
              · simp only [Bool.false_or] at s2
                go_wp2
                go_quiet (fail)
                go_wp2
                go_roundw
                case rel => exact ⟨k + 1, by omega, by go_num, below_drewN hbel _⟩
                case measure => simp [intOf]; omega
              · simp only [Bool.true_or] at s2
                go_wp2
                go_quiet (fail)
                go_wp2
                go_roundw
                case rel => exact ⟨k + 1, by omega, by go_num, below_drewN hbel _⟩
                case measure => simp [intOf]; omega
            · have HB : Hid (ss.map memOf = mk fi fa (fun i => partOf (fv i) (fp i)) n) := reports_back HR.out (stable_bounds HP.out HV.out)
              have HL : Hid (n = ss.length) := by unfold Hid; rw [HR.out.length, mk_length]
              have hs2 := hs.below hbel
              have hm4 := hm3.below hbel
              have hI := hH.trans (hbel.mono hH.size)
              clear hs hm3 hbel hH k2 k3 HR
              go_wp2_with fail
              refine (zzConf_any sa n sc ss _ hs2 HL.out l6).mono ?_
              rintro e wg ⟨ab, cb, rfl, hm5, hbg⟩
              rw [HB.out] at hm5
              have hm6 := hm4.below hbg
              have hJ := hI.trans (hbg.mono hI.size)
              clear hs2 hm4 hbg hI HL HB
              go_wp2_with fail
              refine (same_any ab ac n cb cc (mk fi fa (fun i => partOf (fv i) (fp i)) n) _ hm5 hm6 (mk_length _ _ _ _).symm l6).mono ?_
              rintro e wh ⟨rfl, hbh⟩
              go_wp2
              go_ret
              exact ⟨rfl, hJ.trans (hbh.mono hJ.size)⟩

end Go.Proofs.Qxb6001112a
