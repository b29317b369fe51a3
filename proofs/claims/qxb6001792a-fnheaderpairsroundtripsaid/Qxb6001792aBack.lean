/-
  headerFromPairs, by contract.
-/
import Derived.Test.Qxb6001792aFacts
namespace Go.Proofs.Qxb6001792a
open Go.RowKit Go.Maps

/-- What headerFromPairs builds of the pairs: a name that stands in no pair has no entry. -/
def gOf (ps : List (ByteArray × ByteArray)) (s : ByteArray) : Option (List ByteArray) := if valsOf s ps = [] then none else some (valsOf s ps)

theorem gOf_getD (ps : List (ByteArray × ByteArray)) (s : ByteArray) : (gOf ps s).getD [] = valsOf s ps := by
  unfold gOf
  by_cases h : valsOf s ps = []
  · simp [h]
  · simp [h]

theorem valsOf_length (ps : List (ByteArray × ByteArray)) (s : ByteArray) : (valsOf s ps).length ≤ ps.length := by
  simp only [valsOf, List.length_map]
  exact List.length_filter_le _ _

theorem gOf_take {ps : List (ByteArray × ByteArray)} {i : Nat} {s t : ByteArray} (h : ps[i]? = some (s, t)) (x : ByteArray) : gOf (ps.take (i + 1)) x = if x = s then some (valsOf s (ps.take i) ++ [t]) else gOf (ps.take i) x := by
  have e0 : valsOf x (ps.take (i + 1)) = valsOf x (ps.take i) ++ (if x = s then [t] else []) := by
    rw [List.take_add_one, h, valsOf_append]
    by_cases e : x = s
    · subst e; simp [valsOf]
    · have e2 : ¬ s = x := fun e1 => e e1.symm
      simp [valsOf, e, e2]
  unfold gOf
  rw [e0]
  by_cases e : x = s
  · subst e; simp
  · simp [e]

/-- 'make(map[K]V, n)'. -/
theorem run_makeMap_hint (k : IntKind) (x : Int) (w : World) : (Instr.makeMap 37 (some (.int k x))).run Try.prog w = .ok (.map (some w.heap.size)) (w.alloc (.map #[] 0)) := by
  unfold Instr.makeMap
  have h := Try.underlying37
  simp [underlying, h, asInt, newObj]
  rfl

/-- 'wpAnyH_take', the slot that is written given by its number. -/
theorem takeH {P : Program} {ops : Array Oper} {Q : Exit → Act → World → Prop} {md : Region.Mode} {S : World → Prop} {i : Nat} {oi : Oper} {d : Option Tmp} {v : Value} {fuel : Nat} {listed : Array Bool} {a : Act} {w : World} (hi : ops[i]? = some oi) (hd : oi.dst = d)
    (hs : Region.noSelect ops = true) (hf : Region.free md ops listed i = true) (hr : (Region.ready md ops listed).contains i = true)
    (hQ : ∀ c a w, Q (.panic c) (a.put d v) w → Q (.panic c) a w) (hy : YieldsIf P ops S oi v a) (hS : S w)
    (h : wpAnyH P md ops Q S fuel (listed.setIfInBounds i true) (a.put d v) w) : wpAnyH P md ops Q S (fuel + 1) listed a w := by
  subst hd
  exact wpAnyH_take hi hs hf hr hQ hy hS h

/-- 'm[k] = v' at a step of a region that draws its order. -/
theorem step_store_V (w : World) {ops : Array Oper} {o : Oper} {a : Act} {K : Act → World → Prop} {Q : Exit → Act → World → Prop} {E : Prop}
    (hg : o.guard = none) (m x v : Operand) (t e : TypeId) (hop : o.op = Op.mapUpdate t m x v) (ht : Try.prog.underlying t = some (.map 9 e)) (b n : Nat) (ks : List ByteArray) (f : ByteArray → Option Value)
    (hm : a.eval m = .map (some b)) (hown : MapV w b n ks f) (hn : n < maxLen) (s : ByteArray) (val : Value) (hx : a.eval x = .string s) (hv : a.eval v = val) (hs : s.size ≤ maxLen)
    (hK : ∀ w' ks', MapV w' b (n + 1) ks' (fun y => if y = s then some val else f y) → w.grownBy w' (some b) → K (a.put o.dst undef) w') :
    if Region.wanted o (yielded ops a.tmps) = true then Oper.wp Try.prog o a w K Q else E := by
  have hw : Region.wanted o (yielded ops a.tmps) = true := by simp [Region.wanted, hg]
  rw [if_pos hw]
  obtain ⟨w', hrun, ⟨ks', r1⟩, r2⟩ := hown.store ht hn s hs val
  unfold Oper.wp
  simp [execOp, hop, hm, hx, hv, hrun, Result.andThen]
  exact hK w' ks' r1 r2

theorem Row.drew {w : World} {lo : Nat} {v : Value} {l : List ByteArray} (h : Row w lo v l) : Row w.drew lo v l := by
  obtain ⟨ao, cap, e, h1⟩ := h
  exact ⟨ao, cap, e, h1.drew⟩

theorem Mid.drew {w : World} {lo b n : Nat} {ks : List ByteArray} {f : ByteArray → Option Value} {G : ByteArray → Option (List ByteArray)} {sk : ByteArray} {cur : Option Nat} (h : Mid w lo b n ks f G sk cur) : Mid w.drew lo b n ks f G sk cur :=
  ⟨h.map.drew, h.dom, fun s v hne hv => by
    obtain ⟨l, hl, hr⟩ := h.rows s v hne hv
    exact ⟨l, hl, hr.drew⟩, h.off, h.apart⟩

set_option linter.unusedSimpArgs false in
set_option maxRecDepth 100000 in
set_option maxHeartbeats 4000000 in
theorem fromPairs_any (base : Nat) (pa : Option Addr) (p pc : Nat) (cs : List Value) (ps : List (ByteArray × ByteArray)) (w : World) (hrow : w.ownsRow base 46 1 (.slice pa (2 * p) pc) (2 * p) cs) (hpv : PairsV w cs ps) (hp : p = ps.length) (hpb : p ≤ 4294967296)
    (hsz : ∀ (i : Nat) s t, ps[i]? = some (s, t) → s.size ≤ 1048576) :
    Calls Try.prog 29 #[.slice pa (2 * p) pc] w fun e w' => ∃ B lo ks f, e = .returned (.tuple #[.map (some B), .nilIface]) ∧ Head w' lo B p ks f (gOf ps) ∧ Below w.heap.size w w' := by
  obtain ⟨i0, hi0, hz0, hz1, hz2⟩ := info_parts Try.info9
  have hmm := run_makeMap_hint
  have HSz : Hid (∀ (i : Nat) s t, ps[i]? = some (s, t) → s.size ≤ 1048576) := hsz
  have HPl : Hid (p = ps.length) := hp
  have hst := Head.made w (w.heap.size + 1)
  clear hsz hp
  go_enter Try.func29, Try.ntmps29
  have hpar : Int.tmod (2 * (p : Int)) 2 = 0 := by rw [Int.mul_tmod_right]
  have hdv : Int.tdiv (2 * (p : Int)) 2 = p := by rw [Int.mul_tdiv_cancel_left _ (by decide)]
  go_wp2_with fail
  go_loopw [5] (fun iv wr => ∃ (i k : Nat) (ks : List ByteArray) (f : ByteArray → Option Value), i ≤ p ∧ iv = .int .i64 k ∧ Hid (k = 2 * i) ∧ k ≤ 2 * p ∧ Head wr (w.heap.size + 1) w.heap.size i ks f (gOf (ps.take i)) ∧ Below w.heap.size w wr) (fun iv _ => 2 * p - (intOf iv).toNat)
  case atStart => exact ⟨0, 0, [], fun _ => none, Nat.zero_le _, rfl, rfl, Nat.zero_le _, hst, (Below.refl _ _).alloc (Nat.le_refl _) _⟩
  case round =>
    clear hst
    obtain ⟨i, k, ks, f, hi, rfl, HK, hk2, hhead, hbel⟩ := hrel
    by_cases hlt : i < p
    · obtain ⟨g, s, t, b1, c1, b2, c2, e0, hpi, hg, r1, r2, y1, y2⟩ := pair_at hrow hpv HPl.out hlt
      subst e0
      rw [← HK.out] at r1 r2
      have hki : k + 1 < 2 * p := by have := HK.out; omega
      have sz1 := HSz.out i s t hpi
      have hml : s.size ≤ maxLen := by unfold maxLen; omega
      have hmid := hhead.mid s
      have hrowS := hhead.at s
      rw [gOf_getD] at hrowS
      obtain ⟨l0, hl0⟩ : ∃ x, x = valsOf s (ps.take i) := ⟨_, rfl⟩
      rw [← hl0] at hrowS
      have hq1 : l0.length ≤ i := by rw [hl0]; exact Nat.le_trans (valsOf_length _ _) (by rw [List.length_take]; omega)
      obtain ⟨ar, cr, ev, hown⟩ := hrowS
      rw [ev] at hmid hown
      obtain ⟨q, hq⟩ : ∃ x, x = l0.length := ⟨_, rfl⟩
      have HLook : Hid (∀ w5, MapV w5 w.heap.size i ks f → (Instr.lookup 37 (.map (some w.heap.size)) (.string s) false).run Try.prog w5 = .ok (.slice ar q cr) w5) := fun w5 h5 => by
        have h6 := h5.look Try.underlying37 (zero27 _) s hml
        rw [ev, ← hq] at h6
        exact h6
      rw [← hq] at hmid hown hq1
      have HQ : Hid (q = l0.length) := hq
      have HL0 : Hid (l0 = valsOf s (ps.take i)) := hl0
      have HPI : Hid (ps[i]? = some (s, t)) := hpi
      have hcv := bytesV_string (y1.below hbel)
      have s1 := (hbel.cell (by exact hg)).trans r1
      have HBT : Hid (∀ w5, Below w.heap.size w w5 → (convert 46 9 (.slice (some ⟨b2, 0, none⟩) t.size c2)).run Try.prog w5 = .ok (.string t) w5) := fun w5 h5 => bytesV_string (y2.below h5)
      have HCell : Hid (∀ w5, Below w.heap.size w w5 → w5.cell? ⟨g, k + 1, none⟩ = some (.slice (some ⟨b2, 0, none⟩) t.size c2)) := fun w5 h5 => (h5.cell (by exact hg)).trans r2
      clear hq hl0 ev hhead y1 y2 r1 r2 hpi hrow hpv hmm hpar hdv
      have z0 : (0 : Int) ≤ (k : Int) := by omega
      have z1 : (k : Int) + 1 < 2 * (p : Int) := by omega
      have z2 : (k : Int) < 2 * (p : Int) := by omega
      have z4 : (0 : Int) ≤ (k : Int) + 1 := by omega
      have z5 : ((k : Int) + 1).toNat = k + 1 := by omega
      have hlt2 := hmid.map.lt
      have hsz := hbel.size
      have hneM := hmid.map.ne_row hown
      have hrb : ∀ g, (Value.slice ar q cr).ownBlock = some g → w.heap.size + 1 ≤ g := fun g hg => (hown.lt g hg).1
      go_wp2_with fail
      have hw1 : IntKind.i64.wrap ((k : Int) + 1) = (k : Int) + 1 := by rw [IntKind.wrap_i64]; omega
      refine wp_region_held_drew (S := fun w' => Below w.heap.size w w') (by kernel_rfl) (below_drewN hbel 1) (fun hHeld => ?_)
      refine takeH (i := 0) (d := some 27) (v := ?_) rfl rfl (by kernel_rfl) (by kernel_rfl) (by kernel_rfl) (fun _ _ _ h => h) (Or.inl ⟨by rfl, ?_⟩) (by assumption) ?_
      rotate_left
      · (intro w5 hSw; go_simp; all_goals with_reducible rfl)
      simp only [Act.put, List.setIfInBounds_toArray, List.set_cons_zero, List.set_cons_succ]
      refine takeH (i := 1) (d := some 28) (v := ?_) rfl rfl (by kernel_rfl) (by kernel_rfl) (by kernel_rfl) (fun _ _ _ h => h) (Or.inl ⟨by rfl, ?_⟩) (by assumption) ?_
      rotate_left
      · (intro w5 hSw; go_simp; all_goals with_reducible rfl)
      simp only [Act.put, List.setIfInBounds_toArray, List.set_cons_zero, List.set_cons_succ]
      refine takeH (i := 2) (d := some 29) (v := ?_) rfl rfl (by kernel_rfl) (by kernel_rfl) (by kernel_rfl) (fun _ _ _ h => h) (Or.inl ⟨by rfl, ?_⟩) (by assumption) ?_
      rotate_left
      · (intro w5 hSw; go_simp; all_goals with_reducible rfl)
      simp only [Act.put, List.setIfInBounds_toArray, List.set_cons_zero, List.set_cons_succ]
      refine takeH (i := 3) (d := some 30) (v := ?_) rfl rfl (by kernel_rfl) (by kernel_rfl) (by kernel_rfl) (fun _ _ _ h => h) (Or.inl ⟨by rfl, ?_⟩) (by assumption) ?_
      rotate_left
      · (intro w5 hSw; go_simp; all_goals with_reducible rfl)
      simp only [Act.put, List.setIfInBounds_toArray, List.set_cons_zero, List.set_cons_succ]
      refine takeH (i := 5) (d := some 32) (v := ?_) rfl rfl (by kernel_rfl) (by kernel_rfl) (by kernel_rfl) (fun _ _ _ h => h) (Or.inl ⟨by rfl, ?_⟩) (by assumption) ?_
      rotate_left
      · (intro w5 hSw; go_simp; all_goals with_reducible rfl)
      simp only [Act.put, List.setIfInBounds_toArray, List.set_cons_zero, List.set_cons_succ]
      refine takeH (i := 6) (d := some 33) (v := ?_) rfl rfl (by kernel_rfl) (by kernel_rfl) (by kernel_rfl) (fun _ _ _ h => h) (Or.inl ⟨by rfl, ?_⟩) (by assumption) ?_
      rotate_left
      · (intro w5 hSw; go_simp; all_goals with_reducible rfl)
      simp only [Act.put, List.setIfInBounds_toArray, List.set_cons_zero, List.set_cons_succ]
      refine takeH (i := 7) (d := some 34) (v := ?_) rfl rfl (by kernel_rfl) (by kernel_rfl) (by kernel_rfl) (fun _ _ _ h => h) (Or.inl ⟨by rfl, ?_⟩) (by assumption) ?_
      rotate_left
      · (intro w5 hSw; go_simp; all_goals with_reducible rfl)
      simp only [Act.put, List.setIfInBounds_toArray, List.set_cons_zero, List.set_cons_succ]
      refine takeH (i := 8) (d := some 35) (v := ?_) rfl rfl (by kernel_rfl) (by kernel_rfl) (by kernel_rfl) (fun _ _ _ h => h) (Or.inl ⟨by rfl, ?_⟩) (by assumption) ?_
      rotate_left
      · (intro w5 hSw; go_simp; all_goals with_reducible rfl)
      simp only [Act.put, List.setIfInBounds_toArray, List.set_cons_zero, List.set_cons_succ]
      refine takeH (i := 9) (d := some 36) (v := ?_) rfl rfl (by kernel_rfl) (by kernel_rfl) (by kernel_rfl) (fun _ _ _ h => h) (Or.inl ⟨by rfl, ?_⟩) (by assumption) ?_
      rotate_left
      · (intro w5 hSw; have hc5 := HCell.out w5 hSw; go_simp; all_goals with_reducible rfl)
      simp only [Act.put, List.setIfInBounds_toArray, List.set_cons_zero, List.set_cons_succ]
      refine takeH (i := 10) (d := some 37) (v := ?_) rfl rfl (by kernel_rfl) (by kernel_rfl) (by kernel_rfl) (fun _ _ _ h => h) (Or.inl ⟨by rfl, ?_⟩) (by assumption) ?_
      rotate_left
      · (intro w5 hSw; have hc5 := HBT.out w5 hSw; go_simp; all_goals with_reducible rfl)
      simp only [Act.put, List.setIfInBounds_toArray, List.set_cons_zero, List.set_cons_succ]
      clear HCell HBT hw1 hbel hcv s1
      have hown1 := hown.drew
      have hmid1 : Mid wr.drew (w.heap.size + 1) w.heap.size i ks f (gOf (ps.take i)) s (Value.slice ar q cr).ownBlock := hmid.drew
      refine wpAnyH_ready (rs := [4, 11]) (by kernel_rfl) (by simp) ?_
      refine AllReadyH.cons rfl (fun K hK => ?_) (AllReadyH.cons rfl (fun K hK => ?_) AllReadyH.nil)
      · have hlk := HLook.out _ hmid1.map
        go_simp
        refine hK.out _ _ hHeld (fun _ => ?_)
        clear hK K hlk
        refine wpAnyH_ready (rs := [11]) (by kernel_rfl) (by simp) ?_
        refine AllReadyH.cons rfl (fun K hK => ?_) AllReadyH.nil
        go_simp
        refine hK.out _ _ (bnew hHeld _) (fun _ => ?_)
        clear hK K
        refine wpAnyH_ready (rs := [12]) (by kernel_rfl) (by simp) ?_
        refine AllReadyH.cons rfl (fun K hK => ?_) AllReadyH.nil
        refine step_append_lies _ rfl _ _ 27 rfl (w.heap.size + 1) 9 i0 _ 1 16 Try.underlying27 hi0 hz0 hz1 hz2 rfl (by omega) (.slice ar q cr) q (l0.map Value.string) rfl (hown1.alloc _) ⟨wr.heap.size, 0, none⟩ 1 1 [.string t] rfl rfl (World.news_of_block (cs := #[.string t]) (t := 9) (fr := (0, 0)) (heap_one_new wr.drew _)) (by simp [Value.oneCell']) (by omega) (by unfold maxLen; omega) (by omega) (by simp; omega) (wr.heap.size + 1) (by simp) ?_
        intro gg cap' w2 hown2 hgrow2 hat hlt'
        refine hK.out _ _ ((bnew hHeld _).grown hgrow2 (bnew hHeld _).size (fun j hj => by have := hrb j hj; omega)) (fun hHeld4 => ?_)
        clear hK K
        have hmid2 := (hmid1.alloc _).grown hgrow2 hneM (by rcases hat with h | h; exact Or.inl h; exact Or.inr (by simp; omega))
        simp only [Act.put, List.setIfInBounds_toArray, List.set_cons_zero, List.set_cons_succ]
        refine wpAnyH_ready (rs := [13]) (by kernel_rfl) (by simp) ?_
        refine AllReadyH.cons rfl (fun K hK => ?_) AllReadyH.nil
        refine step_store_V _ rfl _ _ _ 37 27 rfl Try.underlying37 w.heap.size i ks f rfl hmid2.map (by unfold maxLen; omega) s _ rfl rfl hml ?_
        intro w3 ks1 hmap3 hg3
        refine hK.out _ _ (hHeld4.grown hg3 hHeld4.size (fun j hj => by cases hj; exact Nat.le_refl _)) (fun hHeld5 => ?_)
        clear hK K
        have hrowc : Row w2 (w.heap.size + 1) (.slice (some ⟨gg, 0, none⟩) (q + 1) cap') (l0 ++ [t]) := ⟨_, cap', by rw [List.length_append, ← HQ.out]; rfl, by rw [List.length_append, ← HQ.out, List.map_append]; exact hown2⟩
        have hhead3 := Mid.store (G' := gOf (ps.take (i + 1))) hmid2 hrowc hmap3 hg3 (fun x => by rw [gOf_take HPI.out x, HL0.out])
        simp only [Act.put, List.setIfInBounds_toArray, List.set_cons_zero, List.set_cons_succ]
        refine wpAnyH_done (by kernel_rfl) ?_ _
        clear hmid2 hmid1 hmid hrowc hown2 hmap3 hg3 hgrow2 hown hown1 hat hHeld4 hHeld
        go_wp2
        go_roundw
        case rel => exact ⟨i + 1, k + 2, ks1, _, by omega, by go_num, by have := HK.out; simp only [Hid]; omega, by have := HK.out; omega, hhead3, hHeld5⟩
        case measure => simp [intOf]; omega
      · go_simp
        refine hK.out _ _ (bnew hHeld _) (fun _ => ?_)
        clear hK K
        refine wpAnyH_ready (rs := [4]) (by kernel_rfl) (by simp) ?_
        refine AllReadyH.cons rfl (fun K hK => ?_) AllReadyH.nil
        have hlk := HLook.out (wr.alloc (.cells #[.string t] 9 (0, 0))).drew (hmid.map.alloc _).drew
        go_simp
        refine hK.out _ _ (bnew hHeld _) (fun _ => ?_)
        clear hK K
        refine wpAnyH_ready (rs := [12]) (by kernel_rfl) (by simp) ?_
        refine AllReadyH.cons rfl (fun K hK => ?_) AllReadyH.nil
        refine step_append_lies _ rfl _ _ 27 rfl (w.heap.size + 1) 9 i0 _ 1 16 Try.underlying27 hi0 hz0 hz1 hz2 rfl (by omega) (.slice ar q cr) q (l0.map Value.string) rfl (hown1.alloc _) ⟨wr.heap.size, 0, none⟩ 1 1 [.string t] rfl rfl (World.news_of_block (cs := #[.string t]) (t := 9) (fr := (0, 0)) (heap_one_new wr.drew _)) (by simp [Value.oneCell']) (by omega) (by unfold maxLen; omega) (by omega) (by simp; omega) (wr.heap.size + 1) (by simp) ?_
        intro gg cap' w2 hown2 hgrow2 hat hlt'
        refine hK.out _ _ ((bnew hHeld _).grown hgrow2 (bnew hHeld _).size (fun j hj => by have := hrb j hj; omega)) (fun hHeld4 => ?_)
        clear hK K
        have hmid2 := (hmid1.alloc _).grown hgrow2 hneM (by rcases hat with h | h; exact Or.inl h; exact Or.inr (by simp; omega))
        simp only [Act.put, List.setIfInBounds_toArray, List.set_cons_zero, List.set_cons_succ]
        refine wpAnyH_ready (rs := [13]) (by kernel_rfl) (by simp) ?_
        refine AllReadyH.cons rfl (fun K hK => ?_) AllReadyH.nil
        refine step_store_V _ rfl _ _ _ 37 27 rfl Try.underlying37 w.heap.size i ks f rfl hmid2.map (by unfold maxLen; omega) s _ rfl rfl hml ?_
        intro w3 ks1 hmap3 hg3
        refine hK.out _ _ (hHeld4.grown hg3 hHeld4.size (fun j hj => by cases hj; exact Nat.le_refl _)) (fun hHeld5 => ?_)
        clear hK K
        have hrowc : Row w2 (w.heap.size + 1) (.slice (some ⟨gg, 0, none⟩) (q + 1) cap') (l0 ++ [t]) := ⟨_, cap', by rw [List.length_append, ← HQ.out]; rfl, by rw [List.length_append, ← HQ.out, List.map_append]; exact hown2⟩
        have hhead3 := Mid.store (G' := gOf (ps.take (i + 1))) hmid2 hrowc hmap3 hg3 (fun x => by rw [gOf_take HPI.out x, HL0.out])
        simp only [Act.put, List.setIfInBounds_toArray, List.set_cons_zero, List.set_cons_succ]
        refine wpAnyH_done (by kernel_rfl) ?_ _
        clear hmid2 hmid1 hmid hrowc hown2 hmap3 hg3 hgrow2 hown hown1 hat hHeld4 hHeld
        go_wp2
        go_roundw
        case rel => exact ⟨i + 1, k + 2, ks1, _, by omega, by go_num, by have := HK.out; simp only [Hid]; omega, by have := HK.out; omega, hhead3, hHeld5⟩
        case measure => simp [intOf]; omega
    · have ei : i = p := by have := HK.out; omega
      have ek : k = 2 * p := by have := HK.out; omega
      go_wp2
      go_ret2
      subst ei
      rw [List.take_of_length_le (by have := HPl.out; omega)] at hhead
      exact ⟨_, _, ks, f, rfl, hhead, hbel⟩

set_option maxHeartbeats 400000 in
theorem zzFrom_any (base : Nat) (pa : Option Addr) (p pc : Nat) (cs : List Value) (ps : List (ByteArray × ByteArray)) (w : World) (hrow : w.ownsRow base 46 1 (.slice pa (2 * p) pc) (2 * p) cs) (hpv : PairsV w cs ps) (hp : p = ps.length) (hpb : p ≤ 4294967296)
    (hsz : ∀ (i : Nat) s t, ps[i]? = some (s, t) → s.size ≤ 1048576) :
    Calls Try.prog 21 #[.slice pa (2 * p) pc] w fun e w' => ∃ B lo ks f, e = .returned (.tuple #[.map (some B), .nilIface]) ∧ Head w' lo B p ks f (gOf ps) ∧ Below w.heap.size w w' := by
  have H : Hid (Calls Try.prog 29 #[.slice pa (2 * p) pc] w fun e w' => ∃ B lo ks f, e = .returned (.tuple #[.map (some B), .nilIface]) ∧ Head w' lo B p ks f (gOf ps) ∧ Below w.heap.size w w') := fromPairs_any base pa p pc cs ps w hrow hpv hp hpb hsz
  clear hrow hpv hp hpb hsz
  go_enter Try.func21, Try.ntmps21
  go_wp2_with fail
  refine (H.out).mono ?_
  rintro e w' ⟨B, lo, ks, f, rfl, h1, h2⟩
  go_wp2
  go_ret2
  exact ⟨B, lo, ks, f, rfl, h1, h2⟩

end Go.Proofs.Qxb6001792a
