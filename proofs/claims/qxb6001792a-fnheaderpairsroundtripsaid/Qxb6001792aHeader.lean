/-
  A header in memory (a map of slices of strings, no two in one row); zzBuildHeader, by contract.
-/
import Derived.Test.Qxb6001792aDistinct
namespace Go.Proofs.Qxb6001792a
open Go.RowKit Go.Maps

/-- v is a slice of the call's own that holds the strings l. -/
def Row (w : World) (lo : Nat) (v : Value) (l : List ByteArray) : Prop :=
  ∃ ao cap, v = .slice ao l.length cap ∧ w.ownsRow lo 9 1 v l.length (l.map Value.string)

theorem Row.kept {w w' : World} {lo : Nat} {v : Value} {l : List ByteArray} {row : Option Nat} (h : Row w lo v l) (hg : w.grownBy w' row) (hne : v.ownBlock = none ∨ v.ownBlock ≠ row) : Row w' lo v l := by
  obtain ⟨ao, cap, e, h1⟩ := h
  exact ⟨ao, cap, e, h1.kept hg hne⟩

/-- BLOCK b IS A HEADER: at each key a slice of the call's own; no two lie in one row. -/
structure Head (w : World) (lo b n : Nat) (ks : List ByteArray) (f : ByteArray → Option Value) (G : ByteArray → Option (List ByteArray)) : Prop where
  map : MapV w b n ks f
  dom : ∀ s, (f s).isSome = (G s).isSome
  rows : ∀ s v, f s = some v → ∃ l, G s = some l ∧ Row w lo v l
  apart : ∀ s t v u, s ≠ t → f s = some v → f t = some u → v.ownBlock = none ∨ v.ownBlock ≠ u.ownBlock

/-- While the slice at key sk is being appended to, as 'cur'. -/
structure Mid (w : World) (lo b n : Nat) (ks : List ByteArray) (f : ByteArray → Option Value) (G : ByteArray → Option (List ByteArray)) (sk : ByteArray) (cur : Option Nat) : Prop where
  map : MapV w b n ks f
  dom : ∀ s, (f s).isSome = (G s).isSome
  rows : ∀ s v, s ≠ sk → f s = some v → ∃ l, G s = some l ∧ Row w lo v l
  off : ∀ s v, s ≠ sk → f s = some v → v.ownBlock = none ∨ v.ownBlock ≠ cur
  apart : ∀ s t v u, s ≠ t → f s = some v → f t = some u → v.ownBlock = none ∨ v.ownBlock ≠ u.ownBlock

section
variable {w : World} {lo b n : Nat} {ks : List ByteArray} {f : ByteArray → Option Value} {G : ByteArray → Option (List ByteArray)}

theorem none_or_ne (x : Option Nat) : x = none ∨ x ≠ none := by cases x <;> simp

theorem Head.made (w : World) (lo : Nat) : Head (w.alloc (.map #[] 0)) lo w.heap.size 0 [] (fun _ => none) (fun _ => none) :=
  ⟨MapV.made w, fun _ => rfl, fun _ _ h => (by cases h), fun _ _ _ _ _ h => (by cases h)⟩

theorem Row.block {w : World} {lo : Nat} {v : Value} {l : List ByteArray} (h : Row w lo v l) : ∀ g, v.ownBlock = some g → lo ≤ g ∧ g < w.heap.size := by
  obtain ⟨_, _, _, h1⟩ := h
  exact fun g hg => h1.lt g hg

theorem Head.below {w' : World} (h : Head w lo b n ks f G) (hb : Below w.heap.size w w') : Head w' lo b n ks f G :=
  ⟨h.map.below hb, h.dom, fun s v hv => by
    obtain ⟨l, hl, hr⟩ := h.rows s v hv
    refine ⟨l, hl, ?_⟩
    have hg : w.grownBy w' none := ⟨hb.os, hb.tape, hb.output, hb.size, fun k hk _ => hb.block k hk⟩
    exact hr.kept hg (none_or_ne _), h.apart⟩

/-- The slice at a key, nil where there is none. -/
theorem Head.at (h : Head w lo b n ks f G) (sk : ByteArray) : Row w lo ((f sk).getD (.slice none 0 0)) ((G sk).getD []) := by
  cases hf : f sk with
  | none =>
    have hG : G sk = none := by
      have := h.dom sk
      rw [hf] at this
      cases hg : G sk
      · rfl
      · rw [hg] at this; simp at this
    rw [hG]
    exact ⟨none, 0, rfl, World.ownsRow_nil _ _ _ _⟩
  | some v =>
    obtain ⟨l, hl, hr⟩ := h.rows sk v hf
    rw [hl]
    exact hr

theorem Head.mid (h : Head w lo b n ks f G) (sk : ByteArray) : Mid w lo b n ks f G sk ((f sk).getD (.slice none 0 0)).ownBlock :=
  ⟨h.map, h.dom, fun s v _ hv => h.rows s v hv, fun s v hne hv => by
    cases hf : f sk with
    | none => exact none_or_ne _
    | some u => exact h.apart s sk v u hne hv hf, h.apart⟩

theorem Mid.alloc {sk : ByteArray} {cur : Option Nat} (h : Mid w lo b n ks f G sk cur) (o : Obj) : Mid (w.alloc o) lo b n ks f G sk cur :=
  ⟨h.map.alloc o, h.dom, fun s v hne hv => by
    obtain ⟨l, hl, hr⟩ := h.rows s v hne hv
    exact ⟨l, hl, hr.kept (World.grownBy_alloc w o none) (none_or_ne _)⟩, h.off, h.apart⟩

/-- Behind an append to the slice at hand. -/
theorem Mid.grown {w' : World} {sk : ByteArray} {cur : Option Nat} {g : Nat} (h : Mid w lo b n ks f G sk cur) (hg : w.grownBy w' cur) (hb : some b ≠ cur) (hat : cur = some g ∨ w.heap.size ≤ g) : Mid w' lo b n ks f G sk (some g) :=
  ⟨h.map.kept hg hb, h.dom, fun s v hne hv => by
    obtain ⟨l, hl, hr⟩ := h.rows s v hne hv
    exact ⟨l, hl, hr.kept hg (h.off s v hne hv)⟩, fun s v hne hv => by
    rcases hat with e | hge
    · rw [← e]; exact h.off s v hne hv
    · obtain ⟨l, hl, hr⟩ := h.rows s v hne hv
      right
      intro e
      have := (hr.block g e).2
      omega, h.apart⟩

/-- The slice is stored. -/
theorem Mid.store {w' : World} {sk : ByteArray} {cv : Value} {l : List ByteArray} {n' : Nat} {ks' : List ByteArray} (h : Mid w lo b n ks f G sk cv.ownBlock) (hc : Row w lo cv l) (hm : MapV w' b n' ks' (fun y => if y = sk then some cv else f y)) (hg : w.grownBy w' (some b))
    {G' : ByteArray → Option (List ByteArray)} (hG : ∀ s, G' s = if s = sk then some l else G s) : Head w' lo b n' ks' (fun y => if y = sk then some cv else f y) G' := by
  have off : ∀ v l', Row w lo v l' → v.ownBlock = none ∨ v.ownBlock ≠ some b := fun v l' hr => by
    obtain ⟨_, _, _, h1⟩ := hr
    exact .inr (fun e => h.map.ne_row h1 e.symm)
  refine ⟨hm, fun s => ?_, fun s v hv => ?_, fun s t v u hne hv hu => ?_⟩
  · rw [hG s]
    by_cases e : s = sk
    · simp [e]
    · simp [e, h.dom s]
  · rw [hG s]
    by_cases e : s = sk
    · simp only [e, if_true, Option.some.injEq] at hv
      subst hv
      exact ⟨l, by simp [e], hc.kept hg (off _ _ hc)⟩
    · simp only [e, if_false] at hv
      obtain ⟨l', hl', hr⟩ := h.rows s v e hv
      exact ⟨l', by simp [e, hl'], hr.kept hg (off _ _ hr)⟩
  · by_cases e : s = sk
    · subst e
      have e2 : t ≠ s := fun e => hne e.symm
      simp only [if_true, Option.some.injEq] at hv
      simp only [e2, if_false] at hu
      subst hv
      rcases h.off t u e2 hu with h1 | h1
      · rw [h1]; exact none_or_ne _
      · exact .inr (fun e => h1 e.symm)
    · simp only [e, if_false] at hv
      by_cases e2 : t = sk
      · simp only [e2, if_true, Option.some.injEq] at hu
        subst hu
        exact h.off s v e hv
      · simp only [e2, if_false] at hu
        exact h.apart s t v u hne hv hu
end

/-- The first m values of a name. -/
def valsTo (v : Nat → ByteArray) (m : Nat) : List ByteArray := (List.range m).map v
theorem valsTo_succ (v : Nat → ByteArray) (m : Nat) : valsTo v (m + 1) = valsTo v m ++ [v m] := by simp [valsTo, List.range_succ]
theorem valsTo_length (v : Nat → ByteArray) (m : Nat) : (valsTo v m).length = m := by simp [valsTo]

/-- WHAT zzBuildHeader BUILDS of the first k names. -/
def groupTo (nm : Nat → ByteArray) (vl : Nat → Nat) (vs : Nat → Nat → ByteArray) : Nat → ByteArray → Option (List ByteArray)
  | 0, _ => none
  | k + 1, s => if s = nm k then some ((groupTo nm vl vs k s).getD [] ++ valsTo (vs k) (vl k)) else groupTo nm vl vs k s

theorem groupTo_length (nm : Nat → ByteArray) (vl : Nat → Nat) (vs : Nat → Nat → ByteArray) (k : Nat) (s : ByteArray) : ((groupTo nm vl vs k s).getD []).length ≤ sumTo vl k := by
  induction k with
  | zero => simp [groupTo, sumTo]
  | succ k ih =>
    simp only [groupTo, sumTo]
    by_cases e : s = nm k
    · simp only [e, if_true, Option.getD_some, List.length_append, valsTo_length]
      rw [e] at ih
      omega
    · simp only [e, if_false]; omega

theorem groupTo_dom (nm : Nat → ByteArray) (vl : Nat → Nat) (vs : Nat → Nat → ByteArray) (k : Nat) (s : ByteArray) : (groupTo nm vl vs k s).isSome = true ↔ ∃ i, i < k ∧ nm i = s := by
  induction k with
  | zero => simp [groupTo]
  | succ k ih =>
    simp only [groupTo]
    by_cases e : s = nm k
    · simp only [e, if_true, Option.isSome_some, true_iff]
      exact ⟨k, by omega, rfl⟩
    · simp only [e, if_false]
      rw [ih]
      constructor
      · rintro ⟨i, hi, h⟩; exact ⟨i, by omega, h⟩
      · rintro ⟨i, hi, h⟩
        refine ⟨i, ?_, h⟩
        by_cases e2 : i = k
        · subst e2; exact absurd h.symm e
        · omega

set_option maxRecDepth 100000 in
set_option maxHeartbeats 2000000 in
theorem buildHeader_any (a0 : Option Addr) (n0 c0 : Nat) (a1 : Option Addr) (n1 c1 n : Nat) (nm : Nat → ByteArray) (va : Nat → Option Addr) (vl vc : Nat → Nat) (vs : Nat → Nat → ByteArray) (w : World)
    (h0 : Lies w a0 n0 (fun i => .string (nm i))) (h1 : LiesV w a1 n1 va vl vc vs) (hn : n = min n0 n1) (hb : n ≤ 65536) (hs : ∀ i, i < n0 → (nm i).size ≤ 1048576) (hsum : sumTo vl n ≤ 65536) :
    Calls Try.prog 19 #[.slice a0 n0 c0, .slice a1 n1 c1] w fun e w' => ∃ B lo ks f, e = .returned (.map (some B)) ∧ w.heap.size ≤ B ∧ Head w' lo B n ks f (groupTo nm vl vs n) ∧ Below w.heap.size w w' := by
  obtain ⟨i0, hi0, hz0, hz1, hz2⟩ := info_parts Try.info9
  have hmm := @run_makeMap Try.prog
  have ho := h1.outer
  have HI : Hid (∀ i, i < n1 → Lies w (va i) (vl i) (fun j => .string (vs i j))) := h1.inner
  have HS : Hid (∀ i, i < n0 → (nm i).size ≤ 1048576) := hs
  have HSum : Hid (sumTo vl n ≤ 65536) := hsum
  have HN : Hid (n = min n0 n1) := hn
  have l0 : n ≤ n0 := by omega
  have l1 : n ≤ n1 := by omega
  clear hs h1 hsum hn
  go_enter Try.func19, Try.ntmps19
  go_wp2_with fail
  refine (paired_any a0 n0 c0 a1 n1 c1 n HN.out _).mono ?_
  rintro e w0 ⟨rfl, hw0⟩
  have hst := Head.made w (w.heap.size + 1)
  have hbl : Below w.heap.size w (w.alloc (.map #[] 0)) := (Below.refl _ _).alloc (Nat.le_refl _) _
  rw [← hw0] at hst hbl
  clear HN hw0
  go_wp2
  go_loopw [7] (fun i wr => ∃ (k : Nat) (ks : List ByteArray) (f : ByteArray → Option Value), k ≤ n ∧ i = .int .i64 k ∧ Head wr (w.heap.size + 1) w.heap.size k ks f (groupTo nm vl vs k) ∧ Below w.heap.size w wr) (fun i _ => n - (intOf i).toNat)
  case atStart => exact ⟨0, [], _, Nat.zero_le _, rfl, hst, hbl⟩
  case round =>
    clear hst hbl
    obtain ⟨k, ks, f, hk, rfl, hhead, hbel⟩ := hrel
    by_cases hlt : k < n
    · obtain ⟨nb, no, e0, hcn, lbn⟩ := h0.at (k := k) (by omega)
      obtain ⟨vb, vo, e1, hcv, lbv⟩ := ho.at (k := k) (by omega)
      have hin := HI.out k (by omega)
      have hs20 := HS.out k (by omega)
      subst e0 e1
      obtain ⟨sk, hsk⟩ : ∃ x, x = nm k := ⟨_, rfl⟩
      obtain ⟨ak, hak⟩ : ∃ x, x = va k := ⟨_, rfl⟩
      obtain ⟨lk, hlk⟩ : ∃ x, x = vl k := ⟨_, rfl⟩
      obtain ⟨ck, hck⟩ : ∃ x, x = vc k := ⟨_, rfl⟩
      simp only [← hsk, ← hak, ← hlk, ← hck] at hcn hcv hin hs20
      have HK : Hid (sk = nm k) := hsk
      have HL : Hid (lk = vl k) := hlk
      clear hsk hak hlk hck h0 ho
      have rn := (hbel.cell (by exact lbn)).trans hcn
      have rv := (hbel.cell (by exact lbv)).trans hcv
      have hml : sk.size ≤ maxLen := by unfold maxLen; omega
      have hlook := hhead.map.look Try.underlying33 (zero27 _) sk hml
      have hmid := hhead.mid sk
      obtain ⟨l0', hl0'⟩ : ∃ x, x = (groupTo nm vl vs k sk).getD [] := ⟨_, rfl⟩
      have hrow := hhead.at sk
      have hlen0 := groupTo_length nm vl vs k sk
      rw [← hl0'] at hrow hlen0
      have HG : Hid (l0' = (groupTo nm vl vs k sk).getD []) := hl0'
      have hsumk : sumTo vl k + lk ≤ 65536 := by
        have h2 := sumTo_mono vl (a := k + 1) (b := n) (by omega)
        have h3 := HSum.out
        simp only [sumTo] at h2
        have := HL.out
        omega
      obtain ⟨ao, cap, ev, hown0⟩ := hrow
      rw [ev] at hlook hmid hown0
      obtain ⟨q0, hq0⟩ : ∃ q, q = l0'.length := ⟨_, rfl⟩
      rw [← hq0] at hlook hmid hown0 hlen0
      have HQ : Hid (q0 = l0'.length) := hq0
      clear hq0 hl0' ev hhead
      have z0 : (0 : Int) ≤ (k : Int) := by omega
      have z1 : (k : Int) < (n1 : Int) := by omega
      go_wp2
      go_loopw [9, 10] (fun cv j wr2 => ∃ (m q : Nat) (ao : Option Addr) (cap : Nat), m ≤ lk ∧ q = q0 + m ∧ j = .int .i64 m ∧ cv = .slice ao q cap ∧ wr2.ownsRow (w.heap.size + 1) 9 1 (.slice ao q cap) q ((l0' ++ valsTo (vs k) m).map Value.string) ∧ Mid wr2 (w.heap.size + 1) w.heap.size k ks f (groupTo nm vl vs k) sk (Value.slice ao q cap).ownBlock ∧ Below w.heap.size w wr2)
        (fun _ j _ => lk - (intOf j).toNat)
      case atStart => exact ⟨0, q0, _, _, Nat.zero_le _, rfl, rfl, rfl, by simpa [valsTo] using hown0, hmid, hbel⟩
      case round =>
        clear hmid hbel hown0 rn rv hlook
        obtain ⟨m, q, ar, cr, hm, hqe, rfl, rfl, hown, hmid, hbel⟩ := hrel
        have HQE : Hid (q = q0 + m) := hqe
        have hqb : q ≤ 65536 + 65536 := by omega
        clear hqe
        have rv := (hbel.cell (by exact lbv)).trans hcv
        by_cases hlm : m < lk
        · obtain ⟨b2, off2, e2, hc2, lb2⟩ := hin.at hlm
          subst e2
          have rs := (hbel.cell (by exact lb2)).trans hc2
          have hsz := hbel.size
          have hneM := hmid.map.ne_row hown
          have hrb : ∀ g, (Value.slice ar q cr).ownBlock = some g → w.heap.size + 1 ≤ g := fun g hg => (hown.lt g hg).1
          have hlt2 := hmid.map.lt
          clear hin hc2
          go_wp2_with (at_builtin; refine wpList_append_lies _ rfl _ _ 27 rfl (w.heap.size + 1) 9 i0 _ 1 16 Try.underlying27 hi0 hz0 hz1 hz2 rfl (by omega) (.slice ar q cr) q ((l0' ++ valsTo (vs k) m).map Value.string) rfl (hown.alloc _) ⟨wr.heap.size, 0, none⟩ 1 1 [.string (vs k m)] rfl rfl (World.news_of_block (cs := #[.string (vs k m)]) (t := 9) (fr := (0, 0)) (heap_one_new wr _)) (by simp [Value.oneCell']) (by omega) (by unfold maxLen; omega) (by omega) (by simp; omega) (wr.heap.size + 1) (by simp) ?_; intro gg cap' w2 hown2 hgrow2 hat hlt')
          go_roundw
          case rel =>
            refine ⟨m + 1, q + 1, _, _, by omega, by have := HQE.out; omega, by go_num, rfl, ?_, (hmid.alloc _).grown hgrow2 hneM (by rcases hat with h | h; exact Or.inl h; exact Or.inr (by simp; omega)), ?_⟩
            · rw [valsTo_succ, ← List.append_assoc, List.map_append]; exact hown2
            · exact (bnew hbel _).grown hgrow2 (bnew hbel _).size (fun j hj => by have := hrb j hj; omega)
          case measure => simp [intOf]; omega
        · have em : m = lk := by omega
          have hrowc : Row wr (w.heap.size + 1) (.slice ar q cr) (l0' ++ valsTo (vs k) m) := ⟨ar, cr, by rw [List.length_append, valsTo_length, ← HQ.out, ← HQE.out], by rw [List.length_append, valsTo_length, ← HQ.out, ← HQE.out]; exact hown⟩
          have hG : ∀ s, groupTo nm vl vs (k + 1) s = if s = sk then some (l0' ++ valsTo (vs k) m) else groupTo nm vl vs k s := fun s => by
            simp only [groupTo]
            by_cases e : s = sk
            · subst e
              simp only [HK.out, if_true]
              rw [em, HL.out, HG.out, HK.out]
            · have e' : s ≠ nm k := by rw [← HK.out]; exact e
              simp only [e, e', if_false]
          have HGs : Hid (∀ s, groupTo nm vl vs (k + 1) s = if s = sk then some (l0' ++ valsTo (vs k) m) else groupTo nm vl vs k s) := hG
          have hsz := hbel.size
          clear hG hin em
          go_wp2_with (at_mapUpdate; refine wpList_store_V _ rfl _ _ _ 33 27 rfl Try.underlying33 w.heap.size k ks f rfl hmid.map (by unfold maxLen; omega) sk _ rfl rfl hml ?_; intro w1 ks1 hmap1 hg1)
          go_roundw
          case rel => exact ⟨k + 1, ks1, _, by omega, by go_num, hmid.store hrowc hmap1 hg1 HGs.out, hbel.grown hg1 hsz (fun j hj => by cases hj; exact Nat.le_refl _)⟩
          case measure => simp [intOf]; omega
    · go_wp2
      go_ret
      have e : k = n := by omega
      subst e
      exact ⟨_, _, ks, f, rfl, Nat.le_refl _, hhead, hbel⟩

end Go.Proofs.Qxb6001792a
