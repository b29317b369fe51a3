/-
  A store into a map, for the walk; zzDistinctNames, by contract.
-/
import Derived.Test.Qxb6001792aClones
namespace Go.Proofs.Qxb6001792a
open Go.RowKit Go.Maps

/-- 'm[k] = v' at the operation. -/
theorem wpList_store_V (w : World) {ops : Array Oper} {rest : List Oper} {o : Oper} {a : Act} {Q : Exit → Act → World → Prop}
    (hg : o.guard = none) (m x v : Operand) (t e : TypeId) (hop : o.op = Op.mapUpdate t m x v) (ht : Try.prog.underlying t = some (.map 9 e)) (b n : Nat) (ks : List ByteArray) (f : ByteArray → Option Value)
    (hm : a.eval m = .map (some b)) (hown : MapV w b n ks f) (hn : n < maxLen) (s : ByteArray) (val : Value) (hx : a.eval x = .string s) (hv : a.eval v = val) (hs : s.size ≤ maxLen)
    (hK : ∀ w' ks', MapV w' b (n + 1) ks' (fun y => if y = s then some val else f y) → w.grownBy w' (some b) → wpList Try.prog ops Q rest (a.put o.dst undef) w') :
    wpList Try.prog ops Q (o :: rest) a w := by
  refine wpList_plain hg fun K' hK' => ?_
  obtain ⟨w', hrun, ⟨ks', r1⟩, r2⟩ := hown.store ht hn s hs val
  unfold Oper.wp
  simp [execOp, hop, hm, hx, hv, hrun, Result.andThen]
  exact hK' _ _ (hK w' ks' r1 r2)

/-- The row that a value owns is a row of its own element type. -/
theorem own_type {w : World} {base e size n : Nat} {v : Value} {xs : List Value} (h : w.ownsRow base e size v n xs) (g : Nat) (hg : v.ownBlock = some g) : ∃ cur, w.heap[g]? = some (.cells cur e (0, 0)) := by
  rcases h.2 with ⟨rfl, _⟩ | ⟨g', cap, cur, rfl, _, hh, _⟩
  · simp [Value.ownBlock] at hg
  · simp [Value.ownBlock] at hg
    subst hg
    exact ⟨cur, hh⟩

/-- A map's block is no row. -/
theorem MapV.ne_row {w : World} {b n : Nat} {ks : List ByteArray} {f : ByteArray → Option Value} (h : MapV w b n ks f) {base e size n' : Nat} {v : Value} {xs : List Value} (h' : w.ownsRow base e size v n' xs) : some b ≠ v.ownBlock := by
  intro hv
  obtain ⟨cur, hc⟩ := own_type h' b hv.symm
  obtain ⟨D, ⟨es, clock, hb, _⟩, _⟩ := h
  rw [hb] at hc
  cases hc

theorem heap_one_new (w : World) (o1 : Obj) : (w.alloc o1).heap[w.heap.size]? = some o1 := heap_alloc_new w o1

/-- Strings owned by the call, as a reader finds them. -/
theorem lies_of_row {w : World} {base n : Nat} {ao : Option Addr} {cap : Nat} {l : List ByteArray} (hn : n = l.length) (h : w.ownsRow base 9 1 (.slice ao n cap) n (l.map Value.string)) : Lies w ao n (fun i => .string (l.getD i ByteArray.empty)) := by
  by_cases h0 : n = 0
  · exact .inl h0
  · obtain ⟨g, cap', hv, _, _⟩ := h.form (by omega)
    simp only [Value.slice.injEq, true_and] at hv
    obtain ⟨rfl, rfl⟩ := hv
    refine .inr ⟨g, 0, rfl, fun j hj => ?_⟩
    rw [Nat.zero_add, h.cellAt j (by omega)]
    have hj' : j < l.length := by omega
    simp [List.getD, List.getElem?_eq_getElem hj']

set_option maxRecDepth 100000 in
set_option maxHeartbeats 1600000 in
theorem distinct_any (a0 : Option Addr) (n0 c0 n : Nat) (nm : Nat → ByteArray) (w : World) (h0 : Lies w a0 n0 (fun i => .string (nm i))) (hn : n ≤ n0) (hb : n ≤ 65536) (hs : ∀ i, i < n0 → (nm i).size ≤ 1048576) :
    Calls Try.prog 22 #[.slice a0 n0 c0, .int .i64 n] w fun e w' => ∃ (ao : Option Addr) (m cap : Nat) (l : List ByteArray), e = .returned (.slice ao m cap) ∧ m = l.length ∧ m ≤ n ∧ Lies w' ao m (fun i => .string (l.getD i ByteArray.empty)) ∧ l.Nodup ∧ (∀ s, s ∈ l ↔ ∃ i, i < n ∧ nm i = s) ∧ Below w.heap.size w w' := by
  obtain ⟨i0, hi0, hz0, hz1, hz2⟩ := info_parts Try.info9
  have hmm := @run_makeMap Try.prog
  have HS : Hid (∀ i, i < n0 → (nm i).size ≤ 1048576) := hs
  clear hs
  go_enter Try.func22, Try.ntmps22
  go_wp2
  go_loopw [6, 7] (fun v i wr => ∃ (k m : Nat) (ao : Option Addr) (cap : Nat) (l : List ByteArray) (ks : List ByteArray) (f : ByteArray → Option Value), k ≤ n ∧ m ≤ k ∧ i = .int .i64 k ∧ v = .slice ao m cap ∧ Hid (m = l.length) ∧ wr.ownsRow (w.heap.size + 1) 9 1 (.slice ao m cap) m (l.map Value.string) ∧
      (∃ j, j ≤ k ∧ MapV wr w.heap.size j ks f) ∧ Hid ((∀ s, s ∈ l → f s = some (.bool true)) ∧ (∀ s, ¬ s ∈ l → f s = none) ∧ l.Nodup ∧ ∀ s, s ∈ l ↔ ∃ i, i < k ∧ nm i = s) ∧ Below w.heap.size w wr)
    (fun _ i _ => n - (intOf i).toNat)
  case atStart =>
    exact ⟨0, 0, _, _, [], [], fun _ => none, Nat.zero_le _, Nat.zero_le _, rfl, rfl, rfl, World.ownsRow_nil _ _ _ _, ⟨0, Nat.le_refl _, MapV.made w⟩, ⟨by simp, by simp, List.nodup_nil, by simp⟩, (Below.refl _ _).alloc (Nat.le_refl _) _⟩
  case round =>
    obtain ⟨k, m, ar, cr, l, ks, f, hk, hmk, rfl, rfl, HM, hown, ⟨jj, hjj, hmap⟩, HF, hbel⟩ := hrel
    by_cases hlt : k < n
    · obtain ⟨nb, no, e0, hc, lb⟩ := h0.at (k := k) (by omega)
      have hs20 := HS.out k (by omega)
      subst e0
      have rc := (hbel.cell (by exact lb)).trans hc
      obtain ⟨sk, hsk⟩ : ∃ x, x = nm k := ⟨_, rfl⟩
      simp only [← hsk] at rc hs20
      have HK : Hid (sk = nm k) := hsk
      clear hsk h0 hc
      have hsz := hbel.size
      have hml : sk.size ≤ maxLen := by unfold maxLen; omega
      have hlook := hmap.look Try.underlying48 (zero4 _) sk hml
      by_cases hin : sk ∈ l
      · rw [HF.out.1 sk hin] at hlook
        simp only [Option.getD_some] at hlook
        have HF1 : Hid ((∀ s, s ∈ l → f s = some (.bool true)) ∧ (∀ s, ¬ s ∈ l → f s = none) ∧ l.Nodup ∧ ∀ s, s ∈ l ↔ ∃ i, i < k + 1 ∧ nm i = s) := by
          obtain ⟨f1, f2, f3, f4⟩ := HF.out
          refine ⟨f1, f2, f3, fun s => ⟨fun h => ?_, fun ⟨i, hi, e⟩ => ?_⟩⟩
          · obtain ⟨i, hi, e⟩ := (f4 s).1 h; exact ⟨i, by omega, e⟩
          · by_cases e2 : i = k
            · subst e2; rw [← e, ← HK.out]; exact hin
            · exact (f4 s).2 ⟨i, by omega, e⟩
        clear hin
        go_wp2
        go_roundw
        case rel => exact ⟨k + 1, m, _, _, l, ks, f, by omega, by omega, by go_num, rfl, HM, hown, ⟨jj, by omega, hmap⟩, HF1, hbel⟩
        case measure => simp [intOf]; omega
      · rw [HF.out.2.1 sk hin] at hlook
        simp only [Option.getD_none] at hlook
        have HF1 : Hid ((∀ s, s ∈ l ++ [sk] → (fun y => if y = sk then some (Value.bool true) else f y) s = some (.bool true)) ∧ (∀ s, ¬ s ∈ l ++ [sk] → (fun y => if y = sk then some (Value.bool true) else f y) s = none) ∧ (l ++ [sk]).Nodup ∧ ∀ s, s ∈ l ++ [sk] ↔ ∃ i, i < k + 1 ∧ nm i = s) := by
          obtain ⟨f1, f2, f3, f4⟩ := HF.out
          refine ⟨fun s h => ?_, fun s h => ?_, ?_, fun s => ⟨fun h => ?_, fun ⟨i, hi, e⟩ => ?_⟩⟩
          · by_cases e : s = sk
            · simp [e]
            · simp only [e, if_false]; exact f1 s (by simpa [e] using h)
          · simp only [List.mem_append, List.mem_singleton, not_or] at h
            simp only [h.2, if_false]; exact f2 s h.1
          · rw [List.nodup_append]
            refine ⟨f3, by simp, fun a ha b hb => ?_⟩
            simp at hb; subst hb
            exact fun e => hin (e ▸ ha)
          · rcases List.mem_append.1 h with h | h
            · obtain ⟨i, hi, e⟩ := (f4 s).1 h; exact ⟨i, by omega, e⟩
            · simp at h; exact ⟨k, by omega, by rw [h, HK.out]⟩
          · by_cases e2 : i = k
            · subst e2; rw [← e, ← HK.out]; simp
            · exact List.mem_append_left _ ((f4 s).2 ⟨i, by omega, e⟩)
        clear hin
        have hrb : ∀ g, (Value.slice ar m cr).ownBlock = some g → w.heap.size + 1 ≤ g := fun g hg => (hown.lt g hg).1
        have hneM : some w.heap.size ≠ (Value.slice ar m cr).ownBlock := fun e => by have := hrb _ e.symm; omega
        have hneM' : (Value.slice ar m cr).ownBlock = none ∨ (Value.slice ar m cr).ownBlock ≠ some w.heap.size := .inr (fun e => hneM e.symm)
        go_wp2_with (first | (at_mapUpdate; refine wpList_store_V _ rfl _ _ _ 48 4 rfl Try.underlying48 w.heap.size jj ks f rfl hmap (by unfold maxLen; omega) sk _ rfl rfl hml ?_; intro w1 ks1 hmap1 hg1; have rc1 := hg1.cell rc (by simp; omega); have hown1 := hown.kept hg1 hneM'; have hs1 := hg1.size) | (at_builtin; refine wpList_append_lies _ rfl _ _ 27 rfl (w.heap.size + 1) 9 i0 _ 1 16 Try.underlying27 hi0 hz0 hz1 hz2 rfl (by omega) (.slice ar m cr) m (l.map Value.string) rfl (hown1.alloc _) ⟨w1.heap.size, 0, none⟩ 1 1 [.string sk] rfl rfl (World.news_of_block (cs := #[.string sk]) (t := 9) (fr := (0, 0)) (heap_one_new w1 _)) (by simp [Value.oneCell']) (by omega) (by unfold maxLen; omega) (by omega) (by have := hmap1.lt; simp; omega) (w1.heap.size + 1) (by simp) ?_; intro gg cap' w2 hown2 hgrow2 hat hlt'))
        go_roundw
        case rel =>
          refine ⟨k + 1, m + 1, _, _, l ++ [sk], ks1, _, by omega, by omega, by go_num, rfl, by have := HM.out; simp only [Hid, List.length_append, List.length_singleton]; omega, ?_, ⟨jj + 1, by omega, (hmap1.alloc _).kept hgrow2 hneM⟩, HF1, ?_⟩
          · rw [List.map_append]; exact hown2
          · have hB1 := hbel.grown hg1 hsz (fun j hj => by cases hj; exact Nat.le_refl _)
            exact (bnew hB1 _).grown hgrow2 (bnew hB1 _).size (fun j hj => by have := hrb j hj; omega)
        case measure => simp [intOf]; omega
    · go_wp2
      go_ret
      have e : k = n := by omega
      subst e
      exact ⟨_, m, _, l, rfl, HM.out, hmk, lies_of_row HM.out hown, HF.out.2.2.1, HF.out.2.2.2, hbel⟩

end Go.Proofs.Qxb6001792a
