/-
  Byte slices that the call makes; the step of a range over a header; the pairs in memory.
-/
import Derived.Test.Qxb6001792aHeader
namespace Go.Proofs.Qxb6001792a
open Go.RowKit Go.Maps

/-- v is a []byte of the call's own that holds the bytes of s. -/
def BytesV (w : World) (v : Value) (s : ByteArray) : Prop :=
  ∃ blk cap c fr, v = .slice (some ⟨blk, 0, none⟩) s.size cap ∧ w.heap[blk]? = some (.cells c 5 fr) ∧ ∀ j (h : j < s.size), c[j]? = some (.int .u8 (s[j].toNat : Int))

theorem BytesV.kept {w w' : World} {v : Value} {s : ByteArray} {row : Option Nat} (h : BytesV w v s) (hg : w.grownBy w' row) (hne : ∀ g, row = some g → ∀ c fr, w.heap[g]? ≠ some (.cells c 5 fr)) : BytesV w' v s := by
  obtain ⟨blk, cap, c, fr, e, hb, hc⟩ := h
  refine ⟨blk, cap, c, fr, e, ?_, hc⟩
  rw [hg.block blk (Array.getElem?_eq_some_iff.1 hb).1 (fun e1 => hne blk e1.symm c fr hb)]
  exact hb

theorem BytesV.below {w w' : World} {v : Value} {s : ByteArray} (h : BytesV w v s) (hb : Below w.heap.size w w') : BytesV w' v s :=
  h.kept (row := none) ⟨hb.os, hb.tape, hb.output, hb.size, fun k hk _ => hb.block k hk⟩ (fun g hg => by cases hg)

/-- '[]byte(s)' at the operation. -/
theorem wpList_toBytes (w : World) {ops : Array Oper} {rest : List Oper} {o : Oper} {a : Act} {Q : Exit → Act → World → Prop}
    (hg : o.guard = none) (x : Operand) (hop : o.op = Op.convert 9 46 x) (s : ByteArray) (hx : a.eval x = .string s)
    (hK : ∀ w' cap, w.grownBy w' none → Hid (w'.heap.size = w.heap.size + 1) → BytesV w' (.slice (some ⟨w.heap.size, 0, none⟩) s.size cap) s → wpList Try.prog ops Q rest (a.put o.dst (.slice (some ⟨w.heap.size, 0, none⟩) s.size cap)) w') :
    wpList Try.prog ops Q (o :: rest) a w := by
  refine wpList_plain hg fun K' hK' => ?_
  have hrun := run_bytes_of_string (P := Try.prog) w 9 46 5 s Try.underlying9 Try.underlying46 Try.underlying5
  unfold Oper.wp
  simp only [execOp, hop, hx, hrun, Sem.run_bind, Sem.run_pure, Result.andThen_ok]
  refine hK' _ _ (hK _ _ ⟨rfl, rfl, rfl, by simp, fun k hk _ => Below.heap_alloc w.drew _ k hk⟩ (by simp [Hid]) ⟨w.heap.size, _, _, _, rfl, heap_alloc_new w.drew _, fun j hj => ?_⟩)
  exact bytesRow_at s _ j hj

/-- THE STEP of a range over a map of slices. -/
theorem wpList_next_V (w : World) {ops : Array Oper} {rest : List Oper} {o : Oper} {a : Act} {Q : Exit → Act → World → Prop}
    (hg : o.guard = none) (it : Operand) (hop : o.op = Op.next it false) (b r n : Nat) (D : DataW Value) (left : Lit → Bool) (cnt : Nat)
    (hit : a.eval it = .pointer (some ⟨r, 0, none⟩)) (h : w.ranges Try.prog 9 raw b r n D left cnt)
    (shape : ∀ (s : ByteArray) v, (∀ zd, D.atKey (keyL s) zd = .held v) → ∃ a n c, v = .slice a n c)
    (hDone : cnt = 0 → (∀ kl, left kl = false) → wpList Try.prog ops Q rest (a.put o.dst (.tuple #[.bool false])) w)
    (hMore : ∀ (s : ByteArray) (ao : Option Addr) (m c : Nat) (w' : World) (cnt' : Nat), s.size ≤ maxLen → left (keyL s) = true → (∀ zd, D.atKey (keyL s) zd = .held (.slice ao m c)) → w'.ranges Try.prog 9 raw b r n D (fun z => left z && !z.sameKey (keyL s)) cnt' → cnt' < cnt →
      w.grownBy w' (some r) → (Instr.entry (.pointer (some ⟨r, 0, none⟩))).run Try.prog w' = .ok (.tuple #[.string s, .slice ao m c]) w' → wpList Try.prog ops Q rest (a.put o.dst (.tuple #[.bool true, .string s, .slice ao m c])) w') :
    wpList Try.prog ops Q (o :: rest) a w := by
  refine wpList_plain hg fun K' hK' => ?_
  unfold Oper.wp
  rcases h.next law o.type with ⟨h0, hl, hrun⟩ | ⟨key, v, kl, y, w', cnt', hkey, hlk, hv, hat, hrun, hrg, hlt, hgr, hsz, hen⟩
  · simp [execOp, hop, hit, hrun, Result.andThen]
    exact hK' _ _ (hDone h0 hl)
  · obtain ⟨x, rfl, rfl, hxl⟩ := Maps.keyOf_str Try.underlying9 hkey
    simp only [raw, Option.some.injEq] at hv
    subst hv
    have ek : keyL ⟨x.toArray⟩ = .string x := by simp [keyL]
    obtain ⟨ao, m, c, rfl⟩ := shape ⟨x.toArray⟩ v (by rw [ek]; exact hat)
    simp [execOp, hop, hit, hrun, Result.andThen]
    refine hK' _ _ (hMore ⟨x.toArray⟩ ao m c w' cnt' ?_ ?_ ?_ ?_ hlt hgr hen)
    · simpa [ByteArray.size] using hxl
    · rw [ek]; exact hlk
    · rw [ek]; exact hat
    · rw [ek]; exact hrg

/-- The values that stand under a name, in order. -/
def valsOf (s : ByteArray) (ps : List (ByteArray × ByteArray)) : List ByteArray := (ps.filter (fun p => decide (p.1 = s))).map (·.2)

theorem valsOf_append (s : ByteArray) (ps qs : List (ByteArray × ByteArray)) : valsOf s (ps ++ qs) = valsOf s ps ++ valsOf s qs := by simp [valsOf, List.filter_append]
theorem valsOf_same (s : ByteArray) (l : List ByteArray) : valsOf s (l.map fun v => (s, v)) = l := by
  induction l with
  | nil => rfl
  | cons a t ih => simp only [valsOf, List.map_cons, List.filter_cons, decide_true, if_true, List.map_cons] at ih ⊢; rw [ih]
theorem valsOf_other (s t : ByteArray) (h : s ≠ t) (l : List ByteArray) : valsOf t (l.map fun v => (s, v)) = [] := by
  induction l with
  | nil => rfl
  | cons a r ih => simp only [valsOf, List.map_cons, List.filter_cons, h, decide_false] at ih ⊢; exact ih

/-- The cells cs are the pairs ps, each name and value a []byte of its own. -/
def PairsV (w : World) (cs : List Value) (ps : List (ByteArray × ByteArray)) : Prop :=
  cs.length = 2 * ps.length ∧ ∀ (i : Nat) (p : ByteArray × ByteArray), ps[i]? = some p → ∃ v1 v2, cs[2 * i]? = some v1 ∧ cs[2 * i + 1]? = some v2 ∧ BytesV w v1 p.1 ∧ BytesV w v2 p.2

theorem PairsV.nil (w : World) : PairsV w [] [] := ⟨rfl, fun i p h => by simp at h⟩

theorem PairsV.kept {w w' : World} {cs : List Value} {ps : List (ByteArray × ByteArray)} {row : Option Nat} (h : PairsV w cs ps) (hg : w.grownBy w' row) (hne : ∀ g, row = some g → ∀ c fr, w.heap[g]? ≠ some (.cells c 5 fr)) : PairsV w' cs ps :=
  ⟨h.1, fun i p hp => by
    obtain ⟨v1, v2, e1, e2, h1, h2⟩ := h.2 i p hp
    exact ⟨v1, v2, e1, e2, h1.kept hg hne, h2.kept hg hne⟩⟩

theorem PairsV.below {w w' : World} {cs : List Value} {ps : List (ByteArray × ByteArray)} (h : PairsV w cs ps) (hb : Below w.heap.size w w') : PairsV w' cs ps :=
  h.kept (row := none) ⟨hb.os, hb.tape, hb.output, hb.size, fun k hk _ => hb.block k hk⟩ (fun g hg => by cases hg)

theorem PairsV.snoc {w : World} {cs : List Value} {ps : List (ByteArray × ByteArray)} (h : PairsV w cs ps) {v1 v2 : Value} {s t : ByteArray} (h1 : BytesV w v1 s) (h2 : BytesV w v2 t) : PairsV w (cs ++ [v1, v2]) (ps ++ [(s, t)]) := by
  refine ⟨by simp [h.1]; omega, fun i p hp => ?_⟩
  by_cases hi : i < ps.length
  · rw [List.getElem?_append_left hi] at hp
    obtain ⟨u1, u2, e1, e2, g1, g2⟩ := h.2 i p hp
    have hl := h.1
    exact ⟨u1, u2, by rw [List.getElem?_append_left (by omega)]; exact e1, by rw [List.getElem?_append_left (by omega)]; exact e2, g1, g2⟩
  · have hi2 : i = ps.length := by
      have := (List.getElem?_eq_some_iff.1 hp).1
      simp at this
      omega
    subst hi2
    rw [List.getElem?_append_right (Nat.le_refl _)] at hp
    simp at hp
    subst hp
    refine ⟨v1, v2, ?_, ?_, h1, h2⟩
    · rw [List.getElem?_append_right (by rw [h.1]; exact Nat.le_refl _), h.1]; simp
    · rw [List.getElem?_append_right (by rw [h.1]; omega), h.1]; simp

/-- What has come of the header so far: the values of each key that is no longer to come. -/
def Sofar (left : Lit → Bool) (G : ByteArray → Option (List ByteArray)) (ps : List (ByteArray × ByteArray)) : Prop :=
  ∀ s, (left (keyL s) = true → valsOf s ps = []) ∧ (left (keyL s) = false → valsOf s ps = (G s).getD [])

theorem Sofar.start {D : DataW Value} {G : ByteArray → Option (List ByteArray)} (h : ∀ s, Maps.has D (keyL s) = (G s).isSome) : Sofar (Maps.has D) G [] := by
  intro s
  refine ⟨fun _ => rfl, fun h1 => ?_⟩
  rw [h s] at h1
  cases hg : G s
  · rfl
  · rw [hg] at h1; simp at h1

theorem Sofar.step {left : Lit → Bool} {G : ByteArray → Option (List ByteArray)} {ps : List (ByteArray × ByteArray)} (h : Sofar left G ps) {s : ByteArray} (hl : left (keyL s) = true) :
    Sofar (fun z => left z && !z.sameKey (keyL s)) G (ps ++ ((G s).getD []).map fun v => (s, v)) := by
  intro t
  by_cases e : t = s
  · subst e
    refine ⟨fun h1 => ?_, fun _ => ?_⟩
    · simp [WideAt.sameKey_self (keyL_isKey t)] at h1
    · rw [valsOf_append, (h t).1 hl, valsOf_same]; rfl
  · have hk : (keyL t).sameKey (keyL s) = false := sameKey_ne (fun e1 => e (keyL_inj e1))
    rw [valsOf_append, valsOf_other s t (fun e1 => e e1.symm), List.append_nil]
    simp only [hk, Bool.not_false, Bool.and_true]
    exact h t

end Go.Proofs.Qxb6001792a
