/-
  THE BASE of the walks over seat b6001792a: closed facts on types; slices as a reader finds them; a map that the call made, seen as a function of its key.
-/
import Derived.Test.Qxb6001792aRows
import Derived.WalkKit
import Derived.WalkSpells
import Derived.WalkLawsBesides
import Derived.StillTactics
import Derived.OwnWalk
import Derived.Laws.Pointers
import Derived.Laws.IdiomStrings
import Derived.Deep.RegionHeld3
import Derived.Deep.AppendLies
import Derived.Deep.QuietTactic
import Derived.BigQuiet
import Derived.Deep.OwnRows
import Derived.Maps.OwnSet
import Derived.Maps.RangeWalk
import Derived.Sort.KeysCollected
namespace Go.Proofs.Qxb6001792a
open Go.RowKit Go.Maps

theorem Try.info9 : (Try.prog.info? 9).map (fun i => (i.zero, i.size, i.bytes)) = some (some (.string ByteArray.empty), 1, 16) := by kernel_rfl
theorem Try.info27 : (Try.prog.info? 27).map (fun i => (i.zero, i.size, i.bytes)) = some (some (.slice none 0 0), 1, 24) := by kernel_rfl
theorem Try.info46 : (Try.prog.info? 46).map (fun i => (i.zero, i.size, i.bytes)) = some (some (.slice none 0 0), 1, 24) := by kernel_rfl

theorem zero27 (w : World) : (zeroValue 27).run Try.prog w = .ok (.slice none 0 0) w := by kernel_rfl
theorem zero3 (w : World) : (zeroValue 3).run Try.prog w = .ok (.int .i64 0) w := by kernel_rfl
theorem zero4 (w : World) : (zeroValue 4).run Try.prog w = .ok (.bool false) w := by kernel_rfl

theorem law : Keyed Try.prog 9 := string_keyed Try.underlying9

/-- A slice of one-cell elements as a reader finds it: empty, or its n cells lie there. -/
def Lies (w : World) (ao : Option Addr) (n : Nat) (f : Nat → Value) : Prop :=
  n = 0 ∨ ∃ b off, ao = some ⟨b, off, none⟩ ∧ ∀ j, j < n → w.cell? ⟨b, off + j, none⟩ = some (f j)

theorem Lies.below {w w' : World} {ao : Option Addr} {n : Nat} {f : Nat → Value} (h : Lies w ao n f) (hb : Below w.heap.size w w') : Lies w' ao n f := by
  rcases h with h | ⟨b, off, rfl, hc⟩
  · exact .inl h
  · refine .inr ⟨b, off, rfl, fun j hj => ?_⟩
    have h1 := hc j hj
    have hlt := World.block_lt_of_cell? w _ h1
    exact (hb.cell hlt).trans h1

theorem Lies.mono {w : World} {ao : Option Addr} {n m : Nat} {f : Nat → Value} (h : Lies w ao n f) (hm : m ≤ n) : Lies w ao m f := by
  rcases h with h | ⟨b, off, rfl, hc⟩
  · exact .inl (by omega)
  · exact .inr ⟨b, off, rfl, fun j hj => hc j (by omega)⟩

theorem Lies.at {w : World} {ao : Option Addr} {n : Nat} {f : Nat → Value} (h : Lies w ao n f) {k : Nat} (hk : k < n) : ∃ b off, ao = some ⟨b, off, none⟩ ∧ w.cell? ⟨b, off + k, none⟩ = some (f k) ∧ b < w.heap.size := by
  rcases h with h | ⟨b, off, rfl, hc⟩
  · omega
  · exact ⟨b, off, rfl, hc k hk, World.block_lt_of_cell? w _ (hc k hk)⟩

theorem bnew {w wr : World} (h : Below w.heap.size w wr) (o : Obj) : Below w.heap.size w (wr.alloc o) := h.alloc h.size o

/-- Some bool is handed back, and Q holds of it. -/
def SomeBool (Q : Bool → Prop) (e : Ending) : Prop := ∃ b, e = .returned (.bool b) ∧ Q b

/-! ### A map keyed by strings that the call made, its elements as bare values -/
/-- How an element reads: as itself. -/
def raw (v : Value) : Option (DataW Value × List MemPlace) := some (.held v, [])
/-- What a key reads as. -/
def keyL (s : ByteArray) : Lit := .string s.data.toList

theorem keyL_inj {s t : ByteArray} (h : keyL s = keyL t) : s = t := by
  have h1 : s.data.toList = t.data.toList := by simpa [keyL] using h
  have h2 : s.data = t.data := Array.toList_inj.1 h1
  cases s; cases t; simp_all

theorem keyL_key (s : ByteArray) (hs : s.size ≤ maxLen) : keyOf Try.prog 9 (.string s) = some (keyL s) := WideMaps.keyOf_string_mk Try.underlying9 hs

theorem keyL_isKey (s : ByteArray) : WideAt.IsKeyLit (keyL s) := by simp [keyL, WideAt.IsKeyLit]

/-- BLOCK b OF w IS A MAP OF AT MOST n ENTRIES; ks: its keys, each once; f: what lies at each key. -/
def MapV (w : World) (b n : Nat) (ks : List ByteArray) (f : ByteArray → Option Value) : Prop :=
  ∃ D : DataW Value, w.ownsMap Try.prog 9 raw b n D ∧ (∀ s, Maps.has D (keyL s) = (f s).isSome) ∧ (∀ s z, D.atKey (keyL s) (.held z) = .held ((f s).getD z)) ∧ Maps.size D = ks.length ∧ ks.Nodup ∧ ∀ s, s ∈ ks ↔ (f s).isSome = true

theorem MapV.made (w : World) : MapV (w.alloc (.map #[] 0)) w.heap.size 0 [] (fun _ => none) :=
  ⟨.map [], World.ownsMap_made w Try.prog 9 raw, fun s => by simp [Maps.has_eq], fun s z => by simp [DataW.atKey], rfl, List.nodup_nil, fun s => by simp⟩

section
variable {w : World} {b n : Nat} {ks : List ByteArray} {f : ByteArray → Option Value}

theorem MapV.lt (h : MapV w b n ks f) : b < w.heap.size := by obtain ⟨D, h1, _⟩ := h; exact h1.lt
theorem MapV.kept {w' : World} {row : Option Nat} (h : MapV w b n ks f) (hg : w.grownBy w' row) (hne : some b ≠ row) : MapV w' b n ks f := by
  obtain ⟨D, h1, h2⟩ := h; exact ⟨D, h1.kept hg hne, h2⟩
theorem MapV.alloc (h : MapV w b n ks f) (o : Obj) : MapV (w.alloc o) b n ks f := h.kept (World.grownBy_alloc w o none) (by simp)
theorem MapV.drewN (h : MapV w b n ks f) (q : Nat) : MapV (w.drewN q) b n ks f := by
  obtain ⟨D, ⟨es, c, h1⟩, h2⟩ := h; exact ⟨D, ⟨es, c, h1⟩, h2⟩
theorem MapV.drew (h : MapV w b n ks f) : MapV w.drew b n ks f := by
  obtain ⟨D, h1, h2⟩ := h; exact ⟨D, h1.drew, h2⟩
theorem MapV.below {w' : World} (h : MapV w b n ks f) (hb : Below w.heap.size w w') : MapV w' b n ks f :=
  h.kept (row := none) ⟨hb.os, hb.tape, hb.output, hb.size, fun k hk _ => hb.block k hk⟩ (by simp)
theorem MapV.len_le (h : MapV w b n ks f) : ks.length ≤ n := by
  obtain ⟨D, h1, _, _, h4, _⟩ := h; rw [← h4]; exact h1.size_le

theorem MapV.look {t e : TypeId} (h : MapV w b n ks f) (ht : Try.prog.underlying t = some (.map 9 e)) {z : Value} (hz : (zeroValue e).run Try.prog w = .ok z w) (s : ByteArray) (hs : s.size ≤ maxLen) :
    (Instr.lookup t (.map (some b)) (.string s) false).run Try.prog w = .ok ((f s).getD z) w := by
  obtain ⟨D, h1, _, h3, _⟩ := h
  obtain ⟨v, ps, hrun, hv⟩ := h1.lookup law ht hz (zd := .held z) (zp := []) rfl (keyL_key s hs)
  rw [hrun]
  rw [h3 s z] at hv
  simp only [raw, Option.some.injEq, Prod.mk.injEq, DataW.held.injEq] at hv
  rw [hv.1]

theorem MapV.look_ok {t e : TypeId} (h : MapV w b n ks f) (ht : Try.prog.underlying t = some (.map 9 e)) {z : Value} (hz : (zeroValue e).run Try.prog w = .ok z w) (s : ByteArray) (hs : s.size ≤ maxLen) :
    (Instr.lookup t (.map (some b)) (.string s) true).run Try.prog w = .ok (.tuple #[(f s).getD z, .bool (f s).isSome]) w := by
  obtain ⟨D, h1, h2, h3, _⟩ := h
  obtain ⟨v, ps, hrun, hv⟩ := h1.look_ok law ht hz (zd := .held z) (zp := []) rfl (keyL_key s hs)
  rw [hrun, h2 s]
  rw [h3 s z] at hv
  simp only [raw, Option.some.injEq, Prod.mk.injEq, DataW.held.injEq] at hv
  rw [hv.1]

theorem MapV.len {t e : TypeId} (h : MapV w b n ks f) (ht : Try.prog.underlying t = some (.map 9 e)) (ty : TypeId) : (Builtin.len_ #[t] ty #[.map (some b)]).run Try.prog w = .ok (.int .i64 ks.length) w := by
  obtain ⟨D, h1, _, _, h4, _⟩ := h
  rw [h1.len ht ty, h4]

theorem MapV.store {t e : TypeId} (h : MapV w b n ks f) (ht : Try.prog.underlying t = some (.map 9 e)) (hn : n < maxLen) (s : ByteArray) (hs : s.size ≤ maxLen) (v : Value) :
    ∃ w', (Instr.mapUpdate t (.map (some b)) (.string s) v).run Try.prog w = .ok () w' ∧ (∃ ks', MapV w' b (n + 1) ks' (fun x => if x = s then some v else f x)) ∧ w.grownBy w' (some b) := by
  obtain ⟨D, h1, h2, h3, h4, h5, h6⟩ := h
  obtain ⟨w', hrun, ho, hg⟩ := h1.update law ht hn (val := v) (d := .held v) (ps := []) (keyL_key s hs) rfl
  have g2 : ∀ x, Maps.has (D.put (keyL s) (.held v)) (keyL x) = ((fun x => if x = s then some v else f x) x).isSome := fun x => by
    by_cases e : x = s
    · subst e; rw [has_put_same h1.isMap (keyL_isKey x)]; simp
    · rw [has_put_other (fun e1 => e (keyL_inj e1)), h2 x]; simp [e]
  have g3 : ∀ x z, (D.put (keyL s) (.held v)).atKey (keyL x) (.held z) = .held (((fun x => if x = s then some v else f x) x).getD z) := fun x z => by
    by_cases e : x = s
    · subst e; rw [atKey_put_same h1.isMap (keyL_isKey x)]; simp
    · rw [atKey_put_other (fun e1 => e (keyL_inj e1)), h3 x z]; simp [e]
  refine ⟨w', hrun, ?_, hg⟩
  by_cases e : s ∈ ks
  · refine ⟨ks, _, ho, g2, g3, ?_, h5, fun x => ?_⟩
    · rw [size_put (h1.tidy law), h2 s, h4]; simp [(h6 s).1 e]
    · by_cases e1 : x = s
      · subst e1; simp [e]
      · simp [e1, h6 x]
  · have hno : (f s).isSome = false := by
      cases hh : (f s).isSome
      · rfl
      · exact absurd ((h6 s).2 hh) e
    refine ⟨s :: ks, _, ho, g2, g3, ?_, List.nodup_cons.2 ⟨e, h5⟩, fun x => ?_⟩
    · rw [size_put (h1.tidy law), h2 s, h4]; simp [hno]
    · by_cases e1 : x = s
      · subst e1; simp
      · simp [e1, h6 x]
end

end Go.Proofs.Qxb6001792a
