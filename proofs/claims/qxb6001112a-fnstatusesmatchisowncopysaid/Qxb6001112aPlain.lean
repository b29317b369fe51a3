/-
  THE PLAIN SIDE: members and statuses as plain data; how they lie in memory.
-/
import Derived.Test.Qxb6001112aClones
namespace Go.Proofs.Qxb6001112a
open Go.RowKit

structure Mem where
  id : Int
  addr : ByteArray
  part : Int

def Mem.cells (m : Mem) : List Value := [.int .u64 m.id, .string m.addr, .int .u8 m.part]
def rowM (l : List Mem) : List Value := l.flatMap Mem.cells

theorem rowM_snoc (l : List Mem) (m : Mem) : rowM (l ++ [m]) = rowM l ++ m.cells := by simp [rowM, List.flatMap_append]

theorem rowM_length (l : List Mem) : (rowM l).length = l.length * 3 := by
  induction l with
  | nil => rfl
  | cons a t ih => simp [rowM, Mem.cells] at ih ⊢; omega

theorem rowM_at (l : List Mem) (i : Nat) (m : Mem) (h : l[i]? = some m) : (rowM l)[i * 3]? = some (.int .u64 m.id) ∧ (rowM l)[i * 3 + 1]? = some (.string m.addr) ∧ (rowM l)[i * 3 + 2]? = some (.int .u8 m.part) := by
  induction l generalizing i with
  | nil => simp at h
  | cons a t ih =>
    cases i with
    | zero => simp at h; subst h; simp [rowM, Mem.cells]
    | succ i =>
      have h2 := ih i (by simpa using h)
      have e0 : (i + 1) * 3 = i * 3 + 3 := by omega
      have e1 : (i + 1) * 3 + 1 = i * 3 + 1 + 3 := by omega
      have e2 : (i + 1) * 3 + 2 = i * 3 + 2 + 3 := by omega
      have hr : rowM (a :: t) = .int .u64 a.id :: .string a.addr :: .int .u8 a.part :: rowM t := by simp [rowM, Mem.cells]
      rw [hr, e1, e2, e0]
      simpa using h2

/-- A configuration as a reader finds it. -/
def LiesM (w : World) (ao : Option Addr) (l : List Mem) : Prop :=
  l = [] ∨ ∃ g, ao = some ⟨g, 0, none⟩ ∧ ∀ i m, l[i]? = some m → w.cell? ⟨g, i * 3, none⟩ = some (.int .u64 m.id) ∧ w.cell? ⟨g, i * 3 + 1, none⟩ = some (.string m.addr) ∧ w.cell? ⟨g, i * 3 + 2, none⟩ = some (.int .u8 m.part)

theorem LiesM.below {w w' : World} {ao : Option Addr} {l : List Mem} (h : LiesM w ao l) (hb : Below w.heap.size w w') : LiesM w' ao l := by
  rcases h with h | ⟨g, rfl, hc⟩
  · exact .inl h
  · refine .inr ⟨g, rfl, fun i m hm => ?_⟩
    obtain ⟨h1, h2, h3⟩ := hc i m hm
    have hlt := World.block_lt_of_cell? w _ h1
    exact ⟨(hb.cell (by exact hlt)).trans h1, (hb.cell (by exact hlt)).trans h2, (hb.cell (by exact hlt)).trans h3⟩

theorem liesM_of_owns {w : World} {base n : Nat} {ao : Option Addr} {cap : Nat} {l : List Mem} (hn : n = l.length) (h : w.ownsRow base 51 3 (.slice ao n cap) n (rowM l)) : LiesM w ao l := by
  by_cases h0 : l = []
  · exact .inl h0
  · have hpos : 0 < l.length := List.length_pos_iff.2 h0
    obtain ⟨g, cap', hv, _, _⟩ := h.form (by omega)
    simp only [Value.slice.injEq, true_and] at hv
    obtain ⟨rfl, rfl⟩ := hv
    refine .inr ⟨g, rfl, fun i m hm => ?_⟩
    obtain ⟨h1, h2, h3⟩ := rowM_at l i m hm
    have hi : i < l.length := (List.getElem?_eq_some_iff.1 hm).1
    exact ⟨(h.cellAt _ (by omega)).trans h1, (h.cellAt _ (by omega)).trans h2, (h.cellAt _ (by omega)).trans h3⟩

/-- The members made of three lists of columns. -/
def mk (fi : Nat → Int) (fa : Nat → ByteArray) (fp : Nat → Int) (n : Nat) : List Mem := (List.range n).map fun i => ⟨fi i, fa i, fp i⟩

theorem mk_length (fi : Nat → Int) (fa : Nat → ByteArray) (fp : Nat → Int) (n : Nat) : (mk fi fa fp n).length = n := by simp [mk]
theorem mk_succ (fi : Nat → Int) (fa : Nat → ByteArray) (fp : Nat → Int) (n : Nat) : mk fi fa fp (n + 1) = mk fi fa fp n ++ [⟨fi n, fa n, fp n⟩] := by simp [mk, List.range_succ]
theorem mk_at (fi : Nat → Int) (fa : Nat → ByteArray) (fp : Nat → Int) (n i : Nat) (h : i < n) : (mk fi fa fp n)[i]? = some ⟨fi i, fa i, fp i⟩ := by simp [mk, h]

end Go.Proofs.Qxb6001112a
