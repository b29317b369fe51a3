/-
  Statuses as plain data; how they lie in memory.
-/
import Derived.Test.Qxb6001112aJoint
namespace Go.Proofs.Qxb6001112a
open Go.RowKit

structure St where
  id : Int
  addr : ByteArray
  voting : Bool
  part : Int
  mt : Option Addr
  index : Int

def St.cells (s : St) : List Value := [.int .u64 s.id, .string s.addr, .bool s.voting, .int .u8 s.part, .pointer s.mt, .int .u64 s.index]
def rowS (l : List St) : List Value := l.flatMap St.cells

theorem rowS_snoc (l : List St) (m : St) : rowS (l ++ [m]) = rowS l ++ m.cells := by simp [rowS, List.flatMap_append]

theorem rowS_length (l : List St) : (rowS l).length = l.length * 6 := by
  induction l with
  | nil => rfl
  | cons a t ih => simp [rowS, St.cells] at ih ⊢; omega

theorem rowS_at (l : List St) (i : Nat) (s : St) (h : l[i]? = some s) : (rowS l)[i * 6]? = some (.int .u64 s.id) ∧ (rowS l)[i * 6 + 1]? = some (.string s.addr) ∧ (rowS l)[i * 6 + 2]? = some (.bool s.voting) ∧
    (rowS l)[i * 6 + 3]? = some (.int .u8 s.part) ∧ (rowS l)[i * 6 + 4]? = some (.pointer s.mt) ∧ (rowS l)[i * 6 + 5]? = some (.int .u64 s.index) := by
  induction l generalizing i with
  | nil => simp at h
  | cons a t ih =>
    cases i with
    | zero => simp at h; subst h; simp [rowS, St.cells]
    | succ i =>
      have h2 := ih i (by simpa using h)
      have e0 : (i + 1) * 6 = i * 6 + 6 := by omega
      have e1 : (i + 1) * 6 + 1 = i * 6 + 1 + 6 := by omega
      have e2 : (i + 1) * 6 + 2 = i * 6 + 2 + 6 := by omega
      have e3 : (i + 1) * 6 + 3 = i * 6 + 3 + 6 := by omega
      have e4 : (i + 1) * 6 + 4 = i * 6 + 4 + 6 := by omega
      have e5 : (i + 1) * 6 + 5 = i * 6 + 5 + 6 := by omega
      have hr : rowS (a :: t) = .int .u64 a.id :: .string a.addr :: .bool a.voting :: .int .u8 a.part :: .pointer a.mt :: .int .u64 a.index :: rowS t := by simp [rowS, St.cells]
      rw [hr, e1, e2, e3, e4, e5, e0]
      simpa using h2

/-- Statuses as a reader finds them. -/
def LiesS (w : World) (ao : Option Addr) (l : List St) : Prop :=
  l = [] ∨ ∃ g, ao = some ⟨g, 0, none⟩ ∧ ∀ i s, l[i]? = some s → w.cell? ⟨g, i * 6, none⟩ = some (.int .u64 s.id) ∧ w.cell? ⟨g, i * 6 + 1, none⟩ = some (.string s.addr) ∧ w.cell? ⟨g, i * 6 + 2, none⟩ = some (.bool s.voting) ∧
    w.cell? ⟨g, i * 6 + 3, none⟩ = some (.int .u8 s.part) ∧ w.cell? ⟨g, i * 6 + 4, none⟩ = some (.pointer s.mt) ∧ w.cell? ⟨g, i * 6 + 5, none⟩ = some (.int .u64 s.index)

theorem LiesS.below {w w' : World} {ao : Option Addr} {l : List St} (h : LiesS w ao l) (hb : Below w.heap.size w w') : LiesS w' ao l := by
  rcases h with h | ⟨g, rfl, hc⟩
  · exact .inl h
  · refine .inr ⟨g, rfl, fun i m hm => ?_⟩
    obtain ⟨h1, h2, h3, h4, h5, h6⟩ := hc i m hm
    have hlt := World.block_lt_of_cell? w _ h1
    exact ⟨(hb.cell (by exact hlt)).trans h1, (hb.cell (by exact hlt)).trans h2, (hb.cell (by exact hlt)).trans h3, (hb.cell (by exact hlt)).trans h4, (hb.cell (by exact hlt)).trans h5, (hb.cell (by exact hlt)).trans h6⟩

theorem liesS_of_owns {w : World} {base n : Nat} {ao : Option Addr} {cap : Nat} {l : List St} (hn : n = l.length) (h : w.ownsRow base 44 6 (.slice ao n cap) n (rowS l)) : LiesS w ao l := by
  by_cases h0 : l = []
  · exact .inl h0
  · have hpos : 0 < l.length := List.length_pos_iff.2 h0
    obtain ⟨g, cap', hv, _, _⟩ := h.form (by omega)
    simp only [Value.slice.injEq, true_and] at hv
    obtain ⟨rfl, rfl⟩ := hv
    refine .inr ⟨g, rfl, fun i m hm => ?_⟩
    obtain ⟨h1, h2, h3, h4, h5, h6⟩ := rowS_at l i m hm
    have hi : i < l.length := (List.getElem?_eq_some_iff.1 hm).1
    exact ⟨(h.cellAt _ (by omega)).trans h1, (h.cellAt _ (by omega)).trans h2, (h.cellAt _ (by omega)).trans h3, (h.cellAt _ (by omega)).trans h4, (h.cellAt _ (by omega)).trans h5, (h.cellAt _ (by omega)).trans h6⟩

/-- The k-th status, by name. -/
theorem LiesS.at {w : World} {ao : Option Addr} {l : List St} (h : LiesS w ao l) {k : Nat} {s : St} (hs : l[k]? = some s) :
    ∃ g, ao = some ⟨g, 0, none⟩ ∧ w.cell? ⟨g, k * 6, none⟩ = some (.int .u64 s.id) ∧ w.cell? ⟨g, k * 6 + 1, none⟩ = some (.string s.addr) ∧ w.cell? ⟨g, k * 6 + 2, none⟩ = some (.bool s.voting) ∧
    w.cell? ⟨g, k * 6 + 3, none⟩ = some (.int .u8 s.part) ∧ w.cell? ⟨g, k * 6 + 4, none⟩ = some (.pointer s.mt) ∧ w.cell? ⟨g, k * 6 + 5, none⟩ = some (.int .u64 s.index) ∧ g < w.heap.size := by
  rcases h with h | ⟨g, rfl, hc⟩
  · subst h; simp at hs
  · obtain ⟨h1, h2, h3, h4, h5, h6⟩ := hc k s hs
    exact ⟨g, rfl, h1, h2, h3, h4, h5, h6, World.block_lt_of_cell? w _ h1⟩

/-- What memberStatuses reports of a member, but for Match. -/
def stOf (J : Bool) (index : Int) (m : Mem) : St := ⟨m.id, m.addr, m.part != 0, if J then m.part else 0, none, index⟩
def St.bare (s : St) : St := { s with mt := none }
/-- These statuses report these members (of Match nothing is said). -/
def Reports (J : Bool) (index : Int) (l : List Mem) (ss : List St) : Prop := ss.map St.bare = l.map (stOf J index)

theorem Reports.length {J : Bool} {index : Int} {l : List Mem} {ss : List St} (h : Reports J index l ss) : ss.length = l.length := by
  have := congrArg List.length h
  simpa using this

theorem Reports.snoc {J : Bool} {index : Int} {l : List Mem} {ss : List St} {k : Nat} (h : Reports J index (l.take k) ss) {i : Int} {s : ByteArray} {p : Int} (hm : l[k]? = some ⟨i, s, p⟩) (b : Option Addr) :
    Reports J index (l.take (k + 1)) (ss ++ [⟨i, s, p != 0, if J then p else 0, b, index⟩]) := by
  unfold Reports at h ⊢
  rw [List.take_add_one, hm, List.map_append, List.map_append, h]
  simp [stOf, St.bare]

/-- The statuses' Match pointers: each a new cell of its own. -/
def Ptrs (lo : Nat) (w : World) (fm : Nat → Int) (ss : List St) : Prop :=
  ∃ B : Nat → Nat, (∀ (i : Nat) (s : St), ss[i]? = some s → s.mt = some ⟨B i, 0, none⟩) ∧ (∀ i, i < ss.length → lo ≤ B i ∧ w.heap[B i]? = some (.cells #[.int .u64 (fm i)] 25 (0, 0))) ∧ ∀ i j, i < j → j < ss.length → B i < B j

theorem Ptrs.nil (lo : Nat) (w : World) (fm : Nat → Int) : Ptrs lo w fm [] := ⟨fun _ => 0, by simp, by simp, by simp⟩

theorem Ptrs.snoc {lo : Nat} {w w' : World} {fm : Nat → Int} {ss : List St} (h : Ptrs lo w fm ss) (hk : ∀ b, b < w.heap.size → (∃ z, w.heap[b]? = some (.cells #[z] 25 (0, 0))) → w'.heap[b]? = w.heap[b]?)
    (b : Nat) (hlo : lo ≤ b) (hb : w.heap.size ≤ b) (hnew : w'.heap[b]? = some (.cells #[.int .u64 (fm ss.length)] 25 (0, 0))) (s : St) (hs : s.mt = some ⟨b, 0, none⟩) : Ptrs lo w' fm (ss ++ [s]) := by
  obtain ⟨B, h1, h2, h3⟩ := h
  have hlt : ∀ i, i < ss.length → B i < w.heap.size := fun i hi => by
    have := (h2 i hi).2
    exact (Array.getElem?_eq_some_iff.1 this).1
  refine ⟨fun i => if i = ss.length then b else B i, ?_, ?_, ?_⟩
  · intro i t ht
    by_cases e : i = ss.length
    · subst e
      rw [List.getElem?_append_right (Nat.le_refl _)] at ht
      simp at ht
      subst ht
      simp [hs]
    · have hi : i < ss.length := by
        have := (List.getElem?_eq_some_iff.1 ht).1
        simp at this
        omega
      rw [List.getElem?_append_left hi] at ht
      simp [e, h1 i t ht]
  · intro i hi
    by_cases e : i = ss.length
    · subst e
      simp [hlo, hnew]
    · have hi' : i < ss.length := by simp at hi; omega
      have h4 := h2 i hi'
      simp only [e, if_false]
      exact ⟨h4.1, by rw [hk _ (hlt i hi') ⟨_, h4.2⟩]; exact h4.2⟩
  · intro i j hij hj
    simp only [List.length_append, List.length_cons, List.length_nil] at hj
    by_cases e : j = ss.length
    · have : i < ss.length := by omega
      simp only [e, if_true, show i ≠ ss.length by omega, if_false]
      have := hlt i this
      omega
    · simp only [e, if_false, show i ≠ ss.length by omega]
      exact h3 i j hij (by omega)

end Go.Proofs.Qxb6001112a
