/-
  The arguments opened: the names as 'Lies' has them, the values as 'LiesV' has them.
-/
import Derived.Test.Qxb6001792aBytes
import Derived.ProofKit
import Derived.OpenShut
import Derived.ShutString
import Derived.ChangeOld
import Derived.SliceStrings
import Derived.Deep.Slices
namespace Go.Proofs.Qxb6001792a
open Go.ChangeShapes Go.WideShapes Go.ChangeAt Go.RowKit

theorem Try.own : ownKnob Try.prog.godebug = none := by kernel_rfl
theorem Try.laidOut : laidOutB Try.prog = true := by kernel_rfl
theorem Try.cells9 : Try.prog.cellsOf 9 = 1 := by kernel_rfl
theorem Try.cells27 : Try.prog.cellsOf 27 = 1 := by kernel_rfl

theorem lies_of {W : World} {x : Addr} {m len : Nat} {f : Nat → Value} (hc : ∀ i, i < m → W.cell? (x.add i) = some (f i)) (hl : len ≤ m) : Lies W (some x) len f := by
  by_cases h0 : len = 0
  · exact .inl h0
  · obtain ⟨b, off, spot⟩ := x
    have h1 := hc 0 (by omega)
    have hspot : spot = none := by simpa [Addr.add] using World.cell?_spot h1
    subst hspot
    exact .inr ⟨b, off, rfl, fun j hj => by have h2 := hc j (by omega); rwa [Addr.add_lit] at h2⟩

section
variable {H : Type} {enc : TypeId × Value → H} {W : World} {d : DataW H} {p : List MemPlace} {a : Option Addr} {len cap : Nat}

theorem open_one {fuel : Nat} {v : Value} {x : DataW H × List MemPlace} (hf : DataW.trod enc Try.prog W 0 (fun _ => true) true fuel 27 [v] = some x) : ∃ y : Option Addr × Nat × Nat × (Nat → ByteArray), v = .slice y.1 y.2.1 y.2.2.1 ∧ Lies W y.1 y.2.1 (fun i => .string (y.2.2.2 i)) := by
  rcases open_strings Try.underlying27 Try.underlying9 Try.cells9 hf with ⟨hcs, _⟩ | ⟨x, l, c, zs, hcs, _, hl, _, hz, _, hcell, _⟩
  · simp at hcs
    exact ⟨(none, 0, 0, fun _ => ByteArray.empty), hcs, .inl rfl⟩
  · simp at hcs
    exact ⟨(some x, l, c, fun i => zs.getD i ByteArray.empty), hcs, lies_of (len := l) hcell (by simp at hz; omega)⟩

theorem open_names (h : DataW.Trod enc Try.prog W 0 (fun _ => true) true 27 (.slice a len cap) d p) : ∃ f : Nat → ByteArray, Lies W a len (fun i => .string (f i)) := by
  obtain ⟨fuel, hf⟩ := h
  obtain ⟨⟨a', l', c', f⟩, hv, hl⟩ := open_one (by simpa [Value.cells] using hf)
  cases hv
  exact ⟨f, hl⟩

theorem open_values (h : DataW.Trod enc Try.prog W 0 (fun _ => true) true 28 (.slice a len cap) d p) : ∃ va vl vc vs, LiesV W a len va vl vc vs := by
  obtain ⟨fuel, hf⟩ := h
  rcases Go.Deep.open_slice1 Try.underlying28 Try.cells27 hf with ⟨hcs, _⟩ | ⟨x, l, c, m, n, V, D, Pl, hcs, _, hl, _, hm, _, hx⟩
  · simp [Value.cells] at hcs
    obtain ⟨rfl, rfl, rfl⟩ := hcs
    exact ⟨fun _ => none, fun _ => 0, fun _ => 0, fun _ _ => ByteArray.empty, .inl rfl, fun i hi => absurd hi (Nat.not_lt_zero i)⟩
  · simp [Value.cells] at hcs
    obtain ⟨rfl, rfl, rfl⟩ := hcs
    simp only [if_true] at hm
    subst hm
    obtain ⟨y, hy⟩ := Go.Deep.choose_lt (α := Option Addr × Nat × Nat × (Nat → ByteArray)) (p := fun i y => V i = .slice y.1 y.2.1 y.2.2.1 ∧ Lies W y.1 y.2.1 (fun i => .string (y.2.2.2 i))) (fun i hi => open_one (hx i hi).2)
    refine ⟨fun i => (y i).1, fun i => (y i).2.1, fun i => (y i).2.2.1, fun i => (y i).2.2.2, lies_of (m := m) (fun i hi => ?_) hl, fun i hi => (hy i (by omega)).2⟩
    rw [(hx i hi).1, (hy i hi).1]
end

end Go.Proofs.Qxb6001792a
