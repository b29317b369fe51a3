/-
  The arguments opened, with the bounds of their numbers.
-/
import Derived.Test.Qxb6001112aOpen
namespace Go.Proofs.Qxb6001112a
open Go.ChangeShapes Go.WideShapes Go.ChangeAt Go.RowKit

theorem wf_getD {k : IntKind} {zs : List Int} (h : ∀ n ∈ zs, (Lit.int k n).wf = true) (h0 : (Lit.int k 0).wf = true) (i : Nat) : (Lit.int k (zs.getD i 0)).wf = true := by
  by_cases hi : i < zs.length
  · rw [List.getD_eq_getElem?_getD, List.getElem?_eq_getElem hi]
    exact h _ (List.getElem_mem hi)
  · rw [List.getD_eq_getElem?_getD, List.getElem?_eq_none (by omega)]
    exact h0

section
variable {H : Type} {enc : TypeId × Value → H} {W : World} {d : DataW H} {p : List MemPlace} {a : Option Addr} {len cap : Nat}

theorem open_u64w (h : DataW.Trod enc Try.prog W 0 (fun _ => true) true 22 (.slice a len cap) d p) : ∃ f : Nat → Int, Lies W a len (fun i => .int .u64 (f i)) ∧ ∀ i, (Lit.int .u64 (f i)).wf = true := by
  obtain ⟨fuel, hf⟩ := h
  rcases open_ints Try.underlying22 Try.underlying25 Try.cells25 hf with ⟨hcs, _⟩ | ⟨x, l, c, zs, hcs, _, hl, _, hz, _, hcell, hwz⟩
  · simp [Value.cells] at hcs
    obtain ⟨rfl, rfl, rfl⟩ := hcs
    exact ⟨fun _ => 0, .inl rfl, fun _ => (by decide : (Lit.int .u64 0).wf = true)⟩
  · simp [Value.cells] at hcs
    obtain ⟨rfl, rfl, rfl⟩ := hcs
    exact ⟨fun i => zs.getD i 0, lies_of hcell (by simp at hz; omega), fun i => wf_getD hwz (by decide) i⟩

theorem open_u8w (h : DataW.Trod enc Try.prog W 0 (fun _ => true) true 24 (.slice a len cap) d p) : ∃ f : Nat → Int, Lies W a len (fun i => .int .u8 (f i)) ∧ ∀ i, 0 ≤ f i := by
  obtain ⟨fuel, hf⟩ := h
  rcases open_ints Try.underlying24 Try.underlying5 Try.cells5 hf with ⟨hcs, _⟩ | ⟨x, l, c, zs, hcs, _, hl, _, hz, _, hcell, hwz⟩
  · simp [Value.cells] at hcs
    obtain ⟨rfl, rfl, rfl⟩ := hcs
    exact ⟨fun _ => 0, .inl rfl, fun _ => (by decide : (0 : Int) ≤ 0)⟩
  · simp [Value.cells] at hcs
    obtain ⟨rfl, rfl, rfl⟩ := hcs
    refine ⟨fun i => zs.getD i 0, lies_of hcell (by simp at hz; omega), fun i => ?_⟩
    exact (bounds_u8 (wf_getD hwz (by decide) i)).1
end

end Go.Proofs.Qxb6001112a
