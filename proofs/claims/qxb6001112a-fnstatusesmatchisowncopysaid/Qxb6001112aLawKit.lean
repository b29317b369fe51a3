/-
  What the laws' walks share.
-/
import Derived.Test.Qxb6001112aSame
import Derived.Test.Qxb6001112aBytes
namespace Go.Proofs.Qxb6001112a
open Go.RowKit

theorem min_nat (a b m : Nat) (hm : m = min a b) (w : World) :
    Calls Try.prog 11 #[.int .i64 a, .int .i64 b] w fun e w' => e = .returned (.int .i64 m) ∧ w' = w := by
  refine (min_any a b w).mono ?_
  rintro e w' ⟨rfl, rfl⟩
  refine ⟨?_, rfl⟩
  have : min (a : Int) (b : Int) = (m : Int) := by omega
  rw [this]

theorem Reports.at {J : Bool} {index : Int} {l : List Mem} {ss : List St} (h : Reports J index l ss) {k : Nat} {i : Int} {s : ByteArray} {p : Int} (hm : l[k]? = some ⟨i, s, p⟩) :
    ∃ mt, ss[k]? = some ⟨i, s, p != 0, if J then p else 0, mt, index⟩ := by
  have h1 := congrArg (fun x => x[k]?) h
  simp only [List.getElem?_map, hm, Option.map_some] at h1
  obtain ⟨st, hst, he⟩ := Option.map_eq_some_iff.1 h1
  obtain ⟨a, b, c, d, mt, f⟩ := st
  simp only [St.bare, stOf, St.mk.injEq] at he
  obtain ⟨rfl, rfl, rfl, rfl, _, rfl⟩ := he
  exact ⟨mt, hst⟩

theorem jointB_mk_succ (fi : Nat → Int) (fa : Nat → ByteArray) (fp : Nat → Int) (k : Nat) : jointB (mk fi fa fp (k + 1)) = (jointB (mk fi fa fp k) || (fp k == 1 || fp k == 2)) := by
  rw [mk_succ]; simp [jointB, List.any_append]

/-- One element of a slice of one-cell elements. -/
theorem Lies.at {w : World} {ao : Option Addr} {n : Nat} {f : Nat → Value} (h : Lies w ao n f) {k : Nat} (hk : k < n) : ∃ b off, ao = some ⟨b, off, none⟩ ∧ w.cell? ⟨b, off + k, none⟩ = some (f k) ∧ b < w.heap.size := by
  rcases h with h | ⟨b, off, rfl, hc⟩
  · omega
  · exact ⟨b, off, rfl, hc k hk, World.block_lt_of_cell? w _ (hc k hk)⟩

end Go.Proofs.Qxb6001112a
