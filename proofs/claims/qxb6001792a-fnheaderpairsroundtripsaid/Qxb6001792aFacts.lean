/-
  Small facts for the two laws over headers.
-/
import Derived.Test.Qxb6001792aAre
namespace Go.Proofs.Qxb6001792a
open Go.RowKit Go.Maps

theorem bytesV_string {w : World} {v : Value} {s : ByteArray} (h : BytesV w v s) : (convert 46 9 v).run Try.prog w = .ok (.string s) w := by
  obtain ⟨blk, cap, c, fr, rfl, hb, hc⟩ := h
  have h1 := run_convert_bytes_back (P := Try.prog) w 46 9 5 ⟨blk, 0, none⟩ cap s.data.toList Try.underlying46 Try.underlying5 Try.underlying9 (fun j hj => by
    rw [Addr.add_lit, Nat.zero_add]
    have hj' : j < s.size := by rw [Array.length_toList] at hj; exact hj
    simp only [World.cell?, hb]
    have h5 := hc j hj'
    have e5 : s.data.toList[j] = s[j] := by rw [Array.getElem_toList]; rfl
    rw [e5]
    simpa using h5)
  have e : s.data.toList.length = s.size := by rw [Array.length_toList]; rfl
  rw [e] at h1
  simpa using h1

theorem bytesV_cells {w : World} {blk cap : Nat} {s : ByteArray} (h : BytesV w (.slice (some ⟨blk, 0, none⟩) s.size cap) s) : ∀ j (h : j < s.size), w.cell? ⟨blk, j, none⟩ = some (.int .u8 (s[j].toNat : Int)) := by
  obtain ⟨blk', cap', c, fr, e, hb, hc⟩ := h
  simp only [Value.slice.injEq, Option.some.injEq, Addr.mk.injEq, and_true, true_and] at e
  obtain ⟨rfl, rfl⟩ := e
  intro j hj
  simp only [World.cell?, hb]
  simpa using hc j hj

theorem groupTo_mem {nm : Nat → ByteArray} {vl : Nat → Nat} {vs : Nat → Nat → ByteArray} {k : Nat} {s t : ByteArray} (h : t ∈ (groupTo nm vl vs k s).getD []) : ∃ i j, i < k ∧ j < vl i ∧ t = vs i j := by
  induction k with
  | zero => simp [groupTo] at h
  | succ k ih =>
    simp only [groupTo] at h
    by_cases e : s = nm k
    · simp only [e, if_true, Option.getD_some, List.mem_append] at h
      rcases h with h | h
      · obtain ⟨i, j, h1, h2⟩ := ih (by rw [e]; exact h)
        exact ⟨i, j, by omega, h2⟩
      · simp only [valsTo, List.mem_map, List.mem_range] at h
        obtain ⟨j, hj, e2⟩ := h
        exact ⟨k, j, by omega, hj, e2.symm⟩
    · simp only [e, if_false] at h
      obtain ⟨i, j, h1, h2⟩ := ih h
      exact ⟨i, j, by omega, h2⟩

theorem mem_valsOf {ps : List (ByteArray × ByteArray)} {i : Nat} {s t : ByteArray} (h : ps[i]? = some (s, t)) : t ∈ valsOf s ps := by
  simp only [valsOf, List.mem_map, List.mem_filter]
  exact ⟨(s, t), ⟨List.mem_of_getElem? h, by simp⟩, rfl⟩

/-- The cells of pair number i, by name. -/
theorem pair_at {w : World} {base p pc : Nat} {pa : Option Addr} {cs : List Value} {ps : List (ByteArray × ByteArray)} (hrow : w.ownsRow base 46 1 (.slice pa (2 * p) pc) (2 * p) cs) (hpv : PairsV w cs ps) (hp : p = ps.length) {i : Nat} (hi : i < p) :
    ∃ g s t b1 c1 b2 c2, pa = some ⟨g, 0, none⟩ ∧ ps[i]? = some (s, t) ∧ g < w.heap.size ∧ w.cell? ⟨g, 2 * i, none⟩ = some (.slice (some ⟨b1, 0, none⟩) s.size c1) ∧ w.cell? ⟨g, 2 * i + 1, none⟩ = some (.slice (some ⟨b2, 0, none⟩) t.size c2) ∧
      BytesV w (.slice (some ⟨b1, 0, none⟩) s.size c1) s ∧ BytesV w (.slice (some ⟨b2, 0, none⟩) t.size c2) t := by
  obtain ⟨g, cap', hv, _, hlt⟩ := hrow.form (by omega)
  simp only [Value.slice.injEq, true_and] at hv
  obtain ⟨rfl, rfl⟩ := hv
  have hi' : i < ps.length := by omega
  obtain ⟨v1, v2, e1, e2, h1, h2⟩ := hpv.2 i ps[i] (List.getElem?_eq_getElem hi')
  have r1 := (hrow.cellAt (2 * i) (by omega)).trans e1
  have r2 := (hrow.cellAt (2 * i + 1) (by omega)).trans e2
  obtain ⟨b1, c1, x1, y1, rfl, z1⟩ := h1
  obtain ⟨b2, c2, x2, y2, rfl, z2⟩ := h2
  exact ⟨g, ps[i].1, ps[i].2, b1, c1, b2, c2, rfl, List.getElem?_eq_getElem hi', hlt, r1, r2, ⟨b1, c1, x1, y1, rfl, z1⟩, ⟨b2, c2, x2, y2, rfl, z2⟩⟩

end Go.Proofs.Qxb6001792a
