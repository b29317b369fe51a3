/-
  FnStatusesMatchIsOwnCopy: what its writes do to memory.
-/
import Derived.Test.Qxb6001112aLaws
import Derived.Laws.BitsAllLaws
namespace Go.Proofs.Qxb6001112a
open Go.RowKit

theorem grown_set {w wr : World} {g : Nat} (h : w.grownBy wr (some g)) (j : Nat) (u : Value) : w.grownBy (wr.setCell ⟨g, j, none⟩ u) (some g) :=
  ⟨h.os, h.tape, h.output, by simpa [World.setCell] using h.size, fun k hk hne => by
    rw [Below.heap_setCell _ _ _ _ (fun e => hne (by simp only at e; rw [e]))]
    exact h.block k hk hne⟩

theorem grown_drewN {w wr : World} {row : Option Nat} (h : w.grownBy wr row) (q : Nat) : w.grownBy (wr.drewN q) row := ⟨h.os, h.tape, h.output, h.size, h.block⟩
theorem rowIs_drewN {w : World} {b t n : Nat} {f : Nat → Value} (h : w.rowIs b t n f) (q : Nat) : (w.drewN q).rowIs b t n f := h

/-- A row of numbers, cell k turned. -/
theorem row_step {wr : World} {B t n k : Nat} {f g : Nat → Value} (hr : wr.rowIs B t n (fun j => if j < k then f j else g j)) :
    (wr.setCell ⟨B, k, none⟩ (f k)).rowIs B t n (fun j => if j < k + 1 then f j else g j) := by
  refine (hr.set k (f k)).congr fun j hj => ?_
  by_cases h1 : j = k
  · subst h1; simp
  · by_cases h2 : j < k
    · simp [h1, h2, show j < k + 1 by omega]
    · simp [h1, h2, show ¬ j < k + 1 by omega]

/-- Go's '^x' on a uint64, as the walk writes it. -/
def notv (x : Int) : Int := bits BinOp.xor IntKind.u64 (if IntKind.u64.signed = true then -1 else IntKind.u64.max) x

theorem xor_xor_u64 (m x : Int) (h1 : 0 ≤ m) (h2 : m < 18446744073709551616) (h3 : 0 ≤ x) (h4 : x < 18446744073709551616) : bits .xor .u64 m (bits .xor .u64 m x) = x := by
  have hx : bits .xor .u64 m x = ((m.toNat ^^^ x.toNat : Nat) : Int) := u64_xor m x h1 h2 h3 h4
  have hlt : m.toNat ^^^ x.toNat < 2 ^ 64 := Nat.xor_lt_two_pow (by omega) (by omega)
  rw [hx, u64_xor m _ h1 h2 (by omega) (by omega)]
  rw [Int.toNat_natCast, ← Nat.xor_assoc, Nat.xor_self, Nat.zero_xor]
  omega

theorem notv_notv (x : Int) (h : (Lit.int .u64 x).wf = true) : bits BinOp.xor IntKind.u64 (if IntKind.u64.signed = true then -1 else IntKind.u64.max) (notv x) = x := by
  have hb : 0 ≤ x ∧ x ≤ 18446744073709551615 := by
    simp [Lit.wf, IntKind.min, IntKind.max, IntKind.signed, IntKind.bits] at h
    omega
  unfold notv
  exact xor_xor_u64 _ x (by decide) (by decide) hb.1 (by omega)

/-- THE STATE of the law's memory: the clone of match (block MB) holds F; the statuses' Match pointers lead to blocks B i, which hold G i; all these blocks are apart from one another and from the statuses' own row. -/
structure CopyState (w : World) (n n4 : Nat) (sa : Option Addr) (MB : Nat) (B : Nat → Nat) (F G : Nat → Value) : Prop where
  row : w.rowIs MB 25 n4 F
  boxes : ∀ i, i < n → w.heap[B i]? = some (.cells #[G i] 25 (0, 0))
  stats : n = 0 ∨ ∃ g, sa = some ⟨g, 0, none⟩ ∧ g ≠ MB ∧ (∀ i, i < n → g ≠ B i) ∧ ∀ k, k < n → w.cell? ⟨g, k * 6 + 4, none⟩ = some (.pointer (some ⟨B k, 0, none⟩))
  off : ∀ i, i < n → B i ≠ MB
  inc : ∀ i j, i < j → j < n → B i < B j

section
variable {w : World} {n n4 k : Nat} {sa : Option Addr} {MB : Nat} {B : Nat → Nat} {F G F0 G0 : Nat → Value}

theorem CopyState.drewN (h : CopyState w n n4 sa MB B F G) (q : Nat) : CopyState (w.drewN q) n n4 sa MB B F G := ⟨h.row, h.boxes, h.stats, h.off, h.inc⟩

theorem CopyState.congr {F' G' : Nat → Value} (h : CopyState w n n4 sa MB B F G) (hF : ∀ i, i < n4 → F i = F' i) (hG : ∀ i, i < n → G i = G' i) : CopyState w n n4 sa MB B F' G' :=
  ⟨h.row.congr hF, fun i hi => by rw [h.boxes i hi, hG i hi], h.stats, h.off, h.inc⟩

theorem box_cell {b : Nat} {v : Value} {t : TypeId} (h : w.heap[b]? = some (.cells #[v] t (0, 0))) : w.cell? ⟨b, 0, none⟩ = some v := by simp [World.cell?, h]
theorem box_free {b : Nat} {v : Value} {t : TypeId} (h : w.heap[b]? = some (.cells #[v] t (0, 0))) : w.frozen? ⟨b, 0, none⟩ = false := by simp [World.frozen?, h]

theorem CopyState.at (h : CopyState w n n4 sa MB B F G) {k : Nat} (hk : k < n) (hn : n ≤ n4) :
    ∃ g, sa = some ⟨g, 0, none⟩ ∧ w.cell? ⟨g, k * 6 + 4, none⟩ = some (.pointer (some ⟨B k, 0, none⟩)) ∧ w.cell? ⟨B k, 0, none⟩ = some (G k) ∧ w.frozen? ⟨B k, 0, none⟩ = false ∧ w.cell? ⟨MB, k, none⟩ = some (F k) ∧ w.frozen? ⟨MB, k, none⟩ = false := by
  rcases h.stats with h0 | ⟨g, e, _, _, hc⟩
  · omega
  · exact ⟨g, e, hc k hk, box_cell (h.boxes k hk), box_free (h.boxes k hk), h.row.cell (by omega), h.row.frozen k⟩

theorem cell_set_far (a : Addr) (u : Value) (p : Addr) (h : p.block ≠ a.block) : (w.setCell a u).cell? p = w.cell? p := World.cell?_of_block (w := w) (Below.heap_setCell w a u p.block h)

theorem CopyState.flip (h : CopyState w n n4 sa MB B (fun j => if j < k then F j else F0 j) G) : CopyState (w.setCell ⟨MB, k, none⟩ (F k)) n n4 sa MB B (fun j => if j < k + 1 then F j else F0 j) G := by
  refine ⟨row_step h.row, fun i hi => ?_, ?_, h.off, h.inc⟩
  · rw [Below.heap_setCell _ _ _ _ (h.off i hi)]; exact h.boxes i hi
  · rcases h.stats with h0 | ⟨g, e, h1, h2, hc⟩
    · exact .inl h0
    · exact .inr ⟨g, e, h1, h2, fun k hk => by rw [cell_set_far _ _ _ h1]; exact hc k hk⟩

theorem CopyState.box (h : CopyState w n n4 sa MB B F (fun j => if j < k then G j else G0 j)) (hk : k < n) : CopyState (w.setCell ⟨B k, 0, none⟩ (G k)) n n4 sa MB B F (fun j => if j < k + 1 then G j else G0 j) := by
  refine ⟨h.row.setOther (fun e => h.off k hk e.symm) _, fun i hi => ?_, ?_, h.off, h.inc⟩
  · by_cases e : i = k
    · subst e
      have hb := h.boxes i hi
      simp only [Nat.lt_irrefl, if_false] at hb
      rw [heap_setCell_same w (B i) 0 _ 25 _ hb]
      simp
    · have hne : B i ≠ B k := by
        rcases Nat.lt_or_gt_of_ne e with h1 | h1
        · have := h.inc i k h1 hk; omega
        · have := h.inc k i h1 hi; omega
      rw [Below.heap_setCell _ _ _ _ hne, h.boxes i hi]
      by_cases h2 : i < k
      · simp [h2, show i < k + 1 by omega]
      · simp [h2, show ¬ i < k + 1 by omega]
  · rcases h.stats with h0 | ⟨g, e, h1, h2, hc⟩
    · exact .inl h0
    · exact .inr ⟨g, e, h1, h2, fun j hj => by rw [cell_set_far _ _ _ (h2 k hk)]; exact hc j hj⟩
end

theorem copyState_start {we : World} {n n4 MB lo : Nat} {sa : Option Addr} {ss : List St} {fm : Nat → Int} (hs : LiesS we sa ss) (hl : n = ss.length) (hrow : we.rowIs MB 25 n4 (fun i => .int .u64 (fm i))) (hlo : MB < lo) (hp : Ptrs lo we fm ss) :
    ∃ B : Nat → Nat, (∀ i, i < n → lo ≤ B i) ∧ CopyState we n n4 sa MB B (fun i => .int .u64 (fm i)) (fun i => .int .u64 (fm i)) := by
  obtain ⟨B, h1, h2, h3⟩ := hp
  rw [← hl] at h2 h3
  refine ⟨B, fun i hi => (h2 i hi).1, hrow, fun i hi => (h2 i hi).2, ?_, fun i hi => by have := (h2 i hi).1; omega, h3⟩
  rcases hs with h0 | ⟨g, e, hc⟩
  · left; rw [hl, h0]; rfl
  · by_cases hn0 : n = 0
    · exact .inl hn0
    have hz : ss[0]? = some ss[0] := List.getElem?_eq_getElem (by omega)
    have hstr := (hc 0 _ hz).2.1
    simp only [Nat.zero_mul, Nat.zero_add] at hstr
    refine .inr ⟨g, e, ?_, ?_, fun k hk => ?_⟩
    · intro eg
      subst eg
      obtain ⟨c, hb, hn, hcc⟩ := hrow
      simp only [World.cell?, hb] at hstr
      by_cases h41 : 1 < n4
      · have := hcc 1 h41
        simp [this] at hstr
      · have : c[1]? = none := Array.getElem?_eq_none (by omega)
        simp [this] at hstr
    · intro i hi eg
      subst eg
      have hb := (h2 i hi).2
      simp [World.cell?, hb] at hstr
    · have hk' : ss[k]? = some ss[k] := List.getElem?_eq_getElem (by omega)
      have h5 := (hc k _ hk').2.2.2.2.1
      rw [h1 k _ hk'] at h5
      exact h5

end Go.Proofs.Qxb6001112a
