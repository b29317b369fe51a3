/-
  zzCloneStrings, zzCloneValues, by contract.
-/
import Derived.Test.Qxb6001792aSizes
namespace Go.Proofs.Qxb6001792a
open Go.RowKit Go.Maps

/-- What a clone hands back: nil of nil; else a new row. -/
def Cloned (t : TypeId) (w w' : World) (ao ao' : Option Addr) (n : Nat) (f : Nat → Value) : Prop :=
  (ao = none ∧ n = 0 ∧ ao' = none) ∨ (ao ≠ none ∧ ao' = some ⟨w.heap.size, 0, none⟩ ∧ w'.rowIs w.heap.size t n f)

theorem Cloned.lies {t : TypeId} {w w' : World} {ao ao' : Option Addr} {n : Nat} {f : Nat → Value} (h : Cloned t w w' ao ao' n f) : Lies w' ao' n f := by
  rcases h with ⟨_, h, _⟩ | ⟨_, rfl, hr⟩
  · exact .inl h
  · exact .inr ⟨_, 0, rfl, fun j hj => by simpa using hr.cell hj⟩

theorem clone_step {wr : World} {B t n k : Nat} {f : Nat → Value} {z : Value} (hr : wr.rowIs B t n (fun j => if j < k then f j else z)) :
    (wr.setCell ⟨B, k, none⟩ (f k)).rowIs B t n (fun j => if j < k + 1 then f j else z) := by
  refine (hr.set k (f k)).congr fun j hj => ?_
  by_cases h1 : j = k
  · subst h1; simp
  · by_cases h2 : j < k
    · simp [h1, h2, show j < k + 1 by omega]
    · simp [h1, h2, show ¬ j < k + 1 by omega]

set_option maxHeartbeats 400000 in
theorem cloneStr_any (ao : Option Addr) (n cap : Nat) (f : Nat → ByteArray) (w : World) (h : Lies w ao n (fun i => .string (f i))) (hn : n ≤ 1048576) :
    Calls Try.prog 17 #[.slice ao n cap] w fun e w' => ∃ ao', e = .returned (.slice ao' n n) ∧ Cloned 9 w w' ao ao' n (fun i => .string (f i)) ∧ Below w.heap.size w w' := by
  have qT : ∀ (w : World) (a : Option Addr) (n c n' c' : Nat), (binOp .eql 27 (.slice a n c) (.slice none n' c')).run Try.prog w = .ok (.bool a.isNone) w := fun w a n c n' c' => Lib.run_eql_slice_nil w _ _ a n c n' c' Try.underlying27
  have hmk := run_make_row' (P := Try.prog) 27 9 (.string ByteArray.empty) 16 Try.underlying27 Try.info9 rfl .i64 .i64 n (by omega) (by omega)
  cases ao with
  | none =>
    have hn0 : n = 0 := by
      rcases h with h | ⟨b, off, h, _⟩
      · exact h
      · cases h
    subst hn0
    go_enter Try.func17, Try.ntmps17
    go_wp2
    go_ret
    exact ⟨none, rfl, .inl ⟨rfl, rfl, rfl⟩, Below.refl _ _⟩
  | some a =>
    go_enter Try.func17, Try.ntmps17
    go_wp2
    go_loopw [4] (fun i wr => ∃ k : Nat, k ≤ n ∧ i = .int .i64 k ∧ wr.rowIs w.heap.size 9 n (fun j => if j < k then .string (f j) else .string ByteArray.empty) ∧ Below w.heap.size w wr)
      (fun i _ => n - (intOf i).toNat)
    case atStart =>
      exact ⟨0, Nat.zero_le _, rfl, (World.rowIs_made w _ n 9).congr (fun i _ => by simp), (Below.refl _ _).alloc (Nat.le_refl _) _⟩
    case round =>
      obtain ⟨k, hk, rfl, hrow, hbel⟩ := hrel
      by_cases hlt : k < n
      · rcases h with h | ⟨b, off, he, hc⟩
        · omega
        · obtain ⟨rfl⟩ := he
          have h1 := hc k hlt
          have hb := World.block_lt_of_cell? w _ h1
          have hcx : wr.cell? ⟨b, off + k, none⟩ = some (.string (f k)) := (hbel.cell hb).trans h1
          have hfz := hrow.frozen k
          have hcd : wr.cell? ⟨w.heap.size, k, none⟩ = some (.string ByteArray.empty) := by simpa using hrow.cell hlt
          have R := clone_step (f := fun j => .string (f j)) hrow
          have RB := hbel.setCell (p := ⟨w.heap.size, k, none⟩) (Nat.le_refl _) (.string (f k))
          clear hrow hbel hc h1 hb
          go_wp2
          go_roundw
          case rel => exact ⟨k + 1, by omega, by go_num, R, RB⟩
          case measure => simp [intOf]; omega
      · go_wp2
        go_ret
        have hkn : k = n := by omega
        subst hkn
        exact ⟨_, rfl, .inr ⟨by simp, rfl, hrow.congr (fun j hj => by simp [hj])⟩, hbel⟩

/-- A slice of strings that lies outside block OB. -/
def LiesX (OB : Nat) (w : World) (ao : Option Addr) (n : Nat) (f : Nat → Value) : Prop :=
  n = 0 ∨ ∃ b off, ao = some ⟨b, off, none⟩ ∧ b ≠ OB ∧ ∀ j, j < n → w.cell? ⟨b, off + j, none⟩ = some (f j)

theorem LiesX.lies {OB : Nat} {w : World} {ao : Option Addr} {n : Nat} {f : Nat → Value} (h : LiesX OB w ao n f) : Lies w ao n f := by
  rcases h with h | ⟨b, off, e, _, hc⟩
  · exact .inl h
  · exact .inr ⟨b, off, e, hc⟩

theorem LiesX.below {OB : Nat} {w w' : World} {ao : Option Addr} {n : Nat} {f : Nat → Value} (h : LiesX OB w ao n f) (hb : Below w.heap.size w w') : LiesX OB w' ao n f := by
  rcases h with h | ⟨b, off, rfl, hne, hc⟩
  · exact .inl h
  · exact .inr ⟨b, off, rfl, hne, fun j hj => (hb.cell (by exact World.block_lt_of_cell? w _ (hc j hj))).trans (hc j hj)⟩

theorem LiesX.set {OB : Nat} {w : World} {ao : Option Addr} {n : Nat} {f : Nat → Value} (h : LiesX OB w ao n f) (k : Nat) (v : Value) : LiesX OB (w.setCell ⟨OB, k, none⟩ v) ao n f := by
  rcases h with h | ⟨b, off, rfl, hne, hc⟩
  · exact .inl h
  · refine .inr ⟨b, off, rfl, hne, fun j hj => ?_⟩
    rw [World.cell?_of_block (w := w) (Below.heap_setCell w _ v b hne)]
    exact hc j hj

/-- Cell k of a row is given its value; the others stay. -/
theorem row_set_at {wr : World} {B t n k : Nat} {F G : Nat → Value} {v : Value} (hr : wr.rowIs B t n F) (hG : ∀ j, j < n → G j = if j = k then v else F j) : (wr.setCell ⟨B, k, none⟩ v).rowIs B t n G :=
  (hr.set k v).congr fun j hj => (hG j hj).symm

set_option maxRecDepth 100000 in
set_option maxHeartbeats 1000000 in
theorem cloneValues_any (a1 : Option Addr) (n1 c1 : Nat) (va : Nat → Option Addr) (vl vc : Nat → Nat) (vs : Nat → Nat → ByteArray) (w : World) (h : LiesV w a1 n1 va vl vc vs) (hn : n1 ≤ 65536) (hl : ∀ i, i < n1 → vl i ≤ 1048576) :
    Calls Try.prog 18 #[.slice a1 n1 c1] w fun e w' => ∃ a1' va', e = .returned (.slice a1' n1 n1) ∧ LiesV w' a1' n1 va' vl vl vs ∧ Below w.heap.size w w' := by
  have ho := h.outer
  have HI : Hid (∀ i, i < n1 → Lies w (va i) (vl i) (fun j => .string (vs i j))) := h.inner
  have HLn : Hid (∀ i, i < n1 → vl i ≤ 1048576) := hl
  clear h hl
  have qT : ∀ (w : World) (a : Option Addr) (n c n' c' : Nat), (binOp .eql 28 (.slice a n c) (.slice none n' c')).run Try.prog w = .ok (.bool a.isNone) w := fun w a n c n' c' => Lib.run_eql_slice_nil w _ _ a n c n' c' Try.underlying28
  have hmk := run_make_row' (P := Try.prog) 28 27 (.slice none 0 0) 24 Try.underlying28 Try.info27 rfl .i64 .i64 n1 (by omega) (by omega)
  cases a1 with
  | none =>
    have hn0 : n1 = 0 := by
      rcases ho with h | ⟨b, off, h, _⟩
      · exact h
      · cases h
    subst hn0
    go_enter Try.func18, Try.ntmps18
    go_wp2
    go_ret
    exact ⟨none, fun _ => none, rfl, ⟨.inl rfl, fun i hi => absurd hi (by omega)⟩, Below.refl _ _⟩
  | some a =>
    go_enter Try.func18, Try.ntmps18
    go_wp2
    go_loopw [4] (fun i wr => ∃ (k : Nat) (va' : Nat → Option Addr), k ≤ n1 ∧ i = .int .i64 k ∧ wr.rowIs w.heap.size 27 n1 (fun j => if j < k then .slice (va' j) (vl j) (vl j) else .slice none 0 0) ∧ Hid (∀ j, j < k → LiesX w.heap.size wr (va' j) (vl j) (fun m => .string (vs j m))) ∧ Below w.heap.size w wr)
      (fun i _ => n1 - (intOf i).toNat)
    case atStart =>
      exact ⟨0, fun _ => none, Nat.zero_le _, rfl, (World.rowIs_made w _ n1 27).congr (fun i _ => by simp), fun j hj => absurd hj (by omega), (Below.refl _ _).alloc (Nat.le_refl _) _⟩
    case round =>
      obtain ⟨k, va', hk, rfl, hrow, HX, hbel⟩ := hrel
      by_cases hlt : k < n1
      · obtain ⟨b, off, e0, hc, lb⟩ := ho.at hlt
        have hin := (HI.out k hlt).below (hbel.mono (Nat.le_refl _))
        have hl20 := HLn.out k hlt
        obtain ⟨rfl⟩ := e0
        have rc := (hbel.cell (by exact lb)).trans hc
        obtain ⟨ak, hak⟩ : ∃ x, x = va k := ⟨_, rfl⟩
        obtain ⟨lk, hlk⟩ : ∃ x, x = vl k := ⟨_, rfl⟩
        obtain ⟨ck, hck⟩ : ∃ x, x = vc k := ⟨_, rfl⟩
        simp only [← hak, ← hlk, ← hck] at rc hin hl20
        have HL : Hid (lk = vl k) := hlk
        clear hak hlk hck ho hc
        have hOB := hrow.lt
        go_wp2_with fail
        refine (cloneStr_any ak lk ck (vs k) _ hin hl20).mono ?_
        rintro e w2 ⟨a', rfl, hcl, hb2⟩
        have hrow2 := hrow.of_block (hb2.block _ hOB)
        have hfz := hrow2.frozen k
        have hcd : w2.cell? ⟨w.heap.size, k, none⟩ = some (.slice none 0 0) := by simpa using hrow2.cell hlt
        have hbB := hbel.trans (hb2.mono hbel.size)
        have HXn : Hid (LiesX w.heap.size w2 a' lk (fun m => .string (vs k m))) := by
          rcases hcl with ⟨_, hz, _⟩ | ⟨_, rfl, hr⟩
          · exact .inl hz
          · exact .inr ⟨_, 0, rfl, by omega, fun j hj => by simpa using hr.cell hj⟩
        have HX2 : Hid (∀ j, j < k → LiesX w.heap.size w2 (va' j) (vl j) (fun m => .string (vs j m))) := fun j hj => (HX.out j hj).below hb2
        clear hrow hbel hcl hb2 HX hin rc
        go_wp2
        go_roundw
        case rel =>
          refine ⟨k + 1, fun j => if j = k then a' else va' j, by omega, by go_num, row_set_at hrow2 (fun j hj => ?_), fun j hj => ?_, hbB.setCell (p := ⟨w.heap.size, k, none⟩) (Nat.le_refl _) _⟩
          · by_cases e : j = k
            · subst e; simp [HL.out]
            · by_cases e2 : j < k
              · simp [e, e2, show j < k + 1 by omega]
              · simp [e, e2, show ¬ j < k + 1 by omega]
          · by_cases e : j = k
            · subst e; simp only [if_true]; rw [← HL.out]; exact HXn.out.set _ _
            · simp only [e, if_false]; exact (HX2.out j (by omega)).set _ _
        case measure => simp [intOf]; omega
      · go_wp2
        go_ret
        have hkn : k = n1 := by omega
        subst hkn
        exact ⟨_, va', rfl, ⟨.inr ⟨_, 0, rfl, fun j hj => by simpa [hj] using hrow.cell hj⟩, fun i hi => (HX.out i hi).lies⟩, hbel⟩

end Go.Proofs.Qxb6001792a
