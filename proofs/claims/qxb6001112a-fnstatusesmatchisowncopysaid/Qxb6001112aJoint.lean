/-
  configuration.joint, by contract.
-/
import Derived.Test.Qxb6001112aBuild
namespace Go.Proofs.Qxb6001112a
open Go.RowKit

theorem ret_bool {a b : Bool} (h : a = b) : Ending.returned (.bool a) = .returned (.bool b) := by rw [h]

def jointB (l : List Mem) : Bool := l.any fun m => m.part == 1 || m.part == 2

theorem jointB_hit (l : List Mem) (k : Nat) (m : Mem) (h : l[k]? = some m) (hp : m.part = 1 ∨ m.part = 2) : jointB l = true := by
  unfold jointB
  rw [List.any_eq_true]
  refine ⟨m, List.mem_of_getElem? h, ?_⟩
  rcases hp with hp | hp <;> simp [hp]

theorem jointB_miss (l : List Mem) (k : Nat) (m : Mem) (h : l[k]? = some m) (h0 : jointB (l.take k) = false) (h1 : ¬ m.part = 1) (h2 : ¬ m.part = 2) : jointB (l.take (k + 1)) = false := by
  unfold jointB at h0 ⊢
  rw [List.take_add_one, h, List.any_append, h0]
  simp [h1, h2]

/-- The k-th member, by name. -/
theorem LiesM.at {w : World} {ao : Option Addr} {l : List Mem} (h : LiesM w ao l) {k : Nat} (hk : k < l.length) :
    ∃ g i s p, ao = some ⟨g, 0, none⟩ ∧ l[k]? = some ⟨i, s, p⟩ ∧ w.cell? ⟨g, k * 3, none⟩ = some (.int .u64 i) ∧ w.cell? ⟨g, k * 3 + 1, none⟩ = some (.string s) ∧ w.cell? ⟨g, k * 3 + 2, none⟩ = some (.int .u8 p) ∧ g < w.heap.size := by
  rcases h with h | ⟨g, rfl, hc⟩
  · subst h; simp at hk
  · obtain ⟨h1, h2, h3⟩ := hc k l[k] (by simp [hk])
    exact ⟨g, _, _, _, rfl, by simp [hk], h1, h2, h3, World.block_lt_of_cell? w _ h1⟩

set_option maxRecDepth 100000 in
set_option maxHeartbeats 1000000 in
theorem joint_any (ao : Option Addr) (n cap : Nat) (l : List Mem) (w : World) (hl : LiesM w ao l) (hn : n = l.length) (hb : n ≤ 65536) :
    Calls Try.prog 32 #[.slice ao n cap] w fun e w' => e = .returned (.bool (jointB l)) ∧ Below w.heap.size w w' := by
  have HN : Hid (n = l.length) := hn
  clear hn
  obtain ⟨J, hJ⟩ : ∃ J, J = jointB l := ⟨_, rfl⟩
  rw [← hJ]
  have HJ : Hid (J = jointB l) := hJ
  clear hJ
  go_enter Try.func32, Try.ntmps32
  go_wp2
  go_loopw [7] (fun i wr => ∃ k : Nat, k ≤ n ∧ i = .int .i64 k ∧ Hid (jointB (l.take k) = false) ∧ Below w.heap.size w wr) (fun i _ => n - (intOf i).toNat)
  case atStart => exact ⟨0, Nat.zero_le _, rfl, by simp [Hid, jointB], Below.refl _ _⟩
  case round =>
    obtain ⟨k, hk, rfl, hj, hbel⟩ := hrel
    by_cases hlt : k < n
    · obtain ⟨g, i, s, p, e0, hm, hc0, hc1, hc2, hg⟩ := hl.at (k := k) (by have := HN.out; omega)
      subst e0
      have HM : Hid (l[k]? = some ⟨i, s, p⟩) := hm
      have r0 := (hbel.cell (by exact hg)).trans hc0
      have r1 := (hbel.cell (by exact hg)).trans hc1
      have r2 := (hbel.cell (by exact hg)).trans hc2
      have hsz := hbel.size
      clear hm hl hc0 hc1 hc2
      by_cases p1 : p = 1
      · have E : Hid (J = true) := by unfold Hid; rw [HJ.out]; exact jointB_hit l k _ HM.out (.inl p1)
        subst p1
        go_wp2
        go_ret
        exact ⟨ret_bool E.out.symm, hbel.alloc hsz _⟩
      · by_cases p2 : p = 2
        · have E : Hid (J = true) := by unfold Hid; rw [HJ.out]; exact jointB_hit l k _ HM.out (.inr p2)
          subst p2
          clear p1
          go_wp2
          go_ret
          exact ⟨ret_bool E.out.symm, hbel.alloc hsz _⟩
        · have t1 : (p == 1) = false := by simp [p1]
          have t2 : (p == 2) = false := by simp [p2]
          go_wp2
          go_roundw
          case rel => exact ⟨k + 1, by omega, by go_num, jointB_miss l k _ HM.out hj.out p1 p2, hbel.alloc hsz _⟩
          case measure => simp [intOf]; omega
    · have E : Hid (J = false) := by
        unfold Hid
        rw [HJ.out]
        have := hj.out
        rwa [List.take_of_length_le (by have := HN.out; omega)] at this
      go_wp2
      go_ret
      exact ⟨ret_bool E.out.symm, hbel⟩

end Go.Proofs.Qxb6001112a
