/-
  zzBytesAre, zzSameStrings at equal contents; ZZHeaderPairs.
-/
import Derived.Test.Qxb6001792aPairsW
namespace Go.Proofs.Qxb6001792a
open Go.RowKit Go.Maps

set_option maxHeartbeats 1000000 in
theorem bytesAre_any (blk cap : Nat) (s : ByteArray) (w : World) (hc : ∀ j (h : j < s.size), w.cell? ⟨blk, j, none⟩ = some (.int .u8 (s[j].toNat : Int))) (hs : s.size ≤ 1048576) :
    Calls Try.prog 26 #[.slice (some ⟨blk, 0, none⟩) s.size cap, .string s] w fun e w' => e = .returned (.bool true) ∧ ∃ n, w' = w.drewN n := by
  have HC : Hid (∀ j (h : j < s.size), w.cell? ⟨blk, j, none⟩ = some (.int .u8 (s[j].toNat : Int))) := hc
  clear hc
  go_enter Try.func26, Try.ntmps26
  go_wp2
  go_loopw [5] (fun i wr => ∃ (k q : Nat), k ≤ s.size ∧ i = .int .i64 k ∧ wr = w.drewN q) (fun i _ => s.size - (intOf i).toNat)
  case atStart => exact ⟨0, 0, Nat.zero_le _, rfl, rfl⟩
  case round =>
    obtain ⟨k, q, hk, rfl, rfl⟩ := hrel
    by_cases hlt : k < s.size
    · have h1 := HC.out k hlt
      have z0 : (0 : Int) ≤ (k : Int) := by omega
      have z1 : (k : Int) < (s.size : Int) := by omega
      go_wp2
      go_quiet (fail)
      go_wp2
      go_roundw
      case rel => exact ⟨k + 1, _, by omega, by go_num, rfl⟩
      case measure => simp [intOf]; omega
    · go_wp2
      go_ret
      exact ⟨rfl, q, rfl⟩

set_option maxHeartbeats 1000000 in
theorem sameStrings_any (a b : Option Addr) (n ca cb : Nat) (f : Nat → ByteArray) (w : World) (ha : Lies w a n (fun i => .string (f i))) (hb : Lies w b n (fun i => .string (f i))) (hn : n ≤ 4294967296) :
    Calls Try.prog 24 #[.slice a n ca, .slice b n cb] w fun e w' => e = .returned (.bool true) ∧ Below w.heap.size w w' := by
  go_enter Try.func24, Try.ntmps24
  go_wp2
  go_loopw [5] (fun i wr => ∃ (k : Nat), k ≤ n ∧ i = .int .i64 k ∧ Below w.heap.size w wr) (fun i _ => n - (intOf i).toNat)
  case atStart => exact ⟨0, Nat.zero_le _, rfl, Below.refl _ _⟩
  case round =>
    obtain ⟨k, hk, rfl, hbel⟩ := hrel
    by_cases hlt : k < n
    · obtain ⟨b1, o1, e1, c1, l1⟩ := ha.at hlt
      obtain ⟨b2, o2, e2, c2, l2⟩ := hb.at hlt
      subst e1 e2
      have r1 := (hbel.cell (by exact l1)).trans c1
      have r2 := (hbel.cell (by exact l2)).trans c2
      have z0 : (0 : Int) ≤ (k : Int) := by omega
      have z1 : (k : Int) < (n : Int) := by omega
      clear ha hb c1 c2
      go_wp2
      go_quiet (fail)
      go_wp2
      go_roundw
      case rel => exact ⟨k + 1, by omega, by go_num, below_drewN hbel _⟩
      case measure => simp [intOf]; omega
    · go_wp2
      go_ret
      exact ⟨rfl, hbel⟩

set_option maxHeartbeats 400000 in
theorem zzPairs_any (B lo n : Nat) (ks : List ByteArray) (f : ByteArray → Option Value) (G : ByteArray → Option (List ByteArray)) (w : World) (h : Head w lo B n ks f G) (hn : n ≤ 65536) (hG : ∀ s, ((G s).getD []).length ≤ 65536) :
    Calls Try.prog 20 #[.map (some B)] w fun e w' => ∃ (ao : Option Addr) (q cap : Nat) (cs : List Value) (ps : List (ByteArray × ByteArray)), e = .returned (.slice ao q cap) ∧ q = cs.length ∧ ps.length ≤ 4294967296 ∧ w'.ownsRow w.heap.size 46 1 (.slice ao q cap) q cs ∧ PairsV w' cs ps ∧ (∀ s, valsOf s ps = (G s).getD []) ∧ Below w.heap.size w w' := by
  have H : Hid (Calls Try.prog 28 #[.map (some B)] w fun e w' => ∃ (ao : Option Addr) (q cap : Nat) (cs : List Value) (ps : List (ByteArray × ByteArray)), e = .returned (.slice ao q cap) ∧ q = cs.length ∧ ps.length ≤ 4294967296 ∧ w'.ownsRow w.heap.size 46 1 (.slice ao q cap) q cs ∧ PairsV w' cs ps ∧ (∀ s, valsOf s ps = (G s).getD []) ∧ Below w.heap.size w w') := pairs_any B lo n ks f G w h hn hG
  clear h hn hG
  go_enter Try.func20, Try.ntmps20
  go_wp2_with fail
  refine (H.out).mono ?_
  rintro e w' ⟨ao, q, cap, cs, ps, rfl, h1, h2, h3, h4, h5, h6⟩
  have H2 : Hid (q = cs.length ∧ ps.length ≤ 4294967296 ∧ (∀ s, valsOf s ps = (G s).getD [])) := ⟨h1, h2, h5⟩
  clear h1 h2 h5
  go_wp2
  go_ret
  exact ⟨_, _, _, cs, ps, rfl, H2.out.1, H2.out.2.1, h3, h4, H2.out.2.2, h6⟩

/-- The next value under its name. -/
theorem valsOf_at {ps : List (ByteArray × ByteArray)} {i : Nat} {s t : ByteArray} (h : ps[i]? = some (s, t)) : (valsOf s ps)[(valsOf s (ps.take i)).length]? = some t := by
  have hi : i < ps.length := (List.getElem?_eq_some_iff.1 h).1
  have e : valsOf s ps = valsOf s (ps.take i) ++ (t :: valsOf s (ps.drop (i + 1))) := by
    conv => lhs; rw [← List.take_append_drop i ps]
    rw [valsOf_append, List.drop_eq_getElem_cons hi]
    have : ps[i] = (s, t) := by
      have h1 := List.getElem?_eq_getElem hi
      rw [h] at h1
      simpa using h1.symm
    rw [this]
    simp [valsOf]
  rw [e, List.getElem?_append_right (Nat.le_refl _)]
  simp

theorem valsOf_take {ps : List (ByteArray × ByteArray)} {i : Nat} {s t : ByteArray} (h : ps[i]? = some (s, t)) (x : ByteArray) : (valsOf x (ps.take (i + 1))).length = if x = s then (valsOf s (ps.take i)).length + 1 else (valsOf x (ps.take i)).length := by
  rw [List.take_add_one, h, valsOf_append]
  by_cases e : x = s
  · subst e; simp [valsOf]
  · have e2 : ¬ s = x := fun e1 => e e1.symm
    simp [valsOf, e, e2]

end Go.Proofs.Qxb6001792a
