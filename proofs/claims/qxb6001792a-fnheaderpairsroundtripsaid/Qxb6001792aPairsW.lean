/-
  headerPairs, by contract.
-/
import Derived.Test.Qxb6001792aPairs
namespace Go.Proofs.Qxb6001792a
open Go.RowKit Go.Maps

theorem f_of_at {D : DataW Value} {f : ByteArray → Option Value} (h3 : ∀ s z, D.atKey (keyL s) (.held z) = .held ((f s).getD z)) {s : ByteArray} {v : Value} (h : ∀ zd, D.atKey (keyL s) zd = .held v) : f s = some v := by
  have h1 := h (.held (.bool true))
  have h2 := h (.held (.bool false))
  rw [h3 s] at h1 h2
  cases hf : f s with
  | none => rw [hf] at h1 h2; simp at h1 h2; rw [← h1] at h2; simp at h2
  | some u => rw [hf] at h1; simp at h1; rw [h1]

theorem Row.shape {w : World} {lo : Nat} {a : Option Addr} {m c : Nat} {l : List ByteArray} (h : Row w lo (.slice a m c) l) : m = l.length ∧ Lies w a m (fun i => .string (l.getD i ByteArray.empty)) := by
  obtain ⟨ao, cap, e, h1⟩ := h
  simp only [Value.slice.injEq] at e
  obtain ⟨rfl, rfl, rfl⟩ := e
  exact ⟨rfl, lies_of_row rfl h1⟩

theorem ranges_ne_row {w : World} {b r n : Nat} {D : DataW Value} {left : Lit → Bool} {cnt : Nat} (h : w.ranges Try.prog 9 raw b r n D left cnt) {base e size n' : Nat} {v : Value} {xs : List Value} (h' : w.ownsRow base e size v n' xs) : some b ≠ v.ownBlock ∧ some r ≠ v.ownBlock := by
  obtain ⟨es, clock, since, seen, c0, hb, _, _, _, hr, _⟩ := h
  refine ⟨fun e => ?_, fun e => ?_⟩
  · obtain ⟨cur, hc⟩ := own_type h' b e.symm
    rw [hb] at hc; cases hc
  · obtain ⟨cur, hc⟩ := own_type h' r e.symm
    rw [hr] at hc; cases hc

theorem row_not_bytes {w : World} {base size n' : Nat} {v : Value} {xs : List Value} (h' : w.ownsRow base 46 size v n' xs) : ∀ g, v.ownBlock = some g → ∀ c fr, w.heap[g]? ≠ some (.cells c 5 fr) := by
  intro g hg c fr hc
  obtain ⟨cur, h2⟩ := own_type h' g hg
  rw [hc] at h2
  simp at h2

theorem iter_not_bytes {w : World} {b r n : Nat} {D : DataW Value} {left : Lit → Bool} {cnt : Nat} (h : w.ranges Try.prog 9 raw b r n D left cnt) : ∀ g, some r = some g → ∀ c fr, w.heap[g]? ≠ some (.cells c 5 fr) := by
  intro g hg c fr hc
  obtain ⟨es, clock, since, seen, c0, _, _, _, _, hr, _⟩ := h
  cases hg
  rw [hr] at hc
  cases hc

/-- The pairs of one key, one more. -/
theorem take_snoc (l : List ByteArray) (k : Nat) (h : k < l.length) (s : ByteArray) : (l.take (k + 1)).map (fun v => (s, v)) = (l.take k).map (fun v => (s, v)) ++ [(s, l.getD k ByteArray.empty)] := by
  rw [List.take_add_one, List.getElem?_eq_getElem h, List.map_append]
  have e : l.getD k ByteArray.empty = l[k] := by simp [List.getD, List.getElem?_eq_getElem h]
  rw [e]
  rfl

/-- What one round of the inner loop does to memory. -/
theorem pairs_step {w wr w2 w3 w4 : World} {B r n q : Nat} {D : DataW Value} {left : Lit → Bool} {cnt : Nat} {v v1 v2 : Value} {cs : List Value} {PS : List (ByteArray × ByteArray)} {s t : ByteArray} {o : Obj}
    (hrow : wr.ownsRow w.heap.size 46 1 v q cs) (hrg : wr.ranges Try.prog 9 raw B r n D left cnt) (hpv : PairsV wr cs PS) (hbel : Below w.heap.size w wr)
    (hg2 : wr.grownBy w2 none) (hb2 : BytesV w2 v1 s) (hg3 : w2.grownBy w3 none) (hb3 : BytesV w3 v2 t) (hg4 : (w3.alloc o).grownBy w4 v.ownBlock) :
    w4.ranges Try.prog 9 raw B r n D left cnt ∧ PairsV w4 (cs ++ [v1, v2]) (PS ++ [(s, t)]) ∧ Below w.heap.size w w4 := by
  have hno : ∀ (x : World) (g : Nat), (none : Option Nat) = some g → ∀ c fr, x.heap[g]? ≠ some (.cells c 5 fr) := fun x g hg => by cases hg
  have hrow3 := (((hrow.kept hg2 (none_or_ne _)).kept hg3 (none_or_ne _)).alloc o)
  have hrg3 := (((hrg.kept hg2 (by simp) (by simp)).kept hg3 (by simp) (by simp)).alloc o)
  have hne := ranges_ne_row hrg3 hrow3
  have hp3 : PairsV (w3.alloc o) (cs ++ [v1, v2]) (PS ++ [(s, t)]) := (((hpv.kept hg2 (hno _)).kept hg3 (hno _)).snoc (hb2.kept hg3 (hno _)) hb3).kept (World.grownBy_alloc w3 o none) (hno _)
  have hb3' : Below w.heap.size w w3 := (hbel.grown hg2 hbel.size (fun k hk => by cases hk)).grown hg3 (Nat.le_trans hbel.size hg2.size) (fun k hk => by cases hk)
  exact ⟨hrg3.kept hg4 hne.1 hne.2, hp3.kept hg4 (row_not_bytes hrow3), (bnew hb3' o).grown hg4 (bnew hb3' o).size (fun k hk => (hrow.lt k hk).1)⟩

set_option maxRecDepth 100000 in
set_option maxHeartbeats 2000000 in
theorem pairs_any (B lo n : Nat) (ks : List ByteArray) (f : ByteArray → Option Value) (G : ByteArray → Option (List ByteArray)) (w : World) (h : Head w lo B n ks f G) (hn : n ≤ 65536) (hG : ∀ s, ((G s).getD []).length ≤ 65536) :
    Calls Try.prog 28 #[.map (some B)] w fun e w' => ∃ (ao : Option Addr) (q cap : Nat) (cs : List Value) (ps : List (ByteArray × ByteArray)), e = .returned (.slice ao q cap) ∧ q = cs.length ∧ ps.length ≤ 4294967296 ∧ w'.ownsRow w.heap.size 46 1 (.slice ao q cap) q cs ∧ PairsV w' cs ps ∧ (∀ s, valsOf s ps = (G s).getD []) ∧ Below w.heap.size w w' := by
  obtain ⟨i0, hi0, hz0, hz1, hz2⟩ := info_parts Try.info46
  obtain ⟨D, hown, hD2, hD3, hD4, _, _⟩ := h.map
  have hlB := h.map.lt
  have hszD : Maps.size D ≤ n := by rw [hD4]; exact h.map.len_le
  have HD3 : Hid (∀ s z, D.atKey (keyL s) (.held z) = .held ((f s).getD z)) := hD3
  have HSt : Hid (Sofar (Maps.has D) G []) := Sofar.start (fun s => by rw [hD2 s]; exact h.dom s)
  have HR : Hid (∀ s v, f s = some v → ∃ l, G s = some l ∧ Row w lo v l) := h.rows
  have HG : Hid (∀ s, ((G s).getD []).length ≤ 65536) := hG
  have hshape : ∀ (s : ByteArray) v, (∀ zd, D.atKey (keyL s) zd = .held v) → ∃ a n c, v = .slice a n c := fun s v hv => by
    obtain ⟨l, _, ao, cap, e, _⟩ := HR.out s v (f_of_at HD3.out hv)
    exact ⟨ao, _, cap, e⟩
  have HSh : Hid (∀ (s : ByteArray) v, (∀ zd, D.atKey (keyL s) zd = .held v) → ∃ a n c, v = .slice a n c) := hshape
  clear hD2 hD3 hD4 h hG hshape
  have e1 : (w.alloc (.cells #[] 46)).heap.size = w.heap.size + 1 := by simp
  go_enter Try.func28, Try.ntmps28
  go_wp2_with (at_range; refine wpList_range_own _ rfl _ 37 rfl 9 27 law Try.underlying37 _ B n D rfl (hown.alloc _) ?_; intro w0 hrg0 hg0 hs0)
  go_frame
  rw [e1] at hrg0 hs0 ⊢
  have hst0 : w0.ownsRow w.heap.size 46 1 (.slice (some ⟨w.heap.size, 0, none⟩) 0 0) 0 [] := (World.ownsRow_made (base := w.heap.size) (e := 46) (size := 1) w #[] 0 (Nat.le_refl _) (Nat.zero_le _) rfl).kept hg0 (none_or_ne _)
  have hB0 : Below w.heap.size w w0 := ((Below.refl _ w).alloc (Nat.le_refl _) _).grown hg0 (by simp) (fun k hk => by cases hk)
  clear hs0 e1 hown hg0
  go_loopw [3] (fun v wr => ∃ (left : Lit → Bool) (cnt q : Nat) (ao : Option Addr) (cap : Nat) (cs : List Value) (ps : List (ByteArray × ByteArray)), v = .slice ao q cap ∧ Hid (q = cs.length) ∧ Hid (q = 2 * ps.length) ∧ ps.length + cnt * 65536 ≤ 4294967296 ∧
      wr.ranges Try.prog 9 raw B (w.heap.size + 1) n D left cnt ∧ wr.ownsRow w.heap.size 46 1 (.slice ao q cap) q cs ∧ PairsV wr cs ps ∧ Hid (Sofar left G ps) ∧ Below w.heap.size w wr)
    (fun _ wr => wr.rangeLeft B (w.heap.size + 1))
  case atStart => exact ⟨_, _, 0, _, _, [], [], rfl, rfl, rfl, by simp; omega, hrg0, hst0, PairsV.nil _, HSt, hB0⟩
  case round =>
    clear hrg0 hst0 hB0 HSt
    obtain ⟨left, cnt, q, ar, cr, cs, ps, rfl, HQ, HQ2, hcnt, hrg, hrow, hpv, HSo, hbel⟩ := hrel
    go_wp2_with (at_next; refine wpList_next_V _ rfl _ rfl B (w.heap.size + 1) n D _ _ rfl hrg HSh.out ?_ ?_)
    · intro _ hl0
      go_wp2
      go_ret
      exact ⟨_, _, _, cs, ps, rfl, HQ.out, by omega, hrow, hpv, fun s => (HSo.out s).2 (hl0 _), hbel⟩
    · intro s va m vc w1 cnt1 hsm hlk hat hrg1 hlt hg1 hen
      obtain ⟨l, hl, hrw⟩ := HR.out s _ (f_of_at HD3.out hat)
      obtain ⟨hml, hlies⟩ := hrw.shape
      have hl65 := HG.out s
      rw [hl, Option.getD_some] at hl65
      have HS1 : Hid (Sofar (fun z => left z && !z.sameKey (keyL s)) G (ps ++ l.map fun v => (s, v))) := by
        have h1 := HSo.out.step hlk
        rw [hl] at h1
        exact h1
      have HML : Hid (m = l.length) := hml
      have hm65 : m ≤ 65536 := by omega
      have hneR := (ranges_ne_row hrg hrow).2
      have hrow1 := hrow.kept hg1 (.inr (fun e => hneR e.symm))
      have hpv1 := hpv.kept hg1 (iter_not_bytes hrg)
      have hbel1 := hbel.grown hg1 hbel.size (fun j hj => by cases hj; omega)
      have hlq : wr.rangeLeft B (w.heap.size + 1) = cnt := hrg.left_eq
      have HLQ : Hid (wr.rangeLeft B (w.heap.size + 1) = cnt) := hlq
      clear hat hl hrw hml HSo hlk hrow hpv hbel hg1 hlq hneR hrg
      go_wp2
      go_loopw [3, 18] (fun v j wr2 => ∃ (k q : Nat) (ao : Option Addr) (cap : Nat) (cs2 : List Value), k ≤ m ∧ j = .int .i64 k ∧ v = .slice ao q cap ∧ Hid (q = cs2.length) ∧ q = 2 * (ps.length + k) ∧
          wr2.ranges Try.prog 9 raw B (w.heap.size + 1) n D (fun z => left z && !z.sameKey (keyL s)) cnt1 ∧ wr2.ownsRow w.heap.size 46 1 (.slice ao q cap) q cs2 ∧ PairsV wr2 cs2 (ps ++ (l.take k).map fun v => (s, v)) ∧ Below w.heap.size w wr2)
        (fun _ j _ => m - (intOf j).toNat)
      case atStart => exact ⟨0, q, _, _, cs, Nat.zero_le _, rfl, rfl, HQ, by have := HQ2.out; omega, hrg1, hrow1, by simpa using hpv1, hbel1⟩
      case round =>
        clear hrg1 hrow1 hpv1 hbel1 hen
        obtain ⟨k, q2, ar2, cr2, cs2, hk, rfl, rfl, HC, hq2, hrg, hrow, hpv, hbel⟩ := hrel
        have hqb : q2 ≤ 8589934592 + 131072 := by omega
        have HQ3 : Hid (q2 = 2 * (ps.length + k)) := hq2
        clear hq2
        by_cases hkm : k < m
        · obtain ⟨b2, o2, e2, hc2, lb2⟩ := hlies.at hkm
          subst e2
          have rs := (hbel.cell (by exact lb2)).trans hc2
          obtain ⟨tk, htk⟩ : ∃ x, x = l.getD k ByteArray.empty := ⟨_, rfl⟩
          simp only [← htk] at rs
          have HT : Hid (tk = l.getD k ByteArray.empty) := htk
          have hsz := hbel.size
          have hne := ranges_ne_row hrg hrow
          have hnb := row_not_bytes hrow
          have hrb : ∀ g, (Value.slice ar2 q2 cr2).ownBlock = some g → w.heap.size ≤ g := fun g hg => (hrow.lt g hg).1
          clear htk hc2
          go_wp2_with (first | (refine wpList_toBytes _ rfl _ rfl s rfl ?_; intro w2 cap2 hg2 hS2 hb2) | (refine wpList_toBytes _ rfl _ rfl tk rfl ?_; intro w3 cap3 hg3 hS3 hb3) | (at_builtin; refine wpList_append_lies _ rfl _ _ 35 rfl w.heap.size 46 i0 _ 1 24 Try.underlying35 hi0 hz0 hz1 hz2 rfl (by omega) (.slice ar2 q2 cr2) q2 cs2 rfl (((hrow.kept hg2 (none_or_ne _)).kept hg3 (none_or_ne _)).alloc _) ⟨w3.heap.size, 0, none⟩ 2 2 [.slice (some ⟨wr.heap.size, 0, none⟩) s.size cap2, .slice (some ⟨w2.heap.size, 0, none⟩) tk.size cap3] rfl rfl (World.news_of_block (cs := #[.slice (some ⟨wr.heap.size, 0, none⟩) s.size cap2, .slice (some ⟨w2.heap.size, 0, none⟩) tk.size cap3]) (t := 46) (fr := (0, 0)) (heap_one_new w3 _)) (by simp [Value.oneCell']) (by omega) (by unfold maxLen; omega) (by omega) (by have := hg2.size; have := hg3.size; simp; omega) (w3.heap.size + 1) (by simp) ?_; intro gg cap' w4 hrow4 hgrow4 hat hlt4))
          go_roundw
          case rel =>
            obtain ⟨x1, x2, x3⟩ := pairs_step hrow hrg hpv hbel hg2 hb2 hg3 hb3 hgrow4
            refine ⟨k + 1, q2 + 2, _, _, _, by omega, by go_num, rfl, by have := HC.out; simp only [Hid, List.length_append, List.length_cons, List.length_nil]; omega, by have := HQ3.out; omega, x1, hrow4, ?_, x3⟩
            rw [take_snoc l k (by have := HML.out; omega), ← List.append_assoc, ← HT.out]
            exact x2
          case measure => simp [intOf]; omega
        · have ek : k = m := by omega
          have hpv2 : PairsV wr cs2 (ps ++ l.map fun v => (s, v)) := by
            rw [List.take_of_length_le (by have := HML.out; omega)] at hpv
            exact hpv
          clear hpv hlies
          go_wp2
          go_roundw
          case rel => exact ⟨_, cnt1, q2, _, _, cs2, _, rfl, HC, by have := HQ3.out; have := HML.out; simp only [Hid, List.length_append, List.length_map]; omega, by have := HML.out; simp only [List.length_append, List.length_map]; omega, hrg, hrow, hpv2, HS1, hbel⟩
          case measure => rw [hrg.left_eq, HLQ.out]; omega

end Go.Proofs.Qxb6001792a
