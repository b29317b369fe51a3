/-
  memberStatuses, by contract: match not nil.
-/
import Derived.Test.Qxb6001112aStat
namespace Go.Proofs.Qxb6001112a
open Go.RowKit

theorem heap_five_new (w : World) (o1 o2 o3 o4 o5 : Obj) : (((((w.alloc o1).alloc o2).alloc o3).alloc o4).alloc o5).drew.heap[w.heap.size + 4]? = some o5 := by
  show (((((w.heap.push o1).push o2).push o3).push o4).push o5)[w.heap.size + 4]? = _
  rw [Array.getElem?_push, if_pos (by simp)]

theorem heap_five_fourth (w : World) (o1 o2 o3 o4 o5 : Obj) : (((((w.alloc o1).alloc o2).alloc o3).alloc o4).alloc o5).drew.heap[w.heap.size + 3]? = some o4 := by
  show (((((w.heap.push o1).push o2).push o3).push o4).push o5)[w.heap.size + 3]? = _
  rw [Array.getElem?_push, if_neg (by simp), Array.getElem?_push, if_pos (by simp)]

theorem heap_five_old (w : World) (o1 o2 o3 o4 o5 : Obj) (b : Nat) (hb : b < w.heap.size) : (((((w.alloc o1).alloc o2).alloc o3).alloc o4).alloc o5).drew.heap[b]? = w.heap[b]? := by
  show (((((w.heap.push o1).push o2).push o3).push o4).push o5)[b]? = _
  rw [Array.getElem?_push, if_neg (by simp; omega), Array.getElem?_push, if_neg (by simp; omega), Array.getElem?_push, if_neg (by simp; omega), Array.getElem?_push, if_neg (by simp; omega), Array.getElem?_push, if_neg (by omega)]

theorem below_five {w wr w1 : World} {row : Option Nat} {o1 o2 o3 o4 o5 : Obj} (hbel : Below w.heap.size w wr) (hg : (((((wr.alloc o1).alloc o2).alloc o3).alloc o4).alloc o5).drew.grownBy w1 row) (hr : ∀ k, row = some k → w.heap.size ≤ k) : Below w.heap.size w w1 :=
  ((((((hbel.alloc hbel.size _).alloc (by have := hbel.size; simp; omega) _).alloc (by have := hbel.size; simp; omega) _).alloc (by have := hbel.size; simp; omega) _).alloc (by have := hbel.size; simp; omega) _).drew).grown hg (by have := hbel.size; simp; omega) hr

/-- The row that a value owns is a row of its own element type. -/
theorem own_type {w : World} {base e size n : Nat} {v : Value} {xs : List Value} (h : w.ownsRow base e size v n xs) (g : Nat) (hg : v.ownBlock = some g) : ∃ cur, w.heap[g]? = some (.cells cur e (0, 0)) := by
  rcases h.2 with ⟨rfl, _⟩ | ⟨g', cap, cur, rfl, _, hh, _⟩
  · simp [Value.ownBlock] at hg
  · simp [Value.ownBlock] at hg
    subst hg
    exact ⟨cur, hh⟩

theorem ptrs_step {lo k : Nat} {wr w2 : World} {fm : Nat → Int} {ss : List St} {v : Value} {xs : List Value} {o1 o2 o3 o5 : Obj} {i index q : Int} {s : ByteArray} {vt : Bool} (h : Ptrs lo wr fm ss) (hown : wr.ownsRow lo 44 6 v k xs) (hlo : lo ≤ wr.heap.size) (hk : k = ss.length)
    (hg : (((((wr.alloc o1).alloc o2).alloc o3).alloc (.cells #[.int .u64 (fm k)] 25)).alloc o5).drew.grownBy w2 v.ownBlock) :
    Ptrs lo w2 fm (ss ++ [⟨i, s, vt, q, some ⟨wr.heap.size + 3, 0, none⟩, index⟩]) := by
  refine h.snoc ?_ (wr.heap.size + 3) (by omega) (by omega) ?_ _ rfl
  · intro b hb ⟨z, hz⟩
    rw [hg.block b (by simp; omega) (fun e => by
      obtain ⟨cur, hc⟩ := own_type hown b e.symm
      rw [hz] at hc
      simp at hc)]
    exact heap_five_old wr _ _ _ _ _ b hb
  · rw [hg.block (wr.heap.size + 3) (by simp) (fun e => by have := (hown.lt _ e.symm).2; omega)]
    rw [heap_five_fourth, hk]

set_option maxRecDepth 100000 in
set_option maxHeartbeats 1600000 in
theorem stats_match (ao : Option Addr) (n cap : Nat) (index : Int) (am : Addr) (nm cm : Nat) (fm : Nat → Int) (l : List Mem) (w : World) (hl : LiesM w ao l) (hn : n = l.length) (hb : n ≤ 65536)
    (hm : Lies w (some am) nm (fun i => .int .u64 (fm i))) (hnm : n ≤ nm) :
    Calls Try.prog 30 #[.slice ao n cap, .int .u64 index, .slice (some am) nm cm] w fun e w' => ∃ ao' cap' ss, e = .returned (.slice ao' n cap') ∧ LiesS w' ao' ss ∧ Reports (jointB l) index l ss ∧ Ptrs w.heap.size w' fm ss ∧ Below w.heap.size w w' := by
  obtain ⟨i0, hi0, hz0, hz1, hz2⟩ := info_parts Try.info44
  have HN : Hid (n = l.length) := hn
  obtain ⟨J, hJ⟩ : ∃ J, J = jointB l := ⟨_, rfl⟩
  have hjoint := joint_any ao n cap l w hl hn hb
  rw [← hJ] at hjoint ⊢
  have HJ : Hid (Calls Try.prog 32 #[.slice ao n cap] w fun e w' => e = .returned (.bool J) ∧ Below w.heap.size w w') := hjoint
  clear hn hJ hjoint
  have qN : ∀ (w : World) (a : Option Addr) (n c n' c' : Nat), (binOp .neq 22 (.slice a n c) (.slice none n' c')).run Try.prog w = .ok (.bool (!a.isNone)) w := fun w a n c n' c' => run_neq_slice_nil_any w _ _ a n c n' c' Try.underlying22
  go_enter Try.func30, Try.ntmps30
  go_wp2_with fail
  refine (HJ.out).mono ?_
  rintro e w0 ⟨rfl, hb0⟩
  have hs0 := hb0.size
  clear HJ
  go_wp2_with (at_make; refine wpList_make_own _ rfl _ _ 37 rfl w.heap.size 44 i0 _ 6 Try.underlying37 hi0 hz0 hz1 .i64 .i64 _ n rfl rfl rfl (by rw [hz2]; omega) (by unfold maxLen; omega) (by omega) ?_; intro w1 hown1 hgrow1)
  go_loopw [8, 20] (fun v i wr => ∃ (k : Nat) (ao : Option Addr) (cap : Nat) (ss : List St), k ≤ n ∧ i = .int .i64 k ∧ v = .slice ao k cap ∧ wr.ownsRow w.heap.size 44 6 (.slice ao k cap) k (rowS ss) ∧ Reports J index (l.take k) ss ∧ Ptrs w.heap.size wr fm ss ∧ Below w.heap.size w wr)
      (fun _ i _ => n - (intOf i).toNat)
  case atStart =>
    exact ⟨0, _, _, [], Nat.zero_le _, rfl, rfl, hown1, by simp [Reports], Ptrs.nil _ _ _, hb0.grown hgrow1 hs0 (fun k hk => by cases hk)⟩
  case round =>
    obtain ⟨k, ar, cr, ss, hk, rfl, rfl, hown, hrep, hptr, hbel⟩ := hrel
    have HR : Hid (Reports J index (l.take k) ss) := hrep
    have HP : Hid (Ptrs w.heap.size wr fm ss) := hptr
    have HL : Hid (k = ss.length) := by unfold Hid; have h1 := HR.out.length; rw [List.length_take] at h1; have := HN.out; omega
    clear hown1 hgrow1 hrep hptr hb0 hs0
    by_cases hlt : k < n
    · obtain ⟨g, i, s, p, e0, hmk, hc0, hc1, hc2, hg⟩ := hl.at (k := k) (by have := HN.out; omega)
      subst e0
      have HM : Hid (l[k]? = some ⟨i, s, p⟩) := hmk
      obtain ⟨mb, mo, e1, hcm⟩ : ∃ b off, am = ⟨b, off, none⟩ ∧ w.cell? ⟨b, off + k, none⟩ = some (.int .u64 (fm k)) := by
        rcases hm with h | ⟨b, off, e, hc⟩
        · omega
        · exact ⟨b, off, Option.some.inj e, hc k (by omega)⟩
      subst e1
      have lm := World.block_lt_of_cell? w _ hcm
      have r0 := (hbel.cell (by exact hg)).trans hc0
      have r1 := (hbel.cell (by exact hg)).trans hc1
      have r2 := (hbel.cell (by exact hg)).trans hc2
      have rm := (hbel.cell (by exact lm)).trans hcm
      simp only at lm
      have hsz := hbel.size
      clear hmk hl hc0 hc1 hc2 hm hcm
      have g0 : (0 : Int) ≤ (k : Int) := by omega
      have g1 : (k : Int) < (nm : Int) := by omega
      have lm2 : mb < wr.heap.size := by omega
      have rm3 : ∀ o1 o2 o3, (((wr.alloc o1).alloc o2).alloc o3).cell? ⟨mb, mo + k, none⟩ = some (.int .u64 (fm k)) := fun o1 o2 o3 => cell_later ((((Below.refl _ wr).alloc (Nat.le_refl _) o1).alloc (by simp) o2).alloc (by simp; omega) o3) rm
      go_wp2_with fail
      have x0 : (wr.alloc (.cells #[.int .u64 i, .string s, .int .u8 p] 51)).cell? ⟨wr.heap.size, 0, none⟩ = some (.int .u64 i) := by simp
      have x1 : (wr.alloc (.cells #[.int .u64 i, .string s, .int .u8 p] 51)).cell? ⟨wr.heap.size, 1, none⟩ = some (.string s) := by simp
      have x2 : (wr.alloc (.cells #[.int .u64 i, .string s, .int .u8 p] 51)).cell? ⟨wr.heap.size, 2, none⟩ = some (.int .u8 p) := by simp
      cases J
      · go_region_held3 (fun w' => w'.cell? ⟨wr.heap.size, 0, none⟩ = some (.int .u64 i) ∧ w'.cell? ⟨wr.heap.size, 1, none⟩ = some (.string s) ∧ w'.cell? ⟨wr.heap.size, 2, none⟩ = some (.int .u8 p))
          (go_keep) ((go_at_call 33; refine (votes_any _ _ _ _).mono ?_; rintro e w' ⟨rfl, rfl⟩))
        all_goals
          clear x0 x1 x2 r0 r1 r2
          go_wp2_with (at_builtin; refine wpList_append_lies _ rfl _ _ 37 rfl w.heap.size 44 i0 _ 6 48 Try.underlying37 hi0 hz0 hz1 hz2 rfl (by omega) (.slice ar k cr) k (rowS ss) rfl ((((((hown.alloc _).alloc _).alloc _).alloc _).alloc _).drew) ⟨wr.heap.size + 4, 0, none⟩ 1 1 [.int .u64 i, .string s, .bool (p != 0), .int .u8 0, .pointer (some ⟨wr.heap.size + 3, 0, none⟩), .int .u64 index] rfl rfl (World.news_of_block (cs := #[.int .u64 i, .string s, .bool (p != 0), .int .u8 0, .pointer (some ⟨wr.heap.size + 3, 0, none⟩), .int .u64 index]) (t := 44) (fr := (0, 0)) (heap_five_new wr _ _ _ _ _)) (by simp [Value.oneCell']) (by omega) (by unfold maxLen; omega) (by omega) (by simp; omega) (wr.heap.size + 5) (by simp) ?_; intro gg cap' w2 hown1 hgrow hat hlt')
          go_roundw
          case rel => exact ⟨k + 1, _, _, _, by omega, by go_num, rfl, ownsS_snoc hown1, HR.out.snoc HM.out _, ptrs_step HP.out hown hsz HL.out hgrow, below_five hbel hgrow (fun k hk => (hown.lt k hk).1)⟩
          case measure => simp [intOf]; omega
      · go_region_held3 (fun w' => w'.cell? ⟨wr.heap.size, 0, none⟩ = some (.int .u64 i) ∧ w'.cell? ⟨wr.heap.size, 1, none⟩ = some (.string s) ∧ w'.cell? ⟨wr.heap.size, 2, none⟩ = some (.int .u8 p))
          (go_keep) ((go_at_call 33; refine (votes_any _ _ _ _).mono ?_; rintro e w' ⟨rfl, rfl⟩))
        all_goals
          clear x0 x1 x2 r0 r1 r2
          go_wp2_with (at_builtin; refine wpList_append_lies _ rfl _ _ 37 rfl w.heap.size 44 i0 _ 6 48 Try.underlying37 hi0 hz0 hz1 hz2 rfl (by omega) (.slice ar k cr) k (rowS ss) rfl ((((((hown.alloc _).alloc _).alloc _).alloc _).alloc _).drew) ⟨wr.heap.size + 4, 0, none⟩ 1 1 [.int .u64 i, .string s, .bool (p != 0), .int .u8 p, .pointer (some ⟨wr.heap.size + 3, 0, none⟩), .int .u64 index] rfl rfl (World.news_of_block (cs := #[.int .u64 i, .string s, .bool (p != 0), .int .u8 p, .pointer (some ⟨wr.heap.size + 3, 0, none⟩), .int .u64 index]) (t := 44) (fr := (0, 0)) (heap_five_new wr _ _ _ _ _)) (by simp [Value.oneCell']) (by omega) (by unfold maxLen; omega) (by omega) (by simp; omega) (wr.heap.size + 5) (by simp) ?_; intro gg cap' w2 hown1 hgrow hat hlt')
          go_roundw
          case rel => exact ⟨k + 1, _, _, _, by omega, by go_num, rfl, ownsS_snoc hown1, HR.out.snoc HM.out _, ptrs_step HP.out hown hsz HL.out hgrow, below_five hbel hgrow (fun k hk => (hown.lt k hk).1)⟩
          case measure => simp [intOf]; omega
    · go_wp2
      go_ret
      have e : k = n := by omega
      have hrep := HR.out
      rw [List.take_of_length_le (by have := HN.out; omega)] at hrep
      subst e
      exact ⟨_, _, ss, rfl, liesS_of_owns HL.out hown, hrep, HP.out, hbel⟩

end Go.Proofs.Qxb6001112a
