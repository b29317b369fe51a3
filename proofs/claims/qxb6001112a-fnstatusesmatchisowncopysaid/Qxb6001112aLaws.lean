/-
  THE PLAIN LAWS: no Go in sight.
-/
import Derived.Test.Qxb6001112aLawKit
namespace Go.Proofs.Qxb6001112a
open Go.RowKit

theorem list_eq_of_map {α β : Type} (f : α → β) (a : List α) (b : List β) (hl : a.length = b.length) (h : ∀ (i : Nat) (x : α) (y : β), a[i]? = some x → b[i]? = some y → f x = y) : a.map f = b := by
  apply List.ext_getElem?
  intro i
  by_cases hi : i < a.length
  · have hi' : i < b.length := by omega
    rw [List.getElem?_map, List.getElem?_eq_getElem hi, List.getElem?_eq_getElem hi']
    simp only [Option.map_some]
    congr 1
    exact h i _ _ (List.getElem?_eq_getElem hi) (List.getElem?_eq_getElem hi')
  · rw [List.getElem?_eq_none (by simpa using hi), List.getElem?_eq_none (by omega)]

theorem jointB_false (l : List Mem) (h : jointB l = false) (k : Nat) (m : Mem) (hm : l[k]? = some m) : m.part ≠ 1 ∧ m.part ≠ 2 := by
  refine ⟨fun e => ?_, fun e => ?_⟩
  · rw [jointB_hit l k m hm (.inl e)] at h; cases h
  · rw [jointB_hit l k m hm (.inr e)] at h; cases h

/-- THE PLAIN LAW: what memberStatuses reports, configurationOf reads back: for parts 0 to 3. -/
theorem reports_back {index : Int} {l : List Mem} {ss : List St} (h : Reports (jointB l) index l ss) (hp : ∀ (k : Nat) (m : Mem), l[k]? = some m → 0 ≤ m.part ∧ m.part ≤ 3) : ss.map memOf = l := by
  refine list_eq_of_map memOf ss l h.length ?_
  intro i s m hs hm
  obtain ⟨id, ad, p⟩ := m
  obtain ⟨mt, h1⟩ := h.at hm
  rw [hs] at h1
  simp only [Option.some.injEq] at h1
  subst h1
  have hb := hp i _ hm
  simp only at hb
  cases hJ : jointB l
  · have hn := jointB_false l hJ i _ hm
    simp only at hn
    by_cases h0 : p = 0
    · subst h0; simp [memOf]
    · have h3 : p = 3 := by omega
      subst h3; simp [memOf]
  · by_cases h0 : p = 0
    · subst h0; simp [memOf]
    · simp [memOf, h0]

theorem mk_bounds {fi : Nat → Int} {fa : Nat → ByteArray} {fp : Nat → Int} {n : Nat} (h0 : ∀ i, 0 ≤ fp i) (h3 : allLe fp n) (k : Nat) (m : Mem) (hm : (mk fi fa fp n)[k]? = some m) : 0 ≤ m.part ∧ m.part ≤ 3 := by
  have hk : k < n := by
    have := (List.getElem?_eq_some_iff.1 hm).1
    rwa [mk_length] at this
  rw [mk_at fi fa fp n k hk] at hm
  simp only [Option.some.injEq] at hm
  subst hm
  exact ⟨h0 k, h3 k hk⟩

end Go.Proofs.Qxb6001112a
