/- Maps from names to values, read as lists of pairs. -/
import Derived.Test.YtbehijhpichniaaRkv
import Derived.Maps.StringElems
import Derived.Sort.MapsRangeIn
namespace Go.Proofs.Ytbehijhpichniaa
open Go.RowKit
def ent (t : Tr) : Lit × DataW Unit := (.string t.name.data.toList, .lit (.string t.value.data.toList))
/-- The datum holds these pairs. -/
def MapIs (D : DataW Unit) (G : List Tr) : Prop := ∃ l, D = .map l ∧ l.Perm (G.map ent)
theorem MapIs.nil : MapIs (.map []) [] := ⟨[], rfl, .refl _⟩
theorem MapIs.put {D : DataW Unit} {G : List Tr} (h : MapIs D G) (t : Tr) (hn : ∀ g ∈ G, g.name ≠ t.name) : MapIs (D.put (.string t.name.data.toList) (.lit (.string t.value.data.toList))) (G ++ [t]) := by
  obtain ⟨l, rfl, hp⟩ := h
  rw [DataW.put_eq]
  refine ⟨_, rfl, ?_⟩
  unfold Go.ChangeMaps.putKey
  have hf : l.filter (Go.ChangeMaps.notKey (.string t.name.data.toList)) = l := by
    rw [List.filter_eq_self]
    intro p hp2
    obtain ⟨g, hg, rfl⟩ := List.mem_map.1 (hp.mem_iff.1 hp2)
    unfold Go.ChangeMaps.notKey
    rw [Maps.sameKey_ne]
    · rfl
    · intro e
      exact hn g hg (ba_ext (Lit.string.inj e))
  rw [hf, List.map_append]
  refine (Go.WideShapes.insert_perm _ _).trans ?_
  refine (hp.cons _).trans ?_
  exact (List.perm_append_singleton _ _).symm
theorem MapIs.get {D : DataW Unit} {G : List Tr} (h : MapIs D G) {kl : Lit} (hk : Maps.has D kl = true) : ∃ g ∈ G, kl = (ent g).1 ∧ ∀ zd, D.atKey kl zd = .lit (.string g.value.data.toList) ∨ ∃ g' ∈ G, (ent g').1 = kl ∧ D.atKey kl zd = (ent g').2 := by
  obtain ⟨l, rfl, hp⟩ := h
  rw [Maps.has_eq, List.any_eq_true] at hk
  obtain ⟨p, hp1, hp2⟩ := hk
  obtain ⟨g, hg, rfl⟩ := List.mem_map.1 (hp.mem_iff.1 hp1)
  refine ⟨g, hg, (WideAt.sameKey_eq hp2).symm, fun zd => ?_⟩
  right
  cases hf : l.find? (fun p => p.1.sameKey kl) with
  | none => exact absurd hp2 (by simpa using List.find?_eq_none.1 hf _ hp1)
  | some q =>
    obtain ⟨g', hg', rfl⟩ := List.mem_map.1 (hp.mem_iff.1 (List.mem_of_find?_eq_some hf))
    have := List.find?_some hf
    exact ⟨g', hg', WideAt.sameKey_eq this, by simp only [DataW.atKey, hf]⟩
/-- A key of it: the pair that stands there. -/
theorem MapIs.at {D : DataW Unit} {G : List Tr} (h : MapIs D G) {x c : ByteArray} (hk : Maps.has D (.string x.data.toList) = true) (hc : ∀ zd, D.atKey (.string x.data.toList) zd = .lit (.string c.data.toList)) : ∃ g ∈ G, g.name = x ∧ g.value = c := by
  obtain ⟨g, hg, e, h2⟩ := h.get hk
  rcases h2 (.lit (.bool true)) with h3 | ⟨g', hg', e', h3⟩
  · rw [hc] at h3
    exact ⟨g, hg, (ba_ext (Lit.string.inj e)).symm, (ba_ext (Lit.string.inj (DataW.lit.inj h3))).symm⟩
  · rw [hc] at h3
    exact ⟨g', hg', ba_ext (Lit.string.inj e'), (ba_ext (Lit.string.inj (DataW.lit.inj h3))).symm⟩
theorem MapIs.has {D : DataW Unit} {G : List Tr} (h : MapIs D G) {g : Tr} (hg : g ∈ G) : Maps.has D (.string g.name.data.toList) = true := by
  obtain ⟨l, rfl, hp⟩ := h
  rw [Maps.has_eq, List.any_eq_true]
  exact ⟨ent g, hp.mem_iff.2 (List.mem_map.2 ⟨g, hg, rfl⟩), by simp [ent, Lit.sameKey]⟩
theorem len_le : ∀ {l1 l2 : List ByteArray}, l1.Nodup → (∀ x ∈ l1, x ∈ l2) → l1.length ≤ l2.length
  | [], _, _, _ => Nat.zero_le _
  | x :: l1, l2, hn, hs => by
    obtain ⟨h1, h2⟩ := List.nodup_cons.1 hn
    obtain ⟨s, t, rfl⟩ := List.append_of_mem (hs x (by simp))
    have := len_le (l2 := s ++ t) h2 (fun y hy => by
      have := hs y (by simp [hy])
      simp only [List.mem_append, List.mem_cons] at this ⊢
      rcases this with h | rfl | h
      · exact .inl h
      · exact absurd hy h1
      · exact .inr h)
    simp only [List.length_append, List.length_cons] at this ⊢
    omega
/-- The range under way: what has come. -/
structure Rg (G : List Tr) (D : DataW Unit) (left : Lit → Bool) (C : List Tr) : Prop where
  sub : ∀ t ∈ C, ∃ g ∈ G, g.name = t.name ∧ g.value = t.value
  nodup : (C.map Tr.name).Nodup
  gone : ∀ t ∈ C, left (.string t.name.data.toList) = false
  all : ∀ g ∈ G, left (.string g.name.data.toList) = true ∨ ∃ t ∈ C, t.name = g.name
  left : ∀ kl, left kl = true → Maps.has D kl = true
theorem Rg.start {G : List Tr} {D : DataW Unit} (h : MapIs D G) : Rg G D (Maps.has D) [] := ⟨by simp, by simp, by simp, fun g hg => .inl (h.has hg), fun _ h => h⟩
theorem Rg.step {G : List Tr} {D : DataW Unit} {left : Lit → Bool} {C : List Tr} (r : Rg G D left C) (h : MapIs D G) {x c : ByteArray} (hl : left (.string x.data.toList) = true) (hc : ∀ zd, D.atKey (.string x.data.toList) zd = .lit (.string c.data.toList)) :
    Rg G D (fun z => left z && !z.sameKey (.string x.data.toList)) (C ++ [⟨x, c, false⟩]) := by
  have hne : ∀ t ∈ C, t.name ≠ x := fun t ht e => by have := r.gone t ht; rw [e, hl] at this; cases this
  refine ⟨?_, ?_, ?_, ?_, ?_⟩
  · intro t ht
    rcases List.mem_append.1 ht with ht | ht
    · exact r.sub t ht
    · rw [List.mem_singleton.1 ht]; exact h.at (r.left _ hl) hc
  · rw [List.map_append, List.nodup_append]
    refine ⟨r.nodup, by simp, ?_⟩
    intro a ha b hb e
    obtain ⟨t, ht, rfl⟩ := List.mem_map.1 ha
    simp at hb
    exact hne t ht (e.trans hb)
  · intro t ht
    rcases List.mem_append.1 ht with ht | ht
    · simp only [r.gone t ht, Bool.false_and]
    · rw [List.mem_singleton.1 ht]; simp [Lit.sameKey]
  · intro g hg
    by_cases e : g.name = x
    · exact .inr ⟨⟨x, c, false⟩, by simp, e.symm⟩
    · rcases r.all g hg with h1 | ⟨t, ht, h1⟩
      · left
        simp only [h1, Bool.true_and, Bool.not_eq_true']
        exact Maps.sameKey_ne fun e2 => e (ba_ext (Lit.string.inj e2))
      · exact .inr ⟨t, by simp [ht], h1⟩
  · intro kl hk
    simp only [Bool.and_eq_true] at hk
    exact r.left _ hk.1
theorem Rg.len {G : List Tr} {D : DataW Unit} {left : Lit → Bool} {C : List Tr} (r : Rg G D left C) : C.length ≤ G.length := by
  have := len_le (l2 := G.map Tr.name) r.nodup (fun n hn => by
    obtain ⟨t, ht, rfl⟩ := List.mem_map.1 hn
    obtain ⟨g, hg, e, _⟩ := r.sub t ht
    exact List.mem_map.2 ⟨g, hg, e⟩)
  simpa using this
theorem Rg.done {G : List Tr} {D : DataW Unit} {left : Lit → Bool} {C : List Tr} (r : Rg G D left C) (hG : (G.map Tr.name).Nodup) (h : ∀ kl, left kl = false) : C.length = G.length := by
  have := len_le (l2 := C.map Tr.name) hG (fun n hn => by
    obtain ⟨g, hg, rfl⟩ := List.mem_map.1 hn
    rcases r.all g hg with h1 | ⟨t, ht, e⟩
    · rw [h] at h1; cases h1
    · exact List.mem_map.2 ⟨t, ht, e⟩)
  have h2 := r.len
  simp at this
  omega
end Go.Proofs.Ytbehijhpichniaa
