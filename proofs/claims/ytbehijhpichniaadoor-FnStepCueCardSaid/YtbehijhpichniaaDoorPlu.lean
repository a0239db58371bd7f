/- A playlist's blocks behind an append, a change of the last segment, a change of the playlist's own cells. -/
import Derived.Test.YtbehijhpichniaaDoorSet
namespace Go.Proofs.YtbehijhpichniaaDoor
open Go.RowKit
theorem tag_ne {w : World} {a b : Nat} {cs cs' : Array Value} {t t' : TypeId} {fr fr' : Nat × Nat} (ha : w.heap[a]? = some (.cells cs t fr)) (hb : w.heap[b]? = some (.cells cs' t' fr')) (ht : t ≠ t') : a ≠ b := by
  intro e
  rw [e, hb] at ha
  injection ha with ha
  injection ha with _ h2 _
  exact ht h2.symm
def one : Nat := 4607182418800017408
theorem PlAt.below {B : Nat} {s : Pl} {w w' : World} (h : PlAt B s w) (hb : Below w.heap.size w w') : PlAt B s w' := by
  have k : ∀ {g : Nat} {o : Obj}, w.heap[g]? = some o → w'.heap[g]? = some o := fun hg => (hb.block _ (Array.getElem?_eq_some_iff.1 hg).1).trans hg
  exact ⟨k h.pl, k h.sb, fun j hj => k (h.seg j hj), fun x hx g c e => ⟨(h.sct x hx g c e).1, k (h.sct x hx g c e).2⟩, h.nodup, h.low, h.len⟩
theorem PlAt.only {B : Nat} {s : Pl} {w w' : World} (h : PlAt B s w) {M : Nat → Prop} (ho : Only M w w') (hB : B ≤ w.heap.size) (hM : ∀ i, M i → B ≤ i) : Below B w w' := ho.below hB fun g hg hm => by have := hM g hm; omega
/-- Behind an append. -/
theorem PlAt.app {B : Nat} {s : Pl} {w w' : World} {x : Sg} {cG : Array Value} (h : PlAt B s w) (hG : w.heap[x.g]? = some (.cells cG 65 (0, 0))) (hl : s.segs.length ≤ 10) (hx : B ≤ x.g) (hnew : ∀ y ∈ s.segs, y.g ≠ x.g) (hsc : ∀ g c, x.sc = some (g, c) → B ≤ g ∧ w.heap[g]? = some (.cells c.scte 120 (0, 0)))
    (hA : Ap w s.P s.SB x.g (plc one s.SB s.ifr (s.segs.length + 1) (s.segs.length + 1) s.ver) (slots (s.segs.map Sg.g ++ [x.g])) (x.cells s.segs.length) w') : PlAt B ⟨s.P, s.SB, one, s.ifr, s.ver, s.segs ++ [x]⟩ w' := by
  have hkeep : ∀ {g : Nat} {o : Obj}, w.heap[g]? = some o → g ≠ s.P → g ≠ s.SB → g ≠ x.g → w'.heap[g]? = some o := fun hg h1 h2 h3 => (hA.only.block _ (Array.getElem?_eq_some_iff.1 hg).1 (by rintro (e | e | e); exact h1 e; exact h2 e; exact h3 e)).trans hg
  refine ⟨?_, ?_, ?_, ?_, ?_, ?_, ?_⟩
  · have := hA.hp
    unfold Pl.cells
    rw [List.length_append]
    exact this
  · have := hA.hb
    rw [List.map_append]
    exact this
  · intro j hj
    rw [List.length_append] at hj
    by_cases hjl : j < s.segs.length
    · rw [List.getElem_append_left hjl]
      have hs := h.seg j hjl
      exact hkeep hs (tag_ne hs h.pl (by decide)) (tag_ne hs h.sb (by decide)) (hnew _ (List.getElem_mem hjl))
    · obtain rfl : j = s.segs.length := by simp at hj; omega
      rw [List.getElem_append_right (Nat.le_refl _)]
      simpa using hA.hg
  · intro y hy g c e
    rcases List.mem_append.1 hy with hy | hy
    · obtain ⟨h1, h2⟩ := h.sct y hy g c e
      exact ⟨h1, hkeep h2 (tag_ne h2 h.pl (by decide)) (tag_ne h2 h.sb (by decide)) (tag_ne h2 hG (by decide))⟩
    · rw [List.mem_singleton.1 hy] at e
      obtain ⟨h1, h2⟩ := hsc g c e
      exact ⟨h1, hkeep h2 (tag_ne h2 h.pl (by decide)) (tag_ne h2 h.sb (by decide)) (tag_ne h2 hG (by decide))⟩
  · rw [List.map_append, List.nodup_append]
    refine ⟨h.nodup, by simp, ?_⟩
    intro a ha b hb e
    obtain ⟨y, hy, rfl⟩ := List.mem_map.1 ha
    simp at hb
    exact hnew y hy (e.trans hb)
  · refine ⟨h.low.1, h.low.2.1, fun y hy => ?_⟩
    rcases List.mem_append.1 hy with hy | hy
    · exact h.low.2.2 y hy
    · rw [List.mem_singleton.1 hy]; exact hx
  · rw [List.length_append]; simp; omega
/-- Behind a change of the last segment. -/
theorem PlAt.last {B : Nat} {s : Pl} {w w' : World} {L : List Sg} {x x' : Sg} {ver : Nat} (h : PlAt B s w) (hs : s.segs = L ++ [x]) (hg : x'.g = x.g) (hsc : ∀ g c, x'.sc = some (g, c) → B ≤ g ∧ w.heap[g]? = some (.cells c.scte 120 (0, 0)))
    (hA : Ap w s.P s.SB x.g (plc s.tgt s.SB s.ifr s.segs.length s.segs.length ver) (slots (s.segs.map Sg.g)) (x'.cells L.length) w') : PlAt B ⟨s.P, s.SB, s.tgt, s.ifr, ver, L ++ [x']⟩ w' := by
  obtain ⟨P, SB, tgt, ifr, v0, segs⟩ := s
  dsimp only at hs hA ⊢
  subst hs
  have hG : w.heap[x.g]? = some (.cells (x.cells L.length) 65 (0, 0)) := by
    have := h.seg L.length (by simp)
    simpa using this
  have hkeep : ∀ {g : Nat} {o : Obj}, w.heap[g]? = some o → g ≠ P → g ≠ SB → g ≠ x.g → w'.heap[g]? = some o := fun hg h1 h2 h3 => (hA.only.block _ (Array.getElem?_eq_some_iff.1 hg).1 (by rintro (e | e | e); exact h1 e; exact h2 e; exact h3 e)).trans hg
  have hnd := h.nodup
  dsimp only at hnd
  rw [List.map_append, List.nodup_append] at hnd
  refine ⟨?_, ?_, ?_, ?_, ?_, ?_, ?_⟩
  · have := hA.hp
    unfold Pl.cells
    rw [List.length_append] at this ⊢
    exact this
  · have := hA.hb
    rw [List.map_append] at this ⊢
    rw [show [x'].map Sg.g = [x].map Sg.g by simp [hg]]
    exact this
  · intro j hj
    rw [List.length_append] at hj
    by_cases hjl : j < L.length
    · rw [List.getElem_append_left hjl]
      have hs := h.seg j (by simp; omega)
      dsimp only at hs
      rw [List.getElem_append_left hjl] at hs
      refine hkeep hs (tag_ne hs h.pl (by decide)) (tag_ne hs h.sb (by decide)) ?_
      exact hnd.2.2 _ (List.mem_map.2 ⟨_, List.getElem_mem hjl, rfl⟩) _ (by simp)
    · obtain rfl : j = L.length := by simp at hj; omega
      rw [List.getElem_append_right (Nat.le_refl _)]
      simp only [Nat.sub_self, List.getElem_cons_zero, hg]
      exact hA.hg
  · intro y hy g c e
    rcases List.mem_append.1 hy with hy | hy
    · obtain ⟨h1, h2⟩ := h.sct y (by simp [hy]) g c e
      exact ⟨h1, hkeep h2 (tag_ne h2 h.pl (by decide)) (tag_ne h2 h.sb (by decide)) (tag_ne h2 hG (by decide))⟩
    · rw [List.mem_singleton.1 hy] at e
      obtain ⟨h1, h2⟩ := hsc g c e
      exact ⟨h1, hkeep h2 (tag_ne h2 h.pl (by decide)) (tag_ne h2 h.sb (by decide)) (tag_ne h2 hG (by decide))⟩
  · rw [List.map_append, show [x'].map Sg.g = [x].map Sg.g by simp [hg], ← List.map_append]
    exact h.nodup
  · refine ⟨h.low.1, h.low.2.1, fun y hy => ?_⟩
    rcases List.mem_append.1 hy with hy | hy
    · exact h.low.2.2 y (by simp [hy])
    · rw [List.mem_singleton.1 hy, hg]; exact h.low.2.2 x (by simp)
  · have := h.len
    simp only [List.length_append, List.length_cons, List.length_nil] at this ⊢
    omega
/-- Behind a change of the playlist's own cells. -/
theorem PlAt.own {B : Nat} {s : Pl} {w w' : World} {ifr : Bool} {ver : Nat} (h : PlAt B s w) (hp : w'.heap[s.P]? = some (.cells (plc s.tgt s.SB ifr s.segs.length s.segs.length ver) 74 (0, 0))) (ho : Only (fun i => i = s.P) w w') : PlAt B ⟨s.P, s.SB, s.tgt, ifr, ver, s.segs⟩ w' := by
  have hkeep : ∀ {g : Nat} {o : Obj}, w.heap[g]? = some o → g ≠ s.P → w'.heap[g]? = some o := fun hg h1 => (ho.block _ (Array.getElem?_eq_some_iff.1 hg).1 h1).trans hg
  exact ⟨hp, hkeep h.sb (tag_ne h.sb h.pl (by decide)), fun j hj => hkeep (h.seg j hj) (tag_ne (h.seg j hj) h.pl (by decide)), fun x hx g c e => ⟨(h.sct x hx g c e).1, hkeep (h.sct x hx g c e).2 (tag_ne (h.sct x hx g c e).2 h.pl (by decide))⟩, h.nodup, h.low, h.len⟩
end Go.Proofs.YtbehijhpichniaaDoor
