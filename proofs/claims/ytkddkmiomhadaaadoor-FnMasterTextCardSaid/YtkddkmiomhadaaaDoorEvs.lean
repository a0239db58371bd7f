/- Slices of structs of the call's own, over frames that are not laid open: an element read; a value put into a box. -/
import Derived.Test.YtkddkmiomhadaaaDoorEvg
namespace Go.Proofs.YtkddkmiomhadaaaDoor
open Go.RowKit
section
variable {α : Type} {f : α → List Value} {k : Nat}
theorem flat_get (hf : ∀ x, (f x).length = k) (hk : 0 < k) : ∀ (L : List α) (t : Nat), (flat f L)[t]? = (L[t / k]?).bind fun x => (f x)[t % k]?
  | [], t => by simp [flat]
  | x :: L, t => by
    have e : flat f (x :: L) = f x ++ flat f L := rfl
    rw [e]
    by_cases h : t < k
    · rw [List.getElem?_append_left (by rw [hf]; exact h), Nat.div_eq_of_lt h, Nat.mod_eq_of_lt h]; rfl
    · obtain ⟨s, rfl⟩ : ∃ s, t = k + s := ⟨t - k, by omega⟩
      rw [List.getElem?_append_right (by rw [hf]; omega), hf, Nat.add_sub_cancel_left, flat_get hf hk L s, Nat.add_div_left _ hk, Nat.add_mod_left]
      rfl
end
/-- An element's cells. -/
theorem Own.cells_at {α : Type} {f : α → List Value} {e : TypeId} {k : Nat} {w : World} {B g cap : Nat} {L : List α} (hf : ∀ x, (f x).length = k) (hk : 0 < k) (h : Own f e k w B (.slice (some ⟨g, 0, none⟩) L.length cap) L) {i j : Nat} (hi : i < L.length) (hj : j < k) : w.cell? ⟨g, i * k + j, none⟩ = (f (L[i]'hi))[j]? := by
  have hne : L ≠ [] := by intro e; rw [e] at hi; simp at hi
  obtain ⟨g', cap', cur, hv, _, hh, _, ht⟩ := h.form hne
  injection hv with h1 h2 h3
  injection h1 with h1
  injection h1 with h1 _ _
  subst h1
  have hlt : i * k + j < L.length * k := by
    have : (i + 1) * k ≤ L.length * k := Nat.mul_le_mul_right k hi
    rw [Nat.add_mul, Nat.one_mul] at this
    omega
  have h4 : (cur.toList.take (L.length * k))[i * k + j]? = cur.toList[i * k + j]? := List.getElem?_take_of_lt hlt
  have h5 := flat_get hf hk L (i * k + j)
  rw [← ht, h4] at h5
  have h6 : (i * k + j) / k = i := by rw [Nat.mul_comm, Nat.mul_add_div hk, Nat.div_eq_of_lt hj]; rfl
  have h7 : (i * k + j) % k = j := by rw [Nat.mul_comm, Nat.mul_add_mod, Nat.mod_eq_of_lt hj]
  rw [h6, h7, List.getElem?_eq_getElem hi] at h5
  simp only [World.cell?, hh]
  simpa using h5
theorem Own.shape {α : Type} {f : α → List Value} {e : TypeId} {k : Nat} {w : World} {B : Nat} {v : Value} {L : List α} (h : Own f e k w B v L) : ∃ (A : Option Addr) (cap : Nat), v = .slice A L.length cap ∧ (L ≠ [] → ∃ g, A = some ⟨g, 0, none⟩) := by
  rcases h.2 with ⟨rfl, h0⟩ | ⟨g, cap, cur, rfl, _⟩
  · refine ⟨none, 0, by rw [h0], fun hne => absurd (List.eq_nil_of_length_eq_zero h0) hne⟩
  · exact ⟨_, cap, rfl, fun _ => ⟨g, rfl⟩⟩
theorem run_load_at {P : Program} {w : World} (t : TypeId) (hagg : ∀ w, (isAgg t).run P w = .ok true w) {k : Nat} (hk : ∀ w, (sizeOf t).run P w = .ok k w) {g o : Nat} {cs : List Value} (hc : ∀ j v, cs[j]? = some v → w.cell? ⟨g, o + j, none⟩ = some v) (hsz : cs.length = k) :
    (loadVar t ⟨g, o, none⟩).run P w = .ok (.agg cs.toArray) w := by
  have := run_loadCells_list (P := P) (w := w) ⟨g, o, none⟩ cs (fun j v hj => by
    have : (⟨g, o, none⟩ : Addr).add j = ⟨g, o + j, none⟩ := by unfold Addr.add; split <;> simp_all
    rw [this]
    exact hc j v hj)
  simp only [hsz] at this
  simp [loadVar, hagg, hk, this]
section
variable {N : Nat} {l : List (Nat × Value)} {a : Act} {w : World} {ops : Array Oper} {rest : List Oper} {Q : Exit → Act → World → Prop} {d d1 d2 : Nat} {ty ty1 ty2 : TypeId} {ps ps1 ps2 : String} {af af1 af2 : Array Edge}
/-- 's[i]', a struct: its place, the whole of it. -/
theorem ev_elem {α : Type} {f : α → List Value} {T E k s i B n : Nat} {sv : Value} {L : List α} {x : α} (hA : Ag E k) (hu : Tryd.prog.underlying T = some (.slice E)) (hf : ∀ x, (f x).length = k) (hk : 0 < k) (h : Ev N l a) (ho : Own f E k w B sv L) (hx : L[n]? = some x) (hs : a.eval (.tmp s) = sv) (hi : a.eval (.tmp i) = .int .i64 n) (h1 : d1 < N) (h2 : d2 < N)
    (hK : ∀ a', Ev N ((d2, .agg (f x).toArray) :: l) a' → wpList Tryd.prog ops Q rest a' w) (hfr : (l.all fun p => p.1 != d1) = true) (hne : d1 ≠ d2) :
    wpList Tryd.prog ops Q (⟨some d1, .indexAddr T (.tmp s) (.tmp i), ty1, ps1, af1, none⟩ :: ⟨some d2, .load E (.tmp d1), ty2, ps2, af2, none⟩ :: rest) a w := by
  have hlt : n < L.length := (List.getElem?_eq_some_iff.1 hx).1
  have hne0 : L ≠ [] := by intro e; rw [e] at hlt; simp at hlt
  obtain ⟨A, cap, hsv, hA0⟩ := ho.shape
  obtain ⟨g, rfl⟩ := hA0 hne0
  rw [hsv] at ho hs
  have hltI : (n : Int) < L.length := by omega
  have hun := run_underlying (P := Tryd.prog) hu
  refine ev_run (v := .pointer (some ⟨g, n * k, none⟩)) (w' := w) h rfl rfl h1 ?_ ?_
  · simp only [execOp, hs, hi]
    refine run_andValue ?_
    have hz := hA.size
    have hadd : (⟨g, 0, none⟩ : Addr).add (n * k) = ⟨g, n * k, none⟩ := by unfold Addr.add; split <;> simp_all
    simp [Instr.indexAt, asIntOf, hun, hlt, hz, hadd]
  · intro a' h'
    refine ev_run (v := .agg (f x).toArray) (w' := w) h' rfl rfl h2 ?_ ?_
    · have hr := run_load_at (P := Tryd.prog) (w := w) E hA.agg hA.size (g := g) (o := n * k) (cs := f x) (fun j v hj => by
        have hjk : j < k := by
          have := (List.getElem?_eq_some_iff.1 hj).1
          rw [hf] at this
          exact this
        rw [ho.cells_at hf hk hlt hjk]
        rw [List.getElem?_eq_getElem hlt] at hx
        rw [Option.some.inj hx]
        exact hj) (hf _)
      have e1 := h'.get d1 look_eq
      simp only [execOp, e1, Instr.loadAt, Instr.sureAddr]
      simp [hr, Result.andThen]
    · intro a2 h2'
      refine hK a2 (h2'.weaken fun t v ht => ?_)
      by_cases e : t = d2
      · subst e; rw [look_eq] at ht ⊢; exact ht
      · rw [look_ne e] at ht ⊢
        rw [List.all_eq_true] at hfr
        have := hfr _ (look_mem ht)
        rw [look_ne (by simpa using this)]
        exact ht
/-- A value of cells put into a box. -/
theorem ev_box {T t : Nat} {cs : Array Value} (h : Ev N l a) (hx : a.eval (.tmp t) = .agg cs) (hB : ∀ w : World, (Instr.box T (.agg cs)).run Tryd.prog w = .ok (pt w.heap.size 0) (w.alloc (.cells cs T))) (hd : d < N)
    (hK : ∀ a' w', Ev N ((d, pt w.heap.size 0) :: l) a' → w'.heap[w.heap.size]? = some (.cells cs T (0, 0)) → Below w.heap.size w w' → w'.heap.size = w.heap.size + 1 → wpList Tryd.prog ops Q rest a' w') :
    wpList Tryd.prog ops Q (⟨some d, .box T (.tmp t), ty, ps, af, none⟩ :: rest) a w := by
  refine ev_run (v := pt w.heap.size 0) (w' := w.alloc (.cells cs T)) h rfl rfl hd ?_ ?_
  · simp only [execOp, hx]
    exact run_andValue'' (hB w)
  · intro a' h'
    exact hK a' _ h' (heap_alloc_new _ _) ((Below.refl _ _).alloc (Nat.le_refl _) _) (by simp)
end
end Go.Proofs.YtkddkmiomhadaaaDoor
