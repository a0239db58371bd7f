/- Slices that the call itself makes: what they hold; an append of one element (its one-element slice is laid first). Conditions: the elements' number is below a million. -/
import Derived.Test.YtkddkmiomhadaaaDoorUri
import Derived.Maps.AppendAt
import Derived.Deep.Draws
namespace Go.Proofs.YtkddkmiomhadaaaDoor
open Go.RowKit
/-- An element's cells, one behind the other. -/
def flat {α : Type} (f : α → List Value) (L : List α) : List Value := (L.map f).flatten
theorem flat_length {α : Type} {f : α → List Value} {k : Nat} (hf : ∀ x, (f x).length = k) (L : List α) : (flat f L).length = L.length * k := by
  unfold flat
  induction L with
  | nil => simp
  | cons x L ih => simp only [List.map_cons, List.flatten_cons, List.length_append, hf, ih, List.length_cons]; rw [Nat.add_mul]; omega
theorem flat_snoc {α : Type} (f : α → List Value) (L : List α) (x : α) : flat f (L ++ [x]) = flat f L ++ f x := by simp [flat]
theorem flat_one {α : Type} (f : α → Value) (L : List α) : flat (fun x => [f x]) L = L.map f := by
  unfold flat
  induction L with
  | nil => rfl
  | cons x L ih => simp [ih]
/-- A slice of the call's own, from block B on, that holds these elements. -/
def Own {α : Type} (f : α → List Value) (e : TypeId) (k : Nat) (w : World) (B : Nat) (v : Value) (L : List α) : Prop := w.ownsRow B e k v L.length (flat f L)
section
variable {α : Type} {f : α → List Value} {e : TypeId} {k : Nat} {w w' : World} {B : Nat} {v : Value} {L : List α}
theorem Own.nil (f : α → List Value) (e : TypeId) (k : Nat) (w : World) (B : Nat) : Own f e k w B (.slice none 0 0) ([] : List α) := ⟨by simp [flat], .inl ⟨rfl, rfl⟩⟩
theorem Own.below (h : Own f e k w B v L) (hb : Below w.heap.size w w') : Own f e k w' B v L :=
  h.kept (row := none) ⟨hb.os, hb.tape, hb.output, hb.size, fun i hi _ => hb.block i hi⟩ (by cases v.ownBlock <;> simp)
theorem Own.block_lt (h : Own f e k w B v L) : ∀ g, v.ownBlock = some g → B ≤ g ∧ g < w.heap.size := by
  intro g hg
  rcases h.2 with ⟨rfl, _⟩ | ⟨g', cap, cur, rfl, hb, hh, _⟩
  · simp [Value.ownBlock] at hg
  · have : g' = g := by simpa [Value.ownBlock] using hg
    subst this
    exact ⟨hb, (Array.getElem?_eq_some_iff.1 hh).1⟩
theorem Own.only {M : Nat → Prop} (h : Own f e k w B v L) (ho : Only M w w') (hm : ∀ g, v.ownBlock = some g → ¬ M g) : Own f e k w' B v L := by
  refine ⟨h.1, ?_⟩
  rcases h.2 with h2 | ⟨g, cap, cur, rfl, hb, hh, r⟩
  · exact .inl h2
  · exact .inr ⟨g, cap, cur, rfl, hb, (ho.block g (Array.getElem?_eq_some_iff.1 hh).1 (hm g rfl)).trans hh, r⟩
/-- The slice at the head of a new block. -/
theorem Own.fresh {g n : Nat} {cs : List Value} (hf : ∀ x, (f x).length = k) (hh : w.heap[g]? = some (.cells cs.toArray e (0, 0))) (hB : B ≤ g) (hL : cs = flat f L) (hn : n = L.length) (hm : n ≤ maxLen) : Own f e k w B (.slice (some ⟨g, 0, none⟩) n n) L := by
  subst hn hL
  refine ⟨flat_length hf L, .inr ⟨g, L.length, _, rfl, hB, hh, Nat.le_refl _, hm, by simp [flat_length hf], ?_⟩⟩
  rw [List.take_of_length_le (by simp [flat_length hf])]
theorem Own.form (h : Own f e k w B v L) (hL : L ≠ []) : ∃ g cap cur, v = .slice (some ⟨g, 0, none⟩) L.length cap ∧ B ≤ g ∧ w.heap[g]? = some (.cells cur e (0, 0)) ∧ L.length ≤ cap ∧ cur.toList.take (L.length * k) = flat f L := by
  rcases h.2 with ⟨_, h0⟩ | ⟨g, cap, cur, hv, hb, hh, h1, h2, h3, h4⟩
  · exact absurd (List.eq_nil_of_length_eq_zero h0) hL
  · exact ⟨g, cap, cur, hv, hb, hh, h1, h4⟩
end
section
variable {P : Program} {ops : Array Oper} {rest : List Oper} {a : Act} {w : World} {Q : Exit → Act → World → Prop}
/-- 'out = append(out, x)', x a value of k cells: the new element is laid in a block of its own; the slice owns it. -/
theorem arm_push {α : Type} {f : α → List Value} {e : TypeId} {k : Nat} {B : Nat} {v : Value} {L : List α} (t : TypeId) (ht : P.underlying t = some (.slice e)) (i : TypeInfo) (z : Value) (bytes : Nat) (hi : P.info? e = some i) (hz : i.zero = some z) (hsize : i.size = k)
    (hby : i.bytes = bytes) (hzs : z.cells.size = k) (hk : 0 < k) (hf : ∀ x, (f x).length = k) (h1 : ∀ x, ∀ u ∈ f x, u.oneCell' = true)
    {d1 : Tmp} {d2 : Option Tmp} {ty1 ty2 : TypeId} {pos1 pos2 : String} {after1 after2 : Array Edge} {s x : Operand} (y : α) (hrun : (execOp a.eval { dst := some d1, op := Op.buildSlice t 1 #[(0, x)], type := ty1, pos := pos1, after := after1, guard := none }).run P w = .ok (.value (.slice (some ⟨w.heap.size, 0, none⟩) 1 1)) (w.alloc (.cells (f y).toArray e)))
    (hs : a.eval s = v) (hne : s ≠ .tmp d1) (hd : d1 < a.tmps.size) (hown : Own f e k w B v L) (hB : B ≤ w.heap.size) (hlen : (L.length + 1) * bytes ≤ 140737488355328) (hlen2 : L.length ≤ 1000000000)
    (hK : ∀ v' w', Own f e k w' B v' (L ++ [y]) → Only (fun g => v.ownBlock = some g) w w' → (v'.ownBlock = v.ownBlock ∨ v'.ownBlock = some (w.heap.size + 1)) → wpList P ops Q rest ((a.put (some d1) (.slice (some ⟨w.heap.size, 0, none⟩) 1 1)).put d2 v') w') :
    wpList P ops Q ({ dst := some d1, op := Op.buildSlice t 1 #[(0, x)], type := ty1, pos := pos1, after := after1, guard := none } ::
      { dst := d2, op := Op.call { callee := Callee.builtin Builtin.append, args := #[s, .tmp d1], argTypes := #[t, t] }, type := ty2, pos := pos2, after := after2, guard := none } :: rest) a w := by
  refine wpList_plain rfl fun K hK' => ?_
  unfold Oper.wp
  rw [hrun]
  refine hK' _ _ ?_
  have hsx : (a.put (some d1) (.slice (some ⟨w.heap.size, 0, none⟩) 1 1)).eval s = v := by
    rw [Act.eval_put (by intro d hd' e; cases hd'; exact hne e)]; exact hs
  have hxx : (a.put (some d1) (.slice (some ⟨w.heap.size, 0, none⟩) 1 1)).eval (.tmp d1) = .slice (some ⟨w.heap.size, 0, none⟩) 1 1 := by
    simp [Act.eval, Act.put, hd]
  have hbel : Below w.heap.size w (w.alloc (.cells (f y).toArray e)) := (Below.refl _ _).alloc (Nat.le_refl _) _
  have hown' : (w.alloc (.cells (f y).toArray e)).ownsRow B e k v L.length (flat f L) := Own.below hown hbel
  refine wpList_append_own_at (P := P) (w := w.alloc (.cells (f y).toArray e)) rfl s (.tmp d1) t rfl B e i z k bytes ht hi hz hsize hby hzs hk v L.length (flat f L) hsx hown' ⟨w.heap.size, 0, none⟩ 1 1 (f y) hxx (by rw [hf]; omega) ?_ (h1 y) (by unfold maxLen; omega) hlen (by simp; omega) ?_
  · intro j u hu
    have : (⟨w.heap.size, 0, none⟩ : Addr).add j = ⟨w.heap.size, j, none⟩ := by unfold Addr.add; split <;> simp_all
    rw [this, World.cell?_alloc_new]
    simpa using hu
  · intro v' w' h2 h3 _ h5
    refine hK v' w' ?_ ?_ ?_
    · unfold Own
      rw [flat_snoc, List.length_append]
      exact h2
    · refine ⟨h3.os.trans rfl, h3.tape.trans rfl, h3.output.trans rfl, Nat.le_trans hbel.size h3.size, fun g hg hm => ?_⟩
      rw [h3.block g (Nat.lt_of_lt_of_le hg hbel.size) (fun e => hm e.symm)]
      exact hbel.block g hg
    · rcases h5 with h5 | h5
      · exact .inl h5
      · right; rw [h5]; simp
end
end Go.Proofs.YtkddkmiomhadaaaDoor
