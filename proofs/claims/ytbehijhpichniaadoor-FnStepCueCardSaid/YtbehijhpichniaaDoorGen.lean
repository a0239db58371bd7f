/- Generic lemmas: own slices, blocks, arms. -/
import Derived.Test.YtbehijhpichniaaDoorOgT
import Derived.Maps.AppendAt
import Derived.Deep.Draws
import Derived.Deep.DeepCutAuto
import Derived.Deep.QuietTactic
import Derived.BigQuiet
import Derived.IntWalk
import Derived.Lib.Hide
namespace Go.Proofs.YtbehijhpichniaaDoor
open Go.RowKit
/-- An element's cells, one behind the other. -/
def flat {α : Type} (f : α → List Value) (L : List α) : List Value := (L.map f).flatten
theorem flat_length {α : Type} {f : α → List Value} {k : Nat} (hf : ∀ x, (f x).length = k) (L : List α) : (flat f L).length = L.length * k := by
  unfold flat
  induction L with
  | nil => simp
  | cons x L ih => simp only [List.map_cons, List.flatten_cons, List.length_append, hf, ih, List.length_cons]; rw [Nat.add_mul]; omega
theorem flat_snoc {α : Type} (f : α → List Value) (L : List α) (x : α) : flat f (L ++ [x]) = flat f L ++ f x := by simp [flat]
theorem flat_one {α : Type} (f : α → Value) (L : List α) : flat (fun x => [f x]) L = L.map f := by
  unfold flat
  induction L with
  | nil => rfl
  | cons x L ih => simp [ih]
/-- A slice of the call's own, from block B on, that holds these elements. -/
def Own {α : Type} (f : α → List Value) (e : TypeId) (k : Nat) (w : World) (B : Nat) (v : Value) (L : List α) : Prop := w.ownsRow B e k v L.length (flat f L)
section
variable {α : Type} {f : α → List Value} {e : TypeId} {k : Nat} {w w' : World} {B : Nat} {v : Value} {L : List α}
theorem Own.nil (f : α → List Value) (e : TypeId) (k : Nat) (w : World) (B : Nat) : Own f e k w B (.slice none 0 0) ([] : List α) := ⟨by simp [flat], .inl ⟨rfl, rfl⟩⟩
theorem Own.below (h : Own f e k w B v L) (hb : Below w.heap.size w w') : Own f e k w' B v L :=
  h.kept (row := none) ⟨hb.os, hb.tape, hb.output, hb.size, fun i hi _ => hb.block i hi⟩ (by cases v.ownBlock <;> simp)
theorem Own.block_lt (h : Own f e k w B v L) : ∀ g, v.ownBlock = some g → B ≤ g ∧ g < w.heap.size := by
  intro g hg
  rcases h.2 with ⟨rfl, _⟩ | ⟨g', cap, cur, rfl, hb, hh, _⟩
  · simp [Value.ownBlock] at hg
  · have : g' = g := by simpa [Value.ownBlock] using hg
    subst this
    exact ⟨hb, (Array.getElem?_eq_some_iff.1 hh).1⟩
theorem Own.only {M : Nat → Prop} (h : Own f e k w B v L) (ho : Only M w w') (hm : ∀ g, v.ownBlock = some g → ¬ M g) : Own f e k w' B v L := by
  refine ⟨h.1, ?_⟩
  rcases h.2 with h2 | ⟨g, cap, cur, rfl, hb, hh, r⟩
  · exact .inl h2
  · exact .inr ⟨g, cap, cur, rfl, hb, (ho.block g (Array.getElem?_eq_some_iff.1 hh).1 (hm g rfl)).trans hh, r⟩
/-- The slice at the head of a new block. -/
theorem Own.fresh {g n : Nat} {cs : List Value} (hf : ∀ x, (f x).length = k) (hh : w.heap[g]? = some (.cells cs.toArray e (0, 0))) (hB : B ≤ g) (hL : cs = flat f L) (hn : n = L.length) (hm : n ≤ maxLen) : Own f e k w B (.slice (some ⟨g, 0, none⟩) n n) L := by
  subst hn hL
  refine ⟨flat_length hf L, .inr ⟨g, L.length, _, rfl, hB, hh, Nat.le_refl _, hm, by simp [flat_length hf], ?_⟩⟩
  rw [List.take_of_length_le (by simp [flat_length hf])]
theorem Own.form (h : Own f e k w B v L) (hL : L ≠ []) : ∃ g cap cur, v = .slice (some ⟨g, 0, none⟩) L.length cap ∧ B ≤ g ∧ w.heap[g]? = some (.cells cur e (0, 0)) ∧ L.length ≤ cap ∧ cur.toList.take (L.length * k) = flat f L := by
  rcases h.2 with ⟨_, h0⟩ | ⟨g, cap, cur, hv, hb, hh, h1, h2, h3, h4⟩
  · exact absurd (List.eq_nil_of_length_eq_zero h0) hL
  · exact ⟨g, cap, cur, hv, hb, hh, h1, h4⟩
end
section
variable {P : Program} {ops : Array Oper} {rest : List Oper} {a : Act} {w : World} {Q : Exit → Act → World → Prop}
/-- 'out = append(out, x)', x a value of k cells: the new element is laid in a block of its own; the slice owns it. -/
theorem arm_push {α : Type} {f : α → List Value} {e : TypeId} {k : Nat} {B : Nat} {v : Value} {L : List α} (t : TypeId) (ht : P.underlying t = some (.slice e)) (i : TypeInfo) (z : Value) (bytes : Nat) (hi : P.info? e = some i) (hz : i.zero = some z) (hsize : i.size = k)
    (hby : i.bytes = bytes) (hzs : z.cells.size = k) (hk : 0 < k) (hf : ∀ x, (f x).length = k) (h1 : ∀ x, ∀ u ∈ f x, u.oneCell' = true)
    {d1 : Tmp} {d2 : Option Tmp} {ty1 ty2 : TypeId} {pos1 pos2 : String} {after1 after2 : Array Edge} {s x : Operand} (y : α) (hrun : (execOp a.eval { dst := some d1, op := Op.buildSlice t 1 #[(0, x)], type := ty1, pos := pos1, after := after1, guard := none }).run P w = .ok (.value (.slice (some ⟨w.heap.size, 0, none⟩) 1 1)) (w.alloc (.cells (f y).toArray e)))
    (hs : a.eval s = v) (hne : s ≠ .tmp d1) (hd : d1 < a.tmps.size) (hown : Own f e k w B v L) (hB : B ≤ w.heap.size) (hlen : (L.length + 1) * bytes ≤ 140737488355328) (hlen2 : L.length ≤ 1000000000)
    (hK : ∀ v' w', Own f e k w' B v' (L ++ [y]) → Only (fun g => v.ownBlock = some g) w w' → (v'.ownBlock = v.ownBlock ∨ v'.ownBlock = some (w.heap.size + 1)) → wpList P ops Q rest ((a.put (some d1) (.slice (some ⟨w.heap.size, 0, none⟩) 1 1)).put d2 v') w') :
    wpList P ops Q ({ dst := some d1, op := Op.buildSlice t 1 #[(0, x)], type := ty1, pos := pos1, after := after1, guard := none } ::
      { dst := d2, op := Op.call { callee := Callee.builtin Builtin.append, args := #[s, .tmp d1], argTypes := #[t, t] }, type := ty2, pos := pos2, after := after2, guard := none } :: rest) a w := by
  refine wpList_plain rfl fun K hK' => ?_
  unfold Oper.wp
  rw [hrun]
  refine hK' _ _ ?_
  have hsx : (a.put (some d1) (.slice (some ⟨w.heap.size, 0, none⟩) 1 1)).eval s = v := by
    rw [Act.eval_put (by intro d hd' e; cases hd'; exact hne e)]; exact hs
  have hxx : (a.put (some d1) (.slice (some ⟨w.heap.size, 0, none⟩) 1 1)).eval (.tmp d1) = .slice (some ⟨w.heap.size, 0, none⟩) 1 1 := by
    simp [Act.eval, Act.put, hd]
  have hbel : Below w.heap.size w (w.alloc (.cells (f y).toArray e)) := (Below.refl _ _).alloc (Nat.le_refl _) _
  have hown' : (w.alloc (.cells (f y).toArray e)).ownsRow B e k v L.length (flat f L) := Own.below hown hbel
  refine wpList_append_own_at (P := P) (w := w.alloc (.cells (f y).toArray e)) rfl s (.tmp d1) t rfl B e i z k bytes ht hi hz hsize hby hzs hk v L.length (flat f L) hsx hown' ⟨w.heap.size, 0, none⟩ 1 1 (f y) hxx (by rw [hf]; omega) ?_ (h1 y) (by unfold maxLen; omega) hlen (by simp; omega) ?_
  · intro j u hu
    have : (⟨w.heap.size, 0, none⟩ : Addr).add j = ⟨w.heap.size, j, none⟩ := by unfold Addr.add; split <;> simp_all
    rw [this, World.cell?_alloc_new]
    simpa using hu
  · intro v' w' h2 h3 _ h5
    refine hK v' w' ?_ ?_ ?_
    · unfold Own
      rw [flat_snoc, List.length_append]
      exact h2
    · refine ⟨h3.os.trans rfl, h3.tape.trans rfl, h3.output.trans rfl, Nat.le_trans hbel.size h3.size, fun g hg hm => ?_⟩
      rw [h3.block g (Nat.lt_of_lt_of_le hg hbel.size) (fun e => hm e.symm)]
      exact hbel.block g hg
    · rcases h5 with h5 | h5
      · exact .inl h5
      · right; rw [h5]; simp
end
theorem cell_of_heap {w : World} {g i : Nat} {cs : Array Value} {t : TypeId} {fr : Nat × Nat} {v : Value} (h : w.heap[g]? = some (.cells cs t fr)) (hv : cs[i]? = some v) : w.cell? ⟨g, i, none⟩ = some v := by simp [World.cell?, h, hv]
theorem wraps_u32 (n : Int) (h₀ : 0 ≤ n) (h₁ : n < 2 ^ 32) : IntKind.u32.wrap n = n := by rw [IntKind.wrap_u32]; omega
section
variable {α β : Type} {f : α → List Value} {f' : β → List Value} {e e' : TypeId} {k k' : Nat} {w w' : World} {B B' : Nat} {v v' : Value} {L : List α} {L' : List β}
theorem Own.at_heap (h : Own f e k w B v L) (hb : ∀ g, v.ownBlock = some g → w'.heap[g]? = w.heap[g]?) : Own f e k w' B v L := by
  refine ⟨h.1, ?_⟩
  rcases h.2 with h2 | ⟨g, cap, cur, rfl, hB, hh, r⟩
  · exact .inl h2
  · exact .inr ⟨g, cap, cur, rfl, hB, (hb g rfl).trans hh, r⟩
theorem Own.elem (h : Own f e k w B v L) : ∀ g, v.ownBlock = some g → ∃ cur, w.heap[g]? = some (.cells cur e (0, 0)) := by
  intro g hg
  rcases h.2 with ⟨rfl, _⟩ | ⟨g', cap, cur, rfl, hb, hh, _⟩
  · simp [Value.ownBlock] at hg
  · have : g' = g := by simpa [Value.ownBlock] using hg
    subst this
    exact ⟨cur, hh⟩
/-- Rows of different element types do not share a block. -/
theorem Own.ne_ (h : Own f e k w B v L) (h' : Own f' e' k' w B' v' L') (he : e ≠ e') : ∀ g, v.ownBlock = some g → ¬ v'.ownBlock = some g := by
  intro g hg hg'
  obtain ⟨c1, h1⟩ := h.elem g hg
  obtain ⟨c2, h2⟩ := h'.elem g hg'
  rw [h1] at h2
  injection h2 with h2
  injection h2 with _ h2
  exact he h2
theorem Own.ne_blk (h : Own f e k w B v L) {g : Nat} {cs : Array Value} {t : TypeId} (hg : w.heap[g]? = some (.cells cs t (0, 0))) (he : e ≠ t) : ¬ v.ownBlock = some g := by
  intro hv
  obtain ⟨c1, h1⟩ := h.elem g hv
  rw [hg] at h1
  injection h1 with h1
  injection h1 with _ h1
  exact he h1.symm
end
theorem Own.slice {α : Type} {f : α → List Value} {e : TypeId} {k : Nat} {w : World} {B : Nat} {v : Value} {L : List α} (h : Own f e k w B v L) : ∃ p l c, v = .slice p l c := by
  rcases h.2 with ⟨rfl, _⟩ | ⟨g', cap, cur, rfl, _⟩ <;> exact ⟨_, _, _, rfl⟩
theorem Only.of_setCell (w : World) (p : Addr) (v : Value) : Only (fun g => g = p.block) w (w.setCell p v) :=
  ⟨rfl, rfl, rfl, by simp [World.setCell], fun g _ hg => Below.heap_setCell _ _ _ _ hg⟩
theorem heap_setCell_same {w : World} {g i : Nat} {cs : Array Value} {t : TypeId} {fr : Nat × Nat} (h : w.heap[g]? = some (.cells cs t fr)) (v : Value) : (w.setCell ⟨g, i, none⟩ v).heap[g]? = some (.cells (cs.setIfInBounds i v) t fr) := by
  simp [World.setCell, Array.getElem?_modify, h]
section
variable {P : Program} {ops : Array Oper} {a : Act} {w : World} {E : Nat → Nat → Prop} {Φ : Nat → Value → World → Prop} {i : Nat} {Q : Exit → Act → World → Prop}
/-- An append of one element, laid in a block, inside a region that draws. -/
theorem og_append {α : Type} {f : α → List Value} {e : TypeId} {k : Nat} {B : Nat} {v : Value} {L : List α} {t : TypeId} (ht : P.underlying t = some (.slice e)) {inf : TypeInfo} {z : Value} {bytes : Nat} (hi : P.info? e = some inf) (hz : inf.zero = some z) (hsize : inf.size = k)
    (hby : inf.bytes = bytes) (hzs : z.cells.size = k) (hk : 0 < k) (hf : ∀ x, (f x).length = k) (h1 : ∀ x, ∀ u ∈ f x, u.oneCell' = true)
    {dst : Option Tmp} {ty : TypeId} {pos : String} {after : Array Edge} {guard : Option (Nat × Bool)} {s x : Operand} (y : α) {g : Nat} (hs : a.eval s = v) (hx : a.eval x = .slice (some ⟨g, 0, none⟩) 1 1) (hg : w.heap[g]? = some (.cells (f y).toArray e (0, 0)))
    (hown : Own f e k w B v L) (hB : B ≤ w.heap.size) (hlen : (L.length + 1) * bytes ≤ 140737488355328) (hlen2 : L.length ≤ 1000000000) (hE : ∀ g, v.ownBlock = some g → E i g)
    (hΦ : ∀ v' w', Own f e k w' B v' (L ++ [y]) → Only (fun g => v.ownBlock = some g) w w' → (v'.ownBlock = v.ownBlock ∨ v'.ownBlock = some w.heap.size) → Φ i v' w') :
    ({ dst := dst, op := Op.call { callee := Callee.builtin Builtin.append, args := #[s, x], argTypes := #[t, t] }, type := ty, pos := pos, after := after, guard := guard } : Oper).wp P a w
      (OgPost E Φ i { dst := dst, op := Op.call { callee := Callee.builtin Builtin.append, args := #[s, x], argTypes := #[t, t] }, type := ty, pos := pos, after := after, guard := guard } a w) Q := by
  obtain ⟨v', w', hr, h2, h3, h4, h5⟩ := run_append_own_at (P := P) w B t ty e inf z k bytes ht hi hz hsize hby hzs hk v L.length (flat f L) hown ⟨g, 0, none⟩ 1 1 (f y) (by rw [hf]; omega)
    (by
      intro j u hu
      have : (⟨g, 0, none⟩ : Addr).add j = ⟨g, j, none⟩ := by unfold Addr.add; split <;> simp_all
      rw [this]
      simp [World.cell?, hg]
      simpa using hu) (h1 y) (by unfold maxLen; omega) hlen hB
  have hon : Only (fun g => v.ownBlock = some g) w w' := Only.of_grown h3 fun g hg => hg
  unfold Oper.wp execOp
  simp only [resolve, invoke, builtin, Sem.run_bind, Sem.run_pure, Result.andThen_ok, List.map_toArray, List.map_cons, List.map_nil, hs, hx, hr]
  refine ⟨v', rfl, hon.mono fun g _ hg => hE g hg, hΦ v' w' ?_ hon h5⟩
  unfold Own
  rw [flat_snoc, List.length_append]
  exact h2
end
section
variable {P : Program} {ops : Array Oper} {rest : List Oper} {a : Act} {w : World} {Q : Exit → Act → World → Prop} {dst : Option Tmp} {ty : TypeId} {pos : String} {after : Array Edge}
theorem run_load_blk (t : TypeId) (hagg : ∀ w, (isAgg t).run P w = .ok true w) {k : Nat} (hk : ∀ w, (sizeOf t).run P w = .ok k w) {g : Nat} {cs : Array Value} {e : TypeId} {fr : Nat × Nat} (hg : w.heap[g]? = some (.cells cs e fr)) (hsz : cs.size = k) :
    (loadVar t ⟨g, 0, none⟩).run P w = .ok (.agg cs) w := by
  have := run_loadCells_list (P := P) (w := w) ⟨g, 0, none⟩ cs.toList (fun j v hj => by
    have : (⟨g, 0, none⟩ : Addr).add j = ⟨g, j, none⟩ := by unfold Addr.add; split <;> simp_all
    rw [this]
    simp only [World.cell?, hg]
    simpa using hj)
  simp only [Array.length_toList, hsz] at this
  simp [loadVar, hagg, hk, this]
theorem arm_load_blk (t : TypeId) (hagg : ∀ w, (isAgg t).run P w = .ok true w) {k : Nat} (hk : ∀ w, (sizeOf t).run P w = .ok k w) {x : Operand} {g : Nat} {cs : Array Value} {e : TypeId} {fr : Nat × Nat} (hx : a.eval x = .pointer (some ⟨g, 0, none⟩)) (hg : w.heap[g]? = some (.cells cs e fr)) (hsz : cs.size = k)
    (hK : wpList P ops Q rest (a.put dst (.agg cs)) w) : wpList P ops Q ({ dst := dst, op := Op.load t x, type := ty, pos := pos, after := after, guard := none } :: rest) a w := by
  refine wpList_plain rfl fun K hK' => ?_
  have hr := run_load_blk (P := P) (w := w) t hagg hk hg hsz
  unfold Oper.wp
  simp [execOp, hx, Instr.loadAt, Instr.sureAddr, hr]
  exact hK' _ _ hK
theorem run_store_blk (t : TypeId) (hagg : ∀ w, (isAgg t).run P w = .ok true w) {k : Nat} (hk : ∀ w, (sizeOf t).run P w = .ok k w) {g : Nat} {old cs : Array Value} {e : TypeId} (hg : w.heap[g]? = some (.cells old e (0, 0))) (hsz : cs.size = k) (hso : old.size = k) (h1 : ∀ u ∈ cs.toList, u.oneCell' = true) :
    (storeVar t ⟨g, 0, none⟩ (.agg cs)).run P w = .ok () (w.setRow g cs) := by
  have := run_storeCells_at (P := P) g 0 e cs.toList 0 old w hg (by simp; omega) h1
  have h2 : (old.toList.take (0 + 0) ++ cs.toList ++ old.toList.drop (0 + 0 + cs.toList.length)).toArray = cs := by
    rw [List.drop_eq_nil_of_le (by simp; omega)]
    simp
  rw [h2] at this
  simp [storeVar, hk, Value.cells, hsz, this]
theorem arm_store_blk (t : TypeId) (hagg : ∀ w, (isAgg t).run P w = .ok true w) {k : Nat} (hk : ∀ w, (sizeOf t).run P w = .ok k w) {x y : Operand} {g : Nat} {old cs : Array Value} {e : TypeId} (hx : a.eval x = .pointer (some ⟨g, 0, none⟩)) (hy : a.eval y = .agg cs) (hg : w.heap[g]? = some (.cells old e (0, 0))) (hsz : cs.size = k) (hso : old.size = k) (h1 : ∀ u ∈ cs.toList, u.oneCell' = true)
    (hK : ∀ w', w'.heap[g]? = some (.cells cs e (0, 0)) → Only (fun g' => g' = g) w w' → wpList P ops Q rest a w') : wpList P ops Q ({ dst := none, op := Op.store t x y, type := ty, pos := pos, after := after, guard := none } :: rest) a w := by
  refine wpList_plain rfl fun K hK' => ?_
  have hr := run_store_blk (P := P) (w := w) t hagg hk hg hsz hso h1
  unfold Oper.wp
  simp [execOp, hx, hy, Instr.storeAt, Instr.sureAddr, hr]
  refine hK' _ _ (hK _ (setRow_heap w g old cs e (0, 0) hg) ⟨rfl, rfl, rfl, by simp [World.setRow], fun g' hg' hne => ?_⟩)
  simp only [World.setRow, Array.getElem?_modify]
  rw [if_neg (fun h => hne h.symm)]
end
section
variable {P : Program} {ops : Array Oper} {rest : List Oper} {a : Act} {w w' : World} {Q : Exit → Act → World → Prop} {v : Value} {o : Oper}
theorem arm_run (hg : o.guard = none) (hr : (execOp a.eval o).run P w = .ok (.value v) w') (hK : wpList P ops Q rest (a.put o.dst v) w') : wpList P ops Q (o :: rest) a w := by
  refine wpList_plain hg fun K hK' => ?_
  unfold Oper.wp
  rw [hr]
  exact hK' _ _ hK
theorem arm_skip (hg : o.guard = none) (hd : o.dst = none) (hr : (execOp a.eval o).run P w = .ok .skip w') (hK : wpList P ops Q rest a w') : wpList P ops Q (o :: rest) a w := by
  refine wpList_plain hg fun K hK' => ?_
  unfold Oper.wp
  rw [hr]
  have e : a.put o.dst undef = a := by rw [hd]; rfl
  exact hK' _ _ (e.symm ▸ hK)
theorem ev_ne {d t : Nat} (h : d ≠ t) : (a.put (some d) v).eval (.tmp t) = a.eval (.tmp t) := Act.eval_put (by intro d' hd' e; cases hd'; cases e; exact h rfl)
theorem ev_eq {d : Nat} (h : d < a.tmps.size) : (a.put (some d) v).eval (.tmp d) = v := by simp [Act.eval, Act.put, h]
theorem size_put {d : Option Nat} : (a.put d v).tmps.size = a.tmps.size := by cases d <;> simp [Act.put]
end
theorem Own.base {α : Type} {f : α → List Value} {e : TypeId} {k : Nat} {w : World} {B B' : Nat} {v : Value} {L : List α} (h : Own f e k w B v L) (hB : B' ≤ B) : Own f e k w B' v L := by
  refine ⟨h.1, ?_⟩
  rcases h.2 with h2 | ⟨g, cap, cur, hv, hb, r⟩
  · exact .inl h2
  · exact .inr ⟨g, cap, cur, hv, by omega, r⟩
theorem frozen_of_heap {w : World} {g i : Nat} {cs : Array Value} {t : TypeId} {v : Value} (h : w.heap[g]? = some (.cells cs t (0, 0))) (hv : cs[i]? = some v) : w.frozen? ⟨g, i, none⟩ = false := by simp [World.frozen?, h]
section
variable {P : Program} {ops : Array Oper} {rest : List Oper} {a : Act} {w : World} {Q : Exit → Act → World → Prop}
/-- 'append(s, x..)' of a block's one element. -/
theorem arm_append {α : Type} {f : α → List Value} {e : TypeId} {k : Nat} {B : Nat} {v : Value} {L : List α} (t : TypeId) (ht : P.underlying t = some (.slice e)) {inf : TypeInfo} {z : Value} {bytes : Nat} (hi : P.info? e = some inf) (hz : inf.zero = some z) (hsize : inf.size = k)
    (hby : inf.bytes = bytes) (hzs : z.cells.size = k) (hk : 0 < k) (hf : ∀ x, (f x).length = k) (h1 : ∀ x, ∀ u ∈ f x, u.oneCell' = true)
    {dst : Option Tmp} {ty : TypeId} {pos : String} {after : Array Edge} {s x : Operand} (y : α) {g : Nat} (hs : a.eval s = v) (hx : a.eval x = .slice (some ⟨g, 0, none⟩) 1 1) (hg : w.heap[g]? = some (.cells (f y).toArray e (0, 0)))
    (hown : Own f e k w B v L) (hB : B ≤ w.heap.size) (hlen : (L.length + 1) * bytes ≤ 140737488355328) (hlen2 : L.length ≤ 1000000000)
    (hK : ∀ v' w', Own f e k w' B v' (L ++ [y]) → Only (fun g => v.ownBlock = some g) w w' → wpList P ops Q rest (a.put dst v') w') :
    wpList P ops Q ({ dst := dst, op := Op.call { callee := Callee.builtin Builtin.append, args := #[s, x], argTypes := #[t, t] }, type := ty, pos := pos, after := after, guard := none } :: rest) a w := by
  obtain ⟨v', w', hr, h2, h3, h4, h5⟩ := run_append_own_at (P := P) w B t ty e inf z k bytes ht hi hz hsize hby hzs hk v L.length (flat f L) hown ⟨g, 0, none⟩ 1 1 (f y) (by rw [hf]; omega)
    (by
      intro j u hu
      have : (⟨g, 0, none⟩ : Addr).add j = ⟨g, j, none⟩ := by unfold Addr.add; split <;> simp_all
      rw [this]
      simp [World.cell?, hg]
      simpa using hu) (h1 y) (by unfold maxLen; omega) hlen hB
  have hon : Only (fun g => v.ownBlock = some g) w w' := Only.of_grown h3 fun g hg => hg
  refine arm_run rfl (v := v') (w' := w') ?_ (hK v' w' ?_ hon)
  · unfold execOp
    simp only [resolve, invoke, builtin, Sem.run_bind, Sem.run_pure, Result.andThen_ok, List.map_toArray, List.map_cons, List.map_nil, hs, hx, hr]
  · unfold Own
    rw [flat_snoc, List.length_append]
    exact h2
end
section
variable {α : Type} {f : α → List Value} {k : Nat}
theorem flat_get (hf : ∀ x, (f x).length = k) (hk : 0 < k) : ∀ (L : List α) (t : Nat), (flat f L)[t]? = (L[t / k]?).bind fun x => (f x)[t % k]?
  | [], t => by simp [flat]
  | x :: L, t => by
    have e : flat f (x :: L) = f x ++ flat f L := rfl
    rw [e]
    by_cases h : t < k
    · rw [List.getElem?_append_left (by rw [hf]; exact h), Nat.div_eq_of_lt h, Nat.mod_eq_of_lt h]; rfl
    · obtain ⟨s, rfl⟩ : ∃ s, t = k + s := ⟨t - k, by omega⟩
      rw [List.getElem?_append_right (by rw [hf]; omega), hf, Nat.add_sub_cancel_left, flat_get hf hk L s, Nat.add_div_left _ hk, Nat.add_mod_left]
      rfl
end
/-- An element's cells. -/
theorem Own.cells_at {α : Type} {f : α → List Value} {e : TypeId} {k : Nat} {w : World} {B g cap : Nat} {L : List α} (hf : ∀ x, (f x).length = k) (hk : 0 < k) (h : Own f e k w B (.slice (some ⟨g, 0, none⟩) L.length cap) L) {i j : Nat} (hi : i < L.length) (hj : j < k) : w.cell? ⟨g, i * k + j, none⟩ = (f (L[i]'hi))[j]? := by
  have hne : L ≠ [] := by intro e; rw [e] at hi; simp at hi
  obtain ⟨g', cap', cur, hv, _, hh, _, ht⟩ := h.form hne
  injection hv with h1 h2 h3
  injection h1 with h1
  injection h1 with h1 _ _
  subst h1
  have hlt : i * k + j < L.length * k := by
    have : (i + 1) * k ≤ L.length * k := Nat.mul_le_mul_right k hi
    rw [Nat.add_mul, Nat.one_mul] at this
    omega
  have h4 : (cur.toList.take (L.length * k))[i * k + j]? = cur.toList[i * k + j]? := List.getElem?_take_of_lt hlt
  have h5 := flat_get hf hk L (i * k + j)
  rw [← ht, h4] at h5
  have h6 : (i * k + j) / k = i := by rw [Nat.mul_comm, Nat.mul_add_div hk, Nat.div_eq_of_lt hj]; rfl
  have h7 : (i * k + j) % k = j := by rw [Nat.mul_comm, Nat.mul_add_mod, Nat.mod_eq_of_lt hj]
  rw [h6, h7, List.getElem?_eq_getElem hi] at h5
  simp only [World.cell?, hh]
  simpa using h5
section
variable {P : Program} {ops : Array Oper} {rest : List Oper} {a : Act} {w : World} {Q : Exit → Act → World → Prop} {dst : Option Tmp} {ty : TypeId} {pos : String} {after : Array Edge}
theorem run_load_at (t : TypeId) (hagg : ∀ w, (isAgg t).run P w = .ok true w) {k : Nat} (hk : ∀ w, (sizeOf t).run P w = .ok k w) {g o : Nat} {cs : List Value} (hc : ∀ j v, cs[j]? = some v → w.cell? ⟨g, o + j, none⟩ = some v) (hsz : cs.length = k) :
    (loadVar t ⟨g, o, none⟩).run P w = .ok (.agg cs.toArray) w := by
  have := run_loadCells_list (P := P) (w := w) ⟨g, o, none⟩ cs (fun j v hj => by
    have : (⟨g, o, none⟩ : Addr).add j = ⟨g, o + j, none⟩ := by unfold Addr.add; split <;> simp_all
    rw [this]
    exact hc j v hj)
  simp only [hsz] at this
  simp [loadVar, hagg, hk, this]
/-- 's[i]', a struct: the slice is the call's own. -/
theorem arm_load_own {α : Type} {f : α → List Value} (t : TypeId) (hagg : ∀ w, (isAgg t).run P w = .ok true w) {k : Nat} (hk : ∀ w, (sizeOf t).run P w = .ok k w) (hf : ∀ x, (f x).length = k) (hk0 : 0 < k) {x : Operand} {e : TypeId} {B g cap i : Nat} {L : List α} (h : Own f e k w B (.slice (some ⟨g, 0, none⟩) L.length cap) L) (hi : i < L.length)
    (hx : a.eval x = .pointer (some ⟨g, i * k, none⟩)) (hK : wpList P ops Q rest (a.put dst (.agg (f (L[i]'hi)).toArray)) w) : wpList P ops Q ({ dst := dst, op := Op.load t x, type := ty, pos := pos, after := after, guard := none } :: rest) a w := by
  refine wpList_plain rfl fun K hK' => ?_
  have hr := run_load_at (P := P) (w := w) t hagg hk (g := g) (o := i * k) (cs := f (L[i]'hi)) (fun j v hj => by
    have hjk : j < k := by
      have := (List.getElem?_eq_some_iff.1 hj).1
      rw [hf] at this
      exact this
    rw [h.cells_at hf hk0 hi hjk, hj]) (hf _)
  unfold Oper.wp
  simp [execOp, hx, Instr.loadAt, Instr.sureAddr, hr]
  exact hK' _ _ hK
end
theorem Own.shape {α : Type} {f : α → List Value} {e : TypeId} {k : Nat} {w : World} {B : Nat} {v : Value} {L : List α} (h : Own f e k w B v L) : ∃ (A : Option Addr) (cap : Nat), v = .slice A L.length cap ∧ (L ≠ [] → ∃ g, A = some ⟨g, 0, none⟩) := by
  rcases h.2 with ⟨rfl, h0⟩ | ⟨g, cap, cur, rfl, _⟩
  · refine ⟨none, 0, by rw [h0], fun hne => absurd (List.eq_nil_of_length_eq_zero h0) hne⟩
  · exact ⟨_, cap, rfl, fun _ => ⟨g, rfl⟩⟩
theorem len_data (s : ByteArray) : s.data.toList.length = s.size := by rw [Array.length_toList]; rfl
theorem byte_get {s : ByteArray} {k : Nat} (h : k < s.size) : s.data.toList[k]? = some (s[k]'h) := by
  rw [List.getElem?_eq_getElem (by rw [len_data]; exact h)]
  rfl
theorem byte_eq {b : UInt8} {n : Nat} (h : b.toNat = n) : b = UInt8.ofNat n := by rw [← h]; simp
theorem ba_ext {a b : ByteArray} (h : a.data.toList = b.data.toList) : a = b := ByteArray.ext (Array.toList_inj.1 h)
theorem ret_two {P : Program} {w : World} {fn : Func} {tmps : Array Value} {i j : Nat} {x y : Value} (hf : fn.results = #[.tmp i, .tmp j]) (h4 : tmps.getD i undef = x) (h5 : tmps.getD j undef = y) : (results fn tmps).run P w = .ok (.tuple #[x, y]) w := by
  unfold results
  rw [hf]
  simp only [Array.getD_eq_getD_getElem?] at h4 h5
  simp [h4, h5]
end Go.Proofs.YtbehijhpichniaaDoor
