/- Joined: Ogs, Wi, Em2. -/
import Derived.Test.YtfonjeoiallhhaaGreatDoorB06
import Derived.Test.YtfonjeoiallhhaaGreatDoorB13
import Derived.Test.YtfonjeoiallhhaaGreatDoorB15
import Derived.Test.YtfonjeoiallhhaaGreatDoorB02
/- Regions that draw, with a chain of stores into one block: the rule where an assertion may lean on what the other operation has shown. -/
namespace Go.Proofs.YtfonjeoiallhhaaGreatDoor.G2
open Go.RowKit
section
variable {P : Program} {ops : Array Oper} {Q : Exit → Act → World → Prop}
theorem og_anyS (hok : ogOk ops = true) (a0 : Act) (w0 : World) (E : Nat → Nat → Prop) (Φ : Nat → Value → World → Prop)
  (hsl : ∀ (i : Nat) (o : Oper) d, ops[i]? = some o → o.dst = some d → d < a0.tmps.size)
  (hnone : ∀ (i : Nat) (o : Oper) v w, ops[i]? = some o → o.dst = none → Φ i v w → Φ i undef w)
  (hst : ∀ i j u v w w', Only (fun g => ∃ e, E e g) w0 w → Only (E i) w w' → Φ i u w' → ahead ops j i = false → j ≠ i → Φ j v w → Φ j v w')
  (hop : ∀ (i : Nat) (o : Oper), ops[i]? = some o → ∀ a w, OgCtx ops a0 w0 E Φ i a w → wpOp P ops Q i (OgPost E Φ i o a w) a w)
  (hend : ∀ a w, OgEnd ops a0 w0 E Φ a w → Q .normal a w) :
  ∀ (fuel : Nat) (L : Array Bool) (a : Act) (w : World), (L.toList.filter (! ·)).length ≤ fuel → OgInv ops a0 w0 E Φ L a w → wpAny P .any ops Q fuel L a w := by
 have fin : ∀ (L : Array Bool) (a : Act) (w : World), OgInv ops a0 w0 E Φ L a w → Region.ready .any ops L = [] → Q .normal a w := by
  intro L a w h hr
  have hall := ready_nil hok h.len hr
  refine hend a w ⟨h.defers, h.size, fun j o hj => h.slot j o (hall j (Array.getElem?_eq_some_iff.1 hj).1) hj, fun t ht => h.out t fun j o hj hd => absurd hd (ht j o hj), h.only.mono fun g _ ⟨e, _, he⟩ => ⟨e, he⟩⟩
 intro fuel
 induction fuel with
 | zero =>
  intro L a w hf h
  have hr : Region.ready .any ops L = [] := by
   cases hr : Region.ready .any ops L with
   | nil => rfl
   | cons i r =>
    obtain ⟨o, ho, hL, _⟩ := mem_ready (ops := ops) (L := L) (i := i) (md := .any) (by rw [hr]; simp)
    have hlt : i < L.size := by have := (Array.getElem?_eq_some_iff.1 ho).1; have := h.len; omega
    have : L[i] ∈ L.toList.filter (! ·) := by
     rw [List.mem_filter]
     refine ⟨by simp, ?_⟩
     simp only [Array.getD_eq_getD_getElem?, Array.getElem?_eq_getElem hlt, Option.getD_some] at hL
     simp [hL]
    have := List.length_pos_of_mem this
    omega
  exact ⟨hr, fin L a w h hr⟩
 | succ fuel ih =>
  intro L a w hf h
  refine ⟨fin L a w h, fun i hi => ?_⟩
  obtain ⟨o, ho, hL, hedge⟩ := mem_ready hi
  have hlt : i < L.size := by have := (Array.getElem?_eq_some_iff.1 ho).1; have := h.len; omega
  have hLf : L.getD i false = false := by
   simp only [Array.getD_eq_getD_getElem?, Array.getElem?_eq_getElem hlt, Option.getD_some] at hL ⊢
   exact hL
  have hanc : ∀ j, ahead ops i j = true → L.getD j false = true := by
   intro j hj
   obtain ⟨e, he, hb, r⟩ := ahead_edge ho (og_edges hok ho) hj
   have hLe := hedge e he hb
   rcases r with r | r
   ·rw [← r]; exact hLe
   ·exact h.closed _ _ hLe r
  have hctx : OgCtx ops a0 w0 E Φ i a w := by
   refine ⟨h.defers, h.size, fun j o' hj ho' => h.slot j o' (hanc j hj) ho', fun t ht => h.out t fun j o' ho' hd => ?_, h.only.mono fun g _ ⟨e, _, he⟩ => ⟨e, he⟩, fun g hg he => h.only.block g hg fun ⟨e, hLe, hE⟩ => ?_⟩
   ·rcases ht j o' ho' hd with rfl | hj
    ·exact hLf
    ·cases hLj : L.getD j false with
     | false => rfl
     | true => rw [h.closed j i hLj hj] at hLf; cases hLf
   ·rcases he e hE with rfl | hj
    ·rw [hLe] at hLf; cases hLf
    ·rw [h.closed e i hLe hj] at hLf; cases hLf
  refine wpOp_mono ?_ (hop i o ho a w hctx)
  rintro a' w' ⟨v, rfl, honly, hΦ⟩
  have hget : ∀ j, (L.setIfInBounds i true).getD j false = true ↔ (j = i ∨ L.getD j false = true) := by
   intro j
   simp only [Array.getD_eq_getD_getElem?]
   by_cases hji : j = i
   ·subst hji
    simp [hlt]
   ·rw [Array.getElem?_setIfInBounds_ne (fun e => hji e.symm)]
    simp [hji]
  refine ih _ _ _ ?_ ⟨?_, ?_, ?_, ?_, ?_, ?_, ?_⟩
  ·have h1 : (L.setIfInBounds i true).toList = L.toList.set i true := by simp
   rw [h1]
   have h2 : L.toList = L.toList.take i ++ L[i] :: L.toList.drop (i + 1) := by
    rw [show L[i] = L.toList[i] from by simp, List.getElem_cons_drop]; simp
   have hLi : L[i] = false := by
    simp only [Array.getD_eq_getD_getElem?, Array.getElem?_eq_getElem hlt, Option.getD_some] at hLf
    exact hLf
   have h3 : L.toList.set i true = L.toList.take i ++ true :: L.toList.drop (i + 1) := List.set_eq_take_append_cons_drop .. |>.trans (by simp [hlt])
   rw [h3]
   rw [h2, hLi] at hf
   simp only [List.filter_append, List.filter_cons, List.length_append] at hf ⊢
   simp at hf ⊢
   omega
  ·cases hd : o.dst <;> simpa [Act.put, hd] using h.defers
  ·cases hd : o.dst <;> simpa [Act.put, hd] using h.size
  ·simpa using h.len
  ·intro k j hk hj
   rw [hget] at hk ⊢
   rcases hk with rfl | hk
   ·exact .inr (hanc j hj)
   ·exact .inr (h.closed k j hk hj)
  ·intro j o' hj ho'
   rw [hget] at hj
   by_cases hji : j = i
   ·subst hji
    obtain rfl : o = o' := by rw [ho] at ho'; exact Option.some.inj ho'
    rw [slotOf_put_same (a := a) (o := o) (v := v) fun d hd => by rw [h.size]; exact hsl j o d ho hd]
    cases hd : o.dst with
    | none => exact hnone j o v w' ho hd hΦ
    | some d => exact hΦ
   ·have hLj : L.getD j false = true := hj.resolve_left hji
    rw [slotOf_put_other fun d hd hd' => hji (og_dst hok ho' ho hd' hd)]
    refine hst i j v _ w w' (h.only.mono fun g _ ⟨e, _, he⟩ => ⟨e, he⟩) honly hΦ ?_ hji (h.slot j o' hLj ho')
    cases ha : ahead ops j i with
    | false => rfl
    | true => rw [h.closed j i hLj ha] at hLf; cases hLf
  ·intro t ht
   have hne : ∀ d, o.dst = some d → d ≠ t := by
    intro d hd e
    subst e
    have := ht i o ho hd
    rw [(hget i).2 (.inl rfl)] at this
    cases this
   have : (a.put o.dst v).tmps[t]? = a.tmps[t]? := by
    cases hd : o.dst with
    | none => rfl
    | some d => simp [Act.put, Array.getElem?_setIfInBounds_ne (hne d hd)]
   rw [this]
   refine h.out t fun j o' ho' hd => ?_
   have := ht j o' ho' hd
   cases hLj : L.getD j false with
   | false => rfl
   | true => rw [(hget j).2 (.inr hLj)] at this; cases this
  ·refine (h.only.trans honly).mono fun g _ hg => ?_
   rcases hg with ⟨e, he, hE⟩ | hE
   ·exact ⟨e, (hget e).2 (.inr he), hE⟩
   ·exact ⟨i, (hget i).2 (.inl rfl), hE⟩
/-- THE RULE. -/
theorem wp_region_ogS {id : Nat} {a0 : Act} {w : World} (hm : P.follows .mixedOrders = true) (hok : ogOk ops = true) (E : Nat → Nat → Prop) (Φ : Nat → Value → World → Prop)
  (hsl : ∀ (i : Nat) (o : Oper) d, ops[i]? = some o → o.dst = some d → d < a0.tmps.size)
  (hnone : ∀ (i : Nat) (o : Oper) v w, ops[i]? = some o → o.dst = none → Φ i v w → Φ i undef w)
  (hst : ∀ i j u v w1 w', Only (fun g => ∃ e, E e g) w.drew w1 → Only (E i) w1 w' → Φ i u w' → ahead ops j i = false → j ≠ i → Φ j v w1 → Φ j v w')
  (hop : ∀ (i : Nat) (o : Oper), ops[i]? = some o → ∀ a1 w1, OgCtx ops a0 w.drew E Φ i a1 w1 → wpOp P ops Q i (OgPost E Φ i o a1 w1) a1 w1)
  (hend : ∀ a1 w1, OgEnd ops a0 w.drew E Φ a1 w1 → Q .normal a1 w1) : (Code.region id ops true).wp P Q a0 w := by
 refine wp_region_any hm ?_
 refine og_anyS hok a0 w.drew E Φ hsl hnone hst hop hend ops.size _ a0 w.drew ?_ ?_
 ·exact Nat.le_trans (List.length_filter_le _ _) (by simp)
 ·have hf : ∀ j, (Array.replicate ops.size false).getD j false = false := by
   intro j
   simp only [Array.getD_eq_getD_getElem?, Array.getElem?_replicate]
   split <;> rfl
  refine ⟨rfl, rfl, by simp, ?_, ?_, fun _ _ => rfl, Only.refl _ _⟩
  ·intro i j h; rw [hf i] at h; cases h
  ·intro j o h; rw [hf j] at h; cases h
end
/-- What is known of an operation: its value; something of its value and the world; of a store, that it and those ahead of it are done. -/
inductive Ast where
 | eq (v : Value)
 | any (p : Value → World → Prop)
 | sto (k : Nat)
def Ast.holds (g : Nat) (T : TypeId) (n : Nat) (cs : Nat → Array Value) : Ast → Value → World → Prop
 | .eq u, v, _ => v = u
 | .any p, v, w => p v w
 | .sto k, _, w => ∃ m, k ≤ m ∧ m ≤ n ∧ w.heap[g]? = some (.cells (cs m) T (0, 0))
def astAt (g : Nat) (T : TypeId) (n : Nat) (cs : Nat → Array Value) (As : List Ast) (i : Nat) (v : Value) (w : World) : Prop := match As[i]? with | some A => A.holds g T n cs v w | none => True
def astE (g : Nat) (As : List Ast) (i : Nat) (g' : Nat) : Prop := (match As[i]? with | some (.sto _) => True | _ => False) ∧ g' = g
/-- Stores lead in order; the slots fit. -/
def astFit (ops : Array Oper) (As : List Ast) (N : Nat) : Bool :=
 As.length == ops.size && (ops.toList.zipIdx.all fun (o, i) => (match o.dst with | some d => decide (d < N) | none => true) && (match As[i]?, o.dst with | some (.sto _), none => true | some (.sto _), some _ => false | some _, none => false | _, _ => true)) &&
 (List.range ops.size).all fun i => (List.range ops.size).all fun j => match As[i]?, As[j]? with | some (.sto a), some (.sto b) => ahead ops j i || i == j || decide (b ≤ a) | _, _ => true
theorem wp_region_sto {P : Program} {id N : Nat} {l : List Oper} {Q : Exit → Act → World → Prop} {a0 : Act} {w : World} (As : List Ast) (g : Nat) (T : TypeId) (n : Nat) (cs : Nat → Array Value) (hm : P.follows .mixedOrders = true) (hok : ogOk l.toArray = true) (hfit : astFit l.toArray As N = true) (hN : a0.tmps.size = N)
  (hany : ∀ p : Value → World → Prop, Ast.any p ∈ As → ∀ v w1 w2, Only (fun g' => g' = g) w1 w2 → p v w1 → p v w2)
  (hops : OgOps P l.toArray Q a0 w.drew (astE g As) (astAt g T n cs As) 0 l)
  (hend : ∀ a1 w1, OgEnd l.toArray a0 w.drew (astE g As) (astAt g T n cs As) a1 w1 → Q .normal a1 w1) : (Code.region id l.toArray true).wp P Q a0 w := by
 unfold astFit at hfit
 simp only [Bool.and_eq_true] at hfit
 obtain ⟨⟨hlen, hfit1⟩, hfit2⟩ := hfit
 rw [List.all_eq_true] at hfit1 hfit2
 have hone : ∀ (i : Nat) (o : Oper), l.toArray[i]? = some o → (o, i) ∈ l.toArray.toList.zipIdx := fun i o ho => by
  rw [List.mem_zipIdx_iff_getElem?]
  simpa using ho
 refine wp_region_ogS hm hok (astE g As) (astAt g T n cs As) ?_ ?_ ?_ ?_ hend
 ·intro i o d ho hd
  have h1 := hfit1 _ (hone i o ho)
  simp only [hd, Bool.and_eq_true, decide_eq_true_eq] at h1
  rw [hN]; exact h1.1
 ·intro i o v w1 ho hd h
  have h1 := hfit1 _ (hone i o ho)
  unfold astAt at h ⊢
  simp only [hd, Bool.and_eq_true] at h1
  cases hA : As[i]? with
  | none => trivial
  | some A =>
   rw [hA] at h h1
   cases A with
   | sto k => exact h
   | eq v => exact (by simpa using h1.2)
   | any p => exact (by simpa using h1.2)
 ·intro i j u v w1 w2 h0 h1 h2 hah hji h3
  unfold astAt at h2 h3 ⊢
  cases hj : As[j]? with
  | none => trivial
  | some B =>
   rw [hj] at h3
   cases B with
   | eq v => exact h3
   | any p =>
    refine hany p (List.mem_of_getElem? hj) v w1 w2 (h1.mono fun g' _ hg => hg.2) h3
   | sto b =>
    cases hi : As[i]? with
    | none =>
     obtain ⟨m, hm1, hm2, hm3⟩ := h3
     refine ⟨m, hm1, hm2, ?_⟩
     rw [h1.block g (Array.getElem?_eq_some_iff.1 hm3).1 (fun hg => by unfold astE at hg; rw [hi] at hg; exact hg.1)]
     exact hm3
    | some A =>
     cases A with
     | sto a =>
      rw [hi] at h2
      obtain ⟨m, hm1, hm2, hm3⟩ := h2
      refine ⟨m, ?_, hm2, hm3⟩
      have hil : i < l.toArray.size := by
       have := (List.getElem?_eq_some_iff.1 hi).1
       rw [eq_of_beq hlen] at this; exact this
      have hjl : j < l.toArray.size := by
       have := (List.getElem?_eq_some_iff.1 hj).1
       rw [eq_of_beq hlen] at this; exact this
      have h4 := hfit2 i (List.mem_range.2 hil)
      rw [List.all_eq_true] at h4
      have h5 := h4 j (List.mem_range.2 hjl)
      rw [hi, hj] at h5
      simp only [hah, Bool.false_or, Bool.or_eq_true, beq_iff_eq, decide_eq_true_eq] at h5
      rcases h5 with h5 | h5
      ·exact absurd h5.symm hji
      ·omega
     | eq x =>
      obtain ⟨m, hm1, hm2, hm3⟩ := h3
      refine ⟨m, hm1, hm2, ?_⟩
      rw [h1.block g (Array.getElem?_eq_some_iff.1 hm3).1 (fun hg => by unfold astE at hg; rw [hi] at hg; exact hg.1)]
      exact hm3
     | any x =>
      obtain ⟨m, hm1, hm2, hm3⟩ := h3
      refine ⟨m, hm1, hm2, ?_⟩
      rw [h1.block g (Array.getElem?_eq_some_iff.1 hm3).1 (fun hg => by unfold astE at hg; rw [hi] at hg; exact hg.1)]
      exact hm3
 ·intro i o hi a1 w1 c
  have hi' : l[i]? = some o := by simpa using hi
  have := hops.get l 0 i o hi' a1 w1 (by rw [Nat.zero_add]; exact c)
  rw [Nat.zero_add] at this
  cases hg : o.guard with
  | some gw => rw [hg] at this; exact this
  | none =>
   rw [hg] at this
   dsimp only at this
   unfold wpOp
   rw [hi]
   simp only [Region.wanted, hg, if_true]
   exact .inl this
theorem og_sto {g n k m m' i t off T' : Nat} {T : TypeId} {cs : Nat → Array Value} {As : List Ast} {v : Value} {y : Operand} {ty : TypeId} {ps : String} {af : Array Edge} {a : Act} {w : World} {Q : Exit → Act → World → Prop} (hA : As[i]? = some (.sto k)) (hg : w.heap[g]? = some (.cells (cs m) T (0, 0))) (hS : St T' v) (hx : a.eval (.tmp t) = pt g off) (hy : a.eval y = v) (hoff : off < (cs m).size) (hset : (cs m).setIfInBounds off v = cs m') (hk : k ≤ m') (hn : m' ≤ n) :
  (⟨none, .store T' (.tmp t) y, ty, ps, af, none⟩ : Oper).wp Tryz.prog a w (OgPost (astE g As) (astAt g T n cs As) i ⟨none, .store T' (.tmp t) y, ty, ps, af, none⟩ a w) Q := by
 have hc : w.cell? ⟨g, off, none⟩ = some ((cs m)[off]'hoff) := cell_of_heap hg (by simp [hoff])
 have hr := hS w ⟨g, off, none⟩ _ hc (frozen_of_heap hg (Array.getElem?_eq_getElem hoff))
 unfold Oper.wp
 have hrun : (execOp a.eval ⟨none, .store T' (.tmp t) y, ty, ps, af, none⟩).run Tryz.prog w = .ok .skip (w.setCell ⟨g, off, none⟩ v) := by
  simp only [execOp, hx, hy]
  simp [pt] at hr ⊢
  simp [hr, Result.andThen]
 rw [hrun]
 refine ⟨undef, rfl, ?_, ?_⟩
 ·refine ⟨rfl, rfl, rfl, by simp, fun g' hg' hne => ?_⟩
  exact Below.heap_setCell _ _ _ _ (fun e => hne ⟨by rw [hA]; trivial, e⟩)
 ·unfold astAt
  rw [hA]
  exact ⟨m', hk, hn, by rw [← hset]; exact Lib.heap_setCell_same (i := off) hg v⟩
section
variable {N : Nat} {l : List (Nat × Value)} {m : List Bk} {M : Nat → Prop} {w00 w w1 : World} {a0 a : Act} {ops : Array Oper} {Φ : Nat → Value → World → Prop} {i gp : Nat} {As : List Ast}
/-- A known block beside the one that is stored into. -/
theorem sto_keep (h : Sv N l m M w00 a0 w) (c : OgCtx ops a0 w.drew (astE gp As) Φ i a w1) {b : Bk} (k : Nat) (hk : m[k]? = some b) (hne : b.g ≠ gp) : w1.heap[b.g]? = some (.cells b.cs b.t (0, 0)) := by
 have h1 := h.at k hk
 rw [c.only.block b.g (Array.getElem?_eq_some_iff.1 h1).1 (fun ⟨e, he⟩ => hne he.2)]
 exact h1
theorem _root_.Go.Proofs.YtfonjeoiallhhaaGreatDoor.Sv.neq (h : Sv N l m M w00 a0 w) {b b' : Bk} (i j : Nat) (hi : m[i]? = some b) (hj : m[j]? = some b') (hij : i ≠ j) : b.g ≠ b'.g := by
 obtain ⟨hi1, hi2⟩ := List.getElem?_eq_some_iff.1 hi
 obtain ⟨hj1, hj2⟩ := List.getElem?_eq_some_iff.1 hj
 rcases Nat.lt_or_ge i j with hlt | hge
 ·have := List.pairwise_iff_getElem.1 h.nd i j hi1 hj1 hlt
  rw [hi2, hj2] at this; exact this
 ·have := List.pairwise_iff_getElem.1 h.nd j i hj1 hi1 (by omega)
  rw [hi2, hj2] at this; exact fun e => this e.symm
theorem sto_first (h : Sv N l m M w00 a0 w) (c : OgCtx ops a0 w.drew (astE gp As) Φ i a w1) {b : Bk} (k : Nat) (hk : m[k]? = some b) (hb : b.g = gp) (hE : ((List.range As.length).all fun e => match As[e]? with | some (.sto _) => e == i || ahead ops e i | _ => true) = true) : w1.heap[gp]? = some (.cells b.cs b.t (0, 0)) := by
 have h1 := h.at k hk
 rw [hb] at h1
 rw [c.block gp (Array.getElem?_eq_some_iff.1 h1).1 ?_]
 ·exact h1
 ·intro e he
  unfold astE at he
  rw [List.all_eq_true] at hE
  cases hA : As[e]? with
  | none => rw [hA] at he; exact he.1.elim
  | some A =>
   have hlt := (List.getElem?_eq_some_iff.1 hA).1
   have h2 := hE e (List.mem_range.2 hlt)
   rw [hA] at he h2
   cases A with
   | sto k =>
    simp only [Bool.or_eq_true, beq_iff_eq] at h2
    exact h2
   | eq v => exact he.1.elim
   | any p => exact he.1.elim
theorem OgEnd.outS (c : OgEnd ops a0 w (astE gp As) Φ a w1) {t : Nat} {v : Value} (h : (ops.toList.all fun o => o.dst != some t) = true) (hv : a0.eval (.tmp t) = v) : a.eval (.tmp t) = v := by
 have := c.out t (fun j o ho hd => by
  rw [List.all_eq_true] at h
  have h1 := h o (by have := Array.mem_of_getElem? ho; simpa using this)
  simp [hd] at h1)
 rw [← hv]
 simp only [Act.eval, Array.getD_eq_getD_getElem?, this]
/-- Behind the region. -/
theorem sto_end (h : Sv N l m M w00 a0 w) (c : OgEnd ops a0 w.drew (astE gp As) Φ a w1) {i : Nat} {cs cs' : Array Value} {T : TypeId} {m' : List Bk} (hb : m[i]? = some ⟨gp, cs, T, true⟩) (hm : m.set i ⟨gp, cs', T, true⟩ = m') (hg : w1.heap[gp]? = some (.cells cs' T (0, 0))) : Sv N [] m' M w00 a w1 ∧ TyOnly [T] w w1 := by
 have ho : Only (fun x => x = gp) w w1 := ⟨c.only.os, c.only.tape, c.only.output, c.only.size, fun g hg hne => c.only.block g hg (fun ⟨e, he⟩ => hne he.2)⟩
 refine ⟨?_, .of_set ho (h.at i hb)⟩
 have h1 := h.put (w' := w1) hb hm hg ho (fun b _ hne e => hne e) (fun g' e hlt => by
  subst e
  rcases h.wr _ (List.mem_of_getElem? hb) rfl with h2 | h2
  ·exact h2
  ·exact absurd hlt (Nat.not_lt.2 h2))
 exact h1.slot ⟨by rw [c.size]; exact h.ev.size, by rw [c.defers]; exact h.ev.defers, fun t v hv => by cases hv⟩
end
end Go.Proofs.YtfonjeoiallhhaaGreatDoor.G2
/- impl.WriteMedia: what stands after k segments have been put to the playlist. -/
namespace Go.Proofs.YtfonjeoiallhhaaGreatDoor
open Go.RowKit
/-- A playlist after k segments. -/
def Pq.after (p : Pq) (gs k : Nat) : Pq := { p with sv := .slice (some ⟨gs, 0, none⟩) p.cap p.cap, tail := k % p.cap, count := k }
/-- The segments that have been put to it. -/
structure SegsIn (p : Pq) (B gs : Nat) (ss : List Sm) (cc : List (Option Cq)) (w : World) (ps : List Value) (L : List (Nat × Mz)) : Prop where
 len : ps.length = p.cap
 cells : w.heap[gs]? = some (.cells ps.toArray 76 (0, 0))
 each : ∀ (i : Nat) (q : Nat × Mz), L[i]? = some q → ps[i]? = some (pt q.1 0) ∧ w.heap[q.1]? = some (.cells q.2.cells 104 (0, 0)) ∧ q.2.At w ∧ q.2.seq = p.seq + i ∧ B ≤ q.1
 s : L.map (·.2.s) = ss
 c : L.map (·.2.c) = cc
structure WmI (w0 : World) (p0 : Pq) (gp gs g2 B0 : Nat) (mc : Array Value) (dl : Value) (ys : List Iy) (k : Nat) (w : World) : Prop where
 below : Below w0.heap.size w0 w
 gp0 : w0.heap.size ≤ gp
 gs0 : w0.heap.size ≤ gs
 hp : w.heap[gp]? = some (.cells (p0.after gs k).cells 72 (0, 0))
 med : w.heap[g2]? = some (.cells mc 37 (0, 0))
 at_ : IsAt B0 dl ys w
 segs : ∃ ps L, SegsIn p0 w0.heap.size gs ((ys.take k).map Iy.s) ((ys.take k).map Iy.c) w ps L
theorem below_ty {w w' : World} (hb : Below w.heap.size w w') : TyOnly [] w w' := .of_below hb
theorem SegsIn.keep {p : Pq} {B gs : Nat} {ss : List Sm} {cc : List (Option Cq)} {w w' : World} {ps : List Value} {L : List (Nat × Mz)} (h : SegsIn p B gs ss cc w ps L) (hb : Below w.heap.size w w') : SegsIn p B gs ss cc w' ps L := by
 have hty := below_ty hb
 exact ⟨h.len, hty.keep h.cells rfl, fun i q hq => by obtain ⟨h1, h2, h3, h4, h5⟩ := h.each i q hq; exact ⟨h1, hty.keep h2 rfl, h3.keep hb, h4, h5⟩, h.s, h.c⟩
section
variable {w0 : World} {p0 : Pq} {gp gs g2 B0 : Nat} {mc : Array Value} {dl : Value} {ys : List Iy} {k : Nat} {w w1 : World}
theorem WmI.keep (h : WmI w0 p0 gp gs g2 B0 mc dl ys k w) (hb : Below w.heap.size w w1) : WmI w0 p0 gp gs g2 B0 mc dl ys k w1 := by
 have hty := below_ty hb
 obtain ⟨ps, L, hs⟩ := h.segs
 exact ⟨h.below.trans (hb.mono h.below.size), h.gp0, h.gs0, hty.keep h.hp rfl, hty.keep h.med rfl, h.at_.ty hty rfl, ps, L, hs.keep hb⟩
/-- The playlist, its row and the new segment have turned. -/
theorem WmI.next (h : WmI w0 p0 gp gs g2 B0 mc dl ys k w) {y : Iy} (hy : ys[k]? = some y) (hkc : k < p0.cap) {gz : Nat} {z : Mz} (hb : Below w.heap.size w w1) (hgz : w.heap.size ≤ gz) (hz : w1.heap[gz]? = some (.cells z.cells 104 (0, 0))) (hzA : z.At w1) (hzs : z.s = y.s) (hzc : z.c = y.c) {ps : List Value} {L : List (Nat × Mz)} (hS : SegsIn p0 w0.heap.size gs ((ys.take k).map Iy.s) ((ys.take k).map Iy.c) w ps L) {w' : World}
  (h1 : w'.heap[gp]? = some (.cells (p0.after gs (k + 1)).cells 72 (0, 0))) (h2 : w'.heap[gs]? = some (.cells (ps.set k (pt gz 0)).toArray 76 (0, 0))) (h3 : w'.heap[gz]? = some (.cells ({ z with seq := p0.seq + k } : Mz).cells 104 (0, 0))) (ho : Only (fun x => x = gp ∨ x = gs ∨ x = gz) w1 w') : WmI w0 p0 gp gs g2 B0 mc dl ys (k + 1) w' := by
 have hk1 := h.keep hb
 have hS1 := hS.keep hb
 have hty : TyOnly [72, 76, 104] w1 w' := .of_only ho fun g cs e fr hg hc => by
  rcases hg with rfl | rfl | rfl
  ·rw [hk1.hp] at hc; injection hc with hc; injection hc with _ e1 _; simp [← e1]
  ·rw [hS1.cells] at hc; injection hc with hc; injection hc with _ e1 _; simp [← e1]
  ·rw [hz] at hc; injection hc with hc; injection hc with _ e1 _; simp [← e1]
 have hLk : L.length = k := by
  have h5 := congrArg List.length hS.s
  have hlt : k < ys.length := (List.getElem?_eq_some_iff.1 hy).1
  simp only [List.length_map, List.length_take] at h5
  omega
 have hkp : k < ps.length := by rw [hS.len]; exact hkc
 refine ⟨⟨ho.os.trans hk1.below.os, ho.tape.trans hk1.below.tape, ho.output.trans hk1.below.output, Nat.le_trans hk1.below.size ho.size, fun g hg => ?_⟩, h.gp0, h.gs0, h1, hty.keep hk1.med (by decide), hk1.at_.ty hty (by decide), ps.set k (pt gz 0), L ++ [(gz, { z with seq := p0.seq + k })], ?_⟩
 ·rw [ho.block g (Nat.lt_of_lt_of_le hg hk1.below.size) (by have := h.gp0; have := h.gs0; have := h.below.size; omega)]
  exact hk1.below.block g hg
 ·refine ⟨by rw [List.length_set]; exact hS.len, h2, ?_, ?_, ?_⟩
  ·intro i q hq
   rcases Nat.lt_or_ge i L.length with hlt | hge
   ·rw [List.getElem?_append_left hlt] at hq
    obtain ⟨q1, q2, q3, q4, q5⟩ := hS1.each i q hq
    have hq0 := (hS.each i q hq).2.1
    have hne1 : q.1 ≠ gp := fun e => by rw [e, hk1.hp] at q2; injection q2 with q2; injection q2 with _ e1 _; exact absurd e1 (by decide)
    have hne2 : q.1 ≠ gs := fun e => by rw [e, hS1.cells] at q2; injection q2 with q2; injection q2 with _ e1 _; exact absurd e1 (by decide)
    have hne3 : q.1 ≠ gz := fun e => by have := (Array.getElem?_eq_some_iff.1 hq0).1; omega
    refine ⟨by rw [List.getElem?_set_ne (by omega)]; exact q1, ?_, q3.ty hty (by decide), q4, q5⟩
    rw [ho.block q.1 (Array.getElem?_eq_some_iff.1 q2).1 (by rintro (e | e | e); exact hne1 e; exact hne2 e; exact hne3 e)]
    exact q2
   ·rw [List.getElem?_append_right hge] at hq
    have hi : i - L.length = 0 := by
     rcases Nat.eq_zero_or_pos (i - L.length) with e | e
     ·exact e
     ·rw [List.getElem?_eq_none (by simp only [List.length_cons, List.length_nil]; omega)] at hq; cases hq
    rw [hi] at hq
    obtain rfl := Option.some.inj hq
    have hik : i = k := by omega
    subst hik
    have hA : ({ z with seq := p0.seq + i } : Mz).At w' := by
     have := hzA.ty hty (by decide)
     exact ⟨this.k, this.m, this.c⟩
    exact ⟨by simp [hkp], h3, hA, rfl, by have := h.below.size; show w0.heap.size ≤ gz; omega⟩
  ·rw [List.map_append, hS.s, List.take_add_one, hy, List.map_append]
   simp [hzs]
  ·rw [List.map_append, hS.c, List.take_add_one, hy, List.map_append]
   simp [hzc]
theorem wm_step (h : WmI w0 p0 gp gs g2 B0 mc dl ys k w) {y : Iy} (hy : ys[k]? = some y) (hkc : k < p0.cap) (hcap : p0.cap ≤ 100000) (hseq : p0.seq < 4294967296) (hfl : (FloatKind.f64.format.order p0.tgt (e8 y.s.e) == some .lt) = false) {gz : Nat} {z : Mz} (hb : Below w.heap.size w w1) (hgz : w.heap.size ≤ gz) (hz : w1.heap[gz]? = some (.cells z.cells 104 (0, 0))) (hzA : z.At w1) (hzs : z.s = y.s) (hzc : z.c = y.c) :
  Calls Tryz.prog 16 #[pt gp 0, pt gz 0] w1 fun e w' => e = .returned .nilIface ∧ WmI w0 p0 gp gs g2 B0 mc dl ys (k + 1) w' := by
 obtain ⟨ps, L, hS⟩ := h.segs
 have hk1 := h.keep hb
 have hS1 := hS.keep hb
 have hfl' : (FloatKind.f64.format.order p0.tgt (e8 z.s.e) == some .lt) = false := by rw [hzs]; exact hfl
 have hp := hk1.hp
 unfold Pq.after at hp
 rw [Nat.mod_eq_of_lt hkc] at hp
 rcases Nat.eq_zero_or_pos k with h0 | hpos
 ·subst h0
  refine (append0_any p0 z gp gs gz ps hS.len hkc hcap (by omega) hfl' w1 hp hS1.cells hz).mono ?_
  rintro e w' ⟨rfl, h1, h2, h3, ho⟩
  exact ⟨rfl, h.next hy hkc hb hgz hz hzA hzs hzc hS h1 h2 h3 ho⟩
 ·have hLk : L.length = k := by
   have h5 := congrArg List.length hS.s
   have hlt : k < ys.length := (List.getElem?_eq_some_iff.1 hy).1
   simp only [List.length_map, List.length_take] at h5
   omega
  obtain ⟨q, hq⟩ : ∃ q, L[k - 1]? = some q := ⟨_, List.getElem?_eq_getElem (by omega)⟩
  obtain ⟨q1, q2, q3, q4, q5⟩ := hS1.each (k - 1) q hq
  have hq0 := (hS.each (k - 1) q hq).2.1
  have hne3 : q.1 ≠ gz := fun e => by have := (Array.getElem?_eq_some_iff.1 hq0).1; omega
  refine (append1_any p0 z gp gs gz k ps hS.len hkc hcap (by omega) hfl' w1 hp hS1.cells hz hpos q.1 q.2 q1 q2 hne3 (by omega)).mono ?_
  rintro e w' ⟨rfl, h1, h2, h3, ho⟩
  exact ⟨rfl, h.next hy hkc hb hgz hz hzA hzs hzc hS h1 h2 h3 ho⟩
end
end Go.Proofs.YtfonjeoiallhhaaGreatDoor
/- Triples for code that writes behind a bytes.Buffer, second part: drawn writes with any edges, tests by chains, blocks, a value kept in a slot. -/
set_option maxRecDepth 100000
namespace Go.Proofs.YtfonjeoiallhhaaGreatDoor
open Go.RowKit
section
variable {N m0 : Nat} {f : Nat → Value} {W : List UInt8 → World → Prop} {lim : Nat}
theorem Fr.weak {m1 : Nat} {f' : Nat → Value} {a : Act} (h : Fr N m1 f' a) (hm : m0 ≤ m1) (hf : ∀ t, t < m0 → f' t = f t) : Fr N m0 f a := ⟨h.size, h.defers, fun t ht => (h.low t (by omega)).trans (hf t ht)⟩
/-- A value kept in a slot, then code that reads it. -/
theorem Tr.bind {c d : Code} {t : Nat} {v : Value} {l : List UInt8} (h1 : Ts N m0 f W c t v) (ht : m0 ≤ t) (h2 : ∀ f', (∀ k, k < m0 → f' k = f k) → f' t = v → Tr N (t + 1) f' W lim d l) : Tr N m0 f W lim (c.seq d) l := by
 intro s a w hf hw hlim Q hQ
 refine wp_seq (h1 s a w hf hw _ fun a' w' hf' hw' hv => ?_)
 refine h2 (fun k => a'.eval (.tmp k)) (fun k hk => hf'.low k hk) hv s a' w' ⟨hf'.size, hf'.defers, fun _ _ => rfl⟩ hw' hlim Q fun a'' w'' hf'' hw'' => ?_
 exact hQ a'' w'' (hf''.weak (by omega) fun k hk => hf'.low k hk) hw''
theorem Tr.block {id : Nat} {c : Code} {l : List UInt8} (h : Tr N m0 f W lim c l) : Tr N m0 f W lim (.block id c) l :=
 fun s a w hf hw hlim Q hQ => wp_block (h s a w hf hw hlim _ hQ)
/-- A test whose answer is known. -/
theorem Tr.optF {c d : Code} {t : Nat} (h : Ts N m0 f W c t (.bool false)) : Tr N m0 f W lim (c.seq (.cond (.tmp t) d .skip)) [] := by
 have := Tr.opt (lim := lim) (d := d) (l := []) h (fun e => by cases e)
 exact this
theorem Tr.iteT {c d e : Code} {t : Nat} {l : List UInt8} (h : Ts N m0 f W c t (.bool true)) (h1 : Tr N m0 f W lim d l) : Tr N m0 f W lim (c.seq (.cond (.tmp t) d e)) l := by
 have := Tr.ite (lim := lim) (e := e) (m := l) h (fun _ => h1) (fun e => by cases e)
 exact this
theorem Tr.iteF {c d e : Code} {t : Nat} {l : List UInt8} (h : Ts N m0 f W c t (.bool false)) (h1 : Tr N m0 f W lim e l) : Tr N m0 f W lim (c.seq (.cond (.tmp t) d e)) l := by
 have := Tr.ite (lim := lim) (d := d) (l := l) h (fun e => by cases e) (fun _ => h1)
 exact this
end
theorem sp_at {W : List UInt8 → World → Prop} {o : Oper} {x : Operand} {f : Nat → Value} {t : Nat} {u v : Value} (h : f t = u) (hs : Sp W o x u v) : Sp W o x (f t) v := h ▸ hs
theorem sp_c {W : List UInt8 → World → Prop} {lim : Nat} {p : Addr} (H : Wr W lim p) {d : Option Nat} {q : Op} {ty : TypeId} {ps : String} {af : Array Edge} {fn : FuncId} {args : Array Value} {x : Operand} {u v : Value} (h : ∀ (a : Act) s w, W s w → a.eval x = u → (execOp a.eval ⟨d, q, ty, ps, af, none⟩).run Tryz.prog w = .ok (.enter fn args) w)
  (hc : ∀ s w, W s w → Calls Tryz.prog fn args w fun e w' => e = .returned v ∧ Below w.heap.size w w') : Sp W ⟨d, q, ty, ps, af, none⟩ x u v :=
 sp_call h fun s w hw => (hc s w hw).mono fun e w' ⟨he, hb⟩ => ⟨he, H.below s w w' hw hb, hb⟩
theorem tc1 {N m0 : Nat} {f : Nat → Value} {W : List UInt8 → World → Prop} {id tx d0 : Nat} {q0 : Op} {y0 : TypeId} {p0 : String} {e0 : Array Edge} {v0 : Value}
  (s0 : Sp W ⟨some d0, q0, y0, p0, e0, none⟩ (.tmp tx) (f tx) v0)
  (hm : tx < m0 ∧ m0 ≤ d0) (hN : d0 < N) :
  Ts N m0 f W (.region id #[⟨some d0, q0, y0, p0, e0, none⟩] false) d0 v0 := by
 intro s a w hf hw Q hQ
 obtain ⟨ht, m0⟩ := hm
 have n0 := hN
 refine wp_region_lit ?_
 have hx := hf.low tx ht
 refine chn_one s0 hx rfl m0 n0 hf hw ?_
 intro a w hf hw hx
 exact wpList_nil (hQ a w hf hw hx)
theorem tc2 {N m0 : Nat} {f : Nat → Value} {W : List UInt8 → World → Prop} {id tx d0 d1 : Nat} {q0 q1 : Op} {y0 y1 : TypeId} {p0 p1 : String} {e0 e1 : Array Edge} {v0 v1 : Value}
  (s0 : Sp W ⟨some d0, q0, y0, p0, e0, none⟩ (.tmp tx) (f tx) v0)
  (s1 : Sp W ⟨some d1, q1, y1, p1, e1, none⟩ (.tmp d0) v0 v1)
  (hm : tx < m0 ∧ m0 ≤ d0 ∧ m0 ≤ d1) (hN : d0 < N ∧ d1 < N) :
  Ts N m0 f W (.region id #[⟨some d0, q0, y0, p0, e0, none⟩, ⟨some d1, q1, y1, p1, e1, none⟩] false) d1 v1 := by
 intro s a w hf hw Q hQ
 obtain ⟨ht, m0, m1⟩ := hm
 obtain ⟨n0, n1⟩ := hN
 refine wp_region_lit ?_
 have hx := hf.low tx ht
 refine chn_one s0 hx rfl m0 n0 hf hw ?_
 intro a w hf hw hx
 refine chn_one s1 hx rfl m1 n1 hf hw ?_
 intro a w hf hw hx
 exact wpList_nil (hQ a w hf hw hx)
theorem tc4 {N m0 : Nat} {f : Nat → Value} {W : List UInt8 → World → Prop} {id tx d0 d1 d2 d3 : Nat} {q0 q1 q2 q3 : Op} {y0 y1 y2 y3 : TypeId} {p0 p1 p2 p3 : String} {e0 e1 e2 e3 : Array Edge} {v0 v1 v2 v3 : Value}
  (s0 : Sp W ⟨some d0, q0, y0, p0, e0, none⟩ (.tmp tx) (f tx) v0)
  (s1 : Sp W ⟨some d1, q1, y1, p1, e1, none⟩ (.tmp d0) v0 v1)
  (s2 : Sp W ⟨some d2, q2, y2, p2, e2, none⟩ (.tmp d1) v1 v2)
  (s3 : Sp W ⟨some d3, q3, y3, p3, e3, none⟩ (.tmp d2) v2 v3)
  (hm : tx < m0 ∧ m0 ≤ d0 ∧ m0 ≤ d1 ∧ m0 ≤ d2 ∧ m0 ≤ d3) (hN : d0 < N ∧ d1 < N ∧ d2 < N ∧ d3 < N) :
  Ts N m0 f W (.region id #[⟨some d0, q0, y0, p0, e0, none⟩, ⟨some d1, q1, y1, p1, e1, none⟩, ⟨some d2, q2, y2, p2, e2, none⟩, ⟨some d3, q3, y3, p3, e3, none⟩] false) d3 v3 := by
 intro s a w hf hw Q hQ
 obtain ⟨ht, m0, m1, m2, m3⟩ := hm
 obtain ⟨n0, n1, n2, n3⟩ := hN
 refine wp_region_lit ?_
 have hx := hf.low tx ht
 refine chn_one s0 hx rfl m0 n0 hf hw ?_
 intro a w hf hw hx
 refine chn_one s1 hx rfl m1 n1 hf hw ?_
 intro a w hf hw hx
 refine chn_one s2 hx rfl m2 n2 hf hw ?_
 intro a w hf hw hx
 refine chn_one s3 hx rfl m3 n3 hf hw ?_
 intro a w hf hw hx
 exact wpList_nil (hQ a w hf hw hx)
theorem tc5 {N m0 : Nat} {f : Nat → Value} {W : List UInt8 → World → Prop} {id tx d0 d1 d2 d3 d4 : Nat} {q0 q1 q2 q3 q4 : Op} {y0 y1 y2 y3 y4 : TypeId} {p0 p1 p2 p3 p4 : String} {e0 e1 e2 e3 e4 : Array Edge} {v0 v1 v2 v3 v4 : Value}
  (s0 : Sp W ⟨some d0, q0, y0, p0, e0, none⟩ (.tmp tx) (f tx) v0)
  (s1 : Sp W ⟨some d1, q1, y1, p1, e1, none⟩ (.tmp d0) v0 v1)
  (s2 : Sp W ⟨some d2, q2, y2, p2, e2, none⟩ (.tmp d1) v1 v2)
  (s3 : Sp W ⟨some d3, q3, y3, p3, e3, none⟩ (.tmp d2) v2 v3)
  (s4 : Sp W ⟨some d4, q4, y4, p4, e4, none⟩ (.tmp d3) v3 v4)
  (hm : tx < m0 ∧ m0 ≤ d0 ∧ m0 ≤ d1 ∧ m0 ≤ d2 ∧ m0 ≤ d3 ∧ m0 ≤ d4) (hN : d0 < N ∧ d1 < N ∧ d2 < N ∧ d3 < N ∧ d4 < N) :
  Ts N m0 f W (.region id #[⟨some d0, q0, y0, p0, e0, none⟩, ⟨some d1, q1, y1, p1, e1, none⟩, ⟨some d2, q2, y2, p2, e2, none⟩, ⟨some d3, q3, y3, p3, e3, none⟩, ⟨some d4, q4, y4, p4, e4, none⟩] false) d4 v4 := by
 intro s a w hf hw Q hQ
 obtain ⟨ht, m0, m1, m2, m3, m4⟩ := hm
 obtain ⟨n0, n1, n2, n3, n4⟩ := hN
 refine wp_region_lit ?_
 have hx := hf.low tx ht
 refine chn_one s0 hx rfl m0 n0 hf hw ?_
 intro a w hf hw hx
 refine chn_one s1 hx rfl m1 n1 hf hw ?_
 intro a w hf hw hx
 refine chn_one s2 hx rfl m2 n2 hf hw ?_
 intro a w hf hw hx
 refine chn_one s3 hx rfl m3 n3 hf hw ?_
 intro a w hf hw hx
 refine chn_one s4 hx rfl m4 n4 hf hw ?_
 intro a w hf hw hx
 exact wpList_nil (hQ a w hf hw hx)
theorem tc7 {N m0 : Nat} {f : Nat → Value} {W : List UInt8 → World → Prop} {id tx d0 d1 d2 d3 d4 d5 d6 : Nat} {q0 q1 q2 q3 q4 q5 q6 : Op} {y0 y1 y2 y3 y4 y5 y6 : TypeId} {p0 p1 p2 p3 p4 p5 p6 : String} {e0 e1 e2 e3 e4 e5 e6 : Array Edge} {v0 v1 v2 v3 v4 v5 v6 : Value}
  (s0 : Sp W ⟨some d0, q0, y0, p0, e0, none⟩ (.tmp tx) (f tx) v0)
  (s1 : Sp W ⟨some d1, q1, y1, p1, e1, none⟩ (.tmp d0) v0 v1)
  (s2 : Sp W ⟨some d2, q2, y2, p2, e2, none⟩ (.tmp d1) v1 v2)
  (s3 : Sp W ⟨some d3, q3, y3, p3, e3, none⟩ (.tmp d2) v2 v3)
  (s4 : Sp W ⟨some d4, q4, y4, p4, e4, none⟩ (.tmp d3) v3 v4)
  (s5 : Sp W ⟨some d5, q5, y5, p5, e5, none⟩ (.tmp d4) v4 v5)
  (s6 : Sp W ⟨some d6, q6, y6, p6, e6, none⟩ (.tmp d5) v5 v6)
  (hm : tx < m0 ∧ m0 ≤ d0 ∧ m0 ≤ d1 ∧ m0 ≤ d2 ∧ m0 ≤ d3 ∧ m0 ≤ d4 ∧ m0 ≤ d5 ∧ m0 ≤ d6) (hN : d0 < N ∧ d1 < N ∧ d2 < N ∧ d3 < N ∧ d4 < N ∧ d5 < N ∧ d6 < N) :
  Ts N m0 f W (.region id #[⟨some d0, q0, y0, p0, e0, none⟩, ⟨some d1, q1, y1, p1, e1, none⟩, ⟨some d2, q2, y2, p2, e2, none⟩, ⟨some d3, q3, y3, p3, e3, none⟩, ⟨some d4, q4, y4, p4, e4, none⟩, ⟨some d5, q5, y5, p5, e5, none⟩, ⟨some d6, q6, y6, p6, e6, none⟩] false) d6 v6 := by
 intro s a w hf hw Q hQ
 obtain ⟨ht, m0, m1, m2, m3, m4, m5, m6⟩ := hm
 obtain ⟨n0, n1, n2, n3, n4, n5, n6⟩ := hN
 refine wp_region_lit ?_
 have hx := hf.low tx ht
 refine chn_one s0 hx rfl m0 n0 hf hw ?_
 intro a w hf hw hx
 refine chn_one s1 hx rfl m1 n1 hf hw ?_
 intro a w hf hw hx
 refine chn_one s2 hx rfl m2 n2 hf hw ?_
 intro a w hf hw hx
 refine chn_one s3 hx rfl m3 n3 hf hw ?_
 intro a w hf hw hx
 refine chn_one s4 hx rfl m4 n4 hf hw ?_
 intro a w hf hw hx
 refine chn_one s5 hx rfl m5 n5 hf hw ?_
 intro a w hf hw hx
 refine chn_one s6 hx rfl m6 n6 hf hw ?_
 intro a w hf hw hx
 exact wpList_nil (hQ a w hf hw hx)
theorem tc8 {N m0 : Nat} {f : Nat → Value} {W : List UInt8 → World → Prop} {id tx d0 d1 d2 d3 d4 d5 d6 d7 : Nat} {q0 q1 q2 q3 q4 q5 q6 q7 : Op} {y0 y1 y2 y3 y4 y5 y6 y7 : TypeId} {p0 p1 p2 p3 p4 p5 p6 p7 : String} {e0 e1 e2 e3 e4 e5 e6 e7 : Array Edge} {v0 v1 v2 v3 v4 v5 v6 v7 : Value}
  (s0 : Sp W ⟨some d0, q0, y0, p0, e0, none⟩ (.tmp tx) (f tx) v0)
  (s1 : Sp W ⟨some d1, q1, y1, p1, e1, none⟩ (.tmp d0) v0 v1)
  (s2 : Sp W ⟨some d2, q2, y2, p2, e2, none⟩ (.tmp d1) v1 v2)
  (s3 : Sp W ⟨some d3, q3, y3, p3, e3, none⟩ (.tmp d2) v2 v3)
  (s4 : Sp W ⟨some d4, q4, y4, p4, e4, none⟩ (.tmp d3) v3 v4)
  (s5 : Sp W ⟨some d5, q5, y5, p5, e5, none⟩ (.tmp d4) v4 v5)
  (s6 : Sp W ⟨some d6, q6, y6, p6, e6, none⟩ (.tmp d5) v5 v6)
  (s7 : Sp W ⟨some d7, q7, y7, p7, e7, none⟩ (.tmp d6) v6 v7)
  (hm : tx < m0 ∧ m0 ≤ d0 ∧ m0 ≤ d1 ∧ m0 ≤ d2 ∧ m0 ≤ d3 ∧ m0 ≤ d4 ∧ m0 ≤ d5 ∧ m0 ≤ d6 ∧ m0 ≤ d7) (hN : d0 < N ∧ d1 < N ∧ d2 < N ∧ d3 < N ∧ d4 < N ∧ d5 < N ∧ d6 < N ∧ d7 < N) :
  Ts N m0 f W (.region id #[⟨some d0, q0, y0, p0, e0, none⟩, ⟨some d1, q1, y1, p1, e1, none⟩, ⟨some d2, q2, y2, p2, e2, none⟩, ⟨some d3, q3, y3, p3, e3, none⟩, ⟨some d4, q4, y4, p4, e4, none⟩, ⟨some d5, q5, y5, p5, e5, none⟩, ⟨some d6, q6, y6, p6, e6, none⟩, ⟨some d7, q7, y7, p7, e7, none⟩] false) d7 v7 := by
 intro s a w hf hw Q hQ
 obtain ⟨ht, m0, m1, m2, m3, m4, m5, m6, m7⟩ := hm
 obtain ⟨n0, n1, n2, n3, n4, n5, n6, n7⟩ := hN
 refine wp_region_lit ?_
 have hx := hf.low tx ht
 refine chn_one s0 hx rfl m0 n0 hf hw ?_
 intro a w hf hw hx
 refine chn_one s1 hx rfl m1 n1 hf hw ?_
 intro a w hf hw hx
 refine chn_one s2 hx rfl m2 n2 hf hw ?_
 intro a w hf hw hx
 refine chn_one s3 hx rfl m3 n3 hf hw ?_
 intro a w hf hw hx
 refine chn_one s4 hx rfl m4 n4 hf hw ?_
 intro a w hf hw hx
 refine chn_one s5 hx rfl m5 n5 hf hw ?_
 intro a w hf hw hx
 refine chn_one s6 hx rfl m6 n6 hf hw ?_
 intro a w hf hw hx
 refine chn_one s7 hx rfl m7 n7 hf hw ?_
 intro a w hf hw hx
 exact wpList_nil (hQ a w hf hw hx)
theorem tg8 {N m0 : Nat} {f : Nat → Value} {W : List UInt8 → World → Prop} {lim : Nat} {p : Addr} {x : ByteArray} (H : Wr W lim p) {id tp tx d0 d1 d2 d3 d4 d5 d6 d7 : Nat} {q0 q1 q2 q3 q4 q5 q6 : Op} {y0 y1 y2 y3 y4 y5 y6 y7 : TypeId} {p0 p1 p2 p3 p4 p5 p6 p7 : String} {e0 e1 e2 e3 e4 e5 e6 e7 : Array Edge} {atf : Array TypeId} {v0 v1 v3 v4 v5 : Value}
  {ops : List Oper} (hops : ops = [⟨some d0, q0, y0, p0, e0, none⟩, ⟨some d1, q1, y1, p1, e1, none⟩, ⟨some d2, q2, y2, p2, e2, none⟩, ⟨some d3, q3, y3, p3, e3, none⟩, ⟨some d4, q4, y4, p4, e4, none⟩, ⟨some d5, q5, y5, p5, e5, none⟩, ⟨some d6, q6, y6, p6, e6, none⟩, ⟨some d7, .call { callee := .value (.func 51), args := #[.tmp d2, .tmp d6], argTypes := atf }, y7, p7, e7, none⟩])
  (s0 : Sp W ⟨some d0, q0, y0, p0, e0, none⟩ (.tmp tp) (f tp) v0)
  (s1 : Sp W ⟨some d1, q1, y1, p1, e1, none⟩ (.tmp d0) v0 v1)
  (s2 : Sp W ⟨some d2, q2, y2, p2, e2, none⟩ (.tmp d1) v1 (.pointer (some p)))
  (s3 : Sp W ⟨some d3, q3, y3, p3, e3, none⟩ (.tmp tx) (f tx) v3)
  (s4 : Sp W ⟨some d4, q4, y4, p4, e4, none⟩ (.tmp d3) v3 v4)
  (s5 : Sp W ⟨some d5, q5, y5, p5, e5, none⟩ (.tmp d4) v4 v5)
  (s6 : Sp W ⟨some d6, q6, y6, p6, e6, none⟩ (.tmp d5) v5 (.string x))
  (hm : tp < m0 ∧ tx < m0) (hok : ogOk ops.toArray = true) (ht : ogTail ops.toArray 7 = true) (hfit : ogFit ops.toArray [] N = true) (hlow : lowOk ops.toArray m0 = true) (hah : ahead ops.toArray 1 0 = true ∧ ahead ops.toArray 2 1 = true ∧ ahead ops.toArray 4 3 = true ∧ ahead ops.toArray 5 4 = true ∧ ahead ops.toArray 6 5 = true) :
  Tr N m0 f W lim (.region id ops.toArray true) x.data.toList := by
 subst hops
 intro s a0 w hf hw hlim Q hQ
 obtain ⟨a1, a2, a4, a5, a6⟩ := hah
 have hfit' : ogFit ([⟨some d0, q0, y0, p0, e0, none⟩, ⟨some d1, q1, y1, p1, e1, none⟩, ⟨some d2, q2, y2, p2, e2, none⟩, ⟨some d3, q3, y3, p3, e3, none⟩, ⟨some d4, q4, y4, p4, e4, none⟩, ⟨some d5, q5, y5, p5, e5, none⟩, ⟨some d6, q6, y6, p6, e6, none⟩, ⟨some d7, .call { callee := .value (.func 51), args := #[.tmp d2, .tmp d6], argTypes := atf }, y7, p7, e7, none⟩] : List Oper).toArray [Asr.eq v0, Asr.eq v1, Asr.eq (.pointer (some p)), Asr.eq v3, Asr.eq v4, Asr.eq v5, Asr.eq (.string x)] N = true := hfit
 refine wp_region_og1 (n := N) 7 [Asr.eq v0, Asr.eq v1, Asr.eq (.pointer (some p)), Asr.eq v3, Asr.eq v4, Asr.eq v5, Asr.eq (.string x)] (by kernel_rfl) hok ht (by simp) hfit' hf.size ⟨⟩ ?_ ?_
 ·simp only [List.take_succ_cons, List.take_zero]
  refine ⟨?_, ?_, ?_, ?_, ?_, ?_, ?_, trivial⟩
  ·intro a wx c
   have e := (c.outLow hlow hm.1).trans (hf.low tp hm.1)
   exact s0.run s a wx _ _ (H.below _ _ _ hw (only_below c.only)) e fun w' _ hb => ⟨_, rfl, Only.of_below hb, rfl⟩
  ·intro a wx c
   have e : a.eval (.tmp d0) = v0 := c.slot 0 _ a1 rfl
   exact s1.run s a wx _ _ (H.below _ _ _ hw (only_below c.only)) e fun w' _ hb => ⟨_, rfl, Only.of_below hb, rfl⟩
  ·intro a wx c
   have e : a.eval (.tmp d1) = v1 := c.slot 1 _ a2 rfl
   exact s2.run s a wx _ _ (H.below _ _ _ hw (only_below c.only)) e fun w' _ hb => ⟨_, rfl, Only.of_below hb, rfl⟩
  ·intro a wx c
   have e := (c.outLow hlow hm.2).trans (hf.low tx hm.2)
   exact s3.run s a wx _ _ (H.below _ _ _ hw (only_below c.only)) e fun w' _ hb => ⟨_, rfl, Only.of_below hb, rfl⟩
  ·intro a wx c
   have e : a.eval (.tmp d3) = v3 := c.slot 3 _ a4 rfl
   exact s4.run s a wx _ _ (H.below _ _ _ hw (only_below c.only)) e fun w' _ hb => ⟨_, rfl, Only.of_below hb, rfl⟩
  ·intro a wx c
   have e : a.eval (.tmp d4) = v4 := c.slot 4 _ a5 rfl
   exact s5.run s a wx _ _ (H.below _ _ _ hw (only_below c.only)) e fun w' _ hb => ⟨_, rfl, Only.of_below hb, rfl⟩
  ·intro a wx c
   have e : a.eval (.tmp d5) = v5 := c.slot 5 _ a6 rfl
   exact s6.run s a wx _ _ (H.below _ _ _ hw (only_below c.only)) e fun w' _ hb => ⟨_, rfl, Only.of_below hb, rfl⟩
 ·intro a w1 c hb
  have hw1 := H.below _ _ _ hw hb
  have e2 : a.eval (.tmp d2) = .pointer (some p) := c.slot 2 _ (by decide) rfl
  have e9 : a.eval (.tmp d6) = .string x := c.slot 6 _ (by decide) rfl
  have hf1 := c.fr hlow hf
  have hd : m0 ≤ d7 := lowOk_spec hlow (j := 7) rfl rfl
  simp only [List.drop_succ_cons, List.drop_zero]
  refine wpList_plain rfl fun K hK => ?_
  unfold Oper.wp
  simp only [execOp, resolve, List.map_toArray, List.map_cons, List.map_nil, e2, e9]
  go_simp
  refine (H.ws s w1 x hw1 hlim).mono ?_
  rintro e w' ⟨⟨v, rfl⟩, hw'⟩
  exact hK _ _ (wpList_nil (hQ _ _ (hf1.put hd) hw'))
theorem tg9 {N m0 : Nat} {f : Nat → Value} {W : List UInt8 → World → Prop} {lim : Nat} {p : Addr} {x : ByteArray} (H : Wr W lim p) {id tp tx d0 d1 d2 d3 d4 d5 d6 d7 d8 : Nat} {q0 q1 q2 q3 q4 q5 q6 q7 : Op} {y0 y1 y2 y3 y4 y5 y6 y7 y8 : TypeId} {p0 p1 p2 p3 p4 p5 p6 p7 p8 : String} {e0 e1 e2 e3 e4 e5 e6 e7 e8 : Array Edge} {atf : Array TypeId} {v0 v1 v3 v4 v5 v6 : Value}
  {ops : List Oper} (hops : ops = [⟨some d0, q0, y0, p0, e0, none⟩, ⟨some d1, q1, y1, p1, e1, none⟩, ⟨some d2, q2, y2, p2, e2, none⟩, ⟨some d3, q3, y3, p3, e3, none⟩, ⟨some d4, q4, y4, p4, e4, none⟩, ⟨some d5, q5, y5, p5, e5, none⟩, ⟨some d6, q6, y6, p6, e6, none⟩, ⟨some d7, q7, y7, p7, e7, none⟩, ⟨some d8, .call { callee := .value (.func 51), args := #[.tmp d2, .tmp d7], argTypes := atf }, y8, p8, e8, none⟩])
  (s0 : Sp W ⟨some d0, q0, y0, p0, e0, none⟩ (.tmp tp) (f tp) v0)
  (s1 : Sp W ⟨some d1, q1, y1, p1, e1, none⟩ (.tmp d0) v0 v1)
  (s2 : Sp W ⟨some d2, q2, y2, p2, e2, none⟩ (.tmp d1) v1 (.pointer (some p)))
  (s3 : Sp W ⟨some d3, q3, y3, p3, e3, none⟩ (.tmp tx) (f tx) v3)
  (s4 : Sp W ⟨some d4, q4, y4, p4, e4, none⟩ (.tmp d3) v3 v4)
  (s5 : Sp W ⟨some d5, q5, y5, p5, e5, none⟩ (.tmp d4) v4 v5)
  (s6 : Sp W ⟨some d6, q6, y6, p6, e6, none⟩ (.tmp d5) v5 v6)
  (s7 : Sp W ⟨some d7, q7, y7, p7, e7, none⟩ (.tmp d6) v6 (.string x))
  (hm : tp < m0 ∧ tx < m0) (hok : ogOk ops.toArray = true) (ht : ogTail ops.toArray 8 = true) (hfit : ogFit ops.toArray [] N = true) (hlow : lowOk ops.toArray m0 = true) (hah : ahead ops.toArray 1 0 = true ∧ ahead ops.toArray 2 1 = true ∧ ahead ops.toArray 4 3 = true ∧ ahead ops.toArray 5 4 = true ∧ ahead ops.toArray 6 5 = true ∧ ahead ops.toArray 7 6 = true) :
  Tr N m0 f W lim (.region id ops.toArray true) x.data.toList := by
 subst hops
 intro s a0 w hf hw hlim Q hQ
 obtain ⟨a1, a2, a4, a5, a6, a7⟩ := hah
 have hfit' : ogFit ([⟨some d0, q0, y0, p0, e0, none⟩, ⟨some d1, q1, y1, p1, e1, none⟩, ⟨some d2, q2, y2, p2, e2, none⟩, ⟨some d3, q3, y3, p3, e3, none⟩, ⟨some d4, q4, y4, p4, e4, none⟩, ⟨some d5, q5, y5, p5, e5, none⟩, ⟨some d6, q6, y6, p6, e6, none⟩, ⟨some d7, q7, y7, p7, e7, none⟩, ⟨some d8, .call { callee := .value (.func 51), args := #[.tmp d2, .tmp d7], argTypes := atf }, y8, p8, e8, none⟩] : List Oper).toArray [Asr.eq v0, Asr.eq v1, Asr.eq (.pointer (some p)), Asr.eq v3, Asr.eq v4, Asr.eq v5, Asr.eq v6, Asr.eq (.string x)] N = true := hfit
 refine wp_region_og1 (n := N) 8 [Asr.eq v0, Asr.eq v1, Asr.eq (.pointer (some p)), Asr.eq v3, Asr.eq v4, Asr.eq v5, Asr.eq v6, Asr.eq (.string x)] (by kernel_rfl) hok ht (by simp) hfit' hf.size ⟨⟩ ?_ ?_
 ·simp only [List.take_succ_cons, List.take_zero]
  refine ⟨?_, ?_, ?_, ?_, ?_, ?_, ?_, ?_, trivial⟩
  ·intro a wx c
   have e := (c.outLow hlow hm.1).trans (hf.low tp hm.1)
   exact s0.run s a wx _ _ (H.below _ _ _ hw (only_below c.only)) e fun w' _ hb => ⟨_, rfl, Only.of_below hb, rfl⟩
  ·intro a wx c
   have e : a.eval (.tmp d0) = v0 := c.slot 0 _ a1 rfl
   exact s1.run s a wx _ _ (H.below _ _ _ hw (only_below c.only)) e fun w' _ hb => ⟨_, rfl, Only.of_below hb, rfl⟩
  ·intro a wx c
   have e : a.eval (.tmp d1) = v1 := c.slot 1 _ a2 rfl
   exact s2.run s a wx _ _ (H.below _ _ _ hw (only_below c.only)) e fun w' _ hb => ⟨_, rfl, Only.of_below hb, rfl⟩
  ·intro a wx c
   have e := (c.outLow hlow hm.2).trans (hf.low tx hm.2)
   exact s3.run s a wx _ _ (H.below _ _ _ hw (only_below c.only)) e fun w' _ hb => ⟨_, rfl, Only.of_below hb, rfl⟩
  ·intro a wx c
   have e : a.eval (.tmp d3) = v3 := c.slot 3 _ a4 rfl
   exact s4.run s a wx _ _ (H.below _ _ _ hw (only_below c.only)) e fun w' _ hb => ⟨_, rfl, Only.of_below hb, rfl⟩
  ·intro a wx c
   have e : a.eval (.tmp d4) = v4 := c.slot 4 _ a5 rfl
   exact s5.run s a wx _ _ (H.below _ _ _ hw (only_below c.only)) e fun w' _ hb => ⟨_, rfl, Only.of_below hb, rfl⟩
  ·intro a wx c
   have e : a.eval (.tmp d5) = v5 := c.slot 5 _ a6 rfl
   exact s6.run s a wx _ _ (H.below _ _ _ hw (only_below c.only)) e fun w' _ hb => ⟨_, rfl, Only.of_below hb, rfl⟩
  ·intro a wx c
   have e : a.eval (.tmp d6) = v6 := c.slot 6 _ a7 rfl
   exact s7.run s a wx _ _ (H.below _ _ _ hw (only_below c.only)) e fun w' _ hb => ⟨_, rfl, Only.of_below hb, rfl⟩
 ·intro a w1 c hb
  have hw1 := H.below _ _ _ hw hb
  have e2 : a.eval (.tmp d2) = .pointer (some p) := c.slot 2 _ (by decide) rfl
  have e9 : a.eval (.tmp d7) = .string x := c.slot 7 _ (by decide) rfl
  have hf1 := c.fr hlow hf
  have hd : m0 ≤ d8 := lowOk_spec hlow (j := 8) rfl rfl
  simp only [List.drop_succ_cons, List.drop_zero]
  refine wpList_plain rfl fun K hK => ?_
  unfold Oper.wp
  simp only [execOp, resolve, List.map_toArray, List.map_cons, List.map_nil, e2, e9]
  go_simp
  refine (H.ws s w1 x hw1 hlim).mono ?_
  rintro e w' ⟨⟨v, rfl⟩, hw'⟩
  exact hK _ _ (wpList_nil (hQ _ _ (hf1.put hd) hw'))
theorem tg11 {N m0 : Nat} {f : Nat → Value} {W : List UInt8 → World → Prop} {lim : Nat} {p : Addr} {x : ByteArray} (H : Wr W lim p) {id tp tx d0 d1 d2 d3 d4 d5 d6 d7 d8 d9 d10 : Nat} {q0 q1 q2 q3 q4 q5 q6 q7 q8 q9 : Op} {y0 y1 y2 y3 y4 y5 y6 y7 y8 y9 y10 : TypeId} {p0 p1 p2 p3 p4 p5 p6 p7 p8 p9 p10 : String} {e0 e1 e2 e3 e4 e5 e6 e7 e8 e9 e10 : Array Edge} {atf : Array TypeId} {v0 v1 v3 v4 v5 v6 v7 v8 : Value}
  {ops : List Oper} (hops : ops = [⟨some d0, q0, y0, p0, e0, none⟩, ⟨some d1, q1, y1, p1, e1, none⟩, ⟨some d2, q2, y2, p2, e2, none⟩, ⟨some d3, q3, y3, p3, e3, none⟩, ⟨some d4, q4, y4, p4, e4, none⟩, ⟨some d5, q5, y5, p5, e5, none⟩, ⟨some d6, q6, y6, p6, e6, none⟩, ⟨some d7, q7, y7, p7, e7, none⟩, ⟨some d8, q8, y8, p8, e8, none⟩, ⟨some d9, q9, y9, p9, e9, none⟩, ⟨some d10, .call { callee := .value (.func 51), args := #[.tmp d2, .tmp d9], argTypes := atf }, y10, p10, e10, none⟩])
  (s0 : Sp W ⟨some d0, q0, y0, p0, e0, none⟩ (.tmp tp) (f tp) v0)
  (s1 : Sp W ⟨some d1, q1, y1, p1, e1, none⟩ (.tmp d0) v0 v1)
  (s2 : Sp W ⟨some d2, q2, y2, p2, e2, none⟩ (.tmp d1) v1 (.pointer (some p)))
  (s3 : Sp W ⟨some d3, q3, y3, p3, e3, none⟩ (.tmp tx) (f tx) v3)
  (s4 : Sp W ⟨some d4, q4, y4, p4, e4, none⟩ (.tmp d3) v3 v4)
  (s5 : Sp W ⟨some d5, q5, y5, p5, e5, none⟩ (.tmp d4) v4 v5)
  (s6 : Sp W ⟨some d6, q6, y6, p6, e6, none⟩ (.tmp d5) v5 v6)
  (s7 : Sp W ⟨some d7, q7, y7, p7, e7, none⟩ (.tmp d6) v6 v7)
  (s8 : Sp W ⟨some d8, q8, y8, p8, e8, none⟩ (.tmp d7) v7 v8)
  (s9 : Sp W ⟨some d9, q9, y9, p9, e9, none⟩ (.tmp d8) v8 (.string x))
  (hm : tp < m0 ∧ tx < m0) (hok : ogOk ops.toArray = true) (ht : ogTail ops.toArray 10 = true) (hfit : ogFit ops.toArray [] N = true) (hlow : lowOk ops.toArray m0 = true) (hah : ahead ops.toArray 1 0 = true ∧ ahead ops.toArray 2 1 = true ∧ ahead ops.toArray 4 3 = true ∧ ahead ops.toArray 5 4 = true ∧ ahead ops.toArray 6 5 = true ∧ ahead ops.toArray 7 6 = true ∧ ahead ops.toArray 8 7 = true ∧ ahead ops.toArray 9 8 = true) :
  Tr N m0 f W lim (.region id ops.toArray true) x.data.toList := by
 subst hops
 intro s a0 w hf hw hlim Q hQ
 obtain ⟨a1, a2, a4, a5, a6, a7, a8, a9⟩ := hah
 have hfit' : ogFit ([⟨some d0, q0, y0, p0, e0, none⟩, ⟨some d1, q1, y1, p1, e1, none⟩, ⟨some d2, q2, y2, p2, e2, none⟩, ⟨some d3, q3, y3, p3, e3, none⟩, ⟨some d4, q4, y4, p4, e4, none⟩, ⟨some d5, q5, y5, p5, e5, none⟩, ⟨some d6, q6, y6, p6, e6, none⟩, ⟨some d7, q7, y7, p7, e7, none⟩, ⟨some d8, q8, y8, p8, e8, none⟩, ⟨some d9, q9, y9, p9, e9, none⟩, ⟨some d10, .call { callee := .value (.func 51), args := #[.tmp d2, .tmp d9], argTypes := atf }, y10, p10, e10, none⟩] : List Oper).toArray [Asr.eq v0, Asr.eq v1, Asr.eq (.pointer (some p)), Asr.eq v3, Asr.eq v4, Asr.eq v5, Asr.eq v6, Asr.eq v7, Asr.eq v8, Asr.eq (.string x)] N = true := hfit
 refine wp_region_og1 (n := N) 10 [Asr.eq v0, Asr.eq v1, Asr.eq (.pointer (some p)), Asr.eq v3, Asr.eq v4, Asr.eq v5, Asr.eq v6, Asr.eq v7, Asr.eq v8, Asr.eq (.string x)] (by kernel_rfl) hok ht (by simp) hfit' hf.size ⟨⟩ ?_ ?_
 ·simp only [List.take_succ_cons, List.take_zero]
  refine ⟨?_, ?_, ?_, ?_, ?_, ?_, ?_, ?_, ?_, ?_, trivial⟩
  ·intro a wx c
   have e := (c.outLow hlow hm.1).trans (hf.low tp hm.1)
   exact s0.run s a wx _ _ (H.below _ _ _ hw (only_below c.only)) e fun w' _ hb => ⟨_, rfl, Only.of_below hb, rfl⟩
  ·intro a wx c
   have e : a.eval (.tmp d0) = v0 := c.slot 0 _ a1 rfl
   exact s1.run s a wx _ _ (H.below _ _ _ hw (only_below c.only)) e fun w' _ hb => ⟨_, rfl, Only.of_below hb, rfl⟩
  ·intro a wx c
   have e : a.eval (.tmp d1) = v1 := c.slot 1 _ a2 rfl
   exact s2.run s a wx _ _ (H.below _ _ _ hw (only_below c.only)) e fun w' _ hb => ⟨_, rfl, Only.of_below hb, rfl⟩
  ·intro a wx c
   have e := (c.outLow hlow hm.2).trans (hf.low tx hm.2)
   exact s3.run s a wx _ _ (H.below _ _ _ hw (only_below c.only)) e fun w' _ hb => ⟨_, rfl, Only.of_below hb, rfl⟩
  ·intro a wx c
   have e : a.eval (.tmp d3) = v3 := c.slot 3 _ a4 rfl
   exact s4.run s a wx _ _ (H.below _ _ _ hw (only_below c.only)) e fun w' _ hb => ⟨_, rfl, Only.of_below hb, rfl⟩
  ·intro a wx c
   have e : a.eval (.tmp d4) = v4 := c.slot 4 _ a5 rfl
   exact s5.run s a wx _ _ (H.below _ _ _ hw (only_below c.only)) e fun w' _ hb => ⟨_, rfl, Only.of_below hb, rfl⟩
  ·intro a wx c
   have e : a.eval (.tmp d5) = v5 := c.slot 5 _ a6 rfl
   exact s6.run s a wx _ _ (H.below _ _ _ hw (only_below c.only)) e fun w' _ hb => ⟨_, rfl, Only.of_below hb, rfl⟩
  ·intro a wx c
   have e : a.eval (.tmp d6) = v6 := c.slot 6 _ a7 rfl
   exact s7.run s a wx _ _ (H.below _ _ _ hw (only_below c.only)) e fun w' _ hb => ⟨_, rfl, Only.of_below hb, rfl⟩
  ·intro a wx c
   have e : a.eval (.tmp d7) = v7 := c.slot 7 _ a8 rfl
   exact s8.run s a wx _ _ (H.below _ _ _ hw (only_below c.only)) e fun w' _ hb => ⟨_, rfl, Only.of_below hb, rfl⟩
  ·intro a wx c
   have e : a.eval (.tmp d8) = v8 := c.slot 8 _ a9 rfl
   exact s9.run s a wx _ _ (H.below _ _ _ hw (only_below c.only)) e fun w' _ hb => ⟨_, rfl, Only.of_below hb, rfl⟩
 ·intro a w1 c hb
  have hw1 := H.below _ _ _ hw hb
  have e2 : a.eval (.tmp d2) = .pointer (some p) := c.slot 2 _ (by decide) rfl
  have e9 : a.eval (.tmp d9) = .string x := c.slot 9 _ (by decide) rfl
  have hf1 := c.fr hlow hf
  have hd : m0 ≤ d10 := lowOk_spec hlow (j := 10) rfl rfl
  simp only [List.drop_succ_cons, List.drop_zero]
  refine wpList_plain rfl fun K hK => ?_
  unfold Oper.wp
  simp only [execOp, resolve, List.map_toArray, List.map_cons, List.map_nil, e2, e9]
  go_simp
  refine (H.ws s w1 x hw1 hlim).mono ?_
  rintro e w' ⟨⟨v, rfl⟩, hw'⟩
  exact hK _ _ (wpList_nil (hQ _ _ (hf1.put hd) hw'))
theorem tg12 {N m0 : Nat} {f : Nat → Value} {W : List UInt8 → World → Prop} {lim : Nat} {p : Addr} {x : ByteArray} (H : Wr W lim p) {id tp tx d0 d1 d2 d3 d4 d5 d6 d7 d8 d9 d10 d11 : Nat} {q0 q1 q2 q3 q4 q5 q6 q7 q8 q9 q10 : Op} {y0 y1 y2 y3 y4 y5 y6 y7 y8 y9 y10 y11 : TypeId} {p0 p1 p2 p3 p4 p5 p6 p7 p8 p9 p10 p11 : String} {e0 e1 e2 e3 e4 e5 e6 e7 e8 e9 e10 e11 : Array Edge} {atf : Array TypeId} {v0 v1 v3 v4 v5 v6 v7 v8 v9 : Value}
  {ops : List Oper} (hops : ops = [⟨some d0, q0, y0, p0, e0, none⟩, ⟨some d1, q1, y1, p1, e1, none⟩, ⟨some d2, q2, y2, p2, e2, none⟩, ⟨some d3, q3, y3, p3, e3, none⟩, ⟨some d4, q4, y4, p4, e4, none⟩, ⟨some d5, q5, y5, p5, e5, none⟩, ⟨some d6, q6, y6, p6, e6, none⟩, ⟨some d7, q7, y7, p7, e7, none⟩, ⟨some d8, q8, y8, p8, e8, none⟩, ⟨some d9, q9, y9, p9, e9, none⟩, ⟨some d10, q10, y10, p10, e10, none⟩, ⟨some d11, .call { callee := .value (.func 51), args := #[.tmp d2, .tmp d10], argTypes := atf }, y11, p11, e11, none⟩])
  (s0 : Sp W ⟨some d0, q0, y0, p0, e0, none⟩ (.tmp tp) (f tp) v0)
  (s1 : Sp W ⟨some d1, q1, y1, p1, e1, none⟩ (.tmp d0) v0 v1)
  (s2 : Sp W ⟨some d2, q2, y2, p2, e2, none⟩ (.tmp d1) v1 (.pointer (some p)))
  (s3 : Sp W ⟨some d3, q3, y3, p3, e3, none⟩ (.tmp tx) (f tx) v3)
  (s4 : Sp W ⟨some d4, q4, y4, p4, e4, none⟩ (.tmp d3) v3 v4)
  (s5 : Sp W ⟨some d5, q5, y5, p5, e5, none⟩ (.tmp d4) v4 v5)
  (s6 : Sp W ⟨some d6, q6, y6, p6, e6, none⟩ (.tmp d5) v5 v6)
  (s7 : Sp W ⟨some d7, q7, y7, p7, e7, none⟩ (.tmp d6) v6 v7)
  (s8 : Sp W ⟨some d8, q8, y8, p8, e8, none⟩ (.tmp d7) v7 v8)
  (s9 : Sp W ⟨some d9, q9, y9, p9, e9, none⟩ (.tmp d8) v8 v9)
  (s10 : Sp W ⟨some d10, q10, y10, p10, e10, none⟩ (.tmp d9) v9 (.string x))
  (hm : tp < m0 ∧ tx < m0) (hok : ogOk ops.toArray = true) (ht : ogTail ops.toArray 11 = true) (hfit : ogFit ops.toArray [] N = true) (hlow : lowOk ops.toArray m0 = true) (hah : ahead ops.toArray 1 0 = true ∧ ahead ops.toArray 2 1 = true ∧ ahead ops.toArray 4 3 = true ∧ ahead ops.toArray 5 4 = true ∧ ahead ops.toArray 6 5 = true ∧ ahead ops.toArray 7 6 = true ∧ ahead ops.toArray 8 7 = true ∧ ahead ops.toArray 9 8 = true ∧ ahead ops.toArray 10 9 = true) :
  Tr N m0 f W lim (.region id ops.toArray true) x.data.toList := by
 subst hops
 intro s a0 w hf hw hlim Q hQ
 obtain ⟨a1, a2, a4, a5, a6, a7, a8, a9, a10⟩ := hah
 have hfit' : ogFit ([⟨some d0, q0, y0, p0, e0, none⟩, ⟨some d1, q1, y1, p1, e1, none⟩, ⟨some d2, q2, y2, p2, e2, none⟩, ⟨some d3, q3, y3, p3, e3, none⟩, ⟨some d4, q4, y4, p4, e4, none⟩, ⟨some d5, q5, y5, p5, e5, none⟩, ⟨some d6, q6, y6, p6, e6, none⟩, ⟨some d7, q7, y7, p7, e7, none⟩, ⟨some d8, q8, y8, p8, e8, none⟩, ⟨some d9, q9, y9, p9, e9, none⟩, ⟨some d10, q10, y10, p10, e10, none⟩, ⟨some d11, .call { callee := .value (.func 51), args := #[.tmp d2, .tmp d10], argTypes := atf }, y11, p11, e11, none⟩] : List Oper).toArray [Asr.eq v0, Asr.eq v1, Asr.eq (.pointer (some p)), Asr.eq v3, Asr.eq v4, Asr.eq v5, Asr.eq v6, Asr.eq v7, Asr.eq v8, Asr.eq v9, Asr.eq (.string x)] N = true := hfit
 refine wp_region_og1 (n := N) 11 [Asr.eq v0, Asr.eq v1, Asr.eq (.pointer (some p)), Asr.eq v3, Asr.eq v4, Asr.eq v5, Asr.eq v6, Asr.eq v7, Asr.eq v8, Asr.eq v9, Asr.eq (.string x)] (by kernel_rfl) hok ht (by simp) hfit' hf.size ⟨⟩ ?_ ?_
 ·simp only [List.take_succ_cons, List.take_zero]
  refine ⟨?_, ?_, ?_, ?_, ?_, ?_, ?_, ?_, ?_, ?_, ?_, trivial⟩
  ·intro a wx c
   have e := (c.outLow hlow hm.1).trans (hf.low tp hm.1)
   exact s0.run s a wx _ _ (H.below _ _ _ hw (only_below c.only)) e fun w' _ hb => ⟨_, rfl, Only.of_below hb, rfl⟩
  ·intro a wx c
   have e : a.eval (.tmp d0) = v0 := c.slot 0 _ a1 rfl
   exact s1.run s a wx _ _ (H.below _ _ _ hw (only_below c.only)) e fun w' _ hb => ⟨_, rfl, Only.of_below hb, rfl⟩
  ·intro a wx c
   have e : a.eval (.tmp d1) = v1 := c.slot 1 _ a2 rfl
   exact s2.run s a wx _ _ (H.below _ _ _ hw (only_below c.only)) e fun w' _ hb => ⟨_, rfl, Only.of_below hb, rfl⟩
  ·intro a wx c
   have e := (c.outLow hlow hm.2).trans (hf.low tx hm.2)
   exact s3.run s a wx _ _ (H.below _ _ _ hw (only_below c.only)) e fun w' _ hb => ⟨_, rfl, Only.of_below hb, rfl⟩
  ·intro a wx c
   have e : a.eval (.tmp d3) = v3 := c.slot 3 _ a4 rfl
   exact s4.run s a wx _ _ (H.below _ _ _ hw (only_below c.only)) e fun w' _ hb => ⟨_, rfl, Only.of_below hb, rfl⟩
  ·intro a wx c
   have e : a.eval (.tmp d4) = v4 := c.slot 4 _ a5 rfl
   exact s5.run s a wx _ _ (H.below _ _ _ hw (only_below c.only)) e fun w' _ hb => ⟨_, rfl, Only.of_below hb, rfl⟩
  ·intro a wx c
   have e : a.eval (.tmp d5) = v5 := c.slot 5 _ a6 rfl
   exact s6.run s a wx _ _ (H.below _ _ _ hw (only_below c.only)) e fun w' _ hb => ⟨_, rfl, Only.of_below hb, rfl⟩
  ·intro a wx c
   have e : a.eval (.tmp d6) = v6 := c.slot 6 _ a7 rfl
   exact s7.run s a wx _ _ (H.below _ _ _ hw (only_below c.only)) e fun w' _ hb => ⟨_, rfl, Only.of_below hb, rfl⟩
  ·intro a wx c
   have e : a.eval (.tmp d7) = v7 := c.slot 7 _ a8 rfl
   exact s8.run s a wx _ _ (H.below _ _ _ hw (only_below c.only)) e fun w' _ hb => ⟨_, rfl, Only.of_below hb, rfl⟩
  ·intro a wx c
   have e : a.eval (.tmp d8) = v8 := c.slot 8 _ a9 rfl
   exact s9.run s a wx _ _ (H.below _ _ _ hw (only_below c.only)) e fun w' _ hb => ⟨_, rfl, Only.of_below hb, rfl⟩
  ·intro a wx c
   have e : a.eval (.tmp d9) = v9 := c.slot 9 _ a10 rfl
   exact s10.run s a wx _ _ (H.below _ _ _ hw (only_below c.only)) e fun w' _ hb => ⟨_, rfl, Only.of_below hb, rfl⟩
 ·intro a w1 c hb
  have hw1 := H.below _ _ _ hw hb
  have e2 : a.eval (.tmp d2) = .pointer (some p) := c.slot 2 _ (by decide) rfl
  have e9 : a.eval (.tmp d10) = .string x := c.slot 10 _ (by decide) rfl
  have hf1 := c.fr hlow hf
  have hd : m0 ≤ d11 := lowOk_spec hlow (j := 11) rfl rfl
  simp only [List.drop_succ_cons, List.drop_zero]
  refine wpList_plain rfl fun K hK => ?_
  unfold Oper.wp
  simp only [execOp, resolve, List.map_toArray, List.map_cons, List.map_nil, e2, e9]
  go_simp
  refine (H.ws s w1 x hw1 hlim).mono ?_
  rintro e w' ⟨⟨v, rfl⟩, hw'⟩
  exact hK _ _ (wpList_nil (hQ _ _ (hf1.put hd) hw'))
end Go.Proofs.YtfonjeoiallhhaaGreatDoor
