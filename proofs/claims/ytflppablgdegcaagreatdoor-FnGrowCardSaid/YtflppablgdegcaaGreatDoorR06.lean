/- Joined: Ogs, Tz, Rk, Zi, Zd. -/
import Derived.Test.YtflppablgdegcaaGreatDoorR04
import Derived.Test.YtflppablgdegcaaGreatDoorR05
namespace Go.Proofs.YtflppablgdegcaaGreatDoor.G2
open Go.RowKit
section
variable {P : Program} {ops : Array Oper} {Q : Exit → Act → World → Prop}
theorem og_anyS (hok : ogOk ops = true) (a0 : Act) (w0 : World) (E : Nat → Nat → Prop) (Φ : Nat → Value → World → Prop)
  (hsl : ∀ (i : Nat) (o : Oper) d, ops[i]? = some o → o.dst = some d → d < a0.tmps.size)
  (hnone : ∀ (i : Nat) (o : Oper) v w, ops[i]? = some o → o.dst = none → Φ i v w → Φ i undef w)
  (hst : ∀ i j u v w w', Only (fun g => ∃ e, E e g) w0 w → Only (E i) w w' → Φ i u w' → ahead ops j i = false → j ≠ i → Φ j v w → Φ j v w')
  (hop : ∀ (i : Nat) (o : Oper), ops[i]? = some o → ∀ a w, OgCtx ops a0 w0 E Φ i a w → wpOp P ops Q i (OgPost E Φ i o a w) a w)
  (hend : ∀ a w, OgEnd ops a0 w0 E Φ a w → Q .normal a w) :
  ∀ (fuel : Nat) (L : Array Bool) (a : Act) (w : World), (L.toList.filter (! ·)).length ≤ fuel → OgInv ops a0 w0 E Φ L a w → wpAny P .any ops Q fuel L a w := by
 have fin : ∀ (L : Array Bool) (a : Act) (w : World), OgInv ops a0 w0 E Φ L a w → Region.ready .any ops L = [] → Q .normal a w := by
  intro L a w h hr
  have hall := ready_nil hok h.len hr
  refine hend a w ⟨h.defers, h.size, fun j o hj => h.slot j o (hall j (Array.getElem?_eq_some_iff.1 hj).1) hj, fun t ht => h.out t fun j o hj hd => absurd hd (ht j o hj), h.only.mono fun g _ ⟨e, _, he⟩ => ⟨e, he⟩⟩
 intro fuel
 induction fuel with
 | zero =>
  intro L a w hf h
  have hr : Region.ready .any ops L = [] := by
   cases hr : Region.ready .any ops L with
   | nil => rfl
   | cons i r =>
    obtain ⟨o, ho, hL, _⟩ := mem_ready (ops := ops) (L := L) (i := i) (md := .any) (by rw [hr]; simp)
    have hlt : i < L.size := by have := (Array.getElem?_eq_some_iff.1 ho).1; have := h.len; omega
    have : L[i] ∈ L.toList.filter (! ·) := by
     rw [List.mem_filter]
     refine ⟨by simp, ?_⟩
     simp only [Array.getD_eq_getD_getElem?, Array.getElem?_eq_getElem hlt, Option.getD_some] at hL
     simp [hL]
    have := List.length_pos_of_mem this
    omega
  exact ⟨hr, fin L a w h hr⟩
 | succ fuel ih =>
  intro L a w hf h
  refine ⟨fin L a w h, fun i hi => ?_⟩
  obtain ⟨o, ho, hL, hedge⟩ := mem_ready hi
  have hlt : i < L.size := by have := (Array.getElem?_eq_some_iff.1 ho).1; have := h.len; omega
  have hLf : L.getD i false = false := by
   simp only [Array.getD_eq_getD_getElem?, Array.getElem?_eq_getElem hlt, Option.getD_some] at hL ⊢
   exact hL
  have hanc : ∀ j, ahead ops i j = true → L.getD j false = true := by
   intro j hj
   obtain ⟨e, he, hb, r⟩ := ahead_edge ho (og_edges hok ho) hj
   have hLe := hedge e he hb
   rcases r with r | r
   ·rw [← r]; exact hLe
   ·exact h.closed _ _ hLe r
  have hctx : OgCtx ops a0 w0 E Φ i a w := by
   refine ⟨h.defers, h.size, fun j o' hj ho' => h.slot j o' (hanc j hj) ho', fun t ht => h.out t fun j o' ho' hd => ?_, h.only.mono fun g _ ⟨e, _, he⟩ => ⟨e, he⟩, fun g hg he => h.only.block g hg fun ⟨e, hLe, hE⟩ => ?_⟩
   ·rcases ht j o' ho' hd with rfl | hj
    ·exact hLf
    ·cases hLj : L.getD j false with
     | false => rfl
     | true => rw [h.closed j i hLj hj] at hLf; cases hLf
   ·rcases he e hE with rfl | hj
    ·rw [hLe] at hLf; cases hLf
    ·rw [h.closed e i hLe hj] at hLf; cases hLf
  refine wpOp_mono ?_ (hop i o ho a w hctx)
  rintro a' w' ⟨v, rfl, honly, hΦ⟩
  have hget : ∀ j, (L.setIfInBounds i true).getD j false = true ↔ (j = i ∨ L.getD j false = true) := by
   intro j
   simp only [Array.getD_eq_getD_getElem?]
   by_cases hji : j = i
   ·subst hji
    simp [hlt]
   ·rw [Array.getElem?_setIfInBounds_ne (fun e => hji e.symm)]
    simp [hji]
  refine ih _ _ _ ?_ ⟨?_, ?_, ?_, ?_, ?_, ?_, ?_⟩
  ·have h1 : (L.setIfInBounds i true).toList = L.toList.set i true := by simp
   rw [h1]
   have h2 : L.toList = L.toList.take i ++ L[i] :: L.toList.drop (i + 1) := by
    rw [show L[i] = L.toList[i] from by simp, List.getElem_cons_drop]; simp
   have hLi : L[i] = false := by
    simp only [Array.getD_eq_getD_getElem?, Array.getElem?_eq_getElem hlt, Option.getD_some] at hLf
    exact hLf
   have h3 : L.toList.set i true = L.toList.take i ++ true :: L.toList.drop (i + 1) := List.set_eq_take_append_cons_drop .. |>.trans (by simp [hlt])
   rw [h3]
   rw [h2, hLi] at hf
   simp only [List.filter_append, List.filter_cons, List.length_append] at hf ⊢
   simp at hf ⊢
   omega
  ·cases hd : o.dst <;> simpa [Act.put, hd] using h.defers
  ·cases hd : o.dst <;> simpa [Act.put, hd] using h.size
  ·simpa using h.len
  ·intro k j hk hj
   rw [hget] at hk ⊢
   rcases hk with rfl | hk
   ·exact .inr (hanc j hj)
   ·exact .inr (h.closed k j hk hj)
  ·intro j o' hj ho'
   rw [hget] at hj
   by_cases hji : j = i
   ·subst hji
    obtain rfl : o = o' := by rw [ho] at ho'; exact Option.some.inj ho'
    rw [slotOf_put_same (a := a) (o := o) (v := v) fun d hd => by rw [h.size]; exact hsl j o d ho hd]
    cases hd : o.dst with
    | none => exact hnone j o v w' ho hd hΦ
    | some d => exact hΦ
   ·have hLj : L.getD j false = true := hj.resolve_left hji
    rw [slotOf_put_other fun d hd hd' => hji (og_dst hok ho' ho hd' hd)]
    refine hst i j v _ w w' (h.only.mono fun g _ ⟨e, _, he⟩ => ⟨e, he⟩) honly hΦ ?_ hji (h.slot j o' hLj ho')
    cases ha : ahead ops j i with
    | false => rfl
    | true => rw [h.closed j i hLj ha] at hLf; cases hLf
  ·intro t ht
   have hne : ∀ d, o.dst = some d → d ≠ t := by
    intro d hd e
    subst e
    have := ht i o ho hd
    rw [(hget i).2 (.inl rfl)] at this
    cases this
   have : (a.put o.dst v).tmps[t]? = a.tmps[t]? := by
    cases hd : o.dst with
    | none => rfl
    | some d => simp [Act.put, Array.getElem?_setIfInBounds_ne (hne d hd)]
   rw [this]
   refine h.out t fun j o' ho' hd => ?_
   have := ht j o' ho' hd
   cases hLj : L.getD j false with
   | false => rfl
   | true => rw [(hget j).2 (.inr hLj)] at this; cases this
  ·refine (h.only.trans honly).mono fun g _ hg => ?_
   rcases hg with ⟨e, he, hE⟩ | hE
   ·exact ⟨e, (hget e).2 (.inr he), hE⟩
   ·exact ⟨i, (hget i).2 (.inl rfl), hE⟩
theorem wp_region_ogS {id : Nat} {a0 : Act} {w : World} (hm : P.follows .mixedOrders = true) (hok : ogOk ops = true) (E : Nat → Nat → Prop) (Φ : Nat → Value → World → Prop)
  (hsl : ∀ (i : Nat) (o : Oper) d, ops[i]? = some o → o.dst = some d → d < a0.tmps.size)
  (hnone : ∀ (i : Nat) (o : Oper) v w, ops[i]? = some o → o.dst = none → Φ i v w → Φ i undef w)
  (hst : ∀ i j u v w1 w', Only (fun g => ∃ e, E e g) w.drew w1 → Only (E i) w1 w' → Φ i u w' → ahead ops j i = false → j ≠ i → Φ j v w1 → Φ j v w')
  (hop : ∀ (i : Nat) (o : Oper), ops[i]? = some o → ∀ a1 w1, OgCtx ops a0 w.drew E Φ i a1 w1 → wpOp P ops Q i (OgPost E Φ i o a1 w1) a1 w1)
  (hend : ∀ a1 w1, OgEnd ops a0 w.drew E Φ a1 w1 → Q .normal a1 w1) : (Code.region id ops true).wp P Q a0 w := by
 refine wp_region_any hm ?_
 refine og_anyS hok a0 w.drew E Φ hsl hnone hst hop hend ops.size _ a0 w.drew ?_ ?_
 ·exact Nat.le_trans (List.length_filter_le _ _) (by simp)
 ·have hf : ∀ j, (Array.replicate ops.size false).getD j false = false := by
   intro j
   simp only [Array.getD_eq_getD_getElem?, Array.getElem?_replicate]
   split <;> rfl
  refine ⟨rfl, rfl, by simp, ?_, ?_, fun _ _ => rfl, Only.refl _ _⟩
  ·intro i j h; rw [hf i] at h; cases h
  ·intro j o h; rw [hf j] at h; cases h
end
inductive Ast where
 | eq (v : Value)
 | any (p : Value → World → Prop)
 | sto (k : Nat)
def Ast.holds (g : Nat) (T : TypeId) (n : Nat) (cs : Nat → Array Value) : Ast → Value → World → Prop
 | .eq u, v, _ => v = u
 | .any p, v, w => p v w
 | .sto k, _, w => ∃ m, k ≤ m ∧ m ≤ n ∧ w.heap[g]? = some (.cells (cs m) T (0, 0))
def astAt (g : Nat) (T : TypeId) (n : Nat) (cs : Nat → Array Value) (As : List Ast) (i : Nat) (v : Value) (w : World) : Prop := match As[i]? with | some A => A.holds g T n cs v w | none => True
def astE (g : Nat) (As : List Ast) (i : Nat) (g' : Nat) : Prop := (match As[i]? with | some (.sto _) => True | _ => False) ∧ g' = g
def astFit (ops : Array Oper) (As : List Ast) (N : Nat) : Bool :=
 As.length == ops.size && (ops.toList.zipIdx.all fun (o, i) => (match o.dst with | some d => decide (d < N) | none => true) && (match As[i]?, o.dst with | some (.sto _), none => true | some (.sto _), some _ => false | some _, none => false | _, _ => true)) &&
 (List.range ops.size).all fun i => (List.range ops.size).all fun j => match As[i]?, As[j]? with | some (.sto a), some (.sto b) => ahead ops j i || i == j || decide (b ≤ a) | _, _ => true
theorem wp_region_sto {P : Program} {id N : Nat} {l : List Oper} {Q : Exit → Act → World → Prop} {a0 : Act} {w : World} (As : List Ast) (g : Nat) (T : TypeId) (n : Nat) (cs : Nat → Array Value) (hm : P.follows .mixedOrders = true) (hok : ogOk l.toArray = true) (hfit : astFit l.toArray As N = true) (hN : a0.tmps.size = N)
  (hany : ∀ p : Value → World → Prop, Ast.any p ∈ As → ∀ v w1 w2, Only (fun g' => g' = g) w1 w2 → p v w1 → p v w2)
  (hops : OgOps P l.toArray Q a0 w.drew (astE g As) (astAt g T n cs As) 0 l)
  (hend : ∀ a1 w1, OgEnd l.toArray a0 w.drew (astE g As) (astAt g T n cs As) a1 w1 → Q .normal a1 w1) : (Code.region id l.toArray true).wp P Q a0 w := by
 unfold astFit at hfit
 simp only [Bool.and_eq_true] at hfit
 obtain ⟨⟨hlen, hfit1⟩, hfit2⟩ := hfit
 rw [List.all_eq_true] at hfit1 hfit2
 have hone : ∀ (i : Nat) (o : Oper), l.toArray[i]? = some o → (o, i) ∈ l.toArray.toList.zipIdx := fun i o ho => by
  rw [List.mem_zipIdx_iff_getElem?]
  simpa using ho
 refine wp_region_ogS hm hok (astE g As) (astAt g T n cs As) ?_ ?_ ?_ ?_ hend
 ·intro i o d ho hd
  have h1 := hfit1 _ (hone i o ho)
  simp only [hd, Bool.and_eq_true, decide_eq_true_eq] at h1
  rw [hN]; exact h1.1
 ·intro i o v w1 ho hd h
  have h1 := hfit1 _ (hone i o ho)
  unfold astAt at h ⊢
  simp only [hd, Bool.and_eq_true] at h1
  cases hA : As[i]? with
  | none => trivial
  | some A =>
   rw [hA] at h h1
   cases A with
   | sto k => exact h
   | eq v => exact (by simpa using h1.2)
   | any p => exact (by simpa using h1.2)
 ·intro i j u v w1 w2 h0 h1 h2 hah hji h3
  unfold astAt at h2 h3 ⊢
  cases hj : As[j]? with
  | none => trivial
  | some B =>
   rw [hj] at h3
   cases B with
   | eq v => exact h3
   | any p =>
    refine hany p (List.mem_of_getElem? hj) v w1 w2 (h1.mono fun g' _ hg => hg.2) h3
   | sto b =>
    cases hi : As[i]? with
    | none =>
     obtain ⟨m, hm1, hm2, hm3⟩ := h3
     refine ⟨m, hm1, hm2, ?_⟩
     rw [h1.block g (Array.getElem?_eq_some_iff.1 hm3).1 (fun hg => by unfold astE at hg; rw [hi] at hg; exact hg.1)]
     exact hm3
    | some A =>
     cases A with
     | sto a =>
      rw [hi] at h2
      obtain ⟨m, hm1, hm2, hm3⟩ := h2
      refine ⟨m, ?_, hm2, hm3⟩
      have hil : i < l.toArray.size := by
       have := (List.getElem?_eq_some_iff.1 hi).1
       rw [eq_of_beq hlen] at this; exact this
      have hjl : j < l.toArray.size := by
       have := (List.getElem?_eq_some_iff.1 hj).1
       rw [eq_of_beq hlen] at this; exact this
      have h4 := hfit2 i (List.mem_range.2 hil)
      rw [List.all_eq_true] at h4
      have h5 := h4 j (List.mem_range.2 hjl)
      rw [hi, hj] at h5
      simp only [hah, Bool.false_or, Bool.or_eq_true, beq_iff_eq, decide_eq_true_eq] at h5
      rcases h5 with h5 | h5
      ·exact absurd h5.symm hji
      ·omega
     | eq x =>
      obtain ⟨m, hm1, hm2, hm3⟩ := h3
      refine ⟨m, hm1, hm2, ?_⟩
      rw [h1.block g (Array.getElem?_eq_some_iff.1 hm3).1 (fun hg => by unfold astE at hg; rw [hi] at hg; exact hg.1)]
      exact hm3
     | any x =>
      obtain ⟨m, hm1, hm2, hm3⟩ := h3
      refine ⟨m, hm1, hm2, ?_⟩
      rw [h1.block g (Array.getElem?_eq_some_iff.1 hm3).1 (fun hg => by unfold astE at hg; rw [hi] at hg; exact hg.1)]
      exact hm3
 ·intro i o hi a1 w1 c
  have hi' : l[i]? = some o := by simpa using hi
  have := hops.get l 0 i o hi' a1 w1 (by rw [Nat.zero_add]; exact c)
  rw [Nat.zero_add] at this
  cases hg : o.guard with
  | some gw => rw [hg] at this; exact this
  | none =>
   rw [hg] at this
   dsimp only at this
   unfold wpOp
   rw [hi]
   simp only [Region.wanted, hg, if_true]
   exact .inl this
theorem og_sto {g n k m m' i t off T' : Nat} {T : TypeId} {cs : Nat → Array Value} {As : List Ast} {v : Value} {y : Operand} {ty : TypeId} {ps : String} {af : Array Edge} {a : Act} {w : World} {Q : Exit → Act → World → Prop} (hA : As[i]? = some (.sto k)) (hg : w.heap[g]? = some (.cells (cs m) T (0, 0))) (Z : St T' v) (hx : a.eval (.tmp t) = pt g off) (hy : a.eval y = v) (hoff : off < (cs m).size) (hset : (cs m).setIfInBounds off v = cs m') (hk : k ≤ m') (hn : m' ≤ n) :
  (⟨none, .store T' (.tmp t) y, ty, ps, af, none⟩ : Oper).wp Tryz.prog a w (OgPost (astE g As) (astAt g T n cs As) i ⟨none, .store T' (.tmp t) y, ty, ps, af, none⟩ a w) Q := by
 have hc : w.cell? ⟨g, off, none⟩ = some ((cs m)[off]'hoff) := cell_of_heap hg (by simp [hoff])
 have hr := Z w ⟨g, off, none⟩ _ hc (frozen_of_heap hg (Array.getElem?_eq_getElem hoff))
 unfold Oper.wp
 have hrun : (execOp a.eval ⟨none, .store T' (.tmp t) y, ty, ps, af, none⟩).run Tryz.prog w = .ok .skip (w.setCell ⟨g, off, none⟩ v) := by
  simp only [execOp, hx, hy]
  simp [pt] at hr ⊢
  simp [hr, Result.andThen]
 rw [hrun]
 refine ⟨undef, rfl, ?_, ?_⟩
 ·refine ⟨rfl, rfl, rfl, by simp, fun g' hg' hne => ?_⟩
  exact Below.heap_setCell _ _ _ _ (fun e => hne ⟨by rw [hA]; trivial, e⟩)
 ·unfold astAt
  rw [hA]
  exact ⟨m', hk, hn, by rw [← hset]; exact Lib.heap_setCell_same (i := off) hg v⟩
section
variable {N : Nat} {l : List (Nat × Value)} {m : List Bk} {M : Nat → Prop} {w00 w w1 : World} {a0 a : Act} {ops : Array Oper} {Φ : Nat → Value → World → Prop} {i gp : Nat} {As : List Ast}
theorem _root_.Go.Proofs.YtflppablgdegcaaGreatDoor.Sv.neq (h : Sv N l m M w00 a0 w) {b b' : Bk} (i j : Nat) (hi : m[i]? = some b) (hj : m[j]? = some b') (hij : i ≠ j) : b.g ≠ b'.g := by
 obtain ⟨hi1, hi2⟩ := List.getElem?_eq_some_iff.1 hi
 obtain ⟨hj1, hj2⟩ := List.getElem?_eq_some_iff.1 hj
 rcases Nat.lt_or_ge i j with hlt | hge
 ·have := List.pairwise_iff_getElem.1 h.nd i j hi1 hj1 hlt
  rw [hi2, hj2] at this; exact this
 ·have := List.pairwise_iff_getElem.1 h.nd j i hj1 hi1 (by omega)
  rw [hi2, hj2] at this; exact fun e => this e.symm
theorem sto_first (h : Sv N l m M w00 a0 w) (c : OgCtx ops a0 w.drew (astE gp As) Φ i a w1) {b : Bk} (k : Nat) (hk : m[k]? = some b) (hb : b.g = gp) (hE : ((List.range As.length).all fun e => match As[e]? with | some (.sto _) => e == i || ahead ops e i | _ => true) = true) : w1.heap[gp]? = some (.cells b.cs b.t (0, 0)) := by
 have h1 := h.at k hk
 rw [hb] at h1
 rw [c.block gp (Array.getElem?_eq_some_iff.1 h1).1 ?_]
 ·exact h1
 ·intro e he
  unfold astE at he
  rw [List.all_eq_true] at hE
  cases hA : As[e]? with
  | none => rw [hA] at he; exact he.1.elim
  | some A =>
   have hlt := (List.getElem?_eq_some_iff.1 hA).1
   have h2 := hE e (List.mem_range.2 hlt)
   rw [hA] at he h2
   cases A with
   | sto k =>
    simp only [Bool.or_eq_true, beq_iff_eq] at h2
    exact h2
   | eq v => exact he.1.elim
   | any p => exact he.1.elim
theorem OgEnd.outS (c : OgEnd ops a0 w (astE gp As) Φ a w1) {t : Nat} {v : Value} (h : (ops.toList.all fun o => o.dst != some t) = true) (hv : a0.eval (.tmp t) = v) : a.eval (.tmp t) = v := by
 have := c.out t (fun j o ho hd => by
  rw [List.all_eq_true] at h
  have h1 := h o (by have := Array.mem_of_getElem? ho; simpa using this)
  simp [hd] at h1)
 rw [← hv]
 simp only [Act.eval, Array.getD_eq_getD_getElem?, this]
theorem sto_end (h : Sv N l m M w00 a0 w) (c : OgEnd ops a0 w.drew (astE gp As) Φ a w1) {i : Nat} {cs cs' : Array Value} {T : TypeId} {m' : List Bk} (hb : m[i]? = some ⟨gp, cs, T, true⟩) (hm : m.set i ⟨gp, cs', T, true⟩ = m') (hg : w1.heap[gp]? = some (.cells cs' T (0, 0))) : Sv N [] m' M w00 a w1 ∧ TyOnly [T] w w1 := by
 have ho : Only (fun x => x = gp) w w1 := ⟨c.only.os, c.only.tape, c.only.output, c.only.size, fun g hg hne => c.only.block g hg (fun ⟨e, he⟩ => hne he.2)⟩
 refine ⟨?_, .of_set ho (h.at i hb)⟩
 have h1 := h.put (w' := w1) hb hm hg ho (fun b _ hne e => hne e) (fun g' e hlt => by
  subst e
  rcases h.wr _ (List.mem_of_getElem? hb) rfl with h2 | h2
  ·exact h2
  ·exact absurd hlt (Nat.not_lt.2 h2))
 exact h1.slot ⟨by rw [c.size]; exact h.ev.size, by rw [c.defers]; exact h.ev.defers, fun t v hv => by cases hv⟩
end
end Go.Proofs.YtflppablgdegcaaGreatDoor.G2
set_option maxRecDepth 100000
namespace Go.Proofs.YtflppablgdegcaaGreatDoor
open Go.RowKit
theorem sli_sl_spec_Segment : Sli 27 50 9 96 := Sli.of (z := .agg #[.string ⟨#[]⟩, .string ⟨#[]⟩, .int .i64 0, .int .i64 0, .int .i64 0, .pointer none, .pointer none, .bool false, .string ⟨#[]⟩]) Tryz.underlying27 (by kernel_rfl) rfl
theorem sli_sl_impl_Segment : Sli 36 67 11 160 := Sli.of (z := .agg #[.int .u64 0, .string ⟨#[]⟩, .string ⟨#[]⟩, .float .f64 0, .int .i64 0, .int .i64 0, .slice none 0 0, .slice none 0 0, .slice none 0 0, .bool false, .string ⟨#[]⟩]) Tryz.underlying36 (by kernel_rfl) rfl
theorem sli_sl_p_m3u8_MediaSegment : Sli 79 125 1 8 := Sli.of (z := .pointer none) Tryz.underlying79 (by kernel_rfl) rfl
theorem sli_sl_string : Sli 46 9 1 16 := Sli.of (z := .string ⟨#[]⟩) Tryz.underlying46 (by kernel_rfl) rfl
theorem eqp_p_spec_Key : Eqp 25 := ⟨by intro w o; cases o <;> go_simp, by intro w o; cases o <;> go_simp⟩
theorem eqp_p_spec_Map : Eqp 26 := ⟨by intro w o; cases o <;> go_simp, by intro w o; cases o <;> go_simp⟩
theorem eqp_p_m3u8_Key : Eqp 85 := ⟨by intro w o; cases o <;> go_simp, by intro w o; cases o <;> go_simp⟩
theorem eqp_p_m3u8_Map : Eqp 86 := ⟨by intro w o; cases o <;> go_simp, by intro w o; cases o <;> go_simp⟩
theorem eqp_p_m3u8_SCTE : Eqp 119 := ⟨by intro w o; cases o <;> go_simp, by intro w o; cases o <;> go_simp⟩
theorem eqp_p_m3u8_MediaSegment : Eqp 125 := ⟨by intro w o; cases o <;> go_simp, by intro w o; cases o <;> go_simp⟩
theorem eqi_error : Eqi 58 := ⟨by intro w; go_simp, by intro w; go_simp⟩
theorem lt_p_m3u8_MediaSegment : Ld 125 := by intro w p v h; go_simp
theorem su_p_m3u8_MediaSegment (p : Option Addr) : St 125 (.pointer p) := by intro w q u hc hf; simp only [Instr.storeAt, Instr.sureAddr]; go_simp
def U8s (w : World) (A : Option Addr) (len : Nat) : Prop := ∀ j, j < len → ∃ (a : Addr) (x : Nat), A = some a ∧ w.cell? (a.add j) = some (.int .u8 x) ∧ x < 256
theorem U8s.below {w w' : World} {A : Option Addr} {len : Nat} (h : U8s w A len) (hb : Below w.heap.size w w') : U8s w' A len := fun j hj => by
 obtain ⟨a, x, ha, hc, hx⟩ := h j hj
 refine ⟨a, x, ha, ?_, hx⟩
 rw [World.cell?_of_block (w := w)]
 ·exact hc
 ·exact hb.block _ (World.block_lt_of_cell? w _ hc)
theorem flat_set {α : Type} {f : α → List Value} {k : Nat} (hf : ∀ x, (f x).length = k) (hk : 0 < k) (L : List α) {i j : Nat} {x x' : α} {u : Value} (hx : L[i]? = some x) (hj : j < k) (hu : f x' = (f x).set j u) : flat f (L.set i x') = (flat f L).set (i * k + j) u := by
 have hil : i < L.length := (List.getElem?_eq_some_iff.1 hx).1
 apply List.ext_getElem?
 intro t
 rw [flat_get hf hk, List.getElem?_set, List.getElem?_set, flat_get hf hk]
 by_cases e : i = t / k
 ·subst e
  rw [if_pos rfl, if_pos hil, hx]
  show (f x')[t % k]? = _
  rw [hu, List.getElem?_set]
  have hlt : t / k * k + j < (flat f L).length := by
   rw [flat_length hf]
   calc t / k * k + j < t / k * k + k := by omega
    _ = (t / k + 1) * k := by rw [Nat.add_mul, Nat.one_mul]
    _ ≤ L.length * k := Nat.mul_le_mul_right _ hil
  by_cases e2 : j = t % k
  ·subst e2
   rw [if_pos rfl, if_pos (by rw [hf]; exact hj)]
   rw [if_pos (by rw [Nat.mul_comm]; exact Nat.div_add_mod t k), if_pos hlt]
  ·rw [if_neg e2, if_neg (fun e3 => e2 (by have h1 := Nat.div_add_mod t k; rw [Nat.mul_comm] at h1; omega))]
   rfl
 ·rw [if_neg e, if_neg (fun e3 => e (by rw [← e3, Nat.mul_comm, Nat.mul_add_div hk, Nat.div_eq_of_lt hj, Nat.add_zero]))]
theorem Own.setCell {α : Type} {f : α → List Value} {e : TypeId} {k B g n cap i j : Nat} {w w' : World} {L : List α} {x x' : α} {u : Value} (hf : ∀ x, (f x).length = k) (hk : 0 < k) (h : Own f e k w B (.slice (some ⟨g, 0, none⟩) n cap) L) (hx : L[i]? = some x) (hj : j < k) (hu : f x' = (f x).set j u) {cur : Array Value} (hg : w.heap[g]? = some (.cells cur e (0, 0))) (hg' : w'.heap[g]? = some (.cells (cur.setIfInBounds (i * k + j) u) e (0, 0))) : Own f e k w' B (.slice (some ⟨g, 0, none⟩) n cap) (L.set i x') := by
 have hil : i < L.length := (List.getElem?_eq_some_iff.1 hx).1
 refine ⟨by rw [flat_length hf], ?_⟩
 rcases h.2 with ⟨h1, _⟩ | ⟨g1, cap1, cur1, hv, hb, hh, hn, hm, hs, ht⟩
 ·cases h1
 ·injection hv with h1 h2 h3
  injection h1 with h1
  injection h1 with h1 _ _
  subst h1 h2 h3
  rw [hg] at hh
  injection hh with hh
  injection hh with hh _ _
  subst hh
  refine .inr ⟨g, cap, _, by rw [List.length_set], hb, hg', by rw [List.length_set]; exact hn, hm, by rw [Array.size_setIfInBounds]; exact hs, ?_⟩
  rw [List.length_set, flat_set hf hk L hx hj hu, ← ht, Array.toList_setIfInBounds, List.take_set]
theorem last_split {s : ByteArray} (h : s.size - 1 < s.size) : s.data.toList = (s.extract 0 (s.size - 1)).data.toList ++ [s[s.size - 1]] := by
 have hs : s.data.toList.length = s.size := by rw [Array.length_toList]; rfl
 have h1 : (s.extract 0 (s.size - 1)).data.toList = s.data.toList.take (s.size - 1) := by
  rw [ByteArray.data_extract, Array.toList_extract]
  simp
 rw [h1]
 have h2 : s[s.size - 1] = s.data.toList[s.size - 1]'(by omega) := by simp [ByteArray.getElem_eq_getElem_data]
 rw [h2]
 have h3 := List.take_append_drop (s.size - 1) s.data.toList
 have h4 : s.data.toList.drop (s.size - 1) = [s.data.toList[s.size - 1]'(by omega)] := by
  rw [List.drop_eq_getElem_cons (by omega)]
  congr 1
  exact List.drop_eq_nil_of_le (by omega)
 rw [h4] at h3
 exact h3.symm
theorem size_pos_of_mem {s : ByteArray} {b : UInt8} (h : b ∈ s.data.toList) : s.size - 1 < s.size := by
 have h1 := List.length_pos_of_mem h
 have hs : s.data.toList.length = s.size := by rw [Array.length_toList]; rfl
 omega
theorem toNat_inj8 {b c : UInt8} (h : b.toNat = c.toNat) : b = c := UInt8.toNat_inj.1 h
theorem extract_size {s : ByteArray} (h : s.size - 1 < s.size) : (s.extract 0 (s.size - 1)).size = s.size - 1 := by
 rw [ByteArray.size_extract]; omega
theorem ba_eq {s t : ByteArray} (h : s.data.toList = t.data.toList) : s = t := by
 apply ByteArray.ext
 exact Array.ext' h
section
variable {N : Nat} {l : List (Nat × Value)} {m : List Bk} {M : Nat → Prop} {w0 w w' : World} {a : Act} {ops : Array Oper} {rest : List Oper} {o : Oper} {Q : Exit → Act → World → Prop} {d gj gt : Nat} {v : Value} {b : Bool}
theorem yielded_undef {gj gt : Nat} (hd : (ops[gj]?).bind (·.dst) = some gt) (he : a.eval (.tmp gt) = undef) : yielded ops a.tmps gj = none := by
 unfold yielded
 rw [hd]
 simp only [Act.eval, Array.getD_eq_getD_getElem?] at he
 cases h : a.tmps[gt]? with
 | none => simp [h]
 | some v =>
  rw [h] at he
  simp only [Option.getD_some] at he
  subst he
  simp [h, undef]
theorem sv_goffu {b : Bool} (h : Sv N l m M w0 a w) (hg : o.guard = some (gj, b)) (hgd : (ops[gj]?).bind (·.dst) = some gt) (ht : a.eval (.tmp gt) = undef) (hd : o.dst = some d) (hdN : d < N)
  (hK : ∀ a', Sv N ((d, undef) :: l) m M w0 a' w → wpList Tryz.prog ops Q rest a' w) : wpList Tryz.prog ops Q (o :: rest) a w := by
 refine wpList_step fun K hK' => ?_
 have hw : Region.wanted o (yielded ops a.tmps) = false := by
  unfold Region.wanted
  rw [hg]
  simp [yielded_undef hgd ht]
 rw [if_neg (by rw [hw]; decide)]
 refine hK' _ _ ?_
 rw [hd]
 exact hK _ (h.slot (h.ev.set hdN))
theorem sv_gcallv {f : FuncId} {args : Array Value} (h : Sv N l m M w0 a w) (hg : o.guard = some (gj, b)) (hgd : (ops[gj]?).bind (·.dst) = some gt) (ht : a.eval (.tmp gt) = .bool b) (hd : o.dst = some d) (hdN : d < N) (hr : (execOp a.eval o).run Tryz.prog w = .ok (.enter f args) w) (hc : Calls Tryz.prog f args w fun e w' => e = .returned v ∧ Below w.heap.size w w')
  (hK : ∀ a' w', Below w.heap.size w w' → Sv N ((d, v) :: l) m M w0 a' w' → wpList Tryz.prog ops Q rest a' w') : wpList Tryz.prog ops Q (o :: rest) a w :=
 ev_gcall (S := fun u w' => u = v ∧ Below w.heap.size w w') h.ev hg hgd ht hd hdN hr (Calls.mono hc fun e w' ⟨he, hb⟩ => ⟨v, he, rfl, hb⟩) fun a' u w' Z h' => by obtain ⟨rfl, hb⟩ := Z; exact hK a' w' hb ((h.slot h').below hb)
end
set_option maxHeartbeats 8000000
def zix (s : ByteArray) (c : UInt8) : Int := match s.data.toList.findIdx? (fun b => b == c) with | some i => (i : Int) | none => -1
theorem at_list {s : ByteArray} {i : Nat} (h : i < s.size) : s.data.toList[i]? = some (s[i]'h) := by
 rw [List.getElem?_eq_getElem (by rw [Array.length_toList]; exact h)]
 simp [ByteArray.getElem_eq_getElem_data]
theorem len_list (s : ByteArray) : s.data.toList.length = s.size := by rw [Array.length_toList]; rfl
theorem ext_list (s : ByteArray) (i j : Nat) (hj : j ≤ s.size) : (s.extract i j).data.toList = (s.data.toList.take j).drop i := by
 rw [ByteArray.data_extract, Array.toList_extract]
 simp [List.drop_take]
theorem ext_one {s : ByteArray} {i : Nat} (h : i < s.size) : (s.extract i (i + 1)).data.toList = [s[i]'h] := by
 rw [ext_list _ _ _ (by omega)]
 have h1 : i < s.data.toList.length := by rw [len_list]; exact h
 rw [List.take_add_one, at_list h, List.drop_append_of_le_length (by rw [List.length_take]; omega), List.drop_eq_nil_of_le (by rw [List.length_take]; omega)]
 rfl
theorem zix_hit {s : ByteArray} {c : UInt8} {i : Nat} (h : i < s.size) (hc : s[i]'h = c) (hn : ∀ j (hj : j < s.size), j < i → s[j]'hj ≠ c) : zix s c = (i : Int) := by
 have : s.data.toList.findIdx? (fun b => b == c) = some i := by
  rw [List.findIdx?_eq_some_iff_getElem]
  refine ⟨by rw [len_list]; exact h, ?_, ?_⟩
  ·have := at_list h
   rw [List.getElem?_eq_getElem (by rw [len_list]; exact h)] at this
   rw [Option.some.inj this, hc]; simp
  ·intro j hj
   have hjs : j < s.size := by omega
   have := at_list hjs
   rw [List.getElem?_eq_getElem (by rw [len_list]; exact hjs)] at this
   rw [Option.some.inj this]
   simpa using hn j hjs hj
 unfold zix
 rw [this]
theorem zix_none {s : ByteArray} {c : UInt8} (hn : ∀ j (hj : j < s.size), s[j]'hj ≠ c) : zix s c = -1 := by
 have : s.data.toList.findIdx? (fun b => b == c) = none := by
  rw [List.findIdx?_eq_none_iff]
  intro b hb
  obtain ⟨j, hj⟩ := List.mem_iff_getElem?.1 hb
  have hjs : j < s.size := by rw [← len_list]; exact (List.getElem?_eq_some_iff.1 hj).1
  rw [at_list hjs] at hj
  have := hn j hjs
  rw [Option.some.inj hj] at this
  simpa using this
 unfold zix
 rw [this]
theorem zzIndex_any (s : ByteArray) (c : UInt8) (hs : s.size ≤ 1000000000) (w : World) : Calls Tryz.prog 59 #[.string s, .string ⟨#[c]⟩] w fun e w' => e = .returned (.int .i64 (zix s c)) ∧ Below w.heap.size w w' := by
 refine calls_of_ev Tryz.func59 rfl (show 2 ≤ 25 from by decide) fun a hE => ?_
 have hE : Ev 25 ((0, .string s) :: (1, .string ((⟨#[c]⟩ : ByteArray))) :: []) a := hE
 have Z : Sv 25 ((0, .string s) :: (1, .string ((⟨#[c]⟩ : ByteArray))) :: []) [] (fun _ => False) w a w := Sv.start hE _ _
 clear hE
 refine wr (sv_n 1 Z rfl fun a Z => Z.nx [4, 0, 1] rfl fun Z => sh (wp_seq (wr (sv_n 1 Z rfl fun a Z => Z.nx [5, 4, 0, 1] rfl fun Z => sh (wp_block ?_)))))
 refine wp_loop (fun a w' => ∃ i : Nat, i ≤ s.size ∧ (∀ j (hj : j < s.size), j < i → s[j]'hj ≠ c) ∧ Sv 25 ((5, .int .i64 ((i : Nat) : Int)) :: (0, .string s) :: (1, .string ((⟨#[c]⟩ : ByteArray))) :: []) [] (fun _ => False) w a w') (fun a _ => (s.size + 1 - (intOf (a.eval (.tmp 5))).toNat)) ⟨0, by omega, (fun j hj h => absurd h (Nat.not_lt_zero _)), Z.pick rfl⟩ ?_
 clear Z
 rintro a w1 ⟨i, hi, hn, Z⟩
 have hS0 := Z.g 5 rfl
 refine wp_seq (wr (sv_n 2 Z rfl fun a Z => sv_r (v := .int .i64 1) Z (ex_slen (ats := #[]) (Z.g 7 rfl)) fun a Z => ?_))
 refine sv_r (v := .int .i64 ((i + 1 : Nat) : Int)) Z (ei_add (Z.g 6 rfl) (Z.g 8 rfl) (by rw [IntKind.wrap_i64]; omega)) fun a Z => sv_n 1 Z rfl fun a Z => sv_r (v := .int .i64 ((s.size : Nat) : Int)) Z (ex_slen (ats := #[]) (Z.g 10 rfl)) fun a Z => ?_
 refine sv_r (v := .bool (decide ((i + 1 : Nat) ≤ s.size))) Z (ei_leq (Z.g 9 rfl) (Z.g 11 rfl) (by rw [decide_eq_decide]; omega)) fun a Z => Z.nx [12, 5, 0, 1] rfl fun Z => sh ?_
 refine wp_cond_split (Z.g 12 rfl) (fun hb3 => ?_) (fun hb3 => ?_)
 ·have hb3 := of_decide_eq_true hb3
  refine wp_skip (sh (wp_seq (wp_block (wr (sv_n 4 Z rfl fun a Z => sv_r (v := .int .i64 1) Z (ex_slen (ats := #[]) (Z.g 18 rfl)) fun a Z => ?_)))))
  refine sv_r (v := .int .i64 ((i + 1 : Nat) : Int)) Z (ei_add (Z.g 17 rfl) (Z.g 19 rfl) (by rw [IntKind.wrap_i64]; omega)) fun a Z => ?_
  refine sv_r (v := .string (s.extract i (i + 1))) Z (ex_sslh (Z.g 15 rfl) (Z.g 16 rfl) (Z.g 20 rfl) (by omega) (by omega)) fun a Z => sv_n 1 Z rfl fun a Z => sv_r (v := .bool (decide ((s.extract i (i + 1)).data.toList = ((⟨#[c]⟩ : ByteArray) : ByteArray).data.toList))) Z (ex_eqs (Z.g 21 rfl) (Z.g 22 rfl)) fun a Z => Z.nx [23, 12, 5, 0, 1] rfl fun Z => sh ?_
  have hil : i < s.size := by omega
  refine wp_cond_split (Z.g 23 rfl) (fun hq => ?_) (fun hq => ?_)
  ·have hq := of_decide_eq_true hq
   rw [ext_one hil] at hq
   have hce : s[i]'hil = c := by simpa using hq
   refine wr (sv_n 2 Z rfl fun a Z => Z.nx [4, 23, 12, 5, 0, 1] rfl fun Z => sh (wp_ret ?_))
   try simp only [Exit.inBlock, Exit.then]
   exact ret_of_ev Z.ev rfl (Z.g 4 rfl) ⟨by rw [zix_hit hil hce hn], Z.toBelow⟩
  ·have hq := of_decide_eq_false hq
   rw [ext_one hil] at hq
   have hne : s[i]'hil ≠ c := by simpa using hq
   refine wp_skip (sh (wp_region_lit (sv_n 1 Z rfl fun a Z => ?_)))
   refine sv_r (v := .int .i64 ((i + 1 : Nat) : Int)) Z (ei_add (Z.g 13 rfl) rfl (by rw [IntKind.wrap_i64]; omega)) fun a Z => sv_n 1 Z rfl fun a Z => Z.nx [5, 23, 12, 0, 1] rfl fun Z => ?_
   refine ⟨⟨i + 1, by omega, (fun j hj hji => by by_cases e : j = i; (· subst e; exact hne); (· exact hn j hj (by omega))), Z.pick rfl⟩, ?_⟩
   have h1 := Z.g 5 rfl; rw [h1]; rw [hS0]; simp only [intOf]; omega
 ·have hb3 := of_decide_eq_false hb3
  refine wp_exit ?_
  simp only [Exit.inBlock, Exit.then, if_true]
  refine sh (wr (sv_r (v := .int .i64 (-1)) Z ex_ac fun a Z => Z.nx [4, 12, 5, 0, 1] rfl fun Z => sh (wp_ret ?_)))
  try simp only [Exit.inBlock, Exit.then]
  exact ret_of_ev Z.ev rfl (Z.g 4 rfl) ⟨by rw [zix_none fun j hj => hn j hj (by omega)], Z.toBelow⟩
def isD (b : UInt8) : Bool := decide (48 ≤ b.toNat) && decide (b.toNat ≤ 57)
def runN (p : UInt8 → Bool) (s : ByteArray) : Nat := (s.data.toList.takeWhile p).length
theorem takeWhile_len {p : UInt8 → Bool} : ∀ (l : List UInt8) (n : Nat), (∀ j b, j < n → l[j]? = some b → p b = true) → n ≤ l.length → (∀ b, l[n]? = some b → p b = false) → (l.takeWhile p).length = n
 | [], n, _, hl, _ => by simp at hl; simp [hl]
 | b :: l, 0, _, _, he => by
  have := he b rfl
  simp [this]
 | b :: l, n + 1, h, hl, he => by
  have h0 := h 0 b (by omega) rfl
  rw [List.takeWhile_cons, if_pos h0, List.length_cons, takeWhile_len l n (fun j c hj hc => h (j + 1) c (by omega) hc) (by simpa using hl) he]
theorem runN_eq {p : UInt8 → Bool} {s : ByteArray} {n : Nat} (hn : n ≤ s.size) (h : ∀ j (hj : j < s.size), j < n → p (s[j]'hj) = true) (he : ∀ (hj : n < s.size), p (s[n]'hj) = false) : runN p s = n := by
 refine takeWhile_len _ n (fun j b hj hb => ?_) (by rw [len_list]; exact hn) (fun b hb => ?_)
 ·have hjs : j < s.size := by omega
  rw [at_list hjs] at hb
  rw [← Option.some.inj hb]; exact h j hjs hj
 ·have hjs : n < s.size := by rw [← len_list]; exact (List.getElem?_eq_some_iff.1 hb).1
  rw [at_list hjs] at hb
  rw [← Option.some.inj hb]; exact he hjs
theorem dig_cases (s : ByteArray) (n : Nat) (hn : n ≤ s.size) : (n = s.size) ∨ (∃ h : n < s.size, (s[n]'h).toNat < 48) ∨ (∃ h : n < s.size, 48 ≤ (s[n]'h).toNat ∧ 57 < (s[n]'h).toNat) ∨ (∃ h : n < s.size, 48 ≤ (s[n]'h).toNat ∧ (s[n]'h).toNat ≤ 57) := by
 rcases Nat.lt_or_ge n s.size with h | h
 ·rcases Nat.lt_or_ge (s[n]'h).toNat 48 with h1 | h1
  ·exact .inr (.inl ⟨h, h1⟩)
  ·rcases Nat.lt_or_ge 57 (s[n]'h).toNat with h2 | h2
   ·exact .inr (.inr (.inl ⟨h, h1, h2⟩))
   ·exact .inr (.inr (.inr ⟨h, h1, h2⟩))
 ·exact .inl (by omega)
theorem zzDigitsOf_any (s : ByteArray) (hs : s.size ≤ 1000000000) (w : World) : Calls Tryz.prog 89 #[.string s] w fun e w' => e = .returned (.tuple #[.string (s.extract 0 (runN isD s)), .string (s.extract (runN isD s) s.size)]) ∧ Below w.heap.size w w' := by
 refine calls_of_ev Tryz.func89 rfl (show 1 ≤ 29 from by decide) fun a hE => ?_
 have hE : Ev 29 ((0, .string s) :: []) a := hE
 have Z : Sv 29 ((0, .string s) :: []) [] (fun _ => False) w a w := Sv.start hE _ _
 clear hE
 refine wr (sv_n 2 Z rfl fun a Z => Z.nx [3, 2, 0] rfl fun Z => sh (wr (sv_n 1 Z rfl fun a Z => Z.nx [4, 3, 2, 0] rfl fun Z => sh (wp_seq (wp_block ?_)))))
 refine wp_loop (fun a w' => ∃ n : Nat, n ≤ s.size ∧ (∀ j (hj : j < s.size), j < n → isD (s[j]'hj) = true) ∧ Sv 29 ((4, .int .i64 ((n : Nat) : Int)) :: (0, .string s) :: []) [] (fun _ => False) w a w') (fun a _ => (s.size + 1 - (intOf (a.eval (.tmp 4))).toNat)) ⟨0, by omega, (fun j hj h => absurd h (Nat.not_lt_zero _)), Z.pick rfl⟩ ?_
 clear Z
 rintro a w1 ⟨n, hn, hd, Z⟩
 have hS0 := Z.g 4 rfl
 obtain hq | ⟨hlt, hq⟩ | ⟨hlt, hq1, hq2⟩ | ⟨hlt, hq1, hq2⟩ := dig_cases s n hn
 ·have hrun : runN isD s = n := runN_eq hn hd (fun hj => absurd hj (by omega))
  refine wp_seq (wr (sv_n 2 Z rfl fun a Z => sv_r (v := .int .i64 ((s.size : Nat) : Int)) Z (ex_slen (ats := #[]) (Z.g 6 rfl)) fun a Z => ?_))
  refine sv_r (v := .bool false) Z (ei_lss (Z.g 5 rfl) (Z.g 7 rfl) (by rw [decide_eq_false_iff_not]; omega)) fun a Z => sv_n 12 Z rfl fun a Z => Z.nx [20, 4, 0] rfl fun Z => sh (cond_f (Z.g 20 rfl) (wp_exit ?_))
  simp only [Exit.inBlock, Exit.then, if_true]
  refine sh (wp_seq ?_)
  refine qg 7 [.string s, .int .i64 ((n : Nat) : Int), .string (s.extract 0 n), .string s, .int .i64 ((n : Nat) : Int), .string (s.extract n s.size), .string (s.extract 0 n)] Z ?_ ?_
  ·simp only [List.take_succ_cons, List.take_zero]
   exact ⟨qm (Z.g 0 rfl), qm (Z.g 4 rfl), fun _ _ c => og_val (ex_ssh (c.s 0 rfl) (c.s 1 rfl) (by omega)) rfl, qm (Z.g 0 rfl), qm (Z.g 4 rfl), fun _ _ c => og_val (ex_ssl (c.s 3 rfl) (c.s 4 rfl) (by omega)) rfl, fun _ _ c => og_val (ex_as (c.s 2 rfl)) rfl, trivial⟩
  ·intro a w2 c hbw2
   replace Z := ((Z.ogk c [0, 4, 20]).kS c 5 rfl rfl).kS c 6 rfl rfl
   clear c
   simp only [List.drop_succ_cons, List.drop_zero]
   refine sv_n 1 Z rfl fun a Z => Z.nx [3, 2, 0, 4, 20] rfl fun Z => sh (wp_ret ?_)
   try simp only [Exit.inBlock, Exit.then]
   exact ret2_of_ev Z.ev rfl (Z.g 2 rfl) (Z.g 3 rfl) ⟨by rw [hrun], Z.toBelow⟩
 ·have hrun : runN isD s = n := runN_eq hn hd (fun _ => by simp [isD]; omega)
  refine wp_seq (wr (sv_n 2 Z rfl fun a Z => sv_r (v := .int .i64 ((s.size : Nat) : Int)) Z (ex_slen (ats := #[]) (Z.g 6 rfl)) fun a Z => ?_))
  refine sv_r (v := .bool true) Z (ei_lss (Z.g 5 rfl) (Z.g 7 rfl) (by rw [decide_eq_true_iff]; omega)) fun a Z => sv_n 3 Z rfl fun a Z => sv_g (v := .int .u8 (((s[n]'hlt).toNat : Nat) : Int)) Z (Z.g 9 rfl) (ex_sidx (Z.g 10 rfl) (Z.g 11 rfl) hlt) fun a Z => ?_
  refine sv_g (v := .bool false) Z (Z.g 9 rfl) (ei_geq (Z.g 12 rfl) rfl (by rw [decide_eq_false_iff_not]; omega)) fun a Z => sv_n 7 Z rfl fun a Z => Z.nx [20, 4, 0] rfl fun Z => sh (cond_f (Z.g 20 rfl) (wp_exit ?_))
  simp only [Exit.inBlock, Exit.then, if_true]
  refine sh (wp_seq ?_)
  refine qg 7 [.string s, .int .i64 ((n : Nat) : Int), .string (s.extract 0 n), .string s, .int .i64 ((n : Nat) : Int), .string (s.extract n s.size), .string (s.extract 0 n)] Z ?_ ?_
  ·simp only [List.take_succ_cons, List.take_zero]
   exact ⟨qm (Z.g 0 rfl), qm (Z.g 4 rfl), fun _ _ c => og_val (ex_ssh (c.s 0 rfl) (c.s 1 rfl) (by omega)) rfl, qm (Z.g 0 rfl), qm (Z.g 4 rfl), fun _ _ c => og_val (ex_ssl (c.s 3 rfl) (c.s 4 rfl) (by omega)) rfl, fun _ _ c => og_val (ex_as (c.s 2 rfl)) rfl, trivial⟩
  ·intro a w3 c hbw3
   replace Z := ((Z.ogk c [0, 4, 20]).kS c 5 rfl rfl).kS c 6 rfl rfl
   clear c
   simp only [List.drop_succ_cons, List.drop_zero]
   refine sv_n 1 Z rfl fun a Z => Z.nx [3, 2, 0, 4, 20] rfl fun Z => sh (wp_ret ?_)
   try simp only [Exit.inBlock, Exit.then]
   exact ret2_of_ev Z.ev rfl (Z.g 2 rfl) (Z.g 3 rfl) ⟨by rw [hrun], Z.toBelow⟩
 ·have hrun : runN isD s = n := runN_eq hn hd (fun _ => by simp [isD]; omega)
  refine wp_seq (wr (sv_n 2 Z rfl fun a Z => sv_r (v := .int .i64 ((s.size : Nat) : Int)) Z (ex_slen (ats := #[]) (Z.g 6 rfl)) fun a Z => ?_))
  refine sv_r (v := .bool true) Z (ei_lss (Z.g 5 rfl) (Z.g 7 rfl) (by rw [decide_eq_true_iff]; omega)) fun a Z => sv_n 3 Z rfl fun a Z => sv_g (v := .int .u8 (((s[n]'hlt).toNat : Nat) : Int)) Z (Z.g 9 rfl) (ex_sidx (Z.g 10 rfl) (Z.g 11 rfl) hlt) fun a Z => ?_
  refine sv_g (v := .bool true) Z (Z.g 9 rfl) (ei_geq (Z.g 12 rfl) rfl (by rw [decide_eq_true_iff]; omega)) fun a Z => sv_n 4 Z rfl fun a Z => sv_g (v := .int .u8 (((s[n]'hlt).toNat : Nat) : Int)) Z (Z.g 15 rfl) (ex_sidx (Z.g 16 rfl) (Z.g 17 rfl) hlt) fun a Z => ?_
  refine sv_g (v := .bool false) Z (Z.g 15 rfl) (ei_leq (Z.g 18 rfl) rfl (by rw [decide_eq_false_iff_not]; omega)) fun a Z => sv_n 1 Z rfl fun a Z => Z.nx [20, 4, 0] rfl fun Z => sh (cond_f (Z.g 20 rfl) (wp_exit ?_))
  simp only [Exit.inBlock, Exit.then, if_true]
  refine sh (wp_seq ?_)
  refine qg 7 [.string s, .int .i64 ((n : Nat) : Int), .string (s.extract 0 n), .string s, .int .i64 ((n : Nat) : Int), .string (s.extract n s.size), .string (s.extract 0 n)] Z ?_ ?_
  ·simp only [List.take_succ_cons, List.take_zero]
   exact ⟨qm (Z.g 0 rfl), qm (Z.g 4 rfl), fun _ _ c => og_val (ex_ssh (c.s 0 rfl) (c.s 1 rfl) (by omega)) rfl, qm (Z.g 0 rfl), qm (Z.g 4 rfl), fun _ _ c => og_val (ex_ssl (c.s 3 rfl) (c.s 4 rfl) (by omega)) rfl, fun _ _ c => og_val (ex_as (c.s 2 rfl)) rfl, trivial⟩
  ·intro a w4 c hbw4
   replace Z := ((Z.ogk c [0, 4, 20]).kS c 5 rfl rfl).kS c 6 rfl rfl
   clear c
   simp only [List.drop_succ_cons, List.drop_zero]
   refine sv_n 1 Z rfl fun a Z => Z.nx [3, 2, 0, 4, 20] rfl fun Z => sh (wp_ret ?_)
   try simp only [Exit.inBlock, Exit.then]
   exact ret2_of_ev Z.ev rfl (Z.g 2 rfl) (Z.g 3 rfl) ⟨by rw [hrun], Z.toBelow⟩
 ·have hdn : isD (s[n]'hlt) = true := by simp [isD]; omega
  refine wp_seq (wr (sv_n 2 Z rfl fun a Z => sv_r (v := .int .i64 ((s.size : Nat) : Int)) Z (ex_slen (ats := #[]) (Z.g 6 rfl)) fun a Z => ?_))
  refine sv_r (v := .bool true) Z (ei_lss (Z.g 5 rfl) (Z.g 7 rfl) (by rw [decide_eq_true_iff]; omega)) fun a Z => sv_n 3 Z rfl fun a Z => sv_g (v := .int .u8 (((s[n]'hlt).toNat : Nat) : Int)) Z (Z.g 9 rfl) (ex_sidx (Z.g 10 rfl) (Z.g 11 rfl) hlt) fun a Z => ?_
  refine sv_g (v := .bool true) Z (Z.g 9 rfl) (ei_geq (Z.g 12 rfl) rfl (by rw [decide_eq_true_iff]; omega)) fun a Z => sv_n 4 Z rfl fun a Z => sv_g (v := .int .u8 (((s[n]'hlt).toNat : Nat) : Int)) Z (Z.g 15 rfl) (ex_sidx (Z.g 16 rfl) (Z.g 17 rfl) hlt) fun a Z => ?_
  refine sv_g (v := .bool true) Z (Z.g 15 rfl) (ei_leq (Z.g 18 rfl) rfl (by rw [decide_eq_true_iff]; omega)) fun a Z => sv_n 1 Z rfl fun a Z => Z.nx [20, 4, 0] rfl fun Z => sh (cond_t (Z.g 20 rfl) (wp_skip (sh (wp_block (wp_region_lit (sv_n 1 Z rfl fun a Z => ?_))))))
  refine sv_r (v := .int .i64 ((n + 1 : Nat) : Int)) Z (ei_add (Z.g 21 rfl) rfl (by rw [IntKind.wrap_i64]; omega)) fun a Z => sv_n 1 Z rfl fun a Z => Z.nx [4, 20, 0] rfl fun Z => ?_
  refine ⟨⟨n + 1, by omega, (fun j hj hji => by by_cases e : j = n; (· subst e; exact hdn); (· exact hd j hj (by omega))), Z.pick rfl⟩, ?_⟩
  have h1 := Z.g 4 rfl; rw [h1]; rw [hS0]; simp only [intOf]; omega
def inS (chars : ByteArray) (b : UInt8) : Bool := decide (0 ≤ zix chars b)
theorem ext_one_eq {s : ByteArray} {n : Nat} (h : n < s.size) : s.extract n (n + 1) = ⟨#[s[n]'h]⟩ := ba_eq (by rw [ext_one h])
theorem tok_cases (chars s : ByteArray) (n : Nat) (hn : n ≤ s.size) : (n = s.size) ∨ (∃ h : n < s.size, inS chars (s[n]'h) = false) ∨ (∃ h : n < s.size, inS chars (s[n]'h) = true) := by
 rcases Nat.lt_or_ge n s.size with h | h
 ·cases hc : inS chars (s[n]'h) with
  | false => exact .inr (.inl ⟨h, hc⟩)
  | true => exact .inr (.inr ⟨h, hc⟩)
 ·exact .inl (by omega)
theorem zzToken_any (s chars : ByteArray) (hs : s.size ≤ 1000000000) (hc : chars.size ≤ 1000000000) (hb : ∀ h : 0 < s.size, (s[0]'h).toNat ≠ 32 ∧ (s[0]'h).toNat ≠ 9) (w : World) : Calls Tryz.prog 88 #[.string s, .string chars] w fun e w' => e = .returned (.tuple #[.string (s.extract 0 (runN (inS chars) s)), .string (s.extract (runN (inS chars) s) s.size)]) ∧ Below w.heap.size w w' := by
 refine calls_of_ev Tryz.func88 rfl (show 2 ≤ 44 from by decide) fun a hE => ?_
 have hE : Ev 44 ((0, .string s) :: (1, .string chars) :: []) a := hE
 have Z : Sv 44 ((0, .string s) :: (1, .string chars) :: []) [] (fun _ => False) w a w := Sv.start hE _ _
 clear hE
 refine wr (sv_n 2 Z rfl fun a Z => Z.nx [5, 4, 0, 1] rfl fun Z => sh (wp_seq (wp_block ?_)))
 refine wp_loop (fun a w' => ∃ u : Unit, u = u ∧ Sv 44 ((0, .string s) :: (1, .string chars) :: []) [] (fun _ => False) w a w') (fun a _ => 0) ⟨(), rfl, Z.pick rfl⟩ ?_
 clear Z
 rintro a w1 ⟨u, hu, Z⟩
 rcases Nat.eq_zero_or_pos s.size with h0 | h0
 ·refine wp_seq (wr (sv_n 1 Z rfl fun a Z => sv_r (v := .int .i64 ((s.size : Nat) : Int)) Z (ex_slen (ats := #[]) (Z.g 7 rfl)) fun a Z => ?_))
  refine sv_r (v := .bool false) Z (ei_gtr (Z.g 8 rfl) rfl (by rw [decide_eq_false_iff_not]; omega)) fun a Z => sv_n 5 Z rfl fun a Z => sv_goffu Z rfl rfl (Z.g 14 rfl) rfl (by decide) fun a Z => sv_goffu Z rfl rfl (Z.g 14 rfl) rfl (by decide) fun a Z => sv_goffu Z rfl rfl (Z.g 14 rfl) rfl (by decide) fun a Z => sv_n 2 Z rfl fun a Z => Z.nx [19, 0, 1] rfl fun Z => sh (cond_f (Z.g 19 rfl) (wp_exit ?_))
  simp only [Exit.inBlock, Exit.then, if_true]
  refine sh (wr (sv_n 1 Z rfl fun a Z => Z.nx [6, 19, 0, 1] rfl fun Z => sh (wp_seq (wp_block ?_))))
  refine wp_loop (fun a w' => ∃ n : Nat, n ≤ s.size ∧ (∀ j (hj : j < s.size), j < n → inS chars (s[j]'hj) = true) ∧ Sv 44 ((6, .int .i64 ((n : Nat) : Int)) :: (0, .string s) :: (1, .string chars) :: []) [] (fun _ => False) w a w') (fun a _ => (s.size + 1 - (intOf (a.eval (.tmp 6))).toNat)) ⟨0, by omega, (fun j hj h => absurd h (Nat.not_lt_zero _)), Z.pick rfl⟩ ?_
  clear Z
  rintro a w2 ⟨n, hn, hd, Z⟩
  have hS0 := Z.g 6 rfl
  obtain hq | ⟨hlt, hq⟩ | ⟨hlt, hq⟩ := tok_cases chars s n hn
  ·have hrun : runN (inS chars) s = n := runN_eq hn hd (fun hj => absurd hj (by omega))
   refine wp_seq (wr (sv_n 2 Z rfl fun a Z => sv_r (v := .int .i64 ((s.size : Nat) : Int)) Z (ex_slen (ats := #[]) (Z.g 23 rfl)) fun a Z => ?_))
   refine sv_r (v := .bool false) Z (ei_lss (Z.g 22 rfl) (Z.g 24 rfl) (by rw [decide_eq_false_iff_not]; omega)) fun a Z => sv_n 10 Z rfl fun a Z => Z.nx [35, 6, 0, 1] rfl fun Z => sh (cond_f (Z.g 35 rfl) (wp_exit ?_))
   simp only [Exit.inBlock, Exit.then, if_true]
   refine sh (wp_seq ?_)
   refine qg 7 [.string s, .int .i64 ((n : Nat) : Int), .string (s.extract 0 n), .string s, .int .i64 ((n : Nat) : Int), .string (s.extract n s.size), .string (s.extract 0 n)] Z ?_ ?_
   ·simp only [List.take_succ_cons, List.take_zero]
    exact ⟨qm (Z.g 0 rfl), qm (Z.g 6 rfl), fun _ _ c => og_val (ex_ssh (c.s 0 rfl) (c.s 1 rfl) (by omega)) rfl, qm (Z.g 0 rfl), qm (Z.g 6 rfl), fun _ _ c => og_val (ex_ssl (c.s 3 rfl) (c.s 4 rfl) (by omega)) rfl, fun _ _ c => og_val (ex_as (c.s 2 rfl)) rfl, trivial⟩
   ·intro a w3 c hbw3
    replace Z := ((Z.ogk c [1, 0, 6, 35]).kS c 5 rfl rfl).kS c 6 rfl rfl
    clear c
    simp only [List.drop_succ_cons, List.drop_zero]
    refine sv_n 1 Z rfl fun a Z => Z.nx [5, 4, 1, 0, 6, 35] rfl fun Z => sh (wp_ret ?_)
    try simp only [Exit.inBlock, Exit.then]
    exact ret2_of_ev Z.ev rfl (Z.g 4 rfl) (Z.g 5 rfl) ⟨by rw [hrun], Z.toBelow⟩
  ·have hrun : runN (inS chars) s = n := runN_eq hn hd (fun _ => hq)
   have hq1 : ¬ (0 ≤ zix chars (s[n]'hlt)) := of_decide_eq_false hq
   refine wp_seq (wr (sv_n 2 Z rfl fun a Z => sv_r (v := .int .i64 ((s.size : Nat) : Int)) Z (ex_slen (ats := #[]) (Z.g 23 rfl)) fun a Z => ?_))
   refine sv_r (v := .bool true) Z (ei_lss (Z.g 22 rfl) (Z.g 24 rfl) (by rw [decide_eq_true_iff]; omega)) fun a Z => sv_n 5 Z rfl fun a Z => ?_
   refine sv_g (v := .int .i64 ((n + 1 : Nat) : Int)) Z (Z.g 26 rfl) (ei_add (Z.g 30 rfl) rfl (by rw [IntKind.wrap_i64]; omega)) fun a Z => ?_
   refine sv_g (v := .string (s.extract n (n + 1))) Z (Z.g 26 rfl) (ex_sslh (Z.g 28 rfl) (Z.g 29 rfl) (Z.g 31 rfl) (by omega) (by omega)) fun a Z => ?_
   refine sv_gcallv (v := .int .i64 (zix chars (s[n]'hlt))) Z rfl rfl (Z.g 26 rfl) rfl (by decide) (ex_call2 cf_m3u8_zzIndex (Z.g 27 rfl) (Z.g 32 rfl)) (by rw [ext_one_eq hlt]; exact zzIndex_any chars _ hc _) fun a w4 hbw4 Z => ?_
   refine sv_g (v := .bool false) Z (Z.g 26 rfl) (ei_geq (Z.g 33 rfl) rfl (by rw [decide_eq_false_iff_not]; exact hq1)) fun a Z => sv_n 1 Z rfl fun a Z => Z.nx [35, 6, 0, 1] rfl fun Z => sh (cond_f (Z.g 35 rfl) (wp_exit ?_))
   simp only [Exit.inBlock, Exit.then, if_true]
   refine sh (wp_seq ?_)
   refine qg 7 [.string s, .int .i64 ((n : Nat) : Int), .string (s.extract 0 n), .string s, .int .i64 ((n : Nat) : Int), .string (s.extract n s.size), .string (s.extract 0 n)] Z ?_ ?_
   ·simp only [List.take_succ_cons, List.take_zero]
    exact ⟨qm (Z.g 0 rfl), qm (Z.g 6 rfl), fun _ _ c => og_val (ex_ssh (c.s 0 rfl) (c.s 1 rfl) (by omega)) rfl, qm (Z.g 0 rfl), qm (Z.g 6 rfl), fun _ _ c => og_val (ex_ssl (c.s 3 rfl) (c.s 4 rfl) (by omega)) rfl, fun _ _ c => og_val (ex_as (c.s 2 rfl)) rfl, trivial⟩
   ·intro a w5 c hbw5
    replace Z := ((Z.ogk c [1, 0, 6, 35]).kS c 5 rfl rfl).kS c 6 rfl rfl
    clear c
    simp only [List.drop_succ_cons, List.drop_zero]
    refine sv_n 1 Z rfl fun a Z => Z.nx [5, 4, 1, 0, 6, 35] rfl fun Z => sh (wp_ret ?_)
    try simp only [Exit.inBlock, Exit.then]
    exact ret2_of_ev Z.ev rfl (Z.g 4 rfl) (Z.g 5 rfl) ⟨by rw [hrun], Z.toBelow⟩
  ·have hq1 : 0 ≤ zix chars (s[n]'hlt) := of_decide_eq_true hq
   refine wp_seq (wr (sv_n 2 Z rfl fun a Z => sv_r (v := .int .i64 ((s.size : Nat) : Int)) Z (ex_slen (ats := #[]) (Z.g 23 rfl)) fun a Z => ?_))
   refine sv_r (v := .bool true) Z (ei_lss (Z.g 22 rfl) (Z.g 24 rfl) (by rw [decide_eq_true_iff]; omega)) fun a Z => sv_n 5 Z rfl fun a Z => ?_
   refine sv_g (v := .int .i64 ((n + 1 : Nat) : Int)) Z (Z.g 26 rfl) (ei_add (Z.g 30 rfl) rfl (by rw [IntKind.wrap_i64]; omega)) fun a Z => ?_
   refine sv_g (v := .string (s.extract n (n + 1))) Z (Z.g 26 rfl) (ex_sslh (Z.g 28 rfl) (Z.g 29 rfl) (Z.g 31 rfl) (by omega) (by omega)) fun a Z => ?_
   refine sv_gcallv (v := .int .i64 (zix chars (s[n]'hlt))) Z rfl rfl (Z.g 26 rfl) rfl (by decide) (ex_call2 cf_m3u8_zzIndex (Z.g 27 rfl) (Z.g 32 rfl)) (by rw [ext_one_eq hlt]; exact zzIndex_any chars _ hc _) fun a w6 hbw6 Z => ?_
   refine sv_g (v := .bool true) Z (Z.g 26 rfl) (ei_geq (Z.g 33 rfl) rfl (by rw [decide_eq_true_iff]; exact hq1)) fun a Z => sv_n 1 Z rfl fun a Z => Z.nx [35, 6, 0, 1] rfl fun Z => sh (cond_t (Z.g 35 rfl) (wp_skip (sh (wp_block (wp_region_lit (sv_n 1 Z rfl fun a Z => ?_))))))
   refine sv_r (v := .int .i64 ((n + 1 : Nat) : Int)) Z (ei_add (Z.g 36 rfl) rfl (by rw [IntKind.wrap_i64]; omega)) fun a Z => sv_n 1 Z rfl fun a Z => Z.nx [6, 35, 0, 1] rfl fun Z => ?_
   refine ⟨⟨n + 1, by omega, (fun j hj hji => by by_cases e : j = n; (· subst e; exact hq); (· exact hd j hj (by omega))), Z.pick rfl⟩, ?_⟩
   have h1 := Z.g 6 rfl; rw [h1]; rw [hS0]; simp only [intOf]; omega
 ·obtain ⟨hb1, hb2⟩ := hb h0
  refine wp_seq (wr (sv_n 1 Z rfl fun a Z => sv_r (v := .int .i64 ((s.size : Nat) : Int)) Z (ex_slen (ats := #[]) (Z.g 7 rfl)) fun a Z => ?_))
  refine sv_r (v := .bool true) Z (ei_gtr (Z.g 8 rfl) rfl (by rw [decide_eq_true_iff]; omega)) fun a Z => sv_n 2 Z rfl fun a Z => sv_g (v := .int .u8 (((s[0]'h0).toNat : Nat) : Int)) Z (Z.g 10 rfl) (ex_sidx (i := 0) (Z.g 11 rfl) rfl h0) fun a Z => ?_
  refine sv_g (v := .bool false) Z (Z.g 10 rfl) (ei_eql (Z.g 12 rfl) rfl (by rw [decide_eq_false_iff_not]; omega)) fun a Z => sv_n 2 Z rfl fun a Z => sv_g (v := .int .u8 (((s[0]'h0).toNat : Nat) : Int)) Z (Z.g 14 rfl) (ex_sidx (i := 0) (Z.g 15 rfl) rfl h0) fun a Z => ?_
  refine sv_g (v := .bool false) Z (Z.g 14 rfl) (ei_eql (Z.g 16 rfl) rfl (by rw [decide_eq_false_iff_not]; omega)) fun a Z => sv_n 2 Z rfl fun a Z => Z.nx [19, 0, 1] rfl fun Z => sh (cond_f (Z.g 19 rfl) (wp_exit ?_))
  simp only [Exit.inBlock, Exit.then, if_true]
  refine sh (wr (sv_n 1 Z rfl fun a Z => Z.nx [6, 19, 0, 1] rfl fun Z => sh (wp_seq (wp_block ?_))))
  refine wp_loop (fun a w' => ∃ n : Nat, n ≤ s.size ∧ (∀ j (hj : j < s.size), j < n → inS chars (s[j]'hj) = true) ∧ Sv 44 ((6, .int .i64 ((n : Nat) : Int)) :: (0, .string s) :: (1, .string chars) :: []) [] (fun _ => False) w a w') (fun a _ => (s.size + 1 - (intOf (a.eval (.tmp 6))).toNat)) ⟨0, by omega, (fun j hj h => absurd h (Nat.not_lt_zero _)), Z.pick rfl⟩ ?_
  clear Z
  rintro a w7 ⟨n, hn, hd, Z⟩
  have hS0 := Z.g 6 rfl
  obtain hq | ⟨hlt, hq⟩ | ⟨hlt, hq⟩ := tok_cases chars s n hn
  ·have hrun : runN (inS chars) s = n := runN_eq hn hd (fun hj => absurd hj (by omega))
   refine wp_seq (wr (sv_n 2 Z rfl fun a Z => sv_r (v := .int .i64 ((s.size : Nat) : Int)) Z (ex_slen (ats := #[]) (Z.g 23 rfl)) fun a Z => ?_))
   refine sv_r (v := .bool false) Z (ei_lss (Z.g 22 rfl) (Z.g 24 rfl) (by rw [decide_eq_false_iff_not]; omega)) fun a Z => sv_n 10 Z rfl fun a Z => Z.nx [35, 6, 0, 1] rfl fun Z => sh (cond_f (Z.g 35 rfl) (wp_exit ?_))
   simp only [Exit.inBlock, Exit.then, if_true]
   refine sh (wp_seq ?_)
   refine qg 7 [.string s, .int .i64 ((n : Nat) : Int), .string (s.extract 0 n), .string s, .int .i64 ((n : Nat) : Int), .string (s.extract n s.size), .string (s.extract 0 n)] Z ?_ ?_
   ·simp only [List.take_succ_cons, List.take_zero]
    exact ⟨qm (Z.g 0 rfl), qm (Z.g 6 rfl), fun _ _ c => og_val (ex_ssh (c.s 0 rfl) (c.s 1 rfl) (by omega)) rfl, qm (Z.g 0 rfl), qm (Z.g 6 rfl), fun _ _ c => og_val (ex_ssl (c.s 3 rfl) (c.s 4 rfl) (by omega)) rfl, fun _ _ c => og_val (ex_as (c.s 2 rfl)) rfl, trivial⟩
   ·intro a w8 c hbw8
    replace Z := ((Z.ogk c [1, 0, 6, 35]).kS c 5 rfl rfl).kS c 6 rfl rfl
    clear c
    simp only [List.drop_succ_cons, List.drop_zero]
    refine sv_n 1 Z rfl fun a Z => Z.nx [5, 4, 1, 0, 6, 35] rfl fun Z => sh (wp_ret ?_)
    try simp only [Exit.inBlock, Exit.then]
    exact ret2_of_ev Z.ev rfl (Z.g 4 rfl) (Z.g 5 rfl) ⟨by rw [hrun], Z.toBelow⟩
  ·have hrun : runN (inS chars) s = n := runN_eq hn hd (fun _ => hq)
   have hq1 : ¬ (0 ≤ zix chars (s[n]'hlt)) := of_decide_eq_false hq
   refine wp_seq (wr (sv_n 2 Z rfl fun a Z => sv_r (v := .int .i64 ((s.size : Nat) : Int)) Z (ex_slen (ats := #[]) (Z.g 23 rfl)) fun a Z => ?_))
   refine sv_r (v := .bool true) Z (ei_lss (Z.g 22 rfl) (Z.g 24 rfl) (by rw [decide_eq_true_iff]; omega)) fun a Z => sv_n 5 Z rfl fun a Z => ?_
   refine sv_g (v := .int .i64 ((n + 1 : Nat) : Int)) Z (Z.g 26 rfl) (ei_add (Z.g 30 rfl) rfl (by rw [IntKind.wrap_i64]; omega)) fun a Z => ?_
   refine sv_g (v := .string (s.extract n (n + 1))) Z (Z.g 26 rfl) (ex_sslh (Z.g 28 rfl) (Z.g 29 rfl) (Z.g 31 rfl) (by omega) (by omega)) fun a Z => ?_
   refine sv_gcallv (v := .int .i64 (zix chars (s[n]'hlt))) Z rfl rfl (Z.g 26 rfl) rfl (by decide) (ex_call2 cf_m3u8_zzIndex (Z.g 27 rfl) (Z.g 32 rfl)) (by rw [ext_one_eq hlt]; exact zzIndex_any chars _ hc _) fun a w9 hbw9 Z => ?_
   refine sv_g (v := .bool false) Z (Z.g 26 rfl) (ei_geq (Z.g 33 rfl) rfl (by rw [decide_eq_false_iff_not]; exact hq1)) fun a Z => sv_n 1 Z rfl fun a Z => Z.nx [35, 6, 0, 1] rfl fun Z => sh (cond_f (Z.g 35 rfl) (wp_exit ?_))
   simp only [Exit.inBlock, Exit.then, if_true]
   refine sh (wp_seq ?_)
   refine qg 7 [.string s, .int .i64 ((n : Nat) : Int), .string (s.extract 0 n), .string s, .int .i64 ((n : Nat) : Int), .string (s.extract n s.size), .string (s.extract 0 n)] Z ?_ ?_
   ·simp only [List.take_succ_cons, List.take_zero]
    exact ⟨qm (Z.g 0 rfl), qm (Z.g 6 rfl), fun _ _ c => og_val (ex_ssh (c.s 0 rfl) (c.s 1 rfl) (by omega)) rfl, qm (Z.g 0 rfl), qm (Z.g 6 rfl), fun _ _ c => og_val (ex_ssl (c.s 3 rfl) (c.s 4 rfl) (by omega)) rfl, fun _ _ c => og_val (ex_as (c.s 2 rfl)) rfl, trivial⟩
   ·intro a w10 c hbw10
    replace Z := ((Z.ogk c [1, 0, 6, 35]).kS c 5 rfl rfl).kS c 6 rfl rfl
    clear c
    simp only [List.drop_succ_cons, List.drop_zero]
    refine sv_n 1 Z rfl fun a Z => Z.nx [5, 4, 1, 0, 6, 35] rfl fun Z => sh (wp_ret ?_)
    try simp only [Exit.inBlock, Exit.then]
    exact ret2_of_ev Z.ev rfl (Z.g 4 rfl) (Z.g 5 rfl) ⟨by rw [hrun], Z.toBelow⟩
  ·have hq1 : 0 ≤ zix chars (s[n]'hlt) := of_decide_eq_true hq
   refine wp_seq (wr (sv_n 2 Z rfl fun a Z => sv_r (v := .int .i64 ((s.size : Nat) : Int)) Z (ex_slen (ats := #[]) (Z.g 23 rfl)) fun a Z => ?_))
   refine sv_r (v := .bool true) Z (ei_lss (Z.g 22 rfl) (Z.g 24 rfl) (by rw [decide_eq_true_iff]; omega)) fun a Z => sv_n 5 Z rfl fun a Z => ?_
   refine sv_g (v := .int .i64 ((n + 1 : Nat) : Int)) Z (Z.g 26 rfl) (ei_add (Z.g 30 rfl) rfl (by rw [IntKind.wrap_i64]; omega)) fun a Z => ?_
   refine sv_g (v := .string (s.extract n (n + 1))) Z (Z.g 26 rfl) (ex_sslh (Z.g 28 rfl) (Z.g 29 rfl) (Z.g 31 rfl) (by omega) (by omega)) fun a Z => ?_
   refine sv_gcallv (v := .int .i64 (zix chars (s[n]'hlt))) Z rfl rfl (Z.g 26 rfl) rfl (by decide) (ex_call2 cf_m3u8_zzIndex (Z.g 27 rfl) (Z.g 32 rfl)) (by rw [ext_one_eq hlt]; exact zzIndex_any chars _ hc _) fun a w11 hbw11 Z => ?_
   refine sv_g (v := .bool true) Z (Z.g 26 rfl) (ei_geq (Z.g 33 rfl) rfl (by rw [decide_eq_true_iff]; exact hq1)) fun a Z => sv_n 1 Z rfl fun a Z => Z.nx [35, 6, 0, 1] rfl fun Z => sh (cond_t (Z.g 35 rfl) (wp_skip (sh (wp_block (wp_region_lit (sv_n 1 Z rfl fun a Z => ?_))))))
   refine sv_r (v := .int .i64 ((n + 1 : Nat) : Int)) Z (ei_add (Z.g 36 rfl) rfl (by rw [IntKind.wrap_i64]; omega)) fun a Z => sv_n 1 Z rfl fun a Z => Z.nx [6, 35, 0, 1] rfl fun Z => ?_
   refine ⟨⟨n + 1, by omega, (fun j hj hji => by by_cases e : j = n; (· subst e; exact hq); (· exact hd j hj (by omega))), Z.pick rfl⟩, ?_⟩
   have h1 := Z.g 6 rfl; rw [h1]; rw [hS0]; simp only [intOf]; omega
end Go.Proofs.YtflppablgdegcaaGreatDoor
