/- Joined: Ogg, Ffs, Ffj, Ffk, Ffl, Ffm, Fft. -/
import Derived.Test.YtfonjeoiallhhaaGreatDoorB01
import Derived.Test.YtfonjeoiallhhaaGreatDoorB05
import Derived.Laws.MakeOwn
/- The rules of Og and OgA once more, where an edge that does not bind may lead forward. -/
namespace Go.Proofs.YtfonjeoiallhhaaGreatDoor.G2
open Go.RowKit
/-- The edges lead back; no two operations write one slot. -/
def ogOk (ops : Array Oper) : Bool :=
 (ops.toList.zipIdx.all fun (o, i) => o.after.toList.all fun e => !Region.binds .any e || decide (e.on < i)) &&
 (ops.toList.zipIdx.all fun (o, i) => ops.toList.zipIdx.all fun (o', j) => i == j || o.dst == none || o.dst != o'.dst)

def beforeStep (acc : Array Nat) (o : Oper) : Array Nat := acc.push (o.after.foldl (fun s e => if Region.binds .any e then s ||| 2 ^ e.on ||| acc.getD e.on 0 else s) 0)
theorem before_keeps (l : List Oper) : ∀ (acc : Array Nat) (i : Nat), i < acc.size → (l.foldl beforeStep acc)[i]? = acc[i]? := by
 induction l with
 | nil => intro acc i _; rfl
 | cons o l ih =>
  intro acc i hi
  rw [List.foldl_cons, ih _ i (by simp [beforeStep]; omega)]
  simp only [beforeStep]
  rw [Array.getElem?_push, if_neg (by omega)]
theorem before_size (l : List Oper) : ∀ acc : Array Nat, (l.foldl beforeStep acc).size = acc.size + l.length := by
 induction l with
 | nil => intro acc; rfl
 | cons o l ih => intro acc; rw [List.foldl_cons, ih]; simp [beforeStep]; omega
theorem before_at (ops : Array Oper) (i : Nat) (o : Oper) (ho : ops[i]? = some o) :
  (Region.before ops).getD i 0 = o.after.foldl (fun s e => if Region.binds .any e then s ||| 2 ^ e.on ||| ((ops.toList.take i).foldl beforeStep #[]).getD e.on 0 else s) 0 := by
 have hlen : i < ops.toList.length := by
  have := (Array.getElem?_eq_some_iff.1 ho).1
  simpa using this
 have ho' : ops.toList[i]? = some o := by simpa using ho
 have hsplit : ops.toList = ops.toList.take i ++ o :: ops.toList.drop (i + 1) := by
  rw [List.getElem?_eq_some_iff] at ho'
  obtain ⟨h, e⟩ := ho'
  rw [← e, List.getElem_cons_drop]
  simp
 have hb : Region.before ops = ops.toList.foldl beforeStep #[] := by
  unfold Region.before
  rw [← Array.foldl_toList]
  rfl
 rw [hb]
 have hsz : ((ops.toList.take i).foldl beforeStep #[]).size = i := by
  rw [before_size, List.length_take, Array.length_toList, Array.size_empty]; rw [Array.length_toList] at hlen; omega
 generalize hT : ops.toList.take i = T at *
 have : (ops.toList.foldl beforeStep #[]) = ((ops.toList.drop (i + 1)).foldl beforeStep (beforeStep (T.foldl beforeStep #[]) o)) := by
  conv => lhs; rw [hsplit]
  rw [List.foldl_append, List.foldl_cons]
 rw [this]
 simp only [Array.getD_eq_getD_getElem?]
 rw [before_keeps _ _ i (by simp [beforeStep]; omega)]
 simp only [beforeStep]
 rw [Array.getElem?_push, if_pos hsz.symm]
 simp
theorem before_take (ops : Array Oper) (i j : Nat) (hji : j < i) (hi : i ≤ ops.size) :
  ((ops.toList.take i).foldl beforeStep #[]).getD j 0 = (Region.before ops).getD j 0 := by
 have hb : Region.before ops = ops.toList.foldl beforeStep #[] := by
  unfold Region.before
  rw [← Array.foldl_toList]
  rfl
 rw [hb]
 have : ops.toList.foldl beforeStep #[] = (ops.toList.drop i).foldl beforeStep ((ops.toList.take i).foldl beforeStep #[]) := by
  rw [← List.foldl_append, List.take_append_drop]
 rw [this]
 have hj : j < ((ops.toList.take i).foldl beforeStep #[]).size := by rw [before_size, List.length_take, Array.length_toList, Array.size_empty]; omega
 simp only [Array.getD_eq_getD_getElem?]
 rw [before_keeps _ _ j hj]
theorem foldl_or_bit (b : Edge → Bool) (f : Edge → Nat) (j : Nat) (l : List Edge) : ∀ s : Nat, (l.foldl (fun s e => if b e then s ||| 2 ^ e.on ||| f e else s) s).testBit j = true →
  s.testBit j = true ∨ ∃ e ∈ l, b e = true ∧ (e.on = j ∨ (f e).testBit j = true) := by
 induction l with
 | nil => intro s h; exact .inl h
 | cons e l ih =>
  intro s h
  rw [List.foldl_cons] at h
  rcases ih _ h with h | ⟨e', he', r⟩
  ·by_cases hb : b e = true
   ·rw [if_pos hb, Nat.testBit_or, Nat.testBit_or, Nat.testBit_two_pow] at h
    simp only [Bool.or_eq_true, decide_eq_true_eq] at h
    rcases h with (h | h) | h
    ·exact .inl h
    ·exact .inr ⟨e, by simp, hb, .inl h⟩
    ·exact .inr ⟨e, by simp, hb, .inr h⟩
   ·rw [if_neg hb] at h
    exact .inl h
  ·exact .inr ⟨e', by simp [he'], r⟩
/-- What stands ahead of i is an edge of i, or stands ahead of an edge of i. -/
theorem ahead_edge {ops : Array Oper} {i j : Nat} {o : Oper} (ho : ops[i]? = some o) (hb : ∀ e ∈ o.after.toList, Region.binds .any e = true → e.on < i) (h : ahead ops i j = true) :
  ∃ e ∈ o.after.toList, Region.binds .any e = true ∧ (e.on = j ∨ ahead ops e.on j = true) := by
 unfold ahead at h
 rw [before_at ops i o ho, ← Array.foldl_toList] at h
 rcases foldl_or_bit _ _ j _ 0 h with h | ⟨e, he, hbe, r⟩
 ·simp at h
 ·refine ⟨e, he, hbe, ?_⟩
  rcases r with r | r
  ·exact .inl r
  ·right
   unfold ahead
   have hlen : i < ops.size := (Array.getElem?_eq_some_iff.1 ho).1
   rw [before_take ops i e.on (hb e he hbe) (by have := hb e he hbe; omega)] at r
   exact r

section
variable {P : Program} {ops : Array Oper} {Q : Exit → Act → World → Prop}
/-- What an operation of the region may lean on. -/
structure OgCtx (ops : Array Oper) (a0 : Act) (w0 : World) (E : Nat → Nat → Prop) (Φ : Nat → Value → World → Prop) (i : Nat) (a : Act) (w : World) : Prop where
 defers : a.defers = a0.defers
 size : a.tmps.size = a0.tmps.size
 slot : ∀ (j : Nat) (o : Oper), ahead ops i j = true → ops[j]? = some o → Φ j (slotOf a o) w
 out : ∀ t, (∀ (j : Nat) (o : Oper), ops[j]? = some o → o.dst = some t → j = i ∨ ahead ops j i = true) → a.tmps[t]? = a0.tmps[t]?
 only : Only (fun g => ∃ e, E e g) w0 w
 block : ∀ g, g < w0.heap.size → (∀ e, E e g → e = i ∨ ahead ops e i = true) → w.heap[g]? = w0.heap[g]?
def OgPost (E : Nat → Nat → Prop) (Φ : Nat → Value → World → Prop) (i : Nat) (o : Oper) (a : Act) (w : World) (a' : Act) (w' : World) : Prop :=
 ∃ v, a' = a.put o.dst v ∧ Only (E i) w w' ∧ Φ i v w'
structure OgEnd (ops : Array Oper) (a0 : Act) (w0 : World) (E : Nat → Nat → Prop) (Φ : Nat → Value → World → Prop) (a : Act) (w : World) : Prop where
 defers : a.defers = a0.defers
 size : a.tmps.size = a0.tmps.size
 slot : ∀ (j : Nat) (o : Oper), ops[j]? = some o → Φ j (slotOf a o) w
 out : ∀ t, (∀ (j : Nat) (o : Oper), ops[j]? = some o → o.dst ≠ some t) → a.tmps[t]? = a0.tmps[t]?
 only : Only (fun g => ∃ e, E e g) w0 w
structure OgInv (ops : Array Oper) (a0 : Act) (w0 : World) (E : Nat → Nat → Prop) (Φ : Nat → Value → World → Prop) (L : Array Bool) (a : Act) (w : World) : Prop where
 defers : a.defers = a0.defers
 size : a.tmps.size = a0.tmps.size
 len : L.size = ops.size
 closed : ∀ i j, L.getD i false = true → ahead ops i j = true → L.getD j false = true
 slot : ∀ (j : Nat) (o : Oper), L.getD j false = true → ops[j]? = some o → Φ j (slotOf a o) w
 out : ∀ t, (∀ (j : Nat) (o : Oper), ops[j]? = some o → o.dst = some t → L.getD j false = false) → a.tmps[t]? = a0.tmps[t]?
 only : Only (fun g => ∃ e, L.getD e false = true ∧ E e g) w0 w

theorem mem_ready {md : Region.Mode} {L : Array Bool} {i : Nat} (h : i ∈ Region.ready md ops L) : ∃ o, ops[i]? = some o ∧ L.getD i true = false ∧ ∀ e ∈ o.after.toList, Region.binds md e = true → L.getD e.on false = true := by
 unfold Region.ready at h
 rw [List.mem_filter] at h
 obtain ⟨h1, h2⟩ := h
 simp only [Bool.and_eq_true, Bool.not_eq_true'] at h2
 obtain ⟨h2, h3⟩ := h2
 cases ho : ops[i]? with
 | none => rw [ho] at h3; simp at h3
 | some o =>
  rw [ho] at h3
  refine ⟨o, rfl, h2, fun e he hb => ?_⟩
  simp only [Option.map_some, Option.getD_some, Array.all_eq_true_iff_forall_mem] at h3
  have := h3 e (by simpa using he)
  simpa [hb] using this
theorem ready_nil {L : Array Bool} (hok : ogOk ops = true) (hlen : L.size = ops.size) (h : Region.ready .any ops L = []) : ∀ i, i < ops.size → L.getD i false = true := by
 intro i
 induction i using Nat.strongRecOn with
 | _ i ih =>
  intro hi
  cases hL : L.getD i false with
  | true => rfl
  | false =>
   exfalso
   have hmem : i ∈ Region.ready .any ops L := by
    unfold Region.ready
    rw [List.mem_filter]
    refine ⟨List.mem_range.2 hi, ?_⟩
    have ho : ops[i]? = some ops[i] := Array.getElem?_eq_getElem hi
    have hLi : L.getD i true = false := by
     simp only [Array.getD_eq_getD_getElem?, Array.getElem?_eq_getElem (show i < L.size by omega), Option.getD_some] at hL ⊢
     exact hL
    rw [ho, hLi]
    simp only [Bool.not_false, Bool.true_and, Option.map_some, Option.getD_some, Array.all_eq_true_iff_forall_mem]
    intro e he
    cases hbe : Region.binds .any e with
    | false => simp
    | true =>
    have hlt : e.on < i := by
     unfold ogOk at hok
     simp only [Bool.and_eq_true, List.all_eq_true] at hok
     have h1 := hok.1 (ops[i], i) (by rw [List.mem_zipIdx_iff_getElem?]; simp)
     have h2 := h1 e (by simpa using he)
     simpa [hbe] using h2
    rw [ih e.on hlt (by omega)]
    simp
   rw [h] at hmem
   cases hmem
theorem og_dst {i j : Nat} {o o' : Oper} {d : Tmp} (hok : ogOk ops = true) (hi : ops[i]? = some o) (hj : ops[j]? = some o') (hd : o.dst = some d) (hd' : o'.dst = some d) : i = j := by
 unfold ogOk at hok
 simp only [Bool.and_eq_true, List.all_eq_true] at hok
 have h1 := hok.2 (o, i) (by rw [List.mem_zipIdx_iff_getElem?]; simpa using hi)
 have h2 := h1 (o', j) (by rw [List.mem_zipIdx_iff_getElem?]; simpa using hj)
 simpa [hd, hd'] using h2
theorem og_edges {i : Nat} {o : Oper} (hok : ogOk ops = true) (hi : ops[i]? = some o) : ∀ e ∈ o.after.toList, Region.binds .any e = true → e.on < i := by
 unfold ogOk at hok
 simp only [Bool.and_eq_true, List.all_eq_true] at hok
 have h1 := hok.1 (o, i) (by rw [List.mem_zipIdx_iff_getElem?]; simpa using hi)
 intro e he hbe
 have h2 := h1 e he
 simpa [hbe] using h2
theorem slotOf_put_same {a : Act} {o : Oper} {v : Value} (h : ∀ d, o.dst = some d → d < a.tmps.size) : slotOf (a.put o.dst v) o = match o.dst with | some _ => v | none => undef := by
 unfold slotOf
 cases hd : o.dst with
 | none => rfl
 | some d => simp [Act.put, h d hd]
theorem slotOf_put_other {a : Act} {o o' : Oper} {v : Value} (h : ∀ d, o.dst = some d → o'.dst ≠ some d) : slotOf (a.put o.dst v) o' = slotOf a o' := by
 unfold slotOf
 cases hd : o.dst with
 | none => rfl
 | some d =>
  cases hd' : o'.dst with
  | none => rfl
  | some d' =>
   have hne : d ≠ d' := fun e => h d hd (by rw [hd', e])
   simp [Act.put, Array.getElem?_setIfInBounds_ne hne]
theorem og_any (hok : ogOk ops = true) (a0 : Act) (w0 : World) (E : Nat → Nat → Prop) (Φ : Nat → Value → World → Prop)
  (hsl : ∀ (i : Nat) (o : Oper) d, ops[i]? = some o → o.dst = some d → d < a0.tmps.size)
  (hnone : ∀ (i : Nat) (o : Oper) v w, ops[i]? = some o → o.dst = none → Φ i v w → Φ i undef w)
  (hst : ∀ i j v w w', Only (fun g => ∃ e, E e g) w0 w → Only (E i) w w' → ahead ops j i = false → j ≠ i → Φ j v w → Φ j v w')
  (hop : ∀ (i : Nat) (o : Oper), ops[i]? = some o → ∀ a w, OgCtx ops a0 w0 E Φ i a w → wpOp P ops Q i (OgPost E Φ i o a w) a w)
  (hend : ∀ a w, OgEnd ops a0 w0 E Φ a w → Q .normal a w) :
  ∀ (fuel : Nat) (L : Array Bool) (a : Act) (w : World), (L.toList.filter (! ·)).length ≤ fuel → OgInv ops a0 w0 E Φ L a w → wpAny P .any ops Q fuel L a w := by
 have fin : ∀ (L : Array Bool) (a : Act) (w : World), OgInv ops a0 w0 E Φ L a w → Region.ready .any ops L = [] → Q .normal a w := by
  intro L a w h hr
  have hall := ready_nil hok h.len hr
  refine hend a w ⟨h.defers, h.size, fun j o hj => h.slot j o (hall j (Array.getElem?_eq_some_iff.1 hj).1) hj, fun t ht => h.out t fun j o hj hd => absurd hd (ht j o hj), h.only.mono fun g _ ⟨e, _, he⟩ => ⟨e, he⟩⟩
 intro fuel
 induction fuel with
 | zero =>
  intro L a w hf h
  have hr : Region.ready .any ops L = [] := by
   cases hr : Region.ready .any ops L with
   | nil => rfl
   | cons i r =>
    obtain ⟨o, ho, hL, _⟩ := mem_ready (ops := ops) (L := L) (i := i) (md := .any) (by rw [hr]; simp)
    have hlt : i < L.size := by have := (Array.getElem?_eq_some_iff.1 ho).1; have := h.len; omega
    have : L[i] ∈ L.toList.filter (! ·) := by
     rw [List.mem_filter]
     refine ⟨by simp, ?_⟩
     simp only [Array.getD_eq_getD_getElem?, Array.getElem?_eq_getElem hlt, Option.getD_some] at hL
     simp [hL]
    have := List.length_pos_of_mem this
    omega
  exact ⟨hr, fin L a w h hr⟩
 | succ fuel ih =>
  intro L a w hf h
  refine ⟨fin L a w h, fun i hi => ?_⟩
  obtain ⟨o, ho, hL, hedge⟩ := mem_ready hi
  have hlt : i < L.size := by have := (Array.getElem?_eq_some_iff.1 ho).1; have := h.len; omega
  have hLf : L.getD i false = false := by
   simp only [Array.getD_eq_getD_getElem?, Array.getElem?_eq_getElem hlt, Option.getD_some] at hL ⊢
   exact hL
  have hanc : ∀ j, ahead ops i j = true → L.getD j false = true := by
   intro j hj
   obtain ⟨e, he, hb, r⟩ := ahead_edge ho (og_edges hok ho) hj
   have hLe := hedge e he hb
   rcases r with r | r
   ·rw [← r]; exact hLe
   ·exact h.closed _ _ hLe r
  have hctx : OgCtx ops a0 w0 E Φ i a w := by
   refine ⟨h.defers, h.size, fun j o' hj ho' => h.slot j o' (hanc j hj) ho', fun t ht => h.out t fun j o' ho' hd => ?_, h.only.mono fun g _ ⟨e, _, he⟩ => ⟨e, he⟩, fun g hg he => h.only.block g hg fun ⟨e, hLe, hE⟩ => ?_⟩
   ·rcases ht j o' ho' hd with rfl | hj
    ·exact hLf
    ·cases hLj : L.getD j false with
     | false => rfl
     | true => rw [h.closed j i hLj hj] at hLf; cases hLf
   ·rcases he e hE with rfl | hj
    ·rw [hLe] at hLf; cases hLf
    ·rw [h.closed e i hLe hj] at hLf; cases hLf
  refine wpOp_mono ?_ (hop i o ho a w hctx)
  rintro a' w' ⟨v, rfl, honly, hΦ⟩
  have hget : ∀ j, (L.setIfInBounds i true).getD j false = true ↔ (j = i ∨ L.getD j false = true) := by
   intro j
   simp only [Array.getD_eq_getD_getElem?]
   by_cases hji : j = i
   ·subst hji
    simp [hlt]
   ·rw [Array.getElem?_setIfInBounds_ne (fun e => hji e.symm)]
    simp [hji]
  refine ih _ _ _ ?_ ⟨?_, ?_, ?_, ?_, ?_, ?_, ?_⟩
  ·have h1 : (L.setIfInBounds i true).toList = L.toList.set i true := by simp
   rw [h1]
   have h2 : L.toList = L.toList.take i ++ L[i] :: L.toList.drop (i + 1) := by
    rw [show L[i] = L.toList[i] from by simp, List.getElem_cons_drop]; simp
   have hLi : L[i] = false := by
    simp only [Array.getD_eq_getD_getElem?, Array.getElem?_eq_getElem hlt, Option.getD_some] at hLf
    exact hLf
   have h3 : L.toList.set i true = L.toList.take i ++ true :: L.toList.drop (i + 1) := List.set_eq_take_append_cons_drop .. |>.trans (by simp [hlt])
   rw [h3]
   rw [h2, hLi] at hf
   simp only [List.filter_append, List.filter_cons, List.length_append] at hf ⊢
   simp at hf ⊢
   omega
  ·cases hd : o.dst <;> simpa [Act.put, hd] using h.defers
  ·cases hd : o.dst <;> simpa [Act.put, hd] using h.size
  ·simpa using h.len
  ·intro k j hk hj
   rw [hget] at hk ⊢
   rcases hk with rfl | hk
   ·exact .inr (hanc j hj)
   ·exact .inr (h.closed k j hk hj)
  ·intro j o' hj ho'
   rw [hget] at hj
   by_cases hji : j = i
   ·subst hji
    obtain rfl : o = o' := by rw [ho] at ho'; exact Option.some.inj ho'
    rw [slotOf_put_same (a := a) (o := o) (v := v) fun d hd => by rw [h.size]; exact hsl j o d ho hd]
    cases hd : o.dst with
    | none => exact hnone j o v w' ho hd hΦ
    | some d => exact hΦ
   ·have hLj : L.getD j false = true := hj.resolve_left hji
    rw [slotOf_put_other fun d hd hd' => hji (og_dst hok ho' ho hd' hd)]
    refine hst i j _ w w' (h.only.mono fun g _ ⟨e, _, he⟩ => ⟨e, he⟩) honly ?_ hji (h.slot j o' hLj ho')
    cases ha : ahead ops j i with
    | false => rfl
    | true => rw [h.closed j i hLj ha] at hLf; cases hLf
  ·intro t ht
   have hne : ∀ d, o.dst = some d → d ≠ t := by
    intro d hd e
    subst e
    have := ht i o ho hd
    rw [(hget i).2 (.inl rfl)] at this
    cases this
   have : (a.put o.dst v).tmps[t]? = a.tmps[t]? := by
    cases hd : o.dst with
    | none => rfl
    | some d => simp [Act.put, Array.getElem?_setIfInBounds_ne (hne d hd)]
   rw [this]
   refine h.out t fun j o' ho' hd => ?_
   have := ht j o' ho' hd
   cases hLj : L.getD j false with
   | false => rfl
   | true => rw [(hget j).2 (.inr hLj)] at this; cases this
  ·refine (h.only.trans honly).mono fun g _ hg => ?_
   rcases hg with ⟨e, he, hE⟩ | hE
   ·exact ⟨e, (hget e).2 (.inr he), hE⟩
   ·exact ⟨i, (hget i).2 (.inl rfl), hE⟩
/-- THE RULE. -/
theorem wp_region_og {id : Nat} {a0 : Act} {w : World} (hm : P.follows .mixedOrders = true) (hok : ogOk ops = true) (E : Nat → Nat → Prop) (Φ : Nat → Value → World → Prop)
  (hsl : ∀ (i : Nat) (o : Oper) d, ops[i]? = some o → o.dst = some d → d < a0.tmps.size)
  (hnone : ∀ (i : Nat) (o : Oper) v w, ops[i]? = some o → o.dst = none → Φ i v w → Φ i undef w)
  (hst : ∀ i j v w1 w', Only (fun g => ∃ e, E e g) w.drew w1 → Only (E i) w1 w' → ahead ops j i = false → j ≠ i → Φ j v w1 → Φ j v w')
  (hop : ∀ (i : Nat) (o : Oper), ops[i]? = some o → ∀ a1 w1, OgCtx ops a0 w.drew E Φ i a1 w1 → wpOp P ops Q i (OgPost E Φ i o a1 w1) a1 w1)
  (hend : ∀ a1 w1, OgEnd ops a0 w.drew E Φ a1 w1 → Q .normal a1 w1) : (Code.region id ops true).wp P Q a0 w := by
 refine wp_region_any hm ?_
 refine og_any hok a0 w.drew E Φ hsl hnone hst hop hend ops.size _ a0 w.drew ?_ ?_
 ·exact Nat.le_trans (List.length_filter_le _ _) (by simp)
 ·have hf : ∀ j, (Array.replicate ops.size false).getD j false = false := by
   intro j
   simp only [Array.getD_eq_getD_getElem?, Array.getElem?_replicate]
   split <;> rfl
  refine ⟨rfl, rfl, by simp, ?_, ?_, fun _ _ => rfl, Only.refl _ _⟩
  ·intro i j h; rw [hf i] at h; cases h
  ·intro j o h; rw [hf j] at h; cases h
end
/-- What is known of an operation's slot: a value; a value over a new block of known cells; something else; something of the world alone. -/
inductive Asr where
 | eq (v : Value)
 | pure (p : Value → Prop)
 | blki (n : Nat) (f : Nat → Nat → Value) (t : TypeId) (cs : Array Value)
 | blk (f : Nat → Value) (t : TypeId) (cs : Array Value)
 | any (p : Value → World → Prop)
 | wld (p : World → Prop)
def Asr.holds (B : Nat) : Asr → Value → World → Prop
 | .eq c, v, _ => v = c
 | .pure p, v, _ => p v
 | .blki n f t cs, v, w => ∃ g i, B ≤ g ∧ i < n ∧ v = f g i ∧ w.heap[g]? = some (.cells cs t (0, 0))
 | .blk f t cs, v, w => ∃ g, B ≤ g ∧ v = f g ∧ w.heap[g]? = some (.cells cs t (0, 0))
 | .any p, v, w => p v w
 | .wld p, _, w => p w
def asrAt (As : List Asr) (B : Nat) (j : Nat) (v : Value) (w : World) : Prop := match As[j]? with | some A => A.holds B v w | none => True
def Asr.isWld : Asr → Bool | .wld _ => true | _ => false
/-- Operations without a slot have assertions on the world alone; the slots lie in the frame. -/
def ogFit (ops : Array Oper) (As : List Asr) (n : Nat) : Bool :=
 ops.toList.zipIdx.all fun (o, i) => match o.dst with | some d => decide (d < n) | none => match As[i]? with | some A => A.isWld | none => true
section
variable {P : Program}
/-- The obligations, one an operation. -/
def OgOps (P : Program) (ops : Array Oper) (Q : Exit → Act → World → Prop) (a0 : Act) (w0 : World) (E : Nat → Nat → Prop) (Φ : Nat → Value → World → Prop) : Nat → List Oper → Prop
 | _, [] => True
 | i, o :: r => (∀ a w, OgCtx ops a0 w0 E Φ i a w → (match o.guard with | none => o.wp P a w (OgPost E Φ i o a w) Q | some _ => wpOp P ops Q i (OgPost E Φ i o a w) a w)) ∧ OgOps P ops Q a0 w0 E Φ (i + 1) r
theorem OgOps.get {ops : Array Oper} {Q : Exit → Act → World → Prop} {a0 : Act} {w0 : World} {E : Nat → Nat → Prop} {Φ : Nat → Value → World → Prop} :
  ∀ (l : List Oper) (k : Nat), OgOps P ops Q a0 w0 E Φ k l → ∀ (i : Nat) (o : Oper), l[i]? = some o →
   ∀ a w, OgCtx ops a0 w0 E Φ (k + i) a w → (match o.guard with | none => o.wp P a w (OgPost E Φ (k + i) o a w) Q | some _ => wpOp P ops Q (k + i) (OgPost E Φ (k + i) o a w) a w) := by
 intro l
 induction l with
 | nil => intro k _ i o h; simp at h
 | cons x l ih =>
  intro k h i o hi
  cases i with
  | zero =>
   simp only [List.getElem?_cons_zero, Option.some.injEq] at hi
   subst hi
   exact h.1
  | succ i =>
   rw [List.getElem?_cons_succ] at hi
   have := ih (k + 1) h.2 i o hi
   rw [show k + (i + 1) = k + 1 + i from by omega]
   exact this
theorem wp_region_ogA {id n : Nat} {l : List Oper} {Q : Exit → Act → World → Prop} {a0 : Act} {w : World} (As : List Asr) (E : Nat → Nat → Prop) (hm : P.follows .mixedOrders = true) (hok : ogOk l.toArray = true)
  (hfit : ogFit l.toArray As n = true) (hn : a0.tmps.size = n)
  (hE : ∀ e g, E e g → g < w.heap.size)
  (hany : ∀ i j p v w1 w', As[j]? = some (.any p) → Only (fun g => ∃ e, E e g) w.drew w1 → Only (E i) w1 w' → ahead l.toArray j i = false → j ≠ i → p v w1 → p v w')
  (hwld : ∀ i j p w1 w', As[j]? = some (.wld p) → Only (fun g => ∃ e, E e g) w.drew w1 → Only (E i) w1 w' → ahead l.toArray j i = false → j ≠ i → p w1 → p w')
  (hop : OgOps P l.toArray Q a0 w.drew E (asrAt As w.heap.size) 0 l)
  (hend : ∀ a1 w1, OgEnd l.toArray a0 w.drew E (asrAt As w.heap.size) a1 w1 → Q .normal a1 w1) : (Code.region id l.toArray true).wp P Q a0 w := by
 have hfit' : ∀ (i : Nat) (o : Oper), l.toArray[i]? = some o → match o.dst with | some d => d < n | none => ∀ A, As[i]? = some A → A.isWld = true := by
  intro i o hi
  unfold ogFit at hfit
  rw [List.all_eq_true] at hfit
  have := hfit (o, i) (by rw [List.mem_zipIdx_iff_getElem?]; simpa using hi)
  dsimp only at this
  cases hd : o.dst with
  | some d => rw [hd] at this; simpa using this
  | none =>
   rw [hd] at this
   dsimp only at this ⊢
   intro A hA
   rw [hA] at this
   exact this
 refine wp_region_og hm hok E (asrAt As w.heap.size) ?_ ?_ ?_ ?_ hend
 ·intro i o d hi hd
  have := hfit' i o hi
  rw [hd] at this
  rw [hn]
  exact this
 ·intro i o v w1 hi hd h
  have := hfit' i o hi
  rw [hd] at this
  unfold asrAt at h ⊢
  cases hA : As[i]? with
  | none => trivial
  | some A =>
   rw [hA] at h
   have hw := this A hA
   cases A <;> simp [Asr.isWld] at hw
   exact h
 ·intro i j v w1 w' h1 h2 ha hji h
  unfold asrAt at h ⊢
  cases hA : As[j]? with
  | none => trivial
  | some A =>
   rw [hA] at h
   cases A with
   | eq c => exact h
   | pure q => exact h
   | blki n f t cs =>
    obtain ⟨g, k, hg, hk, hv, hc⟩ := h
    refine ⟨g, k, hg, hk, hv, ?_⟩
    rw [h2.block g ?_ ?_]
    ·exact hc
    ·rcases Nat.lt_or_ge g w1.heap.size with hlt | hge
     ·exact hlt
     ·rw [Array.getElem?_eq_none hge] at hc; cases hc
    ·intro he
     have := hE i g he
     omega
   | blk f t cs =>
    obtain ⟨g, hg, hv, hc⟩ := h
    refine ⟨g, hg, hv, ?_⟩
    rw [h2.block g ?_ ?_]
    ·exact hc
    ·rcases Nat.lt_or_ge g w1.heap.size with hlt | hge
     ·exact hlt
     ·rw [Array.getElem?_eq_none hge] at hc; cases hc
    ·intro he
     have := hE i g he
     omega
   | any p => exact hany i j p v w1 w' hA h1 h2 ha hji h
   | wld p => exact hwld i j p w1 w' hA h1 h2 ha hji h
 ·intro i o hi a1 w1 c
  have hi' : l[i]? = some o := by simpa using hi
  have := hop.get l 0 i o hi' a1 w1 (by rw [Nat.zero_add]; exact c)
  rw [Nat.zero_add] at this
  cases hg : o.guard with
  | some gw => rw [hg] at this; exact this
  | none =>
   rw [hg] at this
   dsimp only at this
   unfold wpOp
   rw [hi]
   simp only [Region.wanted, hg, if_true]
   exact .inl this
/-- The assertions of other kinds are kept by what may come behind them. -/
def OgSt (ops : Array Oper) (B : Nat) (E : Nat → Nat → Prop) : Nat → List Asr → Prop
 | _, [] => True
 | j, .eq _ :: r => OgSt ops B E (j + 1) r
 | j, .pure _ :: r => OgSt ops B E (j + 1) r
 | j, .blki _ _ _ _ :: r => OgSt ops B E (j + 1) r
 | j, .blk _ _ _ :: r => OgSt ops B E (j + 1) r
 | j, .any p :: r => (∀ i, ahead ops j i = false → j ≠ i → ∀ v w w', B ≤ w.heap.size → Only (E i) w w' → p v w → p v w') ∧ OgSt ops B E (j + 1) r
 | j, .wld p :: r => (∀ i, ahead ops j i = false → j ≠ i → ∀ w w', B ≤ w.heap.size → Only (E i) w w' → p w → p w') ∧ OgSt ops B E (j + 1) r
def Asr.kept (ops : Array Oper) (B : Nat) (E : Nat → Nat → Prop) (j : Nat) : Asr → Prop
 | .any p => ∀ i, ahead ops j i = false → j ≠ i → ∀ v w w', B ≤ w.heap.size → Only (E i) w w' → p v w → p v w'
 | .wld p => ∀ i, ahead ops j i = false → j ≠ i → ∀ w w', B ≤ w.heap.size → Only (E i) w w' → p w → p w'
 | _ => True
theorem OgSt.get {ops : Array Oper} {B : Nat} {E : Nat → Nat → Prop} : ∀ {As : List Asr} {k : Nat} (_ : OgSt ops B E k As) {j : Nat} {A : Asr} (_ : As[j]? = some A), A.kept ops B E (k + j)
 | [], _, _, j, A, h => by simp at h
 | A :: r, k, hs, 0, A', h => by
  simp only [List.getElem?_cons_zero, Option.some.injEq] at h
  subst h
  cases A <;> first | trivial | exact hs.1
 | A :: r, k, hs, j + 1, A', h => by
  rw [List.getElem?_cons_succ] at h
  have hr : OgSt ops B E (k + 1) r := by cases A <;> first | exact hs | exact hs.2
  have := OgSt.get hr h
  rw [show k + (j + 1) = k + 1 + j from by omega]
  exact this
/-- The rule where some operations turn blocks. -/
theorem wp_region_ogE {id n : Nat} {l : List Oper} {Q : Exit → Act → World → Prop} {a0 : Act} {w : World} (As : List Asr) (E : Nat → Nat → Prop) (hm : P.follows .mixedOrders = true) (hok : ogOk l.toArray = true)
  (hfit : ogFit l.toArray As n = true) (hn : a0.tmps.size = n) (hE : ∀ e g, E e g → g < w.heap.size) (hst : OgSt l.toArray w.heap.size E 0 As)
  (hop : OgOps P l.toArray Q a0 w.drew E (asrAt As w.heap.size) 0 l)
  (hend : ∀ a1 w1, OgEnd l.toArray a0 w.drew E (asrAt As w.heap.size) a1 w1 → Only (fun g => ∃ e, E e g) w w1 → Q .normal a1 w1) : (Code.region id l.toArray true).wp P Q a0 w := by
 refine wp_region_ogA As E hm hok hfit hn hE ?_ ?_ hop ?_
 ·intro i j p v w1 w' hA h1 h2 ha hji h
  have := hst.get hA
  rw [Nat.zero_add] at this
  exact this i ha (fun e => hji e) v w1 w' h1.size h2 h
 ·intro i j p w1 w' hA h1 h2 ha hji h
  have := hst.get hA
  rw [Nat.zero_add] at this
  exact this i ha (fun e => hji e) w1 w' h1.size h2 h
 ·intro a1 w1 c
  have := c.only
  exact hend a1 w1 c ⟨this.os, this.tape, this.output, this.size, this.block⟩
/-- An operation that gives a value and leaves the world. -/
theorem og_val {o : Oper} {a : Act} {w : World} {E : Nat → Nat → Prop} {Φ : Nat → Value → World → Prop} {i : Nat} {Q : Exit → Act → World → Prop} {v : Value} (h : (execOp a.eval o).run P w = .ok (.value v) w) (hΦ : Φ i v w) :
  o.wp P a w (OgPost E Φ i o a w) Q := by
 unfold Oper.wp
 rw [h]
 exact ⟨v, rfl, Only.refl _ _, hΦ⟩
theorem og_ext {o : Oper} {a : Act} {w w' : World} {E : Nat → Nat → Prop} {Φ : Nat → Value → World → Prop} {i : Nat} {Q : Exit → Act → World → Prop} {v : Value} (h : (execOp a.eval o).run P w = .ok (.value v) w') (hb : Below w.heap.size w w') (hΦ : Φ i v w') :
  o.wp P a w (OgPost E Φ i o a w) Q := by
 unfold Oper.wp
 rw [h]
 exact ⟨v, rfl, Only.of_below hb, hΦ⟩
theorem og_call {o : Oper} {a : Act} {w : World} {E : Nat → Nat → Prop} {Φ : Nat → Value → World → Prop} {i : Nat} {Q : Exit → Act → World → Prop} {f : FuncId} {args : Array Value} (h : (execOp a.eval o).run P w = .ok (.enter f args) w)
  (hc : Calls P f args w fun e w' => ∃ v, e = .returned v ∧ Below w.heap.size w w' ∧ Φ i v w') : o.wp P a w (OgPost E Φ i o a w) Q := by
 unfold Oper.wp
 rw [h]
 refine Calls.mono hc ?_
 rintro e w' ⟨v, rfl, hb, hΦ⟩
 exact ⟨v, rfl, Only.of_below hb, hΦ⟩
end
section
variable {ops : Array Oper} {a0 a : Act} {w0 w : World} {E : Nat → Nat → Prop} {Φ : Nat → Value → World → Prop} {i : Nat}
/-- Every operation that writes slot t is i, or stands behind i. -/
def ogOut (ops : Array Oper) (i : Nat) (t : Tmp) : Bool := ops.toList.zipIdx.all fun (o, j) => o.dst != some t || j == i || ahead ops j i
theorem OgCtx.outE (c : OgCtx ops a0 w0 E Φ i a w) {t : Tmp} {v : Value} (h : ogOut ops i t = true) (hv : a0.eval (.tmp t) = v) : a.eval (.tmp t) = v := by
 have := c.out t (by
  intro j o hj hd
  unfold ogOut at h
  rw [List.all_eq_true] at h
  have h1 := h (o, j) (by rw [List.mem_zipIdx_iff_getElem?]; simpa using hj)
  simp only [hd, bne_self_eq_false, Bool.false_or, Bool.or_eq_true, beq_iff_eq] at h1
  exact h1)
 rw [← hv]
 simp only [Act.eval, Array.getD_eq_getD_getElem?, this]
theorem OgCtx.heap (c : OgCtx ops a0 w0 E Φ i a w) {g : Nat} {o : Obj} (h : w0.heap[g]? = some o) (hE : ∀ e, E e g → e = i ∨ ahead ops e i = true) : w.heap[g]? = some o := by
 rw [c.block g ?_ hE]
 ·exact h
 ·rcases Nat.lt_or_ge g w0.heap.size with hlt | hge
  ·exact hlt
  ·rw [Array.getElem?_eq_none hge] at h; cases h
theorem OgCtx.cell (c : OgCtx ops a0 w0 E Φ i a w) {p : Addr} {v : Value} (h : w0.cell? p = some v) (hE : ∀ e, E e p.block → e = i ∨ ahead ops e i = true) : w.cell? p = some v := by
 rw [World.cell?_of_block (w := w0)]
 ·exact h
 ·exact c.block _ (World.block_lt_of_cell? w0 p h) hE
/-- The slots that the region writes are all on the list. -/
def ogDsts (ops : Array Oper) (ds : List Tmp) : Bool := ops.toList.all fun o => match o.dst with | some d => ds.contains d | none => true
end
end Go.Proofs.YtfonjeoiallhhaaGreatDoor.G2
/- ftoa64's region of numDigits and setDigits. -/
namespace Go.Proofs.YtfonjeoiallhhaaGreatDoor
open Go.Shelf Go.RowKit Go.Sort Go.Lib
theorem sl_all (g : Nat) (w : World) : (Instr.sliceAt 140 (.pointer (some ⟨g, 0, none⟩)) none none none).run Tryz.prog w = .ok (.slice (some ⟨g, 0, none⟩) 24 24) w := by
 have hal : Tryz.prog.arrayLen 140 = 24 := by simp [Program.arrayLen, Tryz.underlying140]
 rw [run_sliceAt_array_all w 140 ⟨g, 0, none⟩ (by simp [Program.arrayLen, Program.elem, Tryz.underlying140])]
 go_simp
def P5 (g d n : Nat) (v : Value) (w : World) : Prop := ∃ nd : Nat, v = .tuple #[.int .i64 ((n : Int) - 3), .int .i64 nd] ∧ 1 ≤ nd ∧ nd ≤ n ∧ (∀ (j : Nat) (b : UInt8), nd ≤ j → (decDigits d)[j]? = some b → b = 48) ∧ DgAt g (decDigits d) w
def Pn (d n : Nat) (v : Value) : Prop := ∃ nd : Nat, v = .int .i64 nd ∧ 1 ≤ nd ∧ nd ≤ n ∧ ∀ (j : Nat) (b : UInt8), nd ≤ j → (decDigits d)[j]? = some b → b = 48
namespace G2
end G2
end Go.Proofs.YtfonjeoiallhhaaGreatDoor
/- strconv.ftoa64 at 'f', precision 3. -/
set_option maxRecDepth 100000
namespace Go.Proofs.YtfonjeoiallhhaaGreatDoor
open Go.Shelf Go.RowKit Go.Sort Go.Lib
theorem run_f64bits (X : Nat) (w : World) : (callFunc 85 #[.float .f64 X]).run Tryz.prog w = .ok (.value (.int .u64 X)) w := by
 rw [run_callFunc_extern Tryz.func85 (by kernel_rfl) (by kernel_rfl) (by kernel_rfl) (e := Go.Extern.MathFloatBits.float64bits) (by kernel_rfl)]
 rfl
theorem al_u24 : Al 140 zeros24 := by intro w; unfold zeros24; go_simp
theorem Ev.from2 {N m0 d1 d2 : Nat} {l : List (Nat × Value)} {a a' : Act} {v1 v2 : Value} (h : Ev N l a) (hs : a'.tmps.size = N) (hd : a'.defers = a.defers) (hlow : ∀ t, t < m0 → t ≠ d1 → t ≠ d2 → a'.eval (.tmp t) = a.eval (.tmp t)) (hv1 : a'.eval (.tmp d1) = v1) (hv2 : a'.eval (.tmp d2) = v2) (hl : (l.all fun p => decide (p.1 < m0) && p.1 != d1 && p.1 != d2) = true) : Ev N ((d1, v1) :: (d2, v2) :: l) a' := by
 refine ⟨hs, hd.trans h.defers, fun t u hu => ?_⟩
 by_cases e : t = d1
 ·subst e; rw [look_eq] at hu; exact hv1.trans (Option.some.inj hu)
 ·rw [look_ne e] at hu
  by_cases e2 : t = d2
  ·subst e2; rw [look_eq] at hu; exact hv2.trans (Option.some.inj hu)
  ·rw [look_ne e2] at hu
   rw [List.all_eq_true] at hl
   have := hl _ (look_mem hu)
   simp only [Bool.and_eq_true, decide_eq_true_eq, bne_iff_ne, ne_eq] at this
   rw [hlow t this.1.1 this.1.2 this.2]
   exact h.look t u hu
/-- What the tables hold. -/
structure FfTab (w : World) : Prop where
 pow : PowTab w
 pm : PmTab w
 opt : w.cell? ⟨4, 0, none⟩ = some (.bool true)
end Go.Proofs.YtfonjeoiallhhaaGreatDoor
/- strconv.FormatFloat at 'f', 3, 64 for eighths. -/
namespace Go.Proofs.YtfonjeoiallhhaaGreatDoor
open Go.Shelf Go.RowKit Go.Sort Go.Lib
theorem FfTab.next {w w' : World} (h : FfTab w) (hb : Below w.heap.size w w') : FfTab w' := by
 have key : ∀ {g k : Nat} {v : Value}, w.cell? ⟨g, k, none⟩ = some v → w'.cell? ⟨g, k, none⟩ = some v := by
  intro g k v hc
  have hlt : g < w.heap.size := by
   rcases Nat.lt_or_ge g w.heap.size with h | h
   ·exact h
   ·simp [World.cell?, Array.getElem?_eq_none h] at hc
  simp only [World.cell?, hb.block g hlt] at hc ⊢
  exact hc
 exact ⟨tabBelow_of_tabIs h.pow w' hb, ⟨key h.pm.h3, key h.pm.l3, key h.pm.h4, key h.pm.l4⟩, key h.opt⟩
theorem pad (L : List UInt8) (k nd : Nat) (hk : k ≤ L.length) (hz : ∀ (j : Nat) (b : UInt8), nd ≤ j → L[j]? = some b → b = 48) : L.take (min nd k) ++ List.replicate (k - min nd k) 48 = L.take k := by
 apply List.ext_getElem?
 intro j
 have hl : (L.take (min nd k)).length = min nd k := by rw [List.length_take]; omega
 by_cases h1 : j < min nd k
 ·rw [List.getElem?_append_left (by rw [hl]; exact h1), List.getElem?_take_of_lt h1, List.getElem?_take_of_lt (by omega)]
 ·rw [List.getElem?_append_right (by rw [hl]; omega), hl]
  by_cases h2 : j < k
  ·rw [List.getElem?_take_of_lt h2, List.getElem?_replicate_of_lt (by omega)]
   have h3 : L[j]? = some L[j] := List.getElem?_eq_getElem (by omega)
   rw [h3, hz j _ (by omega) h3]
  ·rw [List.getElem?_eq_none (by rw [List.length_replicate]; omega), List.getElem?_eq_none (by rw [List.length_take]; omega)]
theorem efg_full (L : List UInt8) (dp nd : Nat) (hL : L.length = dp + 3) (hz : ∀ (j : Nat) (b : UInt8), nd ≤ j → L[j]? = some b → b = 48) : efg L dp nd = (if 0 < dp then L.take dp else [48]) ++ ([46] ++ L.drop dp) := by
 unfold efg efgTail
 have h1 := pad L dp nd (by omega) hz
 have h2 := pad (L.drop dp) 3 (nd - dp) (by rw [List.length_drop]; omega) (fun j b hj hb => by
  rw [List.getElem?_drop] at hb
  exact hz (dp + j) b (by omega) hb)
 rw [List.take_of_length_le (show (L.drop dp).length ≤ 3 by rw [List.length_drop]; omega), Nat.min_comm] at h2
 rw [h1, List.append_assoc, h2]
theorem dd_big {u : Nat} (h : 10 ≤ u) : decDigits u = decDigits (u / 10) ++ [UInt8.ofNat (48 + u % 10)] := by rw [decDigits, dif_neg (by omega)]
theorem dd_small {u : Nat} (h : u < 10) : decDigits u = [UInt8.ofNat (48 + u)] := by rw [decDigits, dif_pos h]
theorem dd_len_le : ∀ (k u : Nat), u < 10 ^ (k + 1) → (decDigits u).length ≤ k + 1 := by
 intro k
 induction k with
 | zero => intro u h; rw [dd_small (by omega)]; simp
 | succ k ih =>
  intro u h
  by_cases h2 : u < 10
  ·rw [dd_small h2]; simp
  ·rw [dd_big (by omega), List.length_append]
   have := ih (u / 10) (by rw [Nat.pow_succ] at h; omega)
   simp
   omega
theorem dd_head : ∀ u : Nat, 1 ≤ u → ∃ b, (decDigits u)[0]? = some b ∧ b ≠ 48 := by
 intro u
 induction u using Nat.strongRecOn with
 | _ u ih =>
  intro h
  by_cases h2 : u < 10
  ·rw [dd_small h2]
   refine ⟨_, rfl, fun e => ?_⟩
   have := congrArg UInt8.toNat e
   rw [UInt8.toNat_ofNat'] at this
   have h48 : (48 : UInt8).toNat = 48 := rfl
   omega
  ·obtain ⟨b, hb, hne⟩ := ih (u / 10) (by omega) (by omega)
   rw [dd_big (by omega)]
   refine ⟨b, ?_, hne⟩
   rw [List.getElem?_append_left (by rw [List.getElem?_eq_some_iff] at hb; exact hb.1)]
   exact hb
theorem dd_three (D : Nat) (h : 100 ≤ D) : decDigits D = (if D < 1000 then [] else decDigits (D / 1000)) ++ [UInt8.ofNat (48 + D / 100 % 10), UInt8.ofNat (48 + D / 10 % 10), UInt8.ofNat (48 + D % 10)] := by
 rw [dd_big (by omega), dd_big (show 10 ≤ D / 10 by omega)]
 by_cases h2 : D < 1000
 ·rw [if_pos h2, dd_small (show D / 10 / 10 < 10 by omega)]
  have : D / 10 / 10 = D / 100 % 10 := by omega
  rw [this]
  rfl
 ·rw [if_neg h2, dd_big (show 10 ≤ D / 10 / 10 by omega)]
  have e1 : D / 10 / 10 / 10 = D / 1000 := by omega
  have e2 : D / 10 / 10 % 10 = D / 100 % 10 := by omega
  rw [e1, e2]
  simp
theorem secs_list (r : Nat) : (secs r).data.toList = decDigits (r / 8) ++ ([46] ++ [UInt8.ofNat (48 + r % 8 * 125 / 100), UInt8.ofNat (48 + r % 8 * 125 / 10 % 10), UInt8.ofNat (48 + r % 8 * 125 % 10)]) := by
 unfold secs
 rw [dec_digits (r / 8), dec_small (show r % 8 * 125 / 100 < 10 by omega), dec_small (show r % 8 * 125 / 10 % 10 < 10 by omega), dec_small (show r % 8 * 125 % 10 < 10 by omega)]
 simp [ByteArray.data_append]
theorem eighth_digits (r : Nat) : 125 * r / 100 % 10 = r % 8 * 125 / 100 ∧ 125 * r / 10 % 10 = r % 8 * 125 / 10 % 10 := by
 obtain ⟨q, t, ht, rfl⟩ : ∃ q t, t < 8 ∧ r = 8 * q + t := ⟨r / 8, r % 8, by omega, by omega⟩
 have h8 : (8 * q + t) % 8 = t := by omega
 rw [h8]
 have hc : t = 0 ∨ t = 1 ∨ t = 2 ∨ t = 3 ∨ t = 4 ∨ t = 5 ∨ t = 6 ∨ t = 7 := by omega
 rcases hc with rfl | rfl | rfl | rfl | rfl | rfl | rfl | rfl <;> omega
theorem efg_secs (r nd : Nat) (h1 : 1 ≤ r) (hz : ∀ (j : Nat) (b : UInt8), nd ≤ j → (decDigits (125 * r))[j]? = some b → b = 48) : efg (decDigits (125 * r)) ((decDigits (125 * r)).length - 3) nd = (secs r).data.toList := by
 have h3 := dd_three (125 * r) (by omega)
 have e1 : 125 * r / 1000 = r / 8 := by omega
 have e2 := (eighth_digits r).1
 have e3 := (eighth_digits r).2
 have e4 : 125 * r % 10 = r % 8 * 125 % 10 := by omega
 rw [e1, e2, e3, e4] at h3
 have hlen : (decDigits (125 * r)).length = ((if 125 * r < 1000 then [] else decDigits (r / 8)) : List UInt8).length + 3 := by rw [h3]; simp
 rw [efg_full _ _ _ (by omega) hz, secs_list]
 generalize hdp : (decDigits (125 * r)).length - 3 = dp
 have hdp2 : ((if 125 * r < 1000 then [] else decDigits (r / 8)) : List UInt8).length = dp := by omega
 rw [h3]
 rw [List.take_append_of_le_length (by omega), List.drop_append_of_le_length (by omega), List.take_of_length_le (by omega), List.drop_eq_nil_of_le (by omega), List.nil_append]
 by_cases h8 : 125 * r < 1000
 ·rw [if_pos h8] at hdp2
  have hd0 : dp = 0 := by simpa using hdp2.symm
  subst hd0
  rw [if_neg (by omega), show r / 8 = 0 by omega, dd_small (by omega)]
  rfl
 ·rw [if_neg h8] at hdp2 ⊢
  have : 0 < dp := by
   rw [← hdp2, decDigits_length]
   exact nDigits_pos _
  rw [if_pos this]
end Go.Proofs.YtfonjeoiallhhaaGreatDoor
/- strconv.FormatFloat at 'f', 3, 64 for eighths. -/
namespace Go.Proofs.YtfonjeoiallhhaaGreatDoor
open Go.Shelf Go.RowKit Go.Sort Go.Lib
def exN (r : Nat) : Nat := e8 r / 4503599627370496
def frN (r : Nat) : Nat := e8 r % 4503599627370496
def mtN (r : Nat) : Nat := frN r + 4503599627370496
def EI (r : Nat) : Int := (exN r : Int) - 1023
def LI (r : Nat) : Int := if EI r < 0 then -1 else (Lib.l10 (EI r).toNat : Int)
def dgN (r : Nat) : Nat := if EI r < 0 then 4 - Lib.l10 (-(EI r)).toNat else Lib.l10 (1 + EI r).toNat + 4
def shN (r : Nat) : Nat := if (dgN r : Int) - 1 - LI r = 3 then (-(EI r - 63 + 9 + 3)).toNat else (-(EI r - 63 + 13 + 3)).toNat
def okP (r : Nat) : Prop := r = 0 ∨ (e8 r < 9223372036854775808 ∧ 0 < exN r ∧ exN r < 2047 ∧ bits .and .i64 (exN r : Int) 2047 = (exN r : Int) ∧ e8 r &&& 4503599627370495 = frN r ∧ frN r ||| 4503599627370496 = mtN r ∧ -3 ≤ EI r ∧ EI r ≤ 6 ∧ Lib.bitLen (mtN r) = 53 ∧
 (dgN r = 4 ∨ dgN r = 5 ∨ dgN r = 6) ∧ shN r < 64 ∧ (EI r < 0 ∨ Lib.l10 (1 + EI r).toNat ≤ 10) ∧ (¬ EI r < 0 ∨ Lib.l10 (-(EI r)).toNat ≤ 3) ∧
 (((dgN r : Int) - 1 - LI r = 3 ∧ -(EI r - 63 + 9 + 3) = (shN r : Int) ∧ mtN r * 2048 * 18014398509481984000 % 18446744073709551616 = 0 ∧ mtN r * 2048 * 18014398509481984000 / 18446744073709551616 = 4 * (125 * r) * 2 ^ shN r ∧ 4 * (125 * r) + 2 < 4 * 10 ^ dgN r) ∨
 ((dgN r : Int) - 1 - LI r = 4 ∧ -(EI r - 63 + 13 + 3) = (shN r : Int) ∧ mtN r * 2048 * 11258999068426240000 % 18446744073709551616 = 0 ∧ mtN r * 2048 * 11258999068426240000 / 18446744073709551616 = 40 * (125 * r) * 2 ^ shN r)))
instance : DecidablePred okP := fun r => by unfold okP; infer_instance
theorem okP_all : ∀ r ∈ List.range 1001, okP r := by decide +kernel
/-- A make'd row. -/
theorem mk24 (w : World) : ∃ w', (Instr.makeSlice 24 (.int .i64 0) (.int .i64 24)).run Tryz.prog w = .ok (.slice (some ⟨w.heap.size, 0, none⟩) 0 24) w' ∧ Own ul 5 1 w' w.heap.size (.slice (some ⟨w.heap.size, 0, none⟩) 0 24) [] ∧ Below w.heap.size w w' := by
 obtain ⟨i0, hi, hz0, hz1, hz2⟩ := info_parts info_u8
 obtain ⟨w', hr, ho, hg⟩ := run_makeSlice_owned (P := Tryz.prog) (w := w) w.heap.size 24 5 i0 _ 1 Tryz.underlying24 hi hz0 hz1 .i64 .i64 24 (by decide) (by rw [hz2]; decide) (by decide) (Nat.le_refl _)
 exact ⟨w', hr, ho, ⟨hg.os, hg.tape, hg.output, hg.size, fun k hk => hg.block k hk (by simp)⟩⟩
theorem cv_own {w : World} {B : Nat} {s : Value} {X : List UInt8} (h : Own ul 5 1 w B s X) (hX : X ≠ []) : (convert 24 9 s).run Tryz.prog w = .ok (.string ⟨X.toArray⟩) w := by
 obtain ⟨g, cap, cur, rfl, _, hh, _, ht⟩ := h.form hX
 refine run_convert_bytes_back (P := Tryz.prog) w 24 9 5 ⟨g, 0, none⟩ cap X Tryz.underlying24 Tryz.underlying5 Tryz.underlying9 (fun j hj => ?_)
 rw [add_plain, Nat.zero_add]
 refine cell_of_heap hh ?_
 have h2 : (cur.toList.take (X.length * 1))[j]? = some (.int .u8 (X[j].toNat : Int)) := by
  rw [ht]
  have := flat_get (f := ul) (k := 1) (fun _ => rfl) Nat.one_pos X j
  rw [this, Nat.div_one, List.getElem?_eq_getElem hj, Nat.mod_one]
  rfl
 rw [List.getElem?_take_of_lt (by omega)] at h2
 simpa using h2
end Go.Proofs.YtfonjeoiallhhaaGreatDoor
/- strconv.FormatFloat for eighths, and what Encode leans on. -/
namespace Go.Proofs.YtfonjeoiallhhaaGreatDoor
open Go.Shelf Go.RowKit Go.Sort Go.Lib
end Go.Proofs.YtfonjeoiallhhaaGreatDoor
/- The drawn region of strconv.ftoa32 (as ftoa64's). -/
set_option maxRecDepth 100000
set_option maxHeartbeats 4000000
namespace Go.Proofs.YtfonjeoiallhhaaGreatDoor
open Go.Shelf Go.RowKit Go.Sort Go.Lib
namespace G2
theorem sd_rgn32 {id g d n : Nat} {a0 : Act} {w : World} {Q : Exit → Act → World → Prop} (hd0 : d ≠ 0) (hd1 : d ≤ 10000000) (hn : nDigits d = n) (hn3 : 3 ≤ n) (hn7 : n ≤ 7) (hdn : d < 10 ^ n) (b0 : UInt8) (hb0 : (decDigits d)[0]? = some b0) (hb1 : b0 ≠ 48) (hg : w.heap[g]? = some (.cells zeros24 140 (0, 0))) (hP : ∀ w', Only (fun k => k = g) w w' → PowTab w')
  (hsz : a0.tmps.size = 298) (h25 : a0.eval (.tmp 25) = pt g 0) (h31 : a0.eval (.tmp 31) = .int .u64 d) (h32 : a0.eval (.tmp 32) = .int .i64 (-3))
  (hK : ∀ a' w' (nd : Nat), a'.tmps.size = 298 → a'.defers = a0.defers → (∀ t, t < 229 → t ≠ 26 → t ≠ 27 → a'.eval (.tmp t) = a0.eval (.tmp t)) → a'.eval (.tmp 26) = .int .i64 ((n : Int) - 3) → a'.eval (.tmp 27) = .int .i64 nd → 1 ≤ nd → nd ≤ n → (∀ (j : Nat) (b : UInt8), nd ≤ j → (decDigits d)[j]? = some b → b = 48) → DgAt g (decDigits d) w' → Only (fun k => k = g) w w' → Q .normal a' w') :
  (Code.region id #[{ dst := some 230, op := Op.slice 140 (Operand.tmp 25) none none none, type := 24, pos := "ftoa.go:192", after := #[], guard := none },
   { dst := some 231, op := Op.move (Operand.tmp 31), type := 25, pos := "ftoa.go:192", after := #[], guard := none },
   { dst := some 232, op := Op.move (Operand.tmp 32), type := 3, pos := "ftoa.go:192", after := #[], guard := none },
   { dst := some 233, op := Op.move (Operand.tmp 31), type := 25, pos := "ftoa.go:192", after := #[], guard := none },
   { dst := some 234, op := Op.call { callee := Callee.value (Operand.func 70), args := #[Operand.tmp 233], argTypes := #[25] }, type := 3, pos := "ftoa.go:192", after := #[{ on := 3, ground := Ground.data }], guard := none },
   { dst := some 235, op := Op.call { callee := Callee.value (Operand.func 90), args := #[Operand.tmp 230, Operand.tmp 231, Operand.tmp 232, Operand.tmp 234], argTypes := #[24, 25, 3, 3] }, type := 164, pos := "ftoa.go:192", after := #[{ on := 0, ground := Ground.data }, { on := 1, ground := Ground.data }, { on := 2, ground := Ground.data }, { on := 4, ground := Ground.data }, { on := 4, ground := Ground.chain }], guard := none },
   { dst := some 229, op := Op.move (Operand.tmp 235), type := 164, pos := "ftoa.go:192", after := #[{ on := 5, ground := Ground.data }], guard := none },
   { dst := some 236, op := Op.extract (Operand.tmp 229) 0, type := 3, pos := "ftoa.go:192", after := #[{ on := 6, ground := Ground.data }], guard := none },
   { dst := some 237, op := Op.extract (Operand.tmp 229) 1, type := 3, pos := "ftoa.go:192", after := #[{ on := 6, ground := Ground.data }, { on := 9, ground := Ground.gcOnly Departure.lateStores }], guard := none },
   { dst := some 26, op := Op.assign (Operand.tmp 236), type := 3, pos := "ftoa.go:192", after := #[{ on := 7, ground := Ground.data }, { on := 5, ground := Ground.chain }, { on := 0, ground := Ground.phase }, { on := 1, ground := Ground.phase }, { on := 2, ground := Ground.phase }, { on := 3, ground := Ground.phase }, { on := 4, ground := Ground.phase }, { on := 5, ground := Ground.phase }, { on := 6, ground := Ground.phase }, { on := 7, ground := Ground.phase }, { on := 8, ground := Ground.textOnly Departure.lateStores }], guard := none },
   { dst := some 27, op := Op.assign (Operand.tmp 237), type := 3, pos := "ftoa.go:192", after := #[{ on := 8, ground := Ground.data }, { on := 9, ground := Ground.chain }, { on := 0, ground := Ground.phase }, { on := 1, ground := Ground.phase }, { on := 2, ground := Ground.phase }, { on := 3, ground := Ground.phase }, { on := 4, ground := Ground.phase }, { on := 5, ground := Ground.phase }, { on := 6, ground := Ground.phase }, { on := 7, ground := Ground.phase }, { on := 8, ground := Ground.phase }, { on := 9, ground := Ground.phase }], guard := none }] true).wp Tryz.prog Q a0 w := by
 have hgl := (Array.getElem?_eq_some_iff.1 hg).1
 refine wp_region_ogE (n := 298) [Asr.eq (.slice (some ⟨g, 0, none⟩) 24 24), Asr.eq (.int .u64 d), Asr.eq (.int .i64 (-3)), Asr.eq (.int .u64 d), Asr.eq (.int .i64 n), Asr.any (P5 g d n), Asr.any (P5 g d n), Asr.eq (.int .i64 ((n : Int) - 3)), Asr.pure (Pn d n), Asr.eq (.int .i64 ((n : Int) - 3)), Asr.pure (Pn d n)] (fun e k => e = 5 ∧ k = g) (by kernel_rfl) (by kernel_rfl) (by kernel_rfl) hsz (fun e k h => by rw [h.2]; exact hgl) ⟨?_, ?_, trivial⟩ ⟨?_, ?_, ?_, ?_, ?_, ?_, ?_, ?_, ?_, ?_, ?_, trivial⟩ ?_
 ·rintro i _ hne v w1 w2 hB ho ⟨nd, hv, h1, h2, h3, cs, hc, hcs⟩
  exact ⟨nd, hv, h1, h2, h3, cs, by rw [ho.block g (Array.getElem?_eq_some_iff.1 hc).1 (fun h => hne h.1.symm)]; exact hc, hcs⟩
 ·rintro i ha hne v w1 w2 hB ho ⟨nd, hv, h1, h2, h3, cs, hc, hcs⟩
  refine ⟨nd, hv, h1, h2, h3, cs, ?_, hcs⟩
  rw [ho.block g (Array.getElem?_eq_some_iff.1 hc).1 (fun h => ?_)]
  ·exact hc
  ·rw [h.1] at ha
   have hah : ahead #[{ dst := some 230, op := Op.slice 140 (Operand.tmp 25) none none none, type := 24, pos := "ftoa.go:192", after := #[], guard := none },
   { dst := some 231, op := Op.move (Operand.tmp 31), type := 25, pos := "ftoa.go:192", after := #[], guard := none },
   { dst := some 232, op := Op.move (Operand.tmp 32), type := 3, pos := "ftoa.go:192", after := #[], guard := none },
   { dst := some 233, op := Op.move (Operand.tmp 31), type := 25, pos := "ftoa.go:192", after := #[], guard := none },
   { dst := some 234, op := Op.call { callee := Callee.value (Operand.func 70), args := #[Operand.tmp 233], argTypes := #[25] }, type := 3, pos := "ftoa.go:192", after := #[{ on := 3, ground := Ground.data }], guard := none },
   { dst := some 235, op := Op.call { callee := Callee.value (Operand.func 90), args := #[Operand.tmp 230, Operand.tmp 231, Operand.tmp 232, Operand.tmp 234], argTypes := #[24, 25, 3, 3] }, type := 164, pos := "ftoa.go:192", after := #[{ on := 0, ground := Ground.data }, { on := 1, ground := Ground.data }, { on := 2, ground := Ground.data }, { on := 4, ground := Ground.data }, { on := 4, ground := Ground.chain }], guard := none },
   { dst := some 229, op := Op.move (Operand.tmp 235), type := 164, pos := "ftoa.go:192", after := #[{ on := 5, ground := Ground.data }], guard := none },
   { dst := some 236, op := Op.extract (Operand.tmp 229) 0, type := 3, pos := "ftoa.go:192", after := #[{ on := 6, ground := Ground.data }], guard := none },
   { dst := some 237, op := Op.extract (Operand.tmp 229) 1, type := 3, pos := "ftoa.go:192", after := #[{ on := 6, ground := Ground.data }, { on := 9, ground := Ground.gcOnly Departure.lateStores }], guard := none },
   { dst := some 26, op := Op.assign (Operand.tmp 236), type := 3, pos := "ftoa.go:192", after := #[{ on := 7, ground := Ground.data }, { on := 5, ground := Ground.chain }, { on := 0, ground := Ground.phase }, { on := 1, ground := Ground.phase }, { on := 2, ground := Ground.phase }, { on := 3, ground := Ground.phase }, { on := 4, ground := Ground.phase }, { on := 5, ground := Ground.phase }, { on := 6, ground := Ground.phase }, { on := 7, ground := Ground.phase }, { on := 8, ground := Ground.textOnly Departure.lateStores }], guard := none },
   { dst := some 27, op := Op.assign (Operand.tmp 237), type := 3, pos := "ftoa.go:192", after := #[{ on := 8, ground := Ground.data }, { on := 9, ground := Ground.chain }, { on := 0, ground := Ground.phase }, { on := 1, ground := Ground.phase }, { on := 2, ground := Ground.phase }, { on := 3, ground := Ground.phase }, { on := 4, ground := Ground.phase }, { on := 5, ground := Ground.phase }, { on := 6, ground := Ground.phase }, { on := 7, ground := Ground.phase }, { on := 8, ground := Ground.phase }, { on := 9, ground := Ground.phase }], guard := none }] 6 5 = true := by kernel_rfl
   exact absurd (hah.symm.trans ha) (by decide)
 ·intro a wx c
  have e25 : a.eval (.tmp 25) = pt g 0 := c.outE (by decide +kernel) h25
  clear c
  show Oper.wp _ _ _ _ _ _
  have hs := sl_all g wx
  exact og_val (by simp only [execOp, e25, Option.map]; exact run_andValue hs) rfl
 ·intro a wx c
  have e31 : a.eval (.tmp 31) = .int .u64 d := c.outE (by decide +kernel) h31
  clear c
  show Oper.wp _ _ _ _ _ _
  exact og_val (ex_mv e31) rfl
 ·intro a wx c
  have e32 : a.eval (.tmp 32) = .int .i64 (-3) := c.outE (by decide +kernel) h32
  clear c
  show Oper.wp _ _ _ _ _ _
  exact og_val (ex_mv e32) rfl
 ·intro a wx c
  have e31 : a.eval (.tmp 31) = .int .u64 d := c.outE (by decide +kernel) h31
  clear c
  show Oper.wp _ _ _ _ _ _
  exact og_val (ex_mv e31) rfl
 ·intro a wx c
  have e233 : a.eval (.tmp 233) = .int .u64 d := c.slot 3 _ (by decide +kernel) rfl
  have hP' := hP wx ((((Only.refl (fun k => k = g) w).drew).trans c.only).mono fun x _ h => by rcases h with h | ⟨_, h⟩ <;> first | exact h | exact h.2)
  clear c
  show Oper.wp _ _ _ _ _ _
  unfold Oper.wp
  simp only [execOp, resolve, List.map_toArray, List.map_cons, List.map_nil, e233]
  go_simp
  have h := numDigits_any d (by omega) (by omega) wx hP'
  rw [hn] at h
  refine h.mono ?_
  rintro e w' ⟨rfl, rfl⟩
  exact ⟨_, rfl, Only.refl _ _, rfl⟩
 ·intro a wx c
  have e230 : a.eval (.tmp 230) = .slice (some ⟨g, 0, none⟩) 24 24 := c.slot 0 _ (by decide +kernel) rfl
  have e231 : a.eval (.tmp 231) = .int .u64 d := c.slot 1 _ (by decide +kernel) rfl
  have e232 : a.eval (.tmp 232) = .int .i64 (-3) := c.slot 2 _ (by decide +kernel) rfl
  have e234 : a.eval (.tmp 234) = .int .i64 n := c.slot 4 _ (by decide +kernel) rfl
  have hgx : wx.heap[g]? = some (.cells zeros24 140 (0, 0)) := c.heap hg (fun e h => .inl h.1)
  clear c
  show Oper.wp _ _ _ _ _ _
  unfold Oper.wp
  simp only [execOp, resolve, List.map_toArray, List.map_cons, List.map_nil, e230, e231, e232, e234]
  go_simp
  refine (setDigits_any g d n hn (by omega) hn7 hdn hd1 b0 hb0 hb1 wx hgx).mono ?_
  rintro e w' ⟨nd, rfl, h1, h2, h3, h4, ho⟩
  exact ⟨_, rfl, ho.mono (fun x _ h => ⟨rfl, h⟩), nd, rfl, h1, h2, h3, h4⟩
 ·intro a wx c
  obtain p235 : (P5 g d n) (a.eval (.tmp 235)) wx := c.slot 5 _ (by decide +kernel) rfl
  clear c
  show Oper.wp _ _ _ _ _ _
  exact og_val (ex_mv rfl) p235
 ·intro a wx c
  obtain p229 : (P5 g d n) (a.eval (.tmp 229)) wx := c.slot 6 _ (by decide +kernel) rfl
  clear c
  show Oper.wp _ _ _ _ _ _
  obtain ⟨nd, hv, _⟩ := p229
  exact og_val (ei_ext hv rfl) rfl
 ·intro a wx c
  obtain p229 : (P5 g d n) (a.eval (.tmp 229)) wx := c.slot 6 _ (by decide +kernel) rfl
  clear c
  show Oper.wp _ _ _ _ _ _
  obtain ⟨nd, hv, h1, h2, h3, _⟩ := p229
  exact og_val (ei_ext hv rfl) ⟨nd, rfl, h1, h2, h3⟩
 ·intro a wx c
  have e236 : a.eval (.tmp 236) = .int .i64 ((n : Int) - 3) := c.slot 7 _ (by decide +kernel) rfl
  clear c
  show Oper.wp _ _ _ _ _ _
  exact og_val (ex_as e236) rfl
 ·intro a wx c
  obtain p237 : (Pn d n) (a.eval (.tmp 237)) := c.slot 8 _ (by decide +kernel) rfl
  clear c
  show Oper.wp _ _ _ _ _ _
  exact og_val (ex_as rfl) p237
 ·intro a1 w1 c hon
  have r26 : a1.tmps.getD 26 undef = .int .i64 ((n : Int) - 3) := c.slot 9 _ rfl
  obtain ⟨nd, r27, h1, h2, h3⟩ : Pn d n (a1.tmps.getD 27 undef) := c.slot 10 _ rfl
  obtain ⟨_, _, _, _, _, hdg⟩ : P5 g d n (a1.tmps.getD 229 undef) w1 := c.slot 6 _ rfl
  refine hK a1 w1 nd (c.size.trans hsz) c.defers (fun t ht h26 h27 => ?_) r26 r27 h1 h2 h3 hdg (hon.mono fun x _ h => by obtain ⟨_, h⟩ := h; exact h.2)
  have := c.out t (by
   intro j o hj hd
   have key : (ogDsts #[{ dst := some 230, op := Op.slice 140 (Operand.tmp 25) none none none, type := 24, pos := "ftoa.go:192", after := #[], guard := none },
   { dst := some 231, op := Op.move (Operand.tmp 31), type := 25, pos := "ftoa.go:192", after := #[], guard := none },
   { dst := some 232, op := Op.move (Operand.tmp 32), type := 3, pos := "ftoa.go:192", after := #[], guard := none },
   { dst := some 233, op := Op.move (Operand.tmp 31), type := 25, pos := "ftoa.go:192", after := #[], guard := none },
   { dst := some 234, op := Op.call { callee := Callee.value (Operand.func 70), args := #[Operand.tmp 233], argTypes := #[25] }, type := 3, pos := "ftoa.go:192", after := #[{ on := 3, ground := Ground.data }], guard := none },
   { dst := some 235, op := Op.call { callee := Callee.value (Operand.func 90), args := #[Operand.tmp 230, Operand.tmp 231, Operand.tmp 232, Operand.tmp 234], argTypes := #[24, 25, 3, 3] }, type := 164, pos := "ftoa.go:192", after := #[{ on := 0, ground := Ground.data }, { on := 1, ground := Ground.data }, { on := 2, ground := Ground.data }, { on := 4, ground := Ground.data }, { on := 4, ground := Ground.chain }], guard := none },
   { dst := some 229, op := Op.move (Operand.tmp 235), type := 164, pos := "ftoa.go:192", after := #[{ on := 5, ground := Ground.data }], guard := none },
   { dst := some 236, op := Op.extract (Operand.tmp 229) 0, type := 3, pos := "ftoa.go:192", after := #[{ on := 6, ground := Ground.data }], guard := none },
   { dst := some 237, op := Op.extract (Operand.tmp 229) 1, type := 3, pos := "ftoa.go:192", after := #[{ on := 6, ground := Ground.data }, { on := 9, ground := Ground.gcOnly Departure.lateStores }], guard := none },
   { dst := some 26, op := Op.assign (Operand.tmp 236), type := 3, pos := "ftoa.go:192", after := #[{ on := 7, ground := Ground.data }, { on := 5, ground := Ground.chain }, { on := 0, ground := Ground.phase }, { on := 1, ground := Ground.phase }, { on := 2, ground := Ground.phase }, { on := 3, ground := Ground.phase }, { on := 4, ground := Ground.phase }, { on := 5, ground := Ground.phase }, { on := 6, ground := Ground.phase }, { on := 7, ground := Ground.phase }, { on := 8, ground := Ground.textOnly Departure.lateStores }], guard := none },
   { dst := some 27, op := Op.assign (Operand.tmp 237), type := 3, pos := "ftoa.go:192", after := #[{ on := 8, ground := Ground.data }, { on := 9, ground := Ground.chain }, { on := 0, ground := Ground.phase }, { on := 1, ground := Ground.phase }, { on := 2, ground := Ground.phase }, { on := 3, ground := Ground.phase }, { on := 4, ground := Ground.phase }, { on := 5, ground := Ground.phase }, { on := 6, ground := Ground.phase }, { on := 7, ground := Ground.phase }, { on := 8, ground := Ground.phase }, { on := 9, ground := Ground.phase }], guard := none }] [26, 27, 229, 230, 231, 232, 233, 234, 235, 236, 237]) = true := by kernel_rfl
   unfold ogDsts at key
   rw [List.all_eq_true] at key
   have := key o (by have := Array.mem_of_getElem? hj; simpa using this)
   rw [hd] at this
   have h9 : (t ∈ [26, 27, 229, 230, 231, 232, 233, 234, 235, 236, 237]) := by simpa using this
   rcases (by decide : ∀ x ∈ [26, 27, 229, 230, 231, 232, 233, 234, 235, 236, 237], x = 26 ∨ x = 27 ∨ 229 ≤ x) t h9 with e | e | e
   ·exact h26 e
   ·exact h27 e
   ·exact absurd ht (Nat.not_lt.2 e))
  simp only [Act.eval, Array.getD_eq_getD_getElem?, this]
end G2
end Go.Proofs.YtfonjeoiallhhaaGreatDoor
