/- Joined: Ogg, Ty, So, Md. -/
import Derived.Test.YtflppablgdegcaaGreatDoorN01
import Derived.Test.YtflppablgdegcaaGreatDoorN03
import Derived.Lib.Hide
/- The rules of Og and OgA once more, where an edge that does not bind may lead forward. -/
namespace Go.Proofs.YtflppablgdegcaaGreatDoor.G2
open Go.RowKit
/-- The edges lead back; no two operations write one slot. -/
def ogOk (ops : Array Oper) : Bool :=
 (ops.toList.zipIdx.all fun (o, i) => o.after.toList.all fun e => !Region.binds .any e || decide (e.on < i)) &&
 (ops.toList.zipIdx.all fun (o, i) => ops.toList.zipIdx.all fun (o', j) => i == j || o.dst == none || o.dst != o'.dst)

def beforeStep (acc : Array Nat) (o : Oper) : Array Nat := acc.push (o.after.foldl (fun s e => if Region.binds .any e then s ||| 2 ^ e.on ||| acc.getD e.on 0 else s) 0)
theorem before_keeps (l : List Oper) : ∀ (acc : Array Nat) (i : Nat), i < acc.size → (l.foldl beforeStep acc)[i]? = acc[i]? := by
 induction l with
 | nil => intro acc i _; rfl
 | cons o l ih =>
  intro acc i hi
  rw [List.foldl_cons, ih _ i (by simp [beforeStep]; omega)]
  simp only [beforeStep]
  rw [Array.getElem?_push, if_neg (by omega)]
theorem before_size (l : List Oper) : ∀ acc : Array Nat, (l.foldl beforeStep acc).size = acc.size + l.length := by
 induction l with
 | nil => intro acc; rfl
 | cons o l ih => intro acc; rw [List.foldl_cons, ih]; simp [beforeStep]; omega
theorem before_at (ops : Array Oper) (i : Nat) (o : Oper) (ho : ops[i]? = some o) :
  (Region.before ops).getD i 0 = o.after.foldl (fun s e => if Region.binds .any e then s ||| 2 ^ e.on ||| ((ops.toList.take i).foldl beforeStep #[]).getD e.on 0 else s) 0 := by
 have hlen : i < ops.toList.length := by
  have := (Array.getElem?_eq_some_iff.1 ho).1
  simpa using this
 have ho' : ops.toList[i]? = some o := by simpa using ho
 have hsplit : ops.toList = ops.toList.take i ++ o :: ops.toList.drop (i + 1) := by
  rw [List.getElem?_eq_some_iff] at ho'
  obtain ⟨h, e⟩ := ho'
  rw [← e, List.getElem_cons_drop]
  simp
 have hb : Region.before ops = ops.toList.foldl beforeStep #[] := by
  unfold Region.before
  rw [← Array.foldl_toList]
  rfl
 rw [hb]
 have hsz : ((ops.toList.take i).foldl beforeStep #[]).size = i := by
  rw [before_size, List.length_take, Array.length_toList, Array.size_empty]; rw [Array.length_toList] at hlen; omega
 generalize hT : ops.toList.take i = T at *
 have : (ops.toList.foldl beforeStep #[]) = ((ops.toList.drop (i + 1)).foldl beforeStep (beforeStep (T.foldl beforeStep #[]) o)) := by
  conv => lhs; rw [hsplit]
  rw [List.foldl_append, List.foldl_cons]
 rw [this]
 simp only [Array.getD_eq_getD_getElem?]
 rw [before_keeps _ _ i (by simp [beforeStep]; omega)]
 simp only [beforeStep]
 rw [Array.getElem?_push, if_pos hsz.symm]
 simp
theorem before_take (ops : Array Oper) (i j : Nat) (hji : j < i) (hi : i ≤ ops.size) :
  ((ops.toList.take i).foldl beforeStep #[]).getD j 0 = (Region.before ops).getD j 0 := by
 have hb : Region.before ops = ops.toList.foldl beforeStep #[] := by
  unfold Region.before
  rw [← Array.foldl_toList]
  rfl
 rw [hb]
 have : ops.toList.foldl beforeStep #[] = (ops.toList.drop i).foldl beforeStep ((ops.toList.take i).foldl beforeStep #[]) := by
  rw [← List.foldl_append, List.take_append_drop]
 rw [this]
 have hj : j < ((ops.toList.take i).foldl beforeStep #[]).size := by rw [before_size, List.length_take, Array.length_toList, Array.size_empty]; omega
 simp only [Array.getD_eq_getD_getElem?]
 rw [before_keeps _ _ j hj]
theorem foldl_or_bit (b : Edge → Bool) (f : Edge → Nat) (j : Nat) (l : List Edge) : ∀ s : Nat, (l.foldl (fun s e => if b e then s ||| 2 ^ e.on ||| f e else s) s).testBit j = true →
  s.testBit j = true ∨ ∃ e ∈ l, b e = true ∧ (e.on = j ∨ (f e).testBit j = true) := by
 induction l with
 | nil => intro s h; exact .inl h
 | cons e l ih =>
  intro s h
  rw [List.foldl_cons] at h
  rcases ih _ h with h | ⟨e', he', r⟩
  ·by_cases hb : b e = true
   ·rw [if_pos hb, Nat.testBit_or, Nat.testBit_or, Nat.testBit_two_pow] at h
    simp only [Bool.or_eq_true, decide_eq_true_eq] at h
    rcases h with (h | h) | h
    ·exact .inl h
    ·exact .inr ⟨e, by simp, hb, .inl h⟩
    ·exact .inr ⟨e, by simp, hb, .inr h⟩
   ·rw [if_neg hb] at h
    exact .inl h
  ·exact .inr ⟨e', by simp [he'], r⟩
/-- What stands ahead of i is an edge of i, or stands ahead of an edge of i. -/
theorem ahead_edge {ops : Array Oper} {i j : Nat} {o : Oper} (ho : ops[i]? = some o) (hb : ∀ e ∈ o.after.toList, Region.binds .any e = true → e.on < i) (h : ahead ops i j = true) :
  ∃ e ∈ o.after.toList, Region.binds .any e = true ∧ (e.on = j ∨ ahead ops e.on j = true) := by
 unfold ahead at h
 rw [before_at ops i o ho, ← Array.foldl_toList] at h
 rcases foldl_or_bit _ _ j _ 0 h with h | ⟨e, he, hbe, r⟩
 ·simp at h
 ·refine ⟨e, he, hbe, ?_⟩
  rcases r with r | r
  ·exact .inl r
  ·right
   unfold ahead
   have hlen : i < ops.size := (Array.getElem?_eq_some_iff.1 ho).1
   rw [before_take ops i e.on (hb e he hbe) (by have := hb e he hbe; omega)] at r
   exact r

section
variable {P : Program} {ops : Array Oper} {Q : Exit → Act → World → Prop}
/-- What an operation of the region may lean on. -/
structure OgCtx (ops : Array Oper) (a0 : Act) (w0 : World) (E : Nat → Nat → Prop) (Φ : Nat → Value → World → Prop) (i : Nat) (a : Act) (w : World) : Prop where
 defers : a.defers = a0.defers
 size : a.tmps.size = a0.tmps.size
 slot : ∀ (j : Nat) (o : Oper), ahead ops i j = true → ops[j]? = some o → Φ j (slotOf a o) w
 out : ∀ t, (∀ (j : Nat) (o : Oper), ops[j]? = some o → o.dst = some t → j = i ∨ ahead ops j i = true) → a.tmps[t]? = a0.tmps[t]?
 only : Only (fun g => ∃ e, E e g) w0 w
 block : ∀ g, g < w0.heap.size → (∀ e, E e g → e = i ∨ ahead ops e i = true) → w.heap[g]? = w0.heap[g]?
def OgPost (E : Nat → Nat → Prop) (Φ : Nat → Value → World → Prop) (i : Nat) (o : Oper) (a : Act) (w : World) (a' : Act) (w' : World) : Prop :=
 ∃ v, a' = a.put o.dst v ∧ Only (E i) w w' ∧ Φ i v w'
structure OgEnd (ops : Array Oper) (a0 : Act) (w0 : World) (E : Nat → Nat → Prop) (Φ : Nat → Value → World → Prop) (a : Act) (w : World) : Prop where
 defers : a.defers = a0.defers
 size : a.tmps.size = a0.tmps.size
 slot : ∀ (j : Nat) (o : Oper), ops[j]? = some o → Φ j (slotOf a o) w
 out : ∀ t, (∀ (j : Nat) (o : Oper), ops[j]? = some o → o.dst ≠ some t) → a.tmps[t]? = a0.tmps[t]?
 only : Only (fun g => ∃ e, E e g) w0 w
structure OgInv (ops : Array Oper) (a0 : Act) (w0 : World) (E : Nat → Nat → Prop) (Φ : Nat → Value → World → Prop) (L : Array Bool) (a : Act) (w : World) : Prop where
 defers : a.defers = a0.defers
 size : a.tmps.size = a0.tmps.size
 len : L.size = ops.size
 closed : ∀ i j, L.getD i false = true → ahead ops i j = true → L.getD j false = true
 slot : ∀ (j : Nat) (o : Oper), L.getD j false = true → ops[j]? = some o → Φ j (slotOf a o) w
 out : ∀ t, (∀ (j : Nat) (o : Oper), ops[j]? = some o → o.dst = some t → L.getD j false = false) → a.tmps[t]? = a0.tmps[t]?
 only : Only (fun g => ∃ e, L.getD e false = true ∧ E e g) w0 w

theorem mem_ready {md : Region.Mode} {L : Array Bool} {i : Nat} (h : i ∈ Region.ready md ops L) : ∃ o, ops[i]? = some o ∧ L.getD i true = false ∧ ∀ e ∈ o.after.toList, Region.binds md e = true → L.getD e.on false = true := by
 unfold Region.ready at h
 rw [List.mem_filter] at h
 obtain ⟨h1, h2⟩ := h
 simp only [Bool.and_eq_true, Bool.not_eq_true'] at h2
 obtain ⟨h2, h3⟩ := h2
 cases ho : ops[i]? with
 | none => rw [ho] at h3; simp at h3
 | some o =>
  rw [ho] at h3
  refine ⟨o, rfl, h2, fun e he hb => ?_⟩
  simp only [Option.map_some, Option.getD_some, Array.all_eq_true_iff_forall_mem] at h3
  have := h3 e (by simpa using he)
  simpa [hb] using this
theorem ready_nil {L : Array Bool} (hok : ogOk ops = true) (hlen : L.size = ops.size) (h : Region.ready .any ops L = []) : ∀ i, i < ops.size → L.getD i false = true := by
 intro i
 induction i using Nat.strongRecOn with
 | _ i ih =>
  intro hi
  cases hL : L.getD i false with
  | true => rfl
  | false =>
   exfalso
   have hmem : i ∈ Region.ready .any ops L := by
    unfold Region.ready
    rw [List.mem_filter]
    refine ⟨List.mem_range.2 hi, ?_⟩
    have ho : ops[i]? = some ops[i] := Array.getElem?_eq_getElem hi
    have hLi : L.getD i true = false := by
     simp only [Array.getD_eq_getD_getElem?, Array.getElem?_eq_getElem (show i < L.size by omega), Option.getD_some] at hL ⊢
     exact hL
    rw [ho, hLi]
    simp only [Bool.not_false, Bool.true_and, Option.map_some, Option.getD_some, Array.all_eq_true_iff_forall_mem]
    intro e he
    cases hbe : Region.binds .any e with
    | false => simp
    | true =>
    have hlt : e.on < i := by
     unfold ogOk at hok
     simp only [Bool.and_eq_true, List.all_eq_true] at hok
     have h1 := hok.1 (ops[i], i) (by rw [List.mem_zipIdx_iff_getElem?]; simp)
     have h2 := h1 e (by simpa using he)
     simpa [hbe] using h2
    rw [ih e.on hlt (by omega)]
    simp
   rw [h] at hmem
   cases hmem
theorem og_dst {i j : Nat} {o o' : Oper} {d : Tmp} (hok : ogOk ops = true) (hi : ops[i]? = some o) (hj : ops[j]? = some o') (hd : o.dst = some d) (hd' : o'.dst = some d) : i = j := by
 unfold ogOk at hok
 simp only [Bool.and_eq_true, List.all_eq_true] at hok
 have h1 := hok.2 (o, i) (by rw [List.mem_zipIdx_iff_getElem?]; simpa using hi)
 have h2 := h1 (o', j) (by rw [List.mem_zipIdx_iff_getElem?]; simpa using hj)
 simpa [hd, hd'] using h2
theorem og_edges {i : Nat} {o : Oper} (hok : ogOk ops = true) (hi : ops[i]? = some o) : ∀ e ∈ o.after.toList, Region.binds .any e = true → e.on < i := by
 unfold ogOk at hok
 simp only [Bool.and_eq_true, List.all_eq_true] at hok
 have h1 := hok.1 (o, i) (by rw [List.mem_zipIdx_iff_getElem?]; simpa using hi)
 intro e he hbe
 have h2 := h1 e he
 simpa [hbe] using h2
theorem slotOf_put_same {a : Act} {o : Oper} {v : Value} (h : ∀ d, o.dst = some d → d < a.tmps.size) : slotOf (a.put o.dst v) o = match o.dst with | some _ => v | none => undef := by
 unfold slotOf
 cases hd : o.dst with
 | none => rfl
 | some d => simp [Act.put, h d hd]
theorem slotOf_put_other {a : Act} {o o' : Oper} {v : Value} (h : ∀ d, o.dst = some d → o'.dst ≠ some d) : slotOf (a.put o.dst v) o' = slotOf a o' := by
 unfold slotOf
 cases hd : o.dst with
 | none => rfl
 | some d =>
  cases hd' : o'.dst with
  | none => rfl
  | some d' =>
   have hne : d ≠ d' := fun e => h d hd (by rw [hd', e])
   simp [Act.put, Array.getElem?_setIfInBounds_ne hne]
theorem og_any (hok : ogOk ops = true) (a0 : Act) (w0 : World) (E : Nat → Nat → Prop) (Φ : Nat → Value → World → Prop)
  (hsl : ∀ (i : Nat) (o : Oper) d, ops[i]? = some o → o.dst = some d → d < a0.tmps.size)
  (hnone : ∀ (i : Nat) (o : Oper) v w, ops[i]? = some o → o.dst = none → Φ i v w → Φ i undef w)
  (hst : ∀ i j v w w', Only (fun g => ∃ e, E e g) w0 w → Only (E i) w w' → ahead ops j i = false → j ≠ i → Φ j v w → Φ j v w')
  (hop : ∀ (i : Nat) (o : Oper), ops[i]? = some o → ∀ a w, OgCtx ops a0 w0 E Φ i a w → wpOp P ops Q i (OgPost E Φ i o a w) a w)
  (hend : ∀ a w, OgEnd ops a0 w0 E Φ a w → Q .normal a w) :
  ∀ (fuel : Nat) (L : Array Bool) (a : Act) (w : World), (L.toList.filter (! ·)).length ≤ fuel → OgInv ops a0 w0 E Φ L a w → wpAny P .any ops Q fuel L a w := by
 have fin : ∀ (L : Array Bool) (a : Act) (w : World), OgInv ops a0 w0 E Φ L a w → Region.ready .any ops L = [] → Q .normal a w := by
  intro L a w h hr
  have hall := ready_nil hok h.len hr
  refine hend a w ⟨h.defers, h.size, fun j o hj => h.slot j o (hall j (Array.getElem?_eq_some_iff.1 hj).1) hj, fun t ht => h.out t fun j o hj hd => absurd hd (ht j o hj), h.only.mono fun g _ ⟨e, _, he⟩ => ⟨e, he⟩⟩
 intro fuel
 induction fuel with
 | zero =>
  intro L a w hf h
  have hr : Region.ready .any ops L = [] := by
   cases hr : Region.ready .any ops L with
   | nil => rfl
   | cons i r =>
    obtain ⟨o, ho, hL, _⟩ := mem_ready (ops := ops) (L := L) (i := i) (md := .any) (by rw [hr]; simp)
    have hlt : i < L.size := by have := (Array.getElem?_eq_some_iff.1 ho).1; have := h.len; omega
    have : L[i] ∈ L.toList.filter (! ·) := by
     rw [List.mem_filter]
     refine ⟨by simp, ?_⟩
     simp only [Array.getD_eq_getD_getElem?, Array.getElem?_eq_getElem hlt, Option.getD_some] at hL
     simp [hL]
    have := List.length_pos_of_mem this
    omega
  exact ⟨hr, fin L a w h hr⟩
 | succ fuel ih =>
  intro L a w hf h
  refine ⟨fin L a w h, fun i hi => ?_⟩
  obtain ⟨o, ho, hL, hedge⟩ := mem_ready hi
  have hlt : i < L.size := by have := (Array.getElem?_eq_some_iff.1 ho).1; have := h.len; omega
  have hLf : L.getD i false = false := by
   simp only [Array.getD_eq_getD_getElem?, Array.getElem?_eq_getElem hlt, Option.getD_some] at hL ⊢
   exact hL
  have hanc : ∀ j, ahead ops i j = true → L.getD j false = true := by
   intro j hj
   obtain ⟨e, he, hb, r⟩ := ahead_edge ho (og_edges hok ho) hj
   have hLe := hedge e he hb
   rcases r with r | r
   ·rw [← r]; exact hLe
   ·exact h.closed _ _ hLe r
  have hctx : OgCtx ops a0 w0 E Φ i a w := by
   refine ⟨h.defers, h.size, fun j o' hj ho' => h.slot j o' (hanc j hj) ho', fun t ht => h.out t fun j o' ho' hd => ?_, h.only.mono fun g _ ⟨e, _, he⟩ => ⟨e, he⟩, fun g hg he => h.only.block g hg fun ⟨e, hLe, hE⟩ => ?_⟩
   ·rcases ht j o' ho' hd with rfl | hj
    ·exact hLf
    ·cases hLj : L.getD j false with
     | false => rfl
     | true => rw [h.closed j i hLj hj] at hLf; cases hLf
   ·rcases he e hE with rfl | hj
    ·rw [hLe] at hLf; cases hLf
    ·rw [h.closed e i hLe hj] at hLf; cases hLf
  refine wpOp_mono ?_ (hop i o ho a w hctx)
  rintro a' w' ⟨v, rfl, honly, hΦ⟩
  have hget : ∀ j, (L.setIfInBounds i true).getD j false = true ↔ (j = i ∨ L.getD j false = true) := by
   intro j
   simp only [Array.getD_eq_getD_getElem?]
   by_cases hji : j = i
   ·subst hji
    simp [hlt]
   ·rw [Array.getElem?_setIfInBounds_ne (fun e => hji e.symm)]
    simp [hji]
  refine ih _ _ _ ?_ ⟨?_, ?_, ?_, ?_, ?_, ?_, ?_⟩
  ·have h1 : (L.setIfInBounds i true).toList = L.toList.set i true := by simp
   rw [h1]
   have h2 : L.toList = L.toList.take i ++ L[i] :: L.toList.drop (i + 1) := by
    rw [show L[i] = L.toList[i] from by simp, List.getElem_cons_drop]; simp
   have hLi : L[i] = false := by
    simp only [Array.getD_eq_getD_getElem?, Array.getElem?_eq_getElem hlt, Option.getD_some] at hLf
    exact hLf
   have h3 : L.toList.set i true = L.toList.take i ++ true :: L.toList.drop (i + 1) := List.set_eq_take_append_cons_drop .. |>.trans (by simp [hlt])
   rw [h3]
   rw [h2, hLi] at hf
   simp only [List.filter_append, List.filter_cons, List.length_append] at hf ⊢
   simp at hf ⊢
   omega
  ·cases hd : o.dst <;> simpa [Act.put, hd] using h.defers
  ·cases hd : o.dst <;> simpa [Act.put, hd] using h.size
  ·simpa using h.len
  ·intro k j hk hj
   rw [hget] at hk ⊢
   rcases hk with rfl | hk
   ·exact .inr (hanc j hj)
   ·exact .inr (h.closed k j hk hj)
  ·intro j o' hj ho'
   rw [hget] at hj
   by_cases hji : j = i
   ·subst hji
    obtain rfl : o = o' := by rw [ho] at ho'; exact Option.some.inj ho'
    rw [slotOf_put_same (a := a) (o := o) (v := v) fun d hd => by rw [h.size]; exact hsl j o d ho hd]
    cases hd : o.dst with
    | none => exact hnone j o v w' ho hd hΦ
    | some d => exact hΦ
   ·have hLj : L.getD j false = true := hj.resolve_left hji
    rw [slotOf_put_other fun d hd hd' => hji (og_dst hok ho' ho hd' hd)]
    refine hst i j _ w w' (h.only.mono fun g _ ⟨e, _, he⟩ => ⟨e, he⟩) honly ?_ hji (h.slot j o' hLj ho')
    cases ha : ahead ops j i with
    | false => rfl
    | true => rw [h.closed j i hLj ha] at hLf; cases hLf
  ·intro t ht
   have hne : ∀ d, o.dst = some d → d ≠ t := by
    intro d hd e
    subst e
    have := ht i o ho hd
    rw [(hget i).2 (.inl rfl)] at this
    cases this
   have : (a.put o.dst v).tmps[t]? = a.tmps[t]? := by
    cases hd : o.dst with
    | none => rfl
    | some d => simp [Act.put, Array.getElem?_setIfInBounds_ne (hne d hd)]
   rw [this]
   refine h.out t fun j o' ho' hd => ?_
   have := ht j o' ho' hd
   cases hLj : L.getD j false with
   | false => rfl
   | true => rw [(hget j).2 (.inr hLj)] at this; cases this
  ·refine (h.only.trans honly).mono fun g _ hg => ?_
   rcases hg with ⟨e, he, hE⟩ | hE
   ·exact ⟨e, (hget e).2 (.inr he), hE⟩
   ·exact ⟨i, (hget i).2 (.inl rfl), hE⟩
/-- THE RULE. -/
theorem wp_region_og {id : Nat} {a0 : Act} {w : World} (hm : P.follows .mixedOrders = true) (hok : ogOk ops = true) (E : Nat → Nat → Prop) (Φ : Nat → Value → World → Prop)
  (hsl : ∀ (i : Nat) (o : Oper) d, ops[i]? = some o → o.dst = some d → d < a0.tmps.size)
  (hnone : ∀ (i : Nat) (o : Oper) v w, ops[i]? = some o → o.dst = none → Φ i v w → Φ i undef w)
  (hst : ∀ i j v w1 w', Only (fun g => ∃ e, E e g) w.drew w1 → Only (E i) w1 w' → ahead ops j i = false → j ≠ i → Φ j v w1 → Φ j v w')
  (hop : ∀ (i : Nat) (o : Oper), ops[i]? = some o → ∀ a1 w1, OgCtx ops a0 w.drew E Φ i a1 w1 → wpOp P ops Q i (OgPost E Φ i o a1 w1) a1 w1)
  (hend : ∀ a1 w1, OgEnd ops a0 w.drew E Φ a1 w1 → Q .normal a1 w1) : (Code.region id ops true).wp P Q a0 w := by
 refine wp_region_any hm ?_
 refine og_any hok a0 w.drew E Φ hsl hnone hst hop hend ops.size _ a0 w.drew ?_ ?_
 ·exact Nat.le_trans (List.length_filter_le _ _) (by simp)
 ·have hf : ∀ j, (Array.replicate ops.size false).getD j false = false := by
   intro j
   simp only [Array.getD_eq_getD_getElem?, Array.getElem?_replicate]
   split <;> rfl
  refine ⟨rfl, rfl, by simp, ?_, ?_, fun _ _ => rfl, Only.refl _ _⟩
  ·intro i j h; rw [hf i] at h; cases h
  ·intro j o h; rw [hf j] at h; cases h
end
/-- What is known of an operation's slot: a value; a value over a new block of known cells; something else; something of the world alone. -/
inductive Asr where
 | eq (v : Value)
 | pure (p : Value → Prop)
 | blki (n : Nat) (f : Nat → Nat → Value) (t : TypeId) (cs : Array Value)
 | blk (f : Nat → Value) (t : TypeId) (cs : Array Value)
 | any (p : Value → World → Prop)
 | wld (p : World → Prop)
def Asr.holds (B : Nat) : Asr → Value → World → Prop
 | .eq c, v, _ => v = c
 | .pure p, v, _ => p v
 | .blki n f t cs, v, w => ∃ g i, B ≤ g ∧ i < n ∧ v = f g i ∧ w.heap[g]? = some (.cells cs t (0, 0))
 | .blk f t cs, v, w => ∃ g, B ≤ g ∧ v = f g ∧ w.heap[g]? = some (.cells cs t (0, 0))
 | .any p, v, w => p v w
 | .wld p, _, w => p w
def asrAt (As : List Asr) (B : Nat) (j : Nat) (v : Value) (w : World) : Prop := match As[j]? with | some A => A.holds B v w | none => True
def Asr.isWld : Asr → Bool | .wld _ => true | _ => false
/-- Operations without a slot have assertions on the world alone; the slots lie in the frame. -/
def ogFit (ops : Array Oper) (As : List Asr) (n : Nat) : Bool :=
 ops.toList.zipIdx.all fun (o, i) => match o.dst with | some d => decide (d < n) | none => match As[i]? with | some A => A.isWld | none => true
section
variable {P : Program}
/-- The obligations, one an operation. -/
def OgOps (P : Program) (ops : Array Oper) (Q : Exit → Act → World → Prop) (a0 : Act) (w0 : World) (E : Nat → Nat → Prop) (Φ : Nat → Value → World → Prop) : Nat → List Oper → Prop
 | _, [] => True
 | i, o :: r => (∀ a w, OgCtx ops a0 w0 E Φ i a w → (match o.guard with | none => o.wp P a w (OgPost E Φ i o a w) Q | some _ => wpOp P ops Q i (OgPost E Φ i o a w) a w)) ∧ OgOps P ops Q a0 w0 E Φ (i + 1) r
theorem OgOps.get {ops : Array Oper} {Q : Exit → Act → World → Prop} {a0 : Act} {w0 : World} {E : Nat → Nat → Prop} {Φ : Nat → Value → World → Prop} :
  ∀ (l : List Oper) (k : Nat), OgOps P ops Q a0 w0 E Φ k l → ∀ (i : Nat) (o : Oper), l[i]? = some o →
   ∀ a w, OgCtx ops a0 w0 E Φ (k + i) a w → (match o.guard with | none => o.wp P a w (OgPost E Φ (k + i) o a w) Q | some _ => wpOp P ops Q (k + i) (OgPost E Φ (k + i) o a w) a w) := by
 intro l
 induction l with
 | nil => intro k _ i o h; simp at h
 | cons x l ih =>
  intro k h i o hi
  cases i with
  | zero =>
   simp only [List.getElem?_cons_zero, Option.some.injEq] at hi
   subst hi
   exact h.1
  | succ i =>
   rw [List.getElem?_cons_succ] at hi
   have := ih (k + 1) h.2 i o hi
   rw [show k + (i + 1) = k + 1 + i from by omega]
   exact this
theorem wp_region_ogA {id n : Nat} {l : List Oper} {Q : Exit → Act → World → Prop} {a0 : Act} {w : World} (As : List Asr) (E : Nat → Nat → Prop) (hm : P.follows .mixedOrders = true) (hok : ogOk l.toArray = true)
  (hfit : ogFit l.toArray As n = true) (hn : a0.tmps.size = n)
  (hE : ∀ e g, E e g → g < w.heap.size)
  (hany : ∀ i j p v w1 w', As[j]? = some (.any p) → Only (fun g => ∃ e, E e g) w.drew w1 → Only (E i) w1 w' → ahead l.toArray j i = false → j ≠ i → p v w1 → p v w')
  (hwld : ∀ i j p w1 w', As[j]? = some (.wld p) → Only (fun g => ∃ e, E e g) w.drew w1 → Only (E i) w1 w' → ahead l.toArray j i = false → j ≠ i → p w1 → p w')
  (hop : OgOps P l.toArray Q a0 w.drew E (asrAt As w.heap.size) 0 l)
  (hend : ∀ a1 w1, OgEnd l.toArray a0 w.drew E (asrAt As w.heap.size) a1 w1 → Q .normal a1 w1) : (Code.region id l.toArray true).wp P Q a0 w := by
 have hfit' : ∀ (i : Nat) (o : Oper), l.toArray[i]? = some o → match o.dst with | some d => d < n | none => ∀ A, As[i]? = some A → A.isWld = true := by
  intro i o hi
  unfold ogFit at hfit
  rw [List.all_eq_true] at hfit
  have := hfit (o, i) (by rw [List.mem_zipIdx_iff_getElem?]; simpa using hi)
  dsimp only at this
  cases hd : o.dst with
  | some d => rw [hd] at this; simpa using this
  | none =>
   rw [hd] at this
   dsimp only at this ⊢
   intro A hA
   rw [hA] at this
   exact this
 refine wp_region_og hm hok E (asrAt As w.heap.size) ?_ ?_ ?_ ?_ hend
 ·intro i o d hi hd
  have := hfit' i o hi
  rw [hd] at this
  rw [hn]
  exact this
 ·intro i o v w1 hi hd h
  have := hfit' i o hi
  rw [hd] at this
  unfold asrAt at h ⊢
  cases hA : As[i]? with
  | none => trivial
  | some A =>
   rw [hA] at h
   have hw := this A hA
   cases A <;> simp [Asr.isWld] at hw
   exact h
 ·intro i j v w1 w' h1 h2 ha hji h
  unfold asrAt at h ⊢
  cases hA : As[j]? with
  | none => trivial
  | some A =>
   rw [hA] at h
   cases A with
   | eq c => exact h
   | pure q => exact h
   | blki n f t cs =>
    obtain ⟨g, k, hg, hk, hv, hc⟩ := h
    refine ⟨g, k, hg, hk, hv, ?_⟩
    rw [h2.block g ?_ ?_]
    ·exact hc
    ·rcases Nat.lt_or_ge g w1.heap.size with hlt | hge
     ·exact hlt
     ·rw [Array.getElem?_eq_none hge] at hc; cases hc
    ·intro he
     have := hE i g he
     omega
   | blk f t cs =>
    obtain ⟨g, hg, hv, hc⟩ := h
    refine ⟨g, hg, hv, ?_⟩
    rw [h2.block g ?_ ?_]
    ·exact hc
    ·rcases Nat.lt_or_ge g w1.heap.size with hlt | hge
     ·exact hlt
     ·rw [Array.getElem?_eq_none hge] at hc; cases hc
    ·intro he
     have := hE i g he
     omega
   | any p => exact hany i j p v w1 w' hA h1 h2 ha hji h
   | wld p => exact hwld i j p w1 w' hA h1 h2 ha hji h
 ·intro i o hi a1 w1 c
  have hi' : l[i]? = some o := by simpa using hi
  have := hop.get l 0 i o hi' a1 w1 (by rw [Nat.zero_add]; exact c)
  rw [Nat.zero_add] at this
  cases hg : o.guard with
  | some gw => rw [hg] at this; exact this
  | none =>
   rw [hg] at this
   dsimp only at this
   unfold wpOp
   rw [hi]
   simp only [Region.wanted, hg, if_true]
   exact .inl this
/-- The assertions of other kinds are kept by what may come behind them. -/
def OgSt (ops : Array Oper) (B : Nat) (E : Nat → Nat → Prop) : Nat → List Asr → Prop
 | _, [] => True
 | j, .eq _ :: r => OgSt ops B E (j + 1) r
 | j, .pure _ :: r => OgSt ops B E (j + 1) r
 | j, .blki _ _ _ _ :: r => OgSt ops B E (j + 1) r
 | j, .blk _ _ _ :: r => OgSt ops B E (j + 1) r
 | j, .any p :: r => (∀ i, ahead ops j i = false → j ≠ i → ∀ v w w', B ≤ w.heap.size → Only (E i) w w' → p v w → p v w') ∧ OgSt ops B E (j + 1) r
 | j, .wld p :: r => (∀ i, ahead ops j i = false → j ≠ i → ∀ w w', B ≤ w.heap.size → Only (E i) w w' → p w → p w') ∧ OgSt ops B E (j + 1) r
def Asr.kept (ops : Array Oper) (B : Nat) (E : Nat → Nat → Prop) (j : Nat) : Asr → Prop
 | .any p => ∀ i, ahead ops j i = false → j ≠ i → ∀ v w w', B ≤ w.heap.size → Only (E i) w w' → p v w → p v w'
 | .wld p => ∀ i, ahead ops j i = false → j ≠ i → ∀ w w', B ≤ w.heap.size → Only (E i) w w' → p w → p w'
 | _ => True
theorem OgSt.get {ops : Array Oper} {B : Nat} {E : Nat → Nat → Prop} : ∀ {As : List Asr} {k : Nat} (_ : OgSt ops B E k As) {j : Nat} {A : Asr} (_ : As[j]? = some A), A.kept ops B E (k + j)
 | [], _, _, j, A, h => by simp at h
 | A :: r, k, hs, 0, A', h => by
  simp only [List.getElem?_cons_zero, Option.some.injEq] at h
  subst h
  cases A <;> first | trivial | exact hs.1
 | A :: r, k, hs, j + 1, A', h => by
  rw [List.getElem?_cons_succ] at h
  have hr : OgSt ops B E (k + 1) r := by cases A <;> first | exact hs | exact hs.2
  have := OgSt.get hr h
  rw [show k + (j + 1) = k + 1 + j from by omega]
  exact this
/-- The rule where some operations turn blocks. -/
theorem wp_region_ogE {id n : Nat} {l : List Oper} {Q : Exit → Act → World → Prop} {a0 : Act} {w : World} (As : List Asr) (E : Nat → Nat → Prop) (hm : P.follows .mixedOrders = true) (hok : ogOk l.toArray = true)
  (hfit : ogFit l.toArray As n = true) (hn : a0.tmps.size = n) (hE : ∀ e g, E e g → g < w.heap.size) (hst : OgSt l.toArray w.heap.size E 0 As)
  (hop : OgOps P l.toArray Q a0 w.drew E (asrAt As w.heap.size) 0 l)
  (hend : ∀ a1 w1, OgEnd l.toArray a0 w.drew E (asrAt As w.heap.size) a1 w1 → Only (fun g => ∃ e, E e g) w w1 → Q .normal a1 w1) : (Code.region id l.toArray true).wp P Q a0 w := by
 refine wp_region_ogA As E hm hok hfit hn hE ?_ ?_ hop ?_
 ·intro i j p v w1 w' hA h1 h2 ha hji h
  have := hst.get hA
  rw [Nat.zero_add] at this
  exact this i ha (fun e => hji e) v w1 w' h1.size h2 h
 ·intro i j p w1 w' hA h1 h2 ha hji h
  have := hst.get hA
  rw [Nat.zero_add] at this
  exact this i ha (fun e => hji e) w1 w' h1.size h2 h
 ·intro a1 w1 c
  have := c.only
  exact hend a1 w1 c ⟨this.os, this.tape, this.output, this.size, this.block⟩
/-- The rule where the operations only read, call what makes memory, and make memory. -/
theorem wp_region_og0 {id n : Nat} {l : List Oper} {Q : Exit → Act → World → Prop} {a0 : Act} {w : World} (As : List Asr) (hm : P.follows .mixedOrders = true) (hok : ogOk l.toArray = true)
  (hfit : ogFit l.toArray As n = true) (hn : a0.tmps.size = n) (hst : OgSt l.toArray w.heap.size (fun _ _ => False) 0 As)
  (hop : OgOps P l.toArray Q a0 w.drew (fun _ _ => False) (asrAt As w.heap.size) 0 l)
  (hend : ∀ a1 w1, OgEnd l.toArray a0 w.drew (fun _ _ => False) (asrAt As w.heap.size) a1 w1 → Below w.heap.size w w1 → Q .normal a1 w1) : (Code.region id l.toArray true).wp P Q a0 w :=
 wp_region_ogE As (fun _ _ => False) hm hok hfit hn (fun _ _ h => h.elim) hst hop fun a1 w1 c h =>
  hend a1 w1 c (h.below (Nat.le_refl _) fun _ _ ⟨_, h⟩ => h)
/-- An operation that gives a value and leaves the world. -/
theorem og_val {o : Oper} {a : Act} {w : World} {E : Nat → Nat → Prop} {Φ : Nat → Value → World → Prop} {i : Nat} {Q : Exit → Act → World → Prop} {v : Value} (h : (execOp a.eval o).run P w = .ok (.value v) w) (hΦ : Φ i v w) :
  o.wp P a w (OgPost E Φ i o a w) Q := by
 unfold Oper.wp
 rw [h]
 exact ⟨v, rfl, Only.refl _ _, hΦ⟩
theorem og_ext {o : Oper} {a : Act} {w w' : World} {E : Nat → Nat → Prop} {Φ : Nat → Value → World → Prop} {i : Nat} {Q : Exit → Act → World → Prop} {v : Value} (h : (execOp a.eval o).run P w = .ok (.value v) w') (hb : Below w.heap.size w w') (hΦ : Φ i v w') :
  o.wp P a w (OgPost E Φ i o a w) Q := by
 unfold Oper.wp
 rw [h]
 exact ⟨v, rfl, Only.of_below hb, hΦ⟩
theorem og_call {o : Oper} {a : Act} {w : World} {E : Nat → Nat → Prop} {Φ : Nat → Value → World → Prop} {i : Nat} {Q : Exit → Act → World → Prop} {f : FuncId} {args : Array Value} (h : (execOp a.eval o).run P w = .ok (.enter f args) w)
  (hc : Calls P f args w fun e w' => ∃ v, e = .returned v ∧ Below w.heap.size w w' ∧ Φ i v w') : o.wp P a w (OgPost E Φ i o a w) Q := by
 unfold Oper.wp
 rw [h]
 refine Calls.mono hc ?_
 rintro e w' ⟨v, rfl, hb, hΦ⟩
 exact ⟨v, rfl, Only.of_below hb, hΦ⟩
end
section
variable {ops : Array Oper} {a0 a : Act} {w0 w : World} {E : Nat → Nat → Prop} {Φ : Nat → Value → World → Prop} {i : Nat}
/-- Every operation that writes slot t is i, or stands behind i. -/
def ogOut (ops : Array Oper) (i : Nat) (t : Tmp) : Bool := ops.toList.zipIdx.all fun (o, j) => o.dst != some t || j == i || ahead ops j i
theorem OgCtx.outE (c : OgCtx ops a0 w0 E Φ i a w) {t : Tmp} {v : Value} (h : ogOut ops i t = true) (hv : a0.eval (.tmp t) = v) : a.eval (.tmp t) = v := by
 have := c.out t (by
  intro j o hj hd
  unfold ogOut at h
  rw [List.all_eq_true] at h
  have h1 := h (o, j) (by rw [List.mem_zipIdx_iff_getElem?]; simpa using hj)
  simp only [hd, bne_self_eq_false, Bool.false_or, Bool.or_eq_true, beq_iff_eq] at h1
  exact h1)
 rw [← hv]
 simp only [Act.eval, Array.getD_eq_getD_getElem?, this]
theorem OgCtx.heap (c : OgCtx ops a0 w0 E Φ i a w) {g : Nat} {o : Obj} (h : w0.heap[g]? = some o) (hE : ∀ e, E e g → e = i ∨ ahead ops e i = true) : w.heap[g]? = some o := by
 rw [c.block g ?_ hE]
 ·exact h
 ·rcases Nat.lt_or_ge g w0.heap.size with hlt | hge
  ·exact hlt
  ·rw [Array.getElem?_eq_none hge] at h; cases h
theorem OgCtx.cell (c : OgCtx ops a0 w0 E Φ i a w) {p : Addr} {v : Value} (h : w0.cell? p = some v) (hE : ∀ e, E e p.block → e = i ∨ ahead ops e i = true) : w.cell? p = some v := by
 rw [World.cell?_of_block (w := w0)]
 ·exact h
 ·exact c.block _ (World.block_lt_of_cell? w0 p h) hE
end
end Go.Proofs.YtflppablgdegcaaGreatDoor.G2
/- Facts on types: fields' places, sizes, loads and stores of one cell, new blocks, boxes. Printed by wip/tools/gen_ty.py. -/
set_option maxRecDepth 100000
namespace Go.Proofs.YtflppablgdegcaaGreatDoor
open Go.RowKit
theorem fo_impl_Media_2 : Fo 40 2 2 := by intro g i w; go_simp
theorem ag_impl_Media : Ag 40 14 := ⟨Tryz.isAgg40, Tryz.sizeOf40⟩
theorem al_impl_Media : Al 40 #[.float .f64 0, .int .u64 0, .slice none 0 0, .string ⟨#[]⟩, .bool false, .bool false, .int .i64 0, .int .u64 0, .float .f64 0, .bool false, .int .i64 0, .slice none 0 0, .slice none 0 0, .int .i64 0] := by intro w; go_simp
theorem fo_m3u8_MediaSegment_0 : Fo 127 0 0 := by intro g i w; go_simp
theorem fo_m3u8_MediaSegment_1 : Fo 127 1 1 := by intro g i w; go_simp
theorem fo_m3u8_MediaSegment_2 : Fo 127 2 2 := by intro g i w; go_simp
theorem fo_m3u8_MediaSegment_3 : Fo 127 3 3 := by intro g i w; go_simp
theorem fo_m3u8_MediaSegment_4 : Fo 127 4 4 := by intro g i w; go_simp
theorem fo_m3u8_MediaSegment_5 : Fo 127 5 5 := by intro g i w; go_simp
theorem fo_m3u8_MediaSegment_6 : Fo 127 6 6 := by intro g i w; go_simp
theorem fo_m3u8_MediaSegment_7 : Fo 127 7 7 := by intro g i w; go_simp
theorem fo_m3u8_MediaSegment_8 : Fo 127 8 8 := by intro g i w; go_simp
theorem fo_m3u8_MediaSegment_9 : Fo 127 9 9 := by intro g i w; go_simp
theorem fo_m3u8_MediaSegment_10 : Fo 127 10 10 := by intro g i w; go_simp
theorem al_m3u8_MediaSegment : Al 127 #[.int .u64 0, .string ⟨#[]⟩, .string ⟨#[]⟩, .float .f64 0, .int .i64 0, .int .i64 0, .pointer none, .pointer none, .bool false, .pointer none, .string ⟨#[]⟩] := by intro w; go_simp
theorem fo_m3u8_MediaPlaylist_0 : Fo 88 0 0 := by intro g i w; go_simp
theorem fo_m3u8_MediaPlaylist_1 : Fo 88 1 1 := by intro g i w; go_simp
theorem fo_m3u8_MediaPlaylist_2 : Fo 88 2 2 := by intro g i w; go_simp
theorem fo_m3u8_MediaPlaylist_3 : Fo 88 3 3 := by intro g i w; go_simp
theorem fo_m3u8_MediaPlaylist_4 : Fo 88 4 4 := by intro g i w; go_simp
theorem fo_m3u8_MediaPlaylist_5 : Fo 88 5 5 := by intro g i w; go_simp
theorem fo_m3u8_MediaPlaylist_6 : Fo 88 6 6 := by intro g i w; go_simp
theorem fo_m3u8_MediaPlaylist_7 : Fo 88 7 7 := by intro g i w; go_simp
theorem fo_m3u8_MediaPlaylist_8 : Fo 88 8 8 := by intro g i w; go_simp
theorem fo_m3u8_MediaPlaylist_9 : Fo 88 9 9 := by intro g i w; go_simp
theorem fo_m3u8_MediaPlaylist_12 : Fo 88 12 12 := by intro g i w; go_simp
theorem fo_m3u8_MediaPlaylist_13 : Fo 88 13 13 := by intro g i w; go_simp
theorem fo_m3u8_MediaPlaylist_14 : Fo 88 14 14 := by intro g i w; go_simp
theorem fo_m3u8_MediaPlaylist_15 : Fo 88 15 15 := by intro g i w; go_simp
theorem fo_m3u8_MediaPlaylist_16 : Fo 88 16 16 := by intro g i w; go_simp
theorem fo_m3u8_MediaPlaylist_17 : Fo 88 17 17 := by intro g i w; go_simp
theorem fo_m3u8_MediaPlaylist_18 : Fo 88 18 20 := by intro g i w; go_simp
theorem fo_m3u8_MediaPlaylist_19 : Fo 88 19 21 := by intro g i w; go_simp
theorem fo_m3u8_MediaPlaylist_20 : Fo 88 20 22 := by intro g i w; go_simp
theorem al_m3u8_MediaPlaylist : Al 88 #[.float .f64 0, .int .u64 0, .slice none 0 0, .string ⟨#[]⟩, .bool false, .bool false, .int .u64 0, .int .u64 0, .float .f64 0, .bool false, .bool false, .int .i64 0, .int .u64 0, .int .u64 0, .int .u64 0, .int .u64 0, .int .u64 0, .slice none 0 0, .int .i64 0, .int .i8 0, .int .u8 0, .pointer none, .pointer none] := by intro w; go_simp
theorem fo_bytes_Buffer_0 : Fo 84 0 0 := by intro g i w; go_simp
theorem fo_bytes_Buffer_1 : Fo 84 1 1 := by intro g i w; go_simp
theorem fo_bytes_Buffer_2 : Fo 84 2 2 := by intro g i w; go_simp
theorem al_bytes_Buffer : Al 84 #[.slice none 0 0, .int .i64 0, .int .i8 0] := by intro w; go_simp
theorem fo_bytes_Reader_0 : Fo 97 0 0 := by intro g i w; go_simp
theorem fo_bytes_Reader_1 : Fo 97 1 1 := by intro g i w; go_simp
theorem fo_bytes_Reader_2 : Fo 97 2 2 := by intro g i w; go_simp
theorem bx_bytes_Reader (cs : Array Value) : Bx 97 cs := fun w => rfl
theorem fo_m3u8_decodingState_0 : Fo 121 0 0 := by intro g i w; go_simp
theorem fo_m3u8_decodingState_1 : Fo 121 1 1 := by intro g i w; go_simp
theorem fo_m3u8_decodingState_3 : Fo 121 3 3 := by intro g i w; go_simp
theorem fo_m3u8_decodingState_4 : Fo 121 4 4 := by intro g i w; go_simp
theorem fo_m3u8_decodingState_5 : Fo 121 5 5 := by intro g i w; go_simp
theorem fo_m3u8_decodingState_6 : Fo 121 6 6 := by intro g i w; go_simp
theorem fo_m3u8_decodingState_7 : Fo 121 7 7 := by intro g i w; go_simp
theorem fo_m3u8_decodingState_8 : Fo 121 8 8 := by intro g i w; go_simp
theorem fo_m3u8_decodingState_9 : Fo 121 9 9 := by intro g i w; go_simp
theorem fo_m3u8_decodingState_13 : Fo 121 13 13 := by intro g i w; go_simp
theorem fo_m3u8_decodingState_14 : Fo 121 14 14 := by intro g i w; go_simp
theorem al_m3u8_decodingState : Al 121 #[.int .u64 0, .bool false, .bool false, .bool false, .bool false, .bool false, .bool false, .bool false, .bool false, .bool false, .string ⟨#[]⟩, .int .i64 0, .int .i64 0, .float .f64 0, .string ⟨#[]⟩, .pointer none, .slice none 0 0, .pointer none, .pointer none, .pointer none] := by intro w; go_simp
theorem bx_errors_errorString (cs : Array Value) : Bx 139 cs := fun w => rfl
theorem lt_string : Ld 9 := by intro w p v h; go_simp
theorem su_string (s : ByteArray) : St 9 (.string s) := by intro w q u hc hf; simp only [Instr.storeAt, Instr.sureAddr]; go_simp
theorem lt_int64 : Ld 2 := by intro w p v h; go_simp
theorem su_int64 (n : Int) : St 2 (.int .i64 n) := by intro w q u hc hf; simp only [Instr.storeAt, Instr.sureAddr]; go_simp
theorem lt_int : Ld 3 := by intro w p v h; go_simp
theorem su_int (n : Int) : St 3 (.int .i64 n) := by intro w q u hc hf; simp only [Instr.storeAt, Instr.sureAddr]; go_simp
theorem lt_bool : Ld 4 := by intro w p v h; go_simp
theorem su_bool (b : Bool) : St 4 (.bool b) := by intro w q u hc hf; simp only [Instr.storeAt, Instr.sureAddr]; go_simp
theorem lt_uint64 : Ld 24 := by intro w p v h; go_simp
theorem su_uint64 (n : Int) : St 24 (.int .u64 n) := by intro w q u hc hf; simp only [Instr.storeAt, Instr.sureAddr]; go_simp
theorem lt_float64 : Ld 35 := by intro w p v h; go_simp
theorem store_f' (a : Addr) (n : Nat) (w : World) : (store a (.float .f64 n)).run Tryz.prog w = stored Tryz.prog w a (.float .f64 n) .plain := run_store Tryz.prog w a _ _ rfl
theorem su_float64 (x : Nat) : St 35 (.float .f64 x) := by
 intro w q u hc hf
 have hst := store_f'
 simp only [Instr.storeAt, Instr.sureAddr]; go_simp
theorem lt_sl_impl_Segment : Ld 36 := by intro w p v h; go_simp
theorem lt_p_m3u8_Key : Ld 85 := by intro w p v h; go_simp
theorem lt_p_m3u8_Map : Ld 86 := by intro w p v h; go_simp
theorem lt_p_m3u8_SCTE : Ld 119 := by intro w p v h; go_simp
theorem lt_sl_p_m3u8_MediaSegment : Ld 79 := by intro w p v h; go_simp
theorem su_sl_p_m3u8_MediaSegment (p : Option Addr) (n c : Nat) : St 79 (.slice p n c) := by intro w q u hc hf; simp only [Instr.storeAt, Instr.sureAddr]; go_simp
theorem lt_m3u8_MediaType : Ld 80 := by intro w p v h; go_simp
theorem lt_uint : Ld 48 := by intro w p v h; go_simp
theorem su_uint (n : Int) : St 48 (.int .u64 n) := by intro w q u hc hf; simp only [Instr.storeAt, Instr.sureAddr]; go_simp
theorem lt_sl_uint8 : Ld 45 := by intro w p v h; go_simp
theorem su_sl_uint8 (p : Option Addr) (n c : Nat) : St 45 (.slice p n c) := by intro w q u hc hf; simp only [Instr.storeAt, Instr.sureAddr]; go_simp
theorem su_bytes_readOp (n : Int) : St 82 (.int .i8 n) := by intro w q u hc hf; simp only [Instr.storeAt, Instr.sureAddr]; go_simp
theorem lt_uint8 : Ld 5 := by intro w p v h; go_simp
theorem su_uint8 (n : Int) : St 5 (.int .u8 n) := by intro w q u hc hf; simp only [Instr.storeAt, Instr.sureAddr]; go_simp
theorem su_m3u8_ListType (n : Int) : St 116 (.int .u64 n) := by intro w q u hc hf; simp only [Instr.storeAt, Instr.sureAddr]; go_simp
theorem cf_impl_ReadMedia : Cf 9 := by intro args w; go_simp
theorem cf_impl_readable : Cf 16 := by intro args w; go_simp
theorem cf_m3u8_NewMediaPlaylist : Cf 17 := by intro args w; go_simp
theorem cf_m3u8_MediaPlaylist_DecodeFrom : Cf 18 := by intro args w; go_simp
theorem cf_bytes_NewReader : Cf 19 := by intro args w; go_simp
theorem cf_impl_mediaOf : Cf 20 := by intro args w; go_simp
theorem cf_impl_lines : Cf 32 := by intro args w; go_simp
theorem cf_impl_begins : Cf 33 := by intro args w; go_simp
theorem cf_m3u8_MediaPlaylist_SetWinSize : Cf 34 := by intro args w; go_simp
theorem cf_bytes_Buffer_ReadFrom : Cf 35 := by intro args w; go_simp
theorem cf_m3u8_MediaPlaylist_decode : Cf 36 := by intro args w; go_simp
theorem cf_impl_segmentsOf : Cf 37 := by intro args w; go_simp
theorem cf_impl_inOrder : Cf 38 := by intro args w; go_simp
theorem cf_m3u8_MediaPlaylist_Version : Cf 39 := by intro args w; go_simp
theorem cf_impl_keyOf : Cf 40 := by intro args w; go_simp
theorem cf_impl_mapOf : Cf 41 := by intro args w; go_simp
theorem cf_m3u8_MediaPlaylist_WinSize : Cf 42 := by intro args w; go_simp
theorem cf_bytes_TrimSpace : Cf 43 := by intro args w; go_simp
theorem cf_errors_New : Cf 44 := by intro args w; go_simp
theorem cf_bytes_Buffer_grow : Cf 45 := by intro args w; go_simp
theorem cf_bytes_Buffer_ReadString : Cf 46 := by intro args w; go_simp
theorem cf_m3u8_decodeLineOfMediaPlaylist : Cf 47 := by intro args w; go_simp
theorem cf_impl_cueOf : Cf 48 := by intro args w; go_simp
theorem cf_m3u8_MediaPlaylist_ZZHead : Cf 49 := by intro args w; go_simp
theorem cf_bytes_Buffer_Len : Cf 52 := by intro args w; go_simp
theorem cf_bytes_Buffer_Reset : Cf 53 := by intro args w; go_simp
theorem cf_bytes_Buffer_tryGrowByReslice : Cf 54 := by intro args w; go_simp
theorem cf_bytes_Buffer_readSlice : Cf 56 := by intro args w; go_simp
theorem cf_strings_TrimSpace : Cf 57 := by intro args w; go_simp
theorem cf_strings_HasPrefix : Cf 58 := by intro args w; go_simp
theorem cf_m3u8_zzIndex : Cf 59 := by intro args w; go_simp
theorem cf_strconv_ParseFloat : Cf 60 := by intro args w; go_simp
theorem cf_m3u8_MediaPlaylist_Append : Cf 61 := by intro args w; go_simp
theorem cf_m3u8_zzUint8 : Cf 68 := by intro args w; go_simp
theorem cf_m3u8_zzFloat : Cf 69 := by intro args w; go_simp
theorem cf_m3u8_zzUint64 : Cf 70 := by intro args w; go_simp
theorem cf_bytes_IndexByte : Cf 80 := by intro args w; go_simp
theorem cf_istrconv_ParseFloat : Cf 84 := by intro args w; go_simp
theorem cf_strconv_toError : Cf 85 := by intro args w; go_simp
theorem cf_m3u8_MediaPlaylist_AppendSegment : Cf 86 := by intro args w; go_simp
theorem cf_m3u8_zzToken : Cf 88 := by intro args w; go_simp
theorem cf_m3u8_zzDigitsOf : Cf 89 := by intro args w; go_simp
theorem cf_strconv_ParseUint : Cf 90 := by intro args w; go_simp
theorem cf_istrconv_parseFloatPrefix : Cf 104 := by intro args w; go_simp
theorem cf_math_Ceil : Cf 109 := by intro args w; go_simp
theorem cf_istrconv_ParseUint : Cf 110 := by intro args w; go_simp
theorem cf_istrconv_atof64 : Cf 119 := by intro args w; go_simp
theorem cf_istrconv_lower : Cf 124 := by intro args w; go_simp
theorem cf_istrconv_special : Cf 127 := by intro args w; go_simp
theorem cf_istrconv_readFloat : Cf 128 := by intro args w; go_simp
theorem cf_istrconv_bool2_uint64 : Cf 136 := by intro args w; go_simp
theorem cf_istrconv_atof64exact : Cf 138 := by intro args w; go_simp
theorem cf_istrconv_commonPrefixLenIgnoreCase : Cf 142 := by intro args w; go_simp
end Go.Proofs.YtflppablgdegcaaGreatDoor
/- The state Sv in regions that draw their order; branches whose road is known; results in a cell. -/
namespace Go.Proofs.YtflppablgdegcaaGreatDoor
open Go.RowKit
theorem only_below0 {w w' : World} (h : Only (fun _ => False) w w') : Below w.heap.size w w' := h.below (Nat.le_refl _) fun _ _ h => h
section
variable {ops : Array Oper} {a0 a : Act} {w w0 w1 : World} {Φ : Nat → Value → World → Prop} {N i k : Nat} {l : List (Nat × Value)} {m : List Bk} {M : Nat → Prop}
theorem drew_below (h : Only (fun g => ∃ e : Nat, (fun (_ : Nat) (_ : Nat) => False) e g) w.drew w1) : Below w.heap.size w w1 := by
 have h0 := h.below (B := w.heap.size) (Nat.le_refl _) fun g _ ⟨_, h⟩ => h
 exact ⟨h0.os, h0.tape, h0.output, h0.size, h0.block⟩
theorem Sv.empty (h : Sv N l m M w0 a0 w) (hs : a.tmps.size = a0.tmps.size) (hd : a.defers = a0.defers) : Sv N [] m M w0 a w := h.slot ⟨hs.trans h.ev.size, hd.trans h.ev.defers, fun t v hl => by simp at hl⟩
theorem Sv.ogc (h : Sv N l m M w0 a0 w) (c : OgCtx ops a0 w.drew (fun _ _ => False) Φ i a w1) : Sv N [] m M w0 a w1 := (h.empty c.size c.defers).below (drew_below c.only)
theorem Sv.ogh (h : Sv N l m M w0 a0 w) (c : OgHead ops k a0 w.drew (fun _ _ => False) Φ a w1) : Sv N [] m M w0 a w1 := (h.empty c.size c.defers).below (drew_below c.only)
def ogNot (ops : Array Oper) (k t : Nat) : Bool := (ops.toList.take k).all fun o => o.dst != some t
theorem OgHead.outE {E : Nat → Nat → Prop} {t : Nat} {v : Value} (c : OgHead ops k a0 w0 E Φ a w) (h : ogNot ops k t = true) (hv : a0.eval (.tmp t) = v) : a.eval (.tmp t) = v := by
 have := c.out t (by
  intro j o hj hjo hd
  unfold ogNot at h
  rw [List.all_eq_true] at h
  have h1 := h o (by
   rw [List.mem_iff_getElem?]
   exact ⟨j, by rw [List.getElem?_take_of_lt hj]; simpa using hjo⟩)
  rw [hd] at h1
  simp at h1)
 rw [← hv]
 simp only [Act.eval, Array.getD_eq_getD_getElem?, this]
theorem OgEnd.outE {E : Nat → Nat → Prop} {t : Nat} {v : Value} (c : OgEnd ops a0 w0 E Φ a w) (h : ogNot ops ops.size t = true) (hv : a0.eval (.tmp t) = v) : a.eval (.tmp t) = v := by
 have := c.out t (by
  intro j o hjo hd
  unfold ogNot at h
  rw [List.all_eq_true] at h
  have hj := (Array.getElem?_eq_some_iff.1 hjo).1
  have h1 := h o (by
   rw [List.mem_iff_getElem?]
   exact ⟨j, by rw [List.getElem?_take_of_lt hj]; simpa using hjo⟩)
  rw [hd] at h1
  simp at h1)
 rw [← hv]
 simp only [Act.eval, Array.getD_eq_getD_getElem?, this]
end
section
variable {t : Nat} {c d : Code} {a : Act} {w : World} {Q : Exit → Act → World → Prop}
theorem cond_t (hc : a.eval (.tmp t) = .bool true) (h : c.wp Tryz.prog Q a w) : (Code.cond (.tmp t) c d).wp Tryz.prog Q a w :=
 wp_cond_split hc (fun _ => h) (fun e => by cases e)
theorem cond_f (hc : a.eval (.tmp t) = .bool false) (h : d.wp Tryz.prog Q a w) : (Code.cond (.tmp t) c d).wp Tryz.prog Q a w :=
 wp_cond_split hc (fun e => by cases e) (fun _ => h)
end
section
variable {a : Act} {w : World} {dst : Option Nat} {T T' ty : TypeId} {ps : String} {af : Array Edge} {gd : Option (Nat × Bool)} {x y : Operand} {k k2 : IntKind} {n j c : Nat}
theorem ni_rem (j : Nat) (hx : a.eval x = .int k n) (hy : a.eval y = .int k j) (hj : j ≠ 0) : (execOp a.eval ⟨dst, .binOp .rem T x y T', ty, ps, af, gd⟩).run Tryz.prog w = .ok (.value (.int k ((n % j : Nat) : Int))) w := by
 refine ei_rem hx hy (by omega) ?_
 rw [Int.tmod_eq_emod_of_nonneg (by omega)]
 push_cast
 rfl
theorem ni_rem' {z : Nat} (j : Nat) (hx : a.eval x = .int k n) (hy : a.eval y = .int k j) (hj : j ≠ 0) (hz : n % j = z) : (execOp a.eval ⟨dst, .binOp .rem T x y T', ty, ps, af, gd⟩).run Tryz.prog w = .ok (.value (.int k ((z : Nat) : Int))) w := hz ▸ ni_rem j hx hy hj
end
theorem ret_cell {N t k g : Nat} {T : TypeId} {l : List (Nat × Value)} {fn : Func} {R : Ending → World → Prop} {a : Act} {w : World} {cs : Array Value} {e : TypeId} {fr : Nat × Nat} (h : Ev N l a) (hr : fn.results = #[.cell t T]) (hA : Ag T k) (hv : a.eval (.tmp t) = pt g 0) (hg : w.heap[g]? = some (.cells cs e fr)) (hsz : cs.size = k) (hR : R (.returned (.agg cs)) w) : bodyPost Tryz.prog fn R .ret a w := by
 refine bodyPost_ret (v := .agg cs) ?_ h.defers hR
 have hl := run_load_blk (P := Tryz.prog) (w := w) T hA.agg hA.size hg hsz
 have hv' : a.tmps.getD t undef = pt g 0 := hv
 rw [Array.getD_eq_getD_getElem?] at hv'
 simp [results, hr, hv', asAddr, hl]
end Go.Proofs.YtflppablgdegcaaGreatDoor
/- Keys, heads and segments of a media playlist, as data and as they lie in memory; frames by the blocks' types. -/
namespace Go.Proofs.YtflppablgdegcaaGreatDoor
open Go.RowKit
/-- A key. -/
structure Ky where
 method : ByteArray
 uri : ByteArray
 iv : ByteArray
 format : ByteArray
 versions : ByteArray
/-- A head. -/
structure Mp where
 uri : ByteArray
 limit : Nat
 offset : Nat
def Ky.cells (k : Ky) : Array Value := #[.string k.method, .string k.uri, .string k.iv, .string k.format, .string k.versions]
def Mp.cells (m : Mp) : Array Value := #[.string m.uri, .int .i64 (m.limit : Int), .int .i64 (m.offset : Int)]
/-- A pointer to a block of these cells; the nil pointer where there is none. -/
def PtrTo (T : TypeId) (o : Option (Array Value)) (v : Value) (w : World) : Prop := (o = none ∧ v = .pointer none) ∨ ∃ g cs, o = some cs ∧ v = pt g 0 ∧ w.heap[g]? = some (.cells cs T (0, 0))
/-- A slice of one element, or nil. -/
def OneOf1 (T : TypeId) (o : Option (Array Value)) (v : Value) (w : World) : Prop := (o = none ∧ v = .slice none 0 0) ∨ ∃ g cs, o = some cs ∧ v = .slice (some ⟨g, 0, none⟩) 1 1 ∧ w.heap[g]? = some (.cells cs T (0, 0))
section
variable {T : TypeId} {o : Option (Array Value)} {v : Value} {w w' : World} {ts : List TypeId}
theorem PtrTo.nil : PtrTo T none (.pointer none) w := .inl ⟨rfl, rfl⟩
theorem PtrTo.new {g : Nat} {cs : Array Value} (h : w.heap[g]? = some (.cells cs T (0, 0))) : PtrTo T (some cs) (pt g 0) w := .inr ⟨g, cs, rfl, rfl, h⟩
theorem PtrTo.keep (h : PtrTo T o v w) (hb : Below w.heap.size w w') : PtrTo T o v w' := by
 rcases h with h | ⟨g, cs, h1, h2, h3⟩
 ·exact .inl h
 ·exact .inr ⟨g, cs, h1, h2, hp_below h3 hb⟩
theorem PtrTo.ty (h : PtrTo T o v w) (hb : TyOnly ts w w') (ht : (ts.all fun u => u != T) = true) : PtrTo T o v w' := by
 rcases h with h | ⟨g, cs, h1, h2, h3⟩
 ·exact .inl h
 ·exact .inr ⟨g, cs, h1, h2, hb.keep h3 ht⟩
theorem OneOf1.nil : OneOf1 T none (.slice none 0 0) w := .inl ⟨rfl, rfl⟩
theorem OneOf1.new {g : Nat} {cs : Array Value} (h : w.heap[g]? = some (.cells cs T (0, 0))) : OneOf1 T (some cs) (.slice (some ⟨g, 0, none⟩) 1 1) w := .inr ⟨g, cs, rfl, rfl, h⟩
theorem OneOf1.keep (h : OneOf1 T o v w) (hb : Below w.heap.size w w') : OneOf1 T o v w' := by
 rcases h with h | ⟨g, cs, h1, h2, h3⟩
 ·exact .inl h
 ·exact .inr ⟨g, cs, h1, h2, hp_below h3 hb⟩
theorem OneOf1.ty (h : OneOf1 T o v w) (hb : TyOnly ts w w') (ht : (ts.all fun u => u != T) = true) : OneOf1 T o v w' := by
 rcases h with h | ⟨g, cs, h1, h2, h3⟩
 ·exact .inl h
 ·exact .inr ⟨g, cs, h1, h2, hb.keep h3 ht⟩
end
theorem OneOf1.form {T : TypeId} {o : Option (Array Value)} {v : Value} {w : World} (h : OneOf1 T o v w) : ∃ p n c, v = .slice p n c := by
 rcases h with ⟨_, rfl⟩ | ⟨g, cs, _, rfl, _⟩ <;> exact ⟨_, _, _, rfl⟩
theorem PtrTo.form {T : TypeId} {o : Option (Array Value)} {v : Value} {w : World} (h : PtrTo T o v w) : ∃ p, v = .pointer p := by
 rcases h with ⟨_, rfl⟩ | ⟨g, cs, _, rfl, _⟩ <;> exact ⟨_, rfl⟩
/-- A segment. -/
structure Sm where
 title : ByteArray
 uri : ByteArray
 e : Nat
 limit : Nat
 offset : Nat
 key : Option Ky
 map : Option Mp
 disc : Bool
 date : ByteArray
/-- A segment with the pointers to its key and its head. -/
abbrev Sx := Sm × Value × Value
def Sx.cells (x : Sx) : Array Value := #[.string x.1.title, .string x.1.uri, .int .i64 (x.1.e : Int), .int .i64 (x.1.limit : Int), .int .i64 (x.1.offset : Int), x.2.1, x.2.2, .bool x.1.disc, .string x.1.date]
/-- Its key and its head lie behind the pointers. -/
def Sx.At (x : Sx) (w : World) : Prop := PtrTo 106 (x.1.key.map Ky.cells) x.2.1 w ∧ PtrTo 109 (x.1.map.map Mp.cells) x.2.2 w
theorem Sx.At.keep {x : Sx} {w w' : World} (h : x.At w) (hb : Below w.heap.size w w') : x.At w' := ⟨h.1.keep hb, h.2.keep hb⟩
theorem Sx.At.ty {x : Sx} {w w' : World} {ts : List TypeId} (h : x.At w) (hb : TyOnly ts w w') (ht : (ts.all fun u => u != 106 && u != 109) = true) : x.At w' := by
 rw [List.all_eq_true] at ht
 exact ⟨h.1.ty hb (by rw [List.all_eq_true]; intro u hu; have := ht u hu; simp only [Bool.and_eq_true] at this; exact this.1), h.2.ty hb (by rw [List.all_eq_true]; intro u hu; have := ht u hu; simp only [Bool.and_eq_true] at this; exact this.2)⟩
end Go.Proofs.YtflppablgdegcaaGreatDoor
