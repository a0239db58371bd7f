/- Joined: Og, OgA, OgT, Plain, Arms, Dec, Word, Uri, Strs, M1. -/
import Derived.WalkKit
import Derived.Orders
import Derived.WalkSpells
import Derived.WalkLawsBesides
import Derived.Test.YtflppablgdegcaaGreatDoorRows
import Derived.Lib.Hide
import Derived.Deep.DeepCutAuto
import Derived.Deep.QuietTactic
import Derived.BigQuiet
import Derived.Maps.AppendAt
import Derived.Deep.Draws
import Derived.IntWalk
/- A region that draws its order, walked operation by operation: each operation owes an assertion on its slot that later operations keep; over any program. Conditions: the region's edges lead back, its slots are different. -/
namespace Go.Proofs.YtflppablgdegcaaGreatDoor
open Go.RowKit
/-- Only blocks of which M holds may have turned; new ones may have come. -/
structure Only (M : Nat → Prop) (w w' : World) : Prop where
 os : w'.os = w.os
 tape : w'.tape = w.tape
 output : w'.output = w.output
 size : w.heap.size ≤ w'.heap.size
 block : ∀ g, g < w.heap.size → ¬ M g → w'.heap[g]? = w.heap[g]?
theorem Only.refl (M : Nat → Prop) (w : World) : Only M w w := ⟨rfl, rfl, rfl, Nat.le_refl _, fun _ _ _ => rfl⟩
theorem Only.trans {M M' : Nat → Prop} {a b c : World} (h : Only M a b) (k : Only M' b c) : Only (fun g => M g ∨ M' g) a c :=
 ⟨k.os.trans h.os, k.tape.trans h.tape, k.output.trans h.output, Nat.le_trans h.size k.size,
  fun g hg hm => (k.block g (Nat.lt_of_lt_of_le hg h.size) fun x => hm (.inr x)).trans (h.block g hg fun x => hm (.inl x))⟩
theorem Only.mono {M M' : Nat → Prop} {a b : World} (h : Only M a b) (k : ∀ g, g < a.heap.size → M g → M' g) : Only M' a b := ⟨h.os, h.tape, h.output, h.size, fun g hg hm => h.block g hg fun x => hm (k g hg x)⟩
theorem Only.of_below {M : Nat → Prop} {w w' : World} (h : Below w.heap.size w w') : Only M w w' := ⟨h.os, h.tape, h.output, h.size, fun g hg _ => h.block g hg⟩
theorem Only.of_grown {M : Nat → Prop} {w w' : World} {row : Option Nat} (h : w.grownBy w' row) (hr : ∀ g, row = some g → M g) : Only M w w' :=
 ⟨h.os, h.tape, h.output, h.size, fun g hg hm => h.block g hg fun e => hm (hr g e.symm)⟩
theorem Only.below {M : Nat → Prop} {w w' : World} {B : Nat} (h : Only M w w') (hB : B ≤ w.heap.size) (hm : ∀ g, g < B → ¬ M g) : Below B w w' :=
 ⟨h.os, h.tape, h.output, h.size, fun g hg => h.block g (by omega) (hm g hg)⟩
theorem Only.drew {M : Nat → Prop} {a w : World} (h : Only M a w) : Only M a w.drew := ⟨h.os, h.tape, h.output, h.size, h.block⟩

/-- The slot of an operation. -/
def slotOf (a : Act) (o : Oper) : Value := match o.dst with | some d => a.tmps.getD d undef | none => undef
/-- Does operation j stand somewhere ahead of operation i? -/
def ahead (ops : Array Oper) (i j : Nat) : Bool := ((Region.before ops).getD i 0).testBit j
/-- The edges lead back; no two operations write one slot. -/
def ogOk (ops : Array Oper) : Bool :=
 (ops.toList.zipIdx.all fun (o, i) => o.after.toList.all fun e => decide (e.on < i)) &&
 (ops.toList.zipIdx.all fun (o, i) => ops.toList.zipIdx.all fun (o', j) => i == j || o.dst == none || o.dst != o'.dst)

def beforeStep (acc : Array Nat) (o : Oper) : Array Nat := acc.push (o.after.foldl (fun s e => if Region.binds .any e then s ||| 2 ^ e.on ||| acc.getD e.on 0 else s) 0)
theorem before_keeps (l : List Oper) : ∀ (acc : Array Nat) (i : Nat), i < acc.size → (l.foldl beforeStep acc)[i]? = acc[i]? := by
 induction l with
 | nil => intro acc i _; rfl
 | cons o l ih =>
  intro acc i hi
  rw [List.foldl_cons, ih _ i (by simp [beforeStep]; omega)]
  simp only [beforeStep]
  rw [Array.getElem?_push, if_neg (by omega)]
theorem before_size (l : List Oper) : ∀ acc : Array Nat, (l.foldl beforeStep acc).size = acc.size + l.length := by
 induction l with
 | nil => intro acc; rfl
 | cons o l ih => intro acc; rw [List.foldl_cons, ih]; simp [beforeStep]; omega
theorem before_at (ops : Array Oper) (i : Nat) (o : Oper) (ho : ops[i]? = some o) :
  (Region.before ops).getD i 0 = o.after.foldl (fun s e => if Region.binds .any e then s ||| 2 ^ e.on ||| ((ops.toList.take i).foldl beforeStep #[]).getD e.on 0 else s) 0 := by
 have hlen : i < ops.toList.length := by
  have := (Array.getElem?_eq_some_iff.1 ho).1
  simpa using this
 have ho' : ops.toList[i]? = some o := by simpa using ho
 have hsplit : ops.toList = ops.toList.take i ++ o :: ops.toList.drop (i + 1) := by
  rw [List.getElem?_eq_some_iff] at ho'
  obtain ⟨h, e⟩ := ho'
  rw [← e, List.getElem_cons_drop]
  simp
 have hb : Region.before ops = ops.toList.foldl beforeStep #[] := by
  unfold Region.before
  rw [← Array.foldl_toList]
  rfl
 rw [hb]
 have hsz : ((ops.toList.take i).foldl beforeStep #[]).size = i := by
  rw [before_size, List.length_take, Array.length_toList, Array.size_empty]; rw [Array.length_toList] at hlen; omega
 generalize hT : ops.toList.take i = T at *
 have : (ops.toList.foldl beforeStep #[]) = ((ops.toList.drop (i + 1)).foldl beforeStep (beforeStep (T.foldl beforeStep #[]) o)) := by
  conv => lhs; rw [hsplit]
  rw [List.foldl_append, List.foldl_cons]
 rw [this]
 simp only [Array.getD_eq_getD_getElem?]
 rw [before_keeps _ _ i (by simp [beforeStep]; omega)]
 simp only [beforeStep]
 rw [Array.getElem?_push, if_pos hsz.symm]
 simp
theorem before_take (ops : Array Oper) (i j : Nat) (hji : j < i) (hi : i ≤ ops.size) :
  ((ops.toList.take i).foldl beforeStep #[]).getD j 0 = (Region.before ops).getD j 0 := by
 have hb : Region.before ops = ops.toList.foldl beforeStep #[] := by
  unfold Region.before
  rw [← Array.foldl_toList]
  rfl
 rw [hb]
 have : ops.toList.foldl beforeStep #[] = (ops.toList.drop i).foldl beforeStep ((ops.toList.take i).foldl beforeStep #[]) := by
  rw [← List.foldl_append, List.take_append_drop]
 rw [this]
 have hj : j < ((ops.toList.take i).foldl beforeStep #[]).size := by rw [before_size, List.length_take, Array.length_toList, Array.size_empty]; omega
 simp only [Array.getD_eq_getD_getElem?]
 rw [before_keeps _ _ j hj]
theorem foldl_or_bit (b : Edge → Bool) (f : Edge → Nat) (j : Nat) (l : List Edge) : ∀ s : Nat, (l.foldl (fun s e => if b e then s ||| 2 ^ e.on ||| f e else s) s).testBit j = true →
  s.testBit j = true ∨ ∃ e ∈ l, b e = true ∧ (e.on = j ∨ (f e).testBit j = true) := by
 induction l with
 | nil => intro s h; exact .inl h
 | cons e l ih =>
  intro s h
  rw [List.foldl_cons] at h
  rcases ih _ h with h | ⟨e', he', r⟩
  ·by_cases hb : b e = true
   ·rw [if_pos hb, Nat.testBit_or, Nat.testBit_or, Nat.testBit_two_pow] at h
    simp only [Bool.or_eq_true, decide_eq_true_eq] at h
    rcases h with (h | h) | h
    ·exact .inl h
    ·exact .inr ⟨e, by simp, hb, .inl h⟩
    ·exact .inr ⟨e, by simp, hb, .inr h⟩
   ·rw [if_neg hb] at h
    exact .inl h
  ·exact .inr ⟨e', by simp [he'], r⟩
/-- What stands ahead of i is an edge of i, or stands ahead of an edge of i. -/
theorem ahead_edge {ops : Array Oper} {i j : Nat} {o : Oper} (ho : ops[i]? = some o) (hb : ∀ e ∈ o.after.toList, e.on < i) (h : ahead ops i j = true) :
  ∃ e ∈ o.after.toList, Region.binds .any e = true ∧ (e.on = j ∨ ahead ops e.on j = true) := by
 unfold ahead at h
 rw [before_at ops i o ho, ← Array.foldl_toList] at h
 rcases foldl_or_bit _ _ j _ 0 h with h | ⟨e, he, hbe, r⟩
 ·simp at h
 ·refine ⟨e, he, hbe, ?_⟩
  rcases r with r | r
  ·exact .inl r
  ·right
   unfold ahead
   have hlen : i < ops.size := (Array.getElem?_eq_some_iff.1 ho).1
   rw [before_take ops i e.on (hb e he) (by omega)] at r
   exact r

section
variable {P : Program} {ops : Array Oper} {Q : Exit → Act → World → Prop}
/-- What an operation of the region may lean on. -/
structure OgCtx (ops : Array Oper) (a0 : Act) (w0 : World) (E : Nat → Nat → Prop) (Φ : Nat → Value → World → Prop) (i : Nat) (a : Act) (w : World) : Prop where
 defers : a.defers = a0.defers
 size : a.tmps.size = a0.tmps.size
 slot : ∀ (j : Nat) (o : Oper), ahead ops i j = true → ops[j]? = some o → Φ j (slotOf a o) w
 out : ∀ t, (∀ (j : Nat) (o : Oper), ops[j]? = some o → o.dst = some t → j = i ∨ ahead ops j i = true) → a.tmps[t]? = a0.tmps[t]?
 only : Only (fun g => ∃ e, E e g) w0 w
 block : ∀ g, g < w0.heap.size → (∀ e, E e g → e = i ∨ ahead ops e i = true) → w.heap[g]? = w0.heap[g]?
def OgPost (E : Nat → Nat → Prop) (Φ : Nat → Value → World → Prop) (i : Nat) (o : Oper) (a : Act) (w : World) (a' : Act) (w' : World) : Prop :=
 ∃ v, a' = a.put o.dst v ∧ Only (E i) w w' ∧ Φ i v w'
structure OgEnd (ops : Array Oper) (a0 : Act) (w0 : World) (E : Nat → Nat → Prop) (Φ : Nat → Value → World → Prop) (a : Act) (w : World) : Prop where
 defers : a.defers = a0.defers
 size : a.tmps.size = a0.tmps.size
 slot : ∀ (j : Nat) (o : Oper), ops[j]? = some o → Φ j (slotOf a o) w
 out : ∀ t, (∀ (j : Nat) (o : Oper), ops[j]? = some o → o.dst ≠ some t) → a.tmps[t]? = a0.tmps[t]?
 only : Only (fun g => ∃ e, E e g) w0 w
structure OgInv (ops : Array Oper) (a0 : Act) (w0 : World) (E : Nat → Nat → Prop) (Φ : Nat → Value → World → Prop) (L : Array Bool) (a : Act) (w : World) : Prop where
 defers : a.defers = a0.defers
 size : a.tmps.size = a0.tmps.size
 len : L.size = ops.size
 closed : ∀ i j, L.getD i false = true → ahead ops i j = true → L.getD j false = true
 slot : ∀ (j : Nat) (o : Oper), L.getD j false = true → ops[j]? = some o → Φ j (slotOf a o) w
 out : ∀ t, (∀ (j : Nat) (o : Oper), ops[j]? = some o → o.dst = some t → L.getD j false = false) → a.tmps[t]? = a0.tmps[t]?
 only : Only (fun g => ∃ e, L.getD e false = true ∧ E e g) w0 w

theorem mem_ready {md : Region.Mode} {L : Array Bool} {i : Nat} (h : i ∈ Region.ready md ops L) : ∃ o, ops[i]? = some o ∧ L.getD i true = false ∧ ∀ e ∈ o.after.toList, Region.binds md e = true → L.getD e.on false = true := by
 unfold Region.ready at h
 rw [List.mem_filter] at h
 obtain ⟨h1, h2⟩ := h
 simp only [Bool.and_eq_true, Bool.not_eq_true'] at h2
 obtain ⟨h2, h3⟩ := h2
 cases ho : ops[i]? with
 | none => rw [ho] at h3; simp at h3
 | some o =>
  rw [ho] at h3
  refine ⟨o, rfl, h2, fun e he hb => ?_⟩
  simp only [Option.map_some, Option.getD_some, Array.all_eq_true_iff_forall_mem] at h3
  have := h3 e (by simpa using he)
  simpa [hb] using this
theorem ready_nil {L : Array Bool} (hok : ogOk ops = true) (hlen : L.size = ops.size) (h : Region.ready .any ops L = []) : ∀ i, i < ops.size → L.getD i false = true := by
 intro i
 induction i using Nat.strongRecOn with
 | _ i ih =>
  intro hi
  cases hL : L.getD i false with
  | true => rfl
  | false =>
   exfalso
   have hmem : i ∈ Region.ready .any ops L := by
    unfold Region.ready
    rw [List.mem_filter]
    refine ⟨List.mem_range.2 hi, ?_⟩
    have ho : ops[i]? = some ops[i] := Array.getElem?_eq_getElem hi
    have hLi : L.getD i true = false := by
     simp only [Array.getD_eq_getD_getElem?, Array.getElem?_eq_getElem (show i < L.size by omega), Option.getD_some] at hL ⊢
     exact hL
    rw [ho, hLi]
    simp only [Bool.not_false, Bool.true_and, Option.map_some, Option.getD_some, Array.all_eq_true_iff_forall_mem]
    intro e he
    have hlt : e.on < i := by
     unfold ogOk at hok
     simp only [Bool.and_eq_true, List.all_eq_true] at hok
     have h1 := hok.1 (ops[i], i) (by rw [List.mem_zipIdx_iff_getElem?]; simp)
     have h2 := h1 e (by simpa using he)
     simpa using h2
    rw [ih e.on hlt (by omega)]
    simp
   rw [h] at hmem
   cases hmem
theorem og_dst {i j : Nat} {o o' : Oper} {d : Tmp} (hok : ogOk ops = true) (hi : ops[i]? = some o) (hj : ops[j]? = some o') (hd : o.dst = some d) (hd' : o'.dst = some d) : i = j := by
 unfold ogOk at hok
 simp only [Bool.and_eq_true, List.all_eq_true] at hok
 have h1 := hok.2 (o, i) (by rw [List.mem_zipIdx_iff_getElem?]; simpa using hi)
 have h2 := h1 (o', j) (by rw [List.mem_zipIdx_iff_getElem?]; simpa using hj)
 simpa [hd, hd'] using h2
theorem og_edges {i : Nat} {o : Oper} (hok : ogOk ops = true) (hi : ops[i]? = some o) : ∀ e ∈ o.after.toList, e.on < i := by
 unfold ogOk at hok
 simp only [Bool.and_eq_true, List.all_eq_true] at hok
 have h1 := hok.1 (o, i) (by rw [List.mem_zipIdx_iff_getElem?]; simpa using hi)
 intro e he
 have h2 := h1 e he
 simpa using h2
theorem slotOf_put_same {a : Act} {o : Oper} {v : Value} (h : ∀ d, o.dst = some d → d < a.tmps.size) : slotOf (a.put o.dst v) o = match o.dst with | some _ => v | none => undef := by
 unfold slotOf
 cases hd : o.dst with
 | none => rfl
 | some d => simp [Act.put, h d hd]
theorem slotOf_put_other {a : Act} {o o' : Oper} {v : Value} (h : ∀ d, o.dst = some d → o'.dst ≠ some d) : slotOf (a.put o.dst v) o' = slotOf a o' := by
 unfold slotOf
 cases hd : o.dst with
 | none => rfl
 | some d =>
  cases hd' : o'.dst with
  | none => rfl
  | some d' =>
   have hne : d ≠ d' := fun e => h d hd (by rw [hd', e])
   simp [Act.put, Array.getElem?_setIfInBounds_ne hne]
theorem og_any (hok : ogOk ops = true) (a0 : Act) (w0 : World) (E : Nat → Nat → Prop) (Φ : Nat → Value → World → Prop)
  (hsl : ∀ (i : Nat) (o : Oper) d, ops[i]? = some o → o.dst = some d → d < a0.tmps.size)
  (hnone : ∀ (i : Nat) (o : Oper) v w, ops[i]? = some o → o.dst = none → Φ i v w → Φ i undef w)
  (hst : ∀ i j v w w', Only (fun g => ∃ e, E e g) w0 w → Only (E i) w w' → ahead ops j i = false → j ≠ i → Φ j v w → Φ j v w')
  (hop : ∀ (i : Nat) (o : Oper), ops[i]? = some o → ∀ a w, OgCtx ops a0 w0 E Φ i a w → wpOp P ops Q i (OgPost E Φ i o a w) a w)
  (hend : ∀ a w, OgEnd ops a0 w0 E Φ a w → Q .normal a w) :
  ∀ (fuel : Nat) (L : Array Bool) (a : Act) (w : World), (L.toList.filter (! ·)).length ≤ fuel → OgInv ops a0 w0 E Φ L a w → wpAny P .any ops Q fuel L a w := by
 have fin : ∀ (L : Array Bool) (a : Act) (w : World), OgInv ops a0 w0 E Φ L a w → Region.ready .any ops L = [] → Q .normal a w := by
  intro L a w h hr
  have hall := ready_nil hok h.len hr
  refine hend a w ⟨h.defers, h.size, fun j o hj => h.slot j o (hall j (Array.getElem?_eq_some_iff.1 hj).1) hj, fun t ht => h.out t fun j o hj hd => absurd hd (ht j o hj), h.only.mono fun g _ ⟨e, _, he⟩ => ⟨e, he⟩⟩
 intro fuel
 induction fuel with
 | zero =>
  intro L a w hf h
  have hr : Region.ready .any ops L = [] := by
   cases hr : Region.ready .any ops L with
   | nil => rfl
   | cons i r =>
    obtain ⟨o, ho, hL, _⟩ := mem_ready (ops := ops) (L := L) (i := i) (md := .any) (by rw [hr]; simp)
    have hlt : i < L.size := by have := (Array.getElem?_eq_some_iff.1 ho).1; have := h.len; omega
    have : L[i] ∈ L.toList.filter (! ·) := by
     rw [List.mem_filter]
     refine ⟨by simp, ?_⟩
     simp only [Array.getD_eq_getD_getElem?, Array.getElem?_eq_getElem hlt, Option.getD_some] at hL
     simp [hL]
    have := List.length_pos_of_mem this
    omega
  exact ⟨hr, fin L a w h hr⟩
 | succ fuel ih =>
  intro L a w hf h
  refine ⟨fin L a w h, fun i hi => ?_⟩
  obtain ⟨o, ho, hL, hedge⟩ := mem_ready hi
  have hlt : i < L.size := by have := (Array.getElem?_eq_some_iff.1 ho).1; have := h.len; omega
  have hLf : L.getD i false = false := by
   simp only [Array.getD_eq_getD_getElem?, Array.getElem?_eq_getElem hlt, Option.getD_some] at hL ⊢
   exact hL
  have hanc : ∀ j, ahead ops i j = true → L.getD j false = true := by
   intro j hj
   obtain ⟨e, he, hb, r⟩ := ahead_edge ho (og_edges hok ho) hj
   have hLe := hedge e he hb
   rcases r with r | r
   ·rw [← r]; exact hLe
   ·exact h.closed _ _ hLe r
  have hctx : OgCtx ops a0 w0 E Φ i a w := by
   refine ⟨h.defers, h.size, fun j o' hj ho' => h.slot j o' (hanc j hj) ho', fun t ht => h.out t fun j o' ho' hd => ?_, h.only.mono fun g _ ⟨e, _, he⟩ => ⟨e, he⟩, fun g hg he => h.only.block g hg fun ⟨e, hLe, hE⟩ => ?_⟩
   ·rcases ht j o' ho' hd with rfl | hj
    ·exact hLf
    ·cases hLj : L.getD j false with
     | false => rfl
     | true => rw [h.closed j i hLj hj] at hLf; cases hLf
   ·rcases he e hE with rfl | hj
    ·rw [hLe] at hLf; cases hLf
    ·rw [h.closed e i hLe hj] at hLf; cases hLf
  refine wpOp_mono ?_ (hop i o ho a w hctx)
  rintro a' w' ⟨v, rfl, honly, hΦ⟩
  have hget : ∀ j, (L.setIfInBounds i true).getD j false = true ↔ (j = i ∨ L.getD j false = true) := by
   intro j
   simp only [Array.getD_eq_getD_getElem?]
   by_cases hji : j = i
   ·subst hji
    simp [hlt]
   ·rw [Array.getElem?_setIfInBounds_ne (fun e => hji e.symm)]
    simp [hji]
  refine ih _ _ _ ?_ ⟨?_, ?_, ?_, ?_, ?_, ?_, ?_⟩
  ·have h1 : (L.setIfInBounds i true).toList = L.toList.set i true := by simp
   rw [h1]
   have h2 : L.toList = L.toList.take i ++ L[i] :: L.toList.drop (i + 1) := by
    rw [show L[i] = L.toList[i] from by simp, List.getElem_cons_drop]; simp
   have hLi : L[i] = false := by
    simp only [Array.getD_eq_getD_getElem?, Array.getElem?_eq_getElem hlt, Option.getD_some] at hLf
    exact hLf
   have h3 : L.toList.set i true = L.toList.take i ++ true :: L.toList.drop (i + 1) := List.set_eq_take_append_cons_drop .. |>.trans (by simp [hlt])
   rw [h3]
   rw [h2, hLi] at hf
   simp only [List.filter_append, List.filter_cons, List.length_append] at hf ⊢
   simp at hf ⊢
   omega
  ·cases hd : o.dst <;> simpa [Act.put, hd] using h.defers
  ·cases hd : o.dst <;> simpa [Act.put, hd] using h.size
  ·simpa using h.len
  ·intro k j hk hj
   rw [hget] at hk ⊢
   rcases hk with rfl | hk
   ·exact .inr (hanc j hj)
   ·exact .inr (h.closed k j hk hj)
  ·intro j o' hj ho'
   rw [hget] at hj
   by_cases hji : j = i
   ·subst hji
    obtain rfl : o = o' := by rw [ho] at ho'; exact Option.some.inj ho'
    rw [slotOf_put_same (a := a) (o := o) (v := v) fun d hd => by rw [h.size]; exact hsl j o d ho hd]
    cases hd : o.dst with
    | none => exact hnone j o v w' ho hd hΦ
    | some d => exact hΦ
   ·have hLj : L.getD j false = true := hj.resolve_left hji
    rw [slotOf_put_other fun d hd hd' => hji (og_dst hok ho' ho hd' hd)]
    refine hst i j _ w w' (h.only.mono fun g _ ⟨e, _, he⟩ => ⟨e, he⟩) honly ?_ hji (h.slot j o' hLj ho')
    cases ha : ahead ops j i with
    | false => rfl
    | true => rw [h.closed j i hLj ha] at hLf; cases hLf
  ·intro t ht
   have hne : ∀ d, o.dst = some d → d ≠ t := by
    intro d hd e
    subst e
    have := ht i o ho hd
    rw [(hget i).2 (.inl rfl)] at this
    cases this
   have : (a.put o.dst v).tmps[t]? = a.tmps[t]? := by
    cases hd : o.dst with
    | none => rfl
    | some d => simp [Act.put, Array.getElem?_setIfInBounds_ne (hne d hd)]
   rw [this]
   refine h.out t fun j o' ho' hd => ?_
   have := ht j o' ho' hd
   cases hLj : L.getD j false with
   | false => rfl
   | true => rw [(hget j).2 (.inr hLj)] at this; cases this
  ·refine (h.only.trans honly).mono fun g _ hg => ?_
   rcases hg with ⟨e, he, hE⟩ | hE
   ·exact ⟨e, (hget e).2 (.inr he), hE⟩
   ·exact ⟨i, (hget i).2 (.inl rfl), hE⟩
/-- THE RULE. -/
theorem wp_region_og {id : Nat} {a0 : Act} {w : World} (hm : P.follows .mixedOrders = true) (hok : ogOk ops = true) (E : Nat → Nat → Prop) (Φ : Nat → Value → World → Prop)
  (hsl : ∀ (i : Nat) (o : Oper) d, ops[i]? = some o → o.dst = some d → d < a0.tmps.size)
  (hnone : ∀ (i : Nat) (o : Oper) v w, ops[i]? = some o → o.dst = none → Φ i v w → Φ i undef w)
  (hst : ∀ i j v w1 w', Only (fun g => ∃ e, E e g) w.drew w1 → Only (E i) w1 w' → ahead ops j i = false → j ≠ i → Φ j v w1 → Φ j v w')
  (hop : ∀ (i : Nat) (o : Oper), ops[i]? = some o → ∀ a1 w1, OgCtx ops a0 w.drew E Φ i a1 w1 → wpOp P ops Q i (OgPost E Φ i o a1 w1) a1 w1)
  (hend : ∀ a1 w1, OgEnd ops a0 w.drew E Φ a1 w1 → Q .normal a1 w1) : (Code.region id ops true).wp P Q a0 w := by
 refine wp_region_any hm ?_
 refine og_any hok a0 w.drew E Φ hsl hnone hst hop hend ops.size _ a0 w.drew ?_ ?_
 ·exact Nat.le_trans (List.length_filter_le _ _) (by simp)
 ·have hf : ∀ j, (Array.replicate ops.size false).getD j false = false := by
   intro j
   simp only [Array.getD_eq_getD_getElem?, Array.getElem?_replicate]
   split <;> rfl
  refine ⟨rfl, rfl, by simp, ?_, ?_, fun _ _ => rfl, Only.refl _ _⟩
  ·intro i j h; rw [hf i] at h; cases h
  ·intro j o h; rw [hf j] at h; cases h
end
end Go.Proofs.YtflppablgdegcaaGreatDoor
/- The rule for a region that draws its order, with assertions of few kinds in a list, and the operations' obligations one behind the other. -/
namespace Go.Proofs.YtflppablgdegcaaGreatDoor
open Go.RowKit
/-- What is known of an operation's slot: a value; a value over a new block of known cells; something else; something of the world alone. -/
inductive Asr where
 | eq (v : Value)
 | pure (p : Value → Prop)
 | blki (n : Nat) (f : Nat → Nat → Value) (t : TypeId) (cs : Array Value)
 | blk (f : Nat → Value) (t : TypeId) (cs : Array Value)
 | any (p : Value → World → Prop)
 | wld (p : World → Prop)
def Asr.holds (B : Nat) : Asr → Value → World → Prop
 | .eq c, v, _ => v = c
 | .pure p, v, _ => p v
 | .blki n f t cs, v, w => ∃ g i, B ≤ g ∧ i < n ∧ v = f g i ∧ w.heap[g]? = some (.cells cs t (0, 0))
 | .blk f t cs, v, w => ∃ g, B ≤ g ∧ v = f g ∧ w.heap[g]? = some (.cells cs t (0, 0))
 | .any p, v, w => p v w
 | .wld p, _, w => p w
def asrAt (As : List Asr) (B : Nat) (j : Nat) (v : Value) (w : World) : Prop := match As[j]? with | some A => A.holds B v w | none => True
def Asr.isWld : Asr → Bool | .wld _ => true | _ => false
/-- Operations without a slot have assertions on the world alone; the slots lie in the frame. -/
def ogFit (ops : Array Oper) (As : List Asr) (n : Nat) : Bool :=
 ops.toList.zipIdx.all fun (o, i) => match o.dst with | some d => decide (d < n) | none => match As[i]? with | some A => A.isWld | none => true
section
variable {P : Program}
/-- The obligations, one an operation. -/
def OgOps (P : Program) (ops : Array Oper) (Q : Exit → Act → World → Prop) (a0 : Act) (w0 : World) (E : Nat → Nat → Prop) (Φ : Nat → Value → World → Prop) : Nat → List Oper → Prop
 | _, [] => True
 | i, o :: r => (∀ a w, OgCtx ops a0 w0 E Φ i a w → (match o.guard with | none => o.wp P a w (OgPost E Φ i o a w) Q | some _ => wpOp P ops Q i (OgPost E Φ i o a w) a w)) ∧ OgOps P ops Q a0 w0 E Φ (i + 1) r
theorem OgOps.get {ops : Array Oper} {Q : Exit → Act → World → Prop} {a0 : Act} {w0 : World} {E : Nat → Nat → Prop} {Φ : Nat → Value → World → Prop} :
  ∀ (l : List Oper) (k : Nat), OgOps P ops Q a0 w0 E Φ k l → ∀ (i : Nat) (o : Oper), l[i]? = some o →
   ∀ a w, OgCtx ops a0 w0 E Φ (k + i) a w → (match o.guard with | none => o.wp P a w (OgPost E Φ (k + i) o a w) Q | some _ => wpOp P ops Q (k + i) (OgPost E Φ (k + i) o a w) a w) := by
 intro l
 induction l with
 | nil => intro k _ i o h; simp at h
 | cons x l ih =>
  intro k h i o hi
  cases i with
  | zero =>
   simp only [List.getElem?_cons_zero, Option.some.injEq] at hi
   subst hi
   exact h.1
  | succ i =>
   rw [List.getElem?_cons_succ] at hi
   have := ih (k + 1) h.2 i o hi
   rw [show k + (i + 1) = k + 1 + i from by omega]
   exact this
theorem wp_region_ogA {id n : Nat} {l : List Oper} {Q : Exit → Act → World → Prop} {a0 : Act} {w : World} (As : List Asr) (E : Nat → Nat → Prop) (hm : P.follows .mixedOrders = true) (hok : ogOk l.toArray = true)
  (hfit : ogFit l.toArray As n = true) (hn : a0.tmps.size = n)
  (hE : ∀ e g, E e g → g < w.heap.size)
  (hany : ∀ i j p v w1 w', As[j]? = some (.any p) → Only (fun g => ∃ e, E e g) w.drew w1 → Only (E i) w1 w' → ahead l.toArray j i = false → j ≠ i → p v w1 → p v w')
  (hwld : ∀ i j p w1 w', As[j]? = some (.wld p) → Only (fun g => ∃ e, E e g) w.drew w1 → Only (E i) w1 w' → ahead l.toArray j i = false → j ≠ i → p w1 → p w')
  (hop : OgOps P l.toArray Q a0 w.drew E (asrAt As w.heap.size) 0 l)
  (hend : ∀ a1 w1, OgEnd l.toArray a0 w.drew E (asrAt As w.heap.size) a1 w1 → Q .normal a1 w1) : (Code.region id l.toArray true).wp P Q a0 w := by
 have hfit' : ∀ (i : Nat) (o : Oper), l.toArray[i]? = some o → match o.dst with | some d => d < n | none => ∀ A, As[i]? = some A → A.isWld = true := by
  intro i o hi
  unfold ogFit at hfit
  rw [List.all_eq_true] at hfit
  have := hfit (o, i) (by rw [List.mem_zipIdx_iff_getElem?]; simpa using hi)
  dsimp only at this
  cases hd : o.dst with
  | some d => rw [hd] at this; simpa using this
  | none =>
   rw [hd] at this
   dsimp only at this ⊢
   intro A hA
   rw [hA] at this
   exact this
 refine wp_region_og hm hok E (asrAt As w.heap.size) ?_ ?_ ?_ ?_ hend
 ·intro i o d hi hd
  have := hfit' i o hi
  rw [hd] at this
  rw [hn]
  exact this
 ·intro i o v w1 hi hd h
  have := hfit' i o hi
  rw [hd] at this
  unfold asrAt at h ⊢
  cases hA : As[i]? with
  | none => trivial
  | some A =>
   rw [hA] at h
   have hw := this A hA
   cases A <;> simp [Asr.isWld] at hw
   exact h
 ·intro i j v w1 w' h1 h2 ha hji h
  unfold asrAt at h ⊢
  cases hA : As[j]? with
  | none => trivial
  | some A =>
   rw [hA] at h
   cases A with
   | eq c => exact h
   | pure q => exact h
   | blki n f t cs =>
    obtain ⟨g, k, hg, hk, hv, hc⟩ := h
    refine ⟨g, k, hg, hk, hv, ?_⟩
    rw [h2.block g ?_ ?_]
    ·exact hc
    ·rcases Nat.lt_or_ge g w1.heap.size with hlt | hge
     ·exact hlt
     ·rw [Array.getElem?_eq_none hge] at hc; cases hc
    ·intro he
     have := hE i g he
     omega
   | blk f t cs =>
    obtain ⟨g, hg, hv, hc⟩ := h
    refine ⟨g, hg, hv, ?_⟩
    rw [h2.block g ?_ ?_]
    ·exact hc
    ·rcases Nat.lt_or_ge g w1.heap.size with hlt | hge
     ·exact hlt
     ·rw [Array.getElem?_eq_none hge] at hc; cases hc
    ·intro he
     have := hE i g he
     omega
   | any p => exact hany i j p v w1 w' hA h1 h2 ha hji h
   | wld p => exact hwld i j p w1 w' hA h1 h2 ha hji h
 ·intro i o hi a1 w1 c
  have hi' : l[i]? = some o := by simpa using hi
  have := hop.get l 0 i o hi' a1 w1 (by rw [Nat.zero_add]; exact c)
  rw [Nat.zero_add] at this
  cases hg : o.guard with
  | some gw => rw [hg] at this; exact this
  | none =>
   rw [hg] at this
   dsimp only at this
   unfold wpOp
   rw [hi]
   simp only [Region.wanted, hg, if_true]
   exact .inl this
/-- The assertions of other kinds are kept by what may come behind them. -/
def OgSt (ops : Array Oper) (B : Nat) (E : Nat → Nat → Prop) : Nat → List Asr → Prop
 | _, [] => True
 | j, .eq _ :: r => OgSt ops B E (j + 1) r
 | j, .pure _ :: r => OgSt ops B E (j + 1) r
 | j, .blki _ _ _ _ :: r => OgSt ops B E (j + 1) r
 | j, .blk _ _ _ :: r => OgSt ops B E (j + 1) r
 | j, .any p :: r => (∀ i, ahead ops j i = false → j ≠ i → ∀ v w w', B ≤ w.heap.size → Only (E i) w w' → p v w → p v w') ∧ OgSt ops B E (j + 1) r
 | j, .wld p :: r => (∀ i, ahead ops j i = false → j ≠ i → ∀ w w', B ≤ w.heap.size → Only (E i) w w' → p w → p w') ∧ OgSt ops B E (j + 1) r
def Asr.kept (ops : Array Oper) (B : Nat) (E : Nat → Nat → Prop) (j : Nat) : Asr → Prop
 | .any p => ∀ i, ahead ops j i = false → j ≠ i → ∀ v w w', B ≤ w.heap.size → Only (E i) w w' → p v w → p v w'
 | .wld p => ∀ i, ahead ops j i = false → j ≠ i → ∀ w w', B ≤ w.heap.size → Only (E i) w w' → p w → p w'
 | _ => True
theorem OgSt.get {ops : Array Oper} {B : Nat} {E : Nat → Nat → Prop} : ∀ {As : List Asr} {k : Nat} (_ : OgSt ops B E k As) {j : Nat} {A : Asr} (_ : As[j]? = some A), A.kept ops B E (k + j)
 | [], _, _, j, A, h => by simp at h
 | A :: r, k, hs, 0, A', h => by
  simp only [List.getElem?_cons_zero, Option.some.injEq] at h
  subst h
  cases A <;> first | trivial | exact hs.1
 | A :: r, k, hs, j + 1, A', h => by
  rw [List.getElem?_cons_succ] at h
  have hr : OgSt ops B E (k + 1) r := by cases A <;> first | exact hs | exact hs.2
  have := OgSt.get hr h
  rw [show k + (j + 1) = k + 1 + j from by omega]
  exact this
/-- The rule where some operations turn blocks. -/
theorem wp_region_ogE {id n : Nat} {l : List Oper} {Q : Exit → Act → World → Prop} {a0 : Act} {w : World} (As : List Asr) (E : Nat → Nat → Prop) (hm : P.follows .mixedOrders = true) (hok : ogOk l.toArray = true)
  (hfit : ogFit l.toArray As n = true) (hn : a0.tmps.size = n) (hE : ∀ e g, E e g → g < w.heap.size) (hst : OgSt l.toArray w.heap.size E 0 As)
  (hop : OgOps P l.toArray Q a0 w.drew E (asrAt As w.heap.size) 0 l)
  (hend : ∀ a1 w1, OgEnd l.toArray a0 w.drew E (asrAt As w.heap.size) a1 w1 → Only (fun g => ∃ e, E e g) w w1 → Q .normal a1 w1) : (Code.region id l.toArray true).wp P Q a0 w := by
 refine wp_region_ogA As E hm hok hfit hn hE ?_ ?_ hop ?_
 ·intro i j p v w1 w' hA h1 h2 ha hji h
  have := hst.get hA
  rw [Nat.zero_add] at this
  exact this i ha (fun e => hji e) v w1 w' h1.size h2 h
 ·intro i j p w1 w' hA h1 h2 ha hji h
  have := hst.get hA
  rw [Nat.zero_add] at this
  exact this i ha (fun e => hji e) w1 w' h1.size h2 h
 ·intro a1 w1 c
  have := c.only
  exact hend a1 w1 c ⟨this.os, this.tape, this.output, this.size, this.block⟩
/-- The rule where the operations only read, call what makes memory, and make memory. -/
theorem wp_region_og0 {id n : Nat} {l : List Oper} {Q : Exit → Act → World → Prop} {a0 : Act} {w : World} (As : List Asr) (hm : P.follows .mixedOrders = true) (hok : ogOk l.toArray = true)
  (hfit : ogFit l.toArray As n = true) (hn : a0.tmps.size = n) (hst : OgSt l.toArray w.heap.size (fun _ _ => False) 0 As)
  (hop : OgOps P l.toArray Q a0 w.drew (fun _ _ => False) (asrAt As w.heap.size) 0 l)
  (hend : ∀ a1 w1, OgEnd l.toArray a0 w.drew (fun _ _ => False) (asrAt As w.heap.size) a1 w1 → Below w.heap.size w w1 → Q .normal a1 w1) : (Code.region id l.toArray true).wp P Q a0 w :=
 wp_region_ogE As (fun _ _ => False) hm hok hfit hn (fun _ _ h => h.elim) hst hop fun a1 w1 c h =>
  hend a1 w1 c (h.below (Nat.le_refl _) fun _ _ ⟨_, h⟩ => h)
/-- An operation that gives a value and leaves the world. -/
theorem og_val {o : Oper} {a : Act} {w : World} {E : Nat → Nat → Prop} {Φ : Nat → Value → World → Prop} {i : Nat} {Q : Exit → Act → World → Prop} {v : Value} (h : (execOp a.eval o).run P w = .ok (.value v) w) (hΦ : Φ i v w) :
  o.wp P a w (OgPost E Φ i o a w) Q := by
 unfold Oper.wp
 rw [h]
 exact ⟨v, rfl, Only.refl _ _, hΦ⟩
theorem og_ext {o : Oper} {a : Act} {w w' : World} {E : Nat → Nat → Prop} {Φ : Nat → Value → World → Prop} {i : Nat} {Q : Exit → Act → World → Prop} {v : Value} (h : (execOp a.eval o).run P w = .ok (.value v) w') (hb : Below w.heap.size w w') (hΦ : Φ i v w') :
  o.wp P a w (OgPost E Φ i o a w) Q := by
 unfold Oper.wp
 rw [h]
 exact ⟨v, rfl, Only.of_below hb, hΦ⟩
theorem og_call {o : Oper} {a : Act} {w : World} {E : Nat → Nat → Prop} {Φ : Nat → Value → World → Prop} {i : Nat} {Q : Exit → Act → World → Prop} {f : FuncId} {args : Array Value} (h : (execOp a.eval o).run P w = .ok (.enter f args) w)
  (hc : Calls P f args w fun e w' => ∃ v, e = .returned v ∧ Below w.heap.size w w' ∧ Φ i v w') : o.wp P a w (OgPost E Φ i o a w) Q := by
 unfold Oper.wp
 rw [h]
 refine Calls.mono hc ?_
 rintro e w' ⟨v, rfl, hb, hΦ⟩
 exact ⟨v, rfl, Only.of_below hb, hΦ⟩
end
section
variable {ops : Array Oper} {a0 a : Act} {w0 w : World} {E : Nat → Nat → Prop} {Φ : Nat → Value → World → Prop} {i : Nat}
/-- Every operation that writes slot t is i, or stands behind i. -/
def ogOut (ops : Array Oper) (i : Nat) (t : Tmp) : Bool := ops.toList.zipIdx.all fun (o, j) => o.dst != some t || j == i || ahead ops j i
theorem OgCtx.outE (c : OgCtx ops a0 w0 E Φ i a w) {t : Tmp} {v : Value} (h : ogOut ops i t = true) (hv : a0.eval (.tmp t) = v) : a.eval (.tmp t) = v := by
 have := c.out t (by
  intro j o hj hd
  unfold ogOut at h
  rw [List.all_eq_true] at h
  have h1 := h (o, j) (by rw [List.mem_zipIdx_iff_getElem?]; simpa using hj)
  simp only [hd, bne_self_eq_false, Bool.false_or, Bool.or_eq_true, beq_iff_eq] at h1
  exact h1)
 rw [← hv]
 simp only [Act.eval, Array.getD_eq_getD_getElem?, this]
theorem OgCtx.heap (c : OgCtx ops a0 w0 E Φ i a w) {g : Nat} {o : Obj} (h : w0.heap[g]? = some o) (hE : ∀ e, E e g → e = i ∨ ahead ops e i = true) : w.heap[g]? = some o := by
 rw [c.block g ?_ hE]
 ·exact h
 ·rcases Nat.lt_or_ge g w0.heap.size with hlt | hge
  ·exact hlt
  ·rw [Array.getElem?_eq_none hge] at h; cases h
theorem OgCtx.cell (c : OgCtx ops a0 w0 E Φ i a w) {p : Addr} {v : Value} (h : w0.cell? p = some v) (hE : ∀ e, E e p.block → e = i ∨ ahead ops e i = true) : w.cell? p = some v := by
 rw [World.cell?_of_block (w := w0)]
 ·exact h
 ·exact c.block _ (World.block_lt_of_cell? w0 p h) hE
end
end Go.Proofs.YtflppablgdegcaaGreatDoor
/- The rule for a region that draws its order and ends in operations of one forced order: the head by assertions, the tail by the plain walk. -/
namespace Go.Proofs.YtflppablgdegcaaGreatDoor
open Go.RowKit
/-- From m on each operation stands behind all that are ahead of it in the text. -/
def ogTail (ops : Array Oper) (m : Nat) : Bool := (List.range ops.size).all fun i => decide (i < m) || (List.range i).all fun j => ahead ops i j
section
variable {P : Program} {ops : Array Oper} {Q : Exit → Act → World → Prop}
theorem ogTail_spec {m i j : Nat} (h : ogTail ops m = true) (hi : i < ops.size) (hm : m ≤ i) (hj : j < i) : ahead ops i j = true := by
 unfold ogTail at h
 rw [List.all_eq_true] at h
 have h1 := h i (List.mem_range.2 hi)
 simp only [Bool.or_eq_true, decide_eq_true_eq, List.all_eq_true] at h1
 rcases h1 with h1 | h1
 ·omega
 ·exact h1 j (List.mem_range.2 hj)
/-- Where a listed set is closed and i is ready, all that stands ahead of i is listed. -/
theorem ready_anc {L : Array Bool} {i : Nat} (hok : ogOk ops = true) (hcl : ∀ i j, L.getD i false = true → ahead ops i j = true → L.getD j false = true) (hi : i ∈ Region.ready .any ops L) : ∀ j, ahead ops i j = true → L.getD j false = true := by
 obtain ⟨o, ho, _, hedge⟩ := mem_ready hi
 intro j hj
 obtain ⟨e, he, hb, r⟩ := ahead_edge ho (og_edges hok ho) hj
 have hLe := hedge e he hb
 rcases r with r | r
 ·rw [← r]; exact hLe
 ·exact hcl _ _ hLe r
theorem getD_false {L : Array Bool} {i : Nat} (hi : i < L.size) : L.getD i true = false ↔ L.getD i false = false := by
 simp only [Array.getD_eq_getD_getElem?, Array.getElem?_eq_getElem hi, Option.getD_some]
theorem not_ready_nil {L : Array Bool} {m : Nat} (hok : ogOk ops = true) (hlen : L.size = ops.size) (hm : m < ops.size) (hL : L.getD m false = false) (hb : ∀ j, j < m → L.getD j false = true) : m ∈ Region.ready .any ops L := by
 unfold Region.ready
 rw [List.mem_filter]
 refine ⟨List.mem_range.2 hm, ?_⟩
 have ho : ops[m]? = some ops[m] := Array.getElem?_eq_getElem hm
 rw [ho, (getD_false (by omega)).2 hL]
 simp only [Bool.not_false, Bool.true_and, Option.map_some, Option.getD_some, Array.all_eq_true_iff_forall_mem]
 intro e he
 rw [hb e.on (og_edges hok ho e (by simpa using he))]
 simp
theorem set_getD {L : Array Bool} {i j : Nat} (hi : i < L.size) : (L.setIfInBounds i true).getD j false = true ↔ (j = i ∨ L.getD j false = true) := by
 simp only [Array.getD_eq_getD_getElem?]
 by_cases hji : j = i
 ·subst hji
  simp [hi]
 ·rw [Array.getElem?_setIfInBounds_ne (fun e => hji e.symm)]
  simp [hji]
theorem og_tail (hok : ogOk ops = true) {m0 : Nat} (ht : ogTail ops m0 = true) : ∀ (fuel m : Nat) (L : Array Bool) (a : Act) (w : World), m0 ≤ m → m ≤ ops.size → ops.size - m ≤ fuel → L.size = ops.size →
  (∀ j, L.getD j false = true ↔ j < m) → wpList P ops Q (ops.toList.drop m) a w → wpAny P .any ops Q fuel L a w := by
 intro fuel
 induction fuel with
 | zero =>
  intro m L a w h0 h1 h2 hlen hL h
  obtain rfl : m = ops.size := by omega
  rw [List.drop_eq_nil_of_le (by simp)] at h
  refine ⟨?_, h⟩
  cases hr : Region.ready .any ops L with
  | nil => rfl
  | cons i r =>
   obtain ⟨o, ho, hLi, _⟩ := mem_ready (ops := ops) (L := L) (i := i) (md := .any) (by rw [hr]; simp)
   have hlt := (Array.getElem?_eq_some_iff.1 ho).1
   have := (hL i).2 hlt
   rw [(getD_false (by omega)).1 hLi] at this
   cases this
 | succ fuel ih =>
  intro m L a w h0 h1 h2 hlen hL h
  have hcl : ∀ i j, L.getD i false = true → ahead ops i j = true → L.getD j false = true := by
   intro i j hi hj
   rw [hL] at hi ⊢
   have hlt : i < ops.size := by omega
   have ho : ops[i]? = some ops[i] := Array.getElem?_eq_getElem hlt
   have small : ∀ (i : Nat), i < ops.size → ∀ j, ahead ops i j = true → j < i := by
    intro i
    induction i using Nat.strongRecOn with
    | _ i ih2 =>
     intro hi j hj
     have ho : ops[i]? = some ops[i] := Array.getElem?_eq_getElem hi
     obtain ⟨e, he, _, r⟩ := ahead_edge ho (og_edges hok ho) hj
     have hlt := og_edges hok ho e he
     rcases r with r | r
     ·omega
     ·have := ih2 e.on hlt (by omega) j r; omega
   have := small i hlt j hj
   omega
  by_cases hm : m < ops.size
  ·have hmem := not_ready_nil hok hlen hm (by cases hx : L.getD m false with | false => rfl | true => exact absurd ((hL m).1 hx) (by omega)) (fun j hj => (hL j).2 hj)
   refine ⟨(fun hr => by rw [hr] at hmem; cases hmem), fun i hi => ?_⟩
   obtain ⟨o, ho, hLi, _⟩ := mem_ready hi
   have hlt := (Array.getElem?_eq_some_iff.1 ho).1
   have hge : m ≤ i := by
    rcases Nat.lt_or_ge i m with h3 | h3
    ·have := (hL i).2 h3
     rw [(getD_false (by omega)).1 hLi] at this
     cases this
    ·exact h3
   obtain rfl : i = m := by
    rcases Nat.eq_or_lt_of_le hge with h3 | h3
    ·exact h3.symm
    ·have := ready_anc hok hcl hi m (ogTail_spec ht hlt (by omega) h3)
     rw [hL] at this
     omega
   have hd : ops.toList.drop i = o :: ops.toList.drop (i + 1) := by
    have h4 : ops.toList[i]? = some o := by simpa using ho
    rw [List.getElem?_eq_some_iff] at h4
    obtain ⟨h5, h6⟩ := h4
    rw [← h6, List.drop_eq_getElem_cons]
   rw [hd] at h
   have hop : wpOp P ops Q i (wpList P ops Q (ops.toList.drop (i + 1))) a w := by
    unfold wpOp
    rw [ho]
    unfold wpList at h
    exact h
   refine wpOp_mono ?_ hop
   intro a' w' h'
   refine ih (i + 1) _ a' w' (by omega) (by omega) (by omega) (by simpa using hlen) ?_ h'
   intro j
   rw [set_getD (by omega), hL]
   omega
  ·obtain rfl : m = ops.size := by omega
   rw [List.drop_eq_nil_of_le (by simp)] at h
   have hr : Region.ready .any ops L = [] := by
    cases hr : Region.ready .any ops L with
    | nil => rfl
    | cons i r =>
     obtain ⟨o, ho, hLi, _⟩ := mem_ready (ops := ops) (L := L) (i := i) (md := .any) (by rw [hr]; simp)
     have hlt := (Array.getElem?_eq_some_iff.1 ho).1
     have := (hL i).2 hlt
     rw [(getD_false (by omega)).1 hLi] at this
     cases this
   exact ⟨fun _ => h, fun i hi => by rw [hr] at hi; cases hi⟩
/-- What is known behind the head. -/
structure OgHead (ops : Array Oper) (m : Nat) (a0 : Act) (w0 : World) (E : Nat → Nat → Prop) (Φ : Nat → Value → World → Prop) (a : Act) (w : World) : Prop where
 defers : a.defers = a0.defers
 size : a.tmps.size = a0.tmps.size
 slot : ∀ (j : Nat) (o : Oper), j < m → ops[j]? = some o → Φ j (slotOf a o) w
 out : ∀ t, (∀ (j : Nat) (o : Oper), j < m → ops[j]? = some o → o.dst ≠ some t) → a.tmps[t]? = a0.tmps[t]?
 only : Only (fun g => ∃ e, E e g) w0 w
theorem og_head (hok : ogOk ops = true) {m : Nat} (ht : ogTail ops m = true) (hmn : m ≤ ops.size) (a0 : Act) (w0 : World) (E : Nat → Nat → Prop) (Φ : Nat → Value → World → Prop)
  (hsl : ∀ (i : Nat) (o : Oper) d, ops[i]? = some o → o.dst = some d → d < a0.tmps.size)
  (hnone : ∀ (i : Nat) (o : Oper) v w, ops[i]? = some o → o.dst = none → Φ i v w → Φ i undef w)
  (hst : ∀ i j v w w', Only (fun g => ∃ e, E e g) w0 w → Only (E i) w w' → ahead ops j i = false → j ≠ i → Φ j v w → Φ j v w')
  (hop : ∀ (i : Nat) (o : Oper), i < m → ops[i]? = some o → ∀ a w, OgCtx ops a0 w0 E Φ i a w → wpOp P ops Q i (OgPost E Φ i o a w) a w)
  (hend : ∀ a w, OgHead ops m a0 w0 E Φ a w → wpList P ops Q (ops.toList.drop m) a w) :
  ∀ (fuel : Nat) (L : Array Bool) (a : Act) (w : World), (L.toList.filter (! ·)).length ≤ fuel → ops.size - m ≤ fuel → (∀ j, m ≤ j → L.getD j false = false) → OgInv ops a0 w0 E Φ L a w → wpAny P .any ops Q fuel L a w := by
 have fin : ∀ (fuel : Nat) (L : Array Bool) (a : Act) (w : World), ops.size - m ≤ fuel → (∀ j, m ≤ j → L.getD j false = false) → (∀ j, j < m → L.getD j false = true) → OgInv ops a0 w0 E Φ L a w → wpAny P .any ops Q fuel L a w := by
  intro fuel L a w hf hT hall h
  refine og_tail hok ht fuel m L a w (Nat.le_refl _) hmn hf h.len (fun j => ⟨fun hj => ?_, hall j⟩) (hend a w ⟨h.defers, h.size, fun j o hj hjo => h.slot j o (hall j hj) hjo, fun t ht' => h.out t fun j o hj hd => ?_, h.only.mono fun g _ ⟨e, _, he⟩ => ⟨e, he⟩⟩)
  ·rcases Nat.lt_or_ge j m with h1 | h1
   ·exact h1
   ·rw [hT j h1] at hj; cases hj
  ·rcases Nat.lt_or_ge j m with h1 | h1
   ·exact absurd hd (ht' j o h1 hj)
   ·exact hT j h1
 intro fuel
 induction fuel with
 | zero =>
  intro L a w hf hf2 hT h
  refine fin 0 L a w hf2 hT (fun j hj => ?_) h
  cases hx : L.getD j false with
  | true => rfl
  | false =>
   have hlt : j < L.size := by have := h.len; omega
   have : L[j] ∈ L.toList.filter (! ·) := by
    rw [List.mem_filter]
    refine ⟨by simp, ?_⟩
    simp only [Array.getD_eq_getD_getElem?, Array.getElem?_eq_getElem hlt, Option.getD_some] at hx
    simp [hx]
   have := List.length_pos_of_mem this
   omega
 | succ fuel ih =>
  intro L a w hf hf2 hT h
  by_cases hall : ∀ j, j < m → L.getD j false = true
  ·exact fin (fuel + 1) L a w hf2 hT hall h
  ·have hex : ∃ j, j < m ∧ L.getD j false = false := by
    apply Classical.byContradiction
    intro hno
    apply hall
    intro j hj
    cases hx : L.getD j false with
    | true => rfl
    | false => exact absurd ⟨j, hj, hx⟩ hno
   obtain ⟨j0, hj0, hLj0⟩ := hex
   have hne : Region.ready .any ops L ≠ [] := by
    intro hr
    have := ready_nil hok h.len hr j0 (by omega)
    rw [hLj0] at this
    cases this
   refine ⟨fun hr => absurd hr hne, fun i hi => ?_⟩
   obtain ⟨o, ho, hL, hedge⟩ := mem_ready hi
   have hlt : i < L.size := by have := (Array.getElem?_eq_some_iff.1 ho).1; have := h.len; omega
   have hLf : L.getD i false = false := (getD_false hlt).1 hL
   have hanc := ready_anc hok h.closed hi
   have him : i < m := by
    rcases Nat.lt_or_ge i m with h1 | h1
    ·exact h1
    ·have := hanc j0 (ogTail_spec ht (by have := h.len; omega) h1 (by omega))
     rw [hLj0] at this
     cases this
   have hctx : OgCtx ops a0 w0 E Φ i a w := by
    refine ⟨h.defers, h.size, fun j o' hj ho' => h.slot j o' (hanc j hj) ho', fun t ht' => h.out t fun j o' ho' hd => ?_, h.only.mono fun g _ ⟨e, _, he⟩ => ⟨e, he⟩, fun g hg he => h.only.block g hg fun ⟨e, hLe, hE⟩ => ?_⟩
    ·rcases ht' j o' ho' hd with rfl | hj
     ·exact hLf
     ·cases hLj : L.getD j false with
      | false => rfl
      | true => rw [h.closed j i hLj hj] at hLf; cases hLf
    ·rcases he e hE with rfl | hj
     ·rw [hLe] at hLf; cases hLf
     ·rw [h.closed e i hLe hj] at hLf; cases hLf
   refine wpOp_mono ?_ (hop i o him ho a w hctx)
   rintro a' w' ⟨v, rfl, honly, hΦ⟩
   have hget := fun j => set_getD (L := L) (i := i) (j := j) hlt
   refine ih _ _ _ ?_ ?_ ?_ ⟨?_, ?_, ?_, ?_, ?_, ?_, ?_⟩
   ·have h1 : (L.setIfInBounds i true).toList = L.toList.set i true := by simp
    rw [h1]
    have h2 : L.toList = L.toList.take i ++ L[i] :: L.toList.drop (i + 1) := by
     rw [show L[i] = L.toList[i] from by simp, List.getElem_cons_drop]; simp
    have hLi : L[i] = false := by
     simp only [Array.getD_eq_getD_getElem?, Array.getElem?_eq_getElem hlt, Option.getD_some] at hLf
     exact hLf
    have h3 : L.toList.set i true = L.toList.take i ++ true :: L.toList.drop (i + 1) := List.set_eq_take_append_cons_drop .. |>.trans (by simp [hlt])
    rw [h3]
    rw [h2, hLi] at hf
    simp only [List.filter_append, List.filter_cons, List.length_append] at hf ⊢
    simp at hf ⊢
    omega
   ·have hc : ∀ (n : Nat) (l : List Bool), (∀ j, n ≤ j → j < l.length → l[j]? = some false) → l.length - n ≤ ((l.drop n).filter (! ·)).length := by
     intro n l hall'
     have : (l.drop n).filter (! ·) = l.drop n := by
      rw [List.filter_eq_self]
      intro x hx
      obtain ⟨q, hq⟩ := List.mem_iff_getElem?.1 hx
      rw [List.getElem?_drop] at hq
      have hql : n + q < l.length := (List.getElem?_eq_some_iff.1 hq).1
      rw [hall' (n + q) (by omega) hql] at hq
      simp at hq
      simp [← hq]
     rw [this]
     simp
    have h5 := hc m L.toList (fun j hj hjl => by
     have hjl' : j < L.size := by simpa using hjl
     have := hT j hj
     simp only [Array.getD_eq_getD_getElem?, Array.getElem?_eq_getElem hjl', Option.getD_some] at this
     rw [Array.getElem?_toList, Array.getElem?_eq_getElem hjl', this])
    have h6 : (L.toList.filter (! ·)).length = ((L.toList.take m).filter (! ·)).length + ((L.toList.drop m).filter (! ·)).length := by
     rw [← List.length_append, ← List.filter_append, List.take_append_drop]
    have h7 : 1 ≤ ((L.toList.take m).filter (! ·)).length := by
     apply List.length_pos_of_mem (a := false)
     rw [List.mem_filter]
     refine ⟨?_, rfl⟩
     rw [List.mem_iff_getElem?]
     refine ⟨i, ?_⟩
     rw [List.getElem?_take_of_lt him, Array.getElem?_toList, Array.getElem?_eq_getElem hlt]
     simp only [Array.getD_eq_getD_getElem?, Array.getElem?_eq_getElem hlt, Option.getD_some] at hLf
     rw [hLf]
    have h8 : L.toList.length = ops.size := by rw [Array.length_toList]; exact h.len
    omega
   ·intro j hj
    cases hx : (L.setIfInBounds i true).getD j false with
    | false => rfl
    | true =>
     rcases (hget j).1 hx with rfl | h1
     ·omega
     ·rw [hT j hj] at h1; cases h1
   ·cases hd : o.dst <;> simpa [Act.put, hd] using h.defers
   ·cases hd : o.dst <;> simpa [Act.put, hd] using h.size
   ·simpa using h.len
   ·intro k j hk hj
    rw [hget] at hk ⊢
    rcases hk with rfl | hk
    ·exact .inr (hanc j hj)
    ·exact .inr (h.closed k j hk hj)
   ·intro j o' hj ho'
    rw [hget] at hj
    by_cases hji : j = i
    ·subst hji
     obtain rfl : o = o' := by rw [ho] at ho'; exact Option.some.inj ho'
     rw [slotOf_put_same (a := a) (o := o) (v := v) fun d hd => by rw [h.size]; exact hsl j o d ho hd]
     cases hd : o.dst with
     | none => exact hnone j o v w' ho hd hΦ
     | some d => exact hΦ
    ·have hLj : L.getD j false = true := hj.resolve_left hji
     rw [slotOf_put_other fun d hd hd' => hji (og_dst hok ho' ho hd' hd)]
     refine hst i j _ w w' (h.only.mono fun g _ ⟨e, _, he⟩ => ⟨e, he⟩) honly ?_ hji (h.slot j o' hLj ho')
     cases ha : ahead ops j i with
     | false => rfl
     | true => rw [h.closed j i hLj ha] at hLf; cases hLf
   ·intro t ht'
    have hne' : ∀ d, o.dst = some d → d ≠ t := by
     intro d hd e
     subst e
     have := ht' i o ho hd
     rw [(hget i).2 (.inl rfl)] at this
     cases this
    have : (a.put o.dst v).tmps[t]? = a.tmps[t]? := by
     cases hd : o.dst with
     | none => rfl
     | some d => simp [Act.put, Array.getElem?_setIfInBounds_ne (hne' d hd)]
    rw [this]
    refine h.out t fun j o' ho' hd => ?_
    have := ht' j o' ho' hd
    cases hLj : L.getD j false with
    | false => rfl
    | true => rw [(hget j).2 (.inr hLj)] at this; cases this
   ·refine (h.only.trans honly).mono fun g _ hg => ?_
    rcases hg with ⟨e, he, hE⟩ | hE
    ·exact ⟨e, (hget e).2 (.inr he), hE⟩
    ·exact ⟨i, (hget i).2 (.inl rfl), hE⟩
/-- THE RULE: the head's operations only read, call what makes memory, make memory; the tail is walked as it stands. -/
theorem wp_region_og1 {id n : Nat} {l : List Oper} {a0 : Act} {w : World} (m : Nat) (As : List Asr) (hm : P.follows .mixedOrders = true) (hok : ogOk l.toArray = true) (ht : ogTail l.toArray m = true) (hml : m ≤ l.length)
  (hfit : ogFit l.toArray As n = true) (hn : a0.tmps.size = n) (hst : OgSt l.toArray w.heap.size (fun _ _ => False) 0 As)
  (hop : OgOps P l.toArray Q a0 w.drew (fun _ _ => False) (asrAt As w.heap.size) 0 (l.take m))
  (hend : ∀ a1 w1, OgHead l.toArray m a0 w.drew (fun _ _ => False) (asrAt As w.heap.size) a1 w1 → Below w.heap.size w w1 → wpList P l.toArray Q (l.drop m) a1 w1) : (Code.region id l.toArray true).wp P Q a0 w := by
 have hfit' : ∀ (i : Nat) (o : Oper), l.toArray[i]? = some o → match o.dst with | some d => d < n | none => ∀ A, As[i]? = some A → A.isWld = true := by
  intro i o hi
  unfold ogFit at hfit
  rw [List.all_eq_true] at hfit
  have := hfit (o, i) (by rw [List.mem_zipIdx_iff_getElem?]; simpa using hi)
  dsimp only at this
  cases hd : o.dst with
  | some d => rw [hd] at this; simpa using this
  | none =>
   rw [hd] at this
   dsimp only at this ⊢
   intro A hA
   rw [hA] at this
   exact this
 have hbel : ∀ {x y : World}, Only (fun _ => False) x y → Below x.heap.size x y := fun h => h.below (Nat.le_refl _) fun g _ hf => hf
 refine wp_region_any hm ?_
 refine og_head hok ht (by simpa using hml) a0 w.drew (fun _ _ => False) (asrAt As w.heap.size) ?_ ?_ ?_ ?_ ?_ l.toArray.size _ a0 w.drew ?_ ?_ ?_ ?_
 ·intro i o d hi hd
  have := hfit' i o hi
  rw [hd] at this
  rw [hn]
  exact this
 ·intro i o v w1 hi hd h
  have := hfit' i o hi
  rw [hd] at this
  unfold asrAt at h ⊢
  cases hA : As[i]? with
  | none => trivial
  | some A =>
   rw [hA] at h
   have hw := this A hA
   cases A <;> simp [Asr.isWld] at hw
   exact h
 ·intro i j v w1 w' h1 h2 ha hji h
  have h3 := hbel h2
  unfold asrAt at h ⊢
  cases hA : As[j]? with
  | none => trivial
  | some A =>
   rw [hA] at h
   have hk := hst.get hA
   rw [Nat.zero_add] at hk
   cases A with
   | eq c => exact h
   | pure q => exact h
   | blki n f t cs =>
    obtain ⟨g, k, hg, hk, hv, hc⟩ := h
    exact ⟨g, k, hg, hk, hv, by rw [h3.block g (Array.getElem?_eq_some_iff.1 hc).1]; exact hc⟩
   | blk f t cs =>
    obtain ⟨g, hg, hv, hc⟩ := h
    exact ⟨g, hg, hv, by rw [h3.block g (Array.getElem?_eq_some_iff.1 hc).1]; exact hc⟩
   | any p => exact hk i ha (fun e => hji e) v w1 w' h1.size h2 h
   | wld p => exact hk i ha (fun e => hji e) w1 w' h1.size h2 h
 ·intro i o him hi a1 w1 c
  have hi' : (l.take m)[i]? = some o := by rw [List.getElem?_take_of_lt him]; simpa using hi
  have := hop.get (l.take m) 0 i o hi' a1 w1 (by rw [Nat.zero_add]; exact c)
  rw [Nat.zero_add] at this
  cases hg : o.guard with
  | some gw => rw [hg] at this; exact this
  | none =>
   rw [hg] at this
   dsimp only at this
   unfold wpOp
   rw [hi]
   simp only [Region.wanted, hg, if_true]
   exact .inl this
 ·intro a1 w1 c
  have h0 := c.only.below (B := w.drew.heap.size) (Nat.le_refl _) fun g _ ⟨_, h⟩ => h
  have := hend a1 w1 c ⟨h0.os, h0.tape, h0.output, h0.size, h0.block⟩
  simpa using this
 ·exact Nat.le_trans (List.length_filter_le _ _) (by simp)
 ·omega
 ·intro j _
  simp only [Array.getD_eq_getD_getElem?, Array.getElem?_replicate]
  split <;> rfl
 ·have hf : ∀ j, (Array.replicate l.toArray.size false).getD j false = false := by
   intro j
   simp only [Array.getD_eq_getD_getElem?, Array.getElem?_replicate]
   split <;> rfl
  refine ⟨rfl, rfl, by simp, ?_, ?_, fun _ _ => rfl, Only.refl _ _⟩
  ·intro i j h; rw [hf i] at h; cases h
  ·intro j o h; rw [hf j] at h; cases h
end
end Go.Proofs.YtflppablgdegcaaGreatDoor
/- Plain words of the proofs: texts by numbers. -/
namespace Go.Proofs.YtflppablgdegcaaGreatDoor
end Go.Proofs.YtflppablgdegcaaGreatDoor
/- Arms for the walk: a string sum, a rune as text, an index and a part of a string; over any program. Conditions: the sum of the lengths is an int. -/
namespace Go.Proofs.YtflppablgdegcaaGreatDoor
open Go.RowKit
/-- The text of a rune. -/
@[irreducible] def chr (n : Int) : ByteArray := Utf8.encode n
theorem chr_eq (n : Int) : chr n = Utf8.encode n := by unfold chr; rfl
theorem chr_ascii (c : Nat) (h : c < 128) : chr (c : Int) = ⟨#[UInt8.ofNat c]⟩ := by
 have v : Utf8.valid (c : Int) = true := by simp [Utf8.valid]; omega
 rw [chr_eq]
 apply ByteArray.ext
 simp [Utf8.encode, v, h]
section
variable {P : Program} {ops : Array Oper} {rest : List Oper} {dst : Option Tmp} {ty : TypeId} {pos : String} {after : Array Edge} {a : Act} {w : World} {Q : Exit → Act → World → Prop}
end
end Go.Proofs.YtflppablgdegcaaGreatDoor
namespace Go.Proofs.YtflppablgdegcaaGreatDoor
open Go.RowKit
end Go.Proofs.YtflppablgdegcaaGreatDoor
/- The walks of spec.seconds, spec.Line, laws.wordOf, laws.uriOf, spec.Variant.Resolution. -/
namespace Go.Proofs.YtflppablgdegcaaGreatDoor
open Go.RowKit
/-- What a word of laws.wordOf is made of. -/
def wordByte (b : UInt8) : Bool := [97, 98, 99, 100, 101, 102, 103, 88, 89, 90, 48, 49, 56, 57, 46, 95, 45, 47, 32, 58, 119].contains b
/-- A text of laws.wordOf: of at most k signs out of its letters, its ends no blanks. -/
structure Word (k : Nat) (s : ByteArray) : Prop where
 size : s.size ≤ k
 bytes : ∀ b ∈ s.data.toList, wordByte b = true
 first : ∀ b, s.data.toList.head? = some b → b ≠ 32
 last : ∀ b, s.data.toList.getLast? = some b → b ≠ 32
end Go.Proofs.YtflppablgdegcaaGreatDoor
/- The walks of laws.uriOf and spec.Variant.Resolution; what a variant is. -/
namespace Go.Proofs.YtflppablgdegcaaGreatDoor
open Go.RowKit
/-- A URI of laws.uriOf. -/
def IsUri (u : ByteArray) : Prop := ∃ s, Word 20 s ∧ u = ⟨#[117]⟩ ++ s ++ ⟨#[46, 116, 115]⟩
theorem IsUri.size {u : ByteArray} (h : IsUri u) : u.size ≤ 24 := by
 obtain ⟨s, hs, rfl⟩ := h
 have := hs.size
 simp only [ByteArray.size_append', ByteArray.size_mk', List.size_toArray, List.length_cons, List.length_nil]; omega
/-- A variant of a master playlist, as the reference has it. -/
structure Vt where
 uri : ByteArray
 program : Nat
 bandwidth : Nat
 average : Nat
 codecs : ByteArray
 width : Nat
 height : Nat
 audio : ByteArray
 video : ByteArray
 subtitles : ByteArray
 captions : ByteArray
 name : ByteArray
 rate : Nat
def Vt.cells (v : Vt) : Array Value := #[.string v.uri, .int .u32 v.program, .int .u32 v.bandwidth, .int .u32 v.average, .string v.codecs, .int .u32 v.width, .int .u32 v.height, .string v.audio, .string v.video, .string v.subtitles, .string v.captions, .string v.name, .int .i64 v.rate]
end Go.Proofs.YtflppablgdegcaaGreatDoor
/- Slices that the call itself makes: what they hold; an append of one element (its one-element slice is laid first). Conditions: the elements' number is below a million. -/
namespace Go.Proofs.YtflppablgdegcaaGreatDoor
open Go.RowKit
/-- An element's cells, one behind the other. -/
def flat {α : Type} (f : α → List Value) (L : List α) : List Value := (L.map f).flatten
theorem flat_length {α : Type} {f : α → List Value} {k : Nat} (hf : ∀ x, (f x).length = k) (L : List α) : (flat f L).length = L.length * k := by
 unfold flat
 induction L with
 | nil => simp
 | cons x L ih => simp only [List.map_cons, List.flatten_cons, List.length_append, hf, ih, List.length_cons]; rw [Nat.add_mul]; omega
/-- A slice of the call's own, from block B on, that holds these elements. -/
def Own {α : Type} (f : α → List Value) (e : TypeId) (k : Nat) (w : World) (B : Nat) (v : Value) (L : List α) : Prop := w.ownsRow B e k v L.length (flat f L)
section
variable {α : Type} {f : α → List Value} {e : TypeId} {k : Nat} {w w' : World} {B : Nat} {v : Value} {L : List α}
theorem Own.nil (f : α → List Value) (e : TypeId) (k : Nat) (w : World) (B : Nat) : Own f e k w B (.slice none 0 0) ([] : List α) := ⟨by simp [flat], .inl ⟨rfl, rfl⟩⟩
theorem Own.below (h : Own f e k w B v L) (hb : Below w.heap.size w w') : Own f e k w' B v L :=
 h.kept (row := none) ⟨hb.os, hb.tape, hb.output, hb.size, fun i hi _ => hb.block i hi⟩ (by cases v.ownBlock <;> simp)
theorem Own.block_lt (h : Own f e k w B v L) : ∀ g, v.ownBlock = some g → B ≤ g ∧ g < w.heap.size := by
 intro g hg
 rcases h.2 with ⟨rfl, _⟩ | ⟨g', cap, cur, rfl, hb, hh, _⟩
 ·simp [Value.ownBlock] at hg
 ·have : g' = g := by simpa [Value.ownBlock] using hg
  subst this
  exact ⟨hb, (Array.getElem?_eq_some_iff.1 hh).1⟩
theorem Own.only {M : Nat → Prop} (h : Own f e k w B v L) (ho : Only M w w') (hm : ∀ g, v.ownBlock = some g → ¬ M g) : Own f e k w' B v L := by
 refine ⟨h.1, ?_⟩
 rcases h.2 with h2 | ⟨g, cap, cur, rfl, hb, hh, r⟩
 ·exact .inl h2
 ·exact .inr ⟨g, cap, cur, rfl, hb, (ho.block g (Array.getElem?_eq_some_iff.1 hh).1 (hm g rfl)).trans hh, r⟩
theorem Own.form (h : Own f e k w B v L) (hL : L ≠ []) : ∃ g cap cur, v = .slice (some ⟨g, 0, none⟩) L.length cap ∧ B ≤ g ∧ w.heap[g]? = some (.cells cur e (0, 0)) ∧ L.length ≤ cap ∧ cur.toList.take (L.length * k) = flat f L := by
 rcases h.2 with ⟨_, h0⟩ | ⟨g, cap, cur, hv, hb, hh, h1, h2, h3, h4⟩
 ·exact absurd (List.eq_nil_of_length_eq_zero h0) hL
 ·exact ⟨g, cap, cur, hv, hb, hh, h1, h4⟩
end
section
variable {P : Program} {ops : Array Oper} {rest : List Oper} {a : Act} {w : World} {Q : Exit → Act → World → Prop}
end
end Go.Proofs.YtflppablgdegcaaGreatDoor
/- The walks of laws.masterOf's two closures. Conditions: what the numbers' slice holds are numbers of 32 bits. -/
namespace Go.Proofs.YtflppablgdegcaaGreatDoor
open Go.RowKit
/-- A slice of numbers of 32 bits that is there. -/
def U32s (w : World) (A : Option Addr) (len : Nat) : Prop := ∀ j, j < len → ∃ (a : Addr) (x : Nat), A = some a ∧ w.cell? (a.add j) = some (.int .u32 x) ∧ x < 4294967296
theorem U32s.below {w w' : World} {A : Option Addr} {len : Nat} (h : U32s w A len) (hb : Below w.heap.size w w') : U32s w' A len := fun j hj => by
 obtain ⟨a, x, ha, hc, hx⟩ := h j hj
 refine ⟨a, x, ha, ?_, hx⟩
 rw [World.cell?_of_block (w := w)]
 ·exact hc
 ·exact hb.block _ (World.block_lt_of_cell? w _ hc)
end Go.Proofs.YtflppablgdegcaaGreatDoor
