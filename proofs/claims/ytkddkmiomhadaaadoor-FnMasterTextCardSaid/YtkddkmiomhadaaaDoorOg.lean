/- A region that draws its order, walked operation by operation: each operation owes an assertion on its slot that later operations keep; over any program. Conditions: the region's edges lead back, its slots are different. -/
import Derived.WalkKit
import Derived.Orders
import Derived.WalkSpells
import Derived.WalkLawsBesides
namespace Go.Proofs.YtkddkmiomhadaaaDoor
open Go.RowKit
/-- Only blocks of which M holds may have turned; new ones may have come. -/
structure Only (M : Nat → Prop) (w w' : World) : Prop where
  os : w'.os = w.os
  tape : w'.tape = w.tape
  output : w'.output = w.output
  size : w.heap.size ≤ w'.heap.size
  block : ∀ g, g < w.heap.size → ¬ M g → w'.heap[g]? = w.heap[g]?
theorem Only.refl (M : Nat → Prop) (w : World) : Only M w w := ⟨rfl, rfl, rfl, Nat.le_refl _, fun _ _ _ => rfl⟩
theorem Only.trans {M M' : Nat → Prop} {a b c : World} (h : Only M a b) (k : Only M' b c) : Only (fun g => M g ∨ M' g) a c :=
  ⟨k.os.trans h.os, k.tape.trans h.tape, k.output.trans h.output, Nat.le_trans h.size k.size,
   fun g hg hm => (k.block g (Nat.lt_of_lt_of_le hg h.size) fun x => hm (.inr x)).trans (h.block g hg fun x => hm (.inl x))⟩
theorem Only.mono {M M' : Nat → Prop} {a b : World} (h : Only M a b) (k : ∀ g, g < a.heap.size → M g → M' g) : Only M' a b := ⟨h.os, h.tape, h.output, h.size, fun g hg hm => h.block g hg fun x => hm (k g hg x)⟩
theorem Only.of_below {M : Nat → Prop} {w w' : World} (h : Below w.heap.size w w') : Only M w w' := ⟨h.os, h.tape, h.output, h.size, fun g hg _ => h.block g hg⟩
theorem Only.of_grown {M : Nat → Prop} {w w' : World} {row : Option Nat} (h : w.grownBy w' row) (hr : ∀ g, row = some g → M g) : Only M w w' :=
  ⟨h.os, h.tape, h.output, h.size, fun g hg hm => h.block g hg fun e => hm (hr g e.symm)⟩
theorem Only.below {M : Nat → Prop} {w w' : World} {B : Nat} (h : Only M w w') (hB : B ≤ w.heap.size) (hm : ∀ g, g < B → ¬ M g) : Below B w w' :=
  ⟨h.os, h.tape, h.output, h.size, fun g hg => h.block g (by omega) (hm g hg)⟩
theorem Only.drew {M : Nat → Prop} {a w : World} (h : Only M a w) : Only M a w.drew := ⟨h.os, h.tape, h.output, h.size, h.block⟩

/-- The slot of an operation. -/
def slotOf (a : Act) (o : Oper) : Value := match o.dst with | some d => a.tmps.getD d undef | none => undef
/-- Does operation j stand somewhere ahead of operation i? -/
def ahead (ops : Array Oper) (i j : Nat) : Bool := ((Region.before ops).getD i 0).testBit j
/-- The edges lead back; no two operations write one slot. -/
def ogOk (ops : Array Oper) : Bool :=
  (ops.toList.zipIdx.all fun (o, i) => o.after.toList.all fun e => decide (e.on < i)) &&
  (ops.toList.zipIdx.all fun (o, i) => ops.toList.zipIdx.all fun (o', j) => i == j || o.dst == none || o.dst != o'.dst)

theorem before_acc (l : List Oper) : ∀ (acc : Array Nat), (l.foldl (fun acc o => acc.push (o.after.foldl (fun s e => if Region.binds .any e then s ||| 2 ^ e.on ||| acc.getD e.on 0 else s) 0)) acc).size = acc.size + l.length := by
  induction l with
  | nil => intro acc; rfl
  | cons o l ih => intro acc; rw [List.foldl_cons, ih]; simp; omega
def beforeStep (acc : Array Nat) (o : Oper) : Array Nat := acc.push (o.after.foldl (fun s e => if Region.binds .any e then s ||| 2 ^ e.on ||| acc.getD e.on 0 else s) 0)
theorem before_keeps (l : List Oper) : ∀ (acc : Array Nat) (i : Nat), i < acc.size → (l.foldl beforeStep acc)[i]? = acc[i]? := by
  induction l with
  | nil => intro acc i _; rfl
  | cons o l ih =>
    intro acc i hi
    rw [List.foldl_cons, ih _ i (by simp [beforeStep]; omega)]
    simp only [beforeStep]
    rw [Array.getElem?_push, if_neg (by omega)]
theorem before_size (l : List Oper) : ∀ acc : Array Nat, (l.foldl beforeStep acc).size = acc.size + l.length := by
  induction l with
  | nil => intro acc; rfl
  | cons o l ih => intro acc; rw [List.foldl_cons, ih]; simp [beforeStep]; omega
theorem before_at (ops : Array Oper) (i : Nat) (o : Oper) (ho : ops[i]? = some o) :
    (Region.before ops).getD i 0 = o.after.foldl (fun s e => if Region.binds .any e then s ||| 2 ^ e.on ||| ((ops.toList.take i).foldl beforeStep #[]).getD e.on 0 else s) 0 := by
  have hlen : i < ops.toList.length := by
    have := (Array.getElem?_eq_some_iff.1 ho).1
    simpa using this
  have ho' : ops.toList[i]? = some o := by simpa using ho
  have hsplit : ops.toList = ops.toList.take i ++ o :: ops.toList.drop (i + 1) := by
    rw [List.getElem?_eq_some_iff] at ho'
    obtain ⟨h, e⟩ := ho'
    rw [← e, List.getElem_cons_drop]
    simp
  have hb : Region.before ops = ops.toList.foldl beforeStep #[] := by
    unfold Region.before
    rw [← Array.foldl_toList]
    rfl
  rw [hb]
  have hsz : ((ops.toList.take i).foldl beforeStep #[]).size = i := by
    rw [before_size, List.length_take, Array.length_toList, Array.size_empty]; rw [Array.length_toList] at hlen; omega
  generalize hT : ops.toList.take i = T at *
  have : (ops.toList.foldl beforeStep #[]) = ((ops.toList.drop (i + 1)).foldl beforeStep (beforeStep (T.foldl beforeStep #[]) o)) := by
    conv => lhs; rw [hsplit]
    rw [List.foldl_append, List.foldl_cons]
  rw [this]
  simp only [Array.getD_eq_getD_getElem?]
  rw [before_keeps _ _ i (by simp [beforeStep]; omega)]
  simp only [beforeStep]
  rw [Array.getElem?_push, if_pos hsz.symm]
  simp
theorem before_take (ops : Array Oper) (i j : Nat) (hji : j < i) (hi : i ≤ ops.size) :
    ((ops.toList.take i).foldl beforeStep #[]).getD j 0 = (Region.before ops).getD j 0 := by
  have hb : Region.before ops = ops.toList.foldl beforeStep #[] := by
    unfold Region.before
    rw [← Array.foldl_toList]
    rfl
  rw [hb]
  have : ops.toList.foldl beforeStep #[] = (ops.toList.drop i).foldl beforeStep ((ops.toList.take i).foldl beforeStep #[]) := by
    rw [← List.foldl_append, List.take_append_drop]
  rw [this]
  have hj : j < ((ops.toList.take i).foldl beforeStep #[]).size := by rw [before_size, List.length_take, Array.length_toList, Array.size_empty]; omega
  simp only [Array.getD_eq_getD_getElem?]
  rw [before_keeps _ _ j hj]
theorem foldl_or_bit (b : Edge → Bool) (f : Edge → Nat) (j : Nat) (l : List Edge) : ∀ s : Nat, (l.foldl (fun s e => if b e then s ||| 2 ^ e.on ||| f e else s) s).testBit j = true →
    s.testBit j = true ∨ ∃ e ∈ l, b e = true ∧ (e.on = j ∨ (f e).testBit j = true) := by
  induction l with
  | nil => intro s h; exact .inl h
  | cons e l ih =>
    intro s h
    rw [List.foldl_cons] at h
    rcases ih _ h with h | ⟨e', he', r⟩
    · by_cases hb : b e = true
      · rw [if_pos hb, Nat.testBit_or, Nat.testBit_or, Nat.testBit_two_pow] at h
        simp only [Bool.or_eq_true, decide_eq_true_eq] at h
        rcases h with (h | h) | h
        · exact .inl h
        · exact .inr ⟨e, by simp, hb, .inl h⟩
        · exact .inr ⟨e, by simp, hb, .inr h⟩
      · rw [if_neg hb] at h
        exact .inl h
    · exact .inr ⟨e', by simp [he'], r⟩
/-- What stands ahead of i is an edge of i, or stands ahead of an edge of i. -/
theorem ahead_edge {ops : Array Oper} {i j : Nat} {o : Oper} (ho : ops[i]? = some o) (hb : ∀ e ∈ o.after.toList, e.on < i) (h : ahead ops i j = true) :
    ∃ e ∈ o.after.toList, Region.binds .any e = true ∧ (e.on = j ∨ ahead ops e.on j = true) := by
  unfold ahead at h
  rw [before_at ops i o ho, ← Array.foldl_toList] at h
  rcases foldl_or_bit _ _ j _ 0 h with h | ⟨e, he, hbe, r⟩
  · simp at h
  · refine ⟨e, he, hbe, ?_⟩
    rcases r with r | r
    · exact .inl r
    · right
      unfold ahead
      have hlen : i < ops.size := (Array.getElem?_eq_some_iff.1 ho).1
      rw [before_take ops i e.on (hb e he) (by omega)] at r
      exact r

section
variable {P : Program} {ops : Array Oper} {Q : Exit → Act → World → Prop}
/-- What an operation of the region may lean on. -/
structure OgCtx (ops : Array Oper) (a0 : Act) (w0 : World) (E : Nat → Nat → Prop) (Φ : Nat → Value → World → Prop) (i : Nat) (a : Act) (w : World) : Prop where
  defers : a.defers = a0.defers
  size : a.tmps.size = a0.tmps.size
  slot : ∀ (j : Nat) (o : Oper), ahead ops i j = true → ops[j]? = some o → Φ j (slotOf a o) w
  out : ∀ t, (∀ (j : Nat) (o : Oper), ops[j]? = some o → o.dst = some t → j = i ∨ ahead ops j i = true) → a.tmps[t]? = a0.tmps[t]?
  only : Only (fun g => ∃ e, E e g) w0 w
  block : ∀ g, g < w0.heap.size → (∀ e, E e g → e = i ∨ ahead ops e i = true) → w.heap[g]? = w0.heap[g]?
def OgPost (E : Nat → Nat → Prop) (Φ : Nat → Value → World → Prop) (i : Nat) (o : Oper) (a : Act) (w : World) (a' : Act) (w' : World) : Prop :=
  ∃ v, a' = a.put o.dst v ∧ Only (E i) w w' ∧ Φ i v w'
structure OgEnd (ops : Array Oper) (a0 : Act) (w0 : World) (E : Nat → Nat → Prop) (Φ : Nat → Value → World → Prop) (a : Act) (w : World) : Prop where
  defers : a.defers = a0.defers
  size : a.tmps.size = a0.tmps.size
  slot : ∀ (j : Nat) (o : Oper), ops[j]? = some o → Φ j (slotOf a o) w
  out : ∀ t, (∀ (j : Nat) (o : Oper), ops[j]? = some o → o.dst ≠ some t) → a.tmps[t]? = a0.tmps[t]?
  only : Only (fun g => ∃ e, E e g) w0 w
structure OgInv (ops : Array Oper) (a0 : Act) (w0 : World) (E : Nat → Nat → Prop) (Φ : Nat → Value → World → Prop) (L : Array Bool) (a : Act) (w : World) : Prop where
  defers : a.defers = a0.defers
  size : a.tmps.size = a0.tmps.size
  len : L.size = ops.size
  closed : ∀ i j, L.getD i false = true → ahead ops i j = true → L.getD j false = true
  slot : ∀ (j : Nat) (o : Oper), L.getD j false = true → ops[j]? = some o → Φ j (slotOf a o) w
  out : ∀ t, (∀ (j : Nat) (o : Oper), ops[j]? = some o → o.dst = some t → L.getD j false = false) → a.tmps[t]? = a0.tmps[t]?
  only : Only (fun g => ∃ e, L.getD e false = true ∧ E e g) w0 w

theorem mem_ready {md : Region.Mode} {L : Array Bool} {i : Nat} (h : i ∈ Region.ready md ops L) : ∃ o, ops[i]? = some o ∧ L.getD i true = false ∧ ∀ e ∈ o.after.toList, Region.binds md e = true → L.getD e.on false = true := by
  unfold Region.ready at h
  rw [List.mem_filter] at h
  obtain ⟨h1, h2⟩ := h
  simp only [Bool.and_eq_true, Bool.not_eq_true'] at h2
  obtain ⟨h2, h3⟩ := h2
  cases ho : ops[i]? with
  | none => rw [ho] at h3; simp at h3
  | some o =>
    rw [ho] at h3
    refine ⟨o, rfl, h2, fun e he hb => ?_⟩
    simp only [Option.map_some, Option.getD_some, Array.all_eq_true_iff_forall_mem] at h3
    have := h3 e (by simpa using he)
    simpa [hb] using this
theorem ready_nil {L : Array Bool} (hok : ogOk ops = true) (hlen : L.size = ops.size) (h : Region.ready .any ops L = []) : ∀ i, i < ops.size → L.getD i false = true := by
  intro i
  induction i using Nat.strongRecOn with
  | _ i ih =>
    intro hi
    cases hL : L.getD i false with
    | true => rfl
    | false =>
      exfalso
      have hmem : i ∈ Region.ready .any ops L := by
        unfold Region.ready
        rw [List.mem_filter]
        refine ⟨List.mem_range.2 hi, ?_⟩
        have ho : ops[i]? = some ops[i] := Array.getElem?_eq_getElem hi
        have hLi : L.getD i true = false := by
          simp only [Array.getD_eq_getD_getElem?, Array.getElem?_eq_getElem (show i < L.size by omega), Option.getD_some] at hL ⊢
          exact hL
        rw [ho, hLi]
        simp only [Bool.not_false, Bool.true_and, Option.map_some, Option.getD_some, Array.all_eq_true_iff_forall_mem]
        intro e he
        have hlt : e.on < i := by
          unfold ogOk at hok
          simp only [Bool.and_eq_true, List.all_eq_true] at hok
          have h1 := hok.1 (ops[i], i) (by rw [List.mem_zipIdx_iff_getElem?]; simp)
          have h2 := h1 e (by simpa using he)
          simpa using h2
        rw [ih e.on hlt (by omega)]
        simp
      rw [h] at hmem
      cases hmem
theorem og_dst {i j : Nat} {o o' : Oper} {d : Tmp} (hok : ogOk ops = true) (hi : ops[i]? = some o) (hj : ops[j]? = some o') (hd : o.dst = some d) (hd' : o'.dst = some d) : i = j := by
  unfold ogOk at hok
  simp only [Bool.and_eq_true, List.all_eq_true] at hok
  have h1 := hok.2 (o, i) (by rw [List.mem_zipIdx_iff_getElem?]; simpa using hi)
  have h2 := h1 (o', j) (by rw [List.mem_zipIdx_iff_getElem?]; simpa using hj)
  simpa [hd, hd'] using h2
theorem og_edges {i : Nat} {o : Oper} (hok : ogOk ops = true) (hi : ops[i]? = some o) : ∀ e ∈ o.after.toList, e.on < i := by
  unfold ogOk at hok
  simp only [Bool.and_eq_true, List.all_eq_true] at hok
  have h1 := hok.1 (o, i) (by rw [List.mem_zipIdx_iff_getElem?]; simpa using hi)
  intro e he
  have h2 := h1 e he
  simpa using h2
theorem slotOf_put_same {a : Act} {o : Oper} {v : Value} (h : ∀ d, o.dst = some d → d < a.tmps.size) : slotOf (a.put o.dst v) o = match o.dst with | some _ => v | none => undef := by
  unfold slotOf
  cases hd : o.dst with
  | none => rfl
  | some d => simp [Act.put, h d hd]
theorem slotOf_put_other {a : Act} {o o' : Oper} {v : Value} (h : ∀ d, o.dst = some d → o'.dst ≠ some d) : slotOf (a.put o.dst v) o' = slotOf a o' := by
  unfold slotOf
  cases hd : o.dst with
  | none => rfl
  | some d =>
    cases hd' : o'.dst with
    | none => rfl
    | some d' =>
      have hne : d ≠ d' := fun e => h d hd (by rw [hd', e])
      simp [Act.put, Array.getElem?_setIfInBounds_ne hne]
theorem og_any (hok : ogOk ops = true) (a0 : Act) (w0 : World) (E : Nat → Nat → Prop) (Φ : Nat → Value → World → Prop)
    (hsl : ∀ (i : Nat) (o : Oper) d, ops[i]? = some o → o.dst = some d → d < a0.tmps.size)
    (hnone : ∀ (i : Nat) (o : Oper) v w, ops[i]? = some o → o.dst = none → Φ i v w → Φ i undef w)
    (hst : ∀ i j v w w', Only (fun g => ∃ e, E e g) w0 w → Only (E i) w w' → ahead ops j i = false → j ≠ i → Φ j v w → Φ j v w')
    (hop : ∀ (i : Nat) (o : Oper), ops[i]? = some o → ∀ a w, OgCtx ops a0 w0 E Φ i a w → wpOp P ops Q i (OgPost E Φ i o a w) a w)
    (hend : ∀ a w, OgEnd ops a0 w0 E Φ a w → Q .normal a w) :
    ∀ (fuel : Nat) (L : Array Bool) (a : Act) (w : World), (L.toList.filter (! ·)).length ≤ fuel → OgInv ops a0 w0 E Φ L a w → wpAny P .any ops Q fuel L a w := by
  have fin : ∀ (L : Array Bool) (a : Act) (w : World), OgInv ops a0 w0 E Φ L a w → Region.ready .any ops L = [] → Q .normal a w := by
    intro L a w h hr
    have hall := ready_nil hok h.len hr
    refine hend a w ⟨h.defers, h.size, fun j o hj => h.slot j o (hall j (Array.getElem?_eq_some_iff.1 hj).1) hj, fun t ht => h.out t fun j o hj hd => absurd hd (ht j o hj), h.only.mono fun g _ ⟨e, _, he⟩ => ⟨e, he⟩⟩
  intro fuel
  induction fuel with
  | zero =>
    intro L a w hf h
    have hr : Region.ready .any ops L = [] := by
      cases hr : Region.ready .any ops L with
      | nil => rfl
      | cons i r =>
        obtain ⟨o, ho, hL, _⟩ := mem_ready (ops := ops) (L := L) (i := i) (md := .any) (by rw [hr]; simp)
        have hlt : i < L.size := by have := (Array.getElem?_eq_some_iff.1 ho).1; have := h.len; omega
        have : L[i] ∈ L.toList.filter (! ·) := by
          rw [List.mem_filter]
          refine ⟨by simp, ?_⟩
          simp only [Array.getD_eq_getD_getElem?, Array.getElem?_eq_getElem hlt, Option.getD_some] at hL
          simp [hL]
        have := List.length_pos_of_mem this
        omega
    exact ⟨hr, fin L a w h hr⟩
  | succ fuel ih =>
    intro L a w hf h
    refine ⟨fin L a w h, fun i hi => ?_⟩
    obtain ⟨o, ho, hL, hedge⟩ := mem_ready hi
    have hlt : i < L.size := by have := (Array.getElem?_eq_some_iff.1 ho).1; have := h.len; omega
    have hLf : L.getD i false = false := by
      simp only [Array.getD_eq_getD_getElem?, Array.getElem?_eq_getElem hlt, Option.getD_some] at hL ⊢
      exact hL
    have hanc : ∀ j, ahead ops i j = true → L.getD j false = true := by
      intro j hj
      obtain ⟨e, he, hb, r⟩ := ahead_edge ho (og_edges hok ho) hj
      have hLe := hedge e he hb
      rcases r with r | r
      · rw [← r]; exact hLe
      · exact h.closed _ _ hLe r
    have hctx : OgCtx ops a0 w0 E Φ i a w := by
      refine ⟨h.defers, h.size, fun j o' hj ho' => h.slot j o' (hanc j hj) ho', fun t ht => h.out t fun j o' ho' hd => ?_, h.only.mono fun g _ ⟨e, _, he⟩ => ⟨e, he⟩, fun g hg he => h.only.block g hg fun ⟨e, hLe, hE⟩ => ?_⟩
      · rcases ht j o' ho' hd with rfl | hj
        · exact hLf
        · cases hLj : L.getD j false with
          | false => rfl
          | true => rw [h.closed j i hLj hj] at hLf; cases hLf
      · rcases he e hE with rfl | hj
        · rw [hLe] at hLf; cases hLf
        · rw [h.closed e i hLe hj] at hLf; cases hLf
    refine wpOp_mono ?_ (hop i o ho a w hctx)
    rintro a' w' ⟨v, rfl, honly, hΦ⟩
    have hget : ∀ j, (L.setIfInBounds i true).getD j false = true ↔ (j = i ∨ L.getD j false = true) := by
      intro j
      simp only [Array.getD_eq_getD_getElem?]
      by_cases hji : j = i
      · subst hji
        simp [hlt]
      · rw [Array.getElem?_setIfInBounds_ne (fun e => hji e.symm)]
        simp [hji]
    refine ih _ _ _ ?_ ⟨?_, ?_, ?_, ?_, ?_, ?_, ?_⟩
    · have h1 : (L.setIfInBounds i true).toList = L.toList.set i true := by simp
      rw [h1]
      have h2 : L.toList = L.toList.take i ++ L[i] :: L.toList.drop (i + 1) := by
        rw [show L[i] = L.toList[i] from by simp, List.getElem_cons_drop]; simp
      have hLi : L[i] = false := by
        simp only [Array.getD_eq_getD_getElem?, Array.getElem?_eq_getElem hlt, Option.getD_some] at hLf
        exact hLf
      have h3 : L.toList.set i true = L.toList.take i ++ true :: L.toList.drop (i + 1) := List.set_eq_take_append_cons_drop .. |>.trans (by simp [hlt])
      rw [h3]
      rw [h2, hLi] at hf
      simp only [List.filter_append, List.filter_cons, List.length_append] at hf ⊢
      simp at hf ⊢
      omega
    · cases hd : o.dst <;> simpa [Act.put, hd] using h.defers
    · cases hd : o.dst <;> simpa [Act.put, hd] using h.size
    · simpa using h.len
    · intro k j hk hj
      rw [hget] at hk ⊢
      rcases hk with rfl | hk
      · exact .inr (hanc j hj)
      · exact .inr (h.closed k j hk hj)
    · intro j o' hj ho'
      rw [hget] at hj
      by_cases hji : j = i
      · subst hji
        obtain rfl : o = o' := by rw [ho] at ho'; exact Option.some.inj ho'
        rw [slotOf_put_same (a := a) (o := o) (v := v) fun d hd => by rw [h.size]; exact hsl j o d ho hd]
        cases hd : o.dst with
        | none => exact hnone j o v w' ho hd hΦ
        | some d => exact hΦ
      · have hLj : L.getD j false = true := hj.resolve_left hji
        rw [slotOf_put_other fun d hd hd' => hji (og_dst hok ho' ho hd' hd)]
        refine hst i j _ w w' (h.only.mono fun g _ ⟨e, _, he⟩ => ⟨e, he⟩) honly ?_ hji (h.slot j o' hLj ho')
        cases ha : ahead ops j i with
        | false => rfl
        | true => rw [h.closed j i hLj ha] at hLf; cases hLf
    · intro t ht
      have hne : ∀ d, o.dst = some d → d ≠ t := by
        intro d hd e
        subst e
        have := ht i o ho hd
        rw [(hget i).2 (.inl rfl)] at this
        cases this
      have : (a.put o.dst v).tmps[t]? = a.tmps[t]? := by
        cases hd : o.dst with
        | none => rfl
        | some d => simp [Act.put, Array.getElem?_setIfInBounds_ne (hne d hd)]
      rw [this]
      refine h.out t fun j o' ho' hd => ?_
      have := ht j o' ho' hd
      cases hLj : L.getD j false with
      | false => rfl
      | true => rw [(hget j).2 (.inr hLj)] at this; cases this
    · refine (h.only.trans honly).mono fun g _ hg => ?_
      rcases hg with ⟨e, he, hE⟩ | hE
      · exact ⟨e, (hget e).2 (.inr he), hE⟩
      · exact ⟨i, (hget i).2 (.inl rfl), hE⟩
/-- THE RULE. -/
theorem wp_region_og {id : Nat} {a0 : Act} {w : World} (hm : P.follows .mixedOrders = true) (hok : ogOk ops = true) (E : Nat → Nat → Prop) (Φ : Nat → Value → World → Prop)
    (hsl : ∀ (i : Nat) (o : Oper) d, ops[i]? = some o → o.dst = some d → d < a0.tmps.size)
    (hnone : ∀ (i : Nat) (o : Oper) v w, ops[i]? = some o → o.dst = none → Φ i v w → Φ i undef w)
    (hst : ∀ i j v w1 w', Only (fun g => ∃ e, E e g) w.drew w1 → Only (E i) w1 w' → ahead ops j i = false → j ≠ i → Φ j v w1 → Φ j v w')
    (hop : ∀ (i : Nat) (o : Oper), ops[i]? = some o → ∀ a1 w1, OgCtx ops a0 w.drew E Φ i a1 w1 → wpOp P ops Q i (OgPost E Φ i o a1 w1) a1 w1)
    (hend : ∀ a1 w1, OgEnd ops a0 w.drew E Φ a1 w1 → Q .normal a1 w1) : (Code.region id ops true).wp P Q a0 w := by
  refine wp_region_any hm ?_
  refine og_any hok a0 w.drew E Φ hsl hnone hst hop hend ops.size _ a0 w.drew ?_ ?_
  · exact Nat.le_trans (List.length_filter_le _ _) (by simp)
  · have hf : ∀ j, (Array.replicate ops.size false).getD j false = false := by
      intro j
      simp only [Array.getD_eq_getD_getElem?, Array.getElem?_replicate]
      split <;> rfl
    refine ⟨rfl, rfl, by simp, ?_, ?_, fun _ _ => rfl, Only.refl _ _⟩
    · intro i j h; rw [hf i] at h; cases h
    · intro j o h; rw [hf j] at h; cases h
end
end Go.Proofs.YtkddkmiomhadaaaDoor
