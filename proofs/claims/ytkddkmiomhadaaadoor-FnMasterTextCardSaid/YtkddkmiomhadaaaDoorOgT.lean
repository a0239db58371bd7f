/- The rule for a region that draws its order and ends in operations of one forced order: the head by assertions, the tail by the plain walk. -/
import Derived.Test.YtkddkmiomhadaaaDoorOgA
namespace Go.Proofs.YtkddkmiomhadaaaDoor
open Go.RowKit
/-- From m on each operation stands behind all that are ahead of it in the text. -/
def ogTail (ops : Array Oper) (m : Nat) : Bool := (List.range ops.size).all fun i => decide (i < m) || (List.range i).all fun j => ahead ops i j
section
variable {P : Program} {ops : Array Oper} {Q : Exit → Act → World → Prop}
theorem ogTail_spec {m i j : Nat} (h : ogTail ops m = true) (hi : i < ops.size) (hm : m ≤ i) (hj : j < i) : ahead ops i j = true := by
  unfold ogTail at h
  rw [List.all_eq_true] at h
  have h1 := h i (List.mem_range.2 hi)
  simp only [Bool.or_eq_true, decide_eq_true_eq, List.all_eq_true] at h1
  rcases h1 with h1 | h1
  · omega
  · exact h1 j (List.mem_range.2 hj)
/-- Where a listed set is closed and i is ready, all that stands ahead of i is listed. -/
theorem ready_anc {L : Array Bool} {i : Nat} (hok : ogOk ops = true) (hcl : ∀ i j, L.getD i false = true → ahead ops i j = true → L.getD j false = true) (hi : i ∈ Region.ready .any ops L) : ∀ j, ahead ops i j = true → L.getD j false = true := by
  obtain ⟨o, ho, _, hedge⟩ := mem_ready hi
  intro j hj
  obtain ⟨e, he, hb, r⟩ := ahead_edge ho (og_edges hok ho) hj
  have hLe := hedge e he hb
  rcases r with r | r
  · rw [← r]; exact hLe
  · exact hcl _ _ hLe r
theorem getD_false {L : Array Bool} {i : Nat} (hi : i < L.size) : L.getD i true = false ↔ L.getD i false = false := by
  simp only [Array.getD_eq_getD_getElem?, Array.getElem?_eq_getElem hi, Option.getD_some]
theorem not_ready_nil {L : Array Bool} {m : Nat} (hok : ogOk ops = true) (hlen : L.size = ops.size) (hm : m < ops.size) (hL : L.getD m false = false) (hb : ∀ j, j < m → L.getD j false = true) : m ∈ Region.ready .any ops L := by
  unfold Region.ready
  rw [List.mem_filter]
  refine ⟨List.mem_range.2 hm, ?_⟩
  have ho : ops[m]? = some ops[m] := Array.getElem?_eq_getElem hm
  rw [ho, (getD_false (by omega)).2 hL]
  simp only [Bool.not_false, Bool.true_and, Option.map_some, Option.getD_some, Array.all_eq_true_iff_forall_mem]
  intro e he
  rw [hb e.on (og_edges hok ho e (by simpa using he))]
  simp
theorem set_getD {L : Array Bool} {i j : Nat} (hi : i < L.size) : (L.setIfInBounds i true).getD j false = true ↔ (j = i ∨ L.getD j false = true) := by
  simp only [Array.getD_eq_getD_getElem?]
  by_cases hji : j = i
  · subst hji
    simp [hi]
  · rw [Array.getElem?_setIfInBounds_ne (fun e => hji e.symm)]
    simp [hji]
theorem og_tail (hok : ogOk ops = true) {m0 : Nat} (ht : ogTail ops m0 = true) : ∀ (fuel m : Nat) (L : Array Bool) (a : Act) (w : World), m0 ≤ m → m ≤ ops.size → ops.size - m ≤ fuel → L.size = ops.size →
    (∀ j, L.getD j false = true ↔ j < m) → wpList P ops Q (ops.toList.drop m) a w → wpAny P .any ops Q fuel L a w := by
  intro fuel
  induction fuel with
  | zero =>
    intro m L a w h0 h1 h2 hlen hL h
    obtain rfl : m = ops.size := by omega
    rw [List.drop_eq_nil_of_le (by simp)] at h
    refine ⟨?_, h⟩
    cases hr : Region.ready .any ops L with
    | nil => rfl
    | cons i r =>
      obtain ⟨o, ho, hLi, _⟩ := mem_ready (ops := ops) (L := L) (i := i) (md := .any) (by rw [hr]; simp)
      have hlt := (Array.getElem?_eq_some_iff.1 ho).1
      have := (hL i).2 hlt
      rw [(getD_false (by omega)).1 hLi] at this
      cases this
  | succ fuel ih =>
    intro m L a w h0 h1 h2 hlen hL h
    have hcl : ∀ i j, L.getD i false = true → ahead ops i j = true → L.getD j false = true := by
      intro i j hi hj
      rw [hL] at hi ⊢
      have hlt : i < ops.size := by omega
      have ho : ops[i]? = some ops[i] := Array.getElem?_eq_getElem hlt
      -- what stands ahead has a smaller number
      have small : ∀ (i : Nat), i < ops.size → ∀ j, ahead ops i j = true → j < i := by
        intro i
        induction i using Nat.strongRecOn with
        | _ i ih2 =>
          intro hi j hj
          have ho : ops[i]? = some ops[i] := Array.getElem?_eq_getElem hi
          obtain ⟨e, he, _, r⟩ := ahead_edge ho (og_edges hok ho) hj
          have hlt := og_edges hok ho e he
          rcases r with r | r
          · omega
          · have := ih2 e.on hlt (by omega) j r; omega
      have := small i hlt j hj
      omega
    by_cases hm : m < ops.size
    · have hmem := not_ready_nil hok hlen hm (by cases hx : L.getD m false with | false => rfl | true => exact absurd ((hL m).1 hx) (by omega)) (fun j hj => (hL j).2 hj)
      refine ⟨(fun hr => by rw [hr] at hmem; cases hmem), fun i hi => ?_⟩
      obtain ⟨o, ho, hLi, _⟩ := mem_ready hi
      have hlt := (Array.getElem?_eq_some_iff.1 ho).1
      have hge : m ≤ i := by
        rcases Nat.lt_or_ge i m with h3 | h3
        · have := (hL i).2 h3
          rw [(getD_false (by omega)).1 hLi] at this
          cases this
        · exact h3
      obtain rfl : i = m := by
        rcases Nat.eq_or_lt_of_le hge with h3 | h3
        · exact h3.symm
        · have := ready_anc hok hcl hi m (ogTail_spec ht hlt (by omega) h3)
          rw [hL] at this
          omega
      have hd : ops.toList.drop i = o :: ops.toList.drop (i + 1) := by
        have h4 : ops.toList[i]? = some o := by simpa using ho
        rw [List.getElem?_eq_some_iff] at h4
        obtain ⟨h5, h6⟩ := h4
        rw [← h6, List.drop_eq_getElem_cons]
      rw [hd] at h
      have hop : wpOp P ops Q i (wpList P ops Q (ops.toList.drop (i + 1))) a w := by
        unfold wpOp
        rw [ho]
        unfold wpList at h
        exact h
      refine wpOp_mono ?_ hop
      intro a' w' h'
      refine ih (i + 1) _ a' w' (by omega) (by omega) (by omega) (by simpa using hlen) ?_ h'
      intro j
      rw [set_getD (by omega), hL]
      omega
    · obtain rfl : m = ops.size := by omega
      rw [List.drop_eq_nil_of_le (by simp)] at h
      have hr : Region.ready .any ops L = [] := by
        cases hr : Region.ready .any ops L with
        | nil => rfl
        | cons i r =>
          obtain ⟨o, ho, hLi, _⟩ := mem_ready (ops := ops) (L := L) (i := i) (md := .any) (by rw [hr]; simp)
          have hlt := (Array.getElem?_eq_some_iff.1 ho).1
          have := (hL i).2 hlt
          rw [(getD_false (by omega)).1 hLi] at this
          cases this
      exact ⟨fun _ => h, fun i hi => by rw [hr] at hi; cases hi⟩
/-- What is known behind the head. -/
structure OgHead (ops : Array Oper) (m : Nat) (a0 : Act) (w0 : World) (E : Nat → Nat → Prop) (Φ : Nat → Value → World → Prop) (a : Act) (w : World) : Prop where
  defers : a.defers = a0.defers
  size : a.tmps.size = a0.tmps.size
  slot : ∀ (j : Nat) (o : Oper), j < m → ops[j]? = some o → Φ j (slotOf a o) w
  out : ∀ t, (∀ (j : Nat) (o : Oper), j < m → ops[j]? = some o → o.dst ≠ some t) → a.tmps[t]? = a0.tmps[t]?
  only : Only (fun g => ∃ e, E e g) w0 w
theorem og_head (hok : ogOk ops = true) {m : Nat} (ht : ogTail ops m = true) (hmn : m ≤ ops.size) (a0 : Act) (w0 : World) (E : Nat → Nat → Prop) (Φ : Nat → Value → World → Prop)
    (hsl : ∀ (i : Nat) (o : Oper) d, ops[i]? = some o → o.dst = some d → d < a0.tmps.size)
    (hnone : ∀ (i : Nat) (o : Oper) v w, ops[i]? = some o → o.dst = none → Φ i v w → Φ i undef w)
    (hst : ∀ i j v w w', Only (fun g => ∃ e, E e g) w0 w → Only (E i) w w' → ahead ops j i = false → j ≠ i → Φ j v w → Φ j v w')
    (hop : ∀ (i : Nat) (o : Oper), i < m → ops[i]? = some o → ∀ a w, OgCtx ops a0 w0 E Φ i a w → wpOp P ops Q i (OgPost E Φ i o a w) a w)
    (hend : ∀ a w, OgHead ops m a0 w0 E Φ a w → wpList P ops Q (ops.toList.drop m) a w) :
    ∀ (fuel : Nat) (L : Array Bool) (a : Act) (w : World), (L.toList.filter (! ·)).length ≤ fuel → ops.size - m ≤ fuel → (∀ j, m ≤ j → L.getD j false = false) → OgInv ops a0 w0 E Φ L a w → wpAny P .any ops Q fuel L a w := by
  have fin : ∀ (fuel : Nat) (L : Array Bool) (a : Act) (w : World), ops.size - m ≤ fuel → (∀ j, m ≤ j → L.getD j false = false) → (∀ j, j < m → L.getD j false = true) → OgInv ops a0 w0 E Φ L a w → wpAny P .any ops Q fuel L a w := by
    intro fuel L a w hf hT hall h
    refine og_tail hok ht fuel m L a w (Nat.le_refl _) hmn hf h.len (fun j => ⟨fun hj => ?_, hall j⟩) (hend a w ⟨h.defers, h.size, fun j o hj hjo => h.slot j o (hall j hj) hjo, fun t ht' => h.out t fun j o hj hd => ?_, h.only.mono fun g _ ⟨e, _, he⟩ => ⟨e, he⟩⟩)
    · rcases Nat.lt_or_ge j m with h1 | h1
      · exact h1
      · rw [hT j h1] at hj; cases hj
    · rcases Nat.lt_or_ge j m with h1 | h1
      · exact absurd hd (ht' j o h1 hj)
      · exact hT j h1
  intro fuel
  induction fuel with
  | zero =>
    intro L a w hf hf2 hT h
    refine fin 0 L a w hf2 hT (fun j hj => ?_) h
    cases hx : L.getD j false with
    | true => rfl
    | false =>
      have hlt : j < L.size := by have := h.len; omega
      have : L[j] ∈ L.toList.filter (! ·) := by
        rw [List.mem_filter]
        refine ⟨by simp, ?_⟩
        simp only [Array.getD_eq_getD_getElem?, Array.getElem?_eq_getElem hlt, Option.getD_some] at hx
        simp [hx]
      have := List.length_pos_of_mem this
      omega
  | succ fuel ih =>
    intro L a w hf hf2 hT h
    by_cases hall : ∀ j, j < m → L.getD j false = true
    · exact fin (fuel + 1) L a w hf2 hT hall h
    · have hex : ∃ j, j < m ∧ L.getD j false = false := by
        apply Classical.byContradiction
        intro hno
        apply hall
        intro j hj
        cases hx : L.getD j false with
        | true => rfl
        | false => exact absurd ⟨j, hj, hx⟩ hno
      obtain ⟨j0, hj0, hLj0⟩ := hex
      have hne : Region.ready .any ops L ≠ [] := by
        intro hr
        have := ready_nil hok h.len hr j0 (by omega)
        rw [hLj0] at this
        cases this
      refine ⟨fun hr => absurd hr hne, fun i hi => ?_⟩
      obtain ⟨o, ho, hL, hedge⟩ := mem_ready hi
      have hlt : i < L.size := by have := (Array.getElem?_eq_some_iff.1 ho).1; have := h.len; omega
      have hLf : L.getD i false = false := (getD_false hlt).1 hL
      have hanc := ready_anc hok h.closed hi
      have him : i < m := by
        rcases Nat.lt_or_ge i m with h1 | h1
        · exact h1
        · have := hanc j0 (ogTail_spec ht (by have := h.len; omega) h1 (by omega))
          rw [hLj0] at this
          cases this
      have hctx : OgCtx ops a0 w0 E Φ i a w := by
        refine ⟨h.defers, h.size, fun j o' hj ho' => h.slot j o' (hanc j hj) ho', fun t ht' => h.out t fun j o' ho' hd => ?_, h.only.mono fun g _ ⟨e, _, he⟩ => ⟨e, he⟩, fun g hg he => h.only.block g hg fun ⟨e, hLe, hE⟩ => ?_⟩
        · rcases ht' j o' ho' hd with rfl | hj
          · exact hLf
          · cases hLj : L.getD j false with
            | false => rfl
            | true => rw [h.closed j i hLj hj] at hLf; cases hLf
        · rcases he e hE with rfl | hj
          · rw [hLe] at hLf; cases hLf
          · rw [h.closed e i hLe hj] at hLf; cases hLf
      refine wpOp_mono ?_ (hop i o him ho a w hctx)
      rintro a' w' ⟨v, rfl, honly, hΦ⟩
      have hget := fun j => set_getD (L := L) (i := i) (j := j) hlt
      refine ih _ _ _ ?_ ?_ ?_ ⟨?_, ?_, ?_, ?_, ?_, ?_, ?_⟩
      · have h1 : (L.setIfInBounds i true).toList = L.toList.set i true := by simp
        rw [h1]
        have h2 : L.toList = L.toList.take i ++ L[i] :: L.toList.drop (i + 1) := by
          rw [show L[i] = L.toList[i] from by simp, List.getElem_cons_drop]; simp
        have hLi : L[i] = false := by
          simp only [Array.getD_eq_getD_getElem?, Array.getElem?_eq_getElem hlt, Option.getD_some] at hLf
          exact hLf
        have h3 : L.toList.set i true = L.toList.take i ++ true :: L.toList.drop (i + 1) := List.set_eq_take_append_cons_drop .. |>.trans (by simp [hlt])
        rw [h3]
        rw [h2, hLi] at hf
        simp only [List.filter_append, List.filter_cons, List.length_append] at hf ⊢
        simp at hf ⊢
        omega
      · -- the tail is all unlisted, and i was unlisted besides
        have hc : ∀ (n : Nat) (l : List Bool), (∀ j, n ≤ j → j < l.length → l[j]? = some false) → l.length - n ≤ ((l.drop n).filter (! ·)).length := by
          intro n l hall'
          have : (l.drop n).filter (! ·) = l.drop n := by
            rw [List.filter_eq_self]
            intro x hx
            obtain ⟨q, hq⟩ := List.mem_iff_getElem?.1 hx
            rw [List.getElem?_drop] at hq
            have hql : n + q < l.length := (List.getElem?_eq_some_iff.1 hq).1
            rw [hall' (n + q) (by omega) hql] at hq
            simp at hq
            simp [← hq]
          rw [this]
          simp
        have h5 := hc m L.toList (fun j hj hjl => by
          have hjl' : j < L.size := by simpa using hjl
          have := hT j hj
          simp only [Array.getD_eq_getD_getElem?, Array.getElem?_eq_getElem hjl', Option.getD_some] at this
          rw [Array.getElem?_toList, Array.getElem?_eq_getElem hjl', this])
        have h6 : (L.toList.filter (! ·)).length = ((L.toList.take m).filter (! ·)).length + ((L.toList.drop m).filter (! ·)).length := by
          rw [← List.length_append, ← List.filter_append, List.take_append_drop]
        have h7 : 1 ≤ ((L.toList.take m).filter (! ·)).length := by
          apply List.length_pos_of_mem (a := false)
          rw [List.mem_filter]
          refine ⟨?_, rfl⟩
          rw [List.mem_iff_getElem?]
          refine ⟨i, ?_⟩
          rw [List.getElem?_take_of_lt him, Array.getElem?_toList, Array.getElem?_eq_getElem hlt]
          simp only [Array.getD_eq_getD_getElem?, Array.getElem?_eq_getElem hlt, Option.getD_some] at hLf
          rw [hLf]
        have h8 : L.toList.length = ops.size := by rw [Array.length_toList]; exact h.len
        omega
      · intro j hj
        cases hx : (L.setIfInBounds i true).getD j false with
        | false => rfl
        | true =>
          rcases (hget j).1 hx with rfl | h1
          · omega
          · rw [hT j hj] at h1; cases h1
      · cases hd : o.dst <;> simpa [Act.put, hd] using h.defers
      · cases hd : o.dst <;> simpa [Act.put, hd] using h.size
      · simpa using h.len
      · intro k j hk hj
        rw [hget] at hk ⊢
        rcases hk with rfl | hk
        · exact .inr (hanc j hj)
        · exact .inr (h.closed k j hk hj)
      · intro j o' hj ho'
        rw [hget] at hj
        by_cases hji : j = i
        · subst hji
          obtain rfl : o = o' := by rw [ho] at ho'; exact Option.some.inj ho'
          rw [slotOf_put_same (a := a) (o := o) (v := v) fun d hd => by rw [h.size]; exact hsl j o d ho hd]
          cases hd : o.dst with
          | none => exact hnone j o v w' ho hd hΦ
          | some d => exact hΦ
        · have hLj : L.getD j false = true := hj.resolve_left hji
          rw [slotOf_put_other fun d hd hd' => hji (og_dst hok ho' ho hd' hd)]
          refine hst i j _ w w' (h.only.mono fun g _ ⟨e, _, he⟩ => ⟨e, he⟩) honly ?_ hji (h.slot j o' hLj ho')
          cases ha : ahead ops j i with
          | false => rfl
          | true => rw [h.closed j i hLj ha] at hLf; cases hLf
      · intro t ht'
        have hne' : ∀ d, o.dst = some d → d ≠ t := by
          intro d hd e
          subst e
          have := ht' i o ho hd
          rw [(hget i).2 (.inl rfl)] at this
          cases this
        have : (a.put o.dst v).tmps[t]? = a.tmps[t]? := by
          cases hd : o.dst with
          | none => rfl
          | some d => simp [Act.put, Array.getElem?_setIfInBounds_ne (hne' d hd)]
        rw [this]
        refine h.out t fun j o' ho' hd => ?_
        have := ht' j o' ho' hd
        cases hLj : L.getD j false with
        | false => rfl
        | true => rw [(hget j).2 (.inr hLj)] at this; cases this
      · refine (h.only.trans honly).mono fun g _ hg => ?_
        rcases hg with ⟨e, he, hE⟩ | hE
        · exact ⟨e, (hget e).2 (.inr he), hE⟩
        · exact ⟨i, (hget i).2 (.inl rfl), hE⟩
/-- THE RULE: the head's operations only read, call what makes memory, make memory; the tail is walked as it stands. -/
theorem wp_region_og1 {id n : Nat} {l : List Oper} {a0 : Act} {w : World} (m : Nat) (As : List Asr) (hm : P.follows .mixedOrders = true) (hok : ogOk l.toArray = true) (ht : ogTail l.toArray m = true) (hml : m ≤ l.length)
    (hfit : ogFit l.toArray As n = true) (hn : a0.tmps.size = n) (hst : OgSt l.toArray w.heap.size (fun _ _ => False) 0 As)
    (hop : OgOps P l.toArray Q a0 w.drew (fun _ _ => False) (asrAt As w.heap.size) 0 (l.take m))
    (hend : ∀ a1 w1, OgHead l.toArray m a0 w.drew (fun _ _ => False) (asrAt As w.heap.size) a1 w1 → Below w.heap.size w w1 → wpList P l.toArray Q (l.drop m) a1 w1) : (Code.region id l.toArray true).wp P Q a0 w := by
  have hfit' : ∀ (i : Nat) (o : Oper), l.toArray[i]? = some o → match o.dst with | some d => d < n | none => ∀ A, As[i]? = some A → A.isWld = true := by
    intro i o hi
    unfold ogFit at hfit
    rw [List.all_eq_true] at hfit
    have := hfit (o, i) (by rw [List.mem_zipIdx_iff_getElem?]; simpa using hi)
    dsimp only at this
    cases hd : o.dst with
    | some d => rw [hd] at this; simpa using this
    | none =>
      rw [hd] at this
      dsimp only at this ⊢
      intro A hA
      rw [hA] at this
      exact this
  have hbel : ∀ {x y : World}, Only (fun _ => False) x y → Below x.heap.size x y := fun h => h.below (Nat.le_refl _) fun g _ hf => hf
  refine wp_region_any hm ?_
  refine og_head hok ht (by simpa using hml) a0 w.drew (fun _ _ => False) (asrAt As w.heap.size) ?_ ?_ ?_ ?_ ?_ l.toArray.size _ a0 w.drew ?_ ?_ ?_ ?_
  · intro i o d hi hd
    have := hfit' i o hi
    rw [hd] at this
    rw [hn]
    exact this
  · intro i o v w1 hi hd h
    have := hfit' i o hi
    rw [hd] at this
    unfold asrAt at h ⊢
    cases hA : As[i]? with
    | none => trivial
    | some A =>
      rw [hA] at h
      have hw := this A hA
      cases A <;> simp [Asr.isWld] at hw
      exact h
  · intro i j v w1 w' h1 h2 ha hji h
    have h3 := hbel h2
    unfold asrAt at h ⊢
    cases hA : As[j]? with
    | none => trivial
    | some A =>
      rw [hA] at h
      have hk := hst.get hA
      rw [Nat.zero_add] at hk
      cases A with
      | eq c => exact h
      | pure q => exact h
      | blki n f t cs =>
        obtain ⟨g, k, hg, hk, hv, hc⟩ := h
        exact ⟨g, k, hg, hk, hv, by rw [h3.block g (Array.getElem?_eq_some_iff.1 hc).1]; exact hc⟩
      | blk f t cs =>
        obtain ⟨g, hg, hv, hc⟩ := h
        exact ⟨g, hg, hv, by rw [h3.block g (Array.getElem?_eq_some_iff.1 hc).1]; exact hc⟩
      | any p => exact hk i ha (fun e => hji e) v w1 w' h1.size h2 h
      | wld p => exact hk i ha (fun e => hji e) w1 w' h1.size h2 h
  · intro i o him hi a1 w1 c
    have hi' : (l.take m)[i]? = some o := by rw [List.getElem?_take_of_lt him]; simpa using hi
    have := hop.get (l.take m) 0 i o hi' a1 w1 (by rw [Nat.zero_add]; exact c)
    rw [Nat.zero_add] at this
    cases hg : o.guard with
    | some gw => rw [hg] at this; exact this
    | none =>
      rw [hg] at this
      dsimp only at this
      unfold wpOp
      rw [hi]
      simp only [Region.wanted, hg, if_true]
      exact .inl this
  · intro a1 w1 c
    have h0 := c.only.below (B := w.drew.heap.size) (Nat.le_refl _) fun g _ ⟨_, h⟩ => h
    have := hend a1 w1 c ⟨h0.os, h0.tape, h0.output, h0.size, h0.block⟩
    simpa using this
  · exact Nat.le_trans (List.length_filter_le _ _) (by simp)
  · omega
  · intro j _
    simp only [Array.getD_eq_getD_getElem?, Array.getElem?_replicate]
    split <;> rfl
  · have hf : ∀ j, (Array.replicate l.toArray.size false).getD j false = false := by
      intro j
      simp only [Array.getD_eq_getD_getElem?, Array.getElem?_replicate]
      split <;> rfl
    refine ⟨rfl, rfl, by simp, ?_, ?_, fun _ _ => rfl, Only.refl _ _⟩
    · intro i j h; rw [hf i] at h; cases h
    · intro j o h; rw [hf j] at h; cases h
theorem frame_head {a0 a : Act} {w0 w : World} {E : Nat → Nat → Prop} {Φ : Nat → Value → World → Prop} {l : List Oper} {m : Nat} (c : OgHead l.toArray m a0 w0 E Φ a w) (ds : List Tmp) (hd : ogDsts (l.take m).toArray ds = true) : a = ds.foldl (fun b d => b.put (some d) (a.tmps.getD d undef)) a0 :=
  frame_of ds c.size c.defers fun t ht => c.out t (by
    intro j o hj hjo hdd
    unfold ogDsts at hd
    rw [List.all_eq_true] at hd
    have h2 : (l.take m)[j]? = some o := by rw [List.getElem?_take_of_lt hj]; simpa using hjo
    have := hd o (by have := List.mem_of_getElem? h2; simpa using this)
    rw [hdd] at this
    dsimp only at this
    rw [ht] at this
    cases this)
end
end Go.Proofs.YtkddkmiomhadaaaDoor
