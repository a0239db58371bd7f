/- The sort of pairs by name: the closure of impl.Attributes and slices.SortFunc at it. Condition: at most twelve pairs. -/
import Derived.Test.YtbehijhpichniaaShelf
import Derived.Test.YtbehijhpichniaaRkv
namespace Go.Proofs.Ytbehijhpichniaa
open Go.RowKit Go.Shelf Go.Sort
instance : Inhabited Tr := ⟨⟨⟨#[]⟩, ⟨#[]⟩, false⟩⟩
/-- What the closure says of two pairs. -/
def cmpTr (x y : Tr) : Int := if Op.bytesLess x.name.toList y.name.toList then -1 else 1
set_option maxHeartbeats 1000000 in
theorem closure_any (x y : Tr) (W : World) : Calls Try.prog 15 #[.agg (prT x).toArray, .agg (prT y).toArray] W fun e w' => e = .returned (.int .i64 (cmpTr x y)) ∧ ∃ q os', w' = grow (W.drewN q) os' := by
  unfold prT
  cases hc : Op.bytesLess x.name.toList y.name.toList
  all_goals
    have hcmp : cmpTr x y = if Op.bytesLess x.name.toList y.name.toList then -1 else 1 := rfl
    rw [hc] at hcmp
    rw [hcmp]
    clear hcmp
    go_enter Try.func15, Try.ntmps15
    go_wp2
    go_ret
    exact ⟨rfl, 0, _, by rw [alloc_eq_grow, alloc_eq_grow, grow_grow]; rfl⟩
section
variable {α : Type}
/-- What an insertion sort leaves is what was there, in some order. -/
theorem insInner_perm [Inhabited α] (lt : α → α → Bool) (a b i : Nat) (hib : i < b) : ∀ (j : Nat) (d : Array α), a ≤ j → j ≤ i → b ≤ d.size → PermIn a b d (insInner lt a j d)
  | 0, d, _, _, _ => by unfold insInner; exact permIn_refl d a b
  | j + 1, d, haj, hji, hb => by
    unfold insInner
    split
    · rename_i hc
      simp only [Bool.and_eq_true, decide_eq_true_eq] at hc
      exact permIn_trans _ _ _ a b (swp_permIn d a b (j + 1) j haj (by omega) (by omega) (by omega) hb) (insInner_perm lt a b i hib j (swp d (j + 1) j) (by omega) (by omega) (by rw [swp_size]; exact hb))
    · exact permIn_refl d a b
theorem insOuter_perm [Inhabited α] (lt : α → α → Bool) (a b : Nat) : ∀ (n i : Nat) (d : Array α), b - i = n → a < i → i ≤ b → b ≤ d.size → PermIn a b d (insOuter lt a b i d)
  | 0, i, d, hn, _, hib, _ => by
    obtain rfl : i = b := by omega
    rw [insOuter, if_neg (by omega)]
    exact permIn_refl d a i
  | n + 1, i, d, hn, hai, hib, hb => by
    have hlt : i < b := by omega
    rw [insOuter, if_pos hlt]
    have h1 := insInner_perm lt a b i hlt i d (by omega) (Nat.le_refl _) hb
    exact permIn_trans _ _ _ a b h1 (insOuter_perm lt a b n (i + 1) (insInner lt a i d) (by omega) (by omega) (by omega) (by rw [h1.1]; exact hb))
theorem insertion_perm [Inhabited α] (lt : α → α → Bool) (d : Array α) : (insertionSort lt d 0 d.size).toList.Perm d.toList ∧ (insertionSort lt d 0 d.size).size = d.size := by
  have h : PermIn 0 d.size d (insertionSort lt d 0 d.size) := by
    unfold insertionSort
    by_cases h : d.size = 0
    · rw [insOuter, if_neg (by omega)]; exact permIn_refl _ _ _
    · exact insOuter_perm lt 0 d.size (d.size - (0 + 1)) (0 + 1) d rfl (by omega) (by omega) (Nat.le_refl _)
  generalize insertionSort lt d 0 d.size = r at *
  refine ⟨?_, h.1⟩
  have h2 := h.2.2
  have e : r.extract 0 d.size = r := by rw [← h.1, Array.extract_size]
  rw [e, Array.extract_size] at h2
  exact h2
variable {f : α → List Value} {k : Nat}
theorem flat_get (hf : ∀ x, (f x).length = k) (hk : 0 < k) : ∀ (L : List α) (t : Nat), (flat f L)[t]? = (L[t / k]?).bind fun x => (f x)[t % k]?
  | [], t => by simp [flat]
  | x :: L, t => by
    have e : flat f (x :: L) = f x ++ flat f L := rfl
    rw [e]
    by_cases h : t < k
    · rw [List.getElem?_append_left (by rw [hf]; exact h), Nat.div_eq_of_lt h, Nat.mod_eq_of_lt h]; rfl
    · obtain ⟨s, rfl⟩ : ∃ s, t = k + s := ⟨t - k, by omega⟩
      rw [List.getElem?_append_right (by rw [hf]; omega), hf, Nat.add_sub_cancel_left, flat_get hf hk L s, Nat.add_div_left _ hk, Nat.add_mod_left]
      rfl
theorem flatK_list [Inhabited α] (hf : ∀ x, (f x).length = k) (hk : 0 < k) (d : Array α) : (flatK f k d).toList = flat f d.toList := by
  apply List.ext_getElem?
  intro t
  rw [flat_get hf hk]
  by_cases h : t < d.size * k
  · have h1 : t / k < d.size := Nat.div_lt_of_lt_mul (by rw [Nat.mul_comm]; exact h)
    have h2 : t % k < (f (d[t / k]'h1)).length := by rw [hf]; exact Nat.mod_lt _ hk
    rw [Array.getElem?_toList, Array.getElem?_toList, Array.getElem?_eq_getElem h1]
    have h3 : (flatK f k d)[t]? = some (flatK f k d)[t]! := by
      rw [Array.getElem?_eq_getElem (by rw [size_flatK]; exact h), getElem!_pos (flatK f k d) t (by rw [size_flatK]; exact h)]
    rw [h3, get_flatK _ _ _ _ h, getElem!_pos d _ h1, getElem!_pos (f d[t / k]) (t % k) h2]
    simp [h2]
  · have h1 : d.size ≤ t / k := (Nat.le_div_iff_mul_le hk).2 (by omega)
    rw [Array.getElem?_toList, Array.getElem?_toList, Array.getElem?_eq_none (by rw [size_flatK]; omega), Array.getElem?_eq_none h1]
    rfl
end
theorem take_put (cur : Array Value) (F : Array Value) (n : Nat) (hn : n = F.size) (h : n ≤ cur.size) : (putCells id 0 F cur).toList.take n = F.toList := by
  subst hn
  apply List.ext_getElem?
  intro j
  by_cases hj : j < F.size
  · rw [List.getElem?_take_of_lt hj, Array.getElem?_toList]
    simp [putCells, hj, show j < cur.size by omega]
  · rw [List.getElem?_take_eq_none (by omega), List.getElem?_eq_none (by simp; omega)]
/-- slices.SortFunc at pairs of the call's own. -/
theorem sort_any (L : List Tr) (hne : L ≠ []) (h12 : L.length ≤ 12) (v : Value) (w : World) (B : Nat) (hown : Own prT 37 2 w B v L) :
    Calls Try.prog 14 #[v, .func (.func 15) #[] #[]] w (fun e w' => e = .returned (.tuple #[]) ∧ ∃ L' : List Tr, L'.Perm L ∧ Own prT 37 2 w' B v L' ∧ Only (fun g => v.ownBlock = some g) w w') := by
  obtain ⟨hl, h2⟩ := hown
  rcases h2 with ⟨_, h0⟩ | ⟨g, cap, cur, rfl, hB, hh, hc1, hc2, hsz, htk⟩
  · exact absurd (List.eq_nil_of_length_eq_zero h0) hne
  have hg : g < w.heap.size := (Array.getElem?_eq_some_iff.1 hh).1
  have eg : ∀ args w, (callFunc 15 args).run Try.prog w = .ok (.enter 15 args) w := enters_of Try.func15 (by kernel_rfl) rfl
  have hlen : ∀ (n : Nat) (W : World), n ≤ 12 → Calls Try.prog 22 #[.int .u64 n] W fun e w' => (∃ l : Int, e = .returned (.int .i64 l)) ∧ w' = W := fun n W h =>
    (Any.bits_Len Try.bitsLen2 n W (by omega) (by omega)).mono fun _ _ ⟨he, hw⟩ => ⟨⟨_, he⟩, hw⟩
  have hH : HoldsK prT 2 w g 0 L.toArray := by
    intro j hj
    rw [size_flatK] at hj
    have hj' : j < L.length * 2 := by simpa using hj
    have hF := flatK_list (f := prT) (fun _ => rfl) (by decide : 0 < 2) L.toArray
    refine ⟨?_, by simp [World.frozen?, hh]⟩
    have h1 : (cur.toList.take (L.length * 2))[j]? = (flat prT L)[j]? := by rw [htk]
    rw [List.getElem?_take_of_lt hj', Array.getElem?_toList] at h1
    have h3 : (flatK prT 2 L.toArray)[j]? = some (flatK prT 2 L.toArray)[j]! := by
      rw [Array.getElem?_eq_getElem (by rw [size_flatK]; exact hj), getElem!_pos (flatK prT 2 L.toArray) j (by rw [size_flatK]; exact hj)]
    rw [← Array.getElem?_toList, hF] at h3
    simp only [World.cell?, hh, Nat.zero_add, Option.isSome_none, Bool.false_eq_true, if_false]
    rw [h1]
    exact h3
  have hcon := AnyQ.slices_SortFunc_small Try.sortTwo 2 Try.isAgg37 Try.sizeOf37 prT (fun _ => rfl) prT_one cmpTr 15 #[] g 0 cap L.toArray w eg (fun _ _ _ _ x y => closure_any x y _) hH hg (by simpa using h12) hlen
  obtain ⟨hp, hps⟩ := insertion_perm (ltOf cmpTr) L.toArray
  generalize insertionSort (ltOf cmpTr) L.toArray 0 L.toArray.size = d at hcon hp hps
  refine Calls.mono hcon ?_
  rintro e w' ⟨rfl, n, os, rfl⟩
  have hds : d.size = L.length := by simpa using hps
  refine ⟨rfl, d.toList, hp, ?_, ?_⟩
  · have hF := flatK_list (f := prT) (fun _ => rfl) (by decide : 0 < 2) d
    unfold Own World.ownsRow
    have hdl : d.toList.length = L.length := by rw [Array.length_toList]; exact hds
    rw [hdl]
    refine ⟨by rw [flat_length (k := 2) (fun _ => rfl), hdl], .inr ⟨g, cap, putCells id 0 (flatK prT 2 d) cur, rfl, hB, ?_, hc1, hc2, by simp [putCells, hsz], ?_⟩⟩
    · unfold sortWorldK putRowK
      rw [heap_grow_old _ _ (by simpa using hg)]
      simp [putRow, mapBlock, Sort.ahead, Array.getElem?_modify, hh, onCells]
    · rw [take_put _ _ _ (by rw [size_flatK, hds]) (by omega), hF]
  · refine ⟨rfl, rfl, rfl, by simp [sortWorldK, putRowK, putRow, mapBlock, Sort.ahead, grow], fun i hi hm => ?_⟩
    unfold sortWorldK putRowK
    rw [heap_grow_old _ _ (by simpa using hi)]
    have : g ≠ i := fun e => hm (by rw [e]; rfl)
    simp [putRow, mapBlock, Sort.ahead, Array.getElem?_modify, this]
end Go.Proofs.Ytbehijhpichniaa
