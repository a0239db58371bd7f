/- The plain law of the reader: the pairs of joined attributes are the attributes' names and values. -/
import Derived.Test.YtbehijhpichniaaTr
namespace Go.Proofs.Ytbehijhpichniaa
open Go.RowKit
/-- The value as it stands in the text. -/
def Tr.raw (t : Tr) : List UInt8 := if t.q then 34 :: (t.value.data.toList ++ [34]) else t.value.data.toList
theorem Tr.text_list (t : Tr) : t.text.data.toList = t.name.data.toList ++ 61 :: t.raw := by
  unfold Tr.text attr Tr.raw
  split <;> simp [ByteArray.data_append]
theorem skip_append {p : UInt8 → Bool} {l r : List UInt8} (h : ∀ b ∈ l, p b = true) (hr : ∀ b, r.head? = some b → p b = false) : skip p (l ++ r) = l.length := by
  induction l with
  | nil =>
    cases r with
    | nil => rfl
    | cons b r => rw [List.nil_append, skip_cons, if_neg (by rw [hr b rfl]; decide)]; rfl
  | cons b l ih =>
    rw [List.cons_append, skip_cons, if_pos (h b (by simp)), ih fun c hc => h c (by simp [hc])]; rfl
theorem valueOf_raw {t : Tr} (h : t.Good) {r : List UInt8} (hr : ∀ b, r.head? = some b → b = 44) : valueOf (t.raw ++ r) = t.raw.length := by
  have hv := List.length_pos_iff.2 h.value0
  unfold Tr.raw
  split
  · rename_i hq
    have e : skip (fun b => b != 34) (t.value.data.toList ++ 34 :: r) = t.value.data.toList.length := skip_append (fun b hb => by simpa using h.quote b hb) (by intro b hb; simp at hb; subst hb; rfl)
    rw [valueOf_quote (n := 1 + t.value.data.toList.length) (by simp) (by simp only [List.cons_append, List.drop_succ_cons, List.drop_zero, List.append_assoc, List.nil_append]; rw [e])]
    rw [if_pos (by simp only [List.cons_append, List.length_cons, List.length_append, List.append_assoc, List.nil_append]; omega)]
    simp only [List.length_cons, List.length_append, List.length_nil]
    omega
  · rename_i hq
    have hq' : t.q = false := by simpa using hq
    rw [valueOf_bare]
    · refine skip_append (fun b hb => ?_) fun b hb => ?_
      · simp only [Bool.and_eq_true, bne_iff_ne, ne_eq]
        exact ⟨h.quote b hb, h.comma hq' b hb⟩
      · rw [hr b hb]; rfl
    · intro b hb
      refine h.quote b ?_
      rw [List.getElem?_append_left hv] at hb
      exact List.mem_of_getElem? hb
theorem kvAll_nil : kvAll [] = [] := by rw [kvAll, dif_pos rfl]
theorem kvAll_comma (l : List UInt8) : kvAll (44 :: l) = kvAll l := by
  rw [kvAll, dif_neg (by simp)]
  have : skip nameB (44 :: l) = 0 := by rw [skip_cons, if_neg (by decide)]
  simp only [this, true_or, if_true]
  rfl
theorem kvAll_one {t : Tr} (h : t.Good) {r : List UInt8} (hr : ∀ b, r.head? = some b → b = 44) : kvAll (t.text.data.toList ++ r) = (t.name.data.toList, t.raw) :: kvAll r := by
  have hn := List.length_pos_iff.2 h.name0
  have hraw : t.raw.length ≠ 0 := by
    unfold Tr.raw
    split
    · simp
    · have := List.length_pos_iff.2 h.value0; omega
  rw [Tr.text_list, List.append_assoc, List.cons_append]
  have hs : skip nameB (t.name.data.toList ++ 61 :: (t.raw ++ r)) = t.name.data.toList.length := skip_append h.name (by intro b hb; simp at hb; subst hb; decide)
  rw [kvAll, dif_neg (by simp)]
  simp only [hs]
  rw [if_neg (by
    rintro (e | e | e)
    · omega
    · simp only [List.length_append, List.length_cons] at e; omega
    · exact e (by simp))]
  have hd : (t.name.data.toList ++ 61 :: (t.raw ++ r)).drop (t.name.data.toList.length + 1) = t.raw ++ r := by
    rw [List.drop_append]
    simp
  rw [hd, valueOf_raw h hr, if_neg hraw, ← List.drop_drop, hd]
  simp
theorem kvAll_join : ∀ {L : List Tr}, (∀ t ∈ L, t.Good) → kvAll (joinL (L.map Tr.text)) = L.map fun t => (t.name.data.toList, t.raw)
  | [], _ => kvAll_nil
  | [t], h => by
    have := kvAll_one (h t (by simp)) (r := []) (by simp)
    rw [List.append_nil, kvAll_nil] at this
    simpa [joinL_one] using this
  | t :: u :: L, h => by
    have e : joinL ((t :: u :: L).map Tr.text) = t.text.data.toList ++ 44 :: joinL ((u :: L).map Tr.text) := joinL_cons _ _ (by simp)
    rw [e, kvAll_one (h t (by simp)) (by intro b hb; simp at hb; exact hb.symm), kvAll_comma, kvAll_join fun t ht => h t (by simp [ht])]
    rfl
theorem trim_raw {t : Tr} (h : t.Good) : trimR (trimL t.raw) = t.value.data.toList := by
  have hne := h.value0
  have hbq : ∀ b ∈ t.value.data.toList, b ≠ 32 → isBQ b = false := fun b hb h32 => by
    unfold isBQ
    rw [Bool.or_eq_false_iff, beq_eq_false_iff_ne, beq_eq_false_iff_ne]
    exact ⟨h32, h.quote b hb⟩
  have hL : trimL (t.value.data.toList) = t.value.data.toList := by
    unfold trimL
    cases hv : t.value.data.toList with
    | nil => rfl
    | cons b l =>
      have hb : isBQ b = false := hbq b (by rw [hv]; simp) (h.first b (by rw [hv]; rfl))
      rw [List.dropWhile_cons, if_neg (by rw [hb]; decide)]
  have hR : trimR (t.value.data.toList) = t.value.data.toList := by
    have hl := h.last
    unfold trimR
    rw [← List.head?_reverse] at hl
    cases hv : t.value.data.toList.reverse with
    | nil => rw [List.reverse_eq_nil_iff] at hv; exact absurd hv hne
    | cons b l =>
      have hb : isBQ b = false := hbq b (by rw [← List.mem_reverse, hv]; simp) (hl b (by rw [hv]; rfl))
      rw [List.dropWhile_cons, if_neg (by rw [hb]; decide), ← hv, List.reverse_reverse]
  unfold Tr.raw
  split
  · have h1 : trimL (34 :: (t.value.data.toList ++ [34])) = t.value.data.toList ++ [34] := by
      unfold trimL at hL ⊢
      rw [List.dropWhile_cons, if_pos (by decide)]
      cases hv : t.value.data.toList with
      | nil => exact absurd hv hne
      | cons b l =>
        have hb : isBQ b = false := hbq b (by rw [hv]; simp) (h.first b (by rw [hv]; rfl))
        rw [List.cons_append, List.dropWhile_cons, if_neg (by rw [hb]; decide)]
    rw [h1]
    unfold trimR at hR ⊢
    rw [List.reverse_append, List.reverse_singleton, List.singleton_append, List.dropWhile_cons, if_pos (by decide)]
    exact hR
  · rw [hL, hR]
end Go.Proofs.Ytbehijhpichniaa
