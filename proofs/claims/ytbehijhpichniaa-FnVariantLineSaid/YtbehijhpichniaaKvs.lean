/- The reader's rounds, as laws of kvAll. -/
import Derived.Test.YtbehijhpichniaaKv
namespace Go.Proofs.Ytbehijhpichniaa
theorem kv_end {l : List UInt8} {p : Nat} (h : l.length ≤ p) : kvAll (l.drop p) = [] := by
  rw [List.drop_eq_nil_of_le h, kvAll, dif_pos rfl]
theorem drop_ne {l : List UInt8} {p : Nat} (h : p < l.length) : l.drop p ≠ [] := by
  intro e
  have := congrArg List.length e
  simp only [List.length_drop, List.length_nil] at this
  omega
theorem kv_skip {l : List UInt8} {p e : Nat} (h : p < l.length) (he : e = p + skip nameB (l.drop p)) (hc : e = p ∨ e = l.length ∨ l[e]? ≠ some 61) : kvAll (l.drop p) = kvAll (l.drop (max e (p + 1))) := by
  rw [kvAll, dif_neg (drop_ne h)]
  have hn : skip nameB (l.drop p) = e - p := by omega
  have hge : p ≤ e := by omega
  simp only [hn]
  rw [if_pos]
  · rw [List.drop_drop]
    congr 2
    omega
  · rcases hc with rfl | rfl | hc
    · exact .inl (by omega)
    · exact .inr (.inl (by rw [List.length_drop]))
    · refine .inr (.inr ?_)
      rw [List.getElem?_drop, show p + (e - p) = e by omega]
      exact hc
theorem kv_mid {l : List UInt8} {p e : Nat} (h : p < l.length) (he : e = p + skip nameB (l.drop p)) (h1 : e ≠ p) (h2 : e ≠ l.length) (h3 : l[e]? = some 61) :
    kvAll (l.drop p) = if valueOf (l.drop (e + 1)) = 0 then kvAll (l.drop (e + 1)) else ((l.drop p).take (e - p), (l.drop (e + 1)).take (valueOf (l.drop (e + 1)))) :: kvAll (l.drop (e + 1 + valueOf (l.drop (e + 1)))) := by
  rw [kvAll, dif_neg (drop_ne h)]
  have hn : skip nameB (l.drop p) = e - p := by omega
  have hge : p ≤ e := by omega
  simp only [hn, List.drop_drop, show p + (e - p + 1) = e + 1 by omega]
  rw [if_neg]
  · split
    · rfl
    · congr 2
      congr 1
      omega
  · rintro (e1 | e1 | e1)
    · omega
    · rw [List.length_drop] at e1; omega
    · rw [List.getElem?_drop, show p + (e - p) = e by omega] at e1; exact e1 h3
theorem kv_zero {l : List UInt8} {p e : Nat} (h : p < l.length) (he : e = p + skip nameB (l.drop p)) (h1 : e ≠ p) (h2 : e ≠ l.length) (h3 : l[e]? = some 61) (hv : valueOf (l.drop (e + 1)) = 0) : kvAll (l.drop p) = kvAll (l.drop (e + 1)) := by
  rw [kv_mid h he h1 h2 h3, if_pos hv]
theorem kv_pair {l : List UInt8} {p e v : Nat} (h : p < l.length) (he : e = p + skip nameB (l.drop p)) (h1 : e ≠ p) (h2 : e ≠ l.length) (h3 : l[e]? = some 61) (hv : v = valueOf (l.drop (e + 1))) (hv0 : v ≠ 0) : kvAll (l.drop p) = ((l.drop p).take (e - p), (l.drop (e + 1)).take v) :: kvAll (l.drop (e + 1 + v)) := by
  subst hv
  rw [kv_mid h he h1 h2 h3, if_neg hv0]
end Go.Proofs.Ytbehijhpichniaa
