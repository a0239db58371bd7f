/- Plain words for the reader of attribute lists, over lists of bytes. -/
namespace Go.Proofs.Ytbehijhpichniaa
/-- A byte of an attribute's name. -/
def nameB (b : UInt8) : Bool := (97 ≤ b.toNat && b.toNat ≤ 122) || (65 ≤ b.toNat && b.toNat ≤ 90) || (48 ≤ b.toNat && b.toNat ≤ 57) || b.toNat == 95 || b.toNat == 45
/-- How many bytes ahead are such. -/
def skip (p : UInt8 → Bool) (l : List UInt8) : Nat := (l.takeWhile p).length
theorem skip_nil (p : UInt8 → Bool) : skip p [] = 0 := rfl
theorem skip_cons (p : UInt8 → Bool) (b : UInt8) (l : List UInt8) : skip p (b :: l) = if p b then skip p l + 1 else 0 := by
  unfold skip
  rw [List.takeWhile_cons]
  split <;> simp
theorem skip_le (p : UInt8 → Bool) (l : List UInt8) : skip p l ≤ l.length := (List.takeWhile_prefix p).length_le
theorem drop_get {l : List UInt8} {k : Nat} {b : UInt8} (h : l[k]? = some b) : l.drop k = b :: l.drop (k + 1) := by
  obtain ⟨hk, rfl⟩ := List.getElem?_eq_some_iff.1 h
  exact List.drop_eq_getElem_cons hk
theorem skip_step {p : UInt8 → Bool} {l : List UInt8} {k n : Nat} {b : UInt8} (hb : l[k]? = some b) (hp : p b = true) (h : n = k + skip p (l.drop k)) : n = (k + 1) + skip p (l.drop (k + 1)) := by
  rw [h, drop_get hb, skip_cons, if_pos hp]; omega
theorem skip_stop {p : UInt8 → Bool} {l : List UInt8} {k n : Nat} {b : UInt8} (hb : l[k]? = some b) (hp : p b = false) (h : n = k + skip p (l.drop k)) : n = k := by
  rw [h, drop_get hb, skip_cons, if_neg (by simp [hp])]; rfl
theorem skip_end {p : UInt8 → Bool} {l : List UInt8} {k n : Nat} (hk : l.length ≤ k) (h : n = k + skip p (l.drop k)) : n = k := by
  rw [h, List.drop_eq_nil_of_le hk, skip_nil]; rfl
/-- The bytes of a value ahead of a text: between quotes, or up to a quote or a comma; 0 of none. -/
def valueOf (l : List UInt8) : Nat :=
  if l.head? = some 34 then (let n := 1 + skip (fun b => b != 34) (l.drop 1); if n < l.length ∧ 1 < n then n + 1 else 0) else skip (fun b => b != 34 && b != 44) l
theorem valueOf_le (l : List UInt8) : valueOf l ≤ l.length := by
  unfold valueOf
  split
  · dsimp only
    split <;> omega
  · exact skip_le _ _
/-- The pairs that pub/m3u8.reKeyValue finds. -/
def kvAll (l : List UInt8) : List (List UInt8 × List UInt8) :=
  if h : l = [] then [] else
    let n := skip nameB l
    if n = 0 ∨ n = l.length ∨ l[n]? ≠ some 61 then kvAll (l.drop (max n 1))
    else
      let v := valueOf (l.drop (n + 1))
      if v = 0 then kvAll (l.drop (n + 1)) else (l.take n, (l.drop (n + 1)).take v) :: kvAll (l.drop (n + 1 + v))
termination_by l.length
decreasing_by all_goals (have := List.length_pos_iff.2 h; simp only [List.length_drop]; omega)
end Go.Proofs.Ytbehijhpichniaa
