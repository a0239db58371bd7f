/- Joined: Wr. -/
import Derived.Test.YtfonjeoiallhhaaGreatDoorB18
/- The walk of spec.Media.Write: a media playlist's text, its lines in the order that they have. -/
namespace Go.Proofs.YtfonjeoiallhhaaGreatDoor
open Go.RowKit
/-- Texts behind a text. -/
def cat (o : ByteArray) (L : List ByteArray) : ByteArray := L.foldl (fun o l => o ++ l) o
theorem cat_snoc (o : ByteArray) (L : List ByteArray) (x : ByteArray) : cat o (L ++ [x]) = cat o L ++ x := by simp [cat]
theorem cat_size {o : ByteArray} {c : Nat} : ∀ {L : List ByteArray}, (∀ s ∈ L, s.size ≤ c) → (cat o L).size ≤ o.size + L.length * c := by
 intro L
 induction L generalizing o with
 | nil => intro _; simp [cat]
 | cons x L ih =>
  intro h
  have h1 := ih (o := o ++ x) (fun s hs => h s (List.mem_cons_of_mem _ hs))
  have h2 := h x (by simp)
  have e : cat o (x :: L) = cat (o ++ x) L := rfl
  rw [e, List.length_cons, Nat.add_mul]
  rw [ByteArray.size_append'] at h1
  omega
theorem take_snoc {α : Type} {L : List α} {k : Nat} {x : α} (h : L[k]? = some x) : L.take (k + 1) = L.take k ++ [x] := by
 rw [List.take_add_one, h]
 rfl
theorem Ky.text_size {k : Ky} (h : KySz k) : k.text.size ≤ 400 := by
 obtain ⟨q1, q2, q3, q4, q5⟩ := h
 unfold Ky.text
 dsimp only
 split
 ·simp only [ByteArray.size_append', ByteArray.size_mk', List.size_toArray, List.length_cons, List.length_nil]; omega
 ·repeat' split
  all_goals (simp only [ByteArray.size_append', ByteArray.size_mk', List.size_toArray, List.length_cons, List.length_nil]; omega)
theorem Mp.text_size {m : Mp} (h : MapOk m) : m.text.size ≤ 400 := by
 obtain ⟨h1, h2⟩ := h
 have h3 := h1.size
 have h4 := dec_le (n := m.limit) (by omega)
 have h5 := dec_le (n := m.offset) (by omega)
 unfold Mp.text
 dsimp only
 split <;> (simp only [ByteArray.size_append', ByteArray.size_mk', List.size_toArray, List.length_cons, List.length_nil]; omega)
theorem mem_app_if {α : Type} {c : Prop} [Decidable c] {L K : List α} {x : α} (h : x ∈ (if c then L ++ K else L)) : x ∈ L ∨ (c ∧ x ∈ K) := by
 split at h
 ·rename_i hc
  rcases List.mem_append.1 h with h | h
  ·exact .inl h
  ·exact .inr ⟨hc, h⟩
 ·exact .inl h
theorem lines_size {s : Sm} (h : SegLn s) : ∀ l ∈ s.lines, l.size ≤ 400 := by
 have he := h.e
 have hpt := h.part
 have hzt := h.title.size
 have hzd := h.date.size
 have hd1 := dec_le (n := s.limit) (by omega)
 have hd2 := dec_le (n := s.offset) (by omega)
 have hd3 := secs_size (n := s.e) (by omega)
 intro l hl
 unfold Sm.lines at hl
 dsimp only at hl
 rcases List.mem_append.1 hl with hl | hl
 ·rcases mem_app_if hl with hl | ⟨hc, hl⟩
  ·rcases mem_app_if hl with hl | ⟨hc, hl⟩
   ·rcases mem_app_if hl with hl | ⟨hc, hl⟩
    ·rcases mem_app_if hl with hl | ⟨hc, hl⟩
     ·split at hl
      ·rename_i hc
       rw [List.nil_append, List.mem_singleton] at hl
       subst hl
       cases hk : s.key with
       | none => rw [hk] at hc; cases hc
       | some k => exact Ky.text_size (h.key k hk).sz
      ·cases hl
     ·rw [List.mem_singleton.1 hl]; decide
    ·rw [List.mem_singleton.1 hl]
     cases hk : s.map with
     | none => rw [hk] at hc; cases hc
     | some k => exact Mp.text_size (h.map k hk)
   ·rw [List.mem_singleton.1 hl]; simp only [ByteArray.size_append', ByteArray.size_mk', List.size_toArray, List.length_cons, List.length_nil]; omega
  ·rw [List.mem_singleton.1 hl]; simp only [ByteArray.size_append', ByteArray.size_mk', List.size_toArray, List.length_cons, List.length_nil]; omega
 ·rw [List.mem_singleton.1 hl]; simp only [ByteArray.size_append', ByteArray.size_mk', List.size_toArray, List.length_cons, List.length_nil]; omega
theorem lines_len (s : Sm) : s.lines.length ≤ 6 := by
 unfold Sm.lines
 dsimp only
 rw [List.length_append]
 have : ∀ {c : Prop} [Decidable c] (L K : List ByteArray), (if c then L ++ K else L).length ≤ L.length + K.length := by
  intro c _ L K
  split <;> simp
 refine Nat.le_trans (Nat.add_le_add_right (this _ _) _) ?_
 refine Nat.le_trans (Nat.add_le_add_right (Nat.add_le_add_right (this _ _) _) _) ?_
 refine Nat.le_trans (Nat.add_le_add_right (Nat.add_le_add_right (Nat.add_le_add_right (this _ _) _) _) _) ?_
 refine Nat.le_trans (Nat.add_le_add_right (Nat.add_le_add_right (Nat.add_le_add_right (Nat.add_le_add_right (this _ _) _) _) _) _) ?_
 refine Nat.le_trans (Nat.add_le_add_right (Nat.add_le_add_right (Nat.add_le_add_right (Nat.add_le_add_right (Nat.add_le_add_right (this _ _) _) _) _) _) _) ?_
 simp
theorem head_size {m : Md} (h : MdOk m) : (∀ l ∈ m.head, l.size ≤ 400) ∧ m.head.length ≤ 6 := by
 obtain ⟨p1, p2, p3, p4, p5, p6, p7⟩ := h
 have hd1 := dec_le (n := m.seq) (by omega)
 have hd2 := dec_le (n := m.target) (by omega)
 have hd3 := dec_le (n := m.disc) (by omega)
 have hd4 := shorts_size (e := m.start) (by omega)
 unfold Md.head
 dsimp only
 constructor
 ·intro l hl
  rcases mem_app_if hl with hl | ⟨_, hl⟩
  ·rcases mem_app_if hl with hl | ⟨_, hl⟩
   ·have hl2 : l ∈ ((if m.typ = 1 then [] ++ [(⟨#[35, 69, 88, 84, 45, 88, 45, 80, 76, 65, 89, 76, 73, 83, 84, 45, 84, 89, 80, 69, 58, 69, 86, 69, 78, 84, 10]⟩ : ByteArray)] else if m.typ = 2 then [] ++ [(⟨#[35, 69, 88, 84, 45, 88, 45, 80, 76, 65, 89, 76, 73, 83, 84, 45, 84, 89, 80, 69, 58, 86, 79, 68, 10]⟩ : ByteArray)] else []) ++ [((⟨#[35, 69, 88, 84, 45, 88, 45, 77, 69, 68, 73, 65, 45, 83, 69, 81, 85, 69, 78, 67, 69, 58]⟩ : ByteArray) ++ (dec m.seq)) ++ (⟨#[10]⟩ : ByteArray), ((⟨#[35, 69, 88, 84, 45, 88, 45, 84, 65, 82, 71, 69, 84, 68, 85, 82, 65, 84, 73, 79, 78, 58]⟩ : ByteArray) ++ (dec m.target)) ++ (⟨#[10]⟩ : ByteArray)] : List ByteArray) ∨ l = (((⟨#[35, 69, 88, 84, 45, 88, 45, 83, 84, 65, 82, 84, 58, 84, 73, 77, 69, 45, 79, 70, 70, 83, 69, 84, 61]⟩ : ByteArray) ++ (shorts m.start)) ++ (⟨#[44, 80, 82, 69, 67, 73, 83, 69, 61, 89, 69, 83]⟩ : ByteArray)) ++ (⟨#[10]⟩ : ByteArray) ∨ l = ((⟨#[35, 69, 88, 84, 45, 88, 45, 83, 84, 65, 82, 84, 58, 84, 73, 77, 69, 45, 79, 70, 70, 83, 69, 84, 61]⟩ : ByteArray) ++ (shorts m.start)) ++ (⟨#[10]⟩ : ByteArray) := by
     split at hl
     ·split at hl
      ·rcases List.mem_append.1 hl with hl | hl
       ·exact .inl hl
       ·exact .inr (.inl (List.mem_singleton.1 hl))
      ·rcases List.mem_append.1 hl with hl | hl
       ·exact .inl hl
       ·exact .inr (.inr (List.mem_singleton.1 hl))
     ·exact .inl hl
    rcases hl2 with hl | rfl | rfl
    ·rcases List.mem_append.1 hl with hl | hl
     ·split at hl
      ·rw [List.nil_append, List.mem_singleton] at hl; rw [hl]; decide
      ·split at hl
       ·rw [List.nil_append, List.mem_singleton] at hl; rw [hl]; decide
       ·cases hl
     ·simp only [List.mem_cons, List.not_mem_nil, or_false] at hl
      rcases hl with rfl | rfl <;> (simp only [ByteArray.size_append', ByteArray.size_mk', List.size_toArray, List.length_cons, List.length_nil]; omega)
    ·simp only [ByteArray.size_append', ByteArray.size_mk', List.size_toArray, List.length_cons, List.length_nil]; omega
    ·simp only [ByteArray.size_append', ByteArray.size_mk', List.size_toArray, List.length_cons, List.length_nil]; omega
   ·rw [List.mem_singleton.1 hl]; simp only [ByteArray.size_append', ByteArray.size_mk', List.size_toArray, List.length_cons, List.length_nil]; omega
  ·rw [List.mem_singleton.1 hl]; decide
 ·repeat' split
  all_goals simp

end Go.Proofs.YtfonjeoiallhhaaGreatDoor
