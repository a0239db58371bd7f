/- A variant's attributes as names and values, in plain Lean: what they are, that their names differ. -/
import Derived.Test.YtbehijhpichniaaJoin
namespace Go.Proofs.Ytbehijhpichniaa
open Go.RowKit
/-- A name, a value, whether it stands between quotes. -/
structure Tr where
  name : ByteArray
  value : ByteArray
  q : Bool
def Tr.text (t : Tr) : ByteArray := attr t.name t.value t.q
/-- Fit to be read again. -/
structure Tr.Good (t : Tr) : Prop where
  name0 : t.name.data.toList ≠ []
  name : ∀ b ∈ t.name.data.toList, nameB b = true
  value0 : t.value.data.toList ≠ []
  quote : ∀ b ∈ t.value.data.toList, b ≠ 34
  comma : t.q = false → ∀ b ∈ t.value.data.toList, b ≠ 44
  first : ∀ b, t.value.data.toList.head? = some b → b ≠ 32
  last : ∀ b, t.value.data.toList.getLast? = some b → b ≠ 32
  size : t.name.size ≤ 100 ∧ t.value.size ≤ 100
def optT (c : Bool) (x : Tr) : List Tr := if c then [x] else []
def Vt.trs (v : Vt) : List Tr := [⟨⟨#[80, 82, 79, 71, 82, 65, 77, 45, 73, 68]⟩, dec v.program, false⟩, ⟨⟨#[66, 65, 78, 68, 87, 73, 68, 84, 72]⟩, dec v.bandwidth, false⟩] ++ optT (decide (0 < v.average)) ⟨⟨#[65, 86, 69, 82, 65, 71, 69, 45, 66, 65, 78, 68, 87, 73, 68, 84, 72]⟩, dec v.average, false⟩
  ++ optT (!v.codecs.toList.isEmpty) ⟨⟨#[67, 79, 68, 69, 67, 83]⟩, v.codecs, true⟩ ++ optT (decide (0 < v.width)) ⟨⟨#[82, 69, 83, 79, 76, 85, 84, 73, 79, 78]⟩, v.resolution, false⟩ ++ optT (!v.audio.toList.isEmpty) ⟨⟨#[65, 85, 68, 73, 79]⟩, v.audio, true⟩
  ++ optT (!v.video.toList.isEmpty) ⟨⟨#[86, 73, 68, 69, 79]⟩, v.video, true⟩ ++ optT (!v.captions.toList.isEmpty) ⟨⟨#[67, 76, 79, 83, 69, 68, 45, 67, 65, 80, 84, 73, 79, 78, 83]⟩, v.captions, !(v.captions.toList == [78, 79, 78, 69])⟩
  ++ optT (!v.subtitles.toList.isEmpty) ⟨⟨#[83, 85, 66, 84, 73, 84, 76, 69, 83]⟩, v.subtitles, true⟩ ++ optT (!v.name.toList.isEmpty) ⟨⟨#[78, 65, 77, 69]⟩, v.name, true⟩ ++ optT (decide (0 < v.rate)) ⟨⟨#[70, 82, 65, 77, 69, 45, 82, 65, 84, 69]⟩, secs v.rate, false⟩
theorem opt_map (c : Bool) (x : Tr) : opt c x.text = (optT c x).map Tr.text := by cases c <;> rfl
theorem Vt.attrs_trs (v : Vt) : v.attrs = v.trs.map Tr.text := by
  unfold Vt.attrs Vt.at9 Vt.at8 Vt.at7 Vt.at6 Vt.at5 Vt.at4 Vt.at3 Vt.at2 Vt.at1 Vt.at0 Vt.trs
  simp only [List.map_append, ← opt_map]
  rfl
def allNames : List ByteArray := [⟨#[80, 82, 79, 71, 82, 65, 77, 45, 73, 68]⟩, ⟨#[66, 65, 78, 68, 87, 73, 68, 84, 72]⟩, ⟨#[65, 86, 69, 82, 65, 71, 69, 45, 66, 65, 78, 68, 87, 73, 68, 84, 72]⟩, ⟨#[67, 79, 68, 69, 67, 83]⟩, ⟨#[82, 69, 83, 79, 76, 85, 84, 73, 79, 78]⟩, ⟨#[65, 85, 68, 73, 79]⟩, ⟨#[86, 73, 68, 69, 79]⟩,
  ⟨#[67, 76, 79, 83, 69, 68, 45, 67, 65, 80, 84, 73, 79, 78, 83]⟩, ⟨#[83, 85, 66, 84, 73, 84, 76, 69, 83]⟩, ⟨#[78, 65, 77, 69]⟩, ⟨#[70, 82, 65, 77, 69, 45, 82, 65, 84, 69]⟩]
theorem opt_sub (c : Bool) (x : Tr) (n : ByteArray) (h : x.name = n) : List.Sublist ((optT c x).map Tr.name) [n] := by
  subst h
  cases c
  · exact List.nil_sublist _
  · exact List.Sublist.refl _
theorem Vt.names_sub (v : Vt) : List.Sublist (v.trs.map Tr.name) allNames := by
  unfold Vt.trs
  simp only [List.map_append]
  have e : allNames = [⟨#[80, 82, 79, 71, 82, 65, 77, 45, 73, 68]⟩, ⟨#[66, 65, 78, 68, 87, 73, 68, 84, 72]⟩] ++ [⟨#[65, 86, 69, 82, 65, 71, 69, 45, 66, 65, 78, 68, 87, 73, 68, 84, 72]⟩] ++ [⟨#[67, 79, 68, 69, 67, 83]⟩] ++ [⟨#[82, 69, 83, 79, 76, 85, 84, 73, 79, 78]⟩] ++ [⟨#[65, 85, 68, 73, 79]⟩] ++ [⟨#[86, 73, 68, 69, 79]⟩]
    ++ [⟨#[67, 76, 79, 83, 69, 68, 45, 67, 65, 80, 84, 73, 79, 78, 83]⟩] ++ [⟨#[83, 85, 66, 84, 73, 84, 76, 69, 83]⟩] ++ [⟨#[78, 65, 77, 69]⟩] ++ [⟨#[70, 82, 65, 77, 69, 45, 82, 65, 84, 69]⟩] := rfl
  rw [e]
  refine ((((((((List.Sublist.append ?_ (opt_sub _ _ _ rfl)).append (opt_sub _ _ _ rfl)).append (opt_sub _ _ _ rfl)).append (opt_sub _ _ _ rfl)).append (opt_sub _ _ _ rfl)).append (opt_sub _ _ _ rfl)).append (opt_sub _ _ _ rfl)).append (opt_sub _ _ _ rfl)).append (opt_sub _ _ _ rfl)
  exact List.Sublist.refl _
theorem allNames_nodup : allNames.Nodup := by
  have : (allNames.map fun s => s.data.toList).Nodup := by decide +kernel
  exact (List.pairwise_map.1 this).imp fun h e => h (by rw [e])
theorem Vt.names_nodup (v : Vt) : (v.trs.map Tr.name).Nodup := List.Nodup.sublist v.names_sub allNames_nodup
theorem Vt.trs_len (v : Vt) : v.trs.length ≤ 11 := by have := v.names_sub.length_le; simpa [allNames] using this
theorem names_good : ∀ n ∈ allNames, n.data.toList ≠ [] ∧ (∀ b ∈ n.data.toList, nameB b = true) ∧ n.size ≤ 100 := by
  intro n hn
  simp only [allNames, List.mem_cons, List.not_mem_nil, or_false] at hn
  rcases hn with rfl | rfl | rfl | rfl | rfl | rfl | rfl | rfl | rfl | rfl | rfl <;> exact ⟨by simp, by decide +kernel, by decide⟩
/-- A digit, a point, an x. -/
def numB (b : UInt8) : Bool := (48 ≤ b.toNat && b.toNat ≤ 57) || b.toNat == 46 || b.toNat == 120
structure Num (s : ByteArray) : Prop where
  ne : s.data.toList ≠ []
  all : ∀ b ∈ s.data.toList, numB b = true
theorem Num.append {s t : ByteArray} (hs : Num s) (ht : Num t) : Num (s ++ t) := by
  refine ⟨?_, ?_⟩
  · rw [ByteArray.data_append]; simp only [Array.toList_append, ne_eq, List.append_eq_nil_iff, not_and]; exact fun h => absurd h hs.ne
  · intro b hb
    rw [ByteArray.data_append, Array.toList_append, List.mem_append] at hb
    rcases hb with hb | hb
    · exact hs.all b hb
    · exact ht.all b hb
theorem num_digit : ∀ d : Fin 10, numB (UInt8.ofNat (48 + d.val)) = true := by decide +kernel
theorem num_one {d : Nat} (h : d < 10) : Num ⟨#[UInt8.ofNat (48 + d)]⟩ := ⟨by simp, fun b hb => by rw [List.mem_singleton.1 hb]; exact num_digit ⟨d, h⟩⟩
theorem dec_num : ∀ n : Nat, Num (dec n) := by
  intro n
  induction n using Nat.strongRecOn with
  | ind n ih =>
    by_cases h : n < 10
    · rw [dec_small h]; exact num_one h
    · rw [dec_large h]; exact (ih (n / 10) (by omega)).append (num_one (by omega))
theorem secs_num (n : Nat) : Num (secs n) := by
  unfold secs
  exact ((((dec_num _).append ⟨by simp, by intro b hb; simp at hb; rw [hb]; decide⟩).append (dec_num _)).append (dec_num _)).append (dec_num _)
theorem Vt.res_num (v : Vt) (h : 0 < v.width) : Num v.resolution := by
  unfold Vt.resolution
  rw [if_neg (by omega)]
  exact ((dec_num _).append ⟨by simp, by intro b hb; simp at hb; rw [hb]; decide⟩).append (dec_num _)
theorem num_not {b : UInt8} (h : numB b = true) : b ≠ 34 ∧ b ≠ 44 ∧ b ≠ 32 := by
  refine ⟨?_, ?_, ?_⟩ <;> (rintro rfl; exact absurd h (by decide))
theorem good_num {n s : ByteArray} (hn : n ∈ allNames) (h : Num s) (hz : s.size ≤ 100) : Tr.Good ⟨n, s, false⟩ := by
  obtain ⟨h1, h2, h3⟩ := names_good n hn
  refine ⟨h1, h2, h.ne, fun b hb => (num_not (h.all b hb)).1, fun _ b hb => (num_not (h.all b hb)).2.1, fun b hb => (num_not (h.all b (List.mem_of_mem_head? hb))).2.2, fun b hb => (num_not (h.all b (List.mem_of_mem_getLast? hb))).2.2, h3, hz⟩
/-- A text that may stand between quotes. -/
def quoted (s : ByteArray) : Bool := !s.data.toList.isEmpty && s.data.toList.all (· != 34) && s.data.toList.head? != some 32 && s.data.toList.getLast? != some 32 && decide (s.size ≤ 100)
theorem good_quoted {n s : ByteArray} {q : Bool} (hn : n ∈ allNames) (h : quoted s = true) (hq : q = false → ∀ b ∈ s.data.toList, b ≠ 44) : Tr.Good ⟨n, s, q⟩ := by
  obtain ⟨h1, h2, h3⟩ := names_good n hn
  simp only [quoted, Bool.and_eq_true, Bool.not_eq_true', List.all_eq_true, bne_iff_ne, ne_eq, decide_eq_true_eq] at h
  obtain ⟨⟨⟨⟨g1, g2⟩, g3⟩, g4⟩, g5⟩ := h
  exact ⟨h1, h2, fun e => (by rw [e] at g1; cases g1), g2, hq, (fun b hb e => g3 (by rw [hb, e])), (fun b hb e => g4 (by rw [hb, e])), h3, g5⟩
theorem one_quoted {n s : ByteArray} {l : List ByteArray} (hn : n ∈ allNames) (hs : s ∈ l) (hl : ∀ x ∈ l, x.toList.isEmpty = true ∨ quoted x = true) : ∀ t ∈ optT (!s.toList.isEmpty) ⟨n, s, true⟩, t.Good := by
  intro t ht
  rcases hl s hs with h | h
  · rw [h] at ht; simp [optT] at ht
  · unfold optT at ht
    split at ht
    · rw [List.mem_singleton.1 ht]; exact good_quoted hn h (fun h => nomatch h)
    · simp at ht
theorem empty_or (s : ByteArray) (h : s.data.toList.isEmpty = true ∨ quoted s = true) : s.toList.isEmpty = true ∨ quoted s = true := by rw [ByteArray.toList_eq]; exact h
theorem Vt.trs_good {v : Vt} (h : VOk v) : ∀ t ∈ v.trs, t.Good := by
  have hok := h.ok
  have opt1 : ∀ {c : Bool} {x : Tr}, (c = true → x.Good) → ∀ t ∈ optT c x, t.Good := by
    intro c x hx t ht
    cases c
    · simp [optT] at ht
    · rw [show t = x from by simpa [optT] using ht]; exact hx rfl
  have grp : ∀ {s : ByteArray}, isGroup s → s ∈ [(⟨#[]⟩ : ByteArray), ⟨#[103]⟩, ⟨#[104]⟩] := by rintro s (rfl | rfl | rfl) <;> simp
  have grpq : ∀ x ∈ [(⟨#[]⟩ : ByteArray), ⟨#[103]⟩, ⟨#[104]⟩], x.toList.isEmpty = true ∨ quoted x = true := by
    intro x hx; apply empty_or; revert x; decide +kernel
  intro t ht
  unfold Vt.trs at ht
  simp only [List.mem_append, or_assoc] at ht
  rcases ht with ht | ht | ht | ht | ht | ht | ht | ht | ht | ht
  · simp only [List.mem_cons, List.not_mem_nil, or_false] at ht
    rcases ht with rfl | rfl
    · exact good_num (by simp [allNames]) (dec_num _) (by have := dec_u32 hok.program; omega)
    · exact good_num (by simp [allNames]) (dec_num _) (by have := dec_u32 hok.bandwidth; omega)
  · exact opt1 (fun _ => good_num (by simp [allNames]) (dec_num _) (by have := dec_u32 hok.average; omega)) t ht
  · exact one_quoted (by simp [allNames]) h.codecs (by intro x hx; apply empty_or; revert x; decide +kernel) t ht
  · exact opt1 (fun hc => good_num (by simp [allNames]) (v.res_num (by simpa using hc)) (by have := Vt.resolution_size hok; omega)) t ht
  · exact one_quoted (by simp [allNames]) (grp h.audio) grpq t ht
  · exact one_quoted (by simp [allNames]) (grp h.video) grpq t ht
  · have hcap := h.captions
    simp only [OneOf, List.mem_cons, List.not_mem_nil, or_false] at hcap
    rcases hcap with e | e | e
    · rw [e] at ht; simp [optT, toList_nil] at ht
    · rw [e] at ht
      refine opt1 (fun _ => good_quoted (by simp [allNames]) (by decide +kernel) (fun _ => by decide +kernel)) t ht
    · rw [e] at ht
      refine opt1 (fun _ => good_quoted (by simp [allNames]) (by decide +kernel) (fun _ => by decide +kernel)) t ht
  · exact one_quoted (by simp [allNames]) (grp h.subtitles) grpq t ht
  · exact one_quoted (by simp [allNames]) h.name (by intro x hx; apply empty_or; revert x; decide +kernel) t ht
  · exact opt1 (fun _ => good_num (by simp [allNames]) (secs_num _) (by have := secs_size (n := v.rate) (by have := h.rate; omega); omega)) t ht
end Go.Proofs.Ytbehijhpichniaa
