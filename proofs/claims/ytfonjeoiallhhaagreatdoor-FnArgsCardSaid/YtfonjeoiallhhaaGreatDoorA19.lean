/- Joined: Wr. -/
import Derived.Test.YtfonjeoiallhhaaGreatDoorA18
/- The walk of spec.Media.Write: a media playlist's text, its lines in the order that they have. -/
set_option maxRecDepth 100000
set_option maxHeartbeats 8000000
namespace Go.Proofs.YtfonjeoiallhhaaGreatDoor
open Go.RowKit
/-- Texts behind a text. -/
def cat (o : ByteArray) (L : List ByteArray) : ByteArray := L.foldl (fun o l => o ++ l) o
def catS (o : ByteArray) (L : List Sm) : ByteArray := L.foldl (fun o s => cat o s.lines ++ (s.uri ++ (⟨#[10]⟩ : ByteArray))) o
def Md.write (m : Md) (L : List Sm) : ByteArray :=
 let o := catS (cat (((⟨#[35, 69, 88, 84, 77, 51, 85, 10, 35, 69, 88, 84, 45, 88, 45, 86, 69, 82, 83, 73, 79, 78, 58]⟩ : ByteArray) ++ (dec m.version)) ++ (⟨#[10]⟩ : ByteArray)) m.head) L
 if m.closed = true then o ++ (⟨#[35, 69, 88, 84, 45, 88, 45, 69, 78, 68, 76, 73, 83, 84, 10]⟩ : ByteArray) else o
theorem cat_snoc (o : ByteArray) (L : List ByteArray) (x : ByteArray) : cat o (L ++ [x]) = cat o L ++ x := by simp [cat]
theorem catS_snoc (o : ByteArray) (L : List Sm) (x : Sm) : catS o (L ++ [x]) = cat (catS o L) x.lines ++ (x.uri ++ (⟨#[10]⟩ : ByteArray)) := by simp [catS]
theorem cat_size {o : ByteArray} {c : Nat} : ∀ {L : List ByteArray}, (∀ s ∈ L, s.size ≤ c) → (cat o L).size ≤ o.size + L.length * c := by
 intro L
 induction L generalizing o with
 | nil => intro _; simp [cat]
 | cons x L ih =>
  intro h
  have h1 := ih (o := o ++ x) (fun s hs => h s (List.mem_cons_of_mem _ hs))
  have h2 := h x (by simp)
  have e : cat o (x :: L) = cat (o ++ x) L := rfl
  rw [e, List.length_cons, Nat.add_mul]
  rw [ByteArray.size_append'] at h1
  omega
theorem take_snoc {α : Type} {L : List α} {k : Nat} {x : α} (h : L[k]? = some x) : L.take (k + 1) = L.take k ++ [x] := by
 rw [List.take_add_one, h]
 rfl
theorem Ky.text_size {k : Ky} (h : KySz k) : k.text.size ≤ 400 := by
 obtain ⟨q1, q2, q3, q4, q5⟩ := h
 unfold Ky.text
 dsimp only
 split
 ·simp only [ByteArray.size_append', ByteArray.size_mk', List.size_toArray, List.length_cons, List.length_nil]; omega
 ·repeat' split
  all_goals (simp only [ByteArray.size_append', ByteArray.size_mk', List.size_toArray, List.length_cons, List.length_nil]; omega)
theorem Mp.text_size {m : Mp} (h : MapOk m) : m.text.size ≤ 400 := by
 obtain ⟨h1, h2⟩ := h
 have h3 := h1.size
 have h4 := dec_le (n := m.limit) (by omega)
 have h5 := dec_le (n := m.offset) (by omega)
 unfold Mp.text
 dsimp only
 split <;> (simp only [ByteArray.size_append', ByteArray.size_mk', List.size_toArray, List.length_cons, List.length_nil]; omega)
theorem mem_app_if {α : Type} {c : Prop} [Decidable c] {L K : List α} {x : α} (h : x ∈ (if c then L ++ K else L)) : x ∈ L ∨ (c ∧ x ∈ K) := by
 split at h
 ·rename_i hc
  rcases List.mem_append.1 h with h | h
  ·exact .inl h
  ·exact .inr ⟨hc, h⟩
 ·exact .inl h
theorem lines_size {s : Sm} (h : SegLn s) : ∀ l ∈ s.lines, l.size ≤ 400 := by
 have he := h.e
 have hpt := h.part
 have hzt := h.title.size
 have hzd := h.date.size
 have hd1 := dec_le (n := s.limit) (by omega)
 have hd2 := dec_le (n := s.offset) (by omega)
 have hd3 := secs_size (n := s.e) (by omega)
 intro l hl
 unfold Sm.lines at hl
 dsimp only at hl
 rcases List.mem_append.1 hl with hl | hl
 ·rcases mem_app_if hl with hl | ⟨hc, hl⟩
  ·rcases mem_app_if hl with hl | ⟨hc, hl⟩
   ·rcases mem_app_if hl with hl | ⟨hc, hl⟩
    ·rcases mem_app_if hl with hl | ⟨hc, hl⟩
     ·split at hl
      ·rename_i hc
       rw [List.nil_append, List.mem_singleton] at hl
       subst hl
       cases hk : s.key with
       | none => rw [hk] at hc; cases hc
       | some k => exact Ky.text_size (h.key k hk).sz
      ·cases hl
     ·rw [List.mem_singleton.1 hl]; decide
    ·rw [List.mem_singleton.1 hl]
     cases hk : s.map with
     | none => rw [hk] at hc; cases hc
     | some k => exact Mp.text_size (h.map k hk)
   ·rw [List.mem_singleton.1 hl]; simp only [ByteArray.size_append', ByteArray.size_mk', List.size_toArray, List.length_cons, List.length_nil]; omega
  ·rw [List.mem_singleton.1 hl]; simp only [ByteArray.size_append', ByteArray.size_mk', List.size_toArray, List.length_cons, List.length_nil]; omega
 ·rw [List.mem_singleton.1 hl]; simp only [ByteArray.size_append', ByteArray.size_mk', List.size_toArray, List.length_cons, List.length_nil]; omega
theorem lines_len (s : Sm) : s.lines.length ≤ 6 := by
 unfold Sm.lines
 dsimp only
 rw [List.length_append]
 have : ∀ {c : Prop} [Decidable c] (L K : List ByteArray), (if c then L ++ K else L).length ≤ L.length + K.length := by
  intro c _ L K
  split <;> simp
 refine Nat.le_trans (Nat.add_le_add_right (this _ _) _) ?_
 refine Nat.le_trans (Nat.add_le_add_right (Nat.add_le_add_right (this _ _) _) _) ?_
 refine Nat.le_trans (Nat.add_le_add_right (Nat.add_le_add_right (Nat.add_le_add_right (this _ _) _) _) _) ?_
 refine Nat.le_trans (Nat.add_le_add_right (Nat.add_le_add_right (Nat.add_le_add_right (Nat.add_le_add_right (this _ _) _) _) _) _) ?_
 refine Nat.le_trans (Nat.add_le_add_right (Nat.add_le_add_right (Nat.add_le_add_right (Nat.add_le_add_right (Nat.add_le_add_right (this _ _) _) _) _) _) _) ?_
 simp
theorem head_size {m : Md} (h : MdOk m) : (∀ l ∈ m.head, l.size ≤ 400) ∧ m.head.length ≤ 6 := by
 obtain ⟨p1, p2, p3, p4, p5, p6, p7⟩ := h
 have hd1 := dec_le (n := m.seq) (by omega)
 have hd2 := dec_le (n := m.target) (by omega)
 have hd3 := dec_le (n := m.disc) (by omega)
 have hd4 := shorts_size (e := m.start) (by omega)
 unfold Md.head
 dsimp only
 constructor
 ·intro l hl
  rcases mem_app_if hl with hl | ⟨_, hl⟩
  ·rcases mem_app_if hl with hl | ⟨_, hl⟩
   ·have hl2 : l ∈ ((if m.typ = 1 then [] ++ [(⟨#[35, 69, 88, 84, 45, 88, 45, 80, 76, 65, 89, 76, 73, 83, 84, 45, 84, 89, 80, 69, 58, 69, 86, 69, 78, 84, 10]⟩ : ByteArray)] else if m.typ = 2 then [] ++ [(⟨#[35, 69, 88, 84, 45, 88, 45, 80, 76, 65, 89, 76, 73, 83, 84, 45, 84, 89, 80, 69, 58, 86, 79, 68, 10]⟩ : ByteArray)] else []) ++ [((⟨#[35, 69, 88, 84, 45, 88, 45, 77, 69, 68, 73, 65, 45, 83, 69, 81, 85, 69, 78, 67, 69, 58]⟩ : ByteArray) ++ (dec m.seq)) ++ (⟨#[10]⟩ : ByteArray), ((⟨#[35, 69, 88, 84, 45, 88, 45, 84, 65, 82, 71, 69, 84, 68, 85, 82, 65, 84, 73, 79, 78, 58]⟩ : ByteArray) ++ (dec m.target)) ++ (⟨#[10]⟩ : ByteArray)] : List ByteArray) ∨ l = (((⟨#[35, 69, 88, 84, 45, 88, 45, 83, 84, 65, 82, 84, 58, 84, 73, 77, 69, 45, 79, 70, 70, 83, 69, 84, 61]⟩ : ByteArray) ++ (shorts m.start)) ++ (⟨#[44, 80, 82, 69, 67, 73, 83, 69, 61, 89, 69, 83]⟩ : ByteArray)) ++ (⟨#[10]⟩ : ByteArray) ∨ l = ((⟨#[35, 69, 88, 84, 45, 88, 45, 83, 84, 65, 82, 84, 58, 84, 73, 77, 69, 45, 79, 70, 70, 83, 69, 84, 61]⟩ : ByteArray) ++ (shorts m.start)) ++ (⟨#[10]⟩ : ByteArray) := by
     split at hl
     ·split at hl
      ·rcases List.mem_append.1 hl with hl | hl
       ·exact .inl hl
       ·exact .inr (.inl (List.mem_singleton.1 hl))
      ·rcases List.mem_append.1 hl with hl | hl
       ·exact .inl hl
       ·exact .inr (.inr (List.mem_singleton.1 hl))
     ·exact .inl hl
    rcases hl2 with hl | rfl | rfl
    ·rcases List.mem_append.1 hl with hl | hl
     ·split at hl
      ·rw [List.nil_append, List.mem_singleton] at hl; rw [hl]; decide
      ·split at hl
       ·rw [List.nil_append, List.mem_singleton] at hl; rw [hl]; decide
       ·cases hl
     ·simp only [List.mem_cons, List.not_mem_nil, or_false] at hl
      rcases hl with rfl | rfl <;> (simp only [ByteArray.size_append', ByteArray.size_mk', List.size_toArray, List.length_cons, List.length_nil]; omega)
    ·simp only [ByteArray.size_append', ByteArray.size_mk', List.size_toArray, List.length_cons, List.length_nil]; omega
    ·simp only [ByteArray.size_append', ByteArray.size_mk', List.size_toArray, List.length_cons, List.length_nil]; omega
   ·rw [List.mem_singleton.1 hl]; simp only [ByteArray.size_append', ByteArray.size_mk', List.size_toArray, List.length_cons, List.length_nil]; omega
  ·rw [List.mem_singleton.1 hl]; decide
 ·repeat' split
  all_goals simp

theorem write_any (m : Md) (hm : MdOk m) (B0 : Nat) (sl : Value) (xs : List Sx) (hxl : xs.length ≤ 12) (hxs : ∀ x ∈ xs, SegLn x.1 ∧ x.1.uri.size ≤ 100) (nn : Nat) (w : World) (hT : SegsAt B0 sl xs w) : Calls Tryz.prog 8 #[.agg (m.cells sl), .bool false, .int .u32 (nn : Int)] w fun e w' => e = .returned (.string (m.write (xs.map (·.1)))) ∧ Below w.heap.size w w' := by
 have hv := hm.version
 have hdv := dec_le (n := m.version) (by omega)
 obtain ⟨hhs, hhl⟩ := head_size hm
 have hsl1 := hT.own.one'
 obtain ⟨sA, sc, hsv, _⟩ := hT.own.shape
 refine calls_of_ev Tryz.func8 rfl (show 3 ≤ 77 from by decide) ?_
 intro a hE
 have hE : Ev 77 ((0, .agg (m.cells sl)) :: (1, .bool false) :: (2, .int .u32 ((nn : Nat) : Int)) :: []) a := hE
 have hS : Sv 77 ((0, .agg (m.cells sl)) :: (1, .bool false) :: (2, .int .u32 ((nn : Nat) : Int)) :: []) [] (fun _ => False) w a w := Sv.start hE _ _
 clear hE
 refine wp_seq ?_
 refine wp_region_lit ?_
 refine sv_box hS (hS.get 0 rfl) (bx_spec_Media _) (by decide) ?_
 intro g1 a w2 hg1 hbw2 hwg1 hS
 refine sv_r (v := .string (⟨#[]⟩)) hS ex_ac fun a hS => ?_
 refine wpList_nil ?_
 replace hS := hS.cut [6, 3, 1, 2]
 show Code.wp _ _ _ _ _
 refine wp_seq ?_
 refine wp_region_lit ?_
 refine sv_r (v := pt g1 0) hS (ex_fo (hS.get 3 rfl) fo_spec_Media_0 rfl) fun a hS => ?_
 refine sv_r (v := .int .i64 ((m.version : Nat) : Int)) hS (ex_ld (hS.get 16 rfl) lt_int (cell_of_heap (v := .int .i64 ((m.version : Nat) : Int)) (hS.at 0 rfl) rfl)) fun a hS => ?_
 refine sv_r (v := .int .u64 ((m.version : Nat) : Int)) hS (ex_cv (hS.get 17 rfl) (cv_int_uint64 _ (by rw [IntKind.wrap_u64]; omega))) fun a hS => ?_
 refine sv_callq (v := .string (dec m.version)) hS rfl rfl (by decide) (ex_call1 cf_spec_Decimal (hS.get 18 rfl)) (Calls.mono (decimal_any (m.version) _ (by omega)) (by rintro e w' ⟨rfl, rfl⟩; exact ⟨rfl, rfl⟩)) ?_
 intro a hS
 refine sv_r (v := .string ((⟨#[35, 69, 88, 84, 77, 51, 85, 10, 35, 69, 88, 84, 45, 88, 45, 86, 69, 82, 83, 73, 79, 78, 58]⟩ : ByteArray) ++ dec m.version)) hS (ex_add rfl (hS.get 19 rfl) (by (try simp only [ByteArray.size_append', ByteArray.size_mk', List.size_toArray, List.length_cons, List.length_nil]); omega)) fun a hS => ?_
 refine sv_r (v := .string ((⟨#[35, 69, 88, 84, 77, 51, 85, 10, 35, 69, 88, 84, 45, 88, 45, 86, 69, 82, 83, 73, 79, 78, 58]⟩ : ByteArray) ++ dec m.version ++ (⟨#[10]⟩ : ByteArray))) hS (ex_add (hS.get 20 rfl) rfl (by (try simp only [ByteArray.size_append', ByteArray.size_mk', List.size_toArray, List.length_cons, List.length_nil]); omega)) fun a hS => ?_
 refine sv_r (v := .string ((⟨#[35, 69, 88, 84, 77, 51, 85, 10, 35, 69, 88, 84, 45, 88, 45, 86, 69, 82, 83, 73, 79, 78, 58]⟩ : ByteArray) ++ dec m.version ++ (⟨#[10]⟩ : ByteArray))) hS (ex_as (hS.get 21 rfl)) fun a hS => ?_
 refine wpList_nil ?_
 replace hS := hS.cut [7, 6, 3, 1, 2]
 show Code.wp _ _ _ _ _
 refine wp_seq ?_
 refine wp_region_lit ?_
 refine sv_r (v := .agg (m.cells sl)) hS (ex_lb ag_spec_Media (hS.get 3 rfl) (hS.at 0 rfl) rfl) fun a hS => ?_
 have hlt := hS.lt
 have hsz := hS.size
 refine sv_call (S := fun v w' => Own strL 9 1 w' w2.heap.size v m.head) hS rfl rfl (by decide) (ex_call1 cf_spec_Media_Head (hS.get 22 rfl)) (head_any m hm sl hsl1 _) ?_
 rintro a vh w3 hoh0 hbw3 hS
 have hoh := hoh0
 refine sv_r (v := vh) hS (ex_as (hS.get 23 rfl)) fun a hS => ?_
 refine wpList_nil ?_
 replace hS := hS.cut [8, 7, 6, 3, 1, 2]
 show Code.wp _ _ _ _ _
 refine wp_seq ?_
 refine wp_seq ?_
 refine wp_region_lit ?_
 refine sv_r (v := .bool false) hS (ex_mv (hS.get 1 rfl)) fun a hS => ?_
 refine wpList_nil ?_
 replace hS := hS.cut [24, 8, 7, 6, 3, 1, 2]
 show Code.wp _ _ _ _ _
 refine cond_f (hS.get 24 rfl) ?_
 refine wp_skip ?_
 show Code.wp _ _ _ _ _
 refine wp_seq ?_
 refine wp_seq ?_
 refine wp_region_lit ?_
 refine sv_r (v := vh) hS (ex_mv (hS.get 8 rfl)) fun a hS => ?_
 refine sv_r (v := .int .i64 ((m.head.length : Nat) : Int)) hS (ex_lenO Tryz.underlying84 (hS.get 28 rfl) hoh) fun a hS => ?_
 refine sv_r (v := .int .i64 0) hS ex_mc fun a hS => ?_
 refine wpList_nil ?_
 replace hS := hS.cut [30, 29, 28, 24, 8, 7, 6, 3, 1, 2]
 show Code.wp _ _ _ _ _
 obtain ⟨BH, hBH⟩ : ∃ B, B = w2.heap.size := ⟨_, rfl⟩
 rw [← hBH] at hoh
 have hE : Ev 77 ((30, .int .i64 ((0 : Nat) : Int)) :: (29, .int .i64 ((m.head.length : Nat) : Int)) :: ((7, .string ((⟨#[35, 69, 88, 84, 77, 51, 85, 10, 35, 69, 88, 84, 45, 88, 45, 86, 69, 82, 83, 73, 79, 78, 58]⟩ : ByteArray) ++ dec m.version ++ (⟨#[10]⟩ : ByteArray))) :: (28, vh) :: (24, .bool false) :: (8, vh) :: (6, .string (⟨#[]⟩)) :: (3, pt g1 0) :: (1, .bool false) :: (2, .int .u32 ((nn : Nat) : Int)) :: [])) a := hS.ev.pick rfl
 refine range_wp2 (N := 77) (n := m.head.length) [7, 28, 24, 8, 6, 3, 1, 2] (l0 := ((7, .string ((⟨#[35, 69, 88, 84, 77, 51, 85, 10, 35, 69, 88, 84, 45, 88, 45, 86, 69, 82, 83, 73, 79, 78, 58]⟩ : ByteArray) ++ dec m.version ++ (⟨#[10]⟩ : ByteArray))) :: (28, vh) :: (24, .bool false) :: (8, vh) :: (6, .string (⟨#[]⟩)) :: (3, pt g1 0) :: (1, .bool false) :: (2, .int .u32 ((nn : Nat) : Int)) :: [])) (fun k l w' => ∃ o : ByteArray, l = ((7, .string o) :: (28, vh) :: (24, .bool false) :: (8, vh) :: (6, .string (⟨#[]⟩)) :: (3, pt g1 0) :: (1, .bool false) :: (2, .int .u32 ((nn : Nat) : Int)) :: []) ∧ o = cat (((⟨#[35, 69, 88, 84, 77, 51, 85, 10, 35, 69, 88, 84, 45, 88, 45, 86, 69, 82, 83, 73, 79, 78, 58]⟩ : ByteArray) ++ (dec m.version)) ++ (⟨#[10]⟩ : ByteArray)) (m.head.take k) ∧ o.size ≤ 100 + k * 400 ∧ Own strL 9 1 w' BH vh m.head ∧ Hv [⟨g1, (m.cells sl), 30, true⟩] (fun _ => False) w w') (by omega) hE rfl ⟨_, rfl, by rw [List.take_zero]; rfl, by simp only [ByteArray.size_append', ByteArray.size_mk', List.size_toArray, List.length_cons, List.length_nil]; omega, hoh, hS.hv⟩ (by decide) (by decide) (by decide) ?_ ?_
 ·clear hE hS
  rintro k l a w4 hk hE ⟨o, rfl, ho, hoz, hoh, hV⟩ Q' hQ'
  have hS : Sv 77 ((30, .int .i64 ((k : Nat) : Int)) :: (29, .int .i64 ((m.head.length : Nat) : Int)) :: (7, .string o) :: (28, vh) :: (24, .bool false) :: (8, vh) :: (6, .string (⟨#[]⟩)) :: (3, pt g1 0) :: (1, .bool false) :: (2, .int .u32 ((nn : Nat) : Int)) :: []) [⟨g1, (m.cells sl), 30, true⟩] (fun _ => False) w a w4 := hV.sv hE
  obtain ⟨l, hlk⟩ : ∃ l, m.head[k]? = some l := ⟨_, List.getElem?_eq_getElem hk⟩
  have hlz := hhs l (List.mem_of_getElem? hlk)
  refine wp_block ?_
  refine wp_seq ?_
  refine wp_region_lit ?_
  refine sv_elemS Tryz.underlying84 Tryz.sizeOf9 ld_string hS hoh hlk (hS.get 28 rfl) (hS.get 30 rfl) (by decide) (by decide) ?_
  intro a px hS
  refine sv_r (v := .string l) hS (ex_as (hS.get 33 rfl)) fun a hS => ?_
  refine wpList_nil ?_
  replace hS := hS.cut [10, 30, 29, 7, 28, 24, 8, 6, 3, 1, 2]
  show Code.wp _ _ _ _ _
  refine wp_region_lit ?_
  refine sv_r (v := .string o) hS (ex_mv (hS.get 7 rfl)) fun a hS => ?_
  refine sv_r (v := .string l) hS (ex_mv (hS.get 10 rfl)) fun a hS => ?_
  refine sv_r (v := .string (o ++ l)) hS (ex_add (hS.get 34 rfl) (hS.get 35 rfl) (by (try simp only [ByteArray.size_append', ByteArray.size_mk', List.size_toArray, List.length_cons, List.length_nil]); omega)) fun a hS => ?_
  refine sv_r (v := .string (o ++ l)) hS (ex_as (hS.get 36 rfl)) fun a hS => ?_
  refine wpList_nil ?_
  replace hS := hS.cut [7, 30, 29, 28, 24, 8, 6, 3, 1, 2]
  show Q' .normal a w4
  exact hQ' _ a w4 rfl (hS.ev.pick (l' := (30, .int .i64 ((k : Nat) : Int)) :: (29, .int .i64 ((m.head.length : Nat) : Int)) :: ((7, .string (o ++ l)) :: (28, vh) :: (24, .bool false) :: (8, vh) :: (6, .string (⟨#[]⟩)) :: (3, pt g1 0) :: (1, .bool false) :: (2, .int .u32 ((nn : Nat) : Int)) :: [])) rfl) ⟨_, rfl, by rw [take_snoc hlk, cat_snoc, ho], by rw [ByteArray.size_append']; omega, hoh, hS.hv⟩
 ·clear hE hS
  rintro l a w5 hE ⟨o, rfl, ho, hoz, hoh, hV⟩
  have hS : Sv 77 ((30, .int .i64 ((m.head.length : Nat) : Int)) :: (29, .int .i64 ((m.head.length : Nat) : Int)) :: (7, .string o) :: (28, vh) :: (24, .bool false) :: (8, vh) :: (6, .string (⟨#[]⟩)) :: (3, pt g1 0) :: (1, .bool false) :: (2, .int .u32 ((nn : Nat) : Int)) :: []) [⟨g1, (m.cells sl), 30, true⟩] (fun _ => False) w a w5 := hV.sv hE
  rw [List.take_length] at ho
  clear hoh
  show Code.wp _ _ _ _ _
  refine wp_seq ?_
  refine wp_seq ?_
  have hTw : SegsAt B0 sl xs w5 := hT.ty (TyOnly.of_below (ts := []) hS.toBelow) (by decide)
  refine wp_region_lit ?_
  refine sv_r (v := pt g1 11) hS (ex_fo (hS.get 3 rfl) fo_spec_Media_11 rfl) fun a hS => ?_
  refine sv_r (v := sl) hS (ex_ld (hS.get 38 rfl) lt_sl_spec_Segment (cell_of_heap (v := sl) (hS.at 0 rfl) rfl)) fun a hS => ?_
  refine sv_r (v := .int .i64 ((xs.length : Nat) : Int)) hS (ex_lenO Tryz.underlying28 (hS.get 39 rfl) hTw.own) fun a hS => ?_
  refine sv_r (v := .int .i64 0) hS ex_mc fun a hS => ?_
  refine wpList_nil ?_
  replace hS := hS.cut [41, 40, 39, 30, 29, 7, 28, 24, 8, 6, 3, 1, 2]
  clear hTw
  show Code.wp _ _ _ _ _
  have hE : Ev 77 ((41, .int .i64 ((0 : Nat) : Int)) :: (40, .int .i64 ((xs.length : Nat) : Int)) :: ((7, .string o) :: (39, sl) :: (30, .int .i64 ((m.head.length : Nat) : Int)) :: (29, .int .i64 ((m.head.length : Nat) : Int)) :: (28, vh) :: (24, .bool false) :: (8, vh) :: (6, .string (⟨#[]⟩)) :: (3, pt g1 0) :: (1, .bool false) :: (2, .int .u32 ((nn : Nat) : Int)) :: [])) a := hS.ev.pick rfl
  refine range_wp2 (N := 77) (n := xs.length) [7, 39, 30, 29, 28, 24, 8, 6, 3, 1, 2] (l0 := ((7, .string o) :: (39, sl) :: (30, .int .i64 ((m.head.length : Nat) : Int)) :: (29, .int .i64 ((m.head.length : Nat) : Int)) :: (28, vh) :: (24, .bool false) :: (8, vh) :: (6, .string (⟨#[]⟩)) :: (3, pt g1 0) :: (1, .bool false) :: (2, .int .u32 ((nn : Nat) : Int)) :: [])) (fun k l w' => ∃ o : ByteArray, l = ((7, .string o) :: (39, sl) :: (30, .int .i64 ((m.head.length : Nat) : Int)) :: (29, .int .i64 ((m.head.length : Nat) : Int)) :: (28, vh) :: (24, .bool false) :: (8, vh) :: (6, .string (⟨#[]⟩)) :: (3, pt g1 0) :: (1, .bool false) :: (2, .int .u32 ((nn : Nat) : Int)) :: []) ∧ o = catS (cat (((⟨#[35, 69, 88, 84, 77, 51, 85, 10, 35, 69, 88, 84, 45, 88, 45, 86, 69, 82, 83, 73, 79, 78, 58]⟩ : ByteArray) ++ (dec m.version)) ++ (⟨#[10]⟩ : ByteArray)) m.head) ((xs.map (·.1)).take k) ∧ o.size ≤ 3000 + k * 3000 ∧ Hv [⟨g1, (m.cells sl), 30, true⟩] (fun _ => False) w w') (by omega) hE rfl ⟨_, rfl, by rw [List.take_zero]; rw [ho]; rfl, by omega, hS.hv⟩ (by decide) (by decide) (by decide) ?_ ?_
  ·clear hE hS
   rintro k l a w6 hk hE ⟨o, rfl, ho, hoz, hV⟩ Q' hQ'
   have hS : Sv 77 ((41, .int .i64 ((k : Nat) : Int)) :: (40, .int .i64 ((xs.length : Nat) : Int)) :: (7, .string o) :: (39, sl) :: (30, .int .i64 ((m.head.length : Nat) : Int)) :: (29, .int .i64 ((m.head.length : Nat) : Int)) :: (28, vh) :: (24, .bool false) :: (8, vh) :: (6, .string (⟨#[]⟩)) :: (3, pt g1 0) :: (1, .bool false) :: (2, .int .u32 ((nn : Nat) : Int)) :: []) [⟨g1, (m.cells sl), 30, true⟩] (fun _ => False) w a w6 := hV.sv hE
   obtain ⟨x, hxk⟩ : ∃ x, xs[k]? = some x := ⟨_, List.getElem?_eq_getElem hk⟩
   have hxm := List.mem_of_getElem? hxk
   obtain ⟨hxn, hxu⟩ := hxs x hxm
   have hll := lines_len x.1
   have hlz := lines_size hxn
   have hmk : (xs.map (·.1))[k]? = some x.1 := by rw [List.getElem?_map, hxk]; rfl
   refine wp_block ?_
   refine wp_seq ?_
   refine wp_region_lit ?_
   refine sv_r (v := .int .i64 ((k : Nat) : Int)) hS (ex_mv (hS.get 41 rfl)) fun a hS => ?_
   have hTw : SegsAt B0 sl xs w6 := hT.ty (TyOnly.of_below (ts := []) hS.toBelow) (by decide)
   refine sv_elem (n := k) ag_spec_Segment Tryz.underlying28 (fun _ => rfl) (by decide) hS hTw.own hxk (hS.get 39 rfl) (hS.get 41 rfl) (by decide) (by decide) ?_ rfl (by decide)
   intro a hS
   have hxA := hTw.ats x hxm
   clear hTw
   refine sv_al hS al_spec_Segment (by decide) ?_
   intro g7 a w8 hg7 hbw8 hwg7 hS
   refine sv_r (v := .int .i64 ((k : Nat) : Int)) hS (ex_as (hS.get 43 rfl)) fun a hS => ?_
   refine sv_sb (i := 0) (m' := [⟨g7, x.cells, 40, true⟩, ⟨g1, (m.cells sl), 30, true⟩]) hS ag_spec_Segment (hS.get 12 rfl) (hS.get 45 rfl) rfl rfl rfl hxA.one rfl ?_
   intro w9 hty hS
   refine wpList_nil ?_
   replace hS := hS.cut [11, 12, 41, 40, 7, 39, 30, 29, 28, 24, 8, 6, 3, 1, 2]
   replace hxA : x.At w9 := (hT.ats x hxm).ty (TyOnly.of_below (ts := []) hS.toBelow) (by decide)
   show Code.wp _ _ _ _ _
   refine wp_seq ?_
   refine wp_region_lit ?_
   refine sv_r (v := .agg x.cells) hS (ex_lb ag_spec_Segment (hS.get 12 rfl) (hS.at 0 rfl) rfl) fun a hS => ?_
   have hlt := hS.lt
   have hsz := hS.size
   refine sv_call (S := fun v w' => Own strL 9 1 w' w9.heap.size v x.1.lines) hS rfl rfl (by decide) (ex_call1 cf_spec_Segment_Lines (hS.get 46 rfl)) (lines_any x hxn _ hxA) ?_
   rintro a vl w10 hol hbw10 hS
   refine sv_r (v := vl) hS (ex_as (hS.get 47 rfl)) fun a hS => ?_
   refine wpList_nil ?_
   replace hS := hS.cut [13, 11, 12, 41, 40, 7, 39, 30, 29, 28, 24, 8, 6, 3, 1, 2]
   show Code.wp _ _ _ _ _
   refine wp_seq ?_
   refine wp_seq ?_
   refine wp_region_lit ?_
   refine sv_r (v := .bool false) hS (ex_mv (hS.get 1 rfl)) fun a hS => ?_
   refine wpList_nil ?_
   replace hS := hS.cut [48, 13, 11, 12, 41, 40, 7, 39, 30, 29, 28, 24, 8, 6, 3, 1, 2]
   show Code.wp _ _ _ _ _
   refine cond_f (hS.get 48 rfl) ?_
   refine wp_skip ?_
   show Code.wp _ _ _ _ _
   refine wp_seq ?_
   refine wp_seq ?_
   refine wp_region_lit ?_
   refine sv_r (v := vl) hS (ex_mv (hS.get 13 rfl)) fun a hS => ?_
   refine sv_r (v := .int .i64 ((x.1.lines.length : Nat) : Int)) hS (ex_lenO Tryz.underlying84 (hS.get 56 rfl) hol) fun a hS => ?_
   refine sv_r (v := .int .i64 0) hS ex_mc fun a hS => ?_
   refine wpList_nil ?_
   replace hS := hS.cut [58, 57, 56, 48, 13, 11, 12, 41, 40, 7, 39, 30, 29, 28, 24, 8, 6, 3, 1, 2]
   show Code.wp _ _ _ _ _
   obtain ⟨BL, hBL⟩ : ∃ B, B = w9.heap.size := ⟨_, rfl⟩
   rw [← hBL] at hol
   have hE : Ev 77 ((58, .int .i64 ((0 : Nat) : Int)) :: (57, .int .i64 ((x.1.lines.length : Nat) : Int)) :: ((7, .string o) :: (56, vl) :: (48, .bool false) :: (13, vl) :: (11, .int .i64 ((k : Nat) : Int)) :: (12, pt g7 0) :: (41, .int .i64 ((k : Nat) : Int)) :: (40, .int .i64 ((xs.length : Nat) : Int)) :: (39, sl) :: (30, .int .i64 ((m.head.length : Nat) : Int)) :: (29, .int .i64 ((m.head.length : Nat) : Int)) :: (28, vh) :: (24, .bool false) :: (8, vh) :: (6, .string (⟨#[]⟩)) :: (3, pt g1 0) :: (1, .bool false) :: (2, .int .u32 ((nn : Nat) : Int)) :: [])) a := hS.ev.pick rfl
   refine range_wp2 (N := 77) (n := x.1.lines.length) [7, 56, 48, 13, 11, 12, 41, 40, 39, 30, 29, 28, 24, 8, 6, 3, 1, 2] (l0 := ((7, .string o) :: (56, vl) :: (48, .bool false) :: (13, vl) :: (11, .int .i64 ((k : Nat) : Int)) :: (12, pt g7 0) :: (41, .int .i64 ((k : Nat) : Int)) :: (40, .int .i64 ((xs.length : Nat) : Int)) :: (39, sl) :: (30, .int .i64 ((m.head.length : Nat) : Int)) :: (29, .int .i64 ((m.head.length : Nat) : Int)) :: (28, vh) :: (24, .bool false) :: (8, vh) :: (6, .string (⟨#[]⟩)) :: (3, pt g1 0) :: (1, .bool false) :: (2, .int .u32 ((nn : Nat) : Int)) :: [])) (fun j l w' => ∃ q : ByteArray, l = ((7, .string q) :: (56, vl) :: (48, .bool false) :: (13, vl) :: (11, .int .i64 ((k : Nat) : Int)) :: (12, pt g7 0) :: (41, .int .i64 ((k : Nat) : Int)) :: (40, .int .i64 ((xs.length : Nat) : Int)) :: (39, sl) :: (30, .int .i64 ((m.head.length : Nat) : Int)) :: (29, .int .i64 ((m.head.length : Nat) : Int)) :: (28, vh) :: (24, .bool false) :: (8, vh) :: (6, .string (⟨#[]⟩)) :: (3, pt g1 0) :: (1, .bool false) :: (2, .int .u32 ((nn : Nat) : Int)) :: []) ∧ q = cat o (x.1.lines.take j) ∧ q.size ≤ o.size + j * 400 ∧ Own strL 9 1 w' BL vl x.1.lines ∧ Hv [⟨g7, x.cells, 40, true⟩, ⟨g1, (m.cells sl), 30, true⟩] (fun _ => False) w w') (by omega) hE rfl ⟨_, rfl, by rw [List.take_zero]; rfl, by omega, hol, hS.hv⟩ (by decide) (by decide) (by decide) ?_ ?_
   ·clear hE hS
    rintro j l a w11 hk hE ⟨q, rfl, hq, hqz, hol, hV2⟩ Q' hQ'
    have hS : Sv 77 ((58, .int .i64 ((j : Nat) : Int)) :: (57, .int .i64 ((x.1.lines.length : Nat) : Int)) :: (7, .string q) :: (56, vl) :: (48, .bool false) :: (13, vl) :: (11, .int .i64 ((k : Nat) : Int)) :: (12, pt g7 0) :: (41, .int .i64 ((k : Nat) : Int)) :: (40, .int .i64 ((xs.length : Nat) : Int)) :: (39, sl) :: (30, .int .i64 ((m.head.length : Nat) : Int)) :: (29, .int .i64 ((m.head.length : Nat) : Int)) :: (28, vh) :: (24, .bool false) :: (8, vh) :: (6, .string (⟨#[]⟩)) :: (3, pt g1 0) :: (1, .bool false) :: (2, .int .u32 ((nn : Nat) : Int)) :: []) [⟨g7, x.cells, 40, true⟩, ⟨g1, (m.cells sl), 30, true⟩] (fun _ => False) w a w11 := hV2.sv hE
    obtain ⟨l, hlk⟩ : ∃ l, x.1.lines[j]? = some l := ⟨_, List.getElem?_eq_getElem hk⟩
    have hlz1 := hlz l (List.mem_of_getElem? hlk)
    refine wp_block ?_
    refine wp_seq ?_
    refine wp_region_lit ?_
    refine sv_elemS Tryz.underlying84 Tryz.sizeOf9 ld_string hS hol hlk (hS.get 56 rfl) (hS.get 58 rfl) (by decide) (by decide) ?_
    intro a px hS
    refine sv_r (v := .string l) hS (ex_as (hS.get 61 rfl)) fun a hS => ?_
    refine wpList_nil ?_
    replace hS := hS.cut [15, 58, 57, 7, 56, 48, 13, 11, 12, 41, 40, 39, 30, 29, 28, 24, 8, 6, 3, 1, 2]
    show Code.wp _ _ _ _ _
    refine wp_region_lit ?_
    refine sv_r (v := .string q) hS (ex_mv (hS.get 7 rfl)) fun a hS => ?_
    refine sv_r (v := .string l) hS (ex_mv (hS.get 15 rfl)) fun a hS => ?_
    refine sv_r (v := .string (q ++ l)) hS (ex_add (hS.get 62 rfl) (hS.get 63 rfl) (by (try simp only [ByteArray.size_append', ByteArray.size_mk', List.size_toArray, List.length_cons, List.length_nil]); omega)) fun a hS => ?_
    refine sv_r (v := .string (q ++ l)) hS (ex_as (hS.get 64 rfl)) fun a hS => ?_
    refine wpList_nil ?_
    replace hS := hS.cut [7, 58, 57, 56, 48, 13, 11, 12, 41, 40, 39, 30, 29, 28, 24, 8, 6, 3, 1, 2]
    show Q' .normal a w11
    exact hQ' _ a w11 rfl (hS.ev.pick (l' := (58, .int .i64 ((j : Nat) : Int)) :: (57, .int .i64 ((x.1.lines.length : Nat) : Int)) :: ((7, .string (q ++ l)) :: (56, vl) :: (48, .bool false) :: (13, vl) :: (11, .int .i64 ((k : Nat) : Int)) :: (12, pt g7 0) :: (41, .int .i64 ((k : Nat) : Int)) :: (40, .int .i64 ((xs.length : Nat) : Int)) :: (39, sl) :: (30, .int .i64 ((m.head.length : Nat) : Int)) :: (29, .int .i64 ((m.head.length : Nat) : Int)) :: (28, vh) :: (24, .bool false) :: (8, vh) :: (6, .string (⟨#[]⟩)) :: (3, pt g1 0) :: (1, .bool false) :: (2, .int .u32 ((nn : Nat) : Int)) :: [])) rfl) ⟨_, rfl, by rw [take_snoc hlk, cat_snoc, hq], by rw [ByteArray.size_append']; omega, hol, hS.hv⟩
   ·clear hE hS
    rintro l a w12 hE ⟨q, rfl, hq, hqz, hol, hV2⟩
    have hS : Sv 77 ((58, .int .i64 ((x.1.lines.length : Nat) : Int)) :: (57, .int .i64 ((x.1.lines.length : Nat) : Int)) :: (7, .string q) :: (56, vl) :: (48, .bool false) :: (13, vl) :: (11, .int .i64 ((k : Nat) : Int)) :: (12, pt g7 0) :: (41, .int .i64 ((k : Nat) : Int)) :: (40, .int .i64 ((xs.length : Nat) : Int)) :: (39, sl) :: (30, .int .i64 ((m.head.length : Nat) : Int)) :: (29, .int .i64 ((m.head.length : Nat) : Int)) :: (28, vh) :: (24, .bool false) :: (8, vh) :: (6, .string (⟨#[]⟩)) :: (3, pt g1 0) :: (1, .bool false) :: (2, .int .u32 ((nn : Nat) : Int)) :: []) [⟨g7, x.cells, 40, true⟩, ⟨g1, (m.cells sl), 30, true⟩] (fun _ => False) w a w12 := hV2.sv hE
    rw [List.take_length] at hq
    show Code.wp _ _ _ _ _
    refine wp_region_lit ?_
    refine sv_r (v := .string q) hS (ex_mv (hS.get 7 rfl)) fun a hS => ?_
    refine sv_r (v := pt g7 1) hS (ex_fo (hS.get 12 rfl) fo_spec_Segment_1 rfl) fun a hS => ?_
    refine sv_r (v := .string x.1.uri) hS (ex_ld (hS.get 67 rfl) lt_string (cell_of_heap (v := .string x.1.uri) (hS.at 0 rfl) rfl)) fun a hS => ?_
    refine sv_r (v := .string (x.1.uri ++ (⟨#[10]⟩ : ByteArray))) hS (ex_add (hS.get 68 rfl) rfl (by (try simp only [ByteArray.size_append', ByteArray.size_mk', List.size_toArray, List.length_cons, List.length_nil]); omega)) fun a hS => ?_
    refine sv_r (v := .string (q ++ (x.1.uri ++ (⟨#[10]⟩ : ByteArray)))) hS (ex_add (hS.get 66 rfl) (hS.get 69 rfl) (by (try simp only [ByteArray.size_append', ByteArray.size_mk', List.size_toArray, List.length_cons, List.length_nil]); omega)) fun a hS => ?_
    refine sv_r (v := .string (q ++ (x.1.uri ++ (⟨#[10]⟩ : ByteArray)))) hS (ex_as (hS.get 70 rfl)) fun a hS => ?_
    refine wpList_nil ?_
    replace hS := hS.cut [7, 58, 57, 56, 48, 13, 11, 12, 41, 40, 39, 30, 29, 28, 24, 8, 6, 3, 1, 2]
    show Q' .normal a w12
    exact hQ' _ a w12 rfl (hS.ev.pick (l' := (41, .int .i64 ((k : Nat) : Int)) :: (40, .int .i64 ((xs.length : Nat) : Int)) :: ((7, .string (q ++ (x.1.uri ++ (⟨#[10]⟩ : ByteArray)))) :: (39, sl) :: (30, .int .i64 ((m.head.length : Nat) : Int)) :: (29, .int .i64 ((m.head.length : Nat) : Int)) :: (28, vh) :: (24, .bool false) :: (8, vh) :: (6, .string (⟨#[]⟩)) :: (3, pt g1 0) :: (1, .bool false) :: (2, .int .u32 ((nn : Nat) : Int)) :: [])) rfl) ⟨_, rfl, by rw [take_snoc hmk, catS_snoc, hq, ho], by simp only [ByteArray.size_append', ByteArray.size_mk', List.size_toArray, List.length_cons, List.length_nil]; omega, (hS.mask [false, true]).hv⟩
  ·clear hE hS
   rintro l a w13 hE ⟨o, rfl, ho, hoz, hV⟩
   have hS : Sv 77 ((41, .int .i64 ((xs.length : Nat) : Int)) :: (40, .int .i64 ((xs.length : Nat) : Int)) :: (7, .string o) :: (39, sl) :: (30, .int .i64 ((m.head.length : Nat) : Int)) :: (29, .int .i64 ((m.head.length : Nat) : Int)) :: (28, vh) :: (24, .bool false) :: (8, vh) :: (6, .string (⟨#[]⟩)) :: (3, pt g1 0) :: (1, .bool false) :: (2, .int .u32 ((nn : Nat) : Int)) :: []) [⟨g1, (m.cells sl), 30, true⟩] (fun _ => False) w a w13 := hV.sv hE
   have hfl : ((xs.map (·.1)).take xs.length) = xs.map (·.1) := by rw [← List.length_map (f := (·.1)), List.take_length]
   rw [hfl] at ho
   show Code.wp _ _ _ _ _
   refine wp_seq ?_
   refine wp_seq ?_
   refine wp_region_lit ?_
   refine sv_r (v := pt g1 8) hS (ex_fo (hS.get 3 rfl) fo_spec_Media_8 rfl) fun a hS => ?_
   refine sv_r (v := .bool (m.closed)) hS (ex_ld (hS.get 72 rfl) lt_bool (cell_of_heap (v := .bool (m.closed)) (hS.at 0 rfl) rfl)) fun a hS => ?_
   refine wpList_nil ?_
   replace hS := hS.cut [73, 41, 40, 7, 39, 30, 29, 28, 24, 8, 6, 3, 1, 2]
   show Code.wp _ _ _ _ _
   refine if_join (fun a w' => ∃ zz : ByteArray, zz = (if (m.closed) = true then o ++ (⟨#[35, 69, 88, 84, 45, 88, 45, 69, 78, 68, 76, 73, 83, 84, 10]⟩ : ByteArray) else o) ∧ zz.size ≤ 100000 ∧ Sv 77 ((7, .string zz) :: (41, .int .i64 ((xs.length : Nat) : Int)) :: (40, .int .i64 ((xs.length : Nat) : Int)) :: (39, sl) :: (30, .int .i64 ((m.head.length : Nat) : Int)) :: (29, .int .i64 ((m.head.length : Nat) : Int)) :: (28, vh) :: (24, .bool false) :: (8, vh) :: (6, .string (⟨#[]⟩)) :: (3, pt g1 0) :: (1, .bool false) :: (2, .int .u32 ((nn : Nat) : Int)) :: []) [⟨g1, (m.cells sl), 30, true⟩] (fun _ => False) w a w') (hS.get 73 rfl) ?_ ?_ ?_
   ·intro hb14 Q' hQ'
    refine wp_region_lit ?_
    refine sv_r (v := .string o) hS (ex_mv (hS.get 7 rfl)) fun a hS => ?_
    refine sv_r (v := .string (o ++ (⟨#[35, 69, 88, 84, 45, 88, 45, 69, 78, 68, 76, 73, 83, 84, 10]⟩ : ByteArray))) hS (ex_add (hS.get 74 rfl) rfl (by (try simp only [ByteArray.size_append', ByteArray.size_mk', List.size_toArray, List.length_cons, List.length_nil]); omega)) fun a hS => ?_
    refine sv_r (v := .string (o ++ (⟨#[35, 69, 88, 84, 45, 88, 45, 69, 78, 68, 76, 73, 83, 84, 10]⟩ : ByteArray))) hS (ex_as (hS.get 75 rfl)) fun a hS => ?_
    refine wpList_nil ?_
    replace hS := hS.cut [7, 73, 41, 40, 39, 30, 29, 28, 24, 8, 6, 3, 1, 2]
    exact hQ' _ _ ⟨_, rfl, by rw [if_pos hb14]; (try simp only [ByteArray.size_append', ByteArray.size_mk', List.size_toArray, List.length_cons, List.length_nil]); omega, by rw [if_pos hb14]; exact hS.pick rfl⟩
   ·intro hb14 Q' hQ'
    refine wp_skip ?_
    exact hQ' _ _ ⟨_, rfl, by rw [if_neg (by rw [hb14]; decide)]; (try simp only [ByteArray.size_append', ByteArray.size_mk', List.size_toArray, List.length_cons, List.length_nil]); omega, by rw [if_neg (by rw [hb14]; decide)]; exact hS.pick rfl⟩
   ·rintro a w15 ⟨oc, hoc, hzoc, hS⟩
    show Code.wp _ _ _ _ _
    refine wp_seq ?_
    refine wp_region_lit ?_
    refine sv_r (v := .string oc) hS (ex_mv (hS.get 7 rfl)) fun a hS => ?_
    refine sv_r (v := .string oc) hS (ex_as (hS.get 76 rfl)) fun a hS => ?_
    refine wpList_nil ?_
    replace hS := hS.cut [6, 7, 41, 40, 39, 30, 29, 28, 24, 8, 3, 1, 2]
    show Code.wp _ _ _ _ _
    refine wp_ret ?_
    try simp only [Exit.inBlock, Exit.then]
    refine ret_of_ev hS.ev rfl (hS.get 6 rfl) ⟨?_, hS.toBelow⟩
    rw [hoc, ho]; rfl
end Go.Proofs.YtfonjeoiallhhaaGreatDoor
