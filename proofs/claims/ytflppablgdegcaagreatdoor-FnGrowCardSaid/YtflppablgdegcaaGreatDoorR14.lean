/- Joined: Wr. -/
import Derived.Test.YtflppablgdegcaaGreatDoorR13
set_option maxRecDepth 100000
set_option maxHeartbeats 8000000
namespace Go.Proofs.YtflppablgdegcaaGreatDoor
open Go.RowKit
def cat (o : ByteArray) (L : List ByteArray) : ByteArray := L.foldl (fun o l => o ++ l) o
def catS (o : ByteArray) (L : List Sm) : ByteArray := L.foldl (fun o s => cat o s.lines ++ (s.uri ++ (⟨#[10]⟩ : ByteArray))) o
def Md.write (m : Md) (L : List Sm) : ByteArray :=
 let o := catS (cat (((⟨#[35, 69, 88, 84, 77, 51, 85, 10, 35, 69, 88, 84, 45, 88, 45, 86, 69, 82, 83, 73, 79, 78, 58]⟩ : ByteArray) ++ (dec m.version)) ++ (⟨#[10]⟩ : ByteArray)) m.head) L
 if m.closed = true then o ++ (⟨#[35, 69, 88, 84, 45, 88, 45, 69, 78, 68, 76, 73, 83, 84, 10]⟩ : ByteArray) else o
theorem cat_snoc (o : ByteArray) (L : List ByteArray) (x : ByteArray) : cat o (L ++ [x]) = cat o L ++ x := by simp [cat]
theorem catS_snoc (o : ByteArray) (L : List Sm) (x : Sm) : catS o (L ++ [x]) = cat (catS o L) x.lines ++ (x.uri ++ (⟨#[10]⟩ : ByteArray)) := by simp [catS]
theorem take_snoc {α : Type} {L : List α} {k : Nat} {x : α} (h : L[k]? = some x) : L.take (k + 1) = L.take k ++ [x] := by
 rw [List.take_add_one, h]
 rfl
theorem Ky.text_size {k : Ky} (h : KySz k) : k.text.size ≤ 400 := by
 obtain ⟨q1, q2, q3, q4, q5⟩ := h
 unfold Ky.text
 dsimp only
 split
 ·simp only [ByteArray.size_append', ByteArray.size_mk', List.size_toArray, List.length_cons, List.length_nil]; omega
 ·repeat' split
  all_goals (simp only [ByteArray.size_append', ByteArray.size_mk', List.size_toArray, List.length_cons, List.length_nil]; omega)
theorem Mp.text_size {m : Mp} (h : MapOk m) : m.text.size ≤ 400 := by
 obtain ⟨h1, h2⟩ := h
 have h3 := h1.size
 have h4 := dec_le (n := m.limit) (by omega)
 have h5 := dec_le (n := m.offset) (by omega)
 unfold Mp.text
 dsimp only
 split <;> (simp only [ByteArray.size_append', ByteArray.size_mk', List.size_toArray, List.length_cons, List.length_nil]; omega)
theorem mem_app_if {α : Type} {c : Prop} [Decidable c] {L K : List α} {x : α} (h : x ∈ (if c then L ++ K else L)) : x ∈ L ∨ (c ∧ x ∈ K) := by
 split at h
 ·rename_i hc
  rcases List.mem_append.1 h with h | h
  ·exact .inl h
  ·exact .inr ⟨hc, h⟩
 ·exact .inl h
theorem lines_size {s : Sm} (h : SegLn s) : ∀ l ∈ s.lines, l.size ≤ 400 := by
 have he := h.e
 have hpt := h.part
 have hzt := h.title.size
 have hzd := h.date.size
 have hd1 := dec_le (n := s.limit) (by omega)
 have hd2 := dec_le (n := s.offset) (by omega)
 have hd3 := secs_size (n := s.e) (by omega)
 intro l hl
 unfold Sm.lines at hl
 dsimp only at hl
 rcases List.mem_append.1 hl with hl | hl
 ·rcases mem_app_if hl with hl | ⟨hc, hl⟩
  ·rcases mem_app_if hl with hl | ⟨hc, hl⟩
   ·rcases mem_app_if hl with hl | ⟨hc, hl⟩
    ·rcases mem_app_if hl with hl | ⟨hc, hl⟩
     ·split at hl
      ·rename_i hc
       rw [List.nil_append, List.mem_singleton] at hl
       subst hl
       cases hk : s.key with
       | none => rw [hk] at hc; cases hc
       | some k => exact Ky.text_size (h.key k hk).sz
      ·cases hl
     ·rw [List.mem_singleton.1 hl]; decide
    ·rw [List.mem_singleton.1 hl]
     cases hk : s.map with
     | none => rw [hk] at hc; cases hc
     | some k => exact Mp.text_size (h.map k hk)
   ·rw [List.mem_singleton.1 hl]; simp only [ByteArray.size_append', ByteArray.size_mk', List.size_toArray, List.length_cons, List.length_nil]; omega
  ·rw [List.mem_singleton.1 hl]; simp only [ByteArray.size_append', ByteArray.size_mk', List.size_toArray, List.length_cons, List.length_nil]; omega
 ·rw [List.mem_singleton.1 hl]; simp only [ByteArray.size_append', ByteArray.size_mk', List.size_toArray, List.length_cons, List.length_nil]; omega
theorem lines_len (s : Sm) : s.lines.length ≤ 6 := by
 unfold Sm.lines
 dsimp only
 rw [List.length_append]
 have : ∀ {c : Prop} [Decidable c] (L K : List ByteArray), (if c then L ++ K else L).length ≤ L.length + K.length := by
  intro c _ L K
  split <;> simp
 refine Nat.le_trans (Nat.add_le_add_right (this _ _) _) (Nat.le_trans (Nat.add_le_add_right (Nat.add_le_add_right (this _ _) _) _) (Nat.le_trans (Nat.add_le_add_right (Nat.add_le_add_right (Nat.add_le_add_right (this _ _) _) _) _) (Nat.le_trans (Nat.add_le_add_right (Nat.add_le_add_right (Nat.add_le_add_right (Nat.add_le_add_right (this _ _) _) _) _) _) (Nat.le_trans (Nat.add_le_add_right (Nat.add_le_add_right (Nat.add_le_add_right (Nat.add_le_add_right (Nat.add_le_add_right (this _ _) _) _) _) _) _) ?_))))
 simp
theorem head_size {m : Md} (h : MdOk m) : (∀ l ∈ m.head, l.size ≤ 400) ∧ m.head.length ≤ 6 := by
 obtain ⟨p1, p2, p3, p4, p5, p6, p7⟩ := h
 have hd1 := dec_le (n := m.seq) (by omega)
 have hd2 := dec_le (n := m.target) (by omega)
 have hd3 := dec_le (n := m.disc) (by omega)
 have hd4 := shorts_size (e := m.start) (by omega)
 unfold Md.head
 dsimp only
 constructor
 ·intro l hl
  rcases mem_app_if hl with hl | ⟨_, hl⟩
  ·rcases mem_app_if hl with hl | ⟨_, hl⟩
   ·have hl2 : l ∈ ((if m.typ = 1 then [] ++ [(⟨#[35, 69, 88, 84, 45, 88, 45, 80, 76, 65, 89, 76, 73, 83, 84, 45, 84, 89, 80, 69, 58, 69, 86, 69, 78, 84, 10]⟩ : ByteArray)] else if m.typ = 2 then [] ++ [(⟨#[35, 69, 88, 84, 45, 88, 45, 80, 76, 65, 89, 76, 73, 83, 84, 45, 84, 89, 80, 69, 58, 86, 79, 68, 10]⟩ : ByteArray)] else []) ++ [((⟨#[35, 69, 88, 84, 45, 88, 45, 77, 69, 68, 73, 65, 45, 83, 69, 81, 85, 69, 78, 67, 69, 58]⟩ : ByteArray) ++ (dec m.seq)) ++ (⟨#[10]⟩ : ByteArray), ((⟨#[35, 69, 88, 84, 45, 88, 45, 84, 65, 82, 71, 69, 84, 68, 85, 82, 65, 84, 73, 79, 78, 58]⟩ : ByteArray) ++ (dec m.target)) ++ (⟨#[10]⟩ : ByteArray)] : List ByteArray) ∨ l = (((⟨#[35, 69, 88, 84, 45, 88, 45, 83, 84, 65, 82, 84, 58, 84, 73, 77, 69, 45, 79, 70, 70, 83, 69, 84, 61]⟩ : ByteArray) ++ (shorts m.start)) ++ (⟨#[44, 80, 82, 69, 67, 73, 83, 69, 61, 89, 69, 83]⟩ : ByteArray)) ++ (⟨#[10]⟩ : ByteArray) ∨ l = ((⟨#[35, 69, 88, 84, 45, 88, 45, 83, 84, 65, 82, 84, 58, 84, 73, 77, 69, 45, 79, 70, 70, 83, 69, 84, 61]⟩ : ByteArray) ++ (shorts m.start)) ++ (⟨#[10]⟩ : ByteArray) := by
     split at hl
     ·split at hl
      ·rcases List.mem_append.1 hl with hl | hl
       ·exact .inl hl
       ·exact .inr (.inl (List.mem_singleton.1 hl))
      ·rcases List.mem_append.1 hl with hl | hl
       ·exact .inl hl
       ·exact .inr (.inr (List.mem_singleton.1 hl))
     ·exact .inl hl
    rcases hl2 with hl | rfl | rfl
    ·rcases List.mem_append.1 hl with hl | hl
     ·split at hl
      ·rw [List.nil_append, List.mem_singleton] at hl; rw [hl]; decide
      ·split at hl
       ·rw [List.nil_append, List.mem_singleton] at hl; rw [hl]; decide
       ·cases hl
     ·simp only [List.mem_cons, List.not_mem_nil, or_false] at hl
      rcases hl with rfl | rfl <;> (simp only [ByteArray.size_append', ByteArray.size_mk', List.size_toArray, List.length_cons, List.length_nil]; omega)
    ·simp only [ByteArray.size_append', ByteArray.size_mk', List.size_toArray, List.length_cons, List.length_nil]; omega
    ·simp only [ByteArray.size_append', ByteArray.size_mk', List.size_toArray, List.length_cons, List.length_nil]; omega
   ·rw [List.mem_singleton.1 hl]; simp only [ByteArray.size_append', ByteArray.size_mk', List.size_toArray, List.length_cons, List.length_nil]; omega
  ·rw [List.mem_singleton.1 hl]; decide
 ·repeat' split
  all_goals simp

theorem write_any (m : Md) (hm : MdOk m) (B0 : Nat) (sl : Value) (xs : List Sx) (hxl : xs.length ≤ 12) (hxs : ∀ x ∈ xs, SegLn x.1 ∧ x.1.uri.size ≤ 100) (nn : Nat) (w : World) (hT : SegsAt B0 sl xs w) : Calls Tryz.prog 6 #[.agg (m.cells sl), .bool false, .int .u32 (nn : Int)] w fun e w' => e = .returned (.string (m.write (xs.map (·.1)))) ∧ Below w.heap.size w w' := by
 have hv := hm.version
 have hdv := dec_le (n := m.version) (by omega)
 obtain ⟨hhs, hhl⟩ := head_size hm
 have hsl1 := hT.own.one'
 obtain ⟨sA, sc, hsv, _⟩ := hT.own.shape
 refine calls_of_ev Tryz.func6 rfl (show 3 ≤ 77 from by decide) fun a hE => ?_
 have hE : Ev 77 ((0, .agg (m.cells sl)) :: (1, .bool false) :: (2, .int .u32 ((nn : Nat) : Int)) :: []) a := hE
 have Z : Sv 77 ((0, .agg (m.cells sl)) :: (1, .bool false) :: (2, .int .u32 ((nn : Nat) : Int)) :: []) [] (fun _ => False) w a w := Sv.start hE _ _
 clear hE
 refine wr (sv_box Z (Z.g 0 rfl) (bx_spec_Media _) (by decide) fun g1 a w2 hg1 hbw2 hwg1 Z => sv_n 1 Z rfl fun a Z => Z.nx [6, 3, 1, 2] rfl fun Z => sh (wr (sv_n 1 Z rfl fun a Z => sv_l (v := .int .i64 ((m.version : Nat) : Int)) 0 Z rfl (Z.g 16 rfl) lt_int rfl fun a Z => ?_)))
 refine sv_r (v := .int .u64 ((m.version : Nat) : Int)) Z (ex_cv (Z.g 17 rfl) (cv_int_uint64 _ (by rw [IntKind.wrap_u64]; omega))) fun a Z => ?_
 refine sv_callq (v := .string (dec m.version)) Z rfl rfl (by decide) (ex_call1 cf_spec_Decimal (Z.g 18 rfl)) (Calls.mono (decimal_any (m.version) _ (by omega)) (by rintro e w' ⟨rfl, rfl⟩; exact ⟨rfl, rfl⟩)) fun a Z => ?_
 refine sv_r (v := .string ((⟨#[35, 69, 88, 84, 77, 51, 85, 10, 35, 69, 88, 84, 45, 88, 45, 86, 69, 82, 83, 73, 79, 78, 58]⟩ : ByteArray) ++ dec m.version)) Z (ex_add rfl (Z.g 19 rfl) (by (try simp only [ByteArray.size_append', ByteArray.size_mk', List.size_toArray, List.length_cons, List.length_nil]); omega)) fun a Z => ?_
 refine sv_r (v := .string ((⟨#[35, 69, 88, 84, 77, 51, 85, 10, 35, 69, 88, 84, 45, 88, 45, 86, 69, 82, 83, 73, 79, 78, 58]⟩ : ByteArray) ++ dec m.version ++ (⟨#[10]⟩ : ByteArray))) Z (ex_add (Z.g 20 rfl) rfl (by (try simp only [ByteArray.size_append', ByteArray.size_mk', List.size_toArray, List.length_cons, List.length_nil]); omega)) fun a Z => sv_n 1 Z rfl fun a Z => Z.nx [7, 6, 3, 1, 2] rfl fun Z => sh (wr (sv_r (v := .agg (m.cells sl)) Z (ex_lb ag_spec_Media (Z.g 3 rfl) (Z.at 0 rfl) rfl) fun a Z => ?_))
 have hlt := Z.lt
 have hsz := Z.size
 refine sv_call (S := fun v w' => Own strL 9 1 w' w2.heap.size v m.head) Z rfl rfl (by decide) (ex_call1 cf_spec_Media_Head (Z.g 22 rfl)) (head_any m hm sl hsl1 _) ?_
 rintro a vh w3 hoh0 hbw3 Z
 have hoh := hoh0
 refine sv_n 1 Z rfl fun a Z => Z.nx [8, 7, 6, 3, 1, 2] rfl fun Z => sh (wp_seq (wr (sv_n 1 Z rfl fun a Z => Z.nx [24, 8, 7, 6, 3, 1, 2] rfl fun Z => sh (cond_f (Z.g 24 rfl) (wp_skip (sh (wp_seq ?_)))))))
 refine wr (sv_n 1 Z rfl fun a Z => sv_r (v := .int .i64 ((m.head.length : Nat) : Int)) Z (ex_lenO Tryz.underlying46 (Z.g 28 rfl) hoh) fun a Z => sv_r (v := .int .i64 0) Z ex_mc fun a Z => Z.nx [30, 29, 28, 24, 8, 7, 6, 3, 1, 2] rfl fun Z => sh ?_)
 obtain ⟨BH, hBH⟩ : ∃ B, B = w2.heap.size := ⟨_, rfl⟩
 rw [← hBH] at hoh
 have hE : Ev 77 ((30, .int .i64 ((0 : Nat) : Int)) :: (29, .int .i64 ((m.head.length : Nat) : Int)) :: ((7, .string ((⟨#[35, 69, 88, 84, 77, 51, 85, 10, 35, 69, 88, 84, 45, 88, 45, 86, 69, 82, 83, 73, 79, 78, 58]⟩ : ByteArray) ++ dec m.version ++ (⟨#[10]⟩ : ByteArray))) :: (28, vh) :: (24, .bool false) :: (8, vh) :: (6, .string (⟨#[]⟩)) :: (3, pt g1 0) :: (1, .bool false) :: (2, .int .u32 ((nn : Nat) : Int)) :: [])) a := Z.ev.pick rfl
 refine range_wp2 (N := 77) (n := m.head.length) [7, 28, 24, 8, 6, 3, 1, 2] (l0 := ((7, .string ((⟨#[35, 69, 88, 84, 77, 51, 85, 10, 35, 69, 88, 84, 45, 88, 45, 86, 69, 82, 83, 73, 79, 78, 58]⟩ : ByteArray) ++ dec m.version ++ (⟨#[10]⟩ : ByteArray))) :: (28, vh) :: (24, .bool false) :: (8, vh) :: (6, .string (⟨#[]⟩)) :: (3, pt g1 0) :: (1, .bool false) :: (2, .int .u32 ((nn : Nat) : Int)) :: [])) (fun k l w' => ∃ o : ByteArray, l = ((7, .string o) :: (28, vh) :: (24, .bool false) :: (8, vh) :: (6, .string (⟨#[]⟩)) :: (3, pt g1 0) :: (1, .bool false) :: (2, .int .u32 ((nn : Nat) : Int)) :: []) ∧ o = cat (((⟨#[35, 69, 88, 84, 77, 51, 85, 10, 35, 69, 88, 84, 45, 88, 45, 86, 69, 82, 83, 73, 79, 78, 58]⟩ : ByteArray) ++ (dec m.version)) ++ (⟨#[10]⟩ : ByteArray)) (m.head.take k) ∧ o.size ≤ 100 + k * 400 ∧ Own strL 9 1 w' BH vh m.head ∧ Hv [⟨g1, (m.cells sl), 29, true⟩] (fun _ => False) w w') (by omega) hE rfl ⟨_, rfl, by rw [List.take_zero]; rfl, by simp only [ByteArray.size_append', ByteArray.size_mk', List.size_toArray, List.length_cons, List.length_nil]; omega, hoh, Z.hv⟩ (by decide) (by decide) (by decide) ?_ ?_
 ·clear hE Z
  rintro k l a w4 hk hE ⟨o, rfl, ho, hoz, hoh, hV⟩ Q' hQ'
  have Z : Sv 77 ((30, .int .i64 ((k : Nat) : Int)) :: (29, .int .i64 ((m.head.length : Nat) : Int)) :: (7, .string o) :: (28, vh) :: (24, .bool false) :: (8, vh) :: (6, .string (⟨#[]⟩)) :: (3, pt g1 0) :: (1, .bool false) :: (2, .int .u32 ((nn : Nat) : Int)) :: []) [⟨g1, (m.cells sl), 29, true⟩] (fun _ => False) w a w4 := hV.sv hE
  obtain ⟨l, hlk⟩ : ∃ l, m.head[k]? = some l := ⟨_, List.getElem?_eq_getElem hk⟩
  have hlz := hhs l (List.mem_of_getElem? hlk)
  refine wp_block (wr (sv_elemS Tryz.underlying46 Tryz.sizeOf9 ld_string Z hoh hlk (Z.g 28 rfl) (Z.g 30 rfl) (by decide) (by decide) fun a px Z => sv_n 1 Z rfl fun a Z => Z.nx [10, 30, 29, 7, 28, 24, 8, 6, 3, 1, 2] rfl fun Z => sh (wp_region_lit (sv_n 2 Z rfl fun a Z => ?_))))
  refine sv_r (v := .string (o ++ l)) Z (ex_add (Z.g 34 rfl) (Z.g 35 rfl) (by (try simp only [ByteArray.size_append', ByteArray.size_mk', List.size_toArray, List.length_cons, List.length_nil]); omega)) fun a Z => sv_n 1 Z rfl fun a Z => Z.nx [7, 30, 29, 28, 24, 8, 6, 3, 1, 2] rfl fun Z => ?_
  show Q' .normal a w4
  exact hQ' _ a w4 rfl (Z.ev.pick (l' := (30, .int .i64 ((k : Nat) : Int)) :: (29, .int .i64 ((m.head.length : Nat) : Int)) :: ((7, .string (o ++ l)) :: (28, vh) :: (24, .bool false) :: (8, vh) :: (6, .string (⟨#[]⟩)) :: (3, pt g1 0) :: (1, .bool false) :: (2, .int .u32 ((nn : Nat) : Int)) :: [])) rfl) ⟨_, rfl, by rw [take_snoc hlk, cat_snoc, ho], by rw [ByteArray.size_append']; omega, hoh, Z.hv⟩
 ·clear hE Z
  rintro l a w5 hE ⟨o, rfl, ho, hoz, hoh, hV⟩
  have Z : Sv 77 ((30, .int .i64 ((m.head.length : Nat) : Int)) :: (29, .int .i64 ((m.head.length : Nat) : Int)) :: (7, .string o) :: (28, vh) :: (24, .bool false) :: (8, vh) :: (6, .string (⟨#[]⟩)) :: (3, pt g1 0) :: (1, .bool false) :: (2, .int .u32 ((nn : Nat) : Int)) :: []) [⟨g1, (m.cells sl), 29, true⟩] (fun _ => False) w a w5 := hV.sv hE
  rw [List.take_length] at ho
  clear hoh
  refine sh (wp_seq (wp_seq ?_))
  have hTw : SegsAt B0 sl xs w5 := hT.ty (TyOnly.of_below (ts := []) Z.toBelow) (by decide)
  refine wp_region_lit (sv_n 1 Z rfl fun a Z => sv_l (v := sl) 0 Z rfl (Z.g 38 rfl) lt_sl_spec_Segment rfl fun a Z => sv_r (v := .int .i64 ((xs.length : Nat) : Int)) Z (ex_lenO Tryz.underlying27 (Z.g 39 rfl) hTw.own) fun a Z => sv_r (v := .int .i64 0) Z ex_mc fun a Z => Z.nx [41, 40, 39, 30, 29, 7, 28, 24, 8, 6, 3, 1, 2] rfl fun Z => ?_)
  clear hTw
  refine sh ?_
  have hE : Ev 77 ((41, .int .i64 ((0 : Nat) : Int)) :: (40, .int .i64 ((xs.length : Nat) : Int)) :: ((7, .string o) :: (39, sl) :: (30, .int .i64 ((m.head.length : Nat) : Int)) :: (29, .int .i64 ((m.head.length : Nat) : Int)) :: (28, vh) :: (24, .bool false) :: (8, vh) :: (6, .string (⟨#[]⟩)) :: (3, pt g1 0) :: (1, .bool false) :: (2, .int .u32 ((nn : Nat) : Int)) :: [])) a := Z.ev.pick rfl
  refine range_wp2 (N := 77) (n := xs.length) [7, 39, 30, 29, 28, 24, 8, 6, 3, 1, 2] (l0 := ((7, .string o) :: (39, sl) :: (30, .int .i64 ((m.head.length : Nat) : Int)) :: (29, .int .i64 ((m.head.length : Nat) : Int)) :: (28, vh) :: (24, .bool false) :: (8, vh) :: (6, .string (⟨#[]⟩)) :: (3, pt g1 0) :: (1, .bool false) :: (2, .int .u32 ((nn : Nat) : Int)) :: [])) (fun k l w' => ∃ o : ByteArray, l = ((7, .string o) :: (39, sl) :: (30, .int .i64 ((m.head.length : Nat) : Int)) :: (29, .int .i64 ((m.head.length : Nat) : Int)) :: (28, vh) :: (24, .bool false) :: (8, vh) :: (6, .string (⟨#[]⟩)) :: (3, pt g1 0) :: (1, .bool false) :: (2, .int .u32 ((nn : Nat) : Int)) :: []) ∧ o = catS (cat (((⟨#[35, 69, 88, 84, 77, 51, 85, 10, 35, 69, 88, 84, 45, 88, 45, 86, 69, 82, 83, 73, 79, 78, 58]⟩ : ByteArray) ++ (dec m.version)) ++ (⟨#[10]⟩ : ByteArray)) m.head) ((xs.map (·.1)).take k) ∧ o.size ≤ 3000 + k * 3000 ∧ Hv [⟨g1, (m.cells sl), 29, true⟩] (fun _ => False) w w') (by omega) hE rfl ⟨_, rfl, by rw [List.take_zero]; rw [ho]; rfl, by omega, Z.hv⟩ (by decide) (by decide) (by decide) ?_ ?_
  ·clear hE Z
   rintro k l a w6 hk hE ⟨o, rfl, ho, hoz, hV⟩ Q' hQ'
   have Z : Sv 77 ((41, .int .i64 ((k : Nat) : Int)) :: (40, .int .i64 ((xs.length : Nat) : Int)) :: (7, .string o) :: (39, sl) :: (30, .int .i64 ((m.head.length : Nat) : Int)) :: (29, .int .i64 ((m.head.length : Nat) : Int)) :: (28, vh) :: (24, .bool false) :: (8, vh) :: (6, .string (⟨#[]⟩)) :: (3, pt g1 0) :: (1, .bool false) :: (2, .int .u32 ((nn : Nat) : Int)) :: []) [⟨g1, (m.cells sl), 29, true⟩] (fun _ => False) w a w6 := hV.sv hE
   obtain ⟨x, hxk⟩ : ∃ x, xs[k]? = some x := ⟨_, List.getElem?_eq_getElem hk⟩
   have hxm := List.mem_of_getElem? hxk
   obtain ⟨hxn, hxu⟩ := hxs x hxm
   have hll := lines_len x.1
   have hlz := lines_size hxn
   have hmk : (xs.map (·.1))[k]? = some x.1 := by rw [List.getElem?_map, hxk]; rfl
   refine wp_block (wr (sv_n 1 Z rfl fun a Z => ?_))
   have hTw : SegsAt B0 sl xs w6 := hT.ty (TyOnly.of_below (ts := []) Z.toBelow) (by decide)
   refine sv_elem (n := k) ag_spec_Segment Tryz.underlying27 (fun _ => rfl) (by decide) Z hTw.own hxk (Z.g 39 rfl) (Z.g 41 rfl) (by decide) (by decide) ?_ rfl (by decide)
   intro a Z
   have hxA := hTw.ats x hxm
   clear hTw
   refine sv_al Z al_spec_Segment (by decide) fun g7 a w8 hg7 hbw8 hwg7 Z => sv_n 1 Z rfl fun a Z => sv_sb (i := 0) Z ag_spec_Segment (Z.g 12 rfl) (Z.g 45 rfl) rfl rfl rfl hxA.one rfl fun w9 hty Z => Z.nx [11, 12, 41, 40, 7, 39, 30, 29, 28, 24, 8, 6, 3, 1, 2] rfl fun Z => ?_
   replace hxA : x.At w9 := (hT.ats x hxm).ty (TyOnly.of_below (ts := []) Z.toBelow) (by decide)
   refine sh (wr (sv_r (v := .agg x.cells) Z (ex_lb ag_spec_Segment (Z.g 12 rfl) (Z.at 0 rfl) rfl) fun a Z => ?_))
   have hlt := Z.lt
   have hsz := Z.size
   refine sv_call (S := fun v w' => Own strL 9 1 w' w9.heap.size v x.1.lines) Z rfl rfl (by decide) (ex_call1 cf_spec_Segment_Lines (Z.g 46 rfl)) (lines_any x hxn _ hxA) ?_
   rintro a vl w10 hol hbw10 Z
   refine sv_n 1 Z rfl fun a Z => Z.nx [13, 11, 12, 41, 40, 7, 39, 30, 29, 28, 24, 8, 6, 3, 1, 2] rfl fun Z => sh (wp_seq (wr (sv_n 1 Z rfl fun a Z => Z.nx [48, 13, 11, 12, 41, 40, 7, 39, 30, 29, 28, 24, 8, 6, 3, 1, 2] rfl fun Z => sh (cond_f (Z.g 48 rfl) (wp_skip (sh (wp_seq ?_)))))))
   refine wr (sv_n 1 Z rfl fun a Z => sv_r (v := .int .i64 ((x.1.lines.length : Nat) : Int)) Z (ex_lenO Tryz.underlying46 (Z.g 56 rfl) hol) fun a Z => sv_r (v := .int .i64 0) Z ex_mc fun a Z => Z.nx [58, 57, 56, 48, 13, 11, 12, 41, 40, 7, 39, 30, 29, 28, 24, 8, 6, 3, 1, 2] rfl fun Z => sh ?_)
   obtain ⟨BL, hBL⟩ : ∃ B, B = w9.heap.size := ⟨_, rfl⟩
   rw [← hBL] at hol
   have hE : Ev 77 ((58, .int .i64 ((0 : Nat) : Int)) :: (57, .int .i64 ((x.1.lines.length : Nat) : Int)) :: ((7, .string o) :: (56, vl) :: (48, .bool false) :: (13, vl) :: (11, .int .i64 ((k : Nat) : Int)) :: (12, pt g7 0) :: (41, .int .i64 ((k : Nat) : Int)) :: (40, .int .i64 ((xs.length : Nat) : Int)) :: (39, sl) :: (30, .int .i64 ((m.head.length : Nat) : Int)) :: (29, .int .i64 ((m.head.length : Nat) : Int)) :: (28, vh) :: (24, .bool false) :: (8, vh) :: (6, .string (⟨#[]⟩)) :: (3, pt g1 0) :: (1, .bool false) :: (2, .int .u32 ((nn : Nat) : Int)) :: [])) a := Z.ev.pick rfl
   refine range_wp2 (N := 77) (n := x.1.lines.length) [7, 56, 48, 13, 11, 12, 41, 40, 39, 30, 29, 28, 24, 8, 6, 3, 1, 2] (l0 := ((7, .string o) :: (56, vl) :: (48, .bool false) :: (13, vl) :: (11, .int .i64 ((k : Nat) : Int)) :: (12, pt g7 0) :: (41, .int .i64 ((k : Nat) : Int)) :: (40, .int .i64 ((xs.length : Nat) : Int)) :: (39, sl) :: (30, .int .i64 ((m.head.length : Nat) : Int)) :: (29, .int .i64 ((m.head.length : Nat) : Int)) :: (28, vh) :: (24, .bool false) :: (8, vh) :: (6, .string (⟨#[]⟩)) :: (3, pt g1 0) :: (1, .bool false) :: (2, .int .u32 ((nn : Nat) : Int)) :: [])) (fun j l w' => ∃ q : ByteArray, l = ((7, .string q) :: (56, vl) :: (48, .bool false) :: (13, vl) :: (11, .int .i64 ((k : Nat) : Int)) :: (12, pt g7 0) :: (41, .int .i64 ((k : Nat) : Int)) :: (40, .int .i64 ((xs.length : Nat) : Int)) :: (39, sl) :: (30, .int .i64 ((m.head.length : Nat) : Int)) :: (29, .int .i64 ((m.head.length : Nat) : Int)) :: (28, vh) :: (24, .bool false) :: (8, vh) :: (6, .string (⟨#[]⟩)) :: (3, pt g1 0) :: (1, .bool false) :: (2, .int .u32 ((nn : Nat) : Int)) :: []) ∧ q = cat o (x.1.lines.take j) ∧ q.size ≤ o.size + j * 400 ∧ Own strL 9 1 w' BL vl x.1.lines ∧ Hv [⟨g7, x.cells, 50, true⟩, ⟨g1, (m.cells sl), 29, true⟩] (fun _ => False) w w') (by omega) hE rfl ⟨_, rfl, by rw [List.take_zero]; rfl, by omega, hol, Z.hv⟩ (by decide) (by decide) (by decide) ?_ ?_
   ·clear hE Z
    rintro j l a w11 hk hE ⟨q, rfl, hq, hqz, hol, hV2⟩ Q' hQ'
    have Z : Sv 77 ((58, .int .i64 ((j : Nat) : Int)) :: (57, .int .i64 ((x.1.lines.length : Nat) : Int)) :: (7, .string q) :: (56, vl) :: (48, .bool false) :: (13, vl) :: (11, .int .i64 ((k : Nat) : Int)) :: (12, pt g7 0) :: (41, .int .i64 ((k : Nat) : Int)) :: (40, .int .i64 ((xs.length : Nat) : Int)) :: (39, sl) :: (30, .int .i64 ((m.head.length : Nat) : Int)) :: (29, .int .i64 ((m.head.length : Nat) : Int)) :: (28, vh) :: (24, .bool false) :: (8, vh) :: (6, .string (⟨#[]⟩)) :: (3, pt g1 0) :: (1, .bool false) :: (2, .int .u32 ((nn : Nat) : Int)) :: []) [⟨g7, x.cells, 50, true⟩, ⟨g1, (m.cells sl), 29, true⟩] (fun _ => False) w a w11 := hV2.sv hE
    obtain ⟨l, hlk⟩ : ∃ l, x.1.lines[j]? = some l := ⟨_, List.getElem?_eq_getElem hk⟩
    have hlz1 := hlz l (List.mem_of_getElem? hlk)
    refine wp_block (wr (sv_elemS Tryz.underlying46 Tryz.sizeOf9 ld_string Z hol hlk (Z.g 56 rfl) (Z.g 58 rfl) (by decide) (by decide) fun a px Z => sv_n 1 Z rfl fun a Z => Z.nx [15, 58, 57, 7, 56, 48, 13, 11, 12, 41, 40, 39, 30, 29, 28, 24, 8, 6, 3, 1, 2] rfl fun Z => sh (wp_region_lit (sv_n 2 Z rfl fun a Z => ?_))))
    refine sv_r (v := .string (q ++ l)) Z (ex_add (Z.g 62 rfl) (Z.g 63 rfl) (by (try simp only [ByteArray.size_append', ByteArray.size_mk', List.size_toArray, List.length_cons, List.length_nil]); omega)) fun a Z => sv_n 1 Z rfl fun a Z => Z.nx [7, 58, 57, 56, 48, 13, 11, 12, 41, 40, 39, 30, 29, 28, 24, 8, 6, 3, 1, 2] rfl fun Z => ?_
    show Q' .normal a w11
    exact hQ' _ a w11 rfl (Z.ev.pick (l' := (58, .int .i64 ((j : Nat) : Int)) :: (57, .int .i64 ((x.1.lines.length : Nat) : Int)) :: ((7, .string (q ++ l)) :: (56, vl) :: (48, .bool false) :: (13, vl) :: (11, .int .i64 ((k : Nat) : Int)) :: (12, pt g7 0) :: (41, .int .i64 ((k : Nat) : Int)) :: (40, .int .i64 ((xs.length : Nat) : Int)) :: (39, sl) :: (30, .int .i64 ((m.head.length : Nat) : Int)) :: (29, .int .i64 ((m.head.length : Nat) : Int)) :: (28, vh) :: (24, .bool false) :: (8, vh) :: (6, .string (⟨#[]⟩)) :: (3, pt g1 0) :: (1, .bool false) :: (2, .int .u32 ((nn : Nat) : Int)) :: [])) rfl) ⟨_, rfl, by rw [take_snoc hlk, cat_snoc, hq], by rw [ByteArray.size_append']; omega, hol, Z.hv⟩
   ·clear hE Z
    rintro l a w12 hE ⟨q, rfl, hq, hqz, hol, hV2⟩
    have Z : Sv 77 ((58, .int .i64 ((x.1.lines.length : Nat) : Int)) :: (57, .int .i64 ((x.1.lines.length : Nat) : Int)) :: (7, .string q) :: (56, vl) :: (48, .bool false) :: (13, vl) :: (11, .int .i64 ((k : Nat) : Int)) :: (12, pt g7 0) :: (41, .int .i64 ((k : Nat) : Int)) :: (40, .int .i64 ((xs.length : Nat) : Int)) :: (39, sl) :: (30, .int .i64 ((m.head.length : Nat) : Int)) :: (29, .int .i64 ((m.head.length : Nat) : Int)) :: (28, vh) :: (24, .bool false) :: (8, vh) :: (6, .string (⟨#[]⟩)) :: (3, pt g1 0) :: (1, .bool false) :: (2, .int .u32 ((nn : Nat) : Int)) :: []) [⟨g7, x.cells, 50, true⟩, ⟨g1, (m.cells sl), 29, true⟩] (fun _ => False) w a w12 := hV2.sv hE
    rw [List.take_length] at hq
    refine sh (wp_region_lit (sv_n 2 Z rfl fun a Z => sv_l (v := .string x.1.uri) 0 Z rfl (Z.g 67 rfl) lt_string rfl fun a Z => ?_))
    refine sv_r (v := .string (x.1.uri ++ (⟨#[10]⟩ : ByteArray))) Z (ex_add (Z.g 68 rfl) rfl (by (try simp only [ByteArray.size_append', ByteArray.size_mk', List.size_toArray, List.length_cons, List.length_nil]); omega)) fun a Z => ?_
    refine sv_r (v := .string (q ++ (x.1.uri ++ (⟨#[10]⟩ : ByteArray)))) Z (ex_add (Z.g 66 rfl) (Z.g 69 rfl) (by (try simp only [ByteArray.size_append', ByteArray.size_mk', List.size_toArray, List.length_cons, List.length_nil]); omega)) fun a Z => sv_n 1 Z rfl fun a Z => Z.nx [7, 58, 57, 56, 48, 13, 11, 12, 41, 40, 39, 30, 29, 28, 24, 8, 6, 3, 1, 2] rfl fun Z => ?_
    show Q' .normal a w12
    exact hQ' _ a w12 rfl (Z.ev.pick (l' := (41, .int .i64 ((k : Nat) : Int)) :: (40, .int .i64 ((xs.length : Nat) : Int)) :: ((7, .string (q ++ (x.1.uri ++ (⟨#[10]⟩ : ByteArray)))) :: (39, sl) :: (30, .int .i64 ((m.head.length : Nat) : Int)) :: (29, .int .i64 ((m.head.length : Nat) : Int)) :: (28, vh) :: (24, .bool false) :: (8, vh) :: (6, .string (⟨#[]⟩)) :: (3, pt g1 0) :: (1, .bool false) :: (2, .int .u32 ((nn : Nat) : Int)) :: [])) rfl) ⟨_, rfl, by rw [take_snoc hmk, catS_snoc, hq, ho], by simp only [ByteArray.size_append', ByteArray.size_mk', List.size_toArray, List.length_cons, List.length_nil]; omega, (Z.mz [false, true] rfl).hv⟩
  ·clear hE Z
   rintro l a w13 hE ⟨o, rfl, ho, hoz, hV⟩
   have Z : Sv 77 ((41, .int .i64 ((xs.length : Nat) : Int)) :: (40, .int .i64 ((xs.length : Nat) : Int)) :: (7, .string o) :: (39, sl) :: (30, .int .i64 ((m.head.length : Nat) : Int)) :: (29, .int .i64 ((m.head.length : Nat) : Int)) :: (28, vh) :: (24, .bool false) :: (8, vh) :: (6, .string (⟨#[]⟩)) :: (3, pt g1 0) :: (1, .bool false) :: (2, .int .u32 ((nn : Nat) : Int)) :: []) [⟨g1, (m.cells sl), 29, true⟩] (fun _ => False) w a w13 := hV.sv hE
   have hfl : ((xs.map (·.1)).take xs.length) = xs.map (·.1) := by rw [← List.length_map (f := (·.1)), List.take_length]
   rw [hfl] at ho
   refine sh (wp_seq (wr (sv_n 1 Z rfl fun a Z => sv_l (v := .bool (m.closed)) 0 Z rfl (Z.g 72 rfl) lt_bool rfl fun a Z => Z.nx [73, 41, 40, 7, 39, 30, 29, 28, 24, 8, 6, 3, 1, 2] rfl fun Z => sh ?_)))
   refine if_join (fun a w' => ∃ zz : ByteArray, zz = (if (m.closed) = true then o ++ (⟨#[35, 69, 88, 84, 45, 88, 45, 69, 78, 68, 76, 73, 83, 84, 10]⟩ : ByteArray) else o) ∧ zz.size ≤ 100000 ∧ Sv 77 ((7, .string zz) :: (41, .int .i64 ((xs.length : Nat) : Int)) :: (40, .int .i64 ((xs.length : Nat) : Int)) :: (39, sl) :: (30, .int .i64 ((m.head.length : Nat) : Int)) :: (29, .int .i64 ((m.head.length : Nat) : Int)) :: (28, vh) :: (24, .bool false) :: (8, vh) :: (6, .string (⟨#[]⟩)) :: (3, pt g1 0) :: (1, .bool false) :: (2, .int .u32 ((nn : Nat) : Int)) :: []) [⟨g1, (m.cells sl), 29, true⟩] (fun _ => False) w a w') (Z.g 73 rfl) ?_ ?_ ?_
   ·intro hb14 Q' hQ'
    refine wp_region_lit (sv_n 1 Z rfl fun a Z => ?_)
    refine sv_r (v := .string (o ++ (⟨#[35, 69, 88, 84, 45, 88, 45, 69, 78, 68, 76, 73, 83, 84, 10]⟩ : ByteArray))) Z (ex_add (Z.g 74 rfl) rfl (by (try simp only [ByteArray.size_append', ByteArray.size_mk', List.size_toArray, List.length_cons, List.length_nil]); omega)) fun a Z => sv_n 1 Z rfl fun a Z => Z.nx [7, 73, 41, 40, 39, 30, 29, 28, 24, 8, 6, 3, 1, 2] rfl fun Z => ?_
    exact hQ' _ _ ⟨_, rfl, by rw [if_pos hb14]; (try simp only [ByteArray.size_append', ByteArray.size_mk', List.size_toArray, List.length_cons, List.length_nil]); omega, by rw [if_pos hb14]; exact Z.pick rfl⟩
   ·intro hb14 Q' hQ'
    refine wp_skip ?_
    exact hQ' _ _ ⟨_, rfl, by rw [if_neg (by rw [hb14]; decide)]; (try simp only [ByteArray.size_append', ByteArray.size_mk', List.size_toArray, List.length_cons, List.length_nil]); omega, by rw [if_neg (by rw [hb14]; decide)]; exact Z.pick rfl⟩
   ·rintro a w15 ⟨oc, hoc, hzoc, Z⟩
    refine sh (wr (sv_n 2 Z rfl fun a Z => Z.nx [6, 7, 41, 40, 39, 30, 29, 28, 24, 8, 3, 1, 2] rfl fun Z => sh (wp_ret ?_)))
    try simp only [Exit.inBlock, Exit.then]
    refine ret_of_ev Z.ev rfl (Z.g 6 rfl) ⟨?_, Z.toBelow⟩
    rw [hoc, ho]; rfl
end Go.Proofs.YtflppablgdegcaaGreatDoor
