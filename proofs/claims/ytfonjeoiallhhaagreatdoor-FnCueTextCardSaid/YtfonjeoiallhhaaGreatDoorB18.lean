/- Joined: Ln. -/
import Derived.Test.YtfonjeoiallhhaaGreatDoorB17
/- The walks of the reference's lines of a segment and of a playlist's head. -/
set_option maxRecDepth 100000
set_option maxHeartbeats 8000000
namespace Go.Proofs.YtfonjeoiallhhaaGreatDoor
open Go.RowKit
def Ky.textO (o : Option Ky) : ByteArray := (o.map Ky.text).getD ⟨#[]⟩
def Mp.textO (o : Option Mp) : ByteArray := (o.map Mp.text).getD ⟨#[]⟩
theorem keyTextO_any (o : Option Ky) (hs : o.isSome = true) (hk : ∀ k, o = some k → KySz k) (v : Value) (w : World) (h : PtrTo 96 (o.map Ky.cells) v w) : Calls Tryz.prog 41 #[v] w fun e w' => e = .returned (.string (Ky.textO o)) ∧ Below w.heap.size w w' := by
 cases o with
 | none => cases hs
 | some k =>
  rcases h with ⟨h, _⟩ | ⟨g, cs, h, rfl, hg⟩
  ·cases h
  ·obtain rfl := Option.some.inj h
   exact keyText_any k (hk k rfl) g w hg
theorem mapTextO_any (o : Option Mp) (hs : o.isSome = true) (hk : ∀ k, o = some k → MapOk k) (v : Value) (w : World) (h : PtrTo 99 (o.map Mp.cells) v w) : Calls Tryz.prog 42 #[v] w fun e w' => e = .returned (.string (Mp.textO o)) ∧ Below w.heap.size w w' := by
 cases o with
 | none => cases hs
 | some k =>
  rcases h with ⟨h, _⟩ | ⟨g, cs, h, rfl, hg⟩
  ·cases h
  ·obtain rfl := Option.some.inj h
   obtain ⟨h1, h2⟩ := hk k rfl
   have := h1.size
   exact mapText_any k (by omega) (by omega) (by omega) g w hg
theorem ex_ptne {a : Act} {w : World} {dst : Option Nat} {T T1 T' ty : TypeId} {ps : String} {af : Array Edge} {gd : Option (Nat × Bool)} {x : Operand} {v : Value} {o : Option (Array Value)} {w1 : World} (h : Eqp T) (hp : PtrTo T1 o v w1) (hx : a.eval x = v) : (execOp a.eval ⟨dst, .binOp .neq T x (.const (.pointer none)) T', ty, ps, af, gd⟩).run Tryz.prog w = .ok (.value (.bool o.isSome)) w := by
 obtain ⟨p, rfl, h1⟩ := ptr_isSome hp
 rw [← h1]
 exact ex_pne h hx
/-- What a segment's lines ask for. -/
structure SegLn (s : Sm) : Prop where
 title : Word 20 s.title
 e : s.e < 160
 part : s.limit = 0 ∧ s.offset = 0 ∨ 1 ≤ s.limit ∧ s.limit ≤ 4294967296 ∧ s.offset < 4294967296
 key : ∀ k, s.key = some k → KeyOk k
 map : ∀ m, s.map = some m → MapOk m
 date : DateOk s.date
theorem SegOk.ln {s : Sm} (h : SegOk s) : SegLn s := ⟨h.title, h.e, h.part, h.key, h.map, h.date⟩
/-- The lines ahead of a segment's URI. -/
def Sm.lines (s : Sm) : List ByteArray :=
 let l := if (s.key.map Ky.cells).isSome = true then ([] : List ByteArray) ++ [Ky.textO s.key] else ([] : List ByteArray)
 let l := if s.disc = true then l ++ [(⟨#[35, 69, 88, 84, 45, 88, 45, 68, 73, 83, 67, 79, 78, 84, 73, 78, 85, 73, 84, 89, 10]⟩ : ByteArray)] else l
 let l := if (s.map.map Mp.cells).isSome = true then l ++ [Mp.textO s.map] else l
 let l := if (ne s.date) = true then l ++ [((⟨#[35, 69, 88, 84, 45, 88, 45, 80, 82, 79, 71, 82, 65, 77, 45, 68, 65, 84, 69, 45, 84, 73, 77, 69, 58]⟩ : ByteArray) ++ s.date) ++ (⟨#[10]⟩ : ByteArray)] else l
 let l := if 0 < s.limit then l ++ [(((((⟨#[35, 69, 88, 84, 45, 88, 45, 66, 89, 84, 69, 82, 65, 78, 71, 69, 58]⟩ : ByteArray) ++ (dec s.limit)) ++ (⟨#[64]⟩ : ByteArray)) ++ (dec s.offset)) ++ (⟨#[10]⟩ : ByteArray))] else l
 l ++ [(((((⟨#[35, 69, 88, 84, 73, 78, 70, 58]⟩ : ByteArray) ++ (secs s.e)) ++ (⟨#[44]⟩ : ByteArray)) ++ s.title) ++ (⟨#[10]⟩ : ByteArray))]
theorem DateOk.size {d : ByteArray} (h : DateOk d) : d.size ≤ 60 := by
 rcases h with rfl | ⟨y, _, h2, rfl⟩
 ·decide
 ·have := dec_le (n := y) (by omega)
  simp only [ByteArray.size_append', ByteArray.size_mk', List.size_toArray, List.length_cons, List.length_nil]
  omega
theorem lines_any (x : Sx) (hx : SegLn x.1) (w : World) (hA : x.At w) : Calls Tryz.prog 26 #[.agg x.cells] w fun e w' => ∃ v, e = .returned v ∧ Below w.heap.size w w' ∧ Own strL 9 1 w' w.heap.size v x.1.lines := by
 have he := hx.e
 have hpt := hx.part
 have hzt := hx.title.size
 have hzd := hx.date.size
 have hd1 := dec_le (n := x.1.limit) (by omega)
 have hd2 := dec_le (n := x.1.offset) (by omega)
 have hd3 := secs_size (n := x.1.e) (by omega)
 refine calls_of_ev Tryz.func26 rfl (show 1 ≤ 68 from by decide) ?_
 intro a hE
 have hE : Ev 68 ((0, .agg x.cells) :: []) a := hE
 have hS : Sv 68 ((0, .agg x.cells) :: []) [] (fun _ => False) w a w := Sv.start hE _ _
 clear hE
 refine wp_seq ?_
 refine wp_region_lit ?_
 refine sv_box hS (hS.get 0 rfl) (bx_spec_Segment _) (by decide) ?_
 intro g1 a w2 hg1 hbw2 hwg1 hS
 refine sv_r (v := .slice none 0 0) hS ex_ac fun a hS => ?_
 refine wpList_nil ?_
 replace hS := hS.cut [2, 1]
 show Code.wp _ _ _ _ _
 refine wp_seq ?_
 refine wp_region_lit ?_
 refine sv_new (T := 9) (cs := #[]) hS rfl rfl (by decide) (fun g => .slice (some ⟨g, 0, none⟩) 0 0) (by simp only [execOp, List.map_toArray, List.map_cons, List.map_nil, ]; go_simp) ?_
 intro g3 a w4 hg3 hbw4 hwg3 hS
 refine sv_r (v := .slice (some ⟨g3, 0, none⟩) 0 0) hS (ex_as (hS.get 4 rfl)) fun a hS => ?_
 refine wpList_nil ?_
 replace hS := hS.cut [3, 2, 1]
 have ho0 : Own strL 9 1 w4 w.heap.size (.slice (some ⟨g3, 0, none⟩) 0 0) ([] : List ByteArray) := Own.fresh (fun _ => rfl) (hS.at 0 rfl) hg3 rfl rfl (by decide)
 replace hS : Sv 68 ((3, .slice (some ⟨g3, 0, none⟩) 0 0) :: (2, .slice none 0 0) :: (1, pt g1 0) :: []) [⟨g1, x.cells, 40, true⟩] (fun _ => False) w a w4 := (hS.mask [false, true]).pick rfl
 show Code.wp _ _ _ _ _
 refine wp_seq ?_
 refine wp_seq ?_
 refine wp_region_lit ?_
 refine sv_r (v := pt g1 5) hS (ex_fo (hS.get 1 rfl) fo_spec_Segment_5 rfl) fun a hS => ?_
 refine sv_r (v := x.2.1) hS (ex_ld (hS.get 5 rfl) lt_p_spec_Key (cell_of_heap (v := x.2.1) (hS.at 0 rfl) rfl)) fun a hS => ?_
 refine sv_r (v := .bool (x.1.key.map Ky.cells).isSome) hS (ex_ptne eqp_p_spec_Key (hA.keep hS.toBelow).1 (hS.get 6 rfl)) fun a hS => ?_
 refine wpList_nil ?_
 replace hS := hS.cut [7, 3, 2, 1]
 show Code.wp _ _ _ _ _
 refine if_join (fun a w' => ∃ (v : Value) (L : List ByteArray), L = (if ((x.1.key.map Ky.cells).isSome) = true then (([] : List ByteArray) ++ [Ky.textO x.1.key]) else ([] : List ByteArray)) ∧ L.length ≤ 1 ∧ Own strL 9 1 w' w.heap.size v L ∧ Sv 68 ((3, v) :: (2, .slice none 0 0) :: (1, pt g1 0) :: []) [⟨g1, x.cells, 40, true⟩] (fun _ => False) w a w') (hS.get 7 rfl) ?_ ?_ ?_
 ·intro hb5 Q' hQ'
  refine wp_region_lit ?_
  refine sv_r (v := .slice (some ⟨g3, 0, none⟩) 0 0) hS (ex_mv (hS.get 3 rfl)) fun a hS => ?_
  refine sv_r (v := pt g1 5) hS (ex_fo (hS.get 1 rfl) fo_spec_Segment_5 rfl) fun a hS => ?_
  refine sv_r (v := x.2.1) hS (ex_ld (hS.get 9 rfl) lt_p_spec_Key (cell_of_heap (v := x.2.1) (hS.at 0 rfl) rfl)) fun a hS => ?_
  refine sv_callv (v := .string (Ky.textO x.1.key)) hS rfl rfl (by decide) (ex_call1 cf_spec_Key_Text (hS.get 10 rfl)) (keyTextO_any x.1.key (by simpa using hb5) (fun k hk => (hx.key k hk).sz) _ _ (hA.keep hS.toBelow).1) ?_
  intro a w6 hbw6 hS
  replace ho0 := ho0.ty (TyOnly.of_below (ts := []) hbw6) (by decide)
  refine sv_new (T := 9) (cs := #[.string (Ky.textO x.1.key)]) hS rfl rfl (by decide) (fun g => .slice (some ⟨g, 0, none⟩) 1 1) (by simp only [execOp, List.map_toArray, List.map_cons, List.map_nil, hS.get 11 rfl]; go_simp) ?_
  intro g7 a w8 hg7 hbw8 hwg7 hS
  replace ho0 := ho0.ty (TyOnly.of_below (ts := []) hbw8) (by decide)
  have hxg7 := hS.at 0 rfl
  replace hS : Sv 68 ((12, .slice (some ⟨g7, 0, none⟩) 1 1) :: (11, .string (Ky.textO x.1.key)) :: (10, x.2.1) :: (9, pt g1 5) :: (8, .slice (some ⟨g3, 0, none⟩) 0 0) :: (7, .bool ((x.1.key.map Ky.cells).isSome)) :: (3, .slice (some ⟨g3, 0, none⟩) 0 0) :: (2, .slice none 0 0) :: (1, pt g1 0) :: []) [⟨g1, x.cells, 40, true⟩] (fun _ => False) w a w8 := (hS.mask [false, true]).pick rfl
  refine sv_append (f := strL) (L := ([] : List ByteArray)) sli_sl_string (by decide) (fun _ => rfl) [Ky.textO x.1.key] hS (hS.get 8 rfl) (hS.get 12 rfl) hxg7 rfl rfl (fun y _ u hu => strL_one y u hu) ho0 rfl (by decide) (by (try simp only [List.length_append, List.length_cons, List.length_nil]); omega) (by (try simp only [List.length_append, List.length_cons, List.length_nil]); omega) ?_
  intro a sv9 w11 hty ho10 hS
  refine sv_r (v := sv9) hS (ex_as (hS.get 13 rfl)) fun a hS => ?_
  refine wpList_nil ?_
  replace hS := hS.cut [3, 7, 2, 1]
  exact hQ' _ _ ⟨_, (([] : List ByteArray) ++ [Ky.textO x.1.key]), by rw [if_pos hb5], by (try simp only [List.length_append, List.length_cons, List.length_nil]); omega, ho10, hS.pick rfl⟩
 ·intro hb5 Q' hQ'
  refine wp_skip ?_
  exact hQ' _ _ ⟨_, ([] : List ByteArray), by rw [if_neg (by rw [hb5]; decide)], by (try simp only [List.length_append, List.length_cons, List.length_nil]); omega, ho0, hS.pick rfl⟩
 ·rintro a w12 ⟨v1, L1, hL1, hlL1, ho1_, hS⟩
  show Code.wp _ _ _ _ _
  refine wp_seq ?_
  refine wp_seq ?_
  refine wp_region_lit ?_
  refine sv_r (v := pt g1 7) hS (ex_fo (hS.get 1 rfl) fo_spec_Segment_7 rfl) fun a hS => ?_
  refine sv_r (v := .bool (x.1.disc)) hS (ex_ld (hS.get 14 rfl) lt_bool (cell_of_heap (v := .bool (x.1.disc)) (hS.at 0 rfl) rfl)) fun a hS => ?_
  refine wpList_nil ?_
  replace hS := hS.cut [15, 3, 2, 1]
  show Code.wp _ _ _ _ _
  refine if_join (fun a w' => ∃ (v : Value) (L : List ByteArray), L = (if (x.1.disc) = true then (L1 ++ [⟨#[35, 69, 88, 84, 45, 88, 45, 68, 73, 83, 67, 79, 78, 84, 73, 78, 85, 73, 84, 89, 10]⟩]) else (if ((x.1.key.map Ky.cells).isSome) = true then (([] : List ByteArray) ++ [Ky.textO x.1.key]) else ([] : List ByteArray))) ∧ L.length ≤ 2 ∧ Own strL 9 1 w' w.heap.size v L ∧ Sv 68 ((3, v) :: (2, .slice none 0 0) :: (1, pt g1 0) :: []) [⟨g1, x.cells, 40, true⟩] (fun _ => False) w a w') (hS.get 15 rfl) ?_ ?_ ?_
  ·intro hb13 Q' hQ'
   refine wp_region_lit ?_
   refine sv_r (v := v1) hS (ex_mv (hS.get 3 rfl)) fun a hS => ?_
   refine sv_new (T := 9) (cs := #[.string (⟨#[35, 69, 88, 84, 45, 88, 45, 68, 73, 83, 67, 79, 78, 84, 73, 78, 85, 73, 84, 89, 10]⟩)]) hS rfl rfl (by decide) (fun g => .slice (some ⟨g, 0, none⟩) 1 1) (by simp only [execOp, List.map_toArray, List.map_cons, List.map_nil, ]; go_simp) ?_
   intro g14 a w15 hg14 hbw15 hwg14 hS
   replace ho1_ := ho1_.ty (TyOnly.of_below (ts := []) hbw15) (by decide)
   have hxg14 := hS.at 0 rfl
   replace hS : Sv 68 ((17, .slice (some ⟨g14, 0, none⟩) 1 1) :: (16, v1) :: (15, .bool (x.1.disc)) :: (3, v1) :: (2, .slice none 0 0) :: (1, pt g1 0) :: []) [⟨g1, x.cells, 40, true⟩] (fun _ => False) w a w15 := (hS.mask [false, true]).pick rfl
   refine sv_append (f := strL) (L := L1) sli_sl_string (by decide) (fun _ => rfl) [⟨#[35, 69, 88, 84, 45, 88, 45, 68, 73, 83, 67, 79, 78, 84, 73, 78, 85, 73, 84, 89, 10]⟩] hS (hS.get 16 rfl) (hS.get 17 rfl) hxg14 rfl rfl (fun y _ u hu => strL_one y u hu) ho1_ rfl (by decide) (by (try simp only [List.length_append, List.length_cons, List.length_nil]); omega) (by (try simp only [List.length_append, List.length_cons, List.length_nil]); omega) ?_
   intro a sv16 w18 hty ho17 hS
   refine sv_r (v := sv16) hS (ex_as (hS.get 18 rfl)) fun a hS => ?_
   refine wpList_nil ?_
   replace hS := hS.cut [3, 15, 2, 1]
   exact hQ' _ _ ⟨_, (L1 ++ [⟨#[35, 69, 88, 84, 45, 88, 45, 68, 73, 83, 67, 79, 78, 84, 73, 78, 85, 73, 84, 89, 10]⟩]), by rw [if_pos hb13], by (try simp only [List.length_append, List.length_cons, List.length_nil]); omega, ho17, hS.pick rfl⟩
  ·intro hb13 Q' hQ'
   refine wp_skip ?_
   exact hQ' _ _ ⟨_, L1, by rw [if_neg (by rw [hb13]; decide)] ; exact hL1, by (try simp only [List.length_append, List.length_cons, List.length_nil]); omega, ho1_, hS.pick rfl⟩
  ·rintro a w19 ⟨v2, L2, hL2, hlL2, ho2_, hS⟩
   show Code.wp _ _ _ _ _
   refine wp_seq ?_
   refine wp_seq ?_
   refine wp_region_lit ?_
   refine sv_r (v := pt g1 6) hS (ex_fo (hS.get 1 rfl) fo_spec_Segment_6 rfl) fun a hS => ?_
   refine sv_r (v := x.2.2) hS (ex_ld (hS.get 19 rfl) lt_p_spec_Map (cell_of_heap (v := x.2.2) (hS.at 0 rfl) rfl)) fun a hS => ?_
   refine sv_r (v := .bool (x.1.map.map Mp.cells).isSome) hS (ex_ptne eqp_p_spec_Map (hA.keep hS.toBelow).2 (hS.get 20 rfl)) fun a hS => ?_
   refine wpList_nil ?_
   replace hS := hS.cut [21, 3, 2, 1]
   show Code.wp _ _ _ _ _
   refine if_join (fun a w' => ∃ (v : Value) (L : List ByteArray), L = (if ((x.1.map.map Mp.cells).isSome) = true then (L2 ++ [Mp.textO x.1.map]) else (if (x.1.disc) = true then (L1 ++ [⟨#[35, 69, 88, 84, 45, 88, 45, 68, 73, 83, 67, 79, 78, 84, 73, 78, 85, 73, 84, 89, 10]⟩]) else (if ((x.1.key.map Ky.cells).isSome) = true then (([] : List ByteArray) ++ [Ky.textO x.1.key]) else ([] : List ByteArray)))) ∧ L.length ≤ 3 ∧ Own strL 9 1 w' w.heap.size v L ∧ Sv 68 ((3, v) :: (2, .slice none 0 0) :: (1, pt g1 0) :: []) [⟨g1, x.cells, 40, true⟩] (fun _ => False) w a w') (hS.get 21 rfl) ?_ ?_ ?_
   ·intro hb20 Q' hQ'
    refine wp_region_lit ?_
    refine sv_r (v := v2) hS (ex_mv (hS.get 3 rfl)) fun a hS => ?_
    refine sv_r (v := pt g1 6) hS (ex_fo (hS.get 1 rfl) fo_spec_Segment_6 rfl) fun a hS => ?_
    refine sv_r (v := x.2.2) hS (ex_ld (hS.get 23 rfl) lt_p_spec_Map (cell_of_heap (v := x.2.2) (hS.at 0 rfl) rfl)) fun a hS => ?_
    refine sv_callv (v := .string (Mp.textO x.1.map)) hS rfl rfl (by decide) (ex_call1 cf_spec_Map_Text (hS.get 24 rfl)) (mapTextO_any x.1.map (by simpa using hb20) (fun k hk => hx.map k hk) _ _ (hA.keep hS.toBelow).2) ?_
    intro a w21 hbw21 hS
    replace ho2_ := ho2_.ty (TyOnly.of_below (ts := []) hbw21) (by decide)
    refine sv_new (T := 9) (cs := #[.string (Mp.textO x.1.map)]) hS rfl rfl (by decide) (fun g => .slice (some ⟨g, 0, none⟩) 1 1) (by simp only [execOp, List.map_toArray, List.map_cons, List.map_nil, hS.get 25 rfl]; go_simp) ?_
    intro g22 a w23 hg22 hbw23 hwg22 hS
    replace ho2_ := ho2_.ty (TyOnly.of_below (ts := []) hbw23) (by decide)
    have hxg22 := hS.at 0 rfl
    replace hS : Sv 68 ((26, .slice (some ⟨g22, 0, none⟩) 1 1) :: (25, .string (Mp.textO x.1.map)) :: (24, x.2.2) :: (23, pt g1 6) :: (22, v2) :: (21, .bool ((x.1.map.map Mp.cells).isSome)) :: (3, v2) :: (2, .slice none 0 0) :: (1, pt g1 0) :: []) [⟨g1, x.cells, 40, true⟩] (fun _ => False) w a w23 := (hS.mask [false, true]).pick rfl
    refine sv_append (f := strL) (L := L2) sli_sl_string (by decide) (fun _ => rfl) [Mp.textO x.1.map] hS (hS.get 22 rfl) (hS.get 26 rfl) hxg22 rfl rfl (fun y _ u hu => strL_one y u hu) ho2_ rfl (by decide) (by (try simp only [List.length_append, List.length_cons, List.length_nil]); omega) (by (try simp only [List.length_append, List.length_cons, List.length_nil]); omega) ?_
    intro a sv24 w26 hty ho25 hS
    refine sv_r (v := sv24) hS (ex_as (hS.get 27 rfl)) fun a hS => ?_
    refine wpList_nil ?_
    replace hS := hS.cut [3, 21, 2, 1]
    exact hQ' _ _ ⟨_, (L2 ++ [Mp.textO x.1.map]), by rw [if_pos hb20], by (try simp only [List.length_append, List.length_cons, List.length_nil]); omega, ho25, hS.pick rfl⟩
   ·intro hb20 Q' hQ'
    refine wp_skip ?_
    exact hQ' _ _ ⟨_, L2, by rw [if_neg (by rw [hb20]; decide)] ; exact hL2, by (try simp only [List.length_append, List.length_cons, List.length_nil]); omega, ho2_, hS.pick rfl⟩
   ·rintro a w27 ⟨v3, L3, hL3, hlL3, ho3_, hS⟩
    show Code.wp _ _ _ _ _
    refine wp_seq ?_
    refine wp_seq ?_
    refine wp_region_lit ?_
    refine sv_r (v := pt g1 8) hS (ex_fo (hS.get 1 rfl) fo_spec_Segment_8 rfl) fun a hS => ?_
    refine sv_r (v := .string x.1.date) hS (ex_ld (hS.get 28 rfl) lt_string (cell_of_heap (v := .string x.1.date) (hS.at 0 rfl) rfl)) fun a hS => ?_
    refine sv_r (v := .bool (ne x.1.date)) hS (ex_ne0 (hS.get 29 rfl)) fun a hS => ?_
    refine wpList_nil ?_
    replace hS := hS.cut [30, 3, 2, 1]
    show Code.wp _ _ _ _ _
    refine if_join (fun a w' => ∃ (v : Value) (L : List ByteArray), L = (if (ne x.1.date) = true then (L3 ++ [(⟨#[35, 69, 88, 84, 45, 88, 45, 80, 82, 79, 71, 82, 65, 77, 45, 68, 65, 84, 69, 45, 84, 73, 77, 69, 58]⟩ : ByteArray) ++ x.1.date ++ (⟨#[10]⟩ : ByteArray)]) else (if ((x.1.map.map Mp.cells).isSome) = true then (L2 ++ [Mp.textO x.1.map]) else (if (x.1.disc) = true then (L1 ++ [⟨#[35, 69, 88, 84, 45, 88, 45, 68, 73, 83, 67, 79, 78, 84, 73, 78, 85, 73, 84, 89, 10]⟩]) else (if ((x.1.key.map Ky.cells).isSome) = true then (([] : List ByteArray) ++ [Ky.textO x.1.key]) else ([] : List ByteArray))))) ∧ L.length ≤ 4 ∧ Own strL 9 1 w' w.heap.size v L ∧ Sv 68 ((3, v) :: (2, .slice none 0 0) :: (1, pt g1 0) :: []) [⟨g1, x.cells, 40, true⟩] (fun _ => False) w a w') (hS.get 30 rfl) ?_ ?_ ?_
    ·intro hb28 Q' hQ'
     refine wp_region_lit ?_
     refine sv_r (v := v3) hS (ex_mv (hS.get 3 rfl)) fun a hS => ?_
     refine sv_r (v := pt g1 8) hS (ex_fo (hS.get 1 rfl) fo_spec_Segment_8 rfl) fun a hS => ?_
     refine sv_r (v := .string x.1.date) hS (ex_ld (hS.get 32 rfl) lt_string (cell_of_heap (v := .string x.1.date) (hS.at 0 rfl) rfl)) fun a hS => ?_
     refine sv_r (v := .string ((⟨#[35, 69, 88, 84, 45, 88, 45, 80, 82, 79, 71, 82, 65, 77, 45, 68, 65, 84, 69, 45, 84, 73, 77, 69, 58]⟩ : ByteArray) ++ x.1.date)) hS (ex_add rfl (hS.get 33 rfl) (by (try simp only [ByteArray.size_append', ByteArray.size_mk', List.size_toArray, List.length_cons, List.length_nil]); omega)) fun a hS => ?_
     refine sv_r (v := .string ((⟨#[35, 69, 88, 84, 45, 88, 45, 80, 82, 79, 71, 82, 65, 77, 45, 68, 65, 84, 69, 45, 84, 73, 77, 69, 58]⟩ : ByteArray) ++ x.1.date ++ (⟨#[10]⟩ : ByteArray))) hS (ex_add (hS.get 34 rfl) rfl (by (try simp only [ByteArray.size_append', ByteArray.size_mk', List.size_toArray, List.length_cons, List.length_nil]); omega)) fun a hS => ?_
     refine sv_new (T := 9) (cs := #[.string ((⟨#[35, 69, 88, 84, 45, 88, 45, 80, 82, 79, 71, 82, 65, 77, 45, 68, 65, 84, 69, 45, 84, 73, 77, 69, 58]⟩ : ByteArray) ++ x.1.date ++ (⟨#[10]⟩ : ByteArray))]) hS rfl rfl (by decide) (fun g => .slice (some ⟨g, 0, none⟩) 1 1) (by simp only [execOp, List.map_toArray, List.map_cons, List.map_nil, hS.get 35 rfl]; go_simp) ?_
     intro g29 a w30 hg29 hbw30 hwg29 hS
     replace ho3_ := ho3_.ty (TyOnly.of_below (ts := []) hbw30) (by decide)
     have hxg29 := hS.at 0 rfl
     replace hS : Sv 68 ((36, .slice (some ⟨g29, 0, none⟩) 1 1) :: (35, .string ((⟨#[35, 69, 88, 84, 45, 88, 45, 80, 82, 79, 71, 82, 65, 77, 45, 68, 65, 84, 69, 45, 84, 73, 77, 69, 58]⟩ : ByteArray) ++ x.1.date ++ (⟨#[10]⟩ : ByteArray))) :: (34, .string ((⟨#[35, 69, 88, 84, 45, 88, 45, 80, 82, 79, 71, 82, 65, 77, 45, 68, 65, 84, 69, 45, 84, 73, 77, 69, 58]⟩ : ByteArray) ++ x.1.date)) :: (33, .string x.1.date) :: (32, pt g1 8) :: (31, v3) :: (30, .bool (ne x.1.date)) :: (3, v3) :: (2, .slice none 0 0) :: (1, pt g1 0) :: []) [⟨g1, x.cells, 40, true⟩] (fun _ => False) w a w30 := (hS.mask [false, true]).pick rfl
     refine sv_append (f := strL) (L := L3) sli_sl_string (by decide) (fun _ => rfl) [(⟨#[35, 69, 88, 84, 45, 88, 45, 80, 82, 79, 71, 82, 65, 77, 45, 68, 65, 84, 69, 45, 84, 73, 77, 69, 58]⟩ : ByteArray) ++ x.1.date ++ (⟨#[10]⟩ : ByteArray)] hS (hS.get 31 rfl) (hS.get 36 rfl) hxg29 rfl rfl (fun y _ u hu => strL_one y u hu) ho3_ rfl (by decide) (by (try simp only [List.length_append, List.length_cons, List.length_nil]); omega) (by (try simp only [List.length_append, List.length_cons, List.length_nil]); omega) ?_
     intro a sv31 w33 hty ho32 hS
     refine sv_r (v := sv31) hS (ex_as (hS.get 37 rfl)) fun a hS => ?_
     refine wpList_nil ?_
     replace hS := hS.cut [3, 30, 2, 1]
     exact hQ' _ _ ⟨_, (L3 ++ [(⟨#[35, 69, 88, 84, 45, 88, 45, 80, 82, 79, 71, 82, 65, 77, 45, 68, 65, 84, 69, 45, 84, 73, 77, 69, 58]⟩ : ByteArray) ++ x.1.date ++ (⟨#[10]⟩ : ByteArray)]), by rw [if_pos hb28], by (try simp only [List.length_append, List.length_cons, List.length_nil]); omega, ho32, hS.pick rfl⟩
    ·intro hb28 Q' hQ'
     refine wp_skip ?_
     exact hQ' _ _ ⟨_, L3, by rw [if_neg (by rw [hb28]; decide)] ; exact hL3, by (try simp only [List.length_append, List.length_cons, List.length_nil]); omega, ho3_, hS.pick rfl⟩
    ·rintro a w34 ⟨v4, L4, hL4, hlL4, ho4_, hS⟩
     show Code.wp _ _ _ _ _
     refine wp_seq ?_
     refine wp_seq ?_
     refine wp_region_lit ?_
     refine sv_r (v := pt g1 3) hS (ex_fo (hS.get 1 rfl) fo_spec_Segment_3 rfl) fun a hS => ?_
     refine sv_r (v := .int .i64 ((x.1.limit : Nat) : Int)) hS (ex_ld (hS.get 38 rfl) lt_int64 (cell_of_heap (v := .int .i64 ((x.1.limit : Nat) : Int)) (hS.at 0 rfl) rfl)) fun a hS => ?_
     refine sv_r (v := .bool (decide ((0 : Nat) < x.1.limit))) hS (ei_gtr (hS.get 39 rfl) rfl (by rw [decide_eq_decide]; omega)) fun a hS => ?_
     refine wpList_nil ?_
     replace hS := hS.cut [40, 3, 2, 1]
     show Code.wp _ _ _ _ _
     refine if_join (fun a w' => ∃ (v : Value) (L : List ByteArray), L = (if (0 : Nat) < x.1.limit then (L4 ++ [(⟨#[35, 69, 88, 84, 45, 88, 45, 66, 89, 84, 69, 82, 65, 78, 71, 69, 58]⟩ : ByteArray) ++ dec x.1.limit ++ (⟨#[64]⟩ : ByteArray) ++ dec x.1.offset ++ (⟨#[10]⟩ : ByteArray)]) else (if (ne x.1.date) = true then (L3 ++ [(⟨#[35, 69, 88, 84, 45, 88, 45, 80, 82, 79, 71, 82, 65, 77, 45, 68, 65, 84, 69, 45, 84, 73, 77, 69, 58]⟩ : ByteArray) ++ x.1.date ++ (⟨#[10]⟩ : ByteArray)]) else (if ((x.1.map.map Mp.cells).isSome) = true then (L2 ++ [Mp.textO x.1.map]) else (if (x.1.disc) = true then (L1 ++ [⟨#[35, 69, 88, 84, 45, 88, 45, 68, 73, 83, 67, 79, 78, 84, 73, 78, 85, 73, 84, 89, 10]⟩]) else (if ((x.1.key.map Ky.cells).isSome) = true then (([] : List ByteArray) ++ [Ky.textO x.1.key]) else ([] : List ByteArray)))))) ∧ L.length ≤ 5 ∧ Own strL 9 1 w' w.heap.size v L ∧ Sv 68 ((3, v) :: (2, .slice none 0 0) :: (1, pt g1 0) :: []) [⟨g1, x.cells, 40, true⟩] (fun _ => False) w a w') (hS.get 40 rfl) ?_ ?_ ?_
     ·intro hb35 Q' hQ'
      have hb35 := of_decide_eq_true hb35
      refine wp_region_og1 (n := 68) 14 [Asr.eq (v4), Asr.eq (pt g1 3), Asr.eq (.int .i64 ((x.1.limit : Nat) : Int)), Asr.eq (.int .u64 ((x.1.limit : Nat) : Int)), Asr.eq (.string (dec x.1.limit)), Asr.eq (.string ((⟨#[35, 69, 88, 84, 45, 88, 45, 66, 89, 84, 69, 82, 65, 78, 71, 69, 58]⟩ : ByteArray) ++ dec x.1.limit)), Asr.eq (.string ((⟨#[35, 69, 88, 84, 45, 88, 45, 66, 89, 84, 69, 82, 65, 78, 71, 69, 58]⟩ : ByteArray) ++ dec x.1.limit ++ (⟨#[64]⟩ : ByteArray))), Asr.eq (pt g1 4), Asr.eq (.int .i64 ((x.1.offset : Nat) : Int)), Asr.eq (.int .u64 ((x.1.offset : Nat) : Int)), Asr.eq (.string (dec x.1.offset)), Asr.eq (.string ((⟨#[35, 69, 88, 84, 45, 88, 45, 66, 89, 84, 69, 82, 65, 78, 71, 69, 58]⟩ : ByteArray) ++ dec x.1.limit ++ (⟨#[64]⟩ : ByteArray) ++ dec x.1.offset)), Asr.eq (.string ((⟨#[35, 69, 88, 84, 45, 88, 45, 66, 89, 84, 69, 82, 65, 78, 71, 69, 58]⟩ : ByteArray) ++ dec x.1.limit ++ (⟨#[64]⟩ : ByteArray) ++ dec x.1.offset ++ (⟨#[10]⟩ : ByteArray))), Asr.any (fun v w' => ∃ g, v = .slice (some ⟨g, 0, none⟩) 1 1 ∧ w'.heap[g]? = some (.cells #[.string ((⟨#[35, 69, 88, 84, 45, 88, 45, 66, 89, 84, 69, 82, 65, 78, 71, 69, 58]⟩ : ByteArray) ++ dec x.1.limit ++ (⟨#[64]⟩ : ByteArray) ++ dec x.1.offset ++ (⟨#[10]⟩ : ByteArray))] 9 (0, 0)))] (by kernel_rfl) (by kernel_rfl) (by kernel_rfl) (by simp) (by kernel_rfl) hS.ev.size ⟨(fun i _ _ v w w' _ ho hp => by obtain ⟨g, h1, h2⟩ := hp; exact ⟨g, h1, hp_below h2 (only_below0 ho)⟩), ⟨⟩⟩ ?_ ?_
      ·simp only [List.take_succ_cons, List.take_zero]
       refine ⟨?_, ?_, ?_, ?_, ?_, ?_, ?_, ?_, ?_, ?_, ?_, ?_, ?_, ?_, trivial⟩
       ·intro a wx c
        have e_3 : a.eval (.tmp 3) = v4 := c.outE (by decide +kernel) (hS.get 3 rfl)
        clear c
        exact og_val (ex_mv e_3) rfl
       ·intro a wx c
        have e_1 : a.eval (.tmp 1) = pt g1 0 := c.outE (by decide +kernel) (hS.get 1 rfl)
        clear c
        exact og_val (ex_fo e_1 fo_spec_Segment_3 rfl) rfl
       ·intro a wx c
        have e_42 : a.eval (.tmp 42) = pt g1 3 := c.slot 1 _ (by decide +kernel) rfl
        have hO := hS.ogc c
        clear c
        exact og_val (ex_ld e_42 lt_int64 (cell_of_heap (v := .int .i64 ((x.1.limit : Nat) : Int)) (hO.at 0 rfl) rfl)) rfl
       ·intro a wx c
        have e_43 : a.eval (.tmp 43) = .int .i64 ((x.1.limit : Nat) : Int) := c.slot 2 _ (by decide +kernel) rfl
        clear c
        exact og_val (ex_cv e_43 (cv_int64_uint64 _ (by rw [IntKind.wrap_u64]; omega))) rfl
       ·intro a wx c
        have e_44 : a.eval (.tmp 44) = .int .u64 ((x.1.limit : Nat) : Int) := c.slot 3 _ (by decide +kernel) rfl
        have hO := hS.ogc c
        have hbx := drew_below c.only
        clear c
        have hcl : Calls Tryz.prog _ _ wx (fun e w' => e = .returned (.string (dec x.1.limit)) ∧ w' = wx) := (Calls.mono (decimal_any (x.1.limit) _ (by omega)) (by rintro e w' ⟨rfl, rfl⟩; exact ⟨rfl, rfl⟩))
        refine og_call (ex_call1 cf_spec_Decimal e_44) (Calls.mono hcl ?_)
        rintro e w' ⟨rfl, rfl⟩
        exact ⟨_, rfl, Below.refl _ _, rfl⟩
       ·intro a wx c
        have e_45 : a.eval (.tmp 45) = .string (dec x.1.limit) := c.slot 4 _ (by decide +kernel) rfl
        clear c
        exact og_val (ex_add rfl e_45 (by (try simp only [ByteArray.size_append', ByteArray.size_mk', List.size_toArray, List.length_cons, List.length_nil]); omega)) rfl
       ·intro a wx c
        have e_46 : a.eval (.tmp 46) = .string ((⟨#[35, 69, 88, 84, 45, 88, 45, 66, 89, 84, 69, 82, 65, 78, 71, 69, 58]⟩ : ByteArray) ++ dec x.1.limit) := c.slot 5 _ (by decide +kernel) rfl
        clear c
        exact og_val (ex_add e_46 rfl (by (try simp only [ByteArray.size_append', ByteArray.size_mk', List.size_toArray, List.length_cons, List.length_nil]); omega)) rfl
       ·intro a wx c
        have e_1 : a.eval (.tmp 1) = pt g1 0 := c.outE (by decide +kernel) (hS.get 1 rfl)
        clear c
        exact og_val (ex_fo e_1 fo_spec_Segment_4 rfl) rfl
       ·intro a wx c
        have e_48 : a.eval (.tmp 48) = pt g1 4 := c.slot 7 _ (by decide +kernel) rfl
        have hO := hS.ogc c
        clear c
        exact og_val (ex_ld e_48 lt_int64 (cell_of_heap (v := .int .i64 ((x.1.offset : Nat) : Int)) (hO.at 0 rfl) rfl)) rfl
       ·intro a wx c
        have e_49 : a.eval (.tmp 49) = .int .i64 ((x.1.offset : Nat) : Int) := c.slot 8 _ (by decide +kernel) rfl
        clear c
        exact og_val (ex_cv e_49 (cv_int64_uint64 _ (by rw [IntKind.wrap_u64]; omega))) rfl
       ·intro a wx c
        have e_50 : a.eval (.tmp 50) = .int .u64 ((x.1.offset : Nat) : Int) := c.slot 9 _ (by decide +kernel) rfl
        have hO := hS.ogc c
        have hbx := drew_below c.only
        clear c
        have hcl : Calls Tryz.prog _ _ wx (fun e w' => e = .returned (.string (dec x.1.offset)) ∧ w' = wx) := (Calls.mono (decimal_any (x.1.offset) _ (by omega)) (by rintro e w' ⟨rfl, rfl⟩; exact ⟨rfl, rfl⟩))
        refine og_call (ex_call1 cf_spec_Decimal e_50) (Calls.mono hcl ?_)
        rintro e w' ⟨rfl, rfl⟩
        exact ⟨_, rfl, Below.refl _ _, rfl⟩
       ·intro a wx c
        have e_47 : a.eval (.tmp 47) = .string ((⟨#[35, 69, 88, 84, 45, 88, 45, 66, 89, 84, 69, 82, 65, 78, 71, 69, 58]⟩ : ByteArray) ++ dec x.1.limit ++ (⟨#[64]⟩ : ByteArray)) := c.slot 6 _ (by decide +kernel) rfl
        have e_51 : a.eval (.tmp 51) = .string (dec x.1.offset) := c.slot 10 _ (by decide +kernel) rfl
        clear c
        exact og_val (ex_add e_47 e_51 (by (try simp only [ByteArray.size_append', ByteArray.size_mk', List.size_toArray, List.length_cons, List.length_nil]); omega)) rfl
       ·intro a wx c
        have e_52 : a.eval (.tmp 52) = .string ((⟨#[35, 69, 88, 84, 45, 88, 45, 66, 89, 84, 69, 82, 65, 78, 71, 69, 58]⟩ : ByteArray) ++ dec x.1.limit ++ (⟨#[64]⟩ : ByteArray) ++ dec x.1.offset) := c.slot 11 _ (by decide +kernel) rfl
        clear c
        exact og_val (ex_add e_52 rfl (by (try simp only [ByteArray.size_append', ByteArray.size_mk', List.size_toArray, List.length_cons, List.length_nil]); omega)) rfl
       ·intro a wx c
        have e_53 : a.eval (.tmp 53) = .string ((⟨#[35, 69, 88, 84, 45, 88, 45, 66, 89, 84, 69, 82, 65, 78, 71, 69, 58]⟩ : ByteArray) ++ dec x.1.limit ++ (⟨#[64]⟩ : ByteArray) ++ dec x.1.offset ++ (⟨#[10]⟩ : ByteArray)) := c.slot 12 _ (by decide +kernel) rfl
        clear c
        exact og_ext (v := .slice (some ⟨wx.heap.size, 0, none⟩) 1 1) (w' := wx.alloc (.cells #[.string ((⟨#[35, 69, 88, 84, 45, 88, 45, 66, 89, 84, 69, 82, 65, 78, 71, 69, 58]⟩ : ByteArray) ++ dec x.1.limit ++ (⟨#[64]⟩ : ByteArray) ++ dec x.1.offset ++ (⟨#[10]⟩ : ByteArray))] 9)) (by simp only [execOp, List.map_toArray, List.map_cons, List.map_nil, e_53]; go_simp) ((Below.refl _ _).alloc (Nat.le_refl _) _) ⟨_, rfl, heap_alloc_new _ _⟩
      ·intro a w37 c hbw37
       replace ho4_ := ho4_.ty (TyOnly.of_below (ts := []) hbw37) (by decide)
       obtain ⟨g36, e_54, hxg36⟩ : ∃ g, (a.eval (.tmp 54)) = .slice (some ⟨g, 0, none⟩) 1 1 ∧ w37.heap[g]? = some (.cells #[.string ((⟨#[35, 69, 88, 84, 45, 88, 45, 66, 89, 84, 69, 82, 65, 78, 71, 69, 58]⟩ : ByteArray) ++ dec x.1.limit ++ (⟨#[64]⟩ : ByteArray) ++ dec x.1.offset ++ (⟨#[10]⟩ : ByteArray))] 9 (0, 0)) := c.slot 13 _ (by decide +kernel) rfl
       replace hS : Sv 68 ((54, .slice (some ⟨g36, 0, none⟩) 1 1) :: (41, v4) :: (1, pt g1 0) :: (2, .slice none 0 0) :: (3, v4) :: (40, .bool (decide ((0 : Nat) < x.1.limit))) :: []) [⟨g1, x.cells, 40, true⟩] (fun _ => False) w a w37 := (((((((hS.ogh c).know (c.outE (by decide +kernel) (hS.get 40 rfl))).know (c.outE (by decide +kernel) (hS.get 3 rfl))).know (c.outE (by decide +kernel) (hS.get 2 rfl))).know (c.outE (by decide +kernel) (hS.get 1 rfl))).know (c.slot 0 _ (by decide +kernel) rfl)).know e_54)
       clear c
       simp only [List.drop_succ_cons, List.drop_zero]
       refine sv_append (f := strL) (L := L4) sli_sl_string (by decide) (fun _ => rfl) [(⟨#[35, 69, 88, 84, 45, 88, 45, 66, 89, 84, 69, 82, 65, 78, 71, 69, 58]⟩ : ByteArray) ++ dec x.1.limit ++ (⟨#[64]⟩ : ByteArray) ++ dec x.1.offset ++ (⟨#[10]⟩ : ByteArray)] hS (hS.get 41 rfl) (hS.get 54 rfl) hxg36 rfl rfl (fun y _ u hu => strL_one y u hu) ho4_ rfl (by decide) (by (try simp only [List.length_append, List.length_cons, List.length_nil]); omega) (by (try simp only [List.length_append, List.length_cons, List.length_nil]); omega) ?_
       intro a sv38 w40 hty ho39 hS
       refine sv_r (v := sv38) hS (ex_as (hS.get 55 rfl)) fun a hS => ?_
       refine wpList_nil ?_
       replace hS := hS.cut [3, 1, 2, 40]
       exact hQ' _ _ ⟨_, (L4 ++ [(⟨#[35, 69, 88, 84, 45, 88, 45, 66, 89, 84, 69, 82, 65, 78, 71, 69, 58]⟩ : ByteArray) ++ dec x.1.limit ++ (⟨#[64]⟩ : ByteArray) ++ dec x.1.offset ++ (⟨#[10]⟩ : ByteArray)]), by rw [if_pos hb35], by (try simp only [List.length_append, List.length_cons, List.length_nil]); omega, ho39, hS.pick rfl⟩
     ·intro hb35 Q' hQ'
      have hb35 := of_decide_eq_false hb35
      refine wp_skip ?_
      exact hQ' _ _ ⟨_, L4, by rw [if_neg hb35] ; exact hL4, by (try simp only [List.length_append, List.length_cons, List.length_nil]); omega, ho4_, hS.pick rfl⟩
     ·rintro a w41 ⟨v5, L5, hL5, hlL5, ho5_, hS⟩
      show Code.wp _ _ _ _ _
      refine wp_seq ?_
      refine wp_region_og1 (n := 68) 11 [Asr.eq (v5), Asr.eq (pt g1 2), Asr.eq (.int .i64 ((x.1.e : Nat) : Int)), Asr.eq (.string (secs x.1.e)), Asr.eq (.string ((⟨#[35, 69, 88, 84, 73, 78, 70, 58]⟩ : ByteArray) ++ secs x.1.e)), Asr.eq (.string ((⟨#[35, 69, 88, 84, 73, 78, 70, 58]⟩ : ByteArray) ++ secs x.1.e ++ (⟨#[44]⟩ : ByteArray))), Asr.eq (pt g1 0), Asr.eq (.string x.1.title), Asr.eq (.string ((⟨#[35, 69, 88, 84, 73, 78, 70, 58]⟩ : ByteArray) ++ secs x.1.e ++ (⟨#[44]⟩ : ByteArray) ++ x.1.title)), Asr.eq (.string ((⟨#[35, 69, 88, 84, 73, 78, 70, 58]⟩ : ByteArray) ++ secs x.1.e ++ (⟨#[44]⟩ : ByteArray) ++ x.1.title ++ (⟨#[10]⟩ : ByteArray))), Asr.any (fun v w' => ∃ g, v = .slice (some ⟨g, 0, none⟩) 1 1 ∧ w'.heap[g]? = some (.cells #[.string ((⟨#[35, 69, 88, 84, 73, 78, 70, 58]⟩ : ByteArray) ++ secs x.1.e ++ (⟨#[44]⟩ : ByteArray) ++ x.1.title ++ (⟨#[10]⟩ : ByteArray))] 9 (0, 0)))] (by kernel_rfl) (by kernel_rfl) (by kernel_rfl) (by simp) (by kernel_rfl) hS.ev.size ⟨(fun i _ _ v w w' _ ho hp => by obtain ⟨g, h1, h2⟩ := hp; exact ⟨g, h1, hp_below h2 (only_below0 ho)⟩), ⟨⟩⟩ ?_ ?_
      ·simp only [List.take_succ_cons, List.take_zero]
       refine ⟨?_, ?_, ?_, ?_, ?_, ?_, ?_, ?_, ?_, ?_, ?_, trivial⟩
       ·intro a wx c
        have e_3 : a.eval (.tmp 3) = v5 := c.outE (by decide +kernel) (hS.get 3 rfl)
        clear c
        exact og_val (ex_mv e_3) rfl
       ·intro a wx c
        have e_1 : a.eval (.tmp 1) = pt g1 0 := c.outE (by decide +kernel) (hS.get 1 rfl)
        clear c
        exact og_val (ex_fo e_1 fo_spec_Segment_2 rfl) rfl
       ·intro a wx c
        have e_57 : a.eval (.tmp 57) = pt g1 2 := c.slot 1 _ (by decide +kernel) rfl
        have hO := hS.ogc c
        clear c
        exact og_val (ex_ld e_57 lt_int (cell_of_heap (v := .int .i64 ((x.1.e : Nat) : Int)) (hO.at 0 rfl) rfl)) rfl
       ·intro a wx c
        have e_58 : a.eval (.tmp 58) = .int .i64 ((x.1.e : Nat) : Int) := c.slot 2 _ (by decide +kernel) rfl
        have hO := hS.ogc c
        have hbx := drew_below c.only
        clear c
        have hcl : Calls Tryz.prog _ _ wx (fun e w' => e = .returned (.string (secs x.1.e)) ∧ w' = wx) := (Calls.mono (seconds_any (x.1.e) _ (by omega)) (by rintro e w' ⟨rfl, rfl⟩; exact ⟨rfl, rfl⟩))
        refine og_call (ex_call1 cf_spec_seconds e_58) (Calls.mono hcl ?_)
        rintro e w' ⟨rfl, rfl⟩
        exact ⟨_, rfl, Below.refl _ _, rfl⟩
       ·intro a wx c
        have e_59 : a.eval (.tmp 59) = .string (secs x.1.e) := c.slot 3 _ (by decide +kernel) rfl
        clear c
        exact og_val (ex_add rfl e_59 (by (try simp only [ByteArray.size_append', ByteArray.size_mk', List.size_toArray, List.length_cons, List.length_nil]); omega)) rfl
       ·intro a wx c
        have e_60 : a.eval (.tmp 60) = .string ((⟨#[35, 69, 88, 84, 73, 78, 70, 58]⟩ : ByteArray) ++ secs x.1.e) := c.slot 4 _ (by decide +kernel) rfl
        clear c
        exact og_val (ex_add e_60 rfl (by (try simp only [ByteArray.size_append', ByteArray.size_mk', List.size_toArray, List.length_cons, List.length_nil]); omega)) rfl
       ·intro a wx c
        have e_1 : a.eval (.tmp 1) = pt g1 0 := c.outE (by decide +kernel) (hS.get 1 rfl)
        clear c
        exact og_val (ex_fo e_1 fo_spec_Segment_0 rfl) rfl
       ·intro a wx c
        have e_62 : a.eval (.tmp 62) = pt g1 0 := c.slot 6 _ (by decide +kernel) rfl
        have hO := hS.ogc c
        clear c
        exact og_val (ex_ld e_62 lt_string (cell_of_heap (v := .string x.1.title) (hO.at 0 rfl) rfl)) rfl
       ·intro a wx c
        have e_61 : a.eval (.tmp 61) = .string ((⟨#[35, 69, 88, 84, 73, 78, 70, 58]⟩ : ByteArray) ++ secs x.1.e ++ (⟨#[44]⟩ : ByteArray)) := c.slot 5 _ (by decide +kernel) rfl
        have e_63 : a.eval (.tmp 63) = .string x.1.title := c.slot 7 _ (by decide +kernel) rfl
        clear c
        exact og_val (ex_add e_61 e_63 (by (try simp only [ByteArray.size_append', ByteArray.size_mk', List.size_toArray, List.length_cons, List.length_nil]); omega)) rfl
       ·intro a wx c
        have e_64 : a.eval (.tmp 64) = .string ((⟨#[35, 69, 88, 84, 73, 78, 70, 58]⟩ : ByteArray) ++ secs x.1.e ++ (⟨#[44]⟩ : ByteArray) ++ x.1.title) := c.slot 8 _ (by decide +kernel) rfl
        clear c
        exact og_val (ex_add e_64 rfl (by (try simp only [ByteArray.size_append', ByteArray.size_mk', List.size_toArray, List.length_cons, List.length_nil]); omega)) rfl
       ·intro a wx c
        have e_65 : a.eval (.tmp 65) = .string ((⟨#[35, 69, 88, 84, 73, 78, 70, 58]⟩ : ByteArray) ++ secs x.1.e ++ (⟨#[44]⟩ : ByteArray) ++ x.1.title ++ (⟨#[10]⟩ : ByteArray)) := c.slot 9 _ (by decide +kernel) rfl
        clear c
        exact og_ext (v := .slice (some ⟨wx.heap.size, 0, none⟩) 1 1) (w' := wx.alloc (.cells #[.string ((⟨#[35, 69, 88, 84, 73, 78, 70, 58]⟩ : ByteArray) ++ secs x.1.e ++ (⟨#[44]⟩ : ByteArray) ++ x.1.title ++ (⟨#[10]⟩ : ByteArray))] 9)) (by simp only [execOp, List.map_toArray, List.map_cons, List.map_nil, e_65]; go_simp) ((Below.refl _ _).alloc (Nat.le_refl _) _) ⟨_, rfl, heap_alloc_new _ _⟩
      ·intro a w43 c hbw43
       replace ho5_ := ho5_.ty (TyOnly.of_below (ts := []) hbw43) (by decide)
       obtain ⟨g42, e_66, hxg42⟩ : ∃ g, (a.eval (.tmp 66)) = .slice (some ⟨g, 0, none⟩) 1 1 ∧ w43.heap[g]? = some (.cells #[.string ((⟨#[35, 69, 88, 84, 73, 78, 70, 58]⟩ : ByteArray) ++ secs x.1.e ++ (⟨#[44]⟩ : ByteArray) ++ x.1.title ++ (⟨#[10]⟩ : ByteArray))] 9 (0, 0)) := c.slot 10 _ (by decide +kernel) rfl
       replace hS : Sv 68 ((66, .slice (some ⟨g42, 0, none⟩) 1 1) :: (56, v5) :: (1, pt g1 0) :: (2, .slice none 0 0) :: (3, v5) :: []) [⟨g1, x.cells, 40, true⟩] (fun _ => False) w a w43 := ((((((hS.ogh c).know (c.outE (by decide +kernel) (hS.get 3 rfl))).know (c.outE (by decide +kernel) (hS.get 2 rfl))).know (c.outE (by decide +kernel) (hS.get 1 rfl))).know (c.slot 0 _ (by decide +kernel) rfl)).know e_66)
       clear c
       simp only [List.drop_succ_cons, List.drop_zero]
       refine sv_append (f := strL) (L := L5) sli_sl_string (by decide) (fun _ => rfl) [(⟨#[35, 69, 88, 84, 73, 78, 70, 58]⟩ : ByteArray) ++ secs x.1.e ++ (⟨#[44]⟩ : ByteArray) ++ x.1.title ++ (⟨#[10]⟩ : ByteArray)] hS (hS.get 56 rfl) (hS.get 66 rfl) hxg42 rfl rfl (fun y _ u hu => strL_one y u hu) ho5_ rfl (by decide) (by (try simp only [List.length_append, List.length_cons, List.length_nil]); omega) (by (try simp only [List.length_append, List.length_cons, List.length_nil]); omega) ?_
       intro a sv44 w46 hty ho45 hS
       refine sv_r (v := sv44) hS (ex_as (hS.get 67 rfl)) fun a hS => ?_
       refine wpList_nil ?_
       replace hS := hS.cut [2, 1, 3]
       show Code.wp _ _ _ _ _
       refine wp_ret ?_
       try simp only [Exit.inBlock, Exit.then]
       refine ret_of_ev hS.ev rfl (hS.get 2 rfl) ⟨_, rfl, hS.toBelow, ?_⟩
       have e : x.1.lines = (L5 ++ [(⟨#[35, 69, 88, 84, 73, 78, 70, 58]⟩ : ByteArray) ++ secs x.1.e ++ (⟨#[44]⟩ : ByteArray) ++ x.1.title ++ (⟨#[10]⟩ : ByteArray)]) := by rw [hL5, hL4, hL3, hL2, hL1]; rfl
       rw [e]; exact ho45
/-- The lines of a playlist's head. -/
def Md.head (m : Md) : List ByteArray :=
 let l := if m.typ = 1 then ([] : List ByteArray) ++ [(⟨#[35, 69, 88, 84, 45, 88, 45, 80, 76, 65, 89, 76, 73, 83, 84, 45, 84, 89, 80, 69, 58, 69, 86, 69, 78, 84, 10]⟩ : ByteArray)] else if m.typ = 2 then ([] : List ByteArray) ++ [(⟨#[35, 69, 88, 84, 45, 88, 45, 80, 76, 65, 89, 76, 73, 83, 84, 45, 84, 89, 80, 69, 58, 86, 79, 68, 10]⟩ : ByteArray)] else ([] : List ByteArray)
 let l := l ++ [((⟨#[35, 69, 88, 84, 45, 88, 45, 77, 69, 68, 73, 65, 45, 83, 69, 81, 85, 69, 78, 67, 69, 58]⟩ : ByteArray) ++ (dec m.seq)) ++ (⟨#[10]⟩ : ByteArray), ((⟨#[35, 69, 88, 84, 45, 88, 45, 84, 65, 82, 71, 69, 84, 68, 85, 82, 65, 84, 73, 79, 78, 58]⟩ : ByteArray) ++ (dec m.target)) ++ (⟨#[10]⟩ : ByteArray)]
 let l := if 0 < m.start then (if m.precise = true then l ++ [(((⟨#[35, 69, 88, 84, 45, 88, 45, 83, 84, 65, 82, 84, 58, 84, 73, 77, 69, 45, 79, 70, 70, 83, 69, 84, 61]⟩ : ByteArray) ++ (shorts m.start)) ++ (⟨#[44, 80, 82, 69, 67, 73, 83, 69, 61, 89, 69, 83]⟩ : ByteArray)) ++ (⟨#[10]⟩ : ByteArray)] else l ++ [((⟨#[35, 69, 88, 84, 45, 88, 45, 83, 84, 65, 82, 84, 58, 84, 73, 77, 69, 45, 79, 70, 70, 83, 69, 84, 61]⟩ : ByteArray) ++ (shorts m.start)) ++ (⟨#[10]⟩ : ByteArray)]) else l
 let l := if 0 < m.disc then l ++ [((⟨#[35, 69, 88, 84, 45, 88, 45, 68, 73, 83, 67, 79, 78, 84, 73, 78, 85, 73, 84, 89, 45, 83, 69, 81, 85, 69, 78, 67, 69, 58]⟩ : ByteArray) ++ (dec m.disc)) ++ (⟨#[10]⟩ : ByteArray)] else l
 if m.iframe = true then l ++ [(⟨#[35, 69, 88, 84, 45, 88, 45, 73, 45, 70, 82, 65, 77, 69, 83, 45, 79, 78, 76, 89, 10]⟩ : ByteArray)] else l
theorem shorts_size {e : Nat} (h : e < 1000000) : (shorts e).size ≤ 24 := by
 have h1 := secs_size h
 have h2 : (shorts e).size = (stripP (stripZ (secs e).data.toList)).length := by show (Array.size _) = _; simp [shorts]
 have h3 : (stripP (stripZ (secs e).data.toList)).length ≤ (secs e).data.toList.length := by
  unfold stripP
  have h4 : (stripZ (secs e).data.toList).length ≤ (secs e).data.toList.length := by
   unfold stripZ
   rw [List.length_reverse]
   exact Nat.le_trans (List.Sublist.length_le (List.dropWhile_sublist _)) (by simp)
  split
  ·rw [List.length_dropLast]; omega
  ·exact h4
 have h5 : (secs e).data.toList.length = (secs e).size := by rw [Array.length_toList]; rfl
 omega
theorem head_any (m : Md) (hm : MdOk m) (sl : Value) (hsl : sl.oneCell' = true) (w : World) : Calls Tryz.prog 24 #[.agg (m.cells sl)] w fun e w' => ∃ v, e = .returned v ∧ Below w.heap.size w w' ∧ Own strL 9 1 w' w.heap.size v m.head := by
 obtain ⟨p1, p2, p3, p4, p5, p6, p7⟩ := hm
 have hd1 := dec_le (n := m.seq) (by omega)
 have hd2 := dec_le (n := m.target) (by omega)
 have hd3 := dec_le (n := m.disc) (by omega)
 have hd4 := shorts_size (e := m.start) (by omega)
 refine calls_of_ev Tryz.func24 rfl (show 1 ≤ 83 from by decide) ?_
 intro a hE
 have hE : Ev 83 ((0, .agg (m.cells sl)) :: []) a := hE
 have hS : Sv 83 ((0, .agg (m.cells sl)) :: []) [] (fun _ => False) w a w := Sv.start hE _ _
 clear hE
 refine wp_seq ?_
 refine wp_region_lit ?_
 refine sv_box hS (hS.get 0 rfl) (bx_spec_Media _) (by decide) ?_
 intro g1 a w2 hg1 hbw2 hwg1 hS
 refine sv_r (v := .slice none 0 0) hS ex_ac fun a hS => ?_
 refine wpList_nil ?_
 replace hS := hS.cut [2, 1]
 show Code.wp _ _ _ _ _
 refine wp_seq ?_
 refine wp_region_lit ?_
 refine sv_new (T := 9) (cs := #[]) hS rfl rfl (by decide) (fun g => .slice (some ⟨g, 0, none⟩) 0 0) (by simp only [execOp, List.map_toArray, List.map_cons, List.map_nil, ]; go_simp) ?_
 intro g3 a w4 hg3 hbw4 hwg3 hS
 refine sv_r (v := .slice (some ⟨g3, 0, none⟩) 0 0) hS (ex_as (hS.get 5 rfl)) fun a hS => ?_
 refine wpList_nil ?_
 replace hS := hS.cut [3, 2, 1]
 have ho0 : Own strL 9 1 w4 w.heap.size (.slice (some ⟨g3, 0, none⟩) 0 0) ([] : List ByteArray) := Own.fresh (fun _ => rfl) (hS.at 0 rfl) hg3 rfl rfl (by decide)
 replace hS : Sv 83 ((3, .slice (some ⟨g3, 0, none⟩) 0 0) :: (2, .slice none 0 0) :: (1, pt g1 0) :: []) [⟨g1, (m.cells sl), 30, true⟩] (fun _ => False) w a w4 := (hS.mask [false, true]).pick rfl
 show Code.wp _ _ _ _ _
 refine wp_seq ?_
 refine wp_seq ?_
 refine wp_region_lit ?_
 refine sv_r (v := pt g1 9) hS (ex_fo (hS.get 1 rfl) fo_spec_Media_9 rfl) fun a hS => ?_
 refine sv_r (v := .pointer none) hS (ex_ld (hS.get 6 rfl) lt_p_spec_Key (cell_of_heap (v := .pointer none) (hS.at 0 rfl) rfl)) fun a hS => ?_
 refine sv_r (v := .bool false) hS (ex_pne eqp_p_spec_Key (hS.get 7 rfl)) fun a hS => ?_
 refine wpList_nil ?_
 replace hS := hS.cut [8, 3, 2, 1]
 show Code.wp _ _ _ _ _
 refine cond_f (hS.get 8 rfl) ?_
 refine wp_skip ?_
 show Code.wp _ _ _ _ _
 refine wp_seq ?_
 refine wp_seq ?_
 refine wp_region_lit ?_
 refine sv_r (v := pt g1 10) hS (ex_fo (hS.get 1 rfl) fo_spec_Media_10 rfl) fun a hS => ?_
 refine sv_r (v := .pointer none) hS (ex_ld (hS.get 15 rfl) lt_p_spec_Map (cell_of_heap (v := .pointer none) (hS.at 0 rfl) rfl)) fun a hS => ?_
 refine sv_r (v := .bool false) hS (ex_pne eqp_p_spec_Map (hS.get 16 rfl)) fun a hS => ?_
 refine wpList_nil ?_
 replace hS := hS.cut [17, 8, 3, 2, 1]
 show Code.wp _ _ _ _ _
 refine cond_f (hS.get 17 rfl) ?_
 refine wp_skip ?_
 show Code.wp _ _ _ _ _
 refine wp_seq ?_
 refine wp_seq ?_
 refine wp_region_lit ?_
 refine sv_r (v := pt g1 4) hS (ex_fo (hS.get 1 rfl) fo_spec_Media_4 rfl) fun a hS => ?_
 refine sv_r (v := .int .i64 ((m.typ : Nat) : Int)) hS (ex_ld (hS.get 24 rfl) lt_int (cell_of_heap (v := .int .i64 ((m.typ : Nat) : Int)) (hS.at 0 rfl) rfl)) fun a hS => ?_
 refine wpList_nil ?_
 replace hS := hS.cut [25, 17, 8, 3, 2, 1]
 show Code.wp _ _ _ _ _
 refine wp_block ?_
 refine wp_seq ?_
 refine wp_region_lit ?_
 refine sv_r (v := .bool (decide ((m.typ : Nat) = 1))) hS (ei_eql (hS.get 25 rfl) rfl (by rw [decide_eq_decide]; omega)) fun a hS => ?_
 refine sv_r (v := .bool (decide ((m.typ : Nat) = 1))) hS (ex_as (hS.get 27 rfl)) fun a hS => ?_
 refine wpList_nil ?_
 replace hS := hS.cut [26, 25, 17, 8, 3, 2, 1]
 show Code.wp _ _ _ _ _
 refine if_join (fun a w' => ∃ (v : Value) (L : List ByteArray), L = (if (m.typ : Nat) = 1 then (([] : List ByteArray) ++ [⟨#[35, 69, 88, 84, 45, 88, 45, 80, 76, 65, 89, 76, 73, 83, 84, 45, 84, 89, 80, 69, 58, 69, 86, 69, 78, 84, 10]⟩]) else (if (m.typ : Nat) = 2 then (([] : List ByteArray) ++ [⟨#[35, 69, 88, 84, 45, 88, 45, 80, 76, 65, 89, 76, 73, 83, 84, 45, 84, 89, 80, 69, 58, 86, 79, 68, 10]⟩]) else ([] : List ByteArray))) ∧ L.length ≤ 1 ∧ Own strL 9 1 w' w.heap.size v L ∧ Sv 83 ((3, v) :: (25, .int .i64 ((m.typ : Nat) : Int)) :: (17, .bool false) :: (8, .bool false) :: (2, .slice none 0 0) :: (1, pt g1 0) :: []) [⟨g1, (m.cells sl), 30, true⟩] (fun _ => False) w a w') (hS.get 26 rfl) ?_ ?_ ?_
 ·intro hb5 Q' hQ'
  have hb5 := of_decide_eq_true hb5
  refine wp_region_lit ?_
  refine sv_r (v := .slice (some ⟨g3, 0, none⟩) 0 0) hS (ex_mv (hS.get 3 rfl)) fun a hS => ?_
  refine sv_new (T := 9) (cs := #[.string (⟨#[35, 69, 88, 84, 45, 88, 45, 80, 76, 65, 89, 76, 73, 83, 84, 45, 84, 89, 80, 69, 58, 69, 86, 69, 78, 84, 10]⟩)]) hS rfl rfl (by decide) (fun g => .slice (some ⟨g, 0, none⟩) 1 1) (by simp only [execOp, List.map_toArray, List.map_cons, List.map_nil, ]; go_simp) ?_
  intro g6 a w7 hg6 hbw7 hwg6 hS
  replace ho0 := ho0.ty (TyOnly.of_below (ts := []) hbw7) (by decide)
  have hxg6 := hS.at 0 rfl
  replace hS : Sv 83 ((29, .slice (some ⟨g6, 0, none⟩) 1 1) :: (28, .slice (some ⟨g3, 0, none⟩) 0 0) :: (26, .bool (decide ((m.typ : Nat) = 1))) :: (25, .int .i64 ((m.typ : Nat) : Int)) :: (17, .bool false) :: (8, .bool false) :: (3, .slice (some ⟨g3, 0, none⟩) 0 0) :: (2, .slice none 0 0) :: (1, pt g1 0) :: []) [⟨g1, (m.cells sl), 30, true⟩] (fun _ => False) w a w7 := (hS.mask [false, true]).pick rfl
  refine sv_append (f := strL) (L := ([] : List ByteArray)) sli_sl_string (by decide) (fun _ => rfl) [⟨#[35, 69, 88, 84, 45, 88, 45, 80, 76, 65, 89, 76, 73, 83, 84, 45, 84, 89, 80, 69, 58, 69, 86, 69, 78, 84, 10]⟩] hS (hS.get 28 rfl) (hS.get 29 rfl) hxg6 rfl rfl (fun y _ u hu => strL_one y u hu) ho0 rfl (by decide) (by (try simp only [List.length_append, List.length_cons, List.length_nil]); omega) (by (try simp only [List.length_append, List.length_cons, List.length_nil]); omega) ?_
  intro a sv8 w10 hty ho9 hS
  refine sv_r (v := sv8) hS (ex_as (hS.get 30 rfl)) fun a hS => ?_
  refine wpList_nil ?_
  replace hS := hS.cut [3, 26, 25, 17, 8, 2, 1]
  exact hQ' _ _ ⟨_, (([] : List ByteArray) ++ [⟨#[35, 69, 88, 84, 45, 88, 45, 80, 76, 65, 89, 76, 73, 83, 84, 45, 84, 89, 80, 69, 58, 69, 86, 69, 78, 84, 10]⟩]), by rw [if_pos hb5], by (try simp only [List.length_append, List.length_cons, List.length_nil]); omega, ho9, hS.pick rfl⟩
 ·intro hb5 Q' hQ'
  have hb5 := of_decide_eq_false hb5
  refine wp_seq ?_
  refine wp_region_lit ?_
  refine sv_r (v := .bool (decide ((m.typ : Nat) = 2))) hS (ei_eql (hS.get 25 rfl) rfl (by rw [decide_eq_decide]; omega)) fun a hS => ?_
  refine sv_r (v := .bool (decide ((m.typ : Nat) = 2))) hS (ex_as (hS.get 32 rfl)) fun a hS => ?_
  refine wpList_nil ?_
  replace hS := hS.cut [31, 26, 25, 17, 8, 3, 2, 1]
  show Code.wp _ _ _ _ _
  refine if_join (fun a w' => ∃ (v : Value) (L : List ByteArray), L = (if (m.typ : Nat) = 2 then (([] : List ByteArray) ++ [⟨#[35, 69, 88, 84, 45, 88, 45, 80, 76, 65, 89, 76, 73, 83, 84, 45, 84, 89, 80, 69, 58, 86, 79, 68, 10]⟩]) else ([] : List ByteArray)) ∧ L.length ≤ 1 ∧ Own strL 9 1 w' w.heap.size v L ∧ Sv 83 ((3, v) :: (26, .bool (decide ((m.typ : Nat) = 1))) :: (25, .int .i64 ((m.typ : Nat) : Int)) :: (17, .bool false) :: (8, .bool false) :: (2, .slice none 0 0) :: (1, pt g1 0) :: []) [⟨g1, (m.cells sl), 30, true⟩] (fun _ => False) w a w') (hS.get 31 rfl) ?_ ?_ ?_
  ·intro hb11 Q' hQ'
   have hb11 := of_decide_eq_true hb11
   refine wp_region_lit ?_
   refine sv_r (v := .slice (some ⟨g3, 0, none⟩) 0 0) hS (ex_mv (hS.get 3 rfl)) fun a hS => ?_
   refine sv_new (T := 9) (cs := #[.string (⟨#[35, 69, 88, 84, 45, 88, 45, 80, 76, 65, 89, 76, 73, 83, 84, 45, 84, 89, 80, 69, 58, 86, 79, 68, 10]⟩)]) hS rfl rfl (by decide) (fun g => .slice (some ⟨g, 0, none⟩) 1 1) (by simp only [execOp, List.map_toArray, List.map_cons, List.map_nil, ]; go_simp) ?_
   intro g12 a w13 hg12 hbw13 hwg12 hS
   replace ho0 := ho0.ty (TyOnly.of_below (ts := []) hbw13) (by decide)
   have hxg12 := hS.at 0 rfl
   replace hS : Sv 83 ((34, .slice (some ⟨g12, 0, none⟩) 1 1) :: (33, .slice (some ⟨g3, 0, none⟩) 0 0) :: (31, .bool (decide ((m.typ : Nat) = 2))) :: (26, .bool (decide ((m.typ : Nat) = 1))) :: (25, .int .i64 ((m.typ : Nat) : Int)) :: (17, .bool false) :: (8, .bool false) :: (3, .slice (some ⟨g3, 0, none⟩) 0 0) :: (2, .slice none 0 0) :: (1, pt g1 0) :: []) [⟨g1, (m.cells sl), 30, true⟩] (fun _ => False) w a w13 := (hS.mask [false, true]).pick rfl
   refine sv_append (f := strL) (L := ([] : List ByteArray)) sli_sl_string (by decide) (fun _ => rfl) [⟨#[35, 69, 88, 84, 45, 88, 45, 80, 76, 65, 89, 76, 73, 83, 84, 45, 84, 89, 80, 69, 58, 86, 79, 68, 10]⟩] hS (hS.get 33 rfl) (hS.get 34 rfl) hxg12 rfl rfl (fun y _ u hu => strL_one y u hu) ho0 rfl (by decide) (by (try simp only [List.length_append, List.length_cons, List.length_nil]); omega) (by (try simp only [List.length_append, List.length_cons, List.length_nil]); omega) ?_
   intro a sv14 w16 hty ho15 hS
   refine sv_r (v := sv14) hS (ex_as (hS.get 35 rfl)) fun a hS => ?_
   refine wpList_nil ?_
   replace hS := hS.cut [3, 31, 26, 25, 17, 8, 2, 1]
   exact hQ' _ _ ⟨_, (([] : List ByteArray) ++ [⟨#[35, 69, 88, 84, 45, 88, 45, 80, 76, 65, 89, 76, 73, 83, 84, 45, 84, 89, 80, 69, 58, 86, 79, 68, 10]⟩]), by rw [if_pos hb11], by (try simp only [List.length_append, List.length_cons, List.length_nil]); omega, ho15, hS.pick rfl⟩
  ·intro hb11 Q' hQ'
   have hb11 := of_decide_eq_false hb11
   refine wp_skip ?_
   exact hQ' _ _ ⟨_, ([] : List ByteArray), by rw [if_neg hb11], by (try simp only [List.length_append, List.length_cons, List.length_nil]); omega, ho0, hS.pick rfl⟩
  ·rintro a w17 ⟨u2, K2, hK2, hlK2, hp2_, hS⟩
   exact hQ' _ _ ⟨_, K2, by rw [if_neg hb5] ; exact hK2, by (try simp only [List.length_append, List.length_cons, List.length_nil]); omega, hp2_, hS.pick rfl⟩
 ·rintro a w18 ⟨v1, L1, hL1, hlL1, ho1_, hS⟩
  show Code.wp _ _ _ _ _
  refine wp_seq ?_
  refine wp_region_og1 (n := 83) 13 [Asr.eq (v1), Asr.eq (pt g1 2), Asr.eq (.int .u64 ((m.seq : Nat) : Int)), Asr.eq (.string (dec m.seq)), Asr.eq (.string ((⟨#[35, 69, 88, 84, 45, 88, 45, 77, 69, 68, 73, 65, 45, 83, 69, 81, 85, 69, 78, 67, 69, 58]⟩ : ByteArray) ++ dec m.seq)), Asr.eq (.string ((⟨#[35, 69, 88, 84, 45, 88, 45, 77, 69, 68, 73, 65, 45, 83, 69, 81, 85, 69, 78, 67, 69, 58]⟩ : ByteArray) ++ dec m.seq ++ (⟨#[10]⟩ : ByteArray))), Asr.eq (pt g1 1), Asr.eq (.int .i64 ((m.target : Nat) : Int)), Asr.eq (.int .u64 ((m.target : Nat) : Int)), Asr.eq (.string (dec m.target)), Asr.eq (.string ((⟨#[35, 69, 88, 84, 45, 88, 45, 84, 65, 82, 71, 69, 84, 68, 85, 82, 65, 84, 73, 79, 78, 58]⟩ : ByteArray) ++ dec m.target)), Asr.eq (.string ((⟨#[35, 69, 88, 84, 45, 88, 45, 84, 65, 82, 71, 69, 84, 68, 85, 82, 65, 84, 73, 79, 78, 58]⟩ : ByteArray) ++ dec m.target ++ (⟨#[10]⟩ : ByteArray))), Asr.any (fun v w' => ∃ g, v = .slice (some ⟨g, 0, none⟩) 2 2 ∧ w'.heap[g]? = some (.cells #[.string ((⟨#[35, 69, 88, 84, 45, 88, 45, 77, 69, 68, 73, 65, 45, 83, 69, 81, 85, 69, 78, 67, 69, 58]⟩ : ByteArray) ++ dec m.seq ++ (⟨#[10]⟩ : ByteArray)), .string ((⟨#[35, 69, 88, 84, 45, 88, 45, 84, 65, 82, 71, 69, 84, 68, 85, 82, 65, 84, 73, 79, 78, 58]⟩ : ByteArray) ++ dec m.target ++ (⟨#[10]⟩ : ByteArray))] 9 (0, 0)))] (by kernel_rfl) (by kernel_rfl) (by kernel_rfl) (by simp) (by kernel_rfl) hS.ev.size ⟨(fun i _ _ v w w' _ ho hp => by obtain ⟨g, h1, h2⟩ := hp; exact ⟨g, h1, hp_below h2 (only_below0 ho)⟩), ⟨⟩⟩ ?_ ?_
  ·simp only [List.take_succ_cons, List.take_zero]
   refine ⟨?_, ?_, ?_, ?_, ?_, ?_, ?_, ?_, ?_, ?_, ?_, ?_, ?_, trivial⟩
   ·intro a wx c
    have e_3 : a.eval (.tmp 3) = v1 := c.outE (by decide +kernel) (hS.get 3 rfl)
    clear c
    exact og_val (ex_mv e_3) rfl
   ·intro a wx c
    have e_1 : a.eval (.tmp 1) = pt g1 0 := c.outE (by decide +kernel) (hS.get 1 rfl)
    clear c
    exact og_val (ex_fo e_1 fo_spec_Media_2 rfl) rfl
   ·intro a wx c
    have e_37 : a.eval (.tmp 37) = pt g1 2 := c.slot 1 _ (by decide +kernel) rfl
    have hO := hS.ogc c
    clear c
    exact og_val (ex_ld e_37 lt_uint64 (cell_of_heap (v := .int .u64 ((m.seq : Nat) : Int)) (hO.at 0 rfl) rfl)) rfl
   ·intro a wx c
    have e_38 : a.eval (.tmp 38) = .int .u64 ((m.seq : Nat) : Int) := c.slot 2 _ (by decide +kernel) rfl
    have hO := hS.ogc c
    have hbx := drew_below c.only
    clear c
    have hcl : Calls Tryz.prog _ _ wx (fun e w' => e = .returned (.string (dec m.seq)) ∧ w' = wx) := (Calls.mono (decimal_any (m.seq) _ (by omega)) (by rintro e w' ⟨rfl, rfl⟩; exact ⟨rfl, rfl⟩))
    refine og_call (ex_call1 cf_spec_Decimal e_38) (Calls.mono hcl ?_)
    rintro e w' ⟨rfl, rfl⟩
    exact ⟨_, rfl, Below.refl _ _, rfl⟩
   ·intro a wx c
    have e_39 : a.eval (.tmp 39) = .string (dec m.seq) := c.slot 3 _ (by decide +kernel) rfl
    clear c
    exact og_val (ex_add rfl e_39 (by (try simp only [ByteArray.size_append', ByteArray.size_mk', List.size_toArray, List.length_cons, List.length_nil]); omega)) rfl
   ·intro a wx c
    have e_40 : a.eval (.tmp 40) = .string ((⟨#[35, 69, 88, 84, 45, 88, 45, 77, 69, 68, 73, 65, 45, 83, 69, 81, 85, 69, 78, 67, 69, 58]⟩ : ByteArray) ++ dec m.seq) := c.slot 4 _ (by decide +kernel) rfl
    clear c
    exact og_val (ex_add e_40 rfl (by (try simp only [ByteArray.size_append', ByteArray.size_mk', List.size_toArray, List.length_cons, List.length_nil]); omega)) rfl
   ·intro a wx c
    have e_1 : a.eval (.tmp 1) = pt g1 0 := c.outE (by decide +kernel) (hS.get 1 rfl)
    clear c
    exact og_val (ex_fo e_1 fo_spec_Media_1 rfl) rfl
   ·intro a wx c
    have e_42 : a.eval (.tmp 42) = pt g1 1 := c.slot 6 _ (by decide +kernel) rfl
    have hO := hS.ogc c
    clear c
    exact og_val (ex_ld e_42 lt_int (cell_of_heap (v := .int .i64 ((m.target : Nat) : Int)) (hO.at 0 rfl) rfl)) rfl
   ·intro a wx c
    have e_43 : a.eval (.tmp 43) = .int .i64 ((m.target : Nat) : Int) := c.slot 7 _ (by decide +kernel) rfl
    clear c
    exact og_val (ex_cv e_43 (cv_int_uint64 _ (by rw [IntKind.wrap_u64]; omega))) rfl
   ·intro a wx c
    have e_44 : a.eval (.tmp 44) = .int .u64 ((m.target : Nat) : Int) := c.slot 8 _ (by decide +kernel) rfl
    have hO := hS.ogc c
    have hbx := drew_below c.only
    clear c
    have hcl : Calls Tryz.prog _ _ wx (fun e w' => e = .returned (.string (dec m.target)) ∧ w' = wx) := (Calls.mono (decimal_any (m.target) _ (by omega)) (by rintro e w' ⟨rfl, rfl⟩; exact ⟨rfl, rfl⟩))
    refine og_call (ex_call1 cf_spec_Decimal e_44) (Calls.mono hcl ?_)
    rintro e w' ⟨rfl, rfl⟩
    exact ⟨_, rfl, Below.refl _ _, rfl⟩
   ·intro a wx c
    have e_45 : a.eval (.tmp 45) = .string (dec m.target) := c.slot 9 _ (by decide +kernel) rfl
    clear c
    exact og_val (ex_add rfl e_45 (by (try simp only [ByteArray.size_append', ByteArray.size_mk', List.size_toArray, List.length_cons, List.length_nil]); omega)) rfl
   ·intro a wx c
    have e_46 : a.eval (.tmp 46) = .string ((⟨#[35, 69, 88, 84, 45, 88, 45, 84, 65, 82, 71, 69, 84, 68, 85, 82, 65, 84, 73, 79, 78, 58]⟩ : ByteArray) ++ dec m.target) := c.slot 10 _ (by decide +kernel) rfl
    clear c
    exact og_val (ex_add e_46 rfl (by (try simp only [ByteArray.size_append', ByteArray.size_mk', List.size_toArray, List.length_cons, List.length_nil]); omega)) rfl
   ·intro a wx c
    have e_41 : a.eval (.tmp 41) = .string ((⟨#[35, 69, 88, 84, 45, 88, 45, 77, 69, 68, 73, 65, 45, 83, 69, 81, 85, 69, 78, 67, 69, 58]⟩ : ByteArray) ++ dec m.seq ++ (⟨#[10]⟩ : ByteArray)) := c.slot 5 _ (by decide +kernel) rfl
    have e_47 : a.eval (.tmp 47) = .string ((⟨#[35, 69, 88, 84, 45, 88, 45, 84, 65, 82, 71, 69, 84, 68, 85, 82, 65, 84, 73, 79, 78, 58]⟩ : ByteArray) ++ dec m.target ++ (⟨#[10]⟩ : ByteArray)) := c.slot 11 _ (by decide +kernel) rfl
    clear c
    exact og_ext (v := .slice (some ⟨wx.heap.size, 0, none⟩) 2 2) (w' := wx.alloc (.cells #[.string ((⟨#[35, 69, 88, 84, 45, 88, 45, 77, 69, 68, 73, 65, 45, 83, 69, 81, 85, 69, 78, 67, 69, 58]⟩ : ByteArray) ++ dec m.seq ++ (⟨#[10]⟩ : ByteArray)), .string ((⟨#[35, 69, 88, 84, 45, 88, 45, 84, 65, 82, 71, 69, 84, 68, 85, 82, 65, 84, 73, 79, 78, 58]⟩ : ByteArray) ++ dec m.target ++ (⟨#[10]⟩ : ByteArray))] 9)) (by simp only [execOp, List.map_toArray, List.map_cons, List.map_nil, e_41, e_47]; go_simp) ((Below.refl _ _).alloc (Nat.le_refl _) _) ⟨_, rfl, heap_alloc_new _ _⟩
  ·intro a w20 c hbw20
   replace ho1_ := ho1_.ty (TyOnly.of_below (ts := []) hbw20) (by decide)
   obtain ⟨g19, e_48, hxg19⟩ : ∃ g, (a.eval (.tmp 48)) = .slice (some ⟨g, 0, none⟩) 2 2 ∧ w20.heap[g]? = some (.cells #[.string ((⟨#[35, 69, 88, 84, 45, 88, 45, 77, 69, 68, 73, 65, 45, 83, 69, 81, 85, 69, 78, 67, 69, 58]⟩ : ByteArray) ++ dec m.seq ++ (⟨#[10]⟩ : ByteArray)), .string ((⟨#[35, 69, 88, 84, 45, 88, 45, 84, 65, 82, 71, 69, 84, 68, 85, 82, 65, 84, 73, 79, 78, 58]⟩ : ByteArray) ++ dec m.target ++ (⟨#[10]⟩ : ByteArray))] 9 (0, 0)) := c.slot 12 _ (by decide +kernel) rfl
   replace hS : Sv 83 ((48, .slice (some ⟨g19, 0, none⟩) 2 2) :: (36, v1) :: (1, pt g1 0) :: (2, .slice none 0 0) :: (8, .bool false) :: (17, .bool false) :: (25, .int .i64 ((m.typ : Nat) : Int)) :: (3, v1) :: []) [⟨g1, (m.cells sl), 30, true⟩] (fun _ => False) w a w20 := (((((((((hS.ogh c).know (c.outE (by decide +kernel) (hS.get 3 rfl))).know (c.outE (by decide +kernel) (hS.get 25 rfl))).know (c.outE (by decide +kernel) (hS.get 17 rfl))).know (c.outE (by decide +kernel) (hS.get 8 rfl))).know (c.outE (by decide +kernel) (hS.get 2 rfl))).know (c.outE (by decide +kernel) (hS.get 1 rfl))).know (c.slot 0 _ (by decide +kernel) rfl)).know e_48)
   clear c
   simp only [List.drop_succ_cons, List.drop_zero]
   refine sv_append (f := strL) (L := L1) sli_sl_string (by decide) (fun _ => rfl) [(⟨#[35, 69, 88, 84, 45, 88, 45, 77, 69, 68, 73, 65, 45, 83, 69, 81, 85, 69, 78, 67, 69, 58]⟩ : ByteArray) ++ dec m.seq ++ (⟨#[10]⟩ : ByteArray), (⟨#[35, 69, 88, 84, 45, 88, 45, 84, 65, 82, 71, 69, 84, 68, 85, 82, 65, 84, 73, 79, 78, 58]⟩ : ByteArray) ++ dec m.target ++ (⟨#[10]⟩ : ByteArray)] hS (hS.get 36 rfl) (hS.get 48 rfl) hxg19 rfl rfl (fun y _ u hu => strL_one y u hu) ho1_ rfl (by decide) (by (try simp only [List.length_append, List.length_cons, List.length_nil]); omega) (by (try simp only [List.length_append, List.length_cons, List.length_nil]); omega) ?_
   intro a sv21 w23 hty ho22 hS
   refine sv_r (v := sv21) hS (ex_as (hS.get 49 rfl)) fun a hS => ?_
   refine wpList_nil ?_
   replace hS := hS.cut [3, 1, 2, 8, 17, 25]
   show Code.wp _ _ _ _ _
   refine wp_seq ?_
   refine wp_seq ?_
   refine wp_region_lit ?_
   refine sv_r (v := pt g1 5) hS (ex_fo (hS.get 1 rfl) fo_spec_Media_5 rfl) fun a hS => ?_
   refine sv_r (v := .int .i64 ((m.start : Nat) : Int)) hS (ex_ld (hS.get 50 rfl) lt_int (cell_of_heap (v := .int .i64 ((m.start : Nat) : Int)) (hS.at 0 rfl) rfl)) fun a hS => ?_
   refine sv_r (v := .bool (decide ((0 : Nat) < m.start))) hS (ei_gtr (hS.get 51 rfl) rfl (by rw [decide_eq_decide]; omega)) fun a hS => ?_
   refine wpList_nil ?_
   replace hS := hS.cut [52, 3, 1, 2, 8, 17, 25]
   show Code.wp _ _ _ _ _
   refine if_join (fun a w' => ∃ (v : Value) (L : List ByteArray), L = (if (0 : Nat) < m.start then (if (m.precise) = true then ((L1 ++ [(⟨#[35, 69, 88, 84, 45, 88, 45, 77, 69, 68, 73, 65, 45, 83, 69, 81, 85, 69, 78, 67, 69, 58]⟩ : ByteArray) ++ dec m.seq ++ (⟨#[10]⟩ : ByteArray), (⟨#[35, 69, 88, 84, 45, 88, 45, 84, 65, 82, 71, 69, 84, 68, 85, 82, 65, 84, 73, 79, 78, 58]⟩ : ByteArray) ++ dec m.target ++ (⟨#[10]⟩ : ByteArray)]) ++ [(⟨#[35, 69, 88, 84, 45, 88, 45, 83, 84, 65, 82, 84, 58, 84, 73, 77, 69, 45, 79, 70, 70, 83, 69, 84, 61]⟩ : ByteArray) ++ shorts m.start ++ (⟨#[44, 80, 82, 69, 67, 73, 83, 69, 61, 89, 69, 83]⟩ : ByteArray) ++ (⟨#[10]⟩ : ByteArray)]) else ((L1 ++ [(⟨#[35, 69, 88, 84, 45, 88, 45, 77, 69, 68, 73, 65, 45, 83, 69, 81, 85, 69, 78, 67, 69, 58]⟩ : ByteArray) ++ dec m.seq ++ (⟨#[10]⟩ : ByteArray), (⟨#[35, 69, 88, 84, 45, 88, 45, 84, 65, 82, 71, 69, 84, 68, 85, 82, 65, 84, 73, 79, 78, 58]⟩ : ByteArray) ++ dec m.target ++ (⟨#[10]⟩ : ByteArray)]) ++ [(⟨#[35, 69, 88, 84, 45, 88, 45, 83, 84, 65, 82, 84, 58, 84, 73, 77, 69, 45, 79, 70, 70, 83, 69, 84, 61]⟩ : ByteArray) ++ shorts m.start ++ (⟨#[10]⟩ : ByteArray)])) else (L1 ++ [(⟨#[35, 69, 88, 84, 45, 88, 45, 77, 69, 68, 73, 65, 45, 83, 69, 81, 85, 69, 78, 67, 69, 58]⟩ : ByteArray) ++ dec m.seq ++ (⟨#[10]⟩ : ByteArray), (⟨#[35, 69, 88, 84, 45, 88, 45, 84, 65, 82, 71, 69, 84, 68, 85, 82, 65, 84, 73, 79, 78, 58]⟩ : ByteArray) ++ dec m.target ++ (⟨#[10]⟩ : ByteArray)])) ∧ L.length ≤ 4 ∧ Own strL 9 1 w' w.heap.size v L ∧ Sv 83 ((3, v) :: (1, pt g1 0) :: (2, .slice none 0 0) :: (8, .bool false) :: (17, .bool false) :: (25, .int .i64 ((m.typ : Nat) : Int)) :: []) [⟨g1, (m.cells sl), 30, true⟩] (fun _ => False) w a w') (hS.get 52 rfl) ?_ ?_ ?_
   ·intro hb24 Q' hQ'
    have hb24 := of_decide_eq_true hb24
    refine wp_seq ?_
    refine wp_region_lit ?_
    refine sv_r (v := pt g1 5) hS (ex_fo (hS.get 1 rfl) fo_spec_Media_5 rfl) fun a hS => ?_
    refine sv_r (v := .int .i64 ((m.start : Nat) : Int)) hS (ex_ld (hS.get 53 rfl) lt_int (cell_of_heap (v := .int .i64 ((m.start : Nat) : Int)) (hS.at 0 rfl) rfl)) fun a hS => ?_
    refine sv_callv (v := .string (shorts m.start)) hS rfl rfl (by decide) (ex_call1 cf_spec_short (hS.get 54 rfl)) (short_any m.start (by omega) _) ?_
    intro a w25 hbw25 hS
    replace ho22 := ho22.ty (TyOnly.of_below (ts := []) hbw25) (by decide)
    refine sv_r (v := .string ((⟨#[35, 69, 88, 84, 45, 88, 45, 83, 84, 65, 82, 84, 58, 84, 73, 77, 69, 45, 79, 70, 70, 83, 69, 84, 61]⟩ : ByteArray) ++ shorts m.start)) hS (ex_add rfl (hS.get 55 rfl) (by (try simp only [ByteArray.size_append', ByteArray.size_mk', List.size_toArray, List.length_cons, List.length_nil]); omega)) fun a hS => ?_
    refine sv_r (v := .string ((⟨#[35, 69, 88, 84, 45, 88, 45, 83, 84, 65, 82, 84, 58, 84, 73, 77, 69, 45, 79, 70, 70, 83, 69, 84, 61]⟩ : ByteArray) ++ shorts m.start)) hS (ex_as (hS.get 56 rfl)) fun a hS => ?_
    refine wpList_nil ?_
    replace hS := hS.cut [4, 52, 3, 1, 2, 8, 17, 25]
    show Code.wp _ _ _ _ _
    refine wp_seq ?_
    refine wp_seq ?_
    refine wp_region_lit ?_
    refine sv_r (v := pt g1 6) hS (ex_fo (hS.get 1 rfl) fo_spec_Media_6 rfl) fun a hS => ?_
    refine sv_r (v := .bool (m.precise)) hS (ex_ld (hS.get 57 rfl) lt_bool (cell_of_heap (v := .bool (m.precise)) (hS.at 0 rfl) rfl)) fun a hS => ?_
    refine wpList_nil ?_
    replace hS := hS.cut [58, 4, 52, 3, 1, 2, 8, 17, 25]
    show Code.wp _ _ _ _ _
    refine wp_cond_split (hS.get 58 rfl) (fun hb26 => ?_) (fun hb26 => ?_)
    ·refine wp_region_lit ?_
     refine sv_r (v := .string ((⟨#[35, 69, 88, 84, 45, 88, 45, 83, 84, 65, 82, 84, 58, 84, 73, 77, 69, 45, 79, 70, 70, 83, 69, 84, 61]⟩ : ByteArray) ++ shorts m.start)) hS (ex_mv (hS.get 4 rfl)) fun a hS => ?_
     refine sv_r (v := .string ((⟨#[35, 69, 88, 84, 45, 88, 45, 83, 84, 65, 82, 84, 58, 84, 73, 77, 69, 45, 79, 70, 70, 83, 69, 84, 61]⟩ : ByteArray) ++ shorts m.start ++ (⟨#[44, 80, 82, 69, 67, 73, 83, 69, 61, 89, 69, 83]⟩ : ByteArray))) hS (ex_add (hS.get 59 rfl) rfl (by (try simp only [ByteArray.size_append', ByteArray.size_mk', List.size_toArray, List.length_cons, List.length_nil]); omega)) fun a hS => ?_
     refine sv_r (v := .string ((⟨#[35, 69, 88, 84, 45, 88, 45, 83, 84, 65, 82, 84, 58, 84, 73, 77, 69, 45, 79, 70, 70, 83, 69, 84, 61]⟩ : ByteArray) ++ shorts m.start ++ (⟨#[44, 80, 82, 69, 67, 73, 83, 69, 61, 89, 69, 83]⟩ : ByteArray))) hS (ex_as (hS.get 60 rfl)) fun a hS => ?_
     refine wpList_nil ?_
     replace hS := hS.cut [4, 58, 52, 3, 1, 2, 8, 17, 25]
     show Code.wp _ _ _ _ _
     refine wp_region_lit ?_
     refine sv_r (v := sv21) hS (ex_mv (hS.get 3 rfl)) fun a hS => ?_
     refine sv_r (v := .string ((⟨#[35, 69, 88, 84, 45, 88, 45, 83, 84, 65, 82, 84, 58, 84, 73, 77, 69, 45, 79, 70, 70, 83, 69, 84, 61]⟩ : ByteArray) ++ shorts m.start ++ (⟨#[44, 80, 82, 69, 67, 73, 83, 69, 61, 89, 69, 83]⟩ : ByteArray))) hS (ex_mv (hS.get 4 rfl)) fun a hS => ?_
     refine sv_r (v := .string ((⟨#[35, 69, 88, 84, 45, 88, 45, 83, 84, 65, 82, 84, 58, 84, 73, 77, 69, 45, 79, 70, 70, 83, 69, 84, 61]⟩ : ByteArray) ++ shorts m.start ++ (⟨#[44, 80, 82, 69, 67, 73, 83, 69, 61, 89, 69, 83]⟩ : ByteArray) ++ (⟨#[10]⟩ : ByteArray))) hS (ex_add (hS.get 62 rfl) rfl (by (try simp only [ByteArray.size_append', ByteArray.size_mk', List.size_toArray, List.length_cons, List.length_nil]); omega)) fun a hS => ?_
     refine sv_new (T := 9) (cs := #[.string ((⟨#[35, 69, 88, 84, 45, 88, 45, 83, 84, 65, 82, 84, 58, 84, 73, 77, 69, 45, 79, 70, 70, 83, 69, 84, 61]⟩ : ByteArray) ++ shorts m.start ++ (⟨#[44, 80, 82, 69, 67, 73, 83, 69, 61, 89, 69, 83]⟩ : ByteArray) ++ (⟨#[10]⟩ : ByteArray))]) hS rfl rfl (by decide) (fun g => .slice (some ⟨g, 0, none⟩) 1 1) (by simp only [execOp, List.map_toArray, List.map_cons, List.map_nil, hS.get 63 rfl]; go_simp) ?_
     intro g27 a w28 hg27 hbw28 hwg27 hS
     replace ho22 := ho22.ty (TyOnly.of_below (ts := []) hbw28) (by decide)
     have hxg27 := hS.at 0 rfl
     replace hS : Sv 83 ((64, .slice (some ⟨g27, 0, none⟩) 1 1) :: (63, .string ((⟨#[35, 69, 88, 84, 45, 88, 45, 83, 84, 65, 82, 84, 58, 84, 73, 77, 69, 45, 79, 70, 70, 83, 69, 84, 61]⟩ : ByteArray) ++ shorts m.start ++ (⟨#[44, 80, 82, 69, 67, 73, 83, 69, 61, 89, 69, 83]⟩ : ByteArray) ++ (⟨#[10]⟩ : ByteArray))) :: (62, .string ((⟨#[35, 69, 88, 84, 45, 88, 45, 83, 84, 65, 82, 84, 58, 84, 73, 77, 69, 45, 79, 70, 70, 83, 69, 84, 61]⟩ : ByteArray) ++ shorts m.start ++ (⟨#[44, 80, 82, 69, 67, 73, 83, 69, 61, 89, 69, 83]⟩ : ByteArray))) :: (61, sv21) :: (4, .string ((⟨#[35, 69, 88, 84, 45, 88, 45, 83, 84, 65, 82, 84, 58, 84, 73, 77, 69, 45, 79, 70, 70, 83, 69, 84, 61]⟩ : ByteArray) ++ shorts m.start ++ (⟨#[44, 80, 82, 69, 67, 73, 83, 69, 61, 89, 69, 83]⟩ : ByteArray))) :: (58, .bool (m.precise)) :: (52, .bool (decide ((0 : Nat) < m.start))) :: (3, sv21) :: (1, pt g1 0) :: (2, .slice none 0 0) :: (8, .bool false) :: (17, .bool false) :: (25, .int .i64 ((m.typ : Nat) : Int)) :: []) [⟨g1, (m.cells sl), 30, true⟩] (fun _ => False) w a w28 := (hS.mask [false, true]).pick rfl
     refine sv_append (f := strL) (L := (L1 ++ [(⟨#[35, 69, 88, 84, 45, 88, 45, 77, 69, 68, 73, 65, 45, 83, 69, 81, 85, 69, 78, 67, 69, 58]⟩ : ByteArray) ++ dec m.seq ++ (⟨#[10]⟩ : ByteArray), (⟨#[35, 69, 88, 84, 45, 88, 45, 84, 65, 82, 71, 69, 84, 68, 85, 82, 65, 84, 73, 79, 78, 58]⟩ : ByteArray) ++ dec m.target ++ (⟨#[10]⟩ : ByteArray)])) sli_sl_string (by decide) (fun _ => rfl) [(⟨#[35, 69, 88, 84, 45, 88, 45, 83, 84, 65, 82, 84, 58, 84, 73, 77, 69, 45, 79, 70, 70, 83, 69, 84, 61]⟩ : ByteArray) ++ shorts m.start ++ (⟨#[44, 80, 82, 69, 67, 73, 83, 69, 61, 89, 69, 83]⟩ : ByteArray) ++ (⟨#[10]⟩ : ByteArray)] hS (hS.get 61 rfl) (hS.get 64 rfl) hxg27 rfl rfl (fun y _ u hu => strL_one y u hu) ho22 rfl (by decide) (by (try simp only [List.length_append, List.length_cons, List.length_nil]); omega) (by (try simp only [List.length_append, List.length_cons, List.length_nil]); omega) ?_
     intro a sv29 w31 hty ho30 hS
     refine sv_r (v := sv29) hS (ex_as (hS.get 65 rfl)) fun a hS => ?_
     refine wpList_nil ?_
     replace hS := hS.cut [3, 4, 58, 52, 1, 2, 8, 17, 25]
     exact hQ' _ _ ⟨_, ((L1 ++ [(⟨#[35, 69, 88, 84, 45, 88, 45, 77, 69, 68, 73, 65, 45, 83, 69, 81, 85, 69, 78, 67, 69, 58]⟩ : ByteArray) ++ dec m.seq ++ (⟨#[10]⟩ : ByteArray), (⟨#[35, 69, 88, 84, 45, 88, 45, 84, 65, 82, 71, 69, 84, 68, 85, 82, 65, 84, 73, 79, 78, 58]⟩ : ByteArray) ++ dec m.target ++ (⟨#[10]⟩ : ByteArray)]) ++ [(⟨#[35, 69, 88, 84, 45, 88, 45, 83, 84, 65, 82, 84, 58, 84, 73, 77, 69, 45, 79, 70, 70, 83, 69, 84, 61]⟩ : ByteArray) ++ shorts m.start ++ (⟨#[44, 80, 82, 69, 67, 73, 83, 69, 61, 89, 69, 83]⟩ : ByteArray) ++ (⟨#[10]⟩ : ByteArray)]), by rw [if_pos hb24, if_pos hb26], by (try simp only [List.length_append, List.length_cons, List.length_nil]); omega, ho30, hS.pick rfl⟩
    ·refine wp_skip ?_
     show Code.wp _ _ _ _ _
     refine wp_region_lit ?_
     refine sv_r (v := sv21) hS (ex_mv (hS.get 3 rfl)) fun a hS => ?_
     refine sv_r (v := .string ((⟨#[35, 69, 88, 84, 45, 88, 45, 83, 84, 65, 82, 84, 58, 84, 73, 77, 69, 45, 79, 70, 70, 83, 69, 84, 61]⟩ : ByteArray) ++ shorts m.start)) hS (ex_mv (hS.get 4 rfl)) fun a hS => ?_
     refine sv_r (v := .string ((⟨#[35, 69, 88, 84, 45, 88, 45, 83, 84, 65, 82, 84, 58, 84, 73, 77, 69, 45, 79, 70, 70, 83, 69, 84, 61]⟩ : ByteArray) ++ shorts m.start ++ (⟨#[10]⟩ : ByteArray))) hS (ex_add (hS.get 62 rfl) rfl (by (try simp only [ByteArray.size_append', ByteArray.size_mk', List.size_toArray, List.length_cons, List.length_nil]); omega)) fun a hS => ?_
     refine sv_new (T := 9) (cs := #[.string ((⟨#[35, 69, 88, 84, 45, 88, 45, 83, 84, 65, 82, 84, 58, 84, 73, 77, 69, 45, 79, 70, 70, 83, 69, 84, 61]⟩ : ByteArray) ++ shorts m.start ++ (⟨#[10]⟩ : ByteArray))]) hS rfl rfl (by decide) (fun g => .slice (some ⟨g, 0, none⟩) 1 1) (by simp only [execOp, List.map_toArray, List.map_cons, List.map_nil, hS.get 63 rfl]; go_simp) ?_
     intro g32 a w33 hg32 hbw33 hwg32 hS
     replace ho22 := ho22.ty (TyOnly.of_below (ts := []) hbw33) (by decide)
     have hxg32 := hS.at 0 rfl
     replace hS : Sv 83 ((64, .slice (some ⟨g32, 0, none⟩) 1 1) :: (63, .string ((⟨#[35, 69, 88, 84, 45, 88, 45, 83, 84, 65, 82, 84, 58, 84, 73, 77, 69, 45, 79, 70, 70, 83, 69, 84, 61]⟩ : ByteArray) ++ shorts m.start ++ (⟨#[10]⟩ : ByteArray))) :: (62, .string ((⟨#[35, 69, 88, 84, 45, 88, 45, 83, 84, 65, 82, 84, 58, 84, 73, 77, 69, 45, 79, 70, 70, 83, 69, 84, 61]⟩ : ByteArray) ++ shorts m.start)) :: (61, sv21) :: (58, .bool (m.precise)) :: (4, .string ((⟨#[35, 69, 88, 84, 45, 88, 45, 83, 84, 65, 82, 84, 58, 84, 73, 77, 69, 45, 79, 70, 70, 83, 69, 84, 61]⟩ : ByteArray) ++ shorts m.start)) :: (52, .bool (decide ((0 : Nat) < m.start))) :: (3, sv21) :: (1, pt g1 0) :: (2, .slice none 0 0) :: (8, .bool false) :: (17, .bool false) :: (25, .int .i64 ((m.typ : Nat) : Int)) :: []) [⟨g1, (m.cells sl), 30, true⟩] (fun _ => False) w a w33 := (hS.mask [false, true]).pick rfl
     refine sv_append (f := strL) (L := (L1 ++ [(⟨#[35, 69, 88, 84, 45, 88, 45, 77, 69, 68, 73, 65, 45, 83, 69, 81, 85, 69, 78, 67, 69, 58]⟩ : ByteArray) ++ dec m.seq ++ (⟨#[10]⟩ : ByteArray), (⟨#[35, 69, 88, 84, 45, 88, 45, 84, 65, 82, 71, 69, 84, 68, 85, 82, 65, 84, 73, 79, 78, 58]⟩ : ByteArray) ++ dec m.target ++ (⟨#[10]⟩ : ByteArray)])) sli_sl_string (by decide) (fun _ => rfl) [(⟨#[35, 69, 88, 84, 45, 88, 45, 83, 84, 65, 82, 84, 58, 84, 73, 77, 69, 45, 79, 70, 70, 83, 69, 84, 61]⟩ : ByteArray) ++ shorts m.start ++ (⟨#[10]⟩ : ByteArray)] hS (hS.get 61 rfl) (hS.get 64 rfl) hxg32 rfl rfl (fun y _ u hu => strL_one y u hu) ho22 rfl (by decide) (by (try simp only [List.length_append, List.length_cons, List.length_nil]); omega) (by (try simp only [List.length_append, List.length_cons, List.length_nil]); omega) ?_
     intro a sv34 w36 hty ho35 hS
     refine sv_r (v := sv34) hS (ex_as (hS.get 65 rfl)) fun a hS => ?_
     refine wpList_nil ?_
     replace hS := hS.cut [3, 58, 4, 52, 1, 2, 8, 17, 25]
     exact hQ' _ _ ⟨_, ((L1 ++ [(⟨#[35, 69, 88, 84, 45, 88, 45, 77, 69, 68, 73, 65, 45, 83, 69, 81, 85, 69, 78, 67, 69, 58]⟩ : ByteArray) ++ dec m.seq ++ (⟨#[10]⟩ : ByteArray), (⟨#[35, 69, 88, 84, 45, 88, 45, 84, 65, 82, 71, 69, 84, 68, 85, 82, 65, 84, 73, 79, 78, 58]⟩ : ByteArray) ++ dec m.target ++ (⟨#[10]⟩ : ByteArray)]) ++ [(⟨#[35, 69, 88, 84, 45, 88, 45, 83, 84, 65, 82, 84, 58, 84, 73, 77, 69, 45, 79, 70, 70, 83, 69, 84, 61]⟩ : ByteArray) ++ shorts m.start ++ (⟨#[10]⟩ : ByteArray)]), by rw [if_pos hb24, if_neg (by rw [hb26]; decide)], by (try simp only [List.length_append, List.length_cons, List.length_nil]); omega, ho35, hS.pick rfl⟩
   ·intro hb24 Q' hQ'
    have hb24 := of_decide_eq_false hb24
    refine wp_skip ?_
    exact hQ' _ _ ⟨_, (L1 ++ [(⟨#[35, 69, 88, 84, 45, 88, 45, 77, 69, 68, 73, 65, 45, 83, 69, 81, 85, 69, 78, 67, 69, 58]⟩ : ByteArray) ++ dec m.seq ++ (⟨#[10]⟩ : ByteArray), (⟨#[35, 69, 88, 84, 45, 88, 45, 84, 65, 82, 71, 69, 84, 68, 85, 82, 65, 84, 73, 79, 78, 58]⟩ : ByteArray) ++ dec m.target ++ (⟨#[10]⟩ : ByteArray)]), by rw [if_neg hb24], by (try simp only [List.length_append, List.length_cons, List.length_nil]); omega, ho22, hS.pick rfl⟩
   ·rintro a w37 ⟨v2, L2, hL2, hlL2, ho2_, hS⟩
    show Code.wp _ _ _ _ _
    refine wp_seq ?_
    refine wp_seq ?_
    refine wp_region_lit ?_
    refine sv_r (v := pt g1 3) hS (ex_fo (hS.get 1 rfl) fo_spec_Media_3 rfl) fun a hS => ?_
    refine sv_r (v := .int .u64 ((m.disc : Nat) : Int)) hS (ex_ld (hS.get 66 rfl) lt_uint64 (cell_of_heap (v := .int .u64 ((m.disc : Nat) : Int)) (hS.at 0 rfl) rfl)) fun a hS => ?_
    refine sv_r (v := .bool (decide ((0 : Nat) < m.disc))) hS (ei_gtr (hS.get 67 rfl) rfl (by rw [decide_eq_decide]; omega)) fun a hS => ?_
    refine wpList_nil ?_
    replace hS := hS.cut [68, 3, 1, 2, 8, 17, 25]
    show Code.wp _ _ _ _ _
    refine if_join (fun a w' => ∃ (v : Value) (L : List ByteArray), L = (if (0 : Nat) < m.disc then (L2 ++ [(⟨#[35, 69, 88, 84, 45, 88, 45, 68, 73, 83, 67, 79, 78, 84, 73, 78, 85, 73, 84, 89, 45, 83, 69, 81, 85, 69, 78, 67, 69, 58]⟩ : ByteArray) ++ dec m.disc ++ (⟨#[10]⟩ : ByteArray)]) else (if (0 : Nat) < m.start then (if (m.precise) = true then ((L1 ++ [(⟨#[35, 69, 88, 84, 45, 88, 45, 77, 69, 68, 73, 65, 45, 83, 69, 81, 85, 69, 78, 67, 69, 58]⟩ : ByteArray) ++ dec m.seq ++ (⟨#[10]⟩ : ByteArray), (⟨#[35, 69, 88, 84, 45, 88, 45, 84, 65, 82, 71, 69, 84, 68, 85, 82, 65, 84, 73, 79, 78, 58]⟩ : ByteArray) ++ dec m.target ++ (⟨#[10]⟩ : ByteArray)]) ++ [(⟨#[35, 69, 88, 84, 45, 88, 45, 83, 84, 65, 82, 84, 58, 84, 73, 77, 69, 45, 79, 70, 70, 83, 69, 84, 61]⟩ : ByteArray) ++ shorts m.start ++ (⟨#[44, 80, 82, 69, 67, 73, 83, 69, 61, 89, 69, 83]⟩ : ByteArray) ++ (⟨#[10]⟩ : ByteArray)]) else ((L1 ++ [(⟨#[35, 69, 88, 84, 45, 88, 45, 77, 69, 68, 73, 65, 45, 83, 69, 81, 85, 69, 78, 67, 69, 58]⟩ : ByteArray) ++ dec m.seq ++ (⟨#[10]⟩ : ByteArray), (⟨#[35, 69, 88, 84, 45, 88, 45, 84, 65, 82, 71, 69, 84, 68, 85, 82, 65, 84, 73, 79, 78, 58]⟩ : ByteArray) ++ dec m.target ++ (⟨#[10]⟩ : ByteArray)]) ++ [(⟨#[35, 69, 88, 84, 45, 88, 45, 83, 84, 65, 82, 84, 58, 84, 73, 77, 69, 45, 79, 70, 70, 83, 69, 84, 61]⟩ : ByteArray) ++ shorts m.start ++ (⟨#[10]⟩ : ByteArray)])) else (L1 ++ [(⟨#[35, 69, 88, 84, 45, 88, 45, 77, 69, 68, 73, 65, 45, 83, 69, 81, 85, 69, 78, 67, 69, 58]⟩ : ByteArray) ++ dec m.seq ++ (⟨#[10]⟩ : ByteArray), (⟨#[35, 69, 88, 84, 45, 88, 45, 84, 65, 82, 71, 69, 84, 68, 85, 82, 65, 84, 73, 79, 78, 58]⟩ : ByteArray) ++ dec m.target ++ (⟨#[10]⟩ : ByteArray)]))) ∧ L.length ≤ 5 ∧ Own strL 9 1 w' w.heap.size v L ∧ Sv 83 ((3, v) :: (1, pt g1 0) :: (2, .slice none 0 0) :: (8, .bool false) :: (17, .bool false) :: (25, .int .i64 ((m.typ : Nat) : Int)) :: []) [⟨g1, (m.cells sl), 30, true⟩] (fun _ => False) w a w') (hS.get 68 rfl) ?_ ?_ ?_
    ·intro hb38 Q' hQ'
     have hb38 := of_decide_eq_true hb38
     refine wp_region_lit ?_
     refine sv_r (v := v2) hS (ex_mv (hS.get 3 rfl)) fun a hS => ?_
     refine sv_r (v := pt g1 3) hS (ex_fo (hS.get 1 rfl) fo_spec_Media_3 rfl) fun a hS => ?_
     refine sv_r (v := .int .u64 ((m.disc : Nat) : Int)) hS (ex_ld (hS.get 70 rfl) lt_uint64 (cell_of_heap (v := .int .u64 ((m.disc : Nat) : Int)) (hS.at 0 rfl) rfl)) fun a hS => ?_
     refine sv_callq (v := .string (dec m.disc)) hS rfl rfl (by decide) (ex_call1 cf_spec_Decimal (hS.get 71 rfl)) (Calls.mono (decimal_any (m.disc) _ (by omega)) (by rintro e w' ⟨rfl, rfl⟩; exact ⟨rfl, rfl⟩)) ?_
     intro a hS
     refine sv_r (v := .string ((⟨#[35, 69, 88, 84, 45, 88, 45, 68, 73, 83, 67, 79, 78, 84, 73, 78, 85, 73, 84, 89, 45, 83, 69, 81, 85, 69, 78, 67, 69, 58]⟩ : ByteArray) ++ dec m.disc)) hS (ex_add rfl (hS.get 72 rfl) (by (try simp only [ByteArray.size_append', ByteArray.size_mk', List.size_toArray, List.length_cons, List.length_nil]); omega)) fun a hS => ?_
     refine sv_r (v := .string ((⟨#[35, 69, 88, 84, 45, 88, 45, 68, 73, 83, 67, 79, 78, 84, 73, 78, 85, 73, 84, 89, 45, 83, 69, 81, 85, 69, 78, 67, 69, 58]⟩ : ByteArray) ++ dec m.disc ++ (⟨#[10]⟩ : ByteArray))) hS (ex_add (hS.get 73 rfl) rfl (by (try simp only [ByteArray.size_append', ByteArray.size_mk', List.size_toArray, List.length_cons, List.length_nil]); omega)) fun a hS => ?_
     refine sv_new (T := 9) (cs := #[.string ((⟨#[35, 69, 88, 84, 45, 88, 45, 68, 73, 83, 67, 79, 78, 84, 73, 78, 85, 73, 84, 89, 45, 83, 69, 81, 85, 69, 78, 67, 69, 58]⟩ : ByteArray) ++ dec m.disc ++ (⟨#[10]⟩ : ByteArray))]) hS rfl rfl (by decide) (fun g => .slice (some ⟨g, 0, none⟩) 1 1) (by simp only [execOp, List.map_toArray, List.map_cons, List.map_nil, hS.get 74 rfl]; go_simp) ?_
     intro g39 a w40 hg39 hbw40 hwg39 hS
     replace ho2_ := ho2_.ty (TyOnly.of_below (ts := []) hbw40) (by decide)
     have hxg39 := hS.at 0 rfl
     replace hS : Sv 83 ((75, .slice (some ⟨g39, 0, none⟩) 1 1) :: (74, .string ((⟨#[35, 69, 88, 84, 45, 88, 45, 68, 73, 83, 67, 79, 78, 84, 73, 78, 85, 73, 84, 89, 45, 83, 69, 81, 85, 69, 78, 67, 69, 58]⟩ : ByteArray) ++ dec m.disc ++ (⟨#[10]⟩ : ByteArray))) :: (73, .string ((⟨#[35, 69, 88, 84, 45, 88, 45, 68, 73, 83, 67, 79, 78, 84, 73, 78, 85, 73, 84, 89, 45, 83, 69, 81, 85, 69, 78, 67, 69, 58]⟩ : ByteArray) ++ dec m.disc)) :: (72, .string (dec m.disc)) :: (71, .int .u64 ((m.disc : Nat) : Int)) :: (70, pt g1 3) :: (69, v2) :: (68, .bool (decide ((0 : Nat) < m.disc))) :: (3, v2) :: (1, pt g1 0) :: (2, .slice none 0 0) :: (8, .bool false) :: (17, .bool false) :: (25, .int .i64 ((m.typ : Nat) : Int)) :: []) [⟨g1, (m.cells sl), 30, true⟩] (fun _ => False) w a w40 := (hS.mask [false, true]).pick rfl
     refine sv_append (f := strL) (L := L2) sli_sl_string (by decide) (fun _ => rfl) [(⟨#[35, 69, 88, 84, 45, 88, 45, 68, 73, 83, 67, 79, 78, 84, 73, 78, 85, 73, 84, 89, 45, 83, 69, 81, 85, 69, 78, 67, 69, 58]⟩ : ByteArray) ++ dec m.disc ++ (⟨#[10]⟩ : ByteArray)] hS (hS.get 69 rfl) (hS.get 75 rfl) hxg39 rfl rfl (fun y _ u hu => strL_one y u hu) ho2_ rfl (by decide) (by (try simp only [List.length_append, List.length_cons, List.length_nil]); omega) (by (try simp only [List.length_append, List.length_cons, List.length_nil]); omega) ?_
     intro a sv41 w43 hty ho42 hS
     refine sv_r (v := sv41) hS (ex_as (hS.get 76 rfl)) fun a hS => ?_
     refine wpList_nil ?_
     replace hS := hS.cut [3, 68, 1, 2, 8, 17, 25]
     exact hQ' _ _ ⟨_, (L2 ++ [(⟨#[35, 69, 88, 84, 45, 88, 45, 68, 73, 83, 67, 79, 78, 84, 73, 78, 85, 73, 84, 89, 45, 83, 69, 81, 85, 69, 78, 67, 69, 58]⟩ : ByteArray) ++ dec m.disc ++ (⟨#[10]⟩ : ByteArray)]), by rw [if_pos hb38], by (try simp only [List.length_append, List.length_cons, List.length_nil]); omega, ho42, hS.pick rfl⟩
    ·intro hb38 Q' hQ'
     have hb38 := of_decide_eq_false hb38
     refine wp_skip ?_
     exact hQ' _ _ ⟨_, L2, by rw [if_neg hb38] ; exact hL2, by (try simp only [List.length_append, List.length_cons, List.length_nil]); omega, ho2_, hS.pick rfl⟩
    ·rintro a w44 ⟨v3, L3, hL3, hlL3, ho3_, hS⟩
     show Code.wp _ _ _ _ _
     refine wp_seq ?_
     refine wp_seq ?_
     refine wp_region_lit ?_
     refine sv_r (v := pt g1 7) hS (ex_fo (hS.get 1 rfl) fo_spec_Media_7 rfl) fun a hS => ?_
     refine sv_r (v := .bool (m.iframe)) hS (ex_ld (hS.get 77 rfl) lt_bool (cell_of_heap (v := .bool (m.iframe)) (hS.at 0 rfl) rfl)) fun a hS => ?_
     refine wpList_nil ?_
     replace hS := hS.cut [78, 3, 1, 2, 8, 17, 25]
     show Code.wp _ _ _ _ _
     refine if_join (fun a w' => ∃ (v : Value) (L : List ByteArray), L = (if (m.iframe) = true then (L3 ++ [⟨#[35, 69, 88, 84, 45, 88, 45, 73, 45, 70, 82, 65, 77, 69, 83, 45, 79, 78, 76, 89, 10]⟩]) else (if (0 : Nat) < m.disc then (L2 ++ [(⟨#[35, 69, 88, 84, 45, 88, 45, 68, 73, 83, 67, 79, 78, 84, 73, 78, 85, 73, 84, 89, 45, 83, 69, 81, 85, 69, 78, 67, 69, 58]⟩ : ByteArray) ++ dec m.disc ++ (⟨#[10]⟩ : ByteArray)]) else (if (0 : Nat) < m.start then (if (m.precise) = true then ((L1 ++ [(⟨#[35, 69, 88, 84, 45, 88, 45, 77, 69, 68, 73, 65, 45, 83, 69, 81, 85, 69, 78, 67, 69, 58]⟩ : ByteArray) ++ dec m.seq ++ (⟨#[10]⟩ : ByteArray), (⟨#[35, 69, 88, 84, 45, 88, 45, 84, 65, 82, 71, 69, 84, 68, 85, 82, 65, 84, 73, 79, 78, 58]⟩ : ByteArray) ++ dec m.target ++ (⟨#[10]⟩ : ByteArray)]) ++ [(⟨#[35, 69, 88, 84, 45, 88, 45, 83, 84, 65, 82, 84, 58, 84, 73, 77, 69, 45, 79, 70, 70, 83, 69, 84, 61]⟩ : ByteArray) ++ shorts m.start ++ (⟨#[44, 80, 82, 69, 67, 73, 83, 69, 61, 89, 69, 83]⟩ : ByteArray) ++ (⟨#[10]⟩ : ByteArray)]) else ((L1 ++ [(⟨#[35, 69, 88, 84, 45, 88, 45, 77, 69, 68, 73, 65, 45, 83, 69, 81, 85, 69, 78, 67, 69, 58]⟩ : ByteArray) ++ dec m.seq ++ (⟨#[10]⟩ : ByteArray), (⟨#[35, 69, 88, 84, 45, 88, 45, 84, 65, 82, 71, 69, 84, 68, 85, 82, 65, 84, 73, 79, 78, 58]⟩ : ByteArray) ++ dec m.target ++ (⟨#[10]⟩ : ByteArray)]) ++ [(⟨#[35, 69, 88, 84, 45, 88, 45, 83, 84, 65, 82, 84, 58, 84, 73, 77, 69, 45, 79, 70, 70, 83, 69, 84, 61]⟩ : ByteArray) ++ shorts m.start ++ (⟨#[10]⟩ : ByteArray)])) else (L1 ++ [(⟨#[35, 69, 88, 84, 45, 88, 45, 77, 69, 68, 73, 65, 45, 83, 69, 81, 85, 69, 78, 67, 69, 58]⟩ : ByteArray) ++ dec m.seq ++ (⟨#[10]⟩ : ByteArray), (⟨#[35, 69, 88, 84, 45, 88, 45, 84, 65, 82, 71, 69, 84, 68, 85, 82, 65, 84, 73, 79, 78, 58]⟩ : ByteArray) ++ dec m.target ++ (⟨#[10]⟩ : ByteArray)])))) ∧ L.length ≤ 6 ∧ Own strL 9 1 w' w.heap.size v L ∧ Sv 83 ((3, v) :: (1, pt g1 0) :: (2, .slice none 0 0) :: (8, .bool false) :: (17, .bool false) :: (25, .int .i64 ((m.typ : Nat) : Int)) :: []) [⟨g1, (m.cells sl), 30, true⟩] (fun _ => False) w a w') (hS.get 78 rfl) ?_ ?_ ?_
     ·intro hb45 Q' hQ'
      refine wp_region_lit ?_
      refine sv_r (v := v3) hS (ex_mv (hS.get 3 rfl)) fun a hS => ?_
      refine sv_new (T := 9) (cs := #[.string (⟨#[35, 69, 88, 84, 45, 88, 45, 73, 45, 70, 82, 65, 77, 69, 83, 45, 79, 78, 76, 89, 10]⟩)]) hS rfl rfl (by decide) (fun g => .slice (some ⟨g, 0, none⟩) 1 1) (by simp only [execOp, List.map_toArray, List.map_cons, List.map_nil, ]; go_simp) ?_
      intro g46 a w47 hg46 hbw47 hwg46 hS
      replace ho3_ := ho3_.ty (TyOnly.of_below (ts := []) hbw47) (by decide)
      have hxg46 := hS.at 0 rfl
      replace hS : Sv 83 ((80, .slice (some ⟨g46, 0, none⟩) 1 1) :: (79, v3) :: (78, .bool (m.iframe)) :: (3, v3) :: (1, pt g1 0) :: (2, .slice none 0 0) :: (8, .bool false) :: (17, .bool false) :: (25, .int .i64 ((m.typ : Nat) : Int)) :: []) [⟨g1, (m.cells sl), 30, true⟩] (fun _ => False) w a w47 := (hS.mask [false, true]).pick rfl
      refine sv_append (f := strL) (L := L3) sli_sl_string (by decide) (fun _ => rfl) [⟨#[35, 69, 88, 84, 45, 88, 45, 73, 45, 70, 82, 65, 77, 69, 83, 45, 79, 78, 76, 89, 10]⟩] hS (hS.get 79 rfl) (hS.get 80 rfl) hxg46 rfl rfl (fun y _ u hu => strL_one y u hu) ho3_ rfl (by decide) (by (try simp only [List.length_append, List.length_cons, List.length_nil]); omega) (by (try simp only [List.length_append, List.length_cons, List.length_nil]); omega) ?_
      intro a sv48 w50 hty ho49 hS
      refine sv_r (v := sv48) hS (ex_as (hS.get 81 rfl)) fun a hS => ?_
      refine wpList_nil ?_
      replace hS := hS.cut [3, 78, 1, 2, 8, 17, 25]
      exact hQ' _ _ ⟨_, (L3 ++ [⟨#[35, 69, 88, 84, 45, 88, 45, 73, 45, 70, 82, 65, 77, 69, 83, 45, 79, 78, 76, 89, 10]⟩]), by rw [if_pos hb45], by (try simp only [List.length_append, List.length_cons, List.length_nil]); omega, ho49, hS.pick rfl⟩
     ·intro hb45 Q' hQ'
      refine wp_skip ?_
      exact hQ' _ _ ⟨_, L3, by rw [if_neg (by rw [hb45]; decide)] ; exact hL3, by (try simp only [List.length_append, List.length_cons, List.length_nil]); omega, ho3_, hS.pick rfl⟩
     ·rintro a w51 ⟨v4, L4, hL4, hlL4, ho4_, hS⟩
      show Code.wp _ _ _ _ _
      refine wp_seq ?_
      refine wp_region_lit ?_
      refine sv_r (v := v4) hS (ex_mv (hS.get 3 rfl)) fun a hS => ?_
      refine sv_r (v := v4) hS (ex_as (hS.get 82 rfl)) fun a hS => ?_
      refine wpList_nil ?_
      replace hS := hS.cut [2, 3, 1, 8, 17, 25]
      show Code.wp _ _ _ _ _
      refine wp_ret ?_
      try simp only [Exit.inBlock, Exit.then]
      refine ret_of_ev hS.ev rfl (hS.get 2 rfl) ⟨_, rfl, hS.toBelow, ?_⟩
      have e : m.head = L4 := by rw [hL4, hL3, hL2, hL1]; rfl
      rw [e]; exact ho4_
end Go.Proofs.YtfonjeoiallhhaaGreatDoor
