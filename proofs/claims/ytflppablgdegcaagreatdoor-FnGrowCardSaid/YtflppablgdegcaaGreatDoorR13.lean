/- Joined: Ln. -/
import Derived.Test.YtflppablgdegcaaGreatDoorR12
set_option maxRecDepth 100000
set_option maxHeartbeats 8000000
namespace Go.Proofs.YtflppablgdegcaaGreatDoor
open Go.RowKit
def Ky.textO (o : Option Ky) : ByteArray := (o.map Ky.text).getD ⟨#[]⟩
def Mp.textO (o : Option Mp) : ByteArray := (o.map Mp.text).getD ⟨#[]⟩
theorem keyTextO_any (o : Option Ky) (hs : o.isSome = true) (hk : ∀ k, o = some k → KySz k) (v : Value) (w : World) (h : PtrTo 106 (o.map Ky.cells) v w) : Calls Tryz.prog 28 #[v] w fun e w' => e = .returned (.string (Ky.textO o)) ∧ Below w.heap.size w w' := by
 cases o with
 | none => cases hs
 | some k =>
  rcases h with ⟨h, _⟩ | ⟨g, cs, h, rfl, hg⟩
  ·cases h
  ·obtain rfl := Option.some.inj h
   exact keyText_any k (hk k rfl) g w hg
theorem mapTextO_any (o : Option Mp) (hs : o.isSome = true) (hk : ∀ k, o = some k → MapOk k) (v : Value) (w : World) (h : PtrTo 109 (o.map Mp.cells) v w) : Calls Tryz.prog 29 #[v] w fun e w' => e = .returned (.string (Mp.textO o)) ∧ Below w.heap.size w w' := by
 cases o with
 | none => cases hs
 | some k =>
  rcases h with ⟨h, _⟩ | ⟨g, cs, h, rfl, hg⟩
  ·cases h
  ·obtain rfl := Option.some.inj h
   obtain ⟨h1, h2⟩ := hk k rfl
   have := h1.size
   exact mapText_any k (by omega) (by omega) (by omega) g w hg
theorem ex_ptne {a : Act} {w : World} {dst : Option Nat} {T T1 T' ty : TypeId} {ps : String} {af : Array Edge} {gd : Option (Nat × Bool)} {x : Operand} {v : Value} {o : Option (Array Value)} {w1 : World} (h : Eqp T) (hp : PtrTo T1 o v w1) (hx : a.eval x = v) : (execOp a.eval ⟨dst, .binOp .neq T x (.const (.pointer none)) T', ty, ps, af, gd⟩).run Tryz.prog w = .ok (.value (.bool o.isSome)) w := by
 obtain ⟨p, rfl, h1⟩ := ptr_isSome hp
 rw [← h1]
 exact ex_pne h hx
structure SegLn (s : Sm) : Prop where
 title : Word 20 s.title
 e : s.e < 160
 part : s.limit = 0 ∧ s.offset = 0 ∨ 1 ≤ s.limit ∧ s.limit ≤ 4294967296 ∧ s.offset < 4294967296
 key : ∀ k, s.key = some k → KeyOk k
 map : ∀ m, s.map = some m → MapOk m
 date : DateOk s.date
theorem SegOk.ln {s : Sm} (h : SegOk s) : SegLn s := ⟨h.title, h.e, h.part, h.key, h.map, h.date⟩
def Sm.lines (s : Sm) : List ByteArray :=
 let l := if (s.key.map Ky.cells).isSome = true then ([] : List ByteArray) ++ [Ky.textO s.key] else ([] : List ByteArray)
 let l := if s.disc = true then l ++ [(⟨#[35, 69, 88, 84, 45, 88, 45, 68, 73, 83, 67, 79, 78, 84, 73, 78, 85, 73, 84, 89, 10]⟩ : ByteArray)] else l
 let l := if (s.map.map Mp.cells).isSome = true then l ++ [Mp.textO s.map] else l
 let l := if (ne s.date) = true then l ++ [((⟨#[35, 69, 88, 84, 45, 88, 45, 80, 82, 79, 71, 82, 65, 77, 45, 68, 65, 84, 69, 45, 84, 73, 77, 69, 58]⟩ : ByteArray) ++ s.date) ++ (⟨#[10]⟩ : ByteArray)] else l
 let l := if 0 < s.limit then l ++ [(((((⟨#[35, 69, 88, 84, 45, 88, 45, 66, 89, 84, 69, 82, 65, 78, 71, 69, 58]⟩ : ByteArray) ++ (dec s.limit)) ++ (⟨#[64]⟩ : ByteArray)) ++ (dec s.offset)) ++ (⟨#[10]⟩ : ByteArray))] else l
 l ++ [(((((⟨#[35, 69, 88, 84, 73, 78, 70, 58]⟩ : ByteArray) ++ (secs s.e)) ++ (⟨#[44]⟩ : ByteArray)) ++ s.title) ++ (⟨#[10]⟩ : ByteArray))]
theorem DateOk.size {d : ByteArray} (h : DateOk d) : d.size ≤ 60 := by
 rcases h with rfl | ⟨y, _, h2, rfl⟩
 ·decide
 ·have := dec_le (n := y) (by omega)
  simp only [ByteArray.size_append', ByteArray.size_mk', List.size_toArray, List.length_cons, List.length_nil]
  omega
theorem lines_any (x : Sx) (hx : SegLn x.1) (w : World) (hA : x.At w) : Calls Tryz.prog 15 #[.agg x.cells] w fun e w' => ∃ v, e = .returned v ∧ Below w.heap.size w w' ∧ Own strL 9 1 w' w.heap.size v x.1.lines := by
 have he := hx.e
 have hpt := hx.part
 have hzt := hx.title.size
 have hzd := hx.date.size
 have hd1 := dec_le (n := x.1.limit) (by omega)
 have hd2 := dec_le (n := x.1.offset) (by omega)
 have hd3 := secs_size (n := x.1.e) (by omega)
 refine calls_of_ev Tryz.func15 rfl (show 1 ≤ 68 from by decide) fun a hE => ?_
 have hE : Ev 68 ((0, .agg x.cells) :: []) a := hE
 have Z : Sv 68 ((0, .agg x.cells) :: []) [] (fun _ => False) w a w := Sv.start hE _ _
 clear hE
 refine wr (sv_box Z (Z.g 0 rfl) (bx_spec_Segment _) (by decide) fun g1 a w2 hg1 hbw2 hwg1 Z => sv_n 1 Z rfl fun a Z => Z.nx [2, 1] rfl fun Z => sh (wr ?_))
 refine sv_new (T := 9) (cs := #[]) Z rfl rfl (by decide) (fun g => .slice (some ⟨g, 0, none⟩) 0 0) (by simp only [execOp, List.map_toArray, List.map_cons, List.map_nil, ]; go_simp) fun g3 a w4 hg3 hbw4 hwg3 Z => sv_n 1 Z rfl fun a Z => Z.nx [3, 2, 1] rfl fun Z => ?_
 have ho0 : Own strL 9 1 w4 w.heap.size (.slice (some ⟨g3, 0, none⟩) 0 0) ([] : List ByteArray) := Own.fresh (fun _ => rfl) (Z.at 0 rfl) hg3 rfl rfl (by decide)
 replace Z := (Z.mz [false, true] rfl).ct [3, 2, 1] rfl
 refine sh (wp_seq (wr (sv_n 1 Z rfl fun a Z => sv_l (v := x.2.1) 0 Z rfl (Z.g 5 rfl) lt_p_spec_Key rfl fun a Z => sv_r (v := .bool (x.1.key.map Ky.cells).isSome) Z (ex_ptne eqp_p_spec_Key (hA.keep Z.toBelow).1 (Z.g 6 rfl)) fun a Z => Z.nx [7, 3, 2, 1] rfl fun Z => sh ?_)))
 refine if_join (fun a w' => ∃ (v : Value) (L : List ByteArray), L = (if ((x.1.key.map Ky.cells).isSome) = true then (([] : List ByteArray) ++ [Ky.textO x.1.key]) else ([] : List ByteArray)) ∧ L.length ≤ 1 ∧ Own strL 9 1 w' w.heap.size v L ∧ Sv 68 ((3, v) :: (2, .slice none 0 0) :: (1, pt g1 0) :: []) [⟨g1, x.cells, 50, true⟩] (fun _ => False) w a w') (Z.g 7 rfl) ?_ ?_ ?_
 ·intro hb5 Q' hQ'
  refine wp_region_lit (sv_n 2 Z rfl fun a Z => sv_l (v := x.2.1) 0 Z rfl (Z.g 9 rfl) lt_p_spec_Key rfl fun a Z => ?_)
  refine sv_callv (v := .string (Ky.textO x.1.key)) Z rfl rfl (by decide) (ex_call1 cf_spec_Key_Text (Z.g 10 rfl)) (keyTextO_any x.1.key (by simpa using hb5) (fun k hk => (hx.key k hk).sz) _ _ (hA.keep Z.toBelow).1) fun a w6 hbw6 Z => ?_
  replace ho0 := ho0.ty (TyOnly.of_below (ts := []) hbw6) (by decide)
  refine sv_new (T := 9) (cs := #[.string (Ky.textO x.1.key)]) Z rfl rfl (by decide) (fun g => .slice (some ⟨g, 0, none⟩) 1 1) (by simp only [execOp, List.map_toArray, List.map_cons, List.map_nil, Z.g 11 rfl]; go_simp) fun g7 a w8 hg7 hbw8 hwg7 Z => ?_
  replace ho0 := ho0.ty (TyOnly.of_below (ts := []) hbw8) (by decide)
  have hxg7 := Z.at 0 rfl
  replace Z := (Z.mz [false, true] rfl).ct [12, 11, 10, 9, 8, 7, 3, 2, 1] rfl
  refine sv_append (f := strL) (L := ([] : List ByteArray)) sli_sl_string (by decide) (fun _ => rfl) [Ky.textO x.1.key] Z (Z.g 8 rfl) (Z.g 12 rfl) hxg7 rfl rfl (fun y _ u hu => strL_one y u hu) ho0 rfl (by decide) (by (try simp only [List.length_append, List.length_cons, List.length_nil]); omega) (by (try simp only [List.length_append, List.length_cons, List.length_nil]); omega) fun a sv9 w11 hty ho10 Z => sv_n 1 Z rfl fun a Z => Z.nx [3, 7, 2, 1] rfl fun Z => ?_
  exact hQ' _ _ ⟨_, (([] : List ByteArray) ++ [Ky.textO x.1.key]), by rw [if_pos hb5], by (try simp only [List.length_append, List.length_cons, List.length_nil]); omega, ho10, Z.pick rfl⟩
 ·intro hb5 Q' hQ'
  refine wp_skip ?_
  exact hQ' _ _ ⟨_, ([] : List ByteArray), by rw [if_neg (by rw [hb5]; decide)], by (try simp only [List.length_append, List.length_cons, List.length_nil]); omega, ho0, Z.pick rfl⟩
 ·rintro a w12 ⟨v1, L1, hL1, hlL1, ho1_, Z⟩
  refine sh (wp_seq (wr (sv_n 1 Z rfl fun a Z => sv_l (v := .bool (x.1.disc)) 0 Z rfl (Z.g 14 rfl) lt_bool rfl fun a Z => Z.nx [15, 3, 2, 1] rfl fun Z => sh ?_)))
  refine if_join (fun a w' => ∃ (v : Value) (L : List ByteArray), L = (if (x.1.disc) = true then (L1 ++ [⟨#[35, 69, 88, 84, 45, 88, 45, 68, 73, 83, 67, 79, 78, 84, 73, 78, 85, 73, 84, 89, 10]⟩]) else (if ((x.1.key.map Ky.cells).isSome) = true then (([] : List ByteArray) ++ [Ky.textO x.1.key]) else ([] : List ByteArray))) ∧ L.length ≤ 2 ∧ Own strL 9 1 w' w.heap.size v L ∧ Sv 68 ((3, v) :: (2, .slice none 0 0) :: (1, pt g1 0) :: []) [⟨g1, x.cells, 50, true⟩] (fun _ => False) w a w') (Z.g 15 rfl) ?_ ?_ ?_
  ·intro hb13 Q' hQ'
   refine wp_region_lit (sv_n 1 Z rfl fun a Z => ?_)
   refine sv_new (T := 9) (cs := #[.string (⟨#[35, 69, 88, 84, 45, 88, 45, 68, 73, 83, 67, 79, 78, 84, 73, 78, 85, 73, 84, 89, 10]⟩)]) Z rfl rfl (by decide) (fun g => .slice (some ⟨g, 0, none⟩) 1 1) (by simp only [execOp, List.map_toArray, List.map_cons, List.map_nil, ]; go_simp) fun g14 a w15 hg14 hbw15 hwg14 Z => ?_
   replace ho1_ := ho1_.ty (TyOnly.of_below (ts := []) hbw15) (by decide)
   have hxg14 := Z.at 0 rfl
   replace Z := (Z.mz [false, true] rfl).ct [17, 16, 15, 3, 2, 1] rfl
   refine sv_append (f := strL) (L := L1) sli_sl_string (by decide) (fun _ => rfl) [⟨#[35, 69, 88, 84, 45, 88, 45, 68, 73, 83, 67, 79, 78, 84, 73, 78, 85, 73, 84, 89, 10]⟩] Z (Z.g 16 rfl) (Z.g 17 rfl) hxg14 rfl rfl (fun y _ u hu => strL_one y u hu) ho1_ rfl (by decide) (by (try simp only [List.length_append, List.length_cons, List.length_nil]); omega) (by (try simp only [List.length_append, List.length_cons, List.length_nil]); omega) fun a sv16 w18 hty ho17 Z => sv_n 1 Z rfl fun a Z => Z.nx [3, 15, 2, 1] rfl fun Z => ?_
   exact hQ' _ _ ⟨_, (L1 ++ [⟨#[35, 69, 88, 84, 45, 88, 45, 68, 73, 83, 67, 79, 78, 84, 73, 78, 85, 73, 84, 89, 10]⟩]), by rw [if_pos hb13], by (try simp only [List.length_append, List.length_cons, List.length_nil]); omega, ho17, Z.pick rfl⟩
  ·intro hb13 Q' hQ'
   refine wp_skip ?_
   exact hQ' _ _ ⟨_, L1, by rw [if_neg (by rw [hb13]; decide)] ; exact hL1, by (try simp only [List.length_append, List.length_cons, List.length_nil]); omega, ho1_, Z.pick rfl⟩
  ·rintro a w19 ⟨v2, L2, hL2, hlL2, ho2_, Z⟩
   refine sh (wp_seq (wr (sv_n 1 Z rfl fun a Z => sv_l (v := x.2.2) 0 Z rfl (Z.g 19 rfl) lt_p_spec_Map rfl fun a Z => sv_r (v := .bool (x.1.map.map Mp.cells).isSome) Z (ex_ptne eqp_p_spec_Map (hA.keep Z.toBelow).2 (Z.g 20 rfl)) fun a Z => Z.nx [21, 3, 2, 1] rfl fun Z => sh ?_)))
   refine if_join (fun a w' => ∃ (v : Value) (L : List ByteArray), L = (if ((x.1.map.map Mp.cells).isSome) = true then (L2 ++ [Mp.textO x.1.map]) else (if (x.1.disc) = true then (L1 ++ [⟨#[35, 69, 88, 84, 45, 88, 45, 68, 73, 83, 67, 79, 78, 84, 73, 78, 85, 73, 84, 89, 10]⟩]) else (if ((x.1.key.map Ky.cells).isSome) = true then (([] : List ByteArray) ++ [Ky.textO x.1.key]) else ([] : List ByteArray)))) ∧ L.length ≤ 3 ∧ Own strL 9 1 w' w.heap.size v L ∧ Sv 68 ((3, v) :: (2, .slice none 0 0) :: (1, pt g1 0) :: []) [⟨g1, x.cells, 50, true⟩] (fun _ => False) w a w') (Z.g 21 rfl) ?_ ?_ ?_
   ·intro hb20 Q' hQ'
    refine wp_region_lit (sv_n 2 Z rfl fun a Z => sv_l (v := x.2.2) 0 Z rfl (Z.g 23 rfl) lt_p_spec_Map rfl fun a Z => ?_)
    refine sv_callv (v := .string (Mp.textO x.1.map)) Z rfl rfl (by decide) (ex_call1 cf_spec_Map_Text (Z.g 24 rfl)) (mapTextO_any x.1.map (by simpa using hb20) (fun k hk => hx.map k hk) _ _ (hA.keep Z.toBelow).2) fun a w21 hbw21 Z => ?_
    replace ho2_ := ho2_.ty (TyOnly.of_below (ts := []) hbw21) (by decide)
    refine sv_new (T := 9) (cs := #[.string (Mp.textO x.1.map)]) Z rfl rfl (by decide) (fun g => .slice (some ⟨g, 0, none⟩) 1 1) (by simp only [execOp, List.map_toArray, List.map_cons, List.map_nil, Z.g 25 rfl]; go_simp) fun g22 a w23 hg22 hbw23 hwg22 Z => ?_
    replace ho2_ := ho2_.ty (TyOnly.of_below (ts := []) hbw23) (by decide)
    have hxg22 := Z.at 0 rfl
    replace Z := (Z.mz [false, true] rfl).ct [26, 25, 24, 23, 22, 21, 3, 2, 1] rfl
    refine sv_append (f := strL) (L := L2) sli_sl_string (by decide) (fun _ => rfl) [Mp.textO x.1.map] Z (Z.g 22 rfl) (Z.g 26 rfl) hxg22 rfl rfl (fun y _ u hu => strL_one y u hu) ho2_ rfl (by decide) (by (try simp only [List.length_append, List.length_cons, List.length_nil]); omega) (by (try simp only [List.length_append, List.length_cons, List.length_nil]); omega) fun a sv24 w26 hty ho25 Z => sv_n 1 Z rfl fun a Z => Z.nx [3, 21, 2, 1] rfl fun Z => ?_
    exact hQ' _ _ ⟨_, (L2 ++ [Mp.textO x.1.map]), by rw [if_pos hb20], by (try simp only [List.length_append, List.length_cons, List.length_nil]); omega, ho25, Z.pick rfl⟩
   ·intro hb20 Q' hQ'
    refine wp_skip ?_
    exact hQ' _ _ ⟨_, L2, by rw [if_neg (by rw [hb20]; decide)] ; exact hL2, by (try simp only [List.length_append, List.length_cons, List.length_nil]); omega, ho2_, Z.pick rfl⟩
   ·rintro a w27 ⟨v3, L3, hL3, hlL3, ho3_, Z⟩
    refine sh (wp_seq (wr (sv_n 1 Z rfl fun a Z => sv_l (v := .string x.1.date) 0 Z rfl (Z.g 28 rfl) lt_string rfl fun a Z => sv_r (v := .bool (ne x.1.date)) Z (ex_ne0 (Z.g 29 rfl)) fun a Z => Z.nx [30, 3, 2, 1] rfl fun Z => sh ?_)))
    refine if_join (fun a w' => ∃ (v : Value) (L : List ByteArray), L = (if (ne x.1.date) = true then (L3 ++ [(⟨#[35, 69, 88, 84, 45, 88, 45, 80, 82, 79, 71, 82, 65, 77, 45, 68, 65, 84, 69, 45, 84, 73, 77, 69, 58]⟩ : ByteArray) ++ x.1.date ++ (⟨#[10]⟩ : ByteArray)]) else (if ((x.1.map.map Mp.cells).isSome) = true then (L2 ++ [Mp.textO x.1.map]) else (if (x.1.disc) = true then (L1 ++ [⟨#[35, 69, 88, 84, 45, 88, 45, 68, 73, 83, 67, 79, 78, 84, 73, 78, 85, 73, 84, 89, 10]⟩]) else (if ((x.1.key.map Ky.cells).isSome) = true then (([] : List ByteArray) ++ [Ky.textO x.1.key]) else ([] : List ByteArray))))) ∧ L.length ≤ 4 ∧ Own strL 9 1 w' w.heap.size v L ∧ Sv 68 ((3, v) :: (2, .slice none 0 0) :: (1, pt g1 0) :: []) [⟨g1, x.cells, 50, true⟩] (fun _ => False) w a w') (Z.g 30 rfl) ?_ ?_ ?_
    ·intro hb28 Q' hQ'
     refine wp_region_lit (sv_n 2 Z rfl fun a Z => sv_l (v := .string x.1.date) 0 Z rfl (Z.g 32 rfl) lt_string rfl fun a Z => ?_)
     refine sv_r (v := .string ((⟨#[35, 69, 88, 84, 45, 88, 45, 80, 82, 79, 71, 82, 65, 77, 45, 68, 65, 84, 69, 45, 84, 73, 77, 69, 58]⟩ : ByteArray) ++ x.1.date)) Z (ex_add rfl (Z.g 33 rfl) (by (try simp only [ByteArray.size_append', ByteArray.size_mk', List.size_toArray, List.length_cons, List.length_nil]); omega)) fun a Z => ?_
     refine sv_r (v := .string ((⟨#[35, 69, 88, 84, 45, 88, 45, 80, 82, 79, 71, 82, 65, 77, 45, 68, 65, 84, 69, 45, 84, 73, 77, 69, 58]⟩ : ByteArray) ++ x.1.date ++ (⟨#[10]⟩ : ByteArray))) Z (ex_add (Z.g 34 rfl) rfl (by (try simp only [ByteArray.size_append', ByteArray.size_mk', List.size_toArray, List.length_cons, List.length_nil]); omega)) fun a Z => ?_
     refine sv_new (T := 9) (cs := #[.string ((⟨#[35, 69, 88, 84, 45, 88, 45, 80, 82, 79, 71, 82, 65, 77, 45, 68, 65, 84, 69, 45, 84, 73, 77, 69, 58]⟩ : ByteArray) ++ x.1.date ++ (⟨#[10]⟩ : ByteArray))]) Z rfl rfl (by decide) (fun g => .slice (some ⟨g, 0, none⟩) 1 1) (by simp only [execOp, List.map_toArray, List.map_cons, List.map_nil, Z.g 35 rfl]; go_simp) fun g29 a w30 hg29 hbw30 hwg29 Z => ?_
     replace ho3_ := ho3_.ty (TyOnly.of_below (ts := []) hbw30) (by decide)
     have hxg29 := Z.at 0 rfl
     replace Z := (Z.mz [false, true] rfl).ct [36, 35, 34, 33, 32, 31, 30, 3, 2, 1] rfl
     refine sv_append (f := strL) (L := L3) sli_sl_string (by decide) (fun _ => rfl) [(⟨#[35, 69, 88, 84, 45, 88, 45, 80, 82, 79, 71, 82, 65, 77, 45, 68, 65, 84, 69, 45, 84, 73, 77, 69, 58]⟩ : ByteArray) ++ x.1.date ++ (⟨#[10]⟩ : ByteArray)] Z (Z.g 31 rfl) (Z.g 36 rfl) hxg29 rfl rfl (fun y _ u hu => strL_one y u hu) ho3_ rfl (by decide) (by (try simp only [List.length_append, List.length_cons, List.length_nil]); omega) (by (try simp only [List.length_append, List.length_cons, List.length_nil]); omega) fun a sv31 w33 hty ho32 Z => sv_n 1 Z rfl fun a Z => Z.nx [3, 30, 2, 1] rfl fun Z => ?_
     exact hQ' _ _ ⟨_, (L3 ++ [(⟨#[35, 69, 88, 84, 45, 88, 45, 80, 82, 79, 71, 82, 65, 77, 45, 68, 65, 84, 69, 45, 84, 73, 77, 69, 58]⟩ : ByteArray) ++ x.1.date ++ (⟨#[10]⟩ : ByteArray)]), by rw [if_pos hb28], by (try simp only [List.length_append, List.length_cons, List.length_nil]); omega, ho32, Z.pick rfl⟩
    ·intro hb28 Q' hQ'
     refine wp_skip ?_
     exact hQ' _ _ ⟨_, L3, by rw [if_neg (by rw [hb28]; decide)] ; exact hL3, by (try simp only [List.length_append, List.length_cons, List.length_nil]); omega, ho3_, Z.pick rfl⟩
    ·rintro a w34 ⟨v4, L4, hL4, hlL4, ho4_, Z⟩
     refine sh (wp_seq (wr (sv_n 1 Z rfl fun a Z => sv_l (v := .int .i64 ((x.1.limit : Nat) : Int)) 0 Z rfl (Z.g 38 rfl) lt_int64 rfl fun a Z => ?_)))
     refine sv_r (v := .bool (decide ((0 : Nat) < x.1.limit))) Z (ei_gtr (Z.g 39 rfl) rfl (by rw [decide_eq_decide]; omega)) fun a Z => Z.nx [40, 3, 2, 1] rfl fun Z => sh ?_
     refine if_join (fun a w' => ∃ (v : Value) (L : List ByteArray), L = (if (0 : Nat) < x.1.limit then (L4 ++ [(⟨#[35, 69, 88, 84, 45, 88, 45, 66, 89, 84, 69, 82, 65, 78, 71, 69, 58]⟩ : ByteArray) ++ dec x.1.limit ++ (⟨#[64]⟩ : ByteArray) ++ dec x.1.offset ++ (⟨#[10]⟩ : ByteArray)]) else (if (ne x.1.date) = true then (L3 ++ [(⟨#[35, 69, 88, 84, 45, 88, 45, 80, 82, 79, 71, 82, 65, 77, 45, 68, 65, 84, 69, 45, 84, 73, 77, 69, 58]⟩ : ByteArray) ++ x.1.date ++ (⟨#[10]⟩ : ByteArray)]) else (if ((x.1.map.map Mp.cells).isSome) = true then (L2 ++ [Mp.textO x.1.map]) else (if (x.1.disc) = true then (L1 ++ [⟨#[35, 69, 88, 84, 45, 88, 45, 68, 73, 83, 67, 79, 78, 84, 73, 78, 85, 73, 84, 89, 10]⟩]) else (if ((x.1.key.map Ky.cells).isSome) = true then (([] : List ByteArray) ++ [Ky.textO x.1.key]) else ([] : List ByteArray)))))) ∧ L.length ≤ 5 ∧ Own strL 9 1 w' w.heap.size v L ∧ Sv 68 ((3, v) :: (2, .slice none 0 0) :: (1, pt g1 0) :: []) [⟨g1, x.cells, 50, true⟩] (fun _ => False) w a w') (Z.g 40 rfl) ?_ ?_ ?_
     ·intro hb35 Q' hQ'
      have hb35 := of_decide_eq_true hb35
      refine wp_region_og1 (n := 68) 14 [Asr.eq (v4), Asr.eq (pt g1 3), Asr.eq (.int .i64 ((x.1.limit : Nat) : Int)), Asr.eq (.int .u64 ((x.1.limit : Nat) : Int)), Asr.eq (.string (dec x.1.limit)), Asr.eq (.string ((⟨#[35, 69, 88, 84, 45, 88, 45, 66, 89, 84, 69, 82, 65, 78, 71, 69, 58]⟩ : ByteArray) ++ dec x.1.limit)), Asr.eq (.string ((⟨#[35, 69, 88, 84, 45, 88, 45, 66, 89, 84, 69, 82, 65, 78, 71, 69, 58]⟩ : ByteArray) ++ dec x.1.limit ++ (⟨#[64]⟩ : ByteArray))), Asr.eq (pt g1 4), Asr.eq (.int .i64 ((x.1.offset : Nat) : Int)), Asr.eq (.int .u64 ((x.1.offset : Nat) : Int)), Asr.eq (.string (dec x.1.offset)), Asr.eq (.string ((⟨#[35, 69, 88, 84, 45, 88, 45, 66, 89, 84, 69, 82, 65, 78, 71, 69, 58]⟩ : ByteArray) ++ dec x.1.limit ++ (⟨#[64]⟩ : ByteArray) ++ dec x.1.offset)), Asr.eq (.string ((⟨#[35, 69, 88, 84, 45, 88, 45, 66, 89, 84, 69, 82, 65, 78, 71, 69, 58]⟩ : ByteArray) ++ dec x.1.limit ++ (⟨#[64]⟩ : ByteArray) ++ dec x.1.offset ++ (⟨#[10]⟩ : ByteArray))), Asr.any (fun v w' => ∃ g, v = .slice (some ⟨g, 0, none⟩) 1 1 ∧ w'.heap[g]? = some (.cells #[.string ((⟨#[35, 69, 88, 84, 45, 88, 45, 66, 89, 84, 69, 82, 65, 78, 71, 69, 58]⟩ : ByteArray) ++ dec x.1.limit ++ (⟨#[64]⟩ : ByteArray) ++ dec x.1.offset ++ (⟨#[10]⟩ : ByteArray))] 9 (0, 0)))] (by kernel_rfl) (by kernel_rfl) (by kernel_rfl) (by simp) (by kernel_rfl) Z.ev.size ⟨(fun i _ _ v w w' _ ho hp => by obtain ⟨g, h1, h2⟩ := hp; exact ⟨g, h1, hp_below h2 (only_below0 ho)⟩), ⟨⟩⟩ ?_ ?_
      ·simp only [List.take_succ_cons, List.take_zero]
       refine ⟨?_, ?_, ?_, ?_, ?_, ?_, ?_, ?_, ?_, ?_, ?_, ?_, ?_, ?_, trivial⟩
       ·exact qm (Z.g 3 rfl)
       ·exact fun _ _ c => og_val (ex_fo (c.o (Z.g 1 rfl)) (fo rfl) rfl) rfl
       ·exact ql 1 lt_int64 Z 0
       ·exact fun _ _ c => og_val (ex_cv (c.s 2 rfl) (cv_int64_uint64 _ (by rw [IntKind.wrap_u64]; omega))) rfl
       ·intro a wx c
        have e_44 : a.eval (.tmp 44) = .int .u64 ((x.1.limit : Nat) : Int) := c.s 3 rfl
        have hO := Z.ogc c
        have hbx := drew_below c.only
        clear c
        have hcl : Calls Tryz.prog _ _ wx (fun e w' => e = .returned (.string (dec x.1.limit)) ∧ w' = wx) := (Calls.mono (decimal_any (x.1.limit) _ (by omega)) (by rintro e w' ⟨rfl, rfl⟩; exact ⟨rfl, rfl⟩))
        refine og_call (ex_call1 cf_spec_Decimal e_44) (Calls.mono hcl ?_)
        rintro e w' ⟨rfl, rfl⟩
        exact ⟨_, rfl, Below.refl _ _, rfl⟩
       ·exact fun _ _ c => og_val (ex_add rfl (c.s 4 rfl) (by (try simp only [ByteArray.size_append', ByteArray.size_mk', List.size_toArray, List.length_cons, List.length_nil]); omega)) rfl
       ·exact fun _ _ c => og_val (ex_add (c.s 5 rfl) rfl (by (try simp only [ByteArray.size_append', ByteArray.size_mk', List.size_toArray, List.length_cons, List.length_nil]); omega)) rfl
       ·exact fun _ _ c => og_val (ex_fo (c.o (Z.g 1 rfl)) (fo rfl) rfl) rfl
       ·exact ql 7 lt_int64 Z 0
       ·exact fun _ _ c => og_val (ex_cv (c.s 8 rfl) (cv_int64_uint64 _ (by rw [IntKind.wrap_u64]; omega))) rfl
       ·intro a wx c
        have e_50 : a.eval (.tmp 50) = .int .u64 ((x.1.offset : Nat) : Int) := c.s 9 rfl
        have hO := Z.ogc c
        have hbx := drew_below c.only
        clear c
        have hcl : Calls Tryz.prog _ _ wx (fun e w' => e = .returned (.string (dec x.1.offset)) ∧ w' = wx) := (Calls.mono (decimal_any (x.1.offset) _ (by omega)) (by rintro e w' ⟨rfl, rfl⟩; exact ⟨rfl, rfl⟩))
        refine og_call (ex_call1 cf_spec_Decimal e_50) (Calls.mono hcl ?_)
        rintro e w' ⟨rfl, rfl⟩
        exact ⟨_, rfl, Below.refl _ _, rfl⟩
       ·exact fun _ _ c => og_val (ex_add (c.s 6 rfl) (c.s 10 rfl) (by (try simp only [ByteArray.size_append', ByteArray.size_mk', List.size_toArray, List.length_cons, List.length_nil]); omega)) rfl
       ·exact fun _ _ c => og_val (ex_add (c.s 11 rfl) rfl (by (try simp only [ByteArray.size_append', ByteArray.size_mk', List.size_toArray, List.length_cons, List.length_nil]); omega)) rfl
       ·intro a wx c
        have e_53 : a.eval (.tmp 53) = .string ((⟨#[35, 69, 88, 84, 45, 88, 45, 66, 89, 84, 69, 82, 65, 78, 71, 69, 58]⟩ : ByteArray) ++ dec x.1.limit ++ (⟨#[64]⟩ : ByteArray) ++ dec x.1.offset ++ (⟨#[10]⟩ : ByteArray)) := c.s 12 rfl
        clear c
        exact og_ext (v := .slice (some ⟨wx.heap.size, 0, none⟩) 1 1) (w' := wx.alloc (.cells #[.string ((⟨#[35, 69, 88, 84, 45, 88, 45, 66, 89, 84, 69, 82, 65, 78, 71, 69, 58]⟩ : ByteArray) ++ dec x.1.limit ++ (⟨#[64]⟩ : ByteArray) ++ dec x.1.offset ++ (⟨#[10]⟩ : ByteArray))] 9)) (by simp only [execOp, List.map_toArray, List.map_cons, List.map_nil, e_53]; go_simp) ((Below.refl _ _).alloc (Nat.le_refl _) _) ⟨_, rfl, heap_alloc_new _ _⟩
      ·intro a w37 c hbw37
       replace ho4_ := ho4_.ty (TyOnly.of_below (ts := []) hbw37) (by decide)
       obtain ⟨g36, e_54, hxg36⟩ : ∃ g, (a.eval (.tmp 54)) = .slice (some ⟨g, 0, none⟩) 1 1 ∧ w37.heap[g]? = some (.cells #[.string ((⟨#[35, 69, 88, 84, 45, 88, 45, 66, 89, 84, 69, 82, 65, 78, 71, 69, 58]⟩ : ByteArray) ++ dec x.1.limit ++ (⟨#[64]⟩ : ByteArray) ++ dec x.1.offset ++ (⟨#[10]⟩ : ByteArray))] 9 (0, 0)) := c.s 13 rfl
       replace Z : Sv 68 ((54, .slice (some ⟨g36, 0, none⟩) 1 1) :: (41, v4) :: (1, pt g1 0) :: (2, .slice none 0 0) :: (3, v4) :: (40, .bool (decide ((0 : Nat) < x.1.limit))) :: []) [⟨g1, x.cells, 50, true⟩] (fun _ => False) w a w37 := (((((((Z.ogh c).know (c.o (Z.g 40 rfl))).know (c.o (Z.g 3 rfl))).know (c.o (Z.g 2 rfl))).know (c.o (Z.g 1 rfl))).know (c.s 0 rfl)).know e_54)
       clear c
       simp only [List.drop_succ_cons, List.drop_zero]
       refine sv_append (f := strL) (L := L4) sli_sl_string (by decide) (fun _ => rfl) [(⟨#[35, 69, 88, 84, 45, 88, 45, 66, 89, 84, 69, 82, 65, 78, 71, 69, 58]⟩ : ByteArray) ++ dec x.1.limit ++ (⟨#[64]⟩ : ByteArray) ++ dec x.1.offset ++ (⟨#[10]⟩ : ByteArray)] Z (Z.g 41 rfl) (Z.g 54 rfl) hxg36 rfl rfl (fun y _ u hu => strL_one y u hu) ho4_ rfl (by decide) (by (try simp only [List.length_append, List.length_cons, List.length_nil]); omega) (by (try simp only [List.length_append, List.length_cons, List.length_nil]); omega) fun a sv38 w40 hty ho39 Z => sv_n 1 Z rfl fun a Z => Z.nx [3, 1, 2, 40] rfl fun Z => ?_
       exact hQ' _ _ ⟨_, (L4 ++ [(⟨#[35, 69, 88, 84, 45, 88, 45, 66, 89, 84, 69, 82, 65, 78, 71, 69, 58]⟩ : ByteArray) ++ dec x.1.limit ++ (⟨#[64]⟩ : ByteArray) ++ dec x.1.offset ++ (⟨#[10]⟩ : ByteArray)]), by rw [if_pos hb35], by (try simp only [List.length_append, List.length_cons, List.length_nil]); omega, ho39, Z.pick rfl⟩
     ·intro hb35 Q' hQ'
      have hb35 := of_decide_eq_false hb35
      refine wp_skip ?_
      exact hQ' _ _ ⟨_, L4, by rw [if_neg hb35] ; exact hL4, by (try simp only [List.length_append, List.length_cons, List.length_nil]); omega, ho4_, Z.pick rfl⟩
     ·rintro a w41 ⟨v5, L5, hL5, hlL5, ho5_, Z⟩
      refine sh (wp_seq ?_)
      refine wp_region_og1 (n := 68) 11 [Asr.eq (v5), Asr.eq (pt g1 2), Asr.eq (.int .i64 ((x.1.e : Nat) : Int)), Asr.eq (.string (secs x.1.e)), Asr.eq (.string ((⟨#[35, 69, 88, 84, 73, 78, 70, 58]⟩ : ByteArray) ++ secs x.1.e)), Asr.eq (.string ((⟨#[35, 69, 88, 84, 73, 78, 70, 58]⟩ : ByteArray) ++ secs x.1.e ++ (⟨#[44]⟩ : ByteArray))), Asr.eq (pt g1 0), Asr.eq (.string x.1.title), Asr.eq (.string ((⟨#[35, 69, 88, 84, 73, 78, 70, 58]⟩ : ByteArray) ++ secs x.1.e ++ (⟨#[44]⟩ : ByteArray) ++ x.1.title)), Asr.eq (.string ((⟨#[35, 69, 88, 84, 73, 78, 70, 58]⟩ : ByteArray) ++ secs x.1.e ++ (⟨#[44]⟩ : ByteArray) ++ x.1.title ++ (⟨#[10]⟩ : ByteArray))), Asr.any (fun v w' => ∃ g, v = .slice (some ⟨g, 0, none⟩) 1 1 ∧ w'.heap[g]? = some (.cells #[.string ((⟨#[35, 69, 88, 84, 73, 78, 70, 58]⟩ : ByteArray) ++ secs x.1.e ++ (⟨#[44]⟩ : ByteArray) ++ x.1.title ++ (⟨#[10]⟩ : ByteArray))] 9 (0, 0)))] (by kernel_rfl) (by kernel_rfl) (by kernel_rfl) (by simp) (by kernel_rfl) Z.ev.size ⟨(fun i _ _ v w w' _ ho hp => by obtain ⟨g, h1, h2⟩ := hp; exact ⟨g, h1, hp_below h2 (only_below0 ho)⟩), ⟨⟩⟩ ?_ ?_
      ·simp only [List.take_succ_cons, List.take_zero]
       refine ⟨?_, ?_, ?_, ?_, ?_, ?_, ?_, ?_, ?_, ?_, ?_, trivial⟩
       ·exact qm (Z.g 3 rfl)
       ·exact fun _ _ c => og_val (ex_fo (c.o (Z.g 1 rfl)) (fo rfl) rfl) rfl
       ·exact ql 1 lt_int Z 0
       ·intro a wx c
        have e_58 : a.eval (.tmp 58) = .int .i64 ((x.1.e : Nat) : Int) := c.s 2 rfl
        have hO := Z.ogc c
        have hbx := drew_below c.only
        clear c
        have hcl : Calls Tryz.prog _ _ wx (fun e w' => e = .returned (.string (secs x.1.e)) ∧ w' = wx) := (Calls.mono (seconds_any (x.1.e) _ (by omega)) (by rintro e w' ⟨rfl, rfl⟩; exact ⟨rfl, rfl⟩))
        refine og_call (ex_call1 cf_spec_seconds e_58) (Calls.mono hcl ?_)
        rintro e w' ⟨rfl, rfl⟩
        exact ⟨_, rfl, Below.refl _ _, rfl⟩
       ·exact fun _ _ c => og_val (ex_add rfl (c.s 3 rfl) (by (try simp only [ByteArray.size_append', ByteArray.size_mk', List.size_toArray, List.length_cons, List.length_nil]); omega)) rfl
       ·exact fun _ _ c => og_val (ex_add (c.s 4 rfl) rfl (by (try simp only [ByteArray.size_append', ByteArray.size_mk', List.size_toArray, List.length_cons, List.length_nil]); omega)) rfl
       ·exact fun _ _ c => og_val (ex_fo (c.o (Z.g 1 rfl)) (fo rfl) rfl) rfl
       ·exact ql 6 lt_string Z 0
       ·exact fun _ _ c => og_val (ex_add (c.s 5 rfl) (c.s 7 rfl) (by (try simp only [ByteArray.size_append', ByteArray.size_mk', List.size_toArray, List.length_cons, List.length_nil]); omega)) rfl
       ·exact fun _ _ c => og_val (ex_add (c.s 8 rfl) rfl (by (try simp only [ByteArray.size_append', ByteArray.size_mk', List.size_toArray, List.length_cons, List.length_nil]); omega)) rfl
       ·intro a wx c
        have e_65 : a.eval (.tmp 65) = .string ((⟨#[35, 69, 88, 84, 73, 78, 70, 58]⟩ : ByteArray) ++ secs x.1.e ++ (⟨#[44]⟩ : ByteArray) ++ x.1.title ++ (⟨#[10]⟩ : ByteArray)) := c.s 9 rfl
        clear c
        exact og_ext (v := .slice (some ⟨wx.heap.size, 0, none⟩) 1 1) (w' := wx.alloc (.cells #[.string ((⟨#[35, 69, 88, 84, 73, 78, 70, 58]⟩ : ByteArray) ++ secs x.1.e ++ (⟨#[44]⟩ : ByteArray) ++ x.1.title ++ (⟨#[10]⟩ : ByteArray))] 9)) (by simp only [execOp, List.map_toArray, List.map_cons, List.map_nil, e_65]; go_simp) ((Below.refl _ _).alloc (Nat.le_refl _) _) ⟨_, rfl, heap_alloc_new _ _⟩
      ·intro a w43 c hbw43
       replace ho5_ := ho5_.ty (TyOnly.of_below (ts := []) hbw43) (by decide)
       obtain ⟨g42, e_66, hxg42⟩ : ∃ g, (a.eval (.tmp 66)) = .slice (some ⟨g, 0, none⟩) 1 1 ∧ w43.heap[g]? = some (.cells #[.string ((⟨#[35, 69, 88, 84, 73, 78, 70, 58]⟩ : ByteArray) ++ secs x.1.e ++ (⟨#[44]⟩ : ByteArray) ++ x.1.title ++ (⟨#[10]⟩ : ByteArray))] 9 (0, 0)) := c.s 10 rfl
       replace Z : Sv 68 ((66, .slice (some ⟨g42, 0, none⟩) 1 1) :: (56, v5) :: (1, pt g1 0) :: (2, .slice none 0 0) :: (3, v5) :: []) [⟨g1, x.cells, 50, true⟩] (fun _ => False) w a w43 := ((((((Z.ogh c).know (c.o (Z.g 3 rfl))).know (c.o (Z.g 2 rfl))).know (c.o (Z.g 1 rfl))).know (c.s 0 rfl)).know e_66)
       clear c
       simp only [List.drop_succ_cons, List.drop_zero]
       refine sv_append (f := strL) (L := L5) sli_sl_string (by decide) (fun _ => rfl) [(⟨#[35, 69, 88, 84, 73, 78, 70, 58]⟩ : ByteArray) ++ secs x.1.e ++ (⟨#[44]⟩ : ByteArray) ++ x.1.title ++ (⟨#[10]⟩ : ByteArray)] Z (Z.g 56 rfl) (Z.g 66 rfl) hxg42 rfl rfl (fun y _ u hu => strL_one y u hu) ho5_ rfl (by decide) (by (try simp only [List.length_append, List.length_cons, List.length_nil]); omega) (by (try simp only [List.length_append, List.length_cons, List.length_nil]); omega) fun a sv44 w46 hty ho45 Z => sv_n 1 Z rfl fun a Z => Z.nx [2, 1, 3] rfl fun Z => sh (wp_ret ?_)
       try simp only [Exit.inBlock, Exit.then]
       refine ret_of_ev Z.ev rfl (Z.g 2 rfl) ⟨_, rfl, Z.toBelow, ?_⟩
       have e : x.1.lines = (L5 ++ [(⟨#[35, 69, 88, 84, 73, 78, 70, 58]⟩ : ByteArray) ++ secs x.1.e ++ (⟨#[44]⟩ : ByteArray) ++ x.1.title ++ (⟨#[10]⟩ : ByteArray)]) := by rw [hL5, hL4, hL3, hL2, hL1]; rfl
       rw [e]; exact ho45
def Md.head (m : Md) : List ByteArray :=
 let l := if m.typ = 1 then ([] : List ByteArray) ++ [(⟨#[35, 69, 88, 84, 45, 88, 45, 80, 76, 65, 89, 76, 73, 83, 84, 45, 84, 89, 80, 69, 58, 69, 86, 69, 78, 84, 10]⟩ : ByteArray)] else if m.typ = 2 then ([] : List ByteArray) ++ [(⟨#[35, 69, 88, 84, 45, 88, 45, 80, 76, 65, 89, 76, 73, 83, 84, 45, 84, 89, 80, 69, 58, 86, 79, 68, 10]⟩ : ByteArray)] else ([] : List ByteArray)
 let l := l ++ [((⟨#[35, 69, 88, 84, 45, 88, 45, 77, 69, 68, 73, 65, 45, 83, 69, 81, 85, 69, 78, 67, 69, 58]⟩ : ByteArray) ++ (dec m.seq)) ++ (⟨#[10]⟩ : ByteArray), ((⟨#[35, 69, 88, 84, 45, 88, 45, 84, 65, 82, 71, 69, 84, 68, 85, 82, 65, 84, 73, 79, 78, 58]⟩ : ByteArray) ++ (dec m.target)) ++ (⟨#[10]⟩ : ByteArray)]
 let l := if 0 < m.start then (if m.precise = true then l ++ [(((⟨#[35, 69, 88, 84, 45, 88, 45, 83, 84, 65, 82, 84, 58, 84, 73, 77, 69, 45, 79, 70, 70, 83, 69, 84, 61]⟩ : ByteArray) ++ (shorts m.start)) ++ (⟨#[44, 80, 82, 69, 67, 73, 83, 69, 61, 89, 69, 83]⟩ : ByteArray)) ++ (⟨#[10]⟩ : ByteArray)] else l ++ [((⟨#[35, 69, 88, 84, 45, 88, 45, 83, 84, 65, 82, 84, 58, 84, 73, 77, 69, 45, 79, 70, 70, 83, 69, 84, 61]⟩ : ByteArray) ++ (shorts m.start)) ++ (⟨#[10]⟩ : ByteArray)]) else l
 let l := if 0 < m.disc then l ++ [((⟨#[35, 69, 88, 84, 45, 88, 45, 68, 73, 83, 67, 79, 78, 84, 73, 78, 85, 73, 84, 89, 45, 83, 69, 81, 85, 69, 78, 67, 69, 58]⟩ : ByteArray) ++ (dec m.disc)) ++ (⟨#[10]⟩ : ByteArray)] else l
 if m.iframe = true then l ++ [(⟨#[35, 69, 88, 84, 45, 88, 45, 73, 45, 70, 82, 65, 77, 69, 83, 45, 79, 78, 76, 89, 10]⟩ : ByteArray)] else l
theorem shorts_size {e : Nat} (h : e < 1000000) : (shorts e).size ≤ 24 := by
 have h1 := secs_size h
 have h2 : (shorts e).size = (stripP (stripZ (secs e).data.toList)).length := by show (Array.size _) = _; simp [shorts]
 have h3 : (stripP (stripZ (secs e).data.toList)).length ≤ (secs e).data.toList.length := by
  unfold stripP
  have h4 : (stripZ (secs e).data.toList).length ≤ (secs e).data.toList.length := by
   unfold stripZ
   rw [List.length_reverse]
   exact Nat.le_trans (List.Sublist.length_le (List.dropWhile_sublist _)) (by simp)
  split
  ·rw [List.length_dropLast]; omega
  ·exact h4
 have h5 : (secs e).data.toList.length = (secs e).size := by rw [Array.length_toList]; rfl
 omega
theorem head_any (m : Md) (hm : MdOk m) (sl : Value) (hsl : sl.oneCell' = true) (w : World) : Calls Tryz.prog 13 #[.agg (m.cells sl)] w fun e w' => ∃ v, e = .returned v ∧ Below w.heap.size w w' ∧ Own strL 9 1 w' w.heap.size v m.head := by
 obtain ⟨p1, p2, p3, p4, p5, p6, p7⟩ := hm
 have hd1 := dec_le (n := m.seq) (by omega)
 have hd2 := dec_le (n := m.target) (by omega)
 have hd3 := dec_le (n := m.disc) (by omega)
 have hd4 := shorts_size (e := m.start) (by omega)
 refine calls_of_ev Tryz.func13 rfl (show 1 ≤ 83 from by decide) fun a hE => ?_
 have hE : Ev 83 ((0, .agg (m.cells sl)) :: []) a := hE
 have Z : Sv 83 ((0, .agg (m.cells sl)) :: []) [] (fun _ => False) w a w := Sv.start hE _ _
 clear hE
 refine wr (sv_box Z (Z.g 0 rfl) (bx_spec_Media _) (by decide) fun g1 a w2 hg1 hbw2 hwg1 Z => sv_n 1 Z rfl fun a Z => Z.nx [2, 1] rfl fun Z => sh (wr ?_))
 refine sv_new (T := 9) (cs := #[]) Z rfl rfl (by decide) (fun g => .slice (some ⟨g, 0, none⟩) 0 0) (by simp only [execOp, List.map_toArray, List.map_cons, List.map_nil, ]; go_simp) fun g3 a w4 hg3 hbw4 hwg3 Z => sv_n 1 Z rfl fun a Z => Z.nx [3, 2, 1] rfl fun Z => ?_
 have ho0 : Own strL 9 1 w4 w.heap.size (.slice (some ⟨g3, 0, none⟩) 0 0) ([] : List ByteArray) := Own.fresh (fun _ => rfl) (Z.at 0 rfl) hg3 rfl rfl (by decide)
 replace Z := (Z.mz [false, true] rfl).ct [3, 2, 1] rfl
 refine sh (wp_seq (wr (sv_n 1 Z rfl fun a Z => sv_l (v := .pointer none) 0 Z rfl (Z.g 6 rfl) lt_p_spec_Key rfl fun a Z => sv_r (v := .bool false) Z (ex_pne eqp_p_spec_Key (Z.g 7 rfl)) fun a Z => Z.nx [8, 3, 2, 1] rfl fun Z => sh (cond_f (Z.g 8 rfl) (wp_skip (sh (wp_seq ?_)))))))
 refine wr (sv_n 1 Z rfl fun a Z => sv_l (v := .pointer none) 0 Z rfl (Z.g 15 rfl) lt_p_spec_Map rfl fun a Z => sv_r (v := .bool false) Z (ex_pne eqp_p_spec_Map (Z.g 16 rfl)) fun a Z => Z.nx [17, 8, 3, 2, 1] rfl fun Z => sh (cond_f (Z.g 17 rfl) (wp_skip (sh (wp_seq (wr (sv_n 1 Z rfl fun a Z => ?_)))))))
 refine sv_l (v := .int .i64 ((m.typ : Nat) : Int)) 0 Z rfl (Z.g 24 rfl) lt_int rfl fun a Z => Z.nx [25, 17, 8, 3, 2, 1] rfl fun Z => sh (wp_block (wr ?_))
 refine sv_r (v := .bool (decide ((m.typ : Nat) = 1))) Z (ei_eql (Z.g 25 rfl) rfl (by rw [decide_eq_decide]; omega)) fun a Z => sv_n 1 Z rfl fun a Z => Z.nx [26, 25, 17, 8, 3, 2, 1] rfl fun Z => sh ?_
 refine if_join (fun a w' => ∃ (v : Value) (L : List ByteArray), L = (if (m.typ : Nat) = 1 then (([] : List ByteArray) ++ [⟨#[35, 69, 88, 84, 45, 88, 45, 80, 76, 65, 89, 76, 73, 83, 84, 45, 84, 89, 80, 69, 58, 69, 86, 69, 78, 84, 10]⟩]) else (if (m.typ : Nat) = 2 then (([] : List ByteArray) ++ [⟨#[35, 69, 88, 84, 45, 88, 45, 80, 76, 65, 89, 76, 73, 83, 84, 45, 84, 89, 80, 69, 58, 86, 79, 68, 10]⟩]) else ([] : List ByteArray))) ∧ L.length ≤ 1 ∧ Own strL 9 1 w' w.heap.size v L ∧ Sv 83 ((3, v) :: (25, .int .i64 ((m.typ : Nat) : Int)) :: (17, .bool false) :: (8, .bool false) :: (2, .slice none 0 0) :: (1, pt g1 0) :: []) [⟨g1, (m.cells sl), 29, true⟩] (fun _ => False) w a w') (Z.g 26 rfl) ?_ ?_ ?_
 ·intro hb5 Q' hQ'
  have hb5 := of_decide_eq_true hb5
  refine wp_region_lit (sv_n 1 Z rfl fun a Z => ?_)
  refine sv_new (T := 9) (cs := #[.string (⟨#[35, 69, 88, 84, 45, 88, 45, 80, 76, 65, 89, 76, 73, 83, 84, 45, 84, 89, 80, 69, 58, 69, 86, 69, 78, 84, 10]⟩)]) Z rfl rfl (by decide) (fun g => .slice (some ⟨g, 0, none⟩) 1 1) (by simp only [execOp, List.map_toArray, List.map_cons, List.map_nil, ]; go_simp) fun g6 a w7 hg6 hbw7 hwg6 Z => ?_
  replace ho0 := ho0.ty (TyOnly.of_below (ts := []) hbw7) (by decide)
  have hxg6 := Z.at 0 rfl
  replace Z := (Z.mz [false, true] rfl).ct [29, 28, 26, 25, 17, 8, 3, 2, 1] rfl
  refine sv_append (f := strL) (L := ([] : List ByteArray)) sli_sl_string (by decide) (fun _ => rfl) [⟨#[35, 69, 88, 84, 45, 88, 45, 80, 76, 65, 89, 76, 73, 83, 84, 45, 84, 89, 80, 69, 58, 69, 86, 69, 78, 84, 10]⟩] Z (Z.g 28 rfl) (Z.g 29 rfl) hxg6 rfl rfl (fun y _ u hu => strL_one y u hu) ho0 rfl (by decide) (by (try simp only [List.length_append, List.length_cons, List.length_nil]); omega) (by (try simp only [List.length_append, List.length_cons, List.length_nil]); omega) fun a sv8 w10 hty ho9 Z => sv_n 1 Z rfl fun a Z => Z.nx [3, 26, 25, 17, 8, 2, 1] rfl fun Z => ?_
  exact hQ' _ _ ⟨_, (([] : List ByteArray) ++ [⟨#[35, 69, 88, 84, 45, 88, 45, 80, 76, 65, 89, 76, 73, 83, 84, 45, 84, 89, 80, 69, 58, 69, 86, 69, 78, 84, 10]⟩]), by rw [if_pos hb5], by (try simp only [List.length_append, List.length_cons, List.length_nil]); omega, ho9, Z.pick rfl⟩
 ·intro hb5 Q' hQ'
  have hb5 := of_decide_eq_false hb5
  refine wr ?_
  refine sv_r (v := .bool (decide ((m.typ : Nat) = 2))) Z (ei_eql (Z.g 25 rfl) rfl (by rw [decide_eq_decide]; omega)) fun a Z => sv_n 1 Z rfl fun a Z => Z.nx [31, 26, 25, 17, 8, 3, 2, 1] rfl fun Z => sh ?_
  refine if_join (fun a w' => ∃ (v : Value) (L : List ByteArray), L = (if (m.typ : Nat) = 2 then (([] : List ByteArray) ++ [⟨#[35, 69, 88, 84, 45, 88, 45, 80, 76, 65, 89, 76, 73, 83, 84, 45, 84, 89, 80, 69, 58, 86, 79, 68, 10]⟩]) else ([] : List ByteArray)) ∧ L.length ≤ 1 ∧ Own strL 9 1 w' w.heap.size v L ∧ Sv 83 ((3, v) :: (26, .bool (decide ((m.typ : Nat) = 1))) :: (25, .int .i64 ((m.typ : Nat) : Int)) :: (17, .bool false) :: (8, .bool false) :: (2, .slice none 0 0) :: (1, pt g1 0) :: []) [⟨g1, (m.cells sl), 29, true⟩] (fun _ => False) w a w') (Z.g 31 rfl) ?_ ?_ ?_
  ·intro hb11 Q' hQ'
   have hb11 := of_decide_eq_true hb11
   refine wp_region_lit (sv_n 1 Z rfl fun a Z => ?_)
   refine sv_new (T := 9) (cs := #[.string (⟨#[35, 69, 88, 84, 45, 88, 45, 80, 76, 65, 89, 76, 73, 83, 84, 45, 84, 89, 80, 69, 58, 86, 79, 68, 10]⟩)]) Z rfl rfl (by decide) (fun g => .slice (some ⟨g, 0, none⟩) 1 1) (by simp only [execOp, List.map_toArray, List.map_cons, List.map_nil, ]; go_simp) fun g12 a w13 hg12 hbw13 hwg12 Z => ?_
   replace ho0 := ho0.ty (TyOnly.of_below (ts := []) hbw13) (by decide)
   have hxg12 := Z.at 0 rfl
   replace Z := (Z.mz [false, true] rfl).ct [34, 33, 31, 26, 25, 17, 8, 3, 2, 1] rfl
   refine sv_append (f := strL) (L := ([] : List ByteArray)) sli_sl_string (by decide) (fun _ => rfl) [⟨#[35, 69, 88, 84, 45, 88, 45, 80, 76, 65, 89, 76, 73, 83, 84, 45, 84, 89, 80, 69, 58, 86, 79, 68, 10]⟩] Z (Z.g 33 rfl) (Z.g 34 rfl) hxg12 rfl rfl (fun y _ u hu => strL_one y u hu) ho0 rfl (by decide) (by (try simp only [List.length_append, List.length_cons, List.length_nil]); omega) (by (try simp only [List.length_append, List.length_cons, List.length_nil]); omega) fun a sv14 w16 hty ho15 Z => sv_n 1 Z rfl fun a Z => Z.nx [3, 31, 26, 25, 17, 8, 2, 1] rfl fun Z => ?_
   exact hQ' _ _ ⟨_, (([] : List ByteArray) ++ [⟨#[35, 69, 88, 84, 45, 88, 45, 80, 76, 65, 89, 76, 73, 83, 84, 45, 84, 89, 80, 69, 58, 86, 79, 68, 10]⟩]), by rw [if_pos hb11], by (try simp only [List.length_append, List.length_cons, List.length_nil]); omega, ho15, Z.pick rfl⟩
  ·intro hb11 Q' hQ'
   have hb11 := of_decide_eq_false hb11
   refine wp_skip ?_
   exact hQ' _ _ ⟨_, ([] : List ByteArray), by rw [if_neg hb11], by (try simp only [List.length_append, List.length_cons, List.length_nil]); omega, ho0, Z.pick rfl⟩
  ·rintro a w17 ⟨u2, K2, hK2, hlK2, hp2_, Z⟩
   exact hQ' _ _ ⟨_, K2, by rw [if_neg hb5] ; exact hK2, by (try simp only [List.length_append, List.length_cons, List.length_nil]); omega, hp2_, Z.pick rfl⟩
 ·rintro a w18 ⟨v1, L1, hL1, hlL1, ho1_, Z⟩
  refine sh (wp_seq ?_)
  refine wp_region_og1 (n := 83) 13 [Asr.eq (v1), Asr.eq (pt g1 2), Asr.eq (.int .u64 ((m.seq : Nat) : Int)), Asr.eq (.string (dec m.seq)), Asr.eq (.string ((⟨#[35, 69, 88, 84, 45, 88, 45, 77, 69, 68, 73, 65, 45, 83, 69, 81, 85, 69, 78, 67, 69, 58]⟩ : ByteArray) ++ dec m.seq)), Asr.eq (.string ((⟨#[35, 69, 88, 84, 45, 88, 45, 77, 69, 68, 73, 65, 45, 83, 69, 81, 85, 69, 78, 67, 69, 58]⟩ : ByteArray) ++ dec m.seq ++ (⟨#[10]⟩ : ByteArray))), Asr.eq (pt g1 1), Asr.eq (.int .i64 ((m.target : Nat) : Int)), Asr.eq (.int .u64 ((m.target : Nat) : Int)), Asr.eq (.string (dec m.target)), Asr.eq (.string ((⟨#[35, 69, 88, 84, 45, 88, 45, 84, 65, 82, 71, 69, 84, 68, 85, 82, 65, 84, 73, 79, 78, 58]⟩ : ByteArray) ++ dec m.target)), Asr.eq (.string ((⟨#[35, 69, 88, 84, 45, 88, 45, 84, 65, 82, 71, 69, 84, 68, 85, 82, 65, 84, 73, 79, 78, 58]⟩ : ByteArray) ++ dec m.target ++ (⟨#[10]⟩ : ByteArray))), Asr.any (fun v w' => ∃ g, v = .slice (some ⟨g, 0, none⟩) 2 2 ∧ w'.heap[g]? = some (.cells #[.string ((⟨#[35, 69, 88, 84, 45, 88, 45, 77, 69, 68, 73, 65, 45, 83, 69, 81, 85, 69, 78, 67, 69, 58]⟩ : ByteArray) ++ dec m.seq ++ (⟨#[10]⟩ : ByteArray)), .string ((⟨#[35, 69, 88, 84, 45, 88, 45, 84, 65, 82, 71, 69, 84, 68, 85, 82, 65, 84, 73, 79, 78, 58]⟩ : ByteArray) ++ dec m.target ++ (⟨#[10]⟩ : ByteArray))] 9 (0, 0)))] (by kernel_rfl) (by kernel_rfl) (by kernel_rfl) (by simp) (by kernel_rfl) Z.ev.size ⟨(fun i _ _ v w w' _ ho hp => by obtain ⟨g, h1, h2⟩ := hp; exact ⟨g, h1, hp_below h2 (only_below0 ho)⟩), ⟨⟩⟩ ?_ ?_
  ·simp only [List.take_succ_cons, List.take_zero]
   refine ⟨?_, ?_, ?_, ?_, ?_, ?_, ?_, ?_, ?_, ?_, ?_, ?_, ?_, trivial⟩
   ·exact qm (Z.g 3 rfl)
   ·exact fun _ _ c => og_val (ex_fo (c.o (Z.g 1 rfl)) (fo rfl) rfl) rfl
   ·exact ql 1 lt_uint64 Z 0
   ·intro a wx c
    have e_38 : a.eval (.tmp 38) = .int .u64 ((m.seq : Nat) : Int) := c.s 2 rfl
    have hO := Z.ogc c
    have hbx := drew_below c.only
    clear c
    have hcl : Calls Tryz.prog _ _ wx (fun e w' => e = .returned (.string (dec m.seq)) ∧ w' = wx) := (Calls.mono (decimal_any (m.seq) _ (by omega)) (by rintro e w' ⟨rfl, rfl⟩; exact ⟨rfl, rfl⟩))
    refine og_call (ex_call1 cf_spec_Decimal e_38) (Calls.mono hcl ?_)
    rintro e w' ⟨rfl, rfl⟩
    exact ⟨_, rfl, Below.refl _ _, rfl⟩
   ·exact fun _ _ c => og_val (ex_add rfl (c.s 3 rfl) (by (try simp only [ByteArray.size_append', ByteArray.size_mk', List.size_toArray, List.length_cons, List.length_nil]); omega)) rfl
   ·exact fun _ _ c => og_val (ex_add (c.s 4 rfl) rfl (by (try simp only [ByteArray.size_append', ByteArray.size_mk', List.size_toArray, List.length_cons, List.length_nil]); omega)) rfl
   ·exact fun _ _ c => og_val (ex_fo (c.o (Z.g 1 rfl)) (fo rfl) rfl) rfl
   ·exact ql 6 lt_int Z 0
   ·exact fun _ _ c => og_val (ex_cv (c.s 7 rfl) (cv_int_uint64 _ (by rw [IntKind.wrap_u64]; omega))) rfl
   ·intro a wx c
    have e_44 : a.eval (.tmp 44) = .int .u64 ((m.target : Nat) : Int) := c.s 8 rfl
    have hO := Z.ogc c
    have hbx := drew_below c.only
    clear c
    have hcl : Calls Tryz.prog _ _ wx (fun e w' => e = .returned (.string (dec m.target)) ∧ w' = wx) := (Calls.mono (decimal_any (m.target) _ (by omega)) (by rintro e w' ⟨rfl, rfl⟩; exact ⟨rfl, rfl⟩))
    refine og_call (ex_call1 cf_spec_Decimal e_44) (Calls.mono hcl ?_)
    rintro e w' ⟨rfl, rfl⟩
    exact ⟨_, rfl, Below.refl _ _, rfl⟩
   ·exact fun _ _ c => og_val (ex_add rfl (c.s 9 rfl) (by (try simp only [ByteArray.size_append', ByteArray.size_mk', List.size_toArray, List.length_cons, List.length_nil]); omega)) rfl
   ·exact fun _ _ c => og_val (ex_add (c.s 10 rfl) rfl (by (try simp only [ByteArray.size_append', ByteArray.size_mk', List.size_toArray, List.length_cons, List.length_nil]); omega)) rfl
   ·intro a wx c
    have e_41 : a.eval (.tmp 41) = .string ((⟨#[35, 69, 88, 84, 45, 88, 45, 77, 69, 68, 73, 65, 45, 83, 69, 81, 85, 69, 78, 67, 69, 58]⟩ : ByteArray) ++ dec m.seq ++ (⟨#[10]⟩ : ByteArray)) := c.s 5 rfl
    have e_47 : a.eval (.tmp 47) = .string ((⟨#[35, 69, 88, 84, 45, 88, 45, 84, 65, 82, 71, 69, 84, 68, 85, 82, 65, 84, 73, 79, 78, 58]⟩ : ByteArray) ++ dec m.target ++ (⟨#[10]⟩ : ByteArray)) := c.s 11 rfl
    clear c
    exact og_ext (v := .slice (some ⟨wx.heap.size, 0, none⟩) 2 2) (w' := wx.alloc (.cells #[.string ((⟨#[35, 69, 88, 84, 45, 88, 45, 77, 69, 68, 73, 65, 45, 83, 69, 81, 85, 69, 78, 67, 69, 58]⟩ : ByteArray) ++ dec m.seq ++ (⟨#[10]⟩ : ByteArray)), .string ((⟨#[35, 69, 88, 84, 45, 88, 45, 84, 65, 82, 71, 69, 84, 68, 85, 82, 65, 84, 73, 79, 78, 58]⟩ : ByteArray) ++ dec m.target ++ (⟨#[10]⟩ : ByteArray))] 9)) (by simp only [execOp, List.map_toArray, List.map_cons, List.map_nil, e_41, e_47]; go_simp) ((Below.refl _ _).alloc (Nat.le_refl _) _) ⟨_, rfl, heap_alloc_new _ _⟩
  ·intro a w20 c hbw20
   replace ho1_ := ho1_.ty (TyOnly.of_below (ts := []) hbw20) (by decide)
   obtain ⟨g19, e_48, hxg19⟩ : ∃ g, (a.eval (.tmp 48)) = .slice (some ⟨g, 0, none⟩) 2 2 ∧ w20.heap[g]? = some (.cells #[.string ((⟨#[35, 69, 88, 84, 45, 88, 45, 77, 69, 68, 73, 65, 45, 83, 69, 81, 85, 69, 78, 67, 69, 58]⟩ : ByteArray) ++ dec m.seq ++ (⟨#[10]⟩ : ByteArray)), .string ((⟨#[35, 69, 88, 84, 45, 88, 45, 84, 65, 82, 71, 69, 84, 68, 85, 82, 65, 84, 73, 79, 78, 58]⟩ : ByteArray) ++ dec m.target ++ (⟨#[10]⟩ : ByteArray))] 9 (0, 0)) := c.s 12 rfl
   replace Z : Sv 83 ((48, .slice (some ⟨g19, 0, none⟩) 2 2) :: (36, v1) :: (1, pt g1 0) :: (2, .slice none 0 0) :: (8, .bool false) :: (17, .bool false) :: (25, .int .i64 ((m.typ : Nat) : Int)) :: (3, v1) :: []) [⟨g1, (m.cells sl), 29, true⟩] (fun _ => False) w a w20 := (((((((((Z.ogh c).know (c.o (Z.g 3 rfl))).know (c.o (Z.g 25 rfl))).know (c.o (Z.g 17 rfl))).know (c.o (Z.g 8 rfl))).know (c.o (Z.g 2 rfl))).know (c.o (Z.g 1 rfl))).know (c.s 0 rfl)).know e_48)
   clear c
   simp only [List.drop_succ_cons, List.drop_zero]
   refine sv_append (f := strL) (L := L1) sli_sl_string (by decide) (fun _ => rfl) [(⟨#[35, 69, 88, 84, 45, 88, 45, 77, 69, 68, 73, 65, 45, 83, 69, 81, 85, 69, 78, 67, 69, 58]⟩ : ByteArray) ++ dec m.seq ++ (⟨#[10]⟩ : ByteArray), (⟨#[35, 69, 88, 84, 45, 88, 45, 84, 65, 82, 71, 69, 84, 68, 85, 82, 65, 84, 73, 79, 78, 58]⟩ : ByteArray) ++ dec m.target ++ (⟨#[10]⟩ : ByteArray)] Z (Z.g 36 rfl) (Z.g 48 rfl) hxg19 rfl rfl (fun y _ u hu => strL_one y u hu) ho1_ rfl (by decide) (by (try simp only [List.length_append, List.length_cons, List.length_nil]); omega) (by (try simp only [List.length_append, List.length_cons, List.length_nil]); omega) fun a sv21 w23 hty ho22 Z => sv_n 1 Z rfl fun a Z => Z.nx [3, 1, 2, 8, 17, 25] rfl fun Z => sh (wp_seq (wr (sv_n 1 Z rfl fun a Z => sv_l (v := .int .i64 ((m.start : Nat) : Int)) 0 Z rfl (Z.g 50 rfl) lt_int rfl fun a Z => ?_)))
   refine sv_r (v := .bool (decide ((0 : Nat) < m.start))) Z (ei_gtr (Z.g 51 rfl) rfl (by rw [decide_eq_decide]; omega)) fun a Z => Z.nx [52, 3, 1, 2, 8, 17, 25] rfl fun Z => sh ?_
   refine if_join (fun a w' => ∃ (v : Value) (L : List ByteArray), L = (if (0 : Nat) < m.start then (if (m.precise) = true then ((L1 ++ [(⟨#[35, 69, 88, 84, 45, 88, 45, 77, 69, 68, 73, 65, 45, 83, 69, 81, 85, 69, 78, 67, 69, 58]⟩ : ByteArray) ++ dec m.seq ++ (⟨#[10]⟩ : ByteArray), (⟨#[35, 69, 88, 84, 45, 88, 45, 84, 65, 82, 71, 69, 84, 68, 85, 82, 65, 84, 73, 79, 78, 58]⟩ : ByteArray) ++ dec m.target ++ (⟨#[10]⟩ : ByteArray)]) ++ [(⟨#[35, 69, 88, 84, 45, 88, 45, 83, 84, 65, 82, 84, 58, 84, 73, 77, 69, 45, 79, 70, 70, 83, 69, 84, 61]⟩ : ByteArray) ++ shorts m.start ++ (⟨#[44, 80, 82, 69, 67, 73, 83, 69, 61, 89, 69, 83]⟩ : ByteArray) ++ (⟨#[10]⟩ : ByteArray)]) else ((L1 ++ [(⟨#[35, 69, 88, 84, 45, 88, 45, 77, 69, 68, 73, 65, 45, 83, 69, 81, 85, 69, 78, 67, 69, 58]⟩ : ByteArray) ++ dec m.seq ++ (⟨#[10]⟩ : ByteArray), (⟨#[35, 69, 88, 84, 45, 88, 45, 84, 65, 82, 71, 69, 84, 68, 85, 82, 65, 84, 73, 79, 78, 58]⟩ : ByteArray) ++ dec m.target ++ (⟨#[10]⟩ : ByteArray)]) ++ [(⟨#[35, 69, 88, 84, 45, 88, 45, 83, 84, 65, 82, 84, 58, 84, 73, 77, 69, 45, 79, 70, 70, 83, 69, 84, 61]⟩ : ByteArray) ++ shorts m.start ++ (⟨#[10]⟩ : ByteArray)])) else (L1 ++ [(⟨#[35, 69, 88, 84, 45, 88, 45, 77, 69, 68, 73, 65, 45, 83, 69, 81, 85, 69, 78, 67, 69, 58]⟩ : ByteArray) ++ dec m.seq ++ (⟨#[10]⟩ : ByteArray), (⟨#[35, 69, 88, 84, 45, 88, 45, 84, 65, 82, 71, 69, 84, 68, 85, 82, 65, 84, 73, 79, 78, 58]⟩ : ByteArray) ++ dec m.target ++ (⟨#[10]⟩ : ByteArray)])) ∧ L.length ≤ 4 ∧ Own strL 9 1 w' w.heap.size v L ∧ Sv 83 ((3, v) :: (1, pt g1 0) :: (2, .slice none 0 0) :: (8, .bool false) :: (17, .bool false) :: (25, .int .i64 ((m.typ : Nat) : Int)) :: []) [⟨g1, (m.cells sl), 29, true⟩] (fun _ => False) w a w') (Z.g 52 rfl) ?_ ?_ ?_
   ·intro hb24 Q' hQ'
    have hb24 := of_decide_eq_true hb24
    refine wr (sv_n 1 Z rfl fun a Z => sv_l (v := .int .i64 ((m.start : Nat) : Int)) 0 Z rfl (Z.g 53 rfl) lt_int rfl fun a Z => ?_)
    refine sv_callv (v := .string (shorts m.start)) Z rfl rfl (by decide) (ex_call1 cf_spec_short (Z.g 54 rfl)) (short_any m.start (by omega) _) fun a w25 hbw25 Z => ?_
    replace ho22 := ho22.ty (TyOnly.of_below (ts := []) hbw25) (by decide)
    refine sv_r (v := .string ((⟨#[35, 69, 88, 84, 45, 88, 45, 83, 84, 65, 82, 84, 58, 84, 73, 77, 69, 45, 79, 70, 70, 83, 69, 84, 61]⟩ : ByteArray) ++ shorts m.start)) Z (ex_add rfl (Z.g 55 rfl) (by (try simp only [ByteArray.size_append', ByteArray.size_mk', List.size_toArray, List.length_cons, List.length_nil]); omega)) fun a Z => sv_n 1 Z rfl fun a Z => Z.nx [4, 52, 3, 1, 2, 8, 17, 25] rfl fun Z => sh (wp_seq (wr (sv_n 1 Z rfl fun a Z => sv_l (v := .bool (m.precise)) 0 Z rfl (Z.g 57 rfl) lt_bool rfl fun a Z => Z.nx [58, 4, 52, 3, 1, 2, 8, 17, 25] rfl fun Z => sh ?_)))
    refine wp_cond_split (Z.g 58 rfl) (fun hb26 => ?_) (fun hb26 => ?_)
    ·refine wp_region_lit (sv_n 1 Z rfl fun a Z => ?_)
     refine sv_r (v := .string ((⟨#[35, 69, 88, 84, 45, 88, 45, 83, 84, 65, 82, 84, 58, 84, 73, 77, 69, 45, 79, 70, 70, 83, 69, 84, 61]⟩ : ByteArray) ++ shorts m.start ++ (⟨#[44, 80, 82, 69, 67, 73, 83, 69, 61, 89, 69, 83]⟩ : ByteArray))) Z (ex_add (Z.g 59 rfl) rfl (by (try simp only [ByteArray.size_append', ByteArray.size_mk', List.size_toArray, List.length_cons, List.length_nil]); omega)) fun a Z => sv_n 1 Z rfl fun a Z => Z.nx [4, 58, 52, 3, 1, 2, 8, 17, 25] rfl fun Z => sh (wp_region_lit (sv_n 2 Z rfl fun a Z => ?_))
     refine sv_r (v := .string ((⟨#[35, 69, 88, 84, 45, 88, 45, 83, 84, 65, 82, 84, 58, 84, 73, 77, 69, 45, 79, 70, 70, 83, 69, 84, 61]⟩ : ByteArray) ++ shorts m.start ++ (⟨#[44, 80, 82, 69, 67, 73, 83, 69, 61, 89, 69, 83]⟩ : ByteArray) ++ (⟨#[10]⟩ : ByteArray))) Z (ex_add (Z.g 62 rfl) rfl (by (try simp only [ByteArray.size_append', ByteArray.size_mk', List.size_toArray, List.length_cons, List.length_nil]); omega)) fun a Z => ?_
     refine sv_new (T := 9) (cs := #[.string ((⟨#[35, 69, 88, 84, 45, 88, 45, 83, 84, 65, 82, 84, 58, 84, 73, 77, 69, 45, 79, 70, 70, 83, 69, 84, 61]⟩ : ByteArray) ++ shorts m.start ++ (⟨#[44, 80, 82, 69, 67, 73, 83, 69, 61, 89, 69, 83]⟩ : ByteArray) ++ (⟨#[10]⟩ : ByteArray))]) Z rfl rfl (by decide) (fun g => .slice (some ⟨g, 0, none⟩) 1 1) (by simp only [execOp, List.map_toArray, List.map_cons, List.map_nil, Z.g 63 rfl]; go_simp) fun g27 a w28 hg27 hbw28 hwg27 Z => ?_
     replace ho22 := ho22.ty (TyOnly.of_below (ts := []) hbw28) (by decide)
     have hxg27 := Z.at 0 rfl
     replace Z := (Z.mz [false, true] rfl).ct [64, 63, 62, 61, 4, 58, 52, 3, 1, 2, 8, 17, 25] rfl
     refine sv_append (f := strL) (L := (L1 ++ [(⟨#[35, 69, 88, 84, 45, 88, 45, 77, 69, 68, 73, 65, 45, 83, 69, 81, 85, 69, 78, 67, 69, 58]⟩ : ByteArray) ++ dec m.seq ++ (⟨#[10]⟩ : ByteArray), (⟨#[35, 69, 88, 84, 45, 88, 45, 84, 65, 82, 71, 69, 84, 68, 85, 82, 65, 84, 73, 79, 78, 58]⟩ : ByteArray) ++ dec m.target ++ (⟨#[10]⟩ : ByteArray)])) sli_sl_string (by decide) (fun _ => rfl) [(⟨#[35, 69, 88, 84, 45, 88, 45, 83, 84, 65, 82, 84, 58, 84, 73, 77, 69, 45, 79, 70, 70, 83, 69, 84, 61]⟩ : ByteArray) ++ shorts m.start ++ (⟨#[44, 80, 82, 69, 67, 73, 83, 69, 61, 89, 69, 83]⟩ : ByteArray) ++ (⟨#[10]⟩ : ByteArray)] Z (Z.g 61 rfl) (Z.g 64 rfl) hxg27 rfl rfl (fun y _ u hu => strL_one y u hu) ho22 rfl (by decide) (by (try simp only [List.length_append, List.length_cons, List.length_nil]); omega) (by (try simp only [List.length_append, List.length_cons, List.length_nil]); omega) fun a sv29 w31 hty ho30 Z => sv_n 1 Z rfl fun a Z => Z.nx [3, 4, 58, 52, 1, 2, 8, 17, 25] rfl fun Z => ?_
     exact hQ' _ _ ⟨_, ((L1 ++ [(⟨#[35, 69, 88, 84, 45, 88, 45, 77, 69, 68, 73, 65, 45, 83, 69, 81, 85, 69, 78, 67, 69, 58]⟩ : ByteArray) ++ dec m.seq ++ (⟨#[10]⟩ : ByteArray), (⟨#[35, 69, 88, 84, 45, 88, 45, 84, 65, 82, 71, 69, 84, 68, 85, 82, 65, 84, 73, 79, 78, 58]⟩ : ByteArray) ++ dec m.target ++ (⟨#[10]⟩ : ByteArray)]) ++ [(⟨#[35, 69, 88, 84, 45, 88, 45, 83, 84, 65, 82, 84, 58, 84, 73, 77, 69, 45, 79, 70, 70, 83, 69, 84, 61]⟩ : ByteArray) ++ shorts m.start ++ (⟨#[44, 80, 82, 69, 67, 73, 83, 69, 61, 89, 69, 83]⟩ : ByteArray) ++ (⟨#[10]⟩ : ByteArray)]), by rw [if_pos hb24, if_pos hb26], by (try simp only [List.length_append, List.length_cons, List.length_nil]); omega, ho30, Z.pick rfl⟩
    ·refine wp_skip (sh (wp_region_lit (sv_n 2 Z rfl fun a Z => ?_)))
     refine sv_r (v := .string ((⟨#[35, 69, 88, 84, 45, 88, 45, 83, 84, 65, 82, 84, 58, 84, 73, 77, 69, 45, 79, 70, 70, 83, 69, 84, 61]⟩ : ByteArray) ++ shorts m.start ++ (⟨#[10]⟩ : ByteArray))) Z (ex_add (Z.g 62 rfl) rfl (by (try simp only [ByteArray.size_append', ByteArray.size_mk', List.size_toArray, List.length_cons, List.length_nil]); omega)) fun a Z => ?_
     refine sv_new (T := 9) (cs := #[.string ((⟨#[35, 69, 88, 84, 45, 88, 45, 83, 84, 65, 82, 84, 58, 84, 73, 77, 69, 45, 79, 70, 70, 83, 69, 84, 61]⟩ : ByteArray) ++ shorts m.start ++ (⟨#[10]⟩ : ByteArray))]) Z rfl rfl (by decide) (fun g => .slice (some ⟨g, 0, none⟩) 1 1) (by simp only [execOp, List.map_toArray, List.map_cons, List.map_nil, Z.g 63 rfl]; go_simp) fun g32 a w33 hg32 hbw33 hwg32 Z => ?_
     replace ho22 := ho22.ty (TyOnly.of_below (ts := []) hbw33) (by decide)
     have hxg32 := Z.at 0 rfl
     replace Z := (Z.mz [false, true] rfl).ct [64, 63, 62, 61, 58, 4, 52, 3, 1, 2, 8, 17, 25] rfl
     refine sv_append (f := strL) (L := (L1 ++ [(⟨#[35, 69, 88, 84, 45, 88, 45, 77, 69, 68, 73, 65, 45, 83, 69, 81, 85, 69, 78, 67, 69, 58]⟩ : ByteArray) ++ dec m.seq ++ (⟨#[10]⟩ : ByteArray), (⟨#[35, 69, 88, 84, 45, 88, 45, 84, 65, 82, 71, 69, 84, 68, 85, 82, 65, 84, 73, 79, 78, 58]⟩ : ByteArray) ++ dec m.target ++ (⟨#[10]⟩ : ByteArray)])) sli_sl_string (by decide) (fun _ => rfl) [(⟨#[35, 69, 88, 84, 45, 88, 45, 83, 84, 65, 82, 84, 58, 84, 73, 77, 69, 45, 79, 70, 70, 83, 69, 84, 61]⟩ : ByteArray) ++ shorts m.start ++ (⟨#[10]⟩ : ByteArray)] Z (Z.g 61 rfl) (Z.g 64 rfl) hxg32 rfl rfl (fun y _ u hu => strL_one y u hu) ho22 rfl (by decide) (by (try simp only [List.length_append, List.length_cons, List.length_nil]); omega) (by (try simp only [List.length_append, List.length_cons, List.length_nil]); omega) fun a sv34 w36 hty ho35 Z => sv_n 1 Z rfl fun a Z => Z.nx [3, 58, 4, 52, 1, 2, 8, 17, 25] rfl fun Z => ?_
     exact hQ' _ _ ⟨_, ((L1 ++ [(⟨#[35, 69, 88, 84, 45, 88, 45, 77, 69, 68, 73, 65, 45, 83, 69, 81, 85, 69, 78, 67, 69, 58]⟩ : ByteArray) ++ dec m.seq ++ (⟨#[10]⟩ : ByteArray), (⟨#[35, 69, 88, 84, 45, 88, 45, 84, 65, 82, 71, 69, 84, 68, 85, 82, 65, 84, 73, 79, 78, 58]⟩ : ByteArray) ++ dec m.target ++ (⟨#[10]⟩ : ByteArray)]) ++ [(⟨#[35, 69, 88, 84, 45, 88, 45, 83, 84, 65, 82, 84, 58, 84, 73, 77, 69, 45, 79, 70, 70, 83, 69, 84, 61]⟩ : ByteArray) ++ shorts m.start ++ (⟨#[10]⟩ : ByteArray)]), by rw [if_pos hb24, if_neg (by rw [hb26]; decide)], by (try simp only [List.length_append, List.length_cons, List.length_nil]); omega, ho35, Z.pick rfl⟩
   ·intro hb24 Q' hQ'
    have hb24 := of_decide_eq_false hb24
    refine wp_skip ?_
    exact hQ' _ _ ⟨_, (L1 ++ [(⟨#[35, 69, 88, 84, 45, 88, 45, 77, 69, 68, 73, 65, 45, 83, 69, 81, 85, 69, 78, 67, 69, 58]⟩ : ByteArray) ++ dec m.seq ++ (⟨#[10]⟩ : ByteArray), (⟨#[35, 69, 88, 84, 45, 88, 45, 84, 65, 82, 71, 69, 84, 68, 85, 82, 65, 84, 73, 79, 78, 58]⟩ : ByteArray) ++ dec m.target ++ (⟨#[10]⟩ : ByteArray)]), by rw [if_neg hb24], by (try simp only [List.length_append, List.length_cons, List.length_nil]); omega, ho22, Z.pick rfl⟩
   ·rintro a w37 ⟨v2, L2, hL2, hlL2, ho2_, Z⟩
    refine sh (wp_seq (wr (sv_n 1 Z rfl fun a Z => sv_l (v := .int .u64 ((m.disc : Nat) : Int)) 0 Z rfl (Z.g 66 rfl) lt_uint64 rfl fun a Z => ?_)))
    refine sv_r (v := .bool (decide ((0 : Nat) < m.disc))) Z (ei_gtr (Z.g 67 rfl) rfl (by rw [decide_eq_decide]; omega)) fun a Z => Z.nx [68, 3, 1, 2, 8, 17, 25] rfl fun Z => sh ?_
    refine if_join (fun a w' => ∃ (v : Value) (L : List ByteArray), L = (if (0 : Nat) < m.disc then (L2 ++ [(⟨#[35, 69, 88, 84, 45, 88, 45, 68, 73, 83, 67, 79, 78, 84, 73, 78, 85, 73, 84, 89, 45, 83, 69, 81, 85, 69, 78, 67, 69, 58]⟩ : ByteArray) ++ dec m.disc ++ (⟨#[10]⟩ : ByteArray)]) else (if (0 : Nat) < m.start then (if (m.precise) = true then ((L1 ++ [(⟨#[35, 69, 88, 84, 45, 88, 45, 77, 69, 68, 73, 65, 45, 83, 69, 81, 85, 69, 78, 67, 69, 58]⟩ : ByteArray) ++ dec m.seq ++ (⟨#[10]⟩ : ByteArray), (⟨#[35, 69, 88, 84, 45, 88, 45, 84, 65, 82, 71, 69, 84, 68, 85, 82, 65, 84, 73, 79, 78, 58]⟩ : ByteArray) ++ dec m.target ++ (⟨#[10]⟩ : ByteArray)]) ++ [(⟨#[35, 69, 88, 84, 45, 88, 45, 83, 84, 65, 82, 84, 58, 84, 73, 77, 69, 45, 79, 70, 70, 83, 69, 84, 61]⟩ : ByteArray) ++ shorts m.start ++ (⟨#[44, 80, 82, 69, 67, 73, 83, 69, 61, 89, 69, 83]⟩ : ByteArray) ++ (⟨#[10]⟩ : ByteArray)]) else ((L1 ++ [(⟨#[35, 69, 88, 84, 45, 88, 45, 77, 69, 68, 73, 65, 45, 83, 69, 81, 85, 69, 78, 67, 69, 58]⟩ : ByteArray) ++ dec m.seq ++ (⟨#[10]⟩ : ByteArray), (⟨#[35, 69, 88, 84, 45, 88, 45, 84, 65, 82, 71, 69, 84, 68, 85, 82, 65, 84, 73, 79, 78, 58]⟩ : ByteArray) ++ dec m.target ++ (⟨#[10]⟩ : ByteArray)]) ++ [(⟨#[35, 69, 88, 84, 45, 88, 45, 83, 84, 65, 82, 84, 58, 84, 73, 77, 69, 45, 79, 70, 70, 83, 69, 84, 61]⟩ : ByteArray) ++ shorts m.start ++ (⟨#[10]⟩ : ByteArray)])) else (L1 ++ [(⟨#[35, 69, 88, 84, 45, 88, 45, 77, 69, 68, 73, 65, 45, 83, 69, 81, 85, 69, 78, 67, 69, 58]⟩ : ByteArray) ++ dec m.seq ++ (⟨#[10]⟩ : ByteArray), (⟨#[35, 69, 88, 84, 45, 88, 45, 84, 65, 82, 71, 69, 84, 68, 85, 82, 65, 84, 73, 79, 78, 58]⟩ : ByteArray) ++ dec m.target ++ (⟨#[10]⟩ : ByteArray)]))) ∧ L.length ≤ 5 ∧ Own strL 9 1 w' w.heap.size v L ∧ Sv 83 ((3, v) :: (1, pt g1 0) :: (2, .slice none 0 0) :: (8, .bool false) :: (17, .bool false) :: (25, .int .i64 ((m.typ : Nat) : Int)) :: []) [⟨g1, (m.cells sl), 29, true⟩] (fun _ => False) w a w') (Z.g 68 rfl) ?_ ?_ ?_
    ·intro hb38 Q' hQ'
     have hb38 := of_decide_eq_true hb38
     refine wp_region_lit (sv_n 2 Z rfl fun a Z => sv_l (v := .int .u64 ((m.disc : Nat) : Int)) 0 Z rfl (Z.g 70 rfl) lt_uint64 rfl fun a Z => ?_)
     refine sv_callq (v := .string (dec m.disc)) Z rfl rfl (by decide) (ex_call1 cf_spec_Decimal (Z.g 71 rfl)) (Calls.mono (decimal_any (m.disc) _ (by omega)) (by rintro e w' ⟨rfl, rfl⟩; exact ⟨rfl, rfl⟩)) fun a Z => ?_
     refine sv_r (v := .string ((⟨#[35, 69, 88, 84, 45, 88, 45, 68, 73, 83, 67, 79, 78, 84, 73, 78, 85, 73, 84, 89, 45, 83, 69, 81, 85, 69, 78, 67, 69, 58]⟩ : ByteArray) ++ dec m.disc)) Z (ex_add rfl (Z.g 72 rfl) (by (try simp only [ByteArray.size_append', ByteArray.size_mk', List.size_toArray, List.length_cons, List.length_nil]); omega)) fun a Z => ?_
     refine sv_r (v := .string ((⟨#[35, 69, 88, 84, 45, 88, 45, 68, 73, 83, 67, 79, 78, 84, 73, 78, 85, 73, 84, 89, 45, 83, 69, 81, 85, 69, 78, 67, 69, 58]⟩ : ByteArray) ++ dec m.disc ++ (⟨#[10]⟩ : ByteArray))) Z (ex_add (Z.g 73 rfl) rfl (by (try simp only [ByteArray.size_append', ByteArray.size_mk', List.size_toArray, List.length_cons, List.length_nil]); omega)) fun a Z => ?_
     refine sv_new (T := 9) (cs := #[.string ((⟨#[35, 69, 88, 84, 45, 88, 45, 68, 73, 83, 67, 79, 78, 84, 73, 78, 85, 73, 84, 89, 45, 83, 69, 81, 85, 69, 78, 67, 69, 58]⟩ : ByteArray) ++ dec m.disc ++ (⟨#[10]⟩ : ByteArray))]) Z rfl rfl (by decide) (fun g => .slice (some ⟨g, 0, none⟩) 1 1) (by simp only [execOp, List.map_toArray, List.map_cons, List.map_nil, Z.g 74 rfl]; go_simp) fun g39 a w40 hg39 hbw40 hwg39 Z => ?_
     replace ho2_ := ho2_.ty (TyOnly.of_below (ts := []) hbw40) (by decide)
     have hxg39 := Z.at 0 rfl
     replace Z := (Z.mz [false, true] rfl).ct [75, 74, 73, 72, 71, 70, 69, 68, 3, 1, 2, 8, 17, 25] rfl
     refine sv_append (f := strL) (L := L2) sli_sl_string (by decide) (fun _ => rfl) [(⟨#[35, 69, 88, 84, 45, 88, 45, 68, 73, 83, 67, 79, 78, 84, 73, 78, 85, 73, 84, 89, 45, 83, 69, 81, 85, 69, 78, 67, 69, 58]⟩ : ByteArray) ++ dec m.disc ++ (⟨#[10]⟩ : ByteArray)] Z (Z.g 69 rfl) (Z.g 75 rfl) hxg39 rfl rfl (fun y _ u hu => strL_one y u hu) ho2_ rfl (by decide) (by (try simp only [List.length_append, List.length_cons, List.length_nil]); omega) (by (try simp only [List.length_append, List.length_cons, List.length_nil]); omega) fun a sv41 w43 hty ho42 Z => sv_n 1 Z rfl fun a Z => Z.nx [3, 68, 1, 2, 8, 17, 25] rfl fun Z => ?_
     exact hQ' _ _ ⟨_, (L2 ++ [(⟨#[35, 69, 88, 84, 45, 88, 45, 68, 73, 83, 67, 79, 78, 84, 73, 78, 85, 73, 84, 89, 45, 83, 69, 81, 85, 69, 78, 67, 69, 58]⟩ : ByteArray) ++ dec m.disc ++ (⟨#[10]⟩ : ByteArray)]), by rw [if_pos hb38], by (try simp only [List.length_append, List.length_cons, List.length_nil]); omega, ho42, Z.pick rfl⟩
    ·intro hb38 Q' hQ'
     have hb38 := of_decide_eq_false hb38
     refine wp_skip ?_
     exact hQ' _ _ ⟨_, L2, by rw [if_neg hb38] ; exact hL2, by (try simp only [List.length_append, List.length_cons, List.length_nil]); omega, ho2_, Z.pick rfl⟩
    ·rintro a w44 ⟨v3, L3, hL3, hlL3, ho3_, Z⟩
     refine sh (wp_seq (wr (sv_n 1 Z rfl fun a Z => sv_l (v := .bool (m.iframe)) 0 Z rfl (Z.g 77 rfl) lt_bool rfl fun a Z => Z.nx [78, 3, 1, 2, 8, 17, 25] rfl fun Z => sh ?_)))
     refine if_join (fun a w' => ∃ (v : Value) (L : List ByteArray), L = (if (m.iframe) = true then (L3 ++ [⟨#[35, 69, 88, 84, 45, 88, 45, 73, 45, 70, 82, 65, 77, 69, 83, 45, 79, 78, 76, 89, 10]⟩]) else (if (0 : Nat) < m.disc then (L2 ++ [(⟨#[35, 69, 88, 84, 45, 88, 45, 68, 73, 83, 67, 79, 78, 84, 73, 78, 85, 73, 84, 89, 45, 83, 69, 81, 85, 69, 78, 67, 69, 58]⟩ : ByteArray) ++ dec m.disc ++ (⟨#[10]⟩ : ByteArray)]) else (if (0 : Nat) < m.start then (if (m.precise) = true then ((L1 ++ [(⟨#[35, 69, 88, 84, 45, 88, 45, 77, 69, 68, 73, 65, 45, 83, 69, 81, 85, 69, 78, 67, 69, 58]⟩ : ByteArray) ++ dec m.seq ++ (⟨#[10]⟩ : ByteArray), (⟨#[35, 69, 88, 84, 45, 88, 45, 84, 65, 82, 71, 69, 84, 68, 85, 82, 65, 84, 73, 79, 78, 58]⟩ : ByteArray) ++ dec m.target ++ (⟨#[10]⟩ : ByteArray)]) ++ [(⟨#[35, 69, 88, 84, 45, 88, 45, 83, 84, 65, 82, 84, 58, 84, 73, 77, 69, 45, 79, 70, 70, 83, 69, 84, 61]⟩ : ByteArray) ++ shorts m.start ++ (⟨#[44, 80, 82, 69, 67, 73, 83, 69, 61, 89, 69, 83]⟩ : ByteArray) ++ (⟨#[10]⟩ : ByteArray)]) else ((L1 ++ [(⟨#[35, 69, 88, 84, 45, 88, 45, 77, 69, 68, 73, 65, 45, 83, 69, 81, 85, 69, 78, 67, 69, 58]⟩ : ByteArray) ++ dec m.seq ++ (⟨#[10]⟩ : ByteArray), (⟨#[35, 69, 88, 84, 45, 88, 45, 84, 65, 82, 71, 69, 84, 68, 85, 82, 65, 84, 73, 79, 78, 58]⟩ : ByteArray) ++ dec m.target ++ (⟨#[10]⟩ : ByteArray)]) ++ [(⟨#[35, 69, 88, 84, 45, 88, 45, 83, 84, 65, 82, 84, 58, 84, 73, 77, 69, 45, 79, 70, 70, 83, 69, 84, 61]⟩ : ByteArray) ++ shorts m.start ++ (⟨#[10]⟩ : ByteArray)])) else (L1 ++ [(⟨#[35, 69, 88, 84, 45, 88, 45, 77, 69, 68, 73, 65, 45, 83, 69, 81, 85, 69, 78, 67, 69, 58]⟩ : ByteArray) ++ dec m.seq ++ (⟨#[10]⟩ : ByteArray), (⟨#[35, 69, 88, 84, 45, 88, 45, 84, 65, 82, 71, 69, 84, 68, 85, 82, 65, 84, 73, 79, 78, 58]⟩ : ByteArray) ++ dec m.target ++ (⟨#[10]⟩ : ByteArray)])))) ∧ L.length ≤ 6 ∧ Own strL 9 1 w' w.heap.size v L ∧ Sv 83 ((3, v) :: (1, pt g1 0) :: (2, .slice none 0 0) :: (8, .bool false) :: (17, .bool false) :: (25, .int .i64 ((m.typ : Nat) : Int)) :: []) [⟨g1, (m.cells sl), 29, true⟩] (fun _ => False) w a w') (Z.g 78 rfl) ?_ ?_ ?_
     ·intro hb45 Q' hQ'
      refine wp_region_lit (sv_n 1 Z rfl fun a Z => ?_)
      refine sv_new (T := 9) (cs := #[.string (⟨#[35, 69, 88, 84, 45, 88, 45, 73, 45, 70, 82, 65, 77, 69, 83, 45, 79, 78, 76, 89, 10]⟩)]) Z rfl rfl (by decide) (fun g => .slice (some ⟨g, 0, none⟩) 1 1) (by simp only [execOp, List.map_toArray, List.map_cons, List.map_nil, ]; go_simp) fun g46 a w47 hg46 hbw47 hwg46 Z => ?_
      replace ho3_ := ho3_.ty (TyOnly.of_below (ts := []) hbw47) (by decide)
      have hxg46 := Z.at 0 rfl
      replace Z := (Z.mz [false, true] rfl).ct [80, 79, 78, 3, 1, 2, 8, 17, 25] rfl
      refine sv_append (f := strL) (L := L3) sli_sl_string (by decide) (fun _ => rfl) [⟨#[35, 69, 88, 84, 45, 88, 45, 73, 45, 70, 82, 65, 77, 69, 83, 45, 79, 78, 76, 89, 10]⟩] Z (Z.g 79 rfl) (Z.g 80 rfl) hxg46 rfl rfl (fun y _ u hu => strL_one y u hu) ho3_ rfl (by decide) (by (try simp only [List.length_append, List.length_cons, List.length_nil]); omega) (by (try simp only [List.length_append, List.length_cons, List.length_nil]); omega) fun a sv48 w50 hty ho49 Z => sv_n 1 Z rfl fun a Z => Z.nx [3, 78, 1, 2, 8, 17, 25] rfl fun Z => ?_
      exact hQ' _ _ ⟨_, (L3 ++ [⟨#[35, 69, 88, 84, 45, 88, 45, 73, 45, 70, 82, 65, 77, 69, 83, 45, 79, 78, 76, 89, 10]⟩]), by rw [if_pos hb45], by (try simp only [List.length_append, List.length_cons, List.length_nil]); omega, ho49, Z.pick rfl⟩
     ·intro hb45 Q' hQ'
      refine wp_skip ?_
      exact hQ' _ _ ⟨_, L3, by rw [if_neg (by rw [hb45]; decide)] ; exact hL3, by (try simp only [List.length_append, List.length_cons, List.length_nil]); omega, ho3_, Z.pick rfl⟩
     ·rintro a w51 ⟨v4, L4, hL4, hlL4, ho4_, Z⟩
      refine sh (wr (sv_n 2 Z rfl fun a Z => Z.nx [2, 3, 1, 8, 17, 25] rfl fun Z => sh (wp_ret ?_)))
      try simp only [Exit.inBlock, Exit.then]
      refine ret_of_ev Z.ev rfl (Z.g 2 rfl) ⟨_, rfl, Z.toBelow, ?_⟩
      have e : m.head = L4 := by rw [hL4, hL3, hL2, hL1]; rfl
      rw [e]; exact ho4_
end Go.Proofs.YtflppablgdegcaaGreatDoor
