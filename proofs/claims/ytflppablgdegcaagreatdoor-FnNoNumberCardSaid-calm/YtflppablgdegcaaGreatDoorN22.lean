/- Joined: De, Df, Lr. -/
import Derived.Test.YtflppablgdegcaaGreatDoorN21
import Derived.Lib.BytesSpace
/- (*MediaPlaylist).decode: the loop over the lines. -/
set_option maxRecDepth 100000
set_option maxHeartbeats 8000000
namespace Go.Proofs.YtflppablgdegcaaGreatDoor
open Go.RowKit
/-- Lines, each with its end, and what stands behind the last one. -/
def flatLn (rem : List (List UInt8)) (last : List UInt8) : List UInt8 := rem.foldr (fun ln acc => ln ++ 10 :: acc) last
theorem ext_line {s : ByteArray} {off : Nat} {ln more : List UInt8} (h : s.data.toList.drop off = ln ++ 10 :: more) (ho : off + ln.length + 1 ≤ s.size) : s.extract off (off + ln.length + 1) = ⟨(ln ++ [10]).toArray⟩ := ba_eq (by
 rw [ext_list _ _ _ ho]
 have h1 : (s.data.toList.take (off + ln.length + 1)).drop off = (s.data.toList.drop off).take (ln.length + 1) := by rw [List.drop_take]; congr 1; omega
 rw [h1, h]
 show _ = ln ++ [10]
 rw [show ln ++ (10 : UInt8) :: more = (ln ++ [10]) ++ more from by simp, List.take_append_of_le_length (by simp), List.take_of_length_le (by simp)])
theorem drop_line {s : ByteArray} {off : Nat} {ln more : List UInt8} (h : s.data.toList.drop off = ln ++ 10 :: more) : s.data.toList.drop (off + ln.length + 1) = more := by
 rw [show off + ln.length + 1 = off + (ln.length + 1) from by omega, ← List.drop_drop, h, show ln ++ (10 : UInt8) :: more = (ln ++ [10]) ++ more from by simp, List.drop_append_of_le_length (by simp), List.drop_of_length_le (by simp), List.nil_append]
theorem ext_rest {s : ByteArray} {off : Nat} {last : List UInt8} (h : s.data.toList.drop off = last) : s.extract off s.size = ⟨last.toArray⟩ := ba_eq (by
 rw [ext_list _ _ _ (Nat.le_refl _), ← len_list, List.take_length, h])
/-- Where the buffer is read. -/
def offOf (b : Nat) (w : World) : Nat := (intOf ((w.cell? ⟨b, 1, none⟩).getD undef)).toNat
theorem offOf_buf {b H n cap off : Nat} {s : ByteArray} {w : World} (h : BufAt b H n cap off s w) : offOf b w = off := by
 obtain ⟨lr, hk⟩ := h.blk
 unfold offOf
 rw [cell_of_heap (v := .int .i64 ((off : Nat) : Int)) hk rfl]
 simp [intOf]
def eofB : Value → Bool | .bool true => true | _ => false
abbrev XX (gp gr gs : Nat) : Nat → Prop := fun q => (q = gp ∨ q = gs) ∨ q = gr
/-- What a line's reading does: it goes on, or, strictly, there is an error. -/
def StepR (st : Bool) (ev : Value) (Bad : Prop) (K : Prop) : Prop := (ev = .nilIface ∧ K) ∨ (st = false ∧ IsErr ev ∧ K) ∨ (st = true ∧ IsErr ev ∧ Bad)
theorem decode_any {B : Nat} {G : Ge} {b H n cap gp gr : Nat} {s : ByteArray} {st : Bool} {Bad : Prop} (lns : List (List UInt8)) (last : List UInt8) (I : Nat → List (List UInt8) → World → Prop) (J : Nat → World → Prop) (w : World) (hG : Env B G w) (hb : BufAt b H n cap 0 s w) (hH : H < w.heap.size) (hbl : b < w.heap.size) (hs : s.data.toList = flatLn lns last) (hno : ∀ ln ∈ lns, ∀ x ∈ ln, x ≠ 10) (hnl : ∀ x ∈ last, x ≠ 10)
  (hBb : B ≤ b) (hBp : B ≤ gp) (hBr : B ≤ gr) (hpb : gp ≠ b) (hpH : gp ≠ H) (hrb : gr ≠ b) (hrH : gr ≠ H)
  (hinit : ∀ gs w', w.heap.size ≤ gs → Only (fun _ => False) w w' → w'.heap[gs]? = some (.cells #[.int .u64 0, .bool false, .bool false, .bool false, .bool false, .bool false, .bool false, .bool false, .bool false, .bool false, .string ⟨#[]⟩, .int .i64 0, .int .i64 0, .float .f64 0, .string ⟨#[]⟩, .pointer none, .slice none 0 0, .pointer none, .pointer none, .pointer none] 121 (0, 0)) → I gs lns w')
  (hkeep : ∀ gs rem w1 w2, w.heap.size ≤ gs → I gs rem w1 → Only (fun q => q = b) w1 w2 → I gs rem w2)
  (hstep : ∀ gs ln rem w', w.heap.size ≤ gs → I gs (ln :: rem) w' → Env B G w' → Calls Tryz.prog 47 #[pt gp 0, pt gs 0, .string ⟨(ln ++ [10]).toArray⟩, .bool st] w' fun e w2 => ∃ ev, e = .returned ev ∧ Only (XX gp gr gs) w' w2 ∧ StepR st ev Bad (I gs rem w2))
  (hlast : ∀ gs w', w.heap.size ≤ gs → I gs [] w' → Env B G w' → Calls Tryz.prog 47 #[pt gp 0, pt gs 0, .string ⟨last.toArray⟩, .bool st] w' fun e w2 => ∃ ev, e = .returned ev ∧ Only (XX gp gr gs) w' w2 ∧ StepR st ev Bad (J gs w2))
  (hJ : ∀ gs w', J gs w' → w'.cell? ⟨gs, 1, none⟩ = some (.bool true)) : Calls Tryz.prog 36 #[pt gp 0, pt b 0, .bool st] w fun e w' => ∃ ev, e = .returned ev ∧ Only (fun q => q = b ∨ q = gp ∨ q = gr) w w' ∧ ((ev = .nilIface ∧ ∃ gs, J gs w') ∨ (Bad ∧ IsErr ev)) := by
 refine calls_of_ev Tryz.func36 rfl (show 3 ≤ 44 from by decide) ?_
 intro a hE
 have hE : Ev 44 ((0, pt gp 0) :: (1, pt b 0) :: (2, .bool st) :: []) a := hE
 have hS : Sv 44 ((0, pt gp 0) :: (1, pt b 0) :: (2, .bool st) :: []) [] (fun q => q = b ∨ q = gp ∨ q = gr) w a w := Sv.start hE _ _
 clear hE
 refine wp_seq ?_
 refine wp_region_lit ?_
 refine sv_r (v := .nilIface) hS ex_ac fun a hS => ?_
 refine wpList_nil ?_
 replace hS := hS.cut [6, 0, 1, 2]
 show Code.wp _ _ _ _ _
 refine wp_seq ?_
 refine wp_region_lit ?_
 refine sv_r (v := .bool false) hS ex_ac fun a hS => ?_
 refine wpList_nil ?_
 replace hS := hS.cut [7, 6, 0, 1, 2]
 show Code.wp _ _ _ _ _
 refine wp_seq ?_
 refine wp_region_lit ?_
 refine sv_r (v := .string (⟨#[]⟩)) hS ex_ac fun a hS => ?_
 replace hS : Sv 44 ((8, .string (⟨#[]⟩)) :: (7, .bool false) :: (6, .nilIface) :: (0, pt gp 0) :: (1, pt b 0) :: (2, .bool st) :: []) [] (fun q => q = b ∨ q = gp ∨ q = gr) w a w := hS.pick rfl
 refine nx3 ?_
 refine sv_r (v := .nilIface) hS ex_ac fun a hS => ?_
 refine wpList_nil ?_
 replace hS := hS.cut [9, 8, 7, 6, 0, 1, 2]
 show Code.wp _ _ _ _ _
 refine wp_seq ?_
 refine wp_region_lit ?_
 refine sv_al hS al_m3u8_decodingState (by decide) ?_
 intro g1 a w2 hg1 hbw2 hwg1 hS
 refine sv_r (v := pt g1 0) hS (ex_as (hS.get 11 rfl)) fun a hS => ?_
 refine wpList_nil ?_
 replace hS := hS.cut [10, 9, 8, 7, 6, 0, 1, 2]
 show Code.wp _ _ _ _ _
 refine wp_seq ?_
 have hgs0 : w.heap.size ≤ g1 := hg1
 have hgz := hS.at 0 rfl
 have hO0 : Only (fun _ => False) w w2 := Only.of_below hbw2
 have hI0 := hinit g1 w2 hgs0 hO0 hgz
 have hb0 : BufAt b H n cap 0 s w2 := hb.keep hO0 (fun h => h) (fun h => h) hH
 replace hS : Sv 44 ((10, pt g1 0) :: (9, .nilIface) :: (8, .string (⟨#[]⟩)) :: (7, .bool false) :: (6, .nilIface) :: (0, pt gp 0) :: (1, pt b 0) :: (2, .bool st) :: []) [] (fun q => q = b ∨ q = gp ∨ q = gr) w a w2 := (hS.mask [false]).pick rfl
 refine wp_block ?_
 refine wp_loop (fun a w' => ∃ eo : Bool, ((eo = false ∧ ∃ rem off, s.data.toList.drop off = flatLn rem last ∧ (∀ ln ∈ rem, ∀ x ∈ ln, x ≠ 10) ∧ BufAt b H n cap off s w' ∧ I g1 rem w') ∨ (eo = true ∧ J g1 w')) ∧ Sv 44 ((7, .bool eo) :: (0, pt gp 0) :: (1, pt b 0) :: (2, .bool st) :: (10, pt g1 0) :: []) [] (fun q => q = b ∨ q = gp ∨ q = gr) w a w') (fun a w' => if eofB (a.eval (.tmp 7)) then 0 else n + 1 - offOf b w') ⟨false, .inl ⟨rfl, lns, 0, hs, hno, hb0, hI0⟩, hS.pick rfl⟩ ?_
 clear hS hI0 hb0 hO0
 rintro a w2 ⟨eo, hinv, hS⟩
 have h7 := hS.get 7 rfl
 rcases hinv with ⟨rfl, rem, off, hd, hrn, hbf, hI⟩ | ⟨rfl, hJw⟩
 ·have hHw : H < w2.heap.size := Nat.lt_of_lt_of_le hH hS.only.size
  have hblw : b < w2.heap.size := Nat.lt_of_lt_of_le hbl hS.only.size
  rcases rem with _ | ⟨ln, rem⟩
  ·have hl : s.data.toList.drop off = last := hd
   have hnl1 : ∀ x ∈ s.data.toList.drop off, x ≠ 10 := by rw [hl]; exact hnl
   have hex : s.extract off n = ⟨last.toArray⟩ := by rw [← hbf.size]; exact ext_rest hl
   refine wp_seq ?_
   refine wp_seq ?_
   refine wp_region_lit ?_
   refine sv_r (v := .bool false) hS (ex_mv (hS.get 7 rfl)) fun a hS => ?_
   refine sv_r (v := .bool true) hS (ex_not (hS.get 12 rfl)) fun a hS => ?_
   replace hS : Sv 44 ((13, .bool true) :: (7, .bool false) :: (0, pt gp 0) :: (1, pt b 0) :: (2, .bool st) :: (10, pt g1 0) :: []) [] (fun q => q = b ∨ q = gp ∨ q = gr) w a w2 := hS.pick rfl
   refine nx1 ?_
   refine cond_t (hS.get 13 rfl) ?_
   refine wp_skip ?_
   show Code.wp _ _ _ _ _
   refine wp_block ?_
   refine wp_seq ?_
   refine wp_seq ?_
   refine wp_region_lit ?_
   refine sv_r (v := pt b 0) hS (ex_mv (hS.get 1 rfl)) fun a hS => ?_
   have hrs := readStr_last w2 hbf hHw hnl1 (hG.keep hS.only (fun q hq => by rcases hq with rfl | rfl | rfl; (· exact hBb); (· exact hBp); (· exact hBr))) hBb
   rw [hex] at hrs
   refine sv_callo (X := fun q => q = b) hS rfl rfl (by decide) (ex_call2 cf_bytes_Buffer_ReadString (hS.get 15 rfl) rfl) hrs (by intro q hq; cases hq) (fun q hq _ => .inl hq) ?_
   rintro a _ w3 ⟨rfl, hbf2⟩ hO3 hS
   have hI3 := hkeep _ _ _ _ hgs0 hI hO3
   refine sv_r (v := .tuple #[.string (⟨last.toArray⟩ : ByteArray), eofV G]) hS (ex_mv (hS.get 16 rfl)) fun a hS => ?_
   refine sv_r (v := .string (⟨last.toArray⟩)) hS (ei_ext (hS.get 14 rfl) rfl) fun a hS => ?_
   refine sv_r (v := eofV G) hS (ei_ext (hS.get 14 rfl) rfl) fun a hS => ?_
   refine sv_r (v := .string (⟨last.toArray⟩)) hS (ex_as (hS.get 17 rfl)) fun a hS => ?_
   refine sv_r (v := eofV G) hS (ex_as (hS.get 18 rfl)) fun a hS => ?_
   refine wpList_nil ?_
   replace hS := hS.cut [9, 8, 13, 7, 0, 1, 2, 10]
   show Code.wp _ _ _ _ _
   refine wp_seq ?_
   refine wp_region_lit ?_
   refine sv_r (v := eofV G) hS (ex_mv (hS.get 9 rfl)) fun a hS => ?_
   refine sv_r (v := eofV G) hS (ex_ldg lt_error (hG.keep hS.only (fun q hq => by rcases hq with rfl | rfl | rfl; (· exact hBb); (· exact hBp); (· exact hBr))).eof) fun a hS => ?_
   refine sv_r (v := .bool true) hS (ex_sameeq (hS.get 19 rfl) (hS.get 20 rfl)) fun a hS => ?_
   refine wpList_nil ?_
   replace hS := hS.cut [21, 9, 8, 13, 7, 0, 1, 2, 10]
   show Code.wp _ _ _ _ _
   refine cond_t (hS.get 21 rfl) ?_
   refine wp_region_lit ?_
   refine sv_r (v := .bool true) hS ex_ac fun a hS => ?_
   replace hS : Sv 44 ((7, .bool true) :: (21, .bool true) :: (9, eofV G) :: (8, .string (⟨last.toArray⟩)) :: (13, .bool true) :: (0, pt gp 0) :: (1, pt b 0) :: (2, .bool st) :: (10, pt g1 0) :: []) [] (fun q => q = b ∨ q = gp ∨ q = gr) w a w3 := hS.pick rfl
   refine nx3 ?_
   refine sv_r (v := pt gp 0) hS (ex_mv (hS.get 0 rfl)) fun a hS => ?_
   refine sv_r (v := pt g1 0) hS (ex_mv (hS.get 10 rfl)) fun a hS => ?_
   refine sv_r (v := .string (⟨last.toArray⟩)) hS (ex_mv (hS.get 8 rfl)) fun a hS => ?_
   refine sv_r (v := .bool st) hS (ex_mv (hS.get 2 rfl)) fun a hS => ?_
   have hst := hlast _ _ hgs0 hI3 (hG.keep hS.only (fun q hq => by rcases hq with rfl | rfl | rfl; (· exact hBb); (· exact hBp); (· exact hBr)))
   refine sv_callo (X := XX gp gr g1) hS rfl rfl (by decide) (ex_call4 cf_m3u8_decodeLineOfMediaPlaylist (hS.get 24 rfl) (hS.get 25 rfl) (hS.get 26 rfl) (hS.get 27 rfl)) hst (by intro q hq; cases hq) (fun q hq hlt => by rcases hq with (rfl | rfl) | rfl; (· exact .inr (.inl rfl)); (· omega); (· exact .inr (.inr rfl))) ?_
   intro a ev w4 hres hO4 hS
   refine sv_r (v := ev) hS (ex_as (hS.get 28 rfl)) fun a hS => ?_
   refine wpList_nil ?_
   replace hS := hS.cut [9, 7, 21, 8, 13, 0, 1, 2, 10]
   show Code.wp _ _ _ _ _
   refine wp_seq ?_
   rcases hres with ⟨rfl, hI4⟩ | ⟨rfl, ⟨et, eN, rfl⟩, hI4⟩ | ⟨rfl, ⟨et, eN, rfl⟩, hbad⟩
   ·cases st with
    | true =>
     refine wp_region_lit ?_
     refine sv_r (v := .bool true) hS (ex_mv (hS.get 2 rfl)) fun a hS => ?_
     refine sv_r (v := .bool true) hS (ex_mv (hS.get 29 rfl)) fun a hS => ?_
     refine sv_g (v := .nilIface) hS (hS.get 30 rfl) (ex_mv (hS.get 9 rfl)) fun a hS => ?_
     refine sv_g (v := .bool false) hS (hS.get 30 rfl) (ex_ine eqi_error (hS.get 31 rfl)) fun a hS => ?_
     refine sv_r (v := .bool false) hS (ex_pickT (hS.get 30 rfl) (hS.get 32 rfl)) fun a hS => ?_
     refine wpList_nil ?_
     replace hS := hS.cut [33, 9, 7, 21, 8, 13, 0, 1, 2, 10]
     show Code.wp _ _ _ _ _
     refine cond_f (hS.get 33 rfl) ?_
     refine wp_skip ?_
     refine ⟨⟨true, .inr ⟨rfl, hI4⟩, hS.pick rfl⟩, ?_⟩
     have h7' := hS.get 7 rfl
     have hof := hbf.le
     rw [h7, h7', offOf_buf hbf]
     simp only [eofB, Bool.false_eq_true, if_false, if_true]
     omega
    | false =>
     refine wp_region_lit ?_
     refine sv_r (v := .bool false) hS (ex_mv (hS.get 2 rfl)) fun a hS => ?_
     refine sv_r (v := .bool false) hS (ex_mv (hS.get 29 rfl)) fun a hS => ?_
     refine sv_goff hS rfl rfl (hS.get 30 rfl) rfl rfl (by decide) ?_
     intro a hS
     refine sv_goff hS rfl rfl (hS.get 30 rfl) rfl rfl (by decide) ?_
     intro a hS
     refine sv_r (v := .bool false) hS (ex_pickF (hS.get 30 rfl) rfl) fun a hS => ?_
     refine wpList_nil ?_
     replace hS := hS.cut [33, 9, 7, 21, 8, 13, 0, 1, 2, 10]
     show Code.wp _ _ _ _ _
     refine cond_f (hS.get 33 rfl) ?_
     refine wp_skip ?_
     refine ⟨⟨true, .inr ⟨rfl, hI4⟩, hS.pick rfl⟩, ?_⟩
     have h7' := hS.get 7 rfl
     have hof := hbf.le
     rw [h7, h7', offOf_buf hbf]
     simp only [eofB, Bool.false_eq_true, if_false, if_true]
     omega
   ·refine wp_region_lit ?_
    refine sv_r (v := .bool false) hS (ex_mv (hS.get 2 rfl)) fun a hS => ?_
    refine sv_r (v := .bool false) hS (ex_mv (hS.get 29 rfl)) fun a hS => ?_
    refine sv_goff hS rfl rfl (hS.get 30 rfl) rfl rfl (by decide) ?_
    intro a hS
    refine sv_goff hS rfl rfl (hS.get 30 rfl) rfl rfl (by decide) ?_
    intro a hS
    refine sv_r (v := .bool false) hS (ex_pickF (hS.get 30 rfl) rfl) fun a hS => ?_
    refine wpList_nil ?_
    replace hS := hS.cut [33, 9, 7, 21, 8, 13, 0, 1, 2, 10]
    show Code.wp _ _ _ _ _
    refine cond_f (hS.get 33 rfl) ?_
    refine wp_skip ?_
    refine ⟨⟨true, .inr ⟨rfl, hI4⟩, hS.pick rfl⟩, ?_⟩
    have h7' := hS.get 7 rfl
    have hof := hbf.le
    rw [h7, h7', offOf_buf hbf]
    simp only [eofB, Bool.false_eq_true, if_false, if_true]
    omega
   ·refine wp_region_lit ?_
    refine sv_r (v := .bool true) hS (ex_mv (hS.get 2 rfl)) fun a hS => ?_
    refine sv_r (v := .bool true) hS (ex_mv (hS.get 29 rfl)) fun a hS => ?_
    refine sv_g (v := .iface et (pt eN 0)) hS (hS.get 30 rfl) (ex_mv (hS.get 9 rfl)) fun a hS => ?_
    refine sv_g (v := .bool true) hS (hS.get 30 rfl) (ex_ifne (hS.get 31 rfl)) fun a hS => ?_
    refine sv_r (v := .bool true) hS (ex_pickT (hS.get 30 rfl) (hS.get 32 rfl)) fun a hS => ?_
    refine wpList_nil ?_
    replace hS := hS.cut [33, 9, 7, 21, 8, 13, 0, 1, 2, 10]
    show Code.wp _ _ _ _ _
    refine cond_t (hS.get 33 rfl) ?_
    refine wp_seq ?_
    refine wp_region_lit ?_
    refine sv_r (v := .iface et (pt eN 0)) hS (ex_mv (hS.get 9 rfl)) fun a hS => ?_
    refine sv_r (v := .iface et (pt eN 0)) hS (ex_as (hS.get 34 rfl)) fun a hS => ?_
    replace hS : Sv 44 ((6, .iface et (pt eN 0)) :: (33, .bool true) :: (9, .iface et (pt eN 0)) :: (7, .bool true) :: (21, .bool true) :: (8, .string (⟨last.toArray⟩)) :: (13, .bool true) :: (0, pt gp 0) :: (1, pt b 0) :: (2, .bool true) :: (10, pt g1 0) :: []) [] (fun q => q = b ∨ q = gp ∨ q = gr) w a w4 := hS.pick rfl
    refine nx1 ?_
    refine wp_ret ?_
    try simp only [Exit.inBlock, Exit.then]
    exact ret_of_ev hS.ev rfl (hS.get 6 rfl) ⟨_, rfl, hS.only, .inr ⟨hbad, ⟨_, _, rfl⟩⟩⟩
  ·have hl : s.data.toList.drop off = ln ++ 10 :: flatLn rem last := hd
   have hnl1 := hrn ln (List.mem_cons_self)
   have hrn2 := fun l hl => hrn l (List.mem_cons_of_mem _ hl)
   have hds := drop_line hl
   have hle1 : off + ln.length + 1 ≤ n := by
    have h1 := congrArg List.length hl
    have h2 := hbf.size
    have h3 := hbf.le
    simp only [List.length_drop, len_list, List.length_append, List.length_cons] at h1
    omega
   have hex : s.extract off (off + ln.length + 1) = ⟨(ln ++ [10]).toArray⟩ := ext_line hl (by rw [hbf.size]; exact hle1)
   refine wp_seq ?_
   refine wp_seq ?_
   refine wp_region_lit ?_
   refine sv_r (v := .bool false) hS (ex_mv (hS.get 7 rfl)) fun a hS => ?_
   refine sv_r (v := .bool true) hS (ex_not (hS.get 12 rfl)) fun a hS => ?_
   replace hS : Sv 44 ((13, .bool true) :: (7, .bool false) :: (0, pt gp 0) :: (1, pt b 0) :: (2, .bool st) :: (10, pt g1 0) :: []) [] (fun q => q = b ∨ q = gp ∨ q = gr) w a w2 := hS.pick rfl
   refine nx1 ?_
   refine cond_t (hS.get 13 rfl) ?_
   refine wp_skip ?_
   show Code.wp _ _ _ _ _
   refine wp_block ?_
   refine wp_seq ?_
   refine wp_seq ?_
   refine wp_region_lit ?_
   refine sv_r (v := pt b 0) hS (ex_mv (hS.get 1 rfl)) fun a hS => ?_
   have hrs := readStr_line w2 hbf hHw hl hnl1
   rw [hex] at hrs
   refine sv_callo (X := fun q => q = b) hS rfl rfl (by decide) (ex_call2 cf_bytes_Buffer_ReadString (hS.get 15 rfl) rfl) hrs (by intro q hq; cases hq) (fun q hq _ => .inl hq) ?_
   rintro a _ w3 ⟨rfl, hbf2⟩ hO3 hS
   have hI3 := hkeep _ _ _ _ hgs0 hI hO3
   refine sv_r (v := .tuple #[.string (⟨(ln ++ [10]).toArray⟩ : ByteArray), .nilIface]) hS (ex_mv (hS.get 16 rfl)) fun a hS => ?_
   refine sv_r (v := .string (⟨(ln ++ [10]).toArray⟩)) hS (ei_ext (hS.get 14 rfl) rfl) fun a hS => ?_
   refine sv_r (v := .nilIface) hS (ei_ext (hS.get 14 rfl) rfl) fun a hS => ?_
   refine sv_r (v := .string (⟨(ln ++ [10]).toArray⟩)) hS (ex_as (hS.get 17 rfl)) fun a hS => ?_
   refine sv_r (v := .nilIface) hS (ex_as (hS.get 18 rfl)) fun a hS => ?_
   refine wpList_nil ?_
   replace hS := hS.cut [9, 8, 13, 7, 0, 1, 2, 10]
   show Code.wp _ _ _ _ _
   refine wp_seq ?_
   refine wp_region_lit ?_
   refine sv_r (v := .nilIface) hS (ex_mv (hS.get 9 rfl)) fun a hS => ?_
   refine sv_r (v := eofV G) hS (ex_ldg lt_error (hG.keep hS.only (fun q hq => by rcases hq with rfl | rfl | rfl; (· exact hBb); (· exact hBp); (· exact hBr))).eof) fun a hS => ?_
   refine sv_r (v := .bool false) hS (ex_nileq (hS.get 19 rfl) (hS.get 20 rfl)) fun a hS => ?_
   refine wpList_nil ?_
   replace hS := hS.cut [21, 9, 8, 13, 7, 0, 1, 2, 10]
   show Code.wp _ _ _ _ _
   refine cond_f (hS.get 21 rfl) ?_
   refine wp_seq ?_
   refine wp_region_lit ?_
   refine sv_r (v := .nilIface) hS (ex_mv (hS.get 9 rfl)) fun a hS => ?_
   refine sv_r (v := .bool false) hS (ex_ine eqi_error (hS.get 22 rfl)) fun a hS => ?_
   replace hS : Sv 44 ((23, .bool false) :: (21, .bool false) :: (9, .nilIface) :: (8, .string (⟨(ln ++ [10]).toArray⟩)) :: (13, .bool true) :: (7, .bool false) :: (0, pt gp 0) :: (1, pt b 0) :: (2, .bool st) :: (10, pt g1 0) :: []) [] (fun q => q = b ∨ q = gp ∨ q = gr) w a w3 := hS.pick rfl
   refine nx1 ?_
   refine cond_f (hS.get 23 rfl) ?_
   refine wp_skip ?_
   show Code.wp _ _ _ _ _
   refine wp_seq ?_
   refine wp_region_lit ?_
   refine sv_r (v := pt gp 0) hS (ex_mv (hS.get 0 rfl)) fun a hS => ?_
   refine sv_r (v := pt g1 0) hS (ex_mv (hS.get 10 rfl)) fun a hS => ?_
   refine sv_r (v := .string (⟨(ln ++ [10]).toArray⟩)) hS (ex_mv (hS.get 8 rfl)) fun a hS => ?_
   refine sv_r (v := .bool st) hS (ex_mv (hS.get 2 rfl)) fun a hS => ?_
   have hst := hstep _ _ _ _ hgs0 hI3 (hG.keep hS.only (fun q hq => by rcases hq with rfl | rfl | rfl; (· exact hBb); (· exact hBp); (· exact hBr)))
   refine sv_callo (X := XX gp gr g1) hS rfl rfl (by decide) (ex_call4 cf_m3u8_decodeLineOfMediaPlaylist (hS.get 24 rfl) (hS.get 25 rfl) (hS.get 26 rfl) (hS.get 27 rfl)) hst (by intro q hq; cases hq) (fun q hq hlt => by rcases hq with (rfl | rfl) | rfl; (· exact .inr (.inl rfl)); (· omega); (· exact .inr (.inr rfl))) ?_
   intro a ev w4 hres hO4 hS
   have hbf4 : BufAt b H n cap (off + ln.length + 1) s w4 := hbf2.keep hO4 (by rintro ((h | h) | h); (· exact hpb h.symm); (· omega); (· exact hrb h.symm)) (by rintro ((h | h) | h); (· exact hpH h.symm); (· omega); (· exact hrH h.symm)) (Nat.lt_of_lt_of_le hHw hO3.size)
   refine sv_r (v := ev) hS (ex_as (hS.get 28 rfl)) fun a hS => ?_
   refine wpList_nil ?_
   replace hS := hS.cut [9, 23, 21, 8, 13, 7, 0, 1, 2, 10]
   show Code.wp _ _ _ _ _
   refine wp_seq ?_
   rcases hres with ⟨rfl, hI4⟩ | ⟨rfl, ⟨et, eN, rfl⟩, hI4⟩ | ⟨rfl, ⟨et, eN, rfl⟩, hbad⟩
   ·cases st with
    | true =>
     refine wp_region_lit ?_
     refine sv_r (v := .bool true) hS (ex_mv (hS.get 2 rfl)) fun a hS => ?_
     refine sv_r (v := .bool true) hS (ex_mv (hS.get 29 rfl)) fun a hS => ?_
     refine sv_g (v := .nilIface) hS (hS.get 30 rfl) (ex_mv (hS.get 9 rfl)) fun a hS => ?_
     refine sv_g (v := .bool false) hS (hS.get 30 rfl) (ex_ine eqi_error (hS.get 31 rfl)) fun a hS => ?_
     refine sv_r (v := .bool false) hS (ex_pickT (hS.get 30 rfl) (hS.get 32 rfl)) fun a hS => ?_
     refine wpList_nil ?_
     replace hS := hS.cut [33, 9, 23, 21, 8, 13, 7, 0, 1, 2, 10]
     show Code.wp _ _ _ _ _
     refine cond_f (hS.get 33 rfl) ?_
     refine wp_skip ?_
     refine ⟨⟨false, .inl ⟨rfl, rem, _, hds, hrn2, hbf4, hI4⟩, hS.pick rfl⟩, ?_⟩
     have h7' := hS.get 7 rfl
     rw [h7, h7', offOf_buf hbf, offOf_buf hbf4]
     simp only [eofB, Bool.false_eq_true, if_false]
     omega
    | false =>
     refine wp_region_lit ?_
     refine sv_r (v := .bool false) hS (ex_mv (hS.get 2 rfl)) fun a hS => ?_
     refine sv_r (v := .bool false) hS (ex_mv (hS.get 29 rfl)) fun a hS => ?_
     refine sv_goff hS rfl rfl (hS.get 30 rfl) rfl rfl (by decide) ?_
     intro a hS
     refine sv_goff hS rfl rfl (hS.get 30 rfl) rfl rfl (by decide) ?_
     intro a hS
     refine sv_r (v := .bool false) hS (ex_pickF (hS.get 30 rfl) rfl) fun a hS => ?_
     refine wpList_nil ?_
     replace hS := hS.cut [33, 9, 23, 21, 8, 13, 7, 0, 1, 2, 10]
     show Code.wp _ _ _ _ _
     refine cond_f (hS.get 33 rfl) ?_
     refine wp_skip ?_
     refine ⟨⟨false, .inl ⟨rfl, rem, _, hds, hrn2, hbf4, hI4⟩, hS.pick rfl⟩, ?_⟩
     have h7' := hS.get 7 rfl
     rw [h7, h7', offOf_buf hbf, offOf_buf hbf4]
     simp only [eofB, Bool.false_eq_true, if_false]
     omega
   ·refine wp_region_lit ?_
    refine sv_r (v := .bool false) hS (ex_mv (hS.get 2 rfl)) fun a hS => ?_
    refine sv_r (v := .bool false) hS (ex_mv (hS.get 29 rfl)) fun a hS => ?_
    refine sv_goff hS rfl rfl (hS.get 30 rfl) rfl rfl (by decide) ?_
    intro a hS
    refine sv_goff hS rfl rfl (hS.get 30 rfl) rfl rfl (by decide) ?_
    intro a hS
    refine sv_r (v := .bool false) hS (ex_pickF (hS.get 30 rfl) rfl) fun a hS => ?_
    refine wpList_nil ?_
    replace hS := hS.cut [33, 9, 23, 21, 8, 13, 7, 0, 1, 2, 10]
    show Code.wp _ _ _ _ _
    refine cond_f (hS.get 33 rfl) ?_
    refine wp_skip ?_
    refine ⟨⟨false, .inl ⟨rfl, rem, _, hds, hrn2, hbf4, hI4⟩, hS.pick rfl⟩, ?_⟩
    have h7' := hS.get 7 rfl
    rw [h7, h7', offOf_buf hbf, offOf_buf hbf4]
    simp only [eofB, Bool.false_eq_true, if_false]
    omega
   ·refine wp_region_lit ?_
    refine sv_r (v := .bool true) hS (ex_mv (hS.get 2 rfl)) fun a hS => ?_
    refine sv_r (v := .bool true) hS (ex_mv (hS.get 29 rfl)) fun a hS => ?_
    refine sv_g (v := .iface et (pt eN 0)) hS (hS.get 30 rfl) (ex_mv (hS.get 9 rfl)) fun a hS => ?_
    refine sv_g (v := .bool true) hS (hS.get 30 rfl) (ex_ifne (hS.get 31 rfl)) fun a hS => ?_
    refine sv_r (v := .bool true) hS (ex_pickT (hS.get 30 rfl) (hS.get 32 rfl)) fun a hS => ?_
    refine wpList_nil ?_
    replace hS := hS.cut [33, 9, 23, 21, 8, 13, 7, 0, 1, 2, 10]
    show Code.wp _ _ _ _ _
    refine cond_t (hS.get 33 rfl) ?_
    refine wp_seq ?_
    refine wp_region_lit ?_
    refine sv_r (v := .iface et (pt eN 0)) hS (ex_mv (hS.get 9 rfl)) fun a hS => ?_
    refine sv_r (v := .iface et (pt eN 0)) hS (ex_as (hS.get 34 rfl)) fun a hS => ?_
    replace hS : Sv 44 ((6, .iface et (pt eN 0)) :: (33, .bool true) :: (9, .iface et (pt eN 0)) :: (23, .bool false) :: (21, .bool false) :: (8, .string (⟨(ln ++ [10]).toArray⟩)) :: (13, .bool true) :: (7, .bool false) :: (0, pt gp 0) :: (1, pt b 0) :: (2, .bool true) :: (10, pt g1 0) :: []) [] (fun q => q = b ∨ q = gp ∨ q = gr) w a w4 := hS.pick rfl
    refine nx1 ?_
    refine wp_ret ?_
    try simp only [Exit.inBlock, Exit.then]
    exact ret_of_ev hS.ev rfl (hS.get 6 rfl) ⟨_, rfl, hS.only, .inr ⟨hbad, ⟨_, _, rfl⟩⟩⟩
 ·refine wp_seq ?_
  refine wp_seq ?_
  refine wp_region_lit ?_
  refine sv_r (v := .bool true) hS (ex_mv (hS.get 7 rfl)) fun a hS => ?_
  refine sv_r (v := .bool false) hS (ex_not (hS.get 12 rfl)) fun a hS => ?_
  replace hS : Sv 44 ((13, .bool false) :: (7, .bool true) :: (0, pt gp 0) :: (1, pt b 0) :: (2, .bool st) :: (10, pt g1 0) :: []) [] (fun q => q = b ∨ q = gp ∨ q = gr) w a w2 := hS.pick rfl
  refine nx1 ?_
  refine cond_f (hS.get 13 rfl) ?_
  refine wp_exit ?_
  cases st with
  | true =>
   show Code.wp _ _ _ _ _
   refine wp_seq ?_
   refine wp_seq ?_
   refine wp_region_lit ?_
   refine sv_r (v := .bool true) hS (ex_mv (hS.get 2 rfl)) fun a hS => ?_
   refine sv_r (v := .bool true) hS (ex_mv (hS.get 35 rfl)) fun a hS => ?_
   refine sv_g (v := pt g1 0) hS (hS.get 36 rfl) (ex_mv (hS.get 10 rfl)) fun a hS => ?_
   refine sv_g (v := pt g1 0) hS (hS.get 36 rfl) (ex_nc (hS.get 37 rfl)) fun a hS => ?_
   refine sv_g (v := pt g1 1) hS (hS.get 36 rfl) (ex_fo (hS.get 38 rfl) fo_m3u8_decodingState_1 rfl) fun a hS => ?_
   refine sv_g (v := .bool true) hS (hS.get 36 rfl) (ex_ld (hS.get 39 rfl) lt_bool (hJ _ _ hJw)) fun a hS => ?_
   refine sv_g (v := .bool false) hS (hS.get 36 rfl) (ex_not (hS.get 40 rfl)) fun a hS => ?_
   refine sv_r (v := .bool false) hS (ex_pickT (hS.get 36 rfl) (hS.get 41 rfl)) fun a hS => ?_
   refine wpList_nil ?_
   replace hS := hS.cut [42, 13, 7, 0, 1, 2, 10]
   show Code.wp _ _ _ _ _
   refine cond_f (hS.get 42 rfl) ?_
   refine wp_skip ?_
   show Code.wp _ _ _ _ _
   refine wp_seq ?_
   refine wp_region_lit ?_
   refine sv_r (v := .nilIface) hS ex_ac fun a hS => ?_
   refine wpList_nil ?_
   replace hS := hS.cut [6, 42, 13, 7, 0, 1, 2, 10]
   show Code.wp _ _ _ _ _
   refine wp_ret ?_
   try simp only [Exit.inBlock, Exit.then]
   exact ret_of_ev hS.ev rfl (hS.get 6 rfl) ⟨_, rfl, hS.only, .inl ⟨rfl, _, hJw⟩⟩
  | false =>
   show Code.wp _ _ _ _ _
   refine wp_seq ?_
   refine wp_seq ?_
   refine wp_region_lit ?_
   refine sv_r (v := .bool false) hS (ex_mv (hS.get 2 rfl)) fun a hS => ?_
   refine sv_r (v := .bool false) hS (ex_mv (hS.get 35 rfl)) fun a hS => ?_
   refine sv_goff hS rfl rfl (hS.get 36 rfl) rfl rfl (by decide) ?_
   intro a hS
   refine sv_goff hS rfl rfl (hS.get 36 rfl) rfl rfl (by decide) ?_
   intro a hS
   refine sv_goff hS rfl rfl (hS.get 36 rfl) rfl rfl (by decide) ?_
   intro a hS
   refine sv_goff hS rfl rfl (hS.get 36 rfl) rfl rfl (by decide) ?_
   intro a hS
   refine sv_goff hS rfl rfl (hS.get 36 rfl) rfl rfl (by decide) ?_
   intro a hS
   refine sv_r (v := .bool false) hS (ex_pickF (hS.get 36 rfl) rfl) fun a hS => ?_
   refine wpList_nil ?_
   replace hS := hS.cut [42, 13, 7, 0, 1, 2, 10]
   show Code.wp _ _ _ _ _
   refine cond_f (hS.get 42 rfl) ?_
   refine wp_skip ?_
   show Code.wp _ _ _ _ _
   refine wp_seq ?_
   refine wp_region_lit ?_
   refine sv_r (v := .nilIface) hS ex_ac fun a hS => ?_
   refine wpList_nil ?_
   replace hS := hS.cut [6, 42, 13, 7, 0, 1, 2, 10]
   show Code.wp _ _ _ _ _
   refine wp_ret ?_
   try simp only [Exit.inBlock, Exit.then]
   exact ret_of_ev hS.ev rfl (hS.get 6 rfl) ⟨_, rfl, hS.only, .inl ⟨rfl, _, hJw⟩⟩
end Go.Proofs.YtflppablgdegcaaGreatDoor
/- bytes.NewReader, (*MediaPlaylist).DecodeFrom. -/
set_option maxRecDepth 100000
set_option maxHeartbeats 8000000
namespace Go.Proofs.YtflppablgdegcaaGreatDoor
open Go.RowKit
theorem bufAt_row {b n : Nat} {s : ByteArray} {w : World} (h : BufRow b n s.data.toList w) (hs : s.size = n) (hn : n ≤ 100000000) : ∃ H cap, b < H ∧ H < w.heap.size ∧ BufAt b H n cap 0 s w := by
 obtain ⟨H, cap, cur, lr, hbH, hb, hH, hnc, hcm, hcs, htk⟩ := h
 refine ⟨H, cap, hbH, (Array.getElem?_eq_some_iff.1 hH).1, ⟨lr, hb⟩, fun i hi => ?_, hs, hnc, Nat.zero_le _, Nat.ne_of_lt hbH, hn⟩
 have hl : s.data.toList.length = n := by rw [len_list, hs]
 have h1 := Lib.bytes_of_row (l := s.data.toList) hH (by rw [hl]; exact htk) i (by rw [hl, ← hs]; exact hi)
 rw [addr_add] at h1
 have e : s.data.toList[i]'(by rw [hl, ← hs]; exact hi) = s[i]'hi := by
  have h2 := at_list hi
  rw [List.getElem?_eq_getElem (by rw [hl, ← hs]; exact hi)] at h2
  exact Option.some.inj h2
 rw [Nat.zero_add, h1, e]
theorem newReader_any (g n cc : Nat) (w : World) : Calls Tryz.prog 19 #[.slice (some ⟨g, 0, none⟩) n cc] w fun e w' => ∃ v, e = .returned v ∧ Below w.heap.size w w' ∧ ∃ r, v = pt r 0 ∧ w.heap.size ≤ r ∧ w'.heap[r]? = some (.cells #[.slice (some ⟨g, 0, none⟩) n cc, .int .i64 ((0 : Nat) : Int), .int .i64 (-1)] 97 (0, 0)) := by
 refine calls_of_ev Tryz.func19 rfl (show 1 ≤ 6 from by decide) ?_
 intro a hE
 have hE : Ev 6 ((0, .slice (some ⟨g, 0, none⟩) n cc) :: []) a := hE
 have hS : Sv 6 ((0, .slice (some ⟨g, 0, none⟩) n cc) :: []) [] (fun _ => False) w a w := Sv.start hE _ _
 clear hE
 refine wp_seq ?_
 refine wp_region_lit ?_
 refine sv_r (v := .pointer none) hS ex_ac fun a hS => ?_
 refine wpList_nil ?_
 replace hS := hS.cut [2, 0]
 show Code.wp _ _ _ _ _
 refine wp_seq ?_
 refine wp_region_lit ?_
 refine sv_r (v := .slice (some ⟨g, 0, none⟩) n cc) hS (ex_mv (hS.get 0 rfl)) fun a hS => ?_
 refine sv_r (v := .agg #[.slice (some ⟨g, 0, none⟩) n cc, .int .i64 0, .int .i64 (-1)]) hS (by simp only [execOp, List.map_toArray, List.map_cons, List.map_nil, hS.get 3 rfl]; go_simp) fun a hS => ?_
 refine sv_box hS (hS.get 4 rfl) (bx_bytes_Reader _) (by decide) ?_
 intro g1 a w2 hg1 hbw2 hwg1 hS
 refine sv_r (v := pt g1 0) hS (ex_as (hS.get 5 rfl)) fun a hS => ?_
 refine wpList_nil ?_
 replace hS := hS.cut [2]
 show Code.wp _ _ _ _ _
 refine wp_ret ?_
 try simp only [Exit.inBlock, Exit.then]
 exact ret_of_ev hS.ev rfl (hS.get 2 rfl) ⟨_, rfl, hS.toBelow, g1, rfl, hg1, hS.at 0 rfl⟩
theorem decodeFrom_any {B : Nat} {G : Ge} {r g n cc gp gr : Nat} {s : ByteArray} {st : Bool} {Bad : Prop} (lns : List (List UInt8)) (last : List UInt8) (I : Nat → List (List UInt8) → World → Prop) (J : Nat → World → Prop) (w : World) (hG : Env B G w) (hr : w.heap[r]? = some (.cells #[.slice (some ⟨g, 0, none⟩) n cc, .int .i64 ((0 : Nat) : Int), .int .i64 (-1)] 97 (0, 0))) (hD : Lib.Bytes w g 0 s) (hsn : s.size = n) (hc : n ≤ cc) (hn : n ≤ 100000000) (hgr0 : g ≠ r) (hgl : g < w.heap.size) (hs : s.data.toList = flatLn lns last) (hno : ∀ ln ∈ lns, ∀ x ∈ ln, x ≠ 10) (hnl : ∀ x ∈ last, x ≠ 10)
  (hBr0 : B ≤ r) (hBp : B ≤ gp) (hBr : B ≤ gr) (hpl : gp < w.heap.size) (hrl : gr < w.heap.size)
  (hinit : ∀ gs w', w.heap.size ≤ gs → Only (fun q => q = r) w w' → w'.heap[gs]? = some (.cells #[.int .u64 0, .bool false, .bool false, .bool false, .bool false, .bool false, .bool false, .bool false, .bool false, .bool false, .string ⟨#[]⟩, .int .i64 0, .int .i64 0, .float .f64 0, .string ⟨#[]⟩, .pointer none, .slice none 0 0, .pointer none, .pointer none, .pointer none] 121 (0, 0)) → I gs lns w')
  (hkeep : ∀ b gs rem w1 w2, w.heap.size ≤ b → b < gs → I gs rem w1 → Only (fun q => q = b) w1 w2 → I gs rem w2)
  (hstep : ∀ gs ln rem w', w.heap.size ≤ gs → I gs (ln :: rem) w' → Env B G w' → Calls Tryz.prog 47 #[pt gp 0, pt gs 0, .string ⟨(ln ++ [10]).toArray⟩, .bool st] w' fun e w2 => ∃ ev, e = .returned ev ∧ Only (XX gp gr gs) w' w2 ∧ StepR st ev Bad (I gs rem w2))
  (hlast : ∀ gs w', w.heap.size ≤ gs → I gs [] w' → Env B G w' → Calls Tryz.prog 47 #[pt gp 0, pt gs 0, .string ⟨last.toArray⟩, .bool st] w' fun e w2 => ∃ ev, e = .returned ev ∧ Only (XX gp gr gs) w' w2 ∧ StepR st ev Bad (J gs w2))
  (hJ : ∀ gs w', J gs w' → w'.cell? ⟨gs, 1, none⟩ = some (.bool true)) : Calls Tryz.prog 18 #[pt gp 0, .iface 62 (pt r 0), .bool st] w fun e w' => ∃ ev, e = .returned ev ∧ Only (fun q => q = r ∨ q = gp ∨ q = gr) w w' ∧ ((ev = .nilIface ∧ ∃ gs, J gs w') ∨ (Bad ∧ IsErr ev)) := by
 refine calls_of_ev Tryz.func18 rfl (show 3 ≤ 24 from by decide) ?_
 intro a hE
 have hE : Ev 24 ((0, pt gp 0) :: (1, .iface 62 (pt r 0)) :: (2, .bool st) :: []) a := hE
 have hS : Sv 24 ((0, pt gp 0) :: (1, .iface 62 (pt r 0)) :: (2, .bool st) :: []) [] (fun q => q = r ∨ q = gp ∨ q = gr) w a w := Sv.start hE _ _
 clear hE
 have hrlt : r < w.heap.size := (Array.getElem?_eq_some_iff.1 hr).1
 refine wp_seq ?_
 refine wp_region_lit ?_
 refine sv_r (v := .nilIface) hS ex_ac fun a hS => ?_
 refine wpList_nil ?_
 replace hS := hS.cut [6, 0, 1, 2]
 show Code.wp _ _ _ _ _
 refine wp_seq ?_
 refine wp_region_lit ?_
 refine sv_al hS al_bytes_Buffer (by decide) ?_
 intro g1 a w2 hg1 hbw2 hwg1 hS
 refine sv_r (v := pt g1 0) hS (ex_as (hS.get 10 rfl)) fun a hS => ?_
 refine wpList_nil ?_
 replace hS := hS.cut [7, 6, 0, 1, 2]
 show Code.wp _ _ _ _ _
 refine wp_seq ?_
 refine wp_region_lit ?_
 refine sv_r (v := pt g1 0) hS (ex_mv (hS.get 7 rfl)) fun a hS => ?_
 refine sv_r (v := .iface 62 (pt r 0)) hS (ex_mv (hS.get 1 rfl)) fun a hS => ?_
 have hbz : w2.heap[g1]? = some (.cells #[.slice none 0 0, .int .i64 0, .int .i8 0] 84 (0, 0)) := hS.at 0 rfl
 have hb0 : w.heap.size ≤ g1 := hg1
 have hbW := hbw2
 replace hS : Sv 24 ((13, .iface 62 (pt r 0)) :: (12, pt g1 0) :: (7, pt g1 0) :: (6, .nilIface) :: (0, pt gp 0) :: (1, .iface 62 (pt r 0)) :: (2, .bool st) :: []) [] (fun q => q = r ∨ q = gp ∨ q = gr) w a w2 := (hS.mask [false]).pick rfl
 have hr1 := (hbW.block r hrlt).trans hr
 have hD1 : Lib.Bytes w2 g 0 s := by intro i hi; rw [World.cell?_of_block (w := w) (hbW.block g hgl)]; exact hD i hi
 have hG1 := hG.below hbW
 have hrd := readFrom_any w2 hG1 hr1 hD1 hsn hc hn hbz (by omega) (by omega) hgr0 hBr0
 refine sv_callo (X := fun q => q = r ∨ g1 ≤ q) (S := fun v w' => v = .tuple #[.int .i64 ((n : Nat) : Int), .nilIface] ∧ BufRow g1 n s.data.toList w') hS rfl rfl (by decide) (ex_call2 cf_bytes_Buffer_ReadFrom (hS.get 12 rfl) (hS.get 13 rfl)) (Calls.mono hrd fun e w' ⟨h1, h2, h3⟩ => ⟨_, h1, h3, rfl, h2⟩) (by intro q hq; cases hq) (fun q hq hlt => by rcases hq with rfl | hq; (· exact .inl rfl); (· omega)) ?_
 rintro a _ w2 ⟨rfl, hrow⟩ hO2 hS
 obtain ⟨H, cap, hbH, hHl, hbuf⟩ := bufAt_row hrow hsn hn
 have hOr : Only (fun q => q = r) w w2 := ⟨hO2.os.trans hbW.os, hO2.tape.trans hbW.tape, hO2.output.trans hbW.output, Nat.le_trans hbW.size hO2.size, fun q hq hne => (hO2.block q (Nat.lt_of_lt_of_le hq hbW.size) (by rintro (h | h); (· exact hne h); (· omega))).trans (hbW.block q hq)⟩
 have hG2 : Env B G w2 := hG.keep hOr (fun q hq => by rw [hq]; exact hBr0)
 have hwle : w.heap.size ≤ w2.heap.size := hOr.size
 refine sv_r (v := .tuple #[.int .i64 ((n : Nat) : Int), .nilIface]) hS (ex_mv (hS.get 14 rfl)) fun a hS => ?_
 refine sv_r (v := .int .i64 ((n : Nat) : Int)) hS (ei_ext (hS.get 11 rfl) rfl) fun a hS => ?_
 refine sv_r (v := .nilIface) hS (ei_ext (hS.get 11 rfl) rfl) fun a hS => ?_
 refine sv_r (v := .int .i64 ((n : Nat) : Int)) hS (ex_as (hS.get 15 rfl)) fun a hS => ?_
 refine sv_r (v := .nilIface) hS (ex_as (hS.get 16 rfl)) fun a hS => ?_
 replace hS : Sv 24 ((9, .nilIface) :: (7, pt g1 0) :: (6, .nilIface) :: (0, pt gp 0) :: (2, .bool st) :: []) [] (fun q => q = r ∨ q = gp ∨ q = gr) w a w2 := hS.pick rfl
 refine nx1 ?_
 refine wp_seq ?_
 refine wp_seq ?_
 refine wp_region_lit ?_
 refine sv_r (v := .nilIface) hS (ex_mv (hS.get 9 rfl)) fun a hS => ?_
 refine sv_r (v := .bool false) hS (ex_ine eqi_error (hS.get 17 rfl)) fun a hS => ?_
 refine wpList_nil ?_
 replace hS := hS.cut [18, 9, 7, 6, 0, 2]
 show Code.wp _ _ _ _ _
 refine cond_f (hS.get 18 rfl) ?_
 refine wp_skip ?_
 show Code.wp _ _ _ _ _
 refine wp_seq ?_
 refine wp_region_lit ?_
 refine sv_r (v := pt gp 0) hS (ex_mv (hS.get 0 rfl)) fun a hS => ?_
 refine sv_r (v := pt g1 0) hS (ex_mv (hS.get 7 rfl)) fun a hS => ?_
 refine sv_r (v := .bool st) hS (ex_mv (hS.get 2 rfl)) fun a hS => ?_
 have hde := decode_any (Bad := Bad) lns last I J w2 hG2 hbuf hHl (Nat.lt_trans hbH hHl) hs hno hnl (Nat.le_trans hG.le hb0) hBp hBr (by omega) (by omega) (by omega) (by omega) (fun gs w' hgs ho hz => hinit gs w' (Nat.le_trans hwle hgs) ⟨ho.os.trans hOr.os, ho.tape.trans hOr.tape, ho.output.trans hOr.output, Nat.le_trans hOr.size ho.size, fun q hq hne => (ho.block q (Nat.lt_of_lt_of_le hq hwle) (fun h => h)).trans (hOr.block q hq hne)⟩ hz) (fun gs rem w1 w2' hgs hI ho => hkeep _ gs rem w1 w2' hb0 (by omega) hI ho) (fun gs ln rem w' hgs => hstep gs ln rem w' (Nat.le_trans hwle hgs)) (fun gs w' hgs => hlast gs w' (Nat.le_trans hwle hgs)) hJ
 refine sv_callo (X := fun q => q = g1 ∨ q = gp ∨ q = gr) (S := fun ev w' => (ev = .nilIface ∧ ∃ gs, J gs w') ∨ (Bad ∧ IsErr ev)) hS rfl rfl (by decide) (ex_call3 cf_m3u8_MediaPlaylist_decode (hS.get 20 rfl) (hS.get 21 rfl) (hS.get 22 rfl)) hde (by intro q hq; cases hq) (fun q hq hlt => by rcases hq with rfl | hq; (· omega); (· exact .inr hq)) ?_
 intro a ev w3 hres hO3 hS
 refine sv_r (v := ev) hS (ex_as (hS.get 23 rfl)) fun a hS => ?_
 refine wpList_nil ?_
 replace hS := hS.cut [6, 18, 9, 7]
 show Code.wp _ _ _ _ _
 refine wp_ret ?_
 try simp only [Exit.inBlock, Exit.then]
 exact ret_of_ev hS.ev rfl (hS.get 6 rfl) ⟨_, rfl, hS.only, hres⟩
end Go.Proofs.YtflppablgdegcaaGreatDoor
/- impl.begins, impl.lines. -/
set_option maxRecDepth 100000
set_option maxHeartbeats 8000000
namespace Go.Proofs.YtflppablgdegcaaGreatDoor
open Go.RowKit
theorem sv_ext {N : Nat} {l : List (Nat × Value)} {m : List Bk} {M : Nat → Prop} {w0 w w' : World} {a : Act} {ops : Array Oper} {rest : List Oper} {o : Oper} {Q : Exit → Act → World → Prop} {d : Nat} {v : Value} (h : Sv N l m M w0 a w) (hg : o.guard = none) (hd : o.dst = some d) (hdN : d < N) (hr : (execOp a.eval o).run Tryz.prog w = .ok (.value v) w') (hb : Below w.heap.size w w')
  (hK : ∀ a', Sv N ((d, v) :: l) m M w0 a' w' → wpList Tryz.prog ops Q rest a' w') : wpList Tryz.prog ops Q (o :: rest) a w :=
 ev_run h.ev hg hd hdN hr fun a' h' => hK a' ((h.slot h').below hb)
theorem conv_new (s : ByteArray) (w : World) : ∃ (H c : Nat) (w' : World), (convert 9 45 (.string s)).run Tryz.prog w = .ok (.slice (some ⟨H, 0, none⟩) s.size c) w' ∧ Below w.heap.size w w' ∧ Lib.Bytes w' H 0 s ∧ s.size ≤ c ∧ w.heap.size ≤ H ∧ H < w'.heap.size := by
 refine ⟨_, _, _, Lib.run_convert_string_bytes (P := Tryz.prog) w _ _ _ s Tryz.underlying9 Tryz.underlying45 Tryz.underlying5, Lib.bytesWorld_below _ _ _, fun i hi => ?_, grownCap_ge _ _ _ _, Nat.le_refl _, by rw [Lib.bytesWorld_size]; omega⟩
 have h := Lib.bytesWorld_cell w 5 s i hi
 rw [List.getD_eq_getElem?_getD, at_list hi] at h
 rw [Nat.zero_add, h]
 rfl
theorem trim_prefix (l : List UInt8) : (l.dropWhile Lib.isSp).take (Lib.trimSpace l).length = Lib.trimSpace l := by
 have h : Lib.trimSpace l <+: l.dropWhile Lib.isSp := by
  unfold Lib.trimSpace
  have h1 := List.dropWhile_suffix Lib.isSp (l := (l.dropWhile Lib.isSp).reverse)
  have h2 := List.reverse_prefix.2 h1
  rwa [List.reverse_reverse] at h2
 exact (List.prefix_iff_eq_take.1 h).symm
theorem drop_spLo (l : List UInt8) : l.drop (Lib.spLo l) = l.dropWhile Lib.isSp := by
 unfold Lib.spLo
 exact (List.suffix_iff_eq_drop.1 (List.dropWhile_suffix Lib.isSp)).symm
theorem trim_len (l : List UInt8) : Lib.spLo l + (Lib.trimSpace l).length ≤ l.length := by
 have h1 := congrArg List.length (drop_spLo l)
 have h2 := congrArg List.length (trim_prefix l)
 have h3 : (l.dropWhile Lib.isSp).length ≤ l.length := (List.dropWhile_suffix Lib.isSp).length_le
 simp only [List.length_drop, List.length_take] at h1 h2
 unfold Lib.spLo at *
 omega
theorem conv_trim {H c : Nat} {s : ByteArray} (w : World) (hB : Lib.Bytes w H 0 s) : (convert 45 9 (Lib.bytesTrimSpace H 0 c s.data.toList)).run Tryz.prog w = .ok (.string (trimA s)) w := by
 unfold Lib.bytesTrimSpace
 split
 ·rename_i h
  have e : trimA s = ⟨#[]⟩ := by unfold trimA Lib.trimSpace; rw [h]; rfl
  rw [e]; exact Lib.run_convert_nil_bytes w _ _ _ 0 Tryz.underlying45 Tryz.underlying5 Tryz.underlying9
 ·have hl := trim_len s.data.toList
  rw [len_list] at hl
  have h1 := Lib.run_convert_window (P := Tryz.prog) w _ _ _ Tryz.underlying45 Tryz.underlying5 Tryz.underlying9 H 0 s hB (Lib.spLo s.data.toList) (Lib.trimSpace s.data.toList).length (c - Lib.spLo s.data.toList) hl
  have e : s.extract (Lib.spLo s.data.toList) (Lib.spLo s.data.toList + (Lib.trimSpace s.data.toList).length) = trimA s := ba_eq (by
   rw [ext_list _ _ _ hl, List.drop_take, drop_spLo, show Lib.spLo s.data.toList + (Lib.trimSpace s.data.toList).length - Lib.spLo s.data.toList = (Lib.trimSpace s.data.toList).length from by omega, trim_prefix]
   rfl)
  rw [e] at h1; exact h1
theorem trimB_any {H c : Nat} {s : ByteArray} (w : World) (hB : Lib.Bytes w H 0 s) (hc : s.size ≤ c) (hs : s.size ≤ 1000000000) (ha : Asc s) {B : Nat} {G : Ge} (hG : Env B G w) : Calls Tryz.prog 43 #[.slice (some ⟨H, 0, none⟩) s.size c] w fun e w' => e = .returned (Lib.bytesTrimSpace H 0 c s.data.toList) ∧ w' = w := by
 have hx : (s.data.toList.map fun x : UInt8 => (x.toNat : Int)).length = s.size := by rw [List.length_map, len_list]
 have h := Any.bytes_TrimSpace { Tryz.lays188 with gNamed := gnB } H 0 s.size c (s.data.toList.map fun x => (x.toNat : Int)) w hx hc (by omega) (fun i hi => by
  have h1 := hB i hi
  rw [h1, List.getD_eq_getElem?_getD, List.getElem?_map, at_list hi]; rfl) (fun i hi => by
  rw [List.getD_eq_getElem?_getD, List.getElem?_map, at_list hi]
  have h2 := ha i (s[i]'hi) (at_list hi)
  simp only [Option.map_some, Option.getD_some]
  omega) hG.tabB
 rw [bytesOf_nums] at h
 exact h
theorem begins_ge {s h : ByteArray} (hs : h.size ≤ s.size) : decide ((s.extract 0 h.size).data.toList = h.data.toList) = Lib.hasPrefix s.data.toList h.data.toList := by
 unfold Lib.hasPrefix
 rw [ext_list _ _ _ hs, List.drop_zero]
 cases hp : h.data.toList.isPrefixOf s.data.toList with
 | true =>
  rw [decide_eq_true_iff]
  have := List.prefix_iff_eq_take.1 (List.isPrefixOf_iff_prefix.1 hp)
  rw [len_list] at this; exact this.symm
 | false =>
  rw [decide_eq_false_iff_not]
  intro e
  have h1 : h.data.toList <+: s.data.toList := List.prefix_iff_eq_take.2 (by rw [len_list]; exact e.symm)
  rw [List.isPrefixOf_iff_prefix.2 h1] at hp; cases hp
theorem begins_lt {s h : ByteArray} (hs : s.size < h.size) : Lib.hasPrefix s.data.toList h.data.toList = false := by
 unfold Lib.hasPrefix
 cases hp : h.data.toList.isPrefixOf s.data.toList with
 | false => rfl
 | true =>
  have := (List.isPrefixOf_iff_prefix.1 hp).length_le
  rw [len_list, len_list] at this; omega
theorem begins_any {s h : ByteArray} {b : Bool} (hz : h.size ≤ 1000) (hb : Lib.hasPrefix s.data.toList h.data.toList = b) (w : World) : Calls Tryz.prog 33 #[.string s, .string h] w fun e w' => e = .returned (.bool b) ∧ Below w.heap.size w w' := by
 rcases Nat.lt_or_ge s.size h.size with hlt | hge
 ·refine calls_of_ev Tryz.func33 rfl (show 2 ≤ 18 from by decide) ?_
  intro a hE
  have hE : Ev 18 ((0, .string s) :: (1, .string h) :: []) a := hE
  have hS : Sv 18 ((0, .string s) :: (1, .string h) :: []) [] (fun _ => False) w a w := Sv.start hE _ _
  clear hE
  rw [begins_lt hlt] at hb
  subst hb
  refine wp_seq ?_
  refine wp_region_lit ?_
  refine sv_r (v := .bool false) hS ex_ac fun a hS => ?_
  refine wpList_nil ?_
  replace hS := hS.cut [4, 0, 1]
  show Code.wp _ _ _ _ _
  refine wp_seq ?_
  refine wp_region_lit ?_
  refine sv_r (v := .string s) hS (ex_mv (hS.get 0 rfl)) fun a hS => ?_
  refine sv_r (v := .int .i64 ((s.size : Nat) : Int)) hS (ex_slen (ats := #[]) (hS.get 5 rfl)) fun a hS => ?_
  refine sv_r (v := .string h) hS (ex_mv (hS.get 1 rfl)) fun a hS => ?_
  refine sv_r (v := .int .i64 ((h.size : Nat) : Int)) hS (ex_slen (ats := #[]) (hS.get 7 rfl)) fun a hS => ?_
  refine sv_r (v := .bool false) hS (ei_geq (hS.get 6 rfl) (hS.get 8 rfl) (by rw [decide_eq_false_iff_not]; omega)) fun a hS => ?_
  refine sv_r (v := .bool false) hS (ex_mv (hS.get 9 rfl)) fun a hS => ?_
  refine sv_goff hS rfl rfl (hS.get 10 rfl) rfl rfl (by decide) ?_
  intro a hS
  refine sv_goff hS rfl rfl (hS.get 10 rfl) rfl rfl (by decide) ?_
  intro a hS
  refine sv_goff hS rfl rfl (hS.get 10 rfl) rfl rfl (by decide) ?_
  intro a hS
  refine sv_goff hS rfl rfl (hS.get 10 rfl) rfl rfl (by decide) ?_
  intro a hS
  refine sv_goff hS rfl rfl (hS.get 10 rfl) rfl rfl (by decide) ?_
  intro a hS
  refine sv_goff hS rfl rfl (hS.get 10 rfl) rfl rfl (by decide) ?_
  intro a hS
  refine sv_r (v := .bool false) hS (ex_pickF (hS.get 10 rfl) rfl) fun a hS => ?_
  refine sv_r (v := .bool false) hS (ex_as (hS.get 17 rfl)) fun a hS => ?_
  refine wpList_nil ?_
  replace hS := hS.cut [4]
  show Code.wp _ _ _ _ _
  refine wp_ret ?_
  try simp only [Exit.inBlock, Exit.then]
  exact ret_of_ev hS.ev rfl (hS.get 4 rfl) ⟨rfl, hS.toBelow⟩
 ·refine calls_of_ev Tryz.func33 rfl (show 2 ≤ 18 from by decide) ?_
  intro a hE
  have hE : Ev 18 ((0, .string s) :: (1, .string h) :: []) a := hE
  have hS : Sv 18 ((0, .string s) :: (1, .string h) :: []) [] (fun _ => False) w a w := Sv.start hE _ _
  clear hE
  rw [← begins_ge hge] at hb
  refine wp_seq ?_
  refine wp_region_lit ?_
  refine sv_r (v := .bool false) hS ex_ac fun a hS => ?_
  refine wpList_nil ?_
  replace hS := hS.cut [4, 0, 1]
  show Code.wp _ _ _ _ _
  refine wp_seq ?_
  refine wp_region_lit ?_
  refine sv_r (v := .string s) hS (ex_mv (hS.get 0 rfl)) fun a hS => ?_
  refine sv_r (v := .int .i64 ((s.size : Nat) : Int)) hS (ex_slen (ats := #[]) (hS.get 5 rfl)) fun a hS => ?_
  refine sv_r (v := .string h) hS (ex_mv (hS.get 1 rfl)) fun a hS => ?_
  refine sv_r (v := .int .i64 ((h.size : Nat) : Int)) hS (ex_slen (ats := #[]) (hS.get 7 rfl)) fun a hS => ?_
  refine sv_r (v := .bool true) hS (ei_geq (hS.get 6 rfl) (hS.get 8 rfl) (by rw [decide_eq_true_iff]; omega)) fun a hS => ?_
  refine sv_r (v := .bool true) hS (ex_mv (hS.get 9 rfl)) fun a hS => ?_
  refine sv_g (v := .string s) hS (hS.get 10 rfl) (ex_mv (hS.get 0 rfl)) fun a hS => ?_
  refine sv_g (v := .string h) hS (hS.get 10 rfl) (ex_mv (hS.get 1 rfl)) fun a hS => ?_
  refine sv_g (v := .int .i64 ((h.size : Nat) : Int)) hS (hS.get 10 rfl) (ex_slen (ats := #[]) (hS.get 12 rfl)) fun a hS => ?_
  refine sv_g (v := .string (s.extract 0 h.size)) hS (hS.get 10 rfl) (ex_ssh (hS.get 11 rfl) (hS.get 13 rfl) (by omega)) fun a hS => ?_
  refine sv_g (v := .string h) hS (hS.get 10 rfl) (ex_mv (hS.get 1 rfl)) fun a hS => ?_
  refine sv_g (v := .bool b) hS (hS.get 10 rfl) (ex_eqsk (hS.get 14 rfl) (hS.get 15 rfl) hb) fun a hS => ?_
  refine sv_r (v := .bool b) hS (ex_pickT (hS.get 10 rfl) (hS.get 16 rfl)) fun a hS => ?_
  refine sv_r (v := .bool b) hS (ex_as (hS.get 17 rfl)) fun a hS => ?_
  refine wpList_nil ?_
  replace hS := hS.cut [4]
  show Code.wp _ _ _ _ _
  refine wp_ret ?_
  try simp only [Exit.inBlock, Exit.then]
  exact ret_of_ev hS.ev rfl (hS.get 4 rfl) ⟨rfl, hS.toBelow⟩
end Go.Proofs.YtflppablgdegcaaGreatDoor
