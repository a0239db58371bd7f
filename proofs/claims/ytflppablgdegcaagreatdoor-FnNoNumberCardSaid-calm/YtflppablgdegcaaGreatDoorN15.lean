/- Joined: Dlver. -/
import Derived.Test.YtflppablgdegcaaGreatDoorN14
/- decodeLineOfMediaPlaylist: #EXT-X-VERSION: -/
set_option maxRecDepth 100000
set_option maxHeartbeats 8000000
namespace Go.Proofs.YtflppablgdegcaaGreatDoor
open Go.RowKit

theorem dl_ver_ok {B : Nat} {G : Ge} {gp gs : Nat} {s L : ByteArray} {st : Bool} {P0 P1 P2 P3 P4 P5 P6 P7 P8 P9 P10 P11 P12 P13 P14 P15 P16 P17 P18 P19 P21 P22 S0 S1 S2 S4 S5 S6 S7 S8 S9 S10 S11 S12 S13 S14 S15 S16 S17 S18 S19 : Value} {rest : List UInt8} (w : World) (hG : Env B G w) (hsz : s.size ≤ 1000000) (hasc : Asc s) (hLs : trimA s = L) (hL : L.data.toList = [35, 69, 88, 84, 45, 88, 45, 86, 69, 82, 83, 73, 79, 78, 58] ++ rest) {old nw : Nat} (hn : 15 ≤ L.size) (hz : ∀ w, Env B G w → Calls Tryz.prog 68 #[.string (L.extract 15 L.size), .int .u8 ((old : Nat) : Int)] w fun e w' => e = .returned (.tuple #[.int .u8 ((nw : Nat) : Int), .nilIface]) ∧ Below w.heap.size w w') (hgp : w.heap[gp]? = some (.cells #[P0, P1, P2, P3, P4, P5, P6, P7, P8, P9, P10, P11, P12, P13, P14, P15, P16, P17, P18, P19, .int .u8 ((old : Nat) : Int), P21, P22] 88 (0, 0))) (hgs : w.heap[gs]? = some (.cells #[S0, S1, S2, .bool false, S4, S5, S6, S7, S8, S9, S10, S11, S12, S13, S14, S15, S16, S17, S18, S19] 121 (0, 0))) (hne : gp ≠ gs) (hBp : B ≤ gp) (hBs : B ≤ gs) : Calls Tryz.prog 47 #[pt gp 0, pt gs 0, .string s, .bool st] w fun e w' => e = .returned .nilIface ∧ Only (fun q => q = gp ∨ q = gs) w w' ∧ w'.heap[gp]? = some (.cells #[P0, P1, P2, P3, P4, P5, P6, P7, P8, P9, P10, P11, P12, P13, P14, P15, P16, P17, P18, P19, .int .u8 ((nw : Nat) : Int), P21, P22] 88 (0, 0)) ∧ w'.heap[gs]? = some (.cells #[.int .u64 2, S1, S2, .bool false, S4, S5, S6, S7, S8, S9, S10, S11, S12, S13, S14, S15, S16, S17, S18, S19] 121 (0, 0)) := by
 refine calls_of_ev Tryz.func47 rfl (show 4 ≤ 1040 from by decide) ?_
 intro a hE
 have hE : Ev 1040 ((0, pt gp 0) :: (1, pt gs 0) :: (2, .string s) :: (3, .bool st) :: []) a := hE
 have hS : Sv 1040 ((0, pt gp 0) :: (1, pt gs 0) :: (2, .string s) :: (3, .bool st) :: []) [] (fun q => q = gp ∨ q = gs) w a w := Sv.start hE _ _
 clear hE
 replace hS : Sv 1040 ((0, pt gp 0) :: (1, pt gs 0) :: (2, .string s) :: (3, .bool st) :: []) [⟨gs, #[S0, S1, S2, .bool false, S4, S5, S6, S7, S8, S9, S10, S11, S12, S13, S14, S15, S16, S17, S18, S19], 121, true⟩, ⟨gp, #[P0, P1, P2, P3, P4, P5, P6, P7, P8, P9, P10, P11, P12, P13, P14, P15, P16, P17, P18, P19, .int .u8 ((old : Nat) : Int), P21, P22], 88, true⟩] (fun q => q = gp ∨ q = gs) w a w := ((hS.addB hgp (by intro q hq; cases hq) (fun _ => .inl (.inl rfl))).addB hgs (by intro q hq; cases List.mem_singleton.1 hq; exact hne) (fun _ => .inl (.inr rfl))).pick rfl
 refine wp_seq ?_
 refine wp_region_lit ?_
 refine sv_r (v := .nilIface) hS ex_ac fun a hS => ?_
 refine wpList_nil ?_
 replace hS := hS.cut [8, 0, 1, 2, 3]
 show Code.wp _ _ _ _ _
 refine wp_seq ?_
 refine wp_region_lit ?_
 refine sv_r (v := .nilIface) hS ex_ac fun a hS => ?_
 refine wpList_nil ?_
 replace hS := hS.cut [9, 8, 0, 1, 2, 3]
 show Code.wp _ _ _ _ _
 refine wp_seq ?_
 refine wp_region_lit ?_
 refine sv_r (v := .string s) hS (ex_mv (hS.get 2 rfl)) fun a hS => ?_
 refine sv_callv (v := .string L) hS rfl rfl (by decide) (ex_call1 cf_strings_TrimSpace (hS.get 30 rfl)) (trimL hLs (Nat.le_trans hsz (by decide)) hasc _ (hG.keep hS.only (fun q hq => by rcases hq with rfl | rfl; (· exact hBp); (· exact hBs)))) ?_
 intro a w1 hbw1 hS
 refine sv_r (v := .string L) hS (ex_as (hS.get 31 rfl)) fun a hS => ?_
 replace hS : Sv 1040 ((2, .string L) :: (9, .nilIface) :: (8, .nilIface) :: (0, pt gp 0) :: (1, pt gs 0) :: (3, .bool st) :: []) [⟨gs, #[S0, S1, S2, .bool false, S4, S5, S6, S7, S8, S9, S10, S11, S12, S13, S14, S15, S16, S17, S18, S19], 121, true⟩, ⟨gp, #[P0, P1, P2, P3, P4, P5, P6, P7, P8, P9, P10, P11, P12, P13, P14, P15, P16, P17, P18, P19, .int .u8 ((old : Nat) : Int), P21, P22], 88, true⟩] (fun q => q = gp ∨ q = gs) w a w1 := hS.pick rfl
 refine nx1 ?_
 refine wp_seq ?_
 refine wp_block ?_
 refine wp_seq ?_
 refine wp_region_lit ?_
 refine sv_r (v := pt gs 0) hS (ex_mv (hS.get 1 rfl)) fun a hS => ?_
 refine sv_r (v := pt gs 0) hS (ex_nc (hS.get 33 rfl)) fun a hS => ?_
 refine sv_r (v := pt gs 3) hS (ex_fo (hS.get 34 rfl) fo_m3u8_decodingState_3 rfl) fun a hS => ?_
 refine sv_r (v := .bool false) hS (ex_ld (hS.get 35 rfl) lt_bool (cell_of_heap (v := .bool false) (hS.at 0 rfl) rfl)) fun a hS => ?_
 refine sv_r (v := .bool true) hS (ex_not (hS.get 36 rfl)) fun a hS => ?_
 refine sv_r (v := .bool true) hS (ex_mv (hS.get 37 rfl)) fun a hS => ?_
 refine sv_g (v := .string L) hS (hS.get 38 rfl) (ex_mv (hS.get 2 rfl)) fun a hS => ?_
 refine sv_gcallq (v := .bool false) hS rfl rfl (hS.get 38 rfl) rfl (by decide) (ex_call2 cf_strings_HasPrefix (hS.get 39 rfl) rfl) (hasPf hL (by decide +kernel) _) ?_
 intro a hS
 refine sv_r (v := .bool false) hS (ex_pickT (hS.get 38 rfl) (hS.get 40 rfl)) fun a hS => ?_
 refine sv_r (v := .bool false) hS (ex_as (hS.get 41 rfl)) fun a hS => ?_
 refine wpList_nil ?_
 replace hS := hS.cut [32, 2, 9, 8, 0, 1, 3]
 show Code.wp _ _ _ _ _
 refine cond_f (hS.get 32 rfl) ?_
 refine wp_seq ?_
 refine wp_region_lit ?_
 refine sv_r (v := .string L) hS (ex_mv (hS.get 2 rfl)) fun a hS => ?_
 refine sv_callq (v := .bool true) hS rfl rfl (by decide) (ex_call2 cf_strings_HasPrefix (hS.get 88 rfl) rfl) (hasPt hL (by decide +kernel) _) ?_
 intro a hS
 refine sv_r (v := .bool false) hS (ex_not (hS.get 89 rfl)) fun a hS => ?_
 refine sv_r (v := .bool false) hS (ex_as (hS.get 90 rfl)) fun a hS => ?_
 refine wpList_nil ?_
 replace hS := hS.cut [87, 32, 2, 9, 8, 0, 1, 3]
 show Code.wp _ _ _ _ _
 refine cond_f (hS.get 87 rfl) ?_
 refine wp_seq ?_
 refine wp_region_lit ?_
 refine sv_r (v := .string L) hS (ex_mv (hS.get 2 rfl)) fun a hS => ?_
 refine sv_r (v := .bool false) hS (ex_eqsk (hS.get 352 rfl) rfl (by rw [decide_eq_false_iff_not, hL]; simp)) fun a hS => ?_
 refine sv_r (v := .bool false) hS (ex_as (hS.get 353 rfl)) fun a hS => ?_
 replace hS : Sv 1040 ((351, .bool false) :: (87, .bool false) :: (32, .bool false) :: (2, .string L) :: (9, .nilIface) :: (8, .nilIface) :: (0, pt gp 0) :: (1, pt gs 0) :: (3, .bool st) :: []) [⟨gs, #[S0, S1, S2, .bool false, S4, S5, S6, S7, S8, S9, S10, S11, S12, S13, S14, S15, S16, S17, S18, S19], 121, true⟩, ⟨gp, #[P0, P1, P2, P3, P4, P5, P6, P7, P8, P9, P10, P11, P12, P13, P14, P15, P16, P17, P18, P19, .int .u8 ((old : Nat) : Int), P21, P22], 88, true⟩] (fun q => q = gp ∨ q = gs) w a w1 := hS.pick rfl
 refine nx1 ?_
 refine cond_f (hS.get 351 rfl) ?_
 refine wp_seq ?_
 refine wp_region_lit ?_
 refine sv_r (v := .string L) hS (ex_mv (hS.get 2 rfl)) fun a hS => ?_
 refine sv_r (v := .bool false) hS (ex_eqsk (hS.get 358 rfl) rfl (by rw [decide_eq_false_iff_not, hL]; simp)) fun a hS => ?_
 refine sv_r (v := .bool false) hS (ex_as (hS.get 359 rfl)) fun a hS => ?_
 refine wpList_nil ?_
 replace hS := hS.cut [357, 351, 87, 32, 2, 9, 8, 0, 1, 3]
 show Code.wp _ _ _ _ _
 refine cond_f (hS.get 357 rfl) ?_
 refine wp_seq ?_
 refine wp_region_lit ?_
 refine sv_r (v := .string L) hS (ex_mv (hS.get 2 rfl)) fun a hS => ?_
 refine sv_callq (v := .bool true) hS rfl rfl (by decide) (ex_call2 cf_strings_HasPrefix (hS.get 367 rfl) rfl) (hasPt hL (by decide +kernel) _) ?_
 intro a hS
 refine sv_r (v := .bool true) hS (ex_as (hS.get 368 rfl)) fun a hS => ?_
 refine wpList_nil ?_
 replace hS := hS.cut [366, 357, 351, 87, 32, 2, 9, 8, 0, 1, 3]
 show Code.wp _ _ _ _ _
 refine cond_t (hS.get 366 rfl) ?_
 refine wp_seq ?_
 refine wp_region_lit ?_
 refine sv_r (v := pt gs 0) hS (ex_mv (hS.get 1 rfl)) fun a hS => ?_
 refine sv_r (v := pt gs 0) hS (ex_nc (hS.get 369 rfl)) fun a hS => ?_
 refine sv_r (v := pt gs 0) hS (ex_fo (hS.get 370 rfl) fo_m3u8_decodingState_0 rfl) fun a hS => ?_
 refine sv_st (i := 0) (v := .int .u64 2) (cs' := #[.int .u64 2, S1, S2, .bool false, S4, S5, S6, S7, S8, S9, S10, S11, S12, S13, S14, S15, S16, S17, S18, S19]) (m' := [⟨gs, #[.int .u64 2, S1, S2, .bool false, S4, S5, S6, S7, S8, S9, S10, S11, S12, S13, S14, S15, S16, S17, S18, S19], 121, true⟩, ⟨gp, #[P0, P1, P2, P3, P4, P5, P6, P7, P8, P9, P10, P11, P12, P13, P14, P15, P16, P17, P18, P19, .int .u8 ((old : Nat) : Int), P21, P22], 88, true⟩]) hS (su_m3u8_ListType _) (hS.get 371 rfl) rfl rfl (show 0 < 20 from by decide) rfl rfl ?_
 intro w2 hty hS
 replace hS : Sv 1040 ((366, .bool true) :: (357, .bool false) :: (351, .bool false) :: (87, .bool false) :: (32, .bool false) :: (2, .string L) :: (9, .nilIface) :: (8, .nilIface) :: (0, pt gp 0) :: (1, pt gs 0) :: (3, .bool st) :: []) [⟨gs, #[.int .u64 2, S1, S2, .bool false, S4, S5, S6, S7, S8, S9, S10, S11, S12, S13, S14, S15, S16, S17, S18, S19], 121, true⟩, ⟨gp, #[P0, P1, P2, P3, P4, P5, P6, P7, P8, P9, P10, P11, P12, P13, P14, P15, P16, P17, P18, P19, .int .u8 ((old : Nat) : Int), P21, P22], 88, true⟩] (fun q => q = gp ∨ q = gs) w a w2 := hS.pick rfl
 refine nx1 ?_
 refine wp_seq ?_
 have hGw : Env B G w2 := (hG.keep hS.only (fun q hq => by rcases hq with rfl | rfl; (· exact hBp); (· exact hBs)))
 let cf3 : Nat → Array Value := fun k : Nat => if k = 0 then #[P0, P1, P2, P3, P4, P5, P6, P7, P8, P9, P10, P11, P12, P13, P14, P15, P16, P17, P18, P19, .int .u8 ((old : Nat) : Int), P21, P22] else #[P0, P1, P2, P3, P4, P5, P6, P7, P8, P9, P10, P11, P12, P13, P14, P15, P16, P17, P18, P19, .int .u8 ((nw : Nat) : Int), P21, P22]
 refine G2.wp_region_sto (N := 1040) [G2.Ast.eq (pt gp 0), G2.Ast.eq (.string L), G2.Ast.eq (.string (L.extract 15 L.size)), G2.Ast.eq (pt gp 0), G2.Ast.eq (pt gp 0), G2.Ast.eq (pt gp 20), G2.Ast.eq (.int .u8 ((old : Nat) : Int)), G2.Ast.eq (.tuple #[.int .u8 ((nw : Nat) : Int), .nilIface]), G2.Ast.eq (.tuple #[.int .u8 ((nw : Nat) : Int), .nilIface]), G2.Ast.eq (.int .u8 ((nw : Nat) : Int)), G2.Ast.eq (.nilIface), G2.Ast.eq (pt gp 0), G2.Ast.eq (pt gp 20), G2.Ast.sto 1, G2.Ast.eq (.nilIface)] gp 88 1 cf3 (by kernel_rfl) (by kernel_rfl) (by kernel_rfl) hS.ev.size (by simp) ?_ ?_
 ·refine ⟨?_, ?_, ?_, ?_, ?_, ?_, ?_, ?_, ?_, ?_, ?_, ?_, ?_, ?_, ?_, trivial⟩
  ·intro a wx c
   have e_0 : a.eval (.tmp 0) = pt gp 0 := c.outE (by decide +kernel) (hS.get 0 rfl)
   clear c
   exact G2.og_val (ex_mv e_0) rfl
  ·intro a wx c
   have e_2 : a.eval (.tmp 2) = .string L := c.outE (by decide +kernel) (hS.get 2 rfl)
   clear c
   exact G2.og_val (ex_mv e_2) rfl
  ·intro a wx c
   have e_374 : a.eval (.tmp 374) = .string L := c.slot 1 _ (by decide +kernel) rfl
   clear c
   exact G2.og_val (ex_ssl (i := 15) e_374 rfl (by omega)) rfl
  ·intro a wx c
   have e_0 : a.eval (.tmp 0) = pt gp 0 := c.outE (by decide +kernel) (hS.get 0 rfl)
   clear c
   exact G2.og_val (ex_mv e_0) rfl
  ·intro a wx c
   have e_376 : a.eval (.tmp 376) = pt gp 0 := c.slot 3 _ (by decide +kernel) rfl
   clear c
   exact G2.og_val (ex_nc e_376) rfl
  ·intro a wx c
   have e_377 : a.eval (.tmp 377) = pt gp 0 := c.slot 4 _ (by decide +kernel) rfl
   clear c
   exact G2.og_val (ex_fo e_377 fo_m3u8_MediaPlaylist_18 rfl) rfl
  ·intro a wx c
   have e_378 : a.eval (.tmp 378) = pt gp 20 := c.slot 5 _ (by decide +kernel) rfl
   have hK1 := G2.sto_first hS c 1 rfl rfl (by kernel_rfl)
   clear c
   exact G2.og_val (ex_ld e_378 lt_uint8 (cell_of_heap (v := .int .u8 ((old : Nat) : Int)) hK1 rfl)) rfl
  ·intro a wx c
   have e_375 : a.eval (.tmp 375) = .string (L.extract 15 L.size) := c.slot 2 _ (by decide +kernel) rfl
   have e_379 : a.eval (.tmp 379) = .int .u8 ((old : Nat) : Int) := c.slot 6 _ (by decide +kernel) rfl
   have hGx : Env B G wx := hGw.keep (only_sto c) (fun q hq => by rw [hq]; exact hBp)
   clear c
   have hcl : Calls Tryz.prog _ _ wx (fun e w' => e = .returned (.tuple #[.int .u8 ((nw : Nat) : Int), .nilIface]) ∧ Below wx.heap.size wx w') := hz _ hGx
   refine G2.og_call (ex_call2 cf_m3u8_zzUint8 e_375 e_379) (Calls.mono hcl ?_)
   rintro e w' ⟨rfl, hb⟩
   exact ⟨_, rfl, hb, rfl⟩
  ·intro a wx c
   have e_380 : a.eval (.tmp 380) = .tuple #[.int .u8 ((nw : Nat) : Int), .nilIface] := c.slot 7 _ (by decide +kernel) rfl
   clear c
   exact G2.og_val (ex_mv e_380) rfl
  ·intro a wx c
   have e_372 : a.eval (.tmp 372) = .tuple #[.int .u8 ((nw : Nat) : Int), .nilIface] := c.slot 8 _ (by decide +kernel) rfl
   clear c
   exact G2.og_val (ei_ext e_372 rfl) rfl
  ·intro a wx c
   have e_372 : a.eval (.tmp 372) = .tuple #[.int .u8 ((nw : Nat) : Int), .nilIface] := c.slot 8 _ (by decide +kernel) rfl
   clear c
   exact G2.og_val (ei_ext e_372 rfl) rfl
  ·intro a wx c
   have e_373 : a.eval (.tmp 373) = pt gp 0 := c.slot 0 _ (by decide +kernel) rfl
   clear c
   exact G2.og_val (ex_nc e_373) rfl
  ·intro a wx c
   have e_383 : a.eval (.tmp 383) = pt gp 0 := c.slot 11 _ (by decide +kernel) rfl
   clear c
   exact G2.og_val (ex_fo e_383 fo_m3u8_MediaPlaylist_18 rfl) rfl
  ·intro a wx c
   have e_384 : a.eval (.tmp 384) = pt gp 20 := c.slot 12 _ (by decide +kernel) rfl
   have e_381 : a.eval (.tmp 381) = .int .u8 ((nw : Nat) : Int) := c.slot 9 _ (by decide +kernel) rfl
   have ms3 := G2.sto_first hS c 1 rfl rfl (by kernel_rfl)
   clear c
   exact G2.og_sto (k := 1) (m := 0) (m' := 1) (off := 20) rfl ms3 (su_uint8 _) e_384 e_381 (show 20 < 23 from by decide) rfl (by decide) (by decide)
  ·intro a wx c
   have e_382 : a.eval (.tmp 382) = .nilIface := c.slot 10 _ (by decide +kernel) rfl
   clear c
   exact G2.og_val (ex_as e_382) rfl
 ·intro a w4 c
  obtain ⟨mi, ms1, ms2, ms3⟩ : ∃ mi, 1 ≤ mi ∧ mi ≤ 1 ∧ w4.heap[gp]? = some (.cells (cf3 mi) 88 (0, 0)) := c.slot 13 _ rfl
  obtain rfl : mi = 1 := by omega
  have ms3 : w4.heap[gp]? = some (.cells #[P0, P1, P2, P3, P4, P5, P6, P7, P8, P9, P10, P11, P12, P13, P14, P15, P16, P17, P18, P19, .int .u8 ((nw : Nat) : Int), P21, P22] 88 (0, 0)) := ms3
  obtain ⟨hS', hty⟩ := G2.sto_end (m' := [⟨gs, #[.int .u64 2, S1, S2, .bool false, S4, S5, S6, S7, S8, S9, S10, S11, S12, S13, S14, S15, S16, S17, S18, S19], 121, true⟩, ⟨gp, #[P0, P1, P2, P3, P4, P5, P6, P7, P8, P9, P10, P11, P12, P13, P14, P15, P16, P17, P18, P19, .int .u8 ((nw : Nat) : Int), P21, P22], 88, true⟩]) hS c (i := 1) rfl rfl ms3
  replace hS : Sv 1040 ((9, .nilIface) :: (3, .bool st) :: (1, pt gs 0) :: (0, pt gp 0) :: (8, .nilIface) :: (2, .string L) :: (32, .bool false) :: (87, .bool false) :: (351, .bool false) :: (357, .bool false) :: (366, .bool true) :: []) [⟨gs, #[.int .u64 2, S1, S2, .bool false, S4, S5, S6, S7, S8, S9, S10, S11, S12, S13, S14, S15, S16, S17, S18, S19], 121, true⟩, ⟨gp, #[P0, P1, P2, P3, P4, P5, P6, P7, P8, P9, P10, P11, P12, P13, P14, P15, P16, P17, P18, P19, .int .u8 ((nw : Nat) : Int), P21, P22], 88, true⟩] (fun q => q = gp ∨ q = gs) w a w4 := (((((((((((hS'.know (c.outS (by decide +kernel) (hS.get 366 rfl))).know (c.outS (by decide +kernel) (hS.get 357 rfl))).know (c.outS (by decide +kernel) (hS.get 351 rfl))).know (c.outS (by decide +kernel) (hS.get 87 rfl))).know (c.outS (by decide +kernel) (hS.get 32 rfl))).know (c.outS (by decide +kernel) (hS.get 2 rfl))).know (c.outS (by decide +kernel) (hS.get 8 rfl))).know (c.outS (by decide +kernel) (hS.get 0 rfl))).know (c.outS (by decide +kernel) (hS.get 1 rfl))).know (c.outS (by decide +kernel) (hS.get 3 rfl))).know (a := a) (t := 9) (v := .nilIface) (c.slot 14 _ rfl))
  clear c hS'
  replace hS := hS.cut [9, 3, 1, 0, 8, 2, 32, 87, 351, 357, 366]
  show Code.wp _ _ _ _ _
  refine wp_seq ?_
  cases st with
  | true =>
   refine wp_region_lit ?_
   refine sv_r (v := .bool true) hS (ex_mv (hS.get 3 rfl)) fun a hS => ?_
   refine sv_r (v := .bool true) hS (ex_mv (hS.get 385 rfl)) fun a hS => ?_
   refine sv_g (v := .nilIface) hS (hS.get 386 rfl) (ex_mv (hS.get 9 rfl)) fun a hS => ?_
   refine sv_g (v := .bool false) hS (hS.get 386 rfl) (ex_ine eqi_error (hS.get 387 rfl)) fun a hS => ?_
   refine sv_r (v := .bool false) hS (ex_pickT (hS.get 386 rfl) (hS.get 388 rfl)) fun a hS => ?_
   refine wpList_nil ?_
   replace hS := hS.cut [389, 9, 3, 1, 0, 8, 2, 32, 87, 351, 357, 366]
   show Code.wp _ _ _ _ _
   refine cond_f (hS.get 389 rfl) ?_
   refine wp_skip ?_
   show Code.wp _ _ _ _ _
   refine wp_seq ?_
   refine wp_region_lit ?_
   refine sv_r (v := .nilIface) hS (ex_mv (hS.get 9 rfl)) fun a hS => ?_
   refine sv_r (v := .nilIface) hS (ex_as (hS.get 1039 rfl)) fun a hS => ?_
   replace hS : Sv 1040 ((8, .nilIface) :: (389, .bool false) :: (9, .nilIface) :: (3, .bool true) :: (1, pt gs 0) :: (0, pt gp 0) :: (2, .string L) :: (32, .bool false) :: (87, .bool false) :: (351, .bool false) :: (357, .bool false) :: (366, .bool true) :: []) [⟨gs, #[.int .u64 2, S1, S2, .bool false, S4, S5, S6, S7, S8, S9, S10, S11, S12, S13, S14, S15, S16, S17, S18, S19], 121, true⟩, ⟨gp, #[P0, P1, P2, P3, P4, P5, P6, P7, P8, P9, P10, P11, P12, P13, P14, P15, P16, P17, P18, P19, .int .u8 ((nw : Nat) : Int), P21, P22], 88, true⟩] (fun q => q = gp ∨ q = gs) w a w4 := hS.pick rfl
   refine nx1 ?_
   refine wp_ret ?_
   try simp only [Exit.inBlock, Exit.then]
   exact ret_of_ev hS.ev rfl (hS.get 8 rfl) ⟨rfl, hS.only, hS.at 1 rfl, hS.at 0 rfl⟩
  | false =>
   refine wp_region_lit ?_
   refine sv_r (v := .bool false) hS (ex_mv (hS.get 3 rfl)) fun a hS => ?_
   refine sv_r (v := .bool false) hS (ex_mv (hS.get 385 rfl)) fun a hS => ?_
   refine sv_goff hS rfl rfl (hS.get 386 rfl) rfl rfl (by decide) ?_
   intro a hS
   refine sv_goff hS rfl rfl (hS.get 386 rfl) rfl rfl (by decide) ?_
   intro a hS
   refine sv_r (v := .bool false) hS (ex_pickF (hS.get 386 rfl) rfl) fun a hS => ?_
   refine wpList_nil ?_
   replace hS := hS.cut [389, 9, 3, 1, 0, 8, 2, 32, 87, 351, 357, 366]
   show Code.wp _ _ _ _ _
   refine cond_f (hS.get 389 rfl) ?_
   refine wp_skip ?_
   show Code.wp _ _ _ _ _
   refine wp_seq ?_
   refine wp_region_lit ?_
   refine sv_r (v := .nilIface) hS (ex_mv (hS.get 9 rfl)) fun a hS => ?_
   refine sv_r (v := .nilIface) hS (ex_as (hS.get 1039 rfl)) fun a hS => ?_
   replace hS : Sv 1040 ((8, .nilIface) :: (389, .bool false) :: (9, .nilIface) :: (3, .bool false) :: (1, pt gs 0) :: (0, pt gp 0) :: (2, .string L) :: (32, .bool false) :: (87, .bool false) :: (351, .bool false) :: (357, .bool false) :: (366, .bool true) :: []) [⟨gs, #[.int .u64 2, S1, S2, .bool false, S4, S5, S6, S7, S8, S9, S10, S11, S12, S13, S14, S15, S16, S17, S18, S19], 121, true⟩, ⟨gp, #[P0, P1, P2, P3, P4, P5, P6, P7, P8, P9, P10, P11, P12, P13, P14, P15, P16, P17, P18, P19, .int .u8 ((nw : Nat) : Int), P21, P22], 88, true⟩] (fun q => q = gp ∨ q = gs) w a w4 := hS.pick rfl
   refine nx1 ?_
   refine wp_ret ?_
   try simp only [Exit.inBlock, Exit.then]
   exact ret_of_ev hS.ev rfl (hS.get 8 rfl) ⟨rfl, hS.only, hS.at 1 rfl, hS.at 0 rfl⟩
theorem dl_ver_bad {B : Nat} {G : Ge} {gp gs : Nat} {s L : ByteArray} {st : Bool} {P0 P1 P2 P3 P4 P5 P6 P7 P8 P9 P10 P11 P12 P13 P14 P15 P16 P17 P18 P19 P21 P22 S0 S1 S2 S4 S5 S6 S7 S8 S9 S10 S11 S12 S13 S14 S15 S16 S17 S18 S19 : Value} {rest : List UInt8} (w : World) (hG : Env B G w) (hsz : s.size ≤ 1000000) (hasc : Asc s) (hLs : trimA s = L) (hL : L.data.toList = [35, 69, 88, 84, 45, 88, 45, 86, 69, 82, 83, 73, 79, 78, 58] ++ rest) {old : Nat} (hn : 15 ≤ L.size) (hz : ∀ w, Env B G w → Calls Tryz.prog 68 #[.string (L.extract 15 L.size), .int .u8 ((old : Nat) : Int)] w fun e w' => ∃ v, e = .returned v ∧ Below w.heap.size w w' ∧ ∃ ev, v = .tuple #[.int .u8 ((old : Nat) : Int), ev] ∧ IsErr ev) (hgp : w.heap[gp]? = some (.cells #[P0, P1, P2, P3, P4, P5, P6, P7, P8, P9, P10, P11, P12, P13, P14, P15, P16, P17, P18, P19, .int .u8 ((old : Nat) : Int), P21, P22] 88 (0, 0))) (hgs : w.heap[gs]? = some (.cells #[S0, S1, S2, .bool false, S4, S5, S6, S7, S8, S9, S10, S11, S12, S13, S14, S15, S16, S17, S18, S19] 121 (0, 0))) (hne : gp ≠ gs) (hBp : B ≤ gp) (hBs : B ≤ gs) : Calls Tryz.prog 47 #[pt gp 0, pt gs 0, .string s, .bool st] w fun e w' => ∃ ev, e = .returned ev ∧ IsErr ev ∧ Only (fun q => q = gp ∨ q = gs) w w' ∧ w'.heap[gp]? = some (.cells #[P0, P1, P2, P3, P4, P5, P6, P7, P8, P9, P10, P11, P12, P13, P14, P15, P16, P17, P18, P19, .int .u8 ((old : Nat) : Int), P21, P22] 88 (0, 0)) ∧ w'.heap[gs]? = some (.cells #[.int .u64 2, S1, S2, .bool false, S4, S5, S6, S7, S8, S9, S10, S11, S12, S13, S14, S15, S16, S17, S18, S19] 121 (0, 0)) := by
 refine calls_of_ev Tryz.func47 rfl (show 4 ≤ 1040 from by decide) ?_
 intro a hE
 have hE : Ev 1040 ((0, pt gp 0) :: (1, pt gs 0) :: (2, .string s) :: (3, .bool st) :: []) a := hE
 have hS : Sv 1040 ((0, pt gp 0) :: (1, pt gs 0) :: (2, .string s) :: (3, .bool st) :: []) [] (fun q => q = gp ∨ q = gs) w a w := Sv.start hE _ _
 clear hE
 replace hS : Sv 1040 ((0, pt gp 0) :: (1, pt gs 0) :: (2, .string s) :: (3, .bool st) :: []) [⟨gs, #[S0, S1, S2, .bool false, S4, S5, S6, S7, S8, S9, S10, S11, S12, S13, S14, S15, S16, S17, S18, S19], 121, true⟩, ⟨gp, #[P0, P1, P2, P3, P4, P5, P6, P7, P8, P9, P10, P11, P12, P13, P14, P15, P16, P17, P18, P19, .int .u8 ((old : Nat) : Int), P21, P22], 88, true⟩] (fun q => q = gp ∨ q = gs) w a w := ((hS.addB hgp (by intro q hq; cases hq) (fun _ => .inl (.inl rfl))).addB hgs (by intro q hq; cases List.mem_singleton.1 hq; exact hne) (fun _ => .inl (.inr rfl))).pick rfl
 refine wp_seq ?_
 refine wp_region_lit ?_
 refine sv_r (v := .nilIface) hS ex_ac fun a hS => ?_
 refine wpList_nil ?_
 replace hS := hS.cut [8, 0, 1, 2, 3]
 show Code.wp _ _ _ _ _
 refine wp_seq ?_
 refine wp_region_lit ?_
 refine sv_r (v := .nilIface) hS ex_ac fun a hS => ?_
 refine wpList_nil ?_
 replace hS := hS.cut [9, 8, 0, 1, 2, 3]
 show Code.wp _ _ _ _ _
 refine wp_seq ?_
 refine wp_region_lit ?_
 refine sv_r (v := .string s) hS (ex_mv (hS.get 2 rfl)) fun a hS => ?_
 refine sv_callv (v := .string L) hS rfl rfl (by decide) (ex_call1 cf_strings_TrimSpace (hS.get 30 rfl)) (trimL hLs (Nat.le_trans hsz (by decide)) hasc _ (hG.keep hS.only (fun q hq => by rcases hq with rfl | rfl; (· exact hBp); (· exact hBs)))) ?_
 intro a w1 hbw1 hS
 refine sv_r (v := .string L) hS (ex_as (hS.get 31 rfl)) fun a hS => ?_
 replace hS : Sv 1040 ((2, .string L) :: (9, .nilIface) :: (8, .nilIface) :: (0, pt gp 0) :: (1, pt gs 0) :: (3, .bool st) :: []) [⟨gs, #[S0, S1, S2, .bool false, S4, S5, S6, S7, S8, S9, S10, S11, S12, S13, S14, S15, S16, S17, S18, S19], 121, true⟩, ⟨gp, #[P0, P1, P2, P3, P4, P5, P6, P7, P8, P9, P10, P11, P12, P13, P14, P15, P16, P17, P18, P19, .int .u8 ((old : Nat) : Int), P21, P22], 88, true⟩] (fun q => q = gp ∨ q = gs) w a w1 := hS.pick rfl
 refine nx1 ?_
 refine wp_seq ?_
 refine wp_block ?_
 refine wp_seq ?_
 refine wp_region_lit ?_
 refine sv_r (v := pt gs 0) hS (ex_mv (hS.get 1 rfl)) fun a hS => ?_
 refine sv_r (v := pt gs 0) hS (ex_nc (hS.get 33 rfl)) fun a hS => ?_
 refine sv_r (v := pt gs 3) hS (ex_fo (hS.get 34 rfl) fo_m3u8_decodingState_3 rfl) fun a hS => ?_
 refine sv_r (v := .bool false) hS (ex_ld (hS.get 35 rfl) lt_bool (cell_of_heap (v := .bool false) (hS.at 0 rfl) rfl)) fun a hS => ?_
 refine sv_r (v := .bool true) hS (ex_not (hS.get 36 rfl)) fun a hS => ?_
 refine sv_r (v := .bool true) hS (ex_mv (hS.get 37 rfl)) fun a hS => ?_
 refine sv_g (v := .string L) hS (hS.get 38 rfl) (ex_mv (hS.get 2 rfl)) fun a hS => ?_
 refine sv_gcallq (v := .bool false) hS rfl rfl (hS.get 38 rfl) rfl (by decide) (ex_call2 cf_strings_HasPrefix (hS.get 39 rfl) rfl) (hasPf hL (by decide +kernel) _) ?_
 intro a hS
 refine sv_r (v := .bool false) hS (ex_pickT (hS.get 38 rfl) (hS.get 40 rfl)) fun a hS => ?_
 refine sv_r (v := .bool false) hS (ex_as (hS.get 41 rfl)) fun a hS => ?_
 refine wpList_nil ?_
 replace hS := hS.cut [32, 2, 9, 8, 0, 1, 3]
 show Code.wp _ _ _ _ _
 refine cond_f (hS.get 32 rfl) ?_
 refine wp_seq ?_
 refine wp_region_lit ?_
 refine sv_r (v := .string L) hS (ex_mv (hS.get 2 rfl)) fun a hS => ?_
 refine sv_callq (v := .bool true) hS rfl rfl (by decide) (ex_call2 cf_strings_HasPrefix (hS.get 88 rfl) rfl) (hasPt hL (by decide +kernel) _) ?_
 intro a hS
 refine sv_r (v := .bool false) hS (ex_not (hS.get 89 rfl)) fun a hS => ?_
 refine sv_r (v := .bool false) hS (ex_as (hS.get 90 rfl)) fun a hS => ?_
 refine wpList_nil ?_
 replace hS := hS.cut [87, 32, 2, 9, 8, 0, 1, 3]
 show Code.wp _ _ _ _ _
 refine cond_f (hS.get 87 rfl) ?_
 refine wp_seq ?_
 refine wp_region_lit ?_
 refine sv_r (v := .string L) hS (ex_mv (hS.get 2 rfl)) fun a hS => ?_
 refine sv_r (v := .bool false) hS (ex_eqsk (hS.get 352 rfl) rfl (by rw [decide_eq_false_iff_not, hL]; simp)) fun a hS => ?_
 refine sv_r (v := .bool false) hS (ex_as (hS.get 353 rfl)) fun a hS => ?_
 replace hS : Sv 1040 ((351, .bool false) :: (87, .bool false) :: (32, .bool false) :: (2, .string L) :: (9, .nilIface) :: (8, .nilIface) :: (0, pt gp 0) :: (1, pt gs 0) :: (3, .bool st) :: []) [⟨gs, #[S0, S1, S2, .bool false, S4, S5, S6, S7, S8, S9, S10, S11, S12, S13, S14, S15, S16, S17, S18, S19], 121, true⟩, ⟨gp, #[P0, P1, P2, P3, P4, P5, P6, P7, P8, P9, P10, P11, P12, P13, P14, P15, P16, P17, P18, P19, .int .u8 ((old : Nat) : Int), P21, P22], 88, true⟩] (fun q => q = gp ∨ q = gs) w a w1 := hS.pick rfl
 refine nx1 ?_
 refine cond_f (hS.get 351 rfl) ?_
 refine wp_seq ?_
 refine wp_region_lit ?_
 refine sv_r (v := .string L) hS (ex_mv (hS.get 2 rfl)) fun a hS => ?_
 refine sv_r (v := .bool false) hS (ex_eqsk (hS.get 358 rfl) rfl (by rw [decide_eq_false_iff_not, hL]; simp)) fun a hS => ?_
 refine sv_r (v := .bool false) hS (ex_as (hS.get 359 rfl)) fun a hS => ?_
 refine wpList_nil ?_
 replace hS := hS.cut [357, 351, 87, 32, 2, 9, 8, 0, 1, 3]
 show Code.wp _ _ _ _ _
 refine cond_f (hS.get 357 rfl) ?_
 refine wp_seq ?_
 refine wp_region_lit ?_
 refine sv_r (v := .string L) hS (ex_mv (hS.get 2 rfl)) fun a hS => ?_
 refine sv_callq (v := .bool true) hS rfl rfl (by decide) (ex_call2 cf_strings_HasPrefix (hS.get 367 rfl) rfl) (hasPt hL (by decide +kernel) _) ?_
 intro a hS
 refine sv_r (v := .bool true) hS (ex_as (hS.get 368 rfl)) fun a hS => ?_
 refine wpList_nil ?_
 replace hS := hS.cut [366, 357, 351, 87, 32, 2, 9, 8, 0, 1, 3]
 show Code.wp _ _ _ _ _
 refine cond_t (hS.get 366 rfl) ?_
 refine wp_seq ?_
 refine wp_region_lit ?_
 refine sv_r (v := pt gs 0) hS (ex_mv (hS.get 1 rfl)) fun a hS => ?_
 refine sv_r (v := pt gs 0) hS (ex_nc (hS.get 369 rfl)) fun a hS => ?_
 refine sv_r (v := pt gs 0) hS (ex_fo (hS.get 370 rfl) fo_m3u8_decodingState_0 rfl) fun a hS => ?_
 refine sv_st (i := 0) (v := .int .u64 2) (cs' := #[.int .u64 2, S1, S2, .bool false, S4, S5, S6, S7, S8, S9, S10, S11, S12, S13, S14, S15, S16, S17, S18, S19]) (m' := [⟨gs, #[.int .u64 2, S1, S2, .bool false, S4, S5, S6, S7, S8, S9, S10, S11, S12, S13, S14, S15, S16, S17, S18, S19], 121, true⟩, ⟨gp, #[P0, P1, P2, P3, P4, P5, P6, P7, P8, P9, P10, P11, P12, P13, P14, P15, P16, P17, P18, P19, .int .u8 ((old : Nat) : Int), P21, P22], 88, true⟩]) hS (su_m3u8_ListType _) (hS.get 371 rfl) rfl rfl (show 0 < 20 from by decide) rfl rfl ?_
 intro w2 hty hS
 replace hS : Sv 1040 ((366, .bool true) :: (357, .bool false) :: (351, .bool false) :: (87, .bool false) :: (32, .bool false) :: (2, .string L) :: (9, .nilIface) :: (8, .nilIface) :: (0, pt gp 0) :: (1, pt gs 0) :: (3, .bool st) :: []) [⟨gs, #[.int .u64 2, S1, S2, .bool false, S4, S5, S6, S7, S8, S9, S10, S11, S12, S13, S14, S15, S16, S17, S18, S19], 121, true⟩, ⟨gp, #[P0, P1, P2, P3, P4, P5, P6, P7, P8, P9, P10, P11, P12, P13, P14, P15, P16, P17, P18, P19, .int .u8 ((old : Nat) : Int), P21, P22], 88, true⟩] (fun q => q = gp ∨ q = gs) w a w2 := hS.pick rfl
 refine nx1 ?_
 refine wp_seq ?_
 have hGw : Env B G w2 := (hG.keep hS.only (fun q hq => by rcases hq with rfl | rfl; (· exact hBp); (· exact hBs)))
 let cf3 : Nat → Array Value := fun k : Nat => if k = 0 then #[P0, P1, P2, P3, P4, P5, P6, P7, P8, P9, P10, P11, P12, P13, P14, P15, P16, P17, P18, P19, .int .u8 ((old : Nat) : Int), P21, P22] else #[P0, P1, P2, P3, P4, P5, P6, P7, P8, P9, P10, P11, P12, P13, P14, P15, P16, P17, P18, P19, .int .u8 ((old : Nat) : Int), P21, P22]
 refine G2.wp_region_sto (N := 1040) [G2.Ast.eq (pt gp 0), G2.Ast.eq (.string L), G2.Ast.eq (.string (L.extract 15 L.size)), G2.Ast.eq (pt gp 0), G2.Ast.eq (pt gp 0), G2.Ast.eq (pt gp 20), G2.Ast.eq (.int .u8 ((old : Nat) : Int)), G2.Ast.any (fun v _ => ∃ (et : TypeId) (eN : Nat), v = .tuple #[.int .u8 ((old : Nat) : Int), .iface et (pt eN 0)]), G2.Ast.any (fun v _ => ∃ (et : TypeId) (eN : Nat), v = .tuple #[.int .u8 ((old : Nat) : Int), .iface et (pt eN 0)]), G2.Ast.eq (.int .u8 ((old : Nat) : Int)), G2.Ast.any (fun v _ => ∃ (et : TypeId) (eN : Nat), v = .iface et (pt eN 0)), G2.Ast.eq (pt gp 0), G2.Ast.eq (pt gp 20), G2.Ast.sto 1, G2.Ast.any (fun v _ => ∃ (et : TypeId) (eN : Nat), v = .iface et (pt eN 0))] gp 88 1 cf3 (by kernel_rfl) (by kernel_rfl) (by kernel_rfl) hS.ev.size (by intro p hp v w1 w2 _ h; simp only [List.mem_cons, List.not_mem_nil, or_false, reduceCtorEq, false_or, G2.Ast.any.injEq] at hp; rcases hp with rfl | rfl | rfl | rfl <;> exact h) ?_ ?_
 ·refine ⟨?_, ?_, ?_, ?_, ?_, ?_, ?_, ?_, ?_, ?_, ?_, ?_, ?_, ?_, ?_, trivial⟩
  ·intro a wx c
   have e_0 : a.eval (.tmp 0) = pt gp 0 := c.outE (by decide +kernel) (hS.get 0 rfl)
   clear c
   exact G2.og_val (ex_mv e_0) rfl
  ·intro a wx c
   have e_2 : a.eval (.tmp 2) = .string L := c.outE (by decide +kernel) (hS.get 2 rfl)
   clear c
   exact G2.og_val (ex_mv e_2) rfl
  ·intro a wx c
   have e_374 : a.eval (.tmp 374) = .string L := c.slot 1 _ (by decide +kernel) rfl
   clear c
   exact G2.og_val (ex_ssl (i := 15) e_374 rfl (by omega)) rfl
  ·intro a wx c
   have e_0 : a.eval (.tmp 0) = pt gp 0 := c.outE (by decide +kernel) (hS.get 0 rfl)
   clear c
   exact G2.og_val (ex_mv e_0) rfl
  ·intro a wx c
   have e_376 : a.eval (.tmp 376) = pt gp 0 := c.slot 3 _ (by decide +kernel) rfl
   clear c
   exact G2.og_val (ex_nc e_376) rfl
  ·intro a wx c
   have e_377 : a.eval (.tmp 377) = pt gp 0 := c.slot 4 _ (by decide +kernel) rfl
   clear c
   exact G2.og_val (ex_fo e_377 fo_m3u8_MediaPlaylist_18 rfl) rfl
  ·intro a wx c
   have e_378 : a.eval (.tmp 378) = pt gp 20 := c.slot 5 _ (by decide +kernel) rfl
   have hK1 := G2.sto_first hS c 1 rfl rfl (by kernel_rfl)
   clear c
   exact G2.og_val (ex_ld e_378 lt_uint8 (cell_of_heap (v := .int .u8 ((old : Nat) : Int)) hK1 rfl)) rfl
  ·intro a wx c
   have e_375 : a.eval (.tmp 375) = .string (L.extract 15 L.size) := c.slot 2 _ (by decide +kernel) rfl
   have e_379 : a.eval (.tmp 379) = .int .u8 ((old : Nat) : Int) := c.slot 6 _ (by decide +kernel) rfl
   have hGx : Env B G wx := hGw.keep (only_sto c) (fun q hq => by rw [hq]; exact hBp)
   clear c
   have hcl : Calls Tryz.prog _ _ wx (fun e w' => ∃ v, e = .returned v ∧ Below wx.heap.size wx w' ∧ ∃ (et : TypeId) (eN : Nat), v = .tuple #[.int .u8 ((old : Nat) : Int), .iface et (pt eN 0)]) := Calls.mono (hz _ hGx) fun e w' ⟨v, h1, h2, ev, h3, et, eN, h4⟩ => ⟨v, h1, h2, et, eN, by rw [h3, h4]⟩
   exact G2.og_call (ex_call2 cf_m3u8_zzUint8 e_375 e_379) hcl
  ·intro a wx c
   obtain ⟨et, eN, e_380⟩ : ∃ (et : TypeId) (eN : Nat), a.eval (.tmp 380) = .tuple #[.int .u8 ((old : Nat) : Int), .iface et (pt eN 0)] := c.slot 7 _ (by decide +kernel) rfl
   clear c
   exact G2.og_val (ex_mv e_380) ⟨et, eN, rfl⟩
  ·intro a wx c
   obtain ⟨et, eN, e_372⟩ : ∃ (et : TypeId) (eN : Nat), a.eval (.tmp 372) = .tuple #[.int .u8 ((old : Nat) : Int), .iface et (pt eN 0)] := c.slot 8 _ (by decide +kernel) rfl
   clear c
   exact G2.og_val (ei_ext e_372 rfl) rfl
  ·intro a wx c
   obtain ⟨et, eN, e_372⟩ : ∃ (et : TypeId) (eN : Nat), a.eval (.tmp 372) = .tuple #[.int .u8 ((old : Nat) : Int), .iface et (pt eN 0)] := c.slot 8 _ (by decide +kernel) rfl
   clear c
   exact G2.og_val (ei_ext e_372 rfl) ⟨et, eN, rfl⟩
  ·intro a wx c
   have e_373 : a.eval (.tmp 373) = pt gp 0 := c.slot 0 _ (by decide +kernel) rfl
   clear c
   exact G2.og_val (ex_nc e_373) rfl
  ·intro a wx c
   have e_383 : a.eval (.tmp 383) = pt gp 0 := c.slot 11 _ (by decide +kernel) rfl
   clear c
   exact G2.og_val (ex_fo e_383 fo_m3u8_MediaPlaylist_18 rfl) rfl
  ·intro a wx c
   have e_384 : a.eval (.tmp 384) = pt gp 20 := c.slot 12 _ (by decide +kernel) rfl
   have e_381 : a.eval (.tmp 381) = .int .u8 ((old : Nat) : Int) := c.slot 9 _ (by decide +kernel) rfl
   have ms3 := G2.sto_first hS c 1 rfl rfl (by kernel_rfl)
   clear c
   exact G2.og_sto (k := 1) (m := 0) (m' := 1) (off := 20) rfl ms3 (su_uint8 _) e_384 e_381 (show 20 < 23 from by decide) rfl (by decide) (by decide)
  ·intro a wx c
   obtain ⟨et, eN, e_382⟩ : ∃ (et : TypeId) (eN : Nat), a.eval (.tmp 382) = .iface et (pt eN 0) := c.slot 10 _ (by decide +kernel) rfl
   clear c
   exact G2.og_val (ex_as e_382) ⟨et, eN, rfl⟩
 ·intro a w4 c
  obtain ⟨mi, ms1, ms2, ms3⟩ : ∃ mi, 1 ≤ mi ∧ mi ≤ 1 ∧ w4.heap[gp]? = some (.cells (cf3 mi) 88 (0, 0)) := c.slot 13 _ rfl
  obtain rfl : mi = 1 := by omega
  have ms3 : w4.heap[gp]? = some (.cells #[P0, P1, P2, P3, P4, P5, P6, P7, P8, P9, P10, P11, P12, P13, P14, P15, P16, P17, P18, P19, .int .u8 ((old : Nat) : Int), P21, P22] 88 (0, 0)) := ms3
  obtain ⟨hS', hty⟩ := G2.sto_end (m' := [⟨gs, #[.int .u64 2, S1, S2, .bool false, S4, S5, S6, S7, S8, S9, S10, S11, S12, S13, S14, S15, S16, S17, S18, S19], 121, true⟩, ⟨gp, #[P0, P1, P2, P3, P4, P5, P6, P7, P8, P9, P10, P11, P12, P13, P14, P15, P16, P17, P18, P19, .int .u8 ((old : Nat) : Int), P21, P22], 88, true⟩]) hS c (i := 1) rfl rfl ms3
  obtain ⟨et, eN, e_9⟩ : ∃ (et : TypeId) (eN : Nat), a.eval (.tmp 9) = .iface et (pt eN 0) := c.slot 14 _ rfl
  replace hS : Sv 1040 ((9, .iface et (pt eN 0)) :: (3, .bool st) :: (1, pt gs 0) :: (0, pt gp 0) :: (8, .nilIface) :: (2, .string L) :: (32, .bool false) :: (87, .bool false) :: (351, .bool false) :: (357, .bool false) :: (366, .bool true) :: []) [⟨gs, #[.int .u64 2, S1, S2, .bool false, S4, S5, S6, S7, S8, S9, S10, S11, S12, S13, S14, S15, S16, S17, S18, S19], 121, true⟩, ⟨gp, #[P0, P1, P2, P3, P4, P5, P6, P7, P8, P9, P10, P11, P12, P13, P14, P15, P16, P17, P18, P19, .int .u8 ((old : Nat) : Int), P21, P22], 88, true⟩] (fun q => q = gp ∨ q = gs) w a w4 := (((((((((((hS'.know (c.outS (by decide +kernel) (hS.get 366 rfl))).know (c.outS (by decide +kernel) (hS.get 357 rfl))).know (c.outS (by decide +kernel) (hS.get 351 rfl))).know (c.outS (by decide +kernel) (hS.get 87 rfl))).know (c.outS (by decide +kernel) (hS.get 32 rfl))).know (c.outS (by decide +kernel) (hS.get 2 rfl))).know (c.outS (by decide +kernel) (hS.get 8 rfl))).know (c.outS (by decide +kernel) (hS.get 0 rfl))).know (c.outS (by decide +kernel) (hS.get 1 rfl))).know (c.outS (by decide +kernel) (hS.get 3 rfl))).know e_9)
  clear c hS'
  replace hS := hS.cut [9, 3, 1, 0, 8, 2, 32, 87, 351, 357, 366]
  show Code.wp _ _ _ _ _
  refine wp_seq ?_
  cases st with
  | true =>
   refine wp_region_lit ?_
   refine sv_r (v := .bool true) hS (ex_mv (hS.get 3 rfl)) fun a hS => ?_
   refine sv_r (v := .bool true) hS (ex_mv (hS.get 385 rfl)) fun a hS => ?_
   refine sv_g (v := .iface et (pt eN 0)) hS (hS.get 386 rfl) (ex_mv (hS.get 9 rfl)) fun a hS => ?_
   refine sv_g (v := .bool true) hS (hS.get 386 rfl) (ex_ifne (hS.get 387 rfl)) fun a hS => ?_
   refine sv_r (v := .bool true) hS (ex_pickT (hS.get 386 rfl) (hS.get 388 rfl)) fun a hS => ?_
   refine wpList_nil ?_
   replace hS := hS.cut [389, 9, 3, 1, 0, 8, 2, 32, 87, 351, 357, 366]
   show Code.wp _ _ _ _ _
   refine cond_t (hS.get 389 rfl) ?_
   refine wp_seq ?_
   refine wp_region_lit ?_
   refine sv_r (v := .iface et (pt eN 0)) hS (ex_mv (hS.get 9 rfl)) fun a hS => ?_
   refine sv_r (v := .iface et (pt eN 0)) hS (ex_as (hS.get 390 rfl)) fun a hS => ?_
   replace hS : Sv 1040 ((8, .iface et (pt eN 0)) :: (389, .bool true) :: (9, .iface et (pt eN 0)) :: (3, .bool true) :: (1, pt gs 0) :: (0, pt gp 0) :: (2, .string L) :: (32, .bool false) :: (87, .bool false) :: (351, .bool false) :: (357, .bool false) :: (366, .bool true) :: []) [⟨gs, #[.int .u64 2, S1, S2, .bool false, S4, S5, S6, S7, S8, S9, S10, S11, S12, S13, S14, S15, S16, S17, S18, S19], 121, true⟩, ⟨gp, #[P0, P1, P2, P3, P4, P5, P6, P7, P8, P9, P10, P11, P12, P13, P14, P15, P16, P17, P18, P19, .int .u8 ((old : Nat) : Int), P21, P22], 88, true⟩] (fun q => q = gp ∨ q = gs) w a w4 := hS.pick rfl
   refine nx1 ?_
   refine wp_ret ?_
   try simp only [Exit.inBlock, Exit.then]
   exact ret_of_ev hS.ev rfl (hS.get 8 rfl) ⟨_, rfl, ⟨_, _, rfl⟩, hS.only, hS.at 1 rfl, hS.at 0 rfl⟩
  | false =>
   refine wp_region_lit ?_
   refine sv_r (v := .bool false) hS (ex_mv (hS.get 3 rfl)) fun a hS => ?_
   refine sv_r (v := .bool false) hS (ex_mv (hS.get 385 rfl)) fun a hS => ?_
   refine sv_goff hS rfl rfl (hS.get 386 rfl) rfl rfl (by decide) ?_
   intro a hS
   refine sv_goff hS rfl rfl (hS.get 386 rfl) rfl rfl (by decide) ?_
   intro a hS
   refine sv_r (v := .bool false) hS (ex_pickF (hS.get 386 rfl) rfl) fun a hS => ?_
   refine wpList_nil ?_
   replace hS := hS.cut [389, 9, 3, 1, 0, 8, 2, 32, 87, 351, 357, 366]
   show Code.wp _ _ _ _ _
   refine cond_f (hS.get 389 rfl) ?_
   refine wp_skip ?_
   show Code.wp _ _ _ _ _
   refine wp_seq ?_
   refine wp_region_lit ?_
   refine sv_r (v := .iface et (pt eN 0)) hS (ex_mv (hS.get 9 rfl)) fun a hS => ?_
   refine sv_r (v := .iface et (pt eN 0)) hS (ex_as (hS.get 1039 rfl)) fun a hS => ?_
   replace hS : Sv 1040 ((8, .iface et (pt eN 0)) :: (389, .bool false) :: (9, .iface et (pt eN 0)) :: (3, .bool false) :: (1, pt gs 0) :: (0, pt gp 0) :: (2, .string L) :: (32, .bool false) :: (87, .bool false) :: (351, .bool false) :: (357, .bool false) :: (366, .bool true) :: []) [⟨gs, #[.int .u64 2, S1, S2, .bool false, S4, S5, S6, S7, S8, S9, S10, S11, S12, S13, S14, S15, S16, S17, S18, S19], 121, true⟩, ⟨gp, #[P0, P1, P2, P3, P4, P5, P6, P7, P8, P9, P10, P11, P12, P13, P14, P15, P16, P17, P18, P19, .int .u8 ((old : Nat) : Int), P21, P22], 88, true⟩] (fun q => q = gp ∨ q = gs) w a w4 := hS.pick rfl
   refine nx1 ?_
   refine wp_ret ?_
   try simp only [Exit.inBlock, Exit.then]
   exact ret_of_ev hS.ev rfl (hS.get 8 rfl) ⟨_, rfl, ⟨_, _, rfl⟩, hS.only, hS.at 1 rfl, hS.at 0 rfl⟩
end Go.Proofs.YtflppablgdegcaaGreatDoor
