/- Joined: Dlinf. -/
import Derived.Test.YtflppablgdegcaaGreatDoorN14
import Derived.Test.YtflppablgdegcaaGreatDoorN18
/- decodeLineOfMediaPlaylist: #EXTINF: -/
set_option maxRecDepth 100000
set_option maxHeartbeats 8000000
namespace Go.Proofs.YtflppablgdegcaaGreatDoor
open Go.RowKit

theorem dl_inf_ok {B : Nat} {G : Ge} {gp gs : Nat} {s L : ByteArray} {st : Bool} {P0 P1 P2 P3 P4 P5 P6 P7 P8 P9 P10 P11 P12 P13 P14 P15 P16 P17 P18 P19 P20 P21 P22 S0 S1 S2 S4 S5 S6 S7 S8 S9 S10 S11 S12 S13 S14 S15 S16 S17 S18 S19 : Value} {rest : List UInt8} (w : World) (hG : Env B G w) (hsz : s.size ≤ 1000000) (hasc : Asc s) (hLs : trimA s = L) (hL : L.data.toList = [35, 69, 88, 84, 73, 78, 70, 58] ++ rest) {z ix : Nat} (hix : zix L 44 = (ix : Int)) (h8 : 8 < ix) (hil : ix < L.size) (hLz : L.size ≤ 1000000) (hz : ∀ w, Env B G w → Calls Tryz.prog 60 #[.string (L.extract 8 ix), .int .i64 64] w fun e w' => e = .returned (.tuple #[.float .f64 z, .nilIface]) ∧ Below w.heap.size w w') (hgp : w.heap[gp]? = some (.cells #[P0, P1, P2, P3, P4, P5, P6, P7, P8, P9, P10, P11, P12, P13, P14, P15, P16, P17, P18, P19, P20, P21, P22] 88 (0, 0))) (hgs : w.heap[gs]? = some (.cells #[S0, S1, S2, .bool false, S4, S5, S6, S7, S8, S9, S10, S11, S12, S13, S14, S15, S16, S17, S18, S19] 121 (0, 0))) (hne : gp ≠ gs) (hBp : B ≤ gp) (hBs : B ≤ gs) : Calls Tryz.prog 47 #[pt gp 0, pt gs 0, .string s, .bool st] w fun e w' => e = .returned .nilIface ∧ Only (fun q => q = gp ∨ q = gs) w w' ∧ w'.heap[gp]? = some (.cells #[P0, P1, P2, P3, P4, P5, P6, P7, P8, P9, P10, P11, P12, P13, P14, P15, P16, P17, P18, P19, P20, P21, P22] 88 (0, 0)) ∧ w'.heap[gs]? = some (.cells #[.int .u64 2, S1, S2, .bool true, S4, S5, S6, S7, S8, S9, S10, S11, S12, .float .f64 (z), .string (L.extract (ix + 1) L.size), S15, S16, S17, S18, S19] 121 (0, 0)) := by
 refine calls_of_ev Tryz.func47 rfl (show 4 ≤ 1040 from by decide) ?_
 intro a hE
 have hE : Ev 1040 ((0, pt gp 0) :: (1, pt gs 0) :: (2, .string s) :: (3, .bool st) :: []) a := hE
 have hS : Sv 1040 ((0, pt gp 0) :: (1, pt gs 0) :: (2, .string s) :: (3, .bool st) :: []) [] (fun q => q = gp ∨ q = gs) w a w := Sv.start hE _ _
 clear hE
 replace hS : Sv 1040 ((0, pt gp 0) :: (1, pt gs 0) :: (2, .string s) :: (3, .bool st) :: []) [⟨gs, #[S0, S1, S2, .bool false, S4, S5, S6, S7, S8, S9, S10, S11, S12, S13, S14, S15, S16, S17, S18, S19], 121, true⟩, ⟨gp, #[P0, P1, P2, P3, P4, P5, P6, P7, P8, P9, P10, P11, P12, P13, P14, P15, P16, P17, P18, P19, P20, P21, P22], 88, true⟩] (fun q => q = gp ∨ q = gs) w a w := ((hS.addB hgp (by intro q hq; cases hq) (fun _ => .inl (.inl rfl))).addB hgs (by intro q hq; cases List.mem_singleton.1 hq; exact hne) (fun _ => .inl (.inr rfl))).pick rfl
 refine wp_seq ?_
 refine wp_region_lit ?_
 refine sv_r (v := .nilIface) hS ex_ac fun a hS => ?_
 refine wpList_nil ?_
 replace hS := hS.cut [8, 0, 1, 2, 3]
 show Code.wp _ _ _ _ _
 refine wp_seq ?_
 refine wp_region_lit ?_
 refine sv_r (v := .nilIface) hS ex_ac fun a hS => ?_
 refine wpList_nil ?_
 replace hS := hS.cut [9, 8, 0, 1, 2, 3]
 show Code.wp _ _ _ _ _
 refine wp_seq ?_
 refine wp_region_lit ?_
 refine sv_r (v := .string s) hS (ex_mv (hS.get 2 rfl)) fun a hS => ?_
 refine sv_callv (v := .string L) hS rfl rfl (by decide) (ex_call1 cf_strings_TrimSpace (hS.get 30 rfl)) (trimL hLs (Nat.le_trans hsz (by decide)) hasc _ (hG.keep hS.only (fun q hq => by rcases hq with rfl | rfl; (· exact hBp); (· exact hBs)))) ?_
 intro a w1 hbw1 hS
 refine sv_r (v := .string L) hS (ex_as (hS.get 31 rfl)) fun a hS => ?_
 replace hS : Sv 1040 ((2, .string L) :: (9, .nilIface) :: (8, .nilIface) :: (0, pt gp 0) :: (1, pt gs 0) :: (3, .bool st) :: []) [⟨gs, #[S0, S1, S2, .bool false, S4, S5, S6, S7, S8, S9, S10, S11, S12, S13, S14, S15, S16, S17, S18, S19], 121, true⟩, ⟨gp, #[P0, P1, P2, P3, P4, P5, P6, P7, P8, P9, P10, P11, P12, P13, P14, P15, P16, P17, P18, P19, P20, P21, P22], 88, true⟩] (fun q => q = gp ∨ q = gs) w a w1 := hS.pick rfl
 refine nx1 ?_
 refine wp_seq ?_
 refine wp_block ?_
 refine wp_seq ?_
 refine wp_region_lit ?_
 refine sv_r (v := pt gs 0) hS (ex_mv (hS.get 1 rfl)) fun a hS => ?_
 refine sv_r (v := pt gs 0) hS (ex_nc (hS.get 33 rfl)) fun a hS => ?_
 refine sv_r (v := pt gs 3) hS (ex_fo (hS.get 34 rfl) fo_m3u8_decodingState_3 rfl) fun a hS => ?_
 refine sv_r (v := .bool false) hS (ex_ld (hS.get 35 rfl) lt_bool (cell_of_heap (v := .bool false) (hS.at 0 rfl) rfl)) fun a hS => ?_
 refine sv_r (v := .bool true) hS (ex_not (hS.get 36 rfl)) fun a hS => ?_
 refine sv_r (v := .bool true) hS (ex_mv (hS.get 37 rfl)) fun a hS => ?_
 refine sv_g (v := .string L) hS (hS.get 38 rfl) (ex_mv (hS.get 2 rfl)) fun a hS => ?_
 refine sv_gcallq (v := .bool true) hS rfl rfl (hS.get 38 rfl) rfl (by decide) (ex_call2 cf_strings_HasPrefix (hS.get 39 rfl) rfl) (hasPt hL (by decide +kernel) _) ?_
 intro a hS
 refine sv_r (v := .bool true) hS (ex_pickT (hS.get 38 rfl) (hS.get 40 rfl)) fun a hS => ?_
 refine sv_r (v := .bool true) hS (ex_as (hS.get 41 rfl)) fun a hS => ?_
 refine wpList_nil ?_
 replace hS := hS.cut [32, 2, 9, 8, 0, 1, 3]
 show Code.wp _ _ _ _ _
 refine cond_t (hS.get 32 rfl) ?_
 refine wp_seq ?_
 refine wp_region_lit ?_
 refine sv_r (v := pt gs 0) hS (ex_mv (hS.get 1 rfl)) fun a hS => ?_
 refine sv_r (v := pt gs 0) hS (ex_nc (hS.get 42 rfl)) fun a hS => ?_
 refine sv_r (v := pt gs 3) hS (ex_fo (hS.get 43 rfl) fo_m3u8_decodingState_3 rfl) fun a hS => ?_
 refine sv_st (i := 0) (v := .bool true) (cs' := #[S0, S1, S2, .bool true, S4, S5, S6, S7, S8, S9, S10, S11, S12, S13, S14, S15, S16, S17, S18, S19]) (m' := [⟨gs, #[S0, S1, S2, .bool true, S4, S5, S6, S7, S8, S9, S10, S11, S12, S13, S14, S15, S16, S17, S18, S19], 121, true⟩, ⟨gp, #[P0, P1, P2, P3, P4, P5, P6, P7, P8, P9, P10, P11, P12, P13, P14, P15, P16, P17, P18, P19, P20, P21, P22], 88, true⟩]) hS (su_bool _) (hS.get 44 rfl) rfl rfl (show 3 < 20 from by decide) rfl rfl ?_
 intro w2 hty hS
 refine wpList_nil ?_
 replace hS := hS.cut [32, 2, 9, 8, 0, 1, 3]
 show Code.wp _ _ _ _ _
 refine wp_seq ?_
 refine wp_region_lit ?_
 refine sv_r (v := pt gs 0) hS (ex_mv (hS.get 1 rfl)) fun a hS => ?_
 refine sv_r (v := pt gs 0) hS (ex_nc (hS.get 45 rfl)) fun a hS => ?_
 refine sv_r (v := pt gs 0) hS (ex_fo (hS.get 46 rfl) fo_m3u8_decodingState_0 rfl) fun a hS => ?_
 refine sv_st (i := 0) (v := .int .u64 2) (cs' := #[.int .u64 2, S1, S2, .bool true, S4, S5, S6, S7, S8, S9, S10, S11, S12, S13, S14, S15, S16, S17, S18, S19]) (m' := [⟨gs, #[.int .u64 2, S1, S2, .bool true, S4, S5, S6, S7, S8, S9, S10, S11, S12, S13, S14, S15, S16, S17, S18, S19], 121, true⟩, ⟨gp, #[P0, P1, P2, P3, P4, P5, P6, P7, P8, P9, P10, P11, P12, P13, P14, P15, P16, P17, P18, P19, P20, P21, P22], 88, true⟩]) hS (su_m3u8_ListType _) (hS.get 47 rfl) rfl rfl (show 0 < 20 from by decide) rfl rfl ?_
 intro w3 hty hS
 replace hS : Sv 1040 ((32, .bool true) :: (2, .string L) :: (9, .nilIface) :: (8, .nilIface) :: (0, pt gp 0) :: (1, pt gs 0) :: (3, .bool st) :: []) [⟨gs, #[.int .u64 2, S1, S2, .bool true, S4, S5, S6, S7, S8, S9, S10, S11, S12, S13, S14, S15, S16, S17, S18, S19], 121, true⟩, ⟨gp, #[P0, P1, P2, P3, P4, P5, P6, P7, P8, P9, P10, P11, P12, P13, P14, P15, P16, P17, P18, P19, P20, P21, P22], 88, true⟩] (fun q => q = gp ∨ q = gs) w a w3 := hS.pick rfl
 refine nx3 ?_
 refine sv_r (v := .string L) hS (ex_mv (hS.get 2 rfl)) fun a hS => ?_
 refine sv_callv (v := .int .i64 ((ix : Nat) : Int)) hS rfl rfl (by decide) (ex_call2 cf_m3u8_zzIndex (hS.get 48 rfl) rfl) (by have h := zzIndex_any L 44 (by omega) w3; rw [hix] at h; exact h) ?_
 intro a w4 hbw4 hS
 refine sv_r (v := .int .i64 ((ix : Nat) : Int)) hS (ex_as (hS.get 49 rfl)) fun a hS => ?_
 refine wpList_nil ?_
 replace hS := hS.cut [10, 32, 2, 9, 8, 0, 1, 3]
 show Code.wp _ _ _ _ _
 refine wp_seq ?_
 refine wp_seq ?_
 refine wp_region_lit ?_
 refine sv_r (v := .int .i64 ((ix : Nat) : Int)) hS (ex_mv (hS.get 10 rfl)) fun a hS => ?_
 refine sv_r (v := .bool false) hS (ei_eql (hS.get 50 rfl) rfl (by rw [decide_eq_false_iff_not]; omega)) fun a hS => ?_
 refine wpList_nil ?_
 replace hS := hS.cut [51, 10, 32, 2, 9, 8, 0, 1, 3]
 show Code.wp _ _ _ _ _
 refine cond_f (hS.get 51 rfl) ?_
 refine wp_skip ?_
 show Code.wp _ _ _ _ _
 refine wp_seq ?_
 refine wp_region_lit ?_
 refine sv_r (v := .string L) hS (ex_mv (hS.get 2 rfl)) fun a hS => ?_
 refine sv_r (v := .int .i64 ((ix : Nat) : Int)) hS (ex_mv (hS.get 10 rfl)) fun a hS => ?_
 refine sv_r (v := .string (L.extract 8 ix)) hS (ex_sslh (i := 8) (hS.get 56 rfl) rfl (hS.get 57 rfl) (by omega) (by omega)) fun a hS => ?_
 refine sv_r (v := .string (L.extract 8 ix)) hS (ex_as (hS.get 58 rfl)) fun a hS => ?_
 replace hS : Sv 1040 ((11, .string (L.extract 8 ix)) :: (51, .bool false) :: (10, .int .i64 ((ix : Nat) : Int)) :: (32, .bool true) :: (2, .string L) :: (9, .nilIface) :: (8, .nilIface) :: (0, pt gp 0) :: (1, pt gs 0) :: (3, .bool st) :: []) [⟨gs, #[.int .u64 2, S1, S2, .bool true, S4, S5, S6, S7, S8, S9, S10, S11, S12, S13, S14, S15, S16, S17, S18, S19], 121, true⟩, ⟨gp, #[P0, P1, P2, P3, P4, P5, P6, P7, P8, P9, P10, P11, P12, P13, P14, P15, P16, P17, P18, P19, P20, P21, P22], 88, true⟩] (fun q => q = gp ∨ q = gs) w a w4 := hS.pick rfl
 refine nx1 ?_
 refine wp_seq ?_
 refine wp_seq ?_
 refine wp_region_lit ?_
 refine sv_r (v := .string (L.extract 8 ix)) hS (ex_mv (hS.get 11 rfl)) fun a hS => ?_
 refine sv_r (v := .int .i64 (((L.extract 8 ix).size : Nat) : Int)) hS (ex_slen (ats := #[]) (hS.get 59 rfl)) fun a hS => ?_
 refine sv_r (v := .bool true) hS (ei_gtr (hS.get 60 rfl) rfl (by rw [decide_eq_true_iff, ByteArray.size_extract]; omega)) fun a hS => ?_
 refine wpList_nil ?_
 replace hS := hS.cut [61, 11, 51, 10, 32, 2, 9, 8, 0, 1, 3]
 show Code.wp _ _ _ _ _
 refine cond_t (hS.get 61 rfl) ?_
 refine wp_seq ?_
 refine wp_region_lit ?_
 refine sv_r (v := pt gs 0) hS (ex_mv (hS.get 1 rfl)) fun a hS => ?_
 refine sv_r (v := .string (L.extract 8 ix)) hS (ex_mv (hS.get 11 rfl)) fun a hS => ?_
 refine sv_callv (v := .tuple #[.float .f64 z, .nilIface]) hS rfl rfl (by decide) (ex_call2 cf_strconv_ParseFloat (hS.get 64 rfl) rfl) (hz _ (hG.keep hS.only (fun q hq => by rcases hq with rfl | rfl; (· exact hBp); (· exact hBs)))) ?_
 intro a w5 hbw5 hS
 refine sv_r (v := .tuple #[.float .f64 z, .nilIface]) hS (ex_mv (hS.get 65 rfl)) fun a hS => ?_
 refine sv_r (v := .float .f64 (z)) hS (ei_ext (hS.get 62 rfl) rfl) fun a hS => ?_
 refine sv_r (v := .nilIface) hS (ei_ext (hS.get 62 rfl) rfl) fun a hS => ?_
 refine sv_r (v := pt gs 0) hS (ex_nc (hS.get 63 rfl)) fun a hS => ?_
 refine sv_r (v := pt gs 13) hS (ex_fo (hS.get 68 rfl) fo_m3u8_decodingState_13 rfl) fun a hS => ?_
 refine sv_st (i := 0) (v := .float .f64 (z)) (cs' := #[.int .u64 2, S1, S2, .bool true, S4, S5, S6, S7, S8, S9, S10, S11, S12, .float .f64 (z), S14, S15, S16, S17, S18, S19]) (m' := [⟨gs, #[.int .u64 2, S1, S2, .bool true, S4, S5, S6, S7, S8, S9, S10, S11, S12, .float .f64 (z), S14, S15, S16, S17, S18, S19], 121, true⟩, ⟨gp, #[P0, P1, P2, P3, P4, P5, P6, P7, P8, P9, P10, P11, P12, P13, P14, P15, P16, P17, P18, P19, P20, P21, P22], 88, true⟩]) hS (su_float64 _) (hS.get 69 rfl) (hS.get 66 rfl) rfl (show 13 < 20 from by decide) rfl rfl ?_
 intro w6 hty hS
 refine sv_r (v := .nilIface) hS (ex_as (hS.get 67 rfl)) fun a hS => ?_
 refine wpList_nil ?_
 replace hS := hS.cut [9, 61, 11, 51, 10, 32, 2, 8, 0, 1, 3]
 show Code.wp _ _ _ _ _
 refine wp_seq ?_
 cases st with
 | true =>
  refine wp_region_lit ?_
  refine sv_r (v := .bool true) hS (ex_mv (hS.get 3 rfl)) fun a hS => ?_
  refine sv_r (v := .bool true) hS (ex_mv (hS.get 70 rfl)) fun a hS => ?_
  refine sv_g (v := .nilIface) hS (hS.get 71 rfl) (ex_mv (hS.get 9 rfl)) fun a hS => ?_
  refine sv_g (v := .bool false) hS (hS.get 71 rfl) (ex_ine eqi_error (hS.get 72 rfl)) fun a hS => ?_
  refine sv_r (v := .bool false) hS (ex_pickT (hS.get 71 rfl) (hS.get 73 rfl)) fun a hS => ?_
  replace hS : Sv 1040 ((74, .bool false) :: (9, .nilIface) :: (61, .bool true) :: (11, .string (L.extract 8 ix)) :: (51, .bool false) :: (10, .int .i64 ((ix : Nat) : Int)) :: (32, .bool true) :: (2, .string L) :: (8, .nilIface) :: (0, pt gp 0) :: (1, pt gs 0) :: (3, .bool true) :: []) [⟨gs, #[.int .u64 2, S1, S2, .bool true, S4, S5, S6, S7, S8, S9, S10, S11, S12, .float .f64 (z), S14, S15, S16, S17, S18, S19], 121, true⟩, ⟨gp, #[P0, P1, P2, P3, P4, P5, P6, P7, P8, P9, P10, P11, P12, P13, P14, P15, P16, P17, P18, P19, P20, P21, P22], 88, true⟩] (fun q => q = gp ∨ q = gs) w a w6 := hS.pick rfl
  refine nx1 ?_
  refine cond_f (hS.get 74 rfl) ?_
  refine wp_skip ?_
  show Code.wp _ _ _ _ _
  refine wp_seq ?_
  refine wp_region_lit ?_
  refine sv_r (v := .string L) hS (ex_mv (hS.get 2 rfl)) fun a hS => ?_
  refine sv_r (v := .int .i64 ((L.size : Nat) : Int)) hS (ex_slen (ats := #[]) (hS.get 76 rfl)) fun a hS => ?_
  refine sv_r (v := .int .i64 ((ix : Nat) : Int)) hS (ex_mv (hS.get 10 rfl)) fun a hS => ?_
  refine sv_r (v := .bool true) hS (ei_gtr (hS.get 77 rfl) (hS.get 78 rfl) (by rw [decide_eq_true_iff]; omega)) fun a hS => ?_
  refine wpList_nil ?_
  replace hS := hS.cut [79, 74, 9, 61, 11, 51, 10, 32, 2, 8, 0, 1, 3]
  show Code.wp _ _ _ _ _
  refine cond_t (hS.get 79 rfl) ?_
  refine wp_region_lit ?_
  refine sv_r (v := pt gs 0) hS (ex_mv (hS.get 1 rfl)) fun a hS => ?_
  refine sv_r (v := .string L) hS (ex_mv (hS.get 2 rfl)) fun a hS => ?_
  refine sv_r (v := .int .i64 ((ix : Nat) : Int)) hS (ex_mv (hS.get 10 rfl)) fun a hS => ?_
  refine sv_r (v := .int .i64 ((ix + 1 : Nat) : Int)) hS (ei_add (hS.get 82 rfl) rfl (by rw [IntKind.wrap_i64]; omega)) fun a hS => ?_
  refine sv_r (v := .string (L.extract (ix + 1) L.size)) hS (ex_ssl (hS.get 81 rfl) (hS.get 83 rfl) (by omega)) fun a hS => ?_
  refine sv_r (v := pt gs 0) hS (ex_nc (hS.get 80 rfl)) fun a hS => ?_
  refine sv_r (v := pt gs 14) hS (ex_fo (hS.get 85 rfl) fo_m3u8_decodingState_14 rfl) fun a hS => ?_
  refine sv_st (i := 0) (v := .string (L.extract (ix + 1) L.size)) (cs' := #[.int .u64 2, S1, S2, .bool true, S4, S5, S6, S7, S8, S9, S10, S11, S12, .float .f64 (z), .string (L.extract (ix + 1) L.size), S15, S16, S17, S18, S19]) (m' := [⟨gs, #[.int .u64 2, S1, S2, .bool true, S4, S5, S6, S7, S8, S9, S10, S11, S12, .float .f64 (z), .string (L.extract (ix + 1) L.size), S15, S16, S17, S18, S19], 121, true⟩, ⟨gp, #[P0, P1, P2, P3, P4, P5, P6, P7, P8, P9, P10, P11, P12, P13, P14, P15, P16, P17, P18, P19, P20, P21, P22], 88, true⟩]) hS (su_string _) (hS.get 86 rfl) (hS.get 84 rfl) rfl (show 14 < 20 from by decide) rfl rfl ?_
  intro w7 hty hS
  refine wpList_nil ?_
  replace hS := hS.cut [79, 74, 9, 61, 11, 51, 10, 32, 2, 8, 0, 1, 3]
  show Code.wp _ _ _ _ _
  refine wp_seq ?_
  refine wp_region_lit ?_
  refine sv_r (v := .nilIface) hS (ex_mv (hS.get 9 rfl)) fun a hS => ?_
  refine sv_r (v := .nilIface) hS (ex_as (hS.get 1039 rfl)) fun a hS => ?_
  replace hS : Sv 1040 ((8, .nilIface) :: (79, .bool true) :: (74, .bool false) :: (9, .nilIface) :: (61, .bool true) :: (11, .string (L.extract 8 ix)) :: (51, .bool false) :: (10, .int .i64 ((ix : Nat) : Int)) :: (32, .bool true) :: (2, .string L) :: (0, pt gp 0) :: (1, pt gs 0) :: (3, .bool true) :: []) [⟨gs, #[.int .u64 2, S1, S2, .bool true, S4, S5, S6, S7, S8, S9, S10, S11, S12, .float .f64 (z), .string (L.extract (ix + 1) L.size), S15, S16, S17, S18, S19], 121, true⟩, ⟨gp, #[P0, P1, P2, P3, P4, P5, P6, P7, P8, P9, P10, P11, P12, P13, P14, P15, P16, P17, P18, P19, P20, P21, P22], 88, true⟩] (fun q => q = gp ∨ q = gs) w a w7 := hS.pick rfl
  refine nx1 ?_
  refine wp_ret ?_
  try simp only [Exit.inBlock, Exit.then]
  exact ret_of_ev hS.ev rfl (hS.get 8 rfl) ⟨rfl, hS.only, hS.at 1 rfl, hS.at 0 rfl⟩
 | false =>
  refine wp_region_lit ?_
  refine sv_r (v := .bool false) hS (ex_mv (hS.get 3 rfl)) fun a hS => ?_
  refine sv_r (v := .bool false) hS (ex_mv (hS.get 70 rfl)) fun a hS => ?_
  refine sv_goff hS rfl rfl (hS.get 71 rfl) rfl rfl (by decide) ?_
  intro a hS
  refine sv_goff hS rfl rfl (hS.get 71 rfl) rfl rfl (by decide) ?_
  intro a hS
  refine sv_r (v := .bool false) hS (ex_pickF (hS.get 71 rfl) rfl) fun a hS => ?_
  replace hS : Sv 1040 ((74, .bool false) :: (9, .nilIface) :: (61, .bool true) :: (11, .string (L.extract 8 ix)) :: (51, .bool false) :: (10, .int .i64 ((ix : Nat) : Int)) :: (32, .bool true) :: (2, .string L) :: (8, .nilIface) :: (0, pt gp 0) :: (1, pt gs 0) :: (3, .bool false) :: []) [⟨gs, #[.int .u64 2, S1, S2, .bool true, S4, S5, S6, S7, S8, S9, S10, S11, S12, .float .f64 (z), S14, S15, S16, S17, S18, S19], 121, true⟩, ⟨gp, #[P0, P1, P2, P3, P4, P5, P6, P7, P8, P9, P10, P11, P12, P13, P14, P15, P16, P17, P18, P19, P20, P21, P22], 88, true⟩] (fun q => q = gp ∨ q = gs) w a w6 := hS.pick rfl
  refine nx1 ?_
  refine cond_f (hS.get 74 rfl) ?_
  refine wp_skip ?_
  show Code.wp _ _ _ _ _
  refine wp_seq ?_
  refine wp_region_lit ?_
  refine sv_r (v := .string L) hS (ex_mv (hS.get 2 rfl)) fun a hS => ?_
  refine sv_r (v := .int .i64 ((L.size : Nat) : Int)) hS (ex_slen (ats := #[]) (hS.get 76 rfl)) fun a hS => ?_
  refine sv_r (v := .int .i64 ((ix : Nat) : Int)) hS (ex_mv (hS.get 10 rfl)) fun a hS => ?_
  refine sv_r (v := .bool true) hS (ei_gtr (hS.get 77 rfl) (hS.get 78 rfl) (by rw [decide_eq_true_iff]; omega)) fun a hS => ?_
  refine wpList_nil ?_
  replace hS := hS.cut [79, 74, 9, 61, 11, 51, 10, 32, 2, 8, 0, 1, 3]
  show Code.wp _ _ _ _ _
  refine cond_t (hS.get 79 rfl) ?_
  refine wp_region_lit ?_
  refine sv_r (v := pt gs 0) hS (ex_mv (hS.get 1 rfl)) fun a hS => ?_
  refine sv_r (v := .string L) hS (ex_mv (hS.get 2 rfl)) fun a hS => ?_
  refine sv_r (v := .int .i64 ((ix : Nat) : Int)) hS (ex_mv (hS.get 10 rfl)) fun a hS => ?_
  refine sv_r (v := .int .i64 ((ix + 1 : Nat) : Int)) hS (ei_add (hS.get 82 rfl) rfl (by rw [IntKind.wrap_i64]; omega)) fun a hS => ?_
  refine sv_r (v := .string (L.extract (ix + 1) L.size)) hS (ex_ssl (hS.get 81 rfl) (hS.get 83 rfl) (by omega)) fun a hS => ?_
  refine sv_r (v := pt gs 0) hS (ex_nc (hS.get 80 rfl)) fun a hS => ?_
  refine sv_r (v := pt gs 14) hS (ex_fo (hS.get 85 rfl) fo_m3u8_decodingState_14 rfl) fun a hS => ?_
  refine sv_st (i := 0) (v := .string (L.extract (ix + 1) L.size)) (cs' := #[.int .u64 2, S1, S2, .bool true, S4, S5, S6, S7, S8, S9, S10, S11, S12, .float .f64 (z), .string (L.extract (ix + 1) L.size), S15, S16, S17, S18, S19]) (m' := [⟨gs, #[.int .u64 2, S1, S2, .bool true, S4, S5, S6, S7, S8, S9, S10, S11, S12, .float .f64 (z), .string (L.extract (ix + 1) L.size), S15, S16, S17, S18, S19], 121, true⟩, ⟨gp, #[P0, P1, P2, P3, P4, P5, P6, P7, P8, P9, P10, P11, P12, P13, P14, P15, P16, P17, P18, P19, P20, P21, P22], 88, true⟩]) hS (su_string _) (hS.get 86 rfl) (hS.get 84 rfl) rfl (show 14 < 20 from by decide) rfl rfl ?_
  intro w8 hty hS
  refine wpList_nil ?_
  replace hS := hS.cut [79, 74, 9, 61, 11, 51, 10, 32, 2, 8, 0, 1, 3]
  show Code.wp _ _ _ _ _
  refine wp_seq ?_
  refine wp_region_lit ?_
  refine sv_r (v := .nilIface) hS (ex_mv (hS.get 9 rfl)) fun a hS => ?_
  refine sv_r (v := .nilIface) hS (ex_as (hS.get 1039 rfl)) fun a hS => ?_
  replace hS : Sv 1040 ((8, .nilIface) :: (79, .bool true) :: (74, .bool false) :: (9, .nilIface) :: (61, .bool true) :: (11, .string (L.extract 8 ix)) :: (51, .bool false) :: (10, .int .i64 ((ix : Nat) : Int)) :: (32, .bool true) :: (2, .string L) :: (0, pt gp 0) :: (1, pt gs 0) :: (3, .bool false) :: []) [⟨gs, #[.int .u64 2, S1, S2, .bool true, S4, S5, S6, S7, S8, S9, S10, S11, S12, .float .f64 (z), .string (L.extract (ix + 1) L.size), S15, S16, S17, S18, S19], 121, true⟩, ⟨gp, #[P0, P1, P2, P3, P4, P5, P6, P7, P8, P9, P10, P11, P12, P13, P14, P15, P16, P17, P18, P19, P20, P21, P22], 88, true⟩] (fun q => q = gp ∨ q = gs) w a w8 := hS.pick rfl
  refine nx1 ?_
  refine wp_ret ?_
  try simp only [Exit.inBlock, Exit.then]
  exact ret_of_ev hS.ev rfl (hS.get 8 rfl) ⟨rfl, hS.only, hS.at 1 rfl, hS.at 0 rfl⟩
theorem dl_inf_badT {B : Nat} {G : Ge} {gp gs : Nat} {s L : ByteArray} {P0 P1 P2 P3 P4 P5 P6 P7 P8 P9 P10 P11 P12 P13 P14 P15 P16 P17 P18 P19 P20 P21 P22 S0 S1 S2 S4 S5 S6 S7 S8 S9 S10 S11 S12 S13 S14 S15 S16 S17 S18 S19 : Value} {rest : List UInt8} (w : World) (hG : Env B G w) (hsz : s.size ≤ 1000000) (hasc : Asc s) (hLs : trimA s = L) (hL : L.data.toList = [35, 69, 88, 84, 73, 78, 70, 58] ++ rest) {ix : Nat} (hix : zix L 44 = (ix : Int)) (h8 : 8 < ix) (hil : ix < L.size) (hLz : L.size ≤ 1000000) (hz : ∀ w, Env B G w → Calls Tryz.prog 60 #[.string (L.extract 8 ix), .int .i64 64] w fun e w' => ∃ v, e = .returned v ∧ Below w.heap.size w w' ∧ ∃ ev, v = .tuple #[.float .f64 0, ev] ∧ IsErr ev) (hgp : w.heap[gp]? = some (.cells #[P0, P1, P2, P3, P4, P5, P6, P7, P8, P9, P10, P11, P12, P13, P14, P15, P16, P17, P18, P19, P20, P21, P22] 88 (0, 0))) (hgs : w.heap[gs]? = some (.cells #[S0, S1, S2, .bool false, S4, S5, S6, S7, S8, S9, S10, S11, S12, S13, S14, S15, S16, S17, S18, S19] 121 (0, 0))) (hne : gp ≠ gs) (hBp : B ≤ gp) (hBs : B ≤ gs) : Calls Tryz.prog 47 #[pt gp 0, pt gs 0, .string s, .bool true] w fun e w' => ∃ ev, e = .returned ev ∧ IsErr ev ∧ Only (fun q => q = gp ∨ q = gs) w w' ∧ w'.heap[gp]? = some (.cells #[P0, P1, P2, P3, P4, P5, P6, P7, P8, P9, P10, P11, P12, P13, P14, P15, P16, P17, P18, P19, P20, P21, P22] 88 (0, 0)) ∧ w'.heap[gs]? = some (.cells #[.int .u64 2, S1, S2, .bool true, S4, S5, S6, S7, S8, S9, S10, S11, S12, .float .f64 0, S14, S15, S16, S17, S18, S19] 121 (0, 0)) := by
 refine calls_of_ev Tryz.func47 rfl (show 4 ≤ 1040 from by decide) ?_
 intro a hE
 have hE : Ev 1040 ((0, pt gp 0) :: (1, pt gs 0) :: (2, .string s) :: (3, .bool true) :: []) a := hE
 have hS : Sv 1040 ((0, pt gp 0) :: (1, pt gs 0) :: (2, .string s) :: (3, .bool true) :: []) [] (fun q => q = gp ∨ q = gs) w a w := Sv.start hE _ _
 clear hE
 replace hS : Sv 1040 ((0, pt gp 0) :: (1, pt gs 0) :: (2, .string s) :: (3, .bool true) :: []) [⟨gs, #[S0, S1, S2, .bool false, S4, S5, S6, S7, S8, S9, S10, S11, S12, S13, S14, S15, S16, S17, S18, S19], 121, true⟩, ⟨gp, #[P0, P1, P2, P3, P4, P5, P6, P7, P8, P9, P10, P11, P12, P13, P14, P15, P16, P17, P18, P19, P20, P21, P22], 88, true⟩] (fun q => q = gp ∨ q = gs) w a w := ((hS.addB hgp (by intro q hq; cases hq) (fun _ => .inl (.inl rfl))).addB hgs (by intro q hq; cases List.mem_singleton.1 hq; exact hne) (fun _ => .inl (.inr rfl))).pick rfl
 refine wp_seq ?_
 refine wp_region_lit ?_
 refine sv_r (v := .nilIface) hS ex_ac fun a hS => ?_
 refine wpList_nil ?_
 replace hS := hS.cut [8, 0, 1, 2, 3]
 show Code.wp _ _ _ _ _
 refine wp_seq ?_
 refine wp_region_lit ?_
 refine sv_r (v := .nilIface) hS ex_ac fun a hS => ?_
 refine wpList_nil ?_
 replace hS := hS.cut [9, 8, 0, 1, 2, 3]
 show Code.wp _ _ _ _ _
 refine wp_seq ?_
 refine wp_region_lit ?_
 refine sv_r (v := .string s) hS (ex_mv (hS.get 2 rfl)) fun a hS => ?_
 refine sv_callv (v := .string L) hS rfl rfl (by decide) (ex_call1 cf_strings_TrimSpace (hS.get 30 rfl)) (trimL hLs (Nat.le_trans hsz (by decide)) hasc _ (hG.keep hS.only (fun q hq => by rcases hq with rfl | rfl; (· exact hBp); (· exact hBs)))) ?_
 intro a w1 hbw1 hS
 refine sv_r (v := .string L) hS (ex_as (hS.get 31 rfl)) fun a hS => ?_
 replace hS : Sv 1040 ((2, .string L) :: (9, .nilIface) :: (8, .nilIface) :: (0, pt gp 0) :: (1, pt gs 0) :: (3, .bool true) :: []) [⟨gs, #[S0, S1, S2, .bool false, S4, S5, S6, S7, S8, S9, S10, S11, S12, S13, S14, S15, S16, S17, S18, S19], 121, true⟩, ⟨gp, #[P0, P1, P2, P3, P4, P5, P6, P7, P8, P9, P10, P11, P12, P13, P14, P15, P16, P17, P18, P19, P20, P21, P22], 88, true⟩] (fun q => q = gp ∨ q = gs) w a w1 := hS.pick rfl
 refine nx1 ?_
 refine wp_seq ?_
 refine wp_block ?_
 refine wp_seq ?_
 refine wp_region_lit ?_
 refine sv_r (v := pt gs 0) hS (ex_mv (hS.get 1 rfl)) fun a hS => ?_
 refine sv_r (v := pt gs 0) hS (ex_nc (hS.get 33 rfl)) fun a hS => ?_
 refine sv_r (v := pt gs 3) hS (ex_fo (hS.get 34 rfl) fo_m3u8_decodingState_3 rfl) fun a hS => ?_
 refine sv_r (v := .bool false) hS (ex_ld (hS.get 35 rfl) lt_bool (cell_of_heap (v := .bool false) (hS.at 0 rfl) rfl)) fun a hS => ?_
 refine sv_r (v := .bool true) hS (ex_not (hS.get 36 rfl)) fun a hS => ?_
 refine sv_r (v := .bool true) hS (ex_mv (hS.get 37 rfl)) fun a hS => ?_
 refine sv_g (v := .string L) hS (hS.get 38 rfl) (ex_mv (hS.get 2 rfl)) fun a hS => ?_
 refine sv_gcallq (v := .bool true) hS rfl rfl (hS.get 38 rfl) rfl (by decide) (ex_call2 cf_strings_HasPrefix (hS.get 39 rfl) rfl) (hasPt hL (by decide +kernel) _) ?_
 intro a hS
 refine sv_r (v := .bool true) hS (ex_pickT (hS.get 38 rfl) (hS.get 40 rfl)) fun a hS => ?_
 refine sv_r (v := .bool true) hS (ex_as (hS.get 41 rfl)) fun a hS => ?_
 refine wpList_nil ?_
 replace hS := hS.cut [32, 2, 9, 8, 0, 1, 3]
 show Code.wp _ _ _ _ _
 refine cond_t (hS.get 32 rfl) ?_
 refine wp_seq ?_
 refine wp_region_lit ?_
 refine sv_r (v := pt gs 0) hS (ex_mv (hS.get 1 rfl)) fun a hS => ?_
 refine sv_r (v := pt gs 0) hS (ex_nc (hS.get 42 rfl)) fun a hS => ?_
 refine sv_r (v := pt gs 3) hS (ex_fo (hS.get 43 rfl) fo_m3u8_decodingState_3 rfl) fun a hS => ?_
 refine sv_st (i := 0) (v := .bool true) (cs' := #[S0, S1, S2, .bool true, S4, S5, S6, S7, S8, S9, S10, S11, S12, S13, S14, S15, S16, S17, S18, S19]) (m' := [⟨gs, #[S0, S1, S2, .bool true, S4, S5, S6, S7, S8, S9, S10, S11, S12, S13, S14, S15, S16, S17, S18, S19], 121, true⟩, ⟨gp, #[P0, P1, P2, P3, P4, P5, P6, P7, P8, P9, P10, P11, P12, P13, P14, P15, P16, P17, P18, P19, P20, P21, P22], 88, true⟩]) hS (su_bool _) (hS.get 44 rfl) rfl rfl (show 3 < 20 from by decide) rfl rfl ?_
 intro w2 hty hS
 refine wpList_nil ?_
 replace hS := hS.cut [32, 2, 9, 8, 0, 1, 3]
 show Code.wp _ _ _ _ _
 refine wp_seq ?_
 refine wp_region_lit ?_
 refine sv_r (v := pt gs 0) hS (ex_mv (hS.get 1 rfl)) fun a hS => ?_
 refine sv_r (v := pt gs 0) hS (ex_nc (hS.get 45 rfl)) fun a hS => ?_
 refine sv_r (v := pt gs 0) hS (ex_fo (hS.get 46 rfl) fo_m3u8_decodingState_0 rfl) fun a hS => ?_
 refine sv_st (i := 0) (v := .int .u64 2) (cs' := #[.int .u64 2, S1, S2, .bool true, S4, S5, S6, S7, S8, S9, S10, S11, S12, S13, S14, S15, S16, S17, S18, S19]) (m' := [⟨gs, #[.int .u64 2, S1, S2, .bool true, S4, S5, S6, S7, S8, S9, S10, S11, S12, S13, S14, S15, S16, S17, S18, S19], 121, true⟩, ⟨gp, #[P0, P1, P2, P3, P4, P5, P6, P7, P8, P9, P10, P11, P12, P13, P14, P15, P16, P17, P18, P19, P20, P21, P22], 88, true⟩]) hS (su_m3u8_ListType _) (hS.get 47 rfl) rfl rfl (show 0 < 20 from by decide) rfl rfl ?_
 intro w3 hty hS
 replace hS : Sv 1040 ((32, .bool true) :: (2, .string L) :: (9, .nilIface) :: (8, .nilIface) :: (0, pt gp 0) :: (1, pt gs 0) :: (3, .bool true) :: []) [⟨gs, #[.int .u64 2, S1, S2, .bool true, S4, S5, S6, S7, S8, S9, S10, S11, S12, S13, S14, S15, S16, S17, S18, S19], 121, true⟩, ⟨gp, #[P0, P1, P2, P3, P4, P5, P6, P7, P8, P9, P10, P11, P12, P13, P14, P15, P16, P17, P18, P19, P20, P21, P22], 88, true⟩] (fun q => q = gp ∨ q = gs) w a w3 := hS.pick rfl
 refine nx3 ?_
 refine sv_r (v := .string L) hS (ex_mv (hS.get 2 rfl)) fun a hS => ?_
 refine sv_callv (v := .int .i64 ((ix : Nat) : Int)) hS rfl rfl (by decide) (ex_call2 cf_m3u8_zzIndex (hS.get 48 rfl) rfl) (by have h := zzIndex_any L 44 (by omega) w3; rw [hix] at h; exact h) ?_
 intro a w4 hbw4 hS
 refine sv_r (v := .int .i64 ((ix : Nat) : Int)) hS (ex_as (hS.get 49 rfl)) fun a hS => ?_
 refine wpList_nil ?_
 replace hS := hS.cut [10, 32, 2, 9, 8, 0, 1, 3]
 show Code.wp _ _ _ _ _
 refine wp_seq ?_
 refine wp_seq ?_
 refine wp_region_lit ?_
 refine sv_r (v := .int .i64 ((ix : Nat) : Int)) hS (ex_mv (hS.get 10 rfl)) fun a hS => ?_
 refine sv_r (v := .bool false) hS (ei_eql (hS.get 50 rfl) rfl (by rw [decide_eq_false_iff_not]; omega)) fun a hS => ?_
 refine wpList_nil ?_
 replace hS := hS.cut [51, 10, 32, 2, 9, 8, 0, 1, 3]
 show Code.wp _ _ _ _ _
 refine cond_f (hS.get 51 rfl) ?_
 refine wp_skip ?_
 show Code.wp _ _ _ _ _
 refine wp_seq ?_
 refine wp_region_lit ?_
 refine sv_r (v := .string L) hS (ex_mv (hS.get 2 rfl)) fun a hS => ?_
 refine sv_r (v := .int .i64 ((ix : Nat) : Int)) hS (ex_mv (hS.get 10 rfl)) fun a hS => ?_
 refine sv_r (v := .string (L.extract 8 ix)) hS (ex_sslh (i := 8) (hS.get 56 rfl) rfl (hS.get 57 rfl) (by omega) (by omega)) fun a hS => ?_
 refine sv_r (v := .string (L.extract 8 ix)) hS (ex_as (hS.get 58 rfl)) fun a hS => ?_
 replace hS : Sv 1040 ((11, .string (L.extract 8 ix)) :: (51, .bool false) :: (10, .int .i64 ((ix : Nat) : Int)) :: (32, .bool true) :: (2, .string L) :: (9, .nilIface) :: (8, .nilIface) :: (0, pt gp 0) :: (1, pt gs 0) :: (3, .bool true) :: []) [⟨gs, #[.int .u64 2, S1, S2, .bool true, S4, S5, S6, S7, S8, S9, S10, S11, S12, S13, S14, S15, S16, S17, S18, S19], 121, true⟩, ⟨gp, #[P0, P1, P2, P3, P4, P5, P6, P7, P8, P9, P10, P11, P12, P13, P14, P15, P16, P17, P18, P19, P20, P21, P22], 88, true⟩] (fun q => q = gp ∨ q = gs) w a w4 := hS.pick rfl
 refine nx1 ?_
 refine wp_seq ?_
 refine wp_seq ?_
 refine wp_region_lit ?_
 refine sv_r (v := .string (L.extract 8 ix)) hS (ex_mv (hS.get 11 rfl)) fun a hS => ?_
 refine sv_r (v := .int .i64 (((L.extract 8 ix).size : Nat) : Int)) hS (ex_slen (ats := #[]) (hS.get 59 rfl)) fun a hS => ?_
 refine sv_r (v := .bool true) hS (ei_gtr (hS.get 60 rfl) rfl (by rw [decide_eq_true_iff, ByteArray.size_extract]; omega)) fun a hS => ?_
 refine wpList_nil ?_
 replace hS := hS.cut [61, 11, 51, 10, 32, 2, 9, 8, 0, 1, 3]
 show Code.wp _ _ _ _ _
 refine cond_t (hS.get 61 rfl) ?_
 refine wp_seq ?_
 refine wp_region_lit ?_
 refine sv_r (v := pt gs 0) hS (ex_mv (hS.get 1 rfl)) fun a hS => ?_
 refine sv_r (v := .string (L.extract 8 ix)) hS (ex_mv (hS.get 11 rfl)) fun a hS => ?_
 have hlt := hS.lt
 have hsz := hS.size
 refine sv_call (S := fun v w' => ∃ ev, v = .tuple #[.float .f64 0, ev] ∧ IsErr ev) hS rfl rfl (by decide) (ex_call2 cf_strconv_ParseFloat (hS.get 64 rfl) rfl) (hz _ (hG.keep hS.only (fun q hq => by rcases hq with rfl | rfl; (· exact hBp); (· exact hBs)))) ?_
 rintro a _ w5 ⟨_, rfl, et, eN, rfl⟩ hbw5 hS
 refine sv_r (v := .tuple #[.float .f64 0, .iface et (pt eN 0)]) hS (ex_mv (hS.get 65 rfl)) fun a hS => ?_
 refine sv_r (v := .float .f64 0) hS (ei_ext (hS.get 62 rfl) rfl) fun a hS => ?_
 refine sv_r (v := .iface et (pt eN 0)) hS (ei_ext (hS.get 62 rfl) rfl) fun a hS => ?_
 refine sv_r (v := pt gs 0) hS (ex_nc (hS.get 63 rfl)) fun a hS => ?_
 refine sv_r (v := pt gs 13) hS (ex_fo (hS.get 68 rfl) fo_m3u8_decodingState_13 rfl) fun a hS => ?_
 refine sv_st (i := 0) (v := .float .f64 0) (cs' := #[.int .u64 2, S1, S2, .bool true, S4, S5, S6, S7, S8, S9, S10, S11, S12, .float .f64 0, S14, S15, S16, S17, S18, S19]) (m' := [⟨gs, #[.int .u64 2, S1, S2, .bool true, S4, S5, S6, S7, S8, S9, S10, S11, S12, .float .f64 0, S14, S15, S16, S17, S18, S19], 121, true⟩, ⟨gp, #[P0, P1, P2, P3, P4, P5, P6, P7, P8, P9, P10, P11, P12, P13, P14, P15, P16, P17, P18, P19, P20, P21, P22], 88, true⟩]) hS (su_float64 _) (hS.get 69 rfl) (hS.get 66 rfl) rfl (show 13 < 20 from by decide) rfl rfl ?_
 intro w6 hty hS
 refine sv_r (v := .iface et (pt eN 0)) hS (ex_as (hS.get 67 rfl)) fun a hS => ?_
 refine wpList_nil ?_
 replace hS := hS.cut [9, 61, 11, 51, 10, 32, 2, 8, 0, 1, 3]
 show Code.wp _ _ _ _ _
 refine wp_seq ?_
 refine wp_region_lit ?_
 refine sv_r (v := .bool true) hS (ex_mv (hS.get 3 rfl)) fun a hS => ?_
 refine sv_r (v := .bool true) hS (ex_mv (hS.get 70 rfl)) fun a hS => ?_
 refine sv_g (v := .iface et (pt eN 0)) hS (hS.get 71 rfl) (ex_mv (hS.get 9 rfl)) fun a hS => ?_
 refine sv_g (v := .bool true) hS (hS.get 71 rfl) (ex_ifne (hS.get 72 rfl)) fun a hS => ?_
 refine sv_r (v := .bool true) hS (ex_pickT (hS.get 71 rfl) (hS.get 73 rfl)) fun a hS => ?_
 replace hS : Sv 1040 ((74, .bool true) :: (9, .iface et (pt eN 0)) :: (61, .bool true) :: (11, .string (L.extract 8 ix)) :: (51, .bool false) :: (10, .int .i64 ((ix : Nat) : Int)) :: (32, .bool true) :: (2, .string L) :: (8, .nilIface) :: (0, pt gp 0) :: (1, pt gs 0) :: (3, .bool true) :: []) [⟨gs, #[.int .u64 2, S1, S2, .bool true, S4, S5, S6, S7, S8, S9, S10, S11, S12, .float .f64 0, S14, S15, S16, S17, S18, S19], 121, true⟩, ⟨gp, #[P0, P1, P2, P3, P4, P5, P6, P7, P8, P9, P10, P11, P12, P13, P14, P15, P16, P17, P18, P19, P20, P21, P22], 88, true⟩] (fun q => q = gp ∨ q = gs) w a w6 := hS.pick rfl
 refine nx1 ?_
 refine cond_t (hS.get 74 rfl) ?_
 refine wp_seq ?_
 refine wp_region_lit ?_
 have hlt := hS.lt
 have hsz := hS.size
 refine sv_call (S := fun v w' => ∃ N, v = .iface errES (pt N 0)) hS rfl rfl (by decide) (ex_call1 cf_errors_New rfl) (errNew_any _ _) ?_
 rintro a _ w7 ⟨eM, rfl⟩ hbw7 hS
 refine sv_r (v := .iface errES (pt eM 0)) hS (ex_as (hS.get 75 rfl)) fun a hS => ?_
 refine wpList_nil ?_
 replace hS := hS.cut [8, 74, 9, 61, 11, 51, 10, 32, 2, 0, 1, 3]
 show Code.wp _ _ _ _ _
 refine wp_ret ?_
 try simp only [Exit.inBlock, Exit.then]
 exact ret_of_ev hS.ev rfl (hS.get 8 rfl) ⟨_, rfl, ⟨_, _, rfl⟩, hS.only, hS.at 1 rfl, hS.at 0 rfl⟩
theorem dl_inf_badF {B : Nat} {G : Ge} {gp gs : Nat} {s L : ByteArray} {P0 P1 P2 P3 P4 P5 P6 P7 P8 P9 P10 P11 P12 P13 P14 P15 P16 P17 P18 P19 P20 P21 P22 S0 S1 S2 S4 S5 S6 S7 S8 S9 S10 S11 S12 S13 S14 S15 S16 S17 S18 S19 : Value} {rest : List UInt8} (w : World) (hG : Env B G w) (hsz : s.size ≤ 1000000) (hasc : Asc s) (hLs : trimA s = L) (hL : L.data.toList = [35, 69, 88, 84, 73, 78, 70, 58] ++ rest) {ix : Nat} (hix : zix L 44 = (ix : Int)) (h8 : 8 < ix) (hil : ix < L.size) (hLz : L.size ≤ 1000000) (hz : ∀ w, Env B G w → Calls Tryz.prog 60 #[.string (L.extract 8 ix), .int .i64 64] w fun e w' => ∃ v, e = .returned v ∧ Below w.heap.size w w' ∧ ∃ ev, v = .tuple #[.float .f64 0, ev] ∧ IsErr ev) (hgp : w.heap[gp]? = some (.cells #[P0, P1, P2, P3, P4, P5, P6, P7, P8, P9, P10, P11, P12, P13, P14, P15, P16, P17, P18, P19, P20, P21, P22] 88 (0, 0))) (hgs : w.heap[gs]? = some (.cells #[S0, S1, S2, .bool false, S4, S5, S6, S7, S8, S9, S10, S11, S12, S13, S14, S15, S16, S17, S18, S19] 121 (0, 0))) (hne : gp ≠ gs) (hBp : B ≤ gp) (hBs : B ≤ gs) : Calls Tryz.prog 47 #[pt gp 0, pt gs 0, .string s, .bool false] w fun e w' => ∃ ev, e = .returned ev ∧ IsErr ev ∧ Only (fun q => q = gp ∨ q = gs) w w' ∧ w'.heap[gp]? = some (.cells #[P0, P1, P2, P3, P4, P5, P6, P7, P8, P9, P10, P11, P12, P13, P14, P15, P16, P17, P18, P19, P20, P21, P22] 88 (0, 0)) ∧ w'.heap[gs]? = some (.cells #[.int .u64 2, S1, S2, .bool true, S4, S5, S6, S7, S8, S9, S10, S11, S12, .float .f64 0, .string (L.extract (ix + 1) L.size), S15, S16, S17, S18, S19] 121 (0, 0)) := by
 refine calls_of_ev Tryz.func47 rfl (show 4 ≤ 1040 from by decide) ?_
 intro a hE
 have hE : Ev 1040 ((0, pt gp 0) :: (1, pt gs 0) :: (2, .string s) :: (3, .bool false) :: []) a := hE
 have hS : Sv 1040 ((0, pt gp 0) :: (1, pt gs 0) :: (2, .string s) :: (3, .bool false) :: []) [] (fun q => q = gp ∨ q = gs) w a w := Sv.start hE _ _
 clear hE
 replace hS : Sv 1040 ((0, pt gp 0) :: (1, pt gs 0) :: (2, .string s) :: (3, .bool false) :: []) [⟨gs, #[S0, S1, S2, .bool false, S4, S5, S6, S7, S8, S9, S10, S11, S12, S13, S14, S15, S16, S17, S18, S19], 121, true⟩, ⟨gp, #[P0, P1, P2, P3, P4, P5, P6, P7, P8, P9, P10, P11, P12, P13, P14, P15, P16, P17, P18, P19, P20, P21, P22], 88, true⟩] (fun q => q = gp ∨ q = gs) w a w := ((hS.addB hgp (by intro q hq; cases hq) (fun _ => .inl (.inl rfl))).addB hgs (by intro q hq; cases List.mem_singleton.1 hq; exact hne) (fun _ => .inl (.inr rfl))).pick rfl
 refine wp_seq ?_
 refine wp_region_lit ?_
 refine sv_r (v := .nilIface) hS ex_ac fun a hS => ?_
 refine wpList_nil ?_
 replace hS := hS.cut [8, 0, 1, 2, 3]
 show Code.wp _ _ _ _ _
 refine wp_seq ?_
 refine wp_region_lit ?_
 refine sv_r (v := .nilIface) hS ex_ac fun a hS => ?_
 refine wpList_nil ?_
 replace hS := hS.cut [9, 8, 0, 1, 2, 3]
 show Code.wp _ _ _ _ _
 refine wp_seq ?_
 refine wp_region_lit ?_
 refine sv_r (v := .string s) hS (ex_mv (hS.get 2 rfl)) fun a hS => ?_
 refine sv_callv (v := .string L) hS rfl rfl (by decide) (ex_call1 cf_strings_TrimSpace (hS.get 30 rfl)) (trimL hLs (Nat.le_trans hsz (by decide)) hasc _ (hG.keep hS.only (fun q hq => by rcases hq with rfl | rfl; (· exact hBp); (· exact hBs)))) ?_
 intro a w1 hbw1 hS
 refine sv_r (v := .string L) hS (ex_as (hS.get 31 rfl)) fun a hS => ?_
 replace hS : Sv 1040 ((2, .string L) :: (9, .nilIface) :: (8, .nilIface) :: (0, pt gp 0) :: (1, pt gs 0) :: (3, .bool false) :: []) [⟨gs, #[S0, S1, S2, .bool false, S4, S5, S6, S7, S8, S9, S10, S11, S12, S13, S14, S15, S16, S17, S18, S19], 121, true⟩, ⟨gp, #[P0, P1, P2, P3, P4, P5, P6, P7, P8, P9, P10, P11, P12, P13, P14, P15, P16, P17, P18, P19, P20, P21, P22], 88, true⟩] (fun q => q = gp ∨ q = gs) w a w1 := hS.pick rfl
 refine nx1 ?_
 refine wp_seq ?_
 refine wp_block ?_
 refine wp_seq ?_
 refine wp_region_lit ?_
 refine sv_r (v := pt gs 0) hS (ex_mv (hS.get 1 rfl)) fun a hS => ?_
 refine sv_r (v := pt gs 0) hS (ex_nc (hS.get 33 rfl)) fun a hS => ?_
 refine sv_r (v := pt gs 3) hS (ex_fo (hS.get 34 rfl) fo_m3u8_decodingState_3 rfl) fun a hS => ?_
 refine sv_r (v := .bool false) hS (ex_ld (hS.get 35 rfl) lt_bool (cell_of_heap (v := .bool false) (hS.at 0 rfl) rfl)) fun a hS => ?_
 refine sv_r (v := .bool true) hS (ex_not (hS.get 36 rfl)) fun a hS => ?_
 refine sv_r (v := .bool true) hS (ex_mv (hS.get 37 rfl)) fun a hS => ?_
 refine sv_g (v := .string L) hS (hS.get 38 rfl) (ex_mv (hS.get 2 rfl)) fun a hS => ?_
 refine sv_gcallq (v := .bool true) hS rfl rfl (hS.get 38 rfl) rfl (by decide) (ex_call2 cf_strings_HasPrefix (hS.get 39 rfl) rfl) (hasPt hL (by decide +kernel) _) ?_
 intro a hS
 refine sv_r (v := .bool true) hS (ex_pickT (hS.get 38 rfl) (hS.get 40 rfl)) fun a hS => ?_
 refine sv_r (v := .bool true) hS (ex_as (hS.get 41 rfl)) fun a hS => ?_
 refine wpList_nil ?_
 replace hS := hS.cut [32, 2, 9, 8, 0, 1, 3]
 show Code.wp _ _ _ _ _
 refine cond_t (hS.get 32 rfl) ?_
 refine wp_seq ?_
 refine wp_region_lit ?_
 refine sv_r (v := pt gs 0) hS (ex_mv (hS.get 1 rfl)) fun a hS => ?_
 refine sv_r (v := pt gs 0) hS (ex_nc (hS.get 42 rfl)) fun a hS => ?_
 refine sv_r (v := pt gs 3) hS (ex_fo (hS.get 43 rfl) fo_m3u8_decodingState_3 rfl) fun a hS => ?_
 refine sv_st (i := 0) (v := .bool true) (cs' := #[S0, S1, S2, .bool true, S4, S5, S6, S7, S8, S9, S10, S11, S12, S13, S14, S15, S16, S17, S18, S19]) (m' := [⟨gs, #[S0, S1, S2, .bool true, S4, S5, S6, S7, S8, S9, S10, S11, S12, S13, S14, S15, S16, S17, S18, S19], 121, true⟩, ⟨gp, #[P0, P1, P2, P3, P4, P5, P6, P7, P8, P9, P10, P11, P12, P13, P14, P15, P16, P17, P18, P19, P20, P21, P22], 88, true⟩]) hS (su_bool _) (hS.get 44 rfl) rfl rfl (show 3 < 20 from by decide) rfl rfl ?_
 intro w2 hty hS
 refine wpList_nil ?_
 replace hS := hS.cut [32, 2, 9, 8, 0, 1, 3]
 show Code.wp _ _ _ _ _
 refine wp_seq ?_
 refine wp_region_lit ?_
 refine sv_r (v := pt gs 0) hS (ex_mv (hS.get 1 rfl)) fun a hS => ?_
 refine sv_r (v := pt gs 0) hS (ex_nc (hS.get 45 rfl)) fun a hS => ?_
 refine sv_r (v := pt gs 0) hS (ex_fo (hS.get 46 rfl) fo_m3u8_decodingState_0 rfl) fun a hS => ?_
 refine sv_st (i := 0) (v := .int .u64 2) (cs' := #[.int .u64 2, S1, S2, .bool true, S4, S5, S6, S7, S8, S9, S10, S11, S12, S13, S14, S15, S16, S17, S18, S19]) (m' := [⟨gs, #[.int .u64 2, S1, S2, .bool true, S4, S5, S6, S7, S8, S9, S10, S11, S12, S13, S14, S15, S16, S17, S18, S19], 121, true⟩, ⟨gp, #[P0, P1, P2, P3, P4, P5, P6, P7, P8, P9, P10, P11, P12, P13, P14, P15, P16, P17, P18, P19, P20, P21, P22], 88, true⟩]) hS (su_m3u8_ListType _) (hS.get 47 rfl) rfl rfl (show 0 < 20 from by decide) rfl rfl ?_
 intro w3 hty hS
 replace hS : Sv 1040 ((32, .bool true) :: (2, .string L) :: (9, .nilIface) :: (8, .nilIface) :: (0, pt gp 0) :: (1, pt gs 0) :: (3, .bool false) :: []) [⟨gs, #[.int .u64 2, S1, S2, .bool true, S4, S5, S6, S7, S8, S9, S10, S11, S12, S13, S14, S15, S16, S17, S18, S19], 121, true⟩, ⟨gp, #[P0, P1, P2, P3, P4, P5, P6, P7, P8, P9, P10, P11, P12, P13, P14, P15, P16, P17, P18, P19, P20, P21, P22], 88, true⟩] (fun q => q = gp ∨ q = gs) w a w3 := hS.pick rfl
 refine nx3 ?_
 refine sv_r (v := .string L) hS (ex_mv (hS.get 2 rfl)) fun a hS => ?_
 refine sv_callv (v := .int .i64 ((ix : Nat) : Int)) hS rfl rfl (by decide) (ex_call2 cf_m3u8_zzIndex (hS.get 48 rfl) rfl) (by have h := zzIndex_any L 44 (by omega) w3; rw [hix] at h; exact h) ?_
 intro a w4 hbw4 hS
 refine sv_r (v := .int .i64 ((ix : Nat) : Int)) hS (ex_as (hS.get 49 rfl)) fun a hS => ?_
 refine wpList_nil ?_
 replace hS := hS.cut [10, 32, 2, 9, 8, 0, 1, 3]
 show Code.wp _ _ _ _ _
 refine wp_seq ?_
 refine wp_seq ?_
 refine wp_region_lit ?_
 refine sv_r (v := .int .i64 ((ix : Nat) : Int)) hS (ex_mv (hS.get 10 rfl)) fun a hS => ?_
 refine sv_r (v := .bool false) hS (ei_eql (hS.get 50 rfl) rfl (by rw [decide_eq_false_iff_not]; omega)) fun a hS => ?_
 refine wpList_nil ?_
 replace hS := hS.cut [51, 10, 32, 2, 9, 8, 0, 1, 3]
 show Code.wp _ _ _ _ _
 refine cond_f (hS.get 51 rfl) ?_
 refine wp_skip ?_
 show Code.wp _ _ _ _ _
 refine wp_seq ?_
 refine wp_region_lit ?_
 refine sv_r (v := .string L) hS (ex_mv (hS.get 2 rfl)) fun a hS => ?_
 refine sv_r (v := .int .i64 ((ix : Nat) : Int)) hS (ex_mv (hS.get 10 rfl)) fun a hS => ?_
 refine sv_r (v := .string (L.extract 8 ix)) hS (ex_sslh (i := 8) (hS.get 56 rfl) rfl (hS.get 57 rfl) (by omega) (by omega)) fun a hS => ?_
 refine sv_r (v := .string (L.extract 8 ix)) hS (ex_as (hS.get 58 rfl)) fun a hS => ?_
 replace hS : Sv 1040 ((11, .string (L.extract 8 ix)) :: (51, .bool false) :: (10, .int .i64 ((ix : Nat) : Int)) :: (32, .bool true) :: (2, .string L) :: (9, .nilIface) :: (8, .nilIface) :: (0, pt gp 0) :: (1, pt gs 0) :: (3, .bool false) :: []) [⟨gs, #[.int .u64 2, S1, S2, .bool true, S4, S5, S6, S7, S8, S9, S10, S11, S12, S13, S14, S15, S16, S17, S18, S19], 121, true⟩, ⟨gp, #[P0, P1, P2, P3, P4, P5, P6, P7, P8, P9, P10, P11, P12, P13, P14, P15, P16, P17, P18, P19, P20, P21, P22], 88, true⟩] (fun q => q = gp ∨ q = gs) w a w4 := hS.pick rfl
 refine nx1 ?_
 refine wp_seq ?_
 refine wp_seq ?_
 refine wp_region_lit ?_
 refine sv_r (v := .string (L.extract 8 ix)) hS (ex_mv (hS.get 11 rfl)) fun a hS => ?_
 refine sv_r (v := .int .i64 (((L.extract 8 ix).size : Nat) : Int)) hS (ex_slen (ats := #[]) (hS.get 59 rfl)) fun a hS => ?_
 refine sv_r (v := .bool true) hS (ei_gtr (hS.get 60 rfl) rfl (by rw [decide_eq_true_iff, ByteArray.size_extract]; omega)) fun a hS => ?_
 refine wpList_nil ?_
 replace hS := hS.cut [61, 11, 51, 10, 32, 2, 9, 8, 0, 1, 3]
 show Code.wp _ _ _ _ _
 refine cond_t (hS.get 61 rfl) ?_
 refine wp_seq ?_
 refine wp_region_lit ?_
 refine sv_r (v := pt gs 0) hS (ex_mv (hS.get 1 rfl)) fun a hS => ?_
 refine sv_r (v := .string (L.extract 8 ix)) hS (ex_mv (hS.get 11 rfl)) fun a hS => ?_
 have hlt := hS.lt
 have hsz := hS.size
 refine sv_call (S := fun v w' => ∃ ev, v = .tuple #[.float .f64 0, ev] ∧ IsErr ev) hS rfl rfl (by decide) (ex_call2 cf_strconv_ParseFloat (hS.get 64 rfl) rfl) (hz _ (hG.keep hS.only (fun q hq => by rcases hq with rfl | rfl; (· exact hBp); (· exact hBs)))) ?_
 rintro a _ w5 ⟨_, rfl, et, eN, rfl⟩ hbw5 hS
 refine sv_r (v := .tuple #[.float .f64 0, .iface et (pt eN 0)]) hS (ex_mv (hS.get 65 rfl)) fun a hS => ?_
 refine sv_r (v := .float .f64 0) hS (ei_ext (hS.get 62 rfl) rfl) fun a hS => ?_
 refine sv_r (v := .iface et (pt eN 0)) hS (ei_ext (hS.get 62 rfl) rfl) fun a hS => ?_
 refine sv_r (v := pt gs 0) hS (ex_nc (hS.get 63 rfl)) fun a hS => ?_
 refine sv_r (v := pt gs 13) hS (ex_fo (hS.get 68 rfl) fo_m3u8_decodingState_13 rfl) fun a hS => ?_
 refine sv_st (i := 0) (v := .float .f64 0) (cs' := #[.int .u64 2, S1, S2, .bool true, S4, S5, S6, S7, S8, S9, S10, S11, S12, .float .f64 0, S14, S15, S16, S17, S18, S19]) (m' := [⟨gs, #[.int .u64 2, S1, S2, .bool true, S4, S5, S6, S7, S8, S9, S10, S11, S12, .float .f64 0, S14, S15, S16, S17, S18, S19], 121, true⟩, ⟨gp, #[P0, P1, P2, P3, P4, P5, P6, P7, P8, P9, P10, P11, P12, P13, P14, P15, P16, P17, P18, P19, P20, P21, P22], 88, true⟩]) hS (su_float64 _) (hS.get 69 rfl) (hS.get 66 rfl) rfl (show 13 < 20 from by decide) rfl rfl ?_
 intro w6 hty hS
 refine sv_r (v := .iface et (pt eN 0)) hS (ex_as (hS.get 67 rfl)) fun a hS => ?_
 refine wpList_nil ?_
 replace hS := hS.cut [9, 61, 11, 51, 10, 32, 2, 8, 0, 1, 3]
 show Code.wp _ _ _ _ _
 refine wp_seq ?_
 refine wp_region_lit ?_
 refine sv_r (v := .bool false) hS (ex_mv (hS.get 3 rfl)) fun a hS => ?_
 refine sv_r (v := .bool false) hS (ex_mv (hS.get 70 rfl)) fun a hS => ?_
 refine sv_goff hS rfl rfl (hS.get 71 rfl) rfl rfl (by decide) ?_
 intro a hS
 refine sv_goff hS rfl rfl (hS.get 71 rfl) rfl rfl (by decide) ?_
 intro a hS
 refine sv_r (v := .bool false) hS (ex_pickF (hS.get 71 rfl) rfl) fun a hS => ?_
 replace hS : Sv 1040 ((74, .bool false) :: (9, .iface et (pt eN 0)) :: (61, .bool true) :: (11, .string (L.extract 8 ix)) :: (51, .bool false) :: (10, .int .i64 ((ix : Nat) : Int)) :: (32, .bool true) :: (2, .string L) :: (8, .nilIface) :: (0, pt gp 0) :: (1, pt gs 0) :: (3, .bool false) :: []) [⟨gs, #[.int .u64 2, S1, S2, .bool true, S4, S5, S6, S7, S8, S9, S10, S11, S12, .float .f64 0, S14, S15, S16, S17, S18, S19], 121, true⟩, ⟨gp, #[P0, P1, P2, P3, P4, P5, P6, P7, P8, P9, P10, P11, P12, P13, P14, P15, P16, P17, P18, P19, P20, P21, P22], 88, true⟩] (fun q => q = gp ∨ q = gs) w a w6 := hS.pick rfl
 refine nx1 ?_
 refine cond_f (hS.get 74 rfl) ?_
 refine wp_skip ?_
 show Code.wp _ _ _ _ _
 refine wp_seq ?_
 refine wp_region_lit ?_
 refine sv_r (v := .string L) hS (ex_mv (hS.get 2 rfl)) fun a hS => ?_
 refine sv_r (v := .int .i64 ((L.size : Nat) : Int)) hS (ex_slen (ats := #[]) (hS.get 76 rfl)) fun a hS => ?_
 refine sv_r (v := .int .i64 ((ix : Nat) : Int)) hS (ex_mv (hS.get 10 rfl)) fun a hS => ?_
 refine sv_r (v := .bool true) hS (ei_gtr (hS.get 77 rfl) (hS.get 78 rfl) (by rw [decide_eq_true_iff]; omega)) fun a hS => ?_
 refine wpList_nil ?_
 replace hS := hS.cut [79, 74, 9, 61, 11, 51, 10, 32, 2, 8, 0, 1, 3]
 show Code.wp _ _ _ _ _
 refine cond_t (hS.get 79 rfl) ?_
 refine wp_region_lit ?_
 refine sv_r (v := pt gs 0) hS (ex_mv (hS.get 1 rfl)) fun a hS => ?_
 refine sv_r (v := .string L) hS (ex_mv (hS.get 2 rfl)) fun a hS => ?_
 refine sv_r (v := .int .i64 ((ix : Nat) : Int)) hS (ex_mv (hS.get 10 rfl)) fun a hS => ?_
 refine sv_r (v := .int .i64 ((ix + 1 : Nat) : Int)) hS (ei_add (hS.get 82 rfl) rfl (by rw [IntKind.wrap_i64]; omega)) fun a hS => ?_
 refine sv_r (v := .string (L.extract (ix + 1) L.size)) hS (ex_ssl (hS.get 81 rfl) (hS.get 83 rfl) (by omega)) fun a hS => ?_
 refine sv_r (v := pt gs 0) hS (ex_nc (hS.get 80 rfl)) fun a hS => ?_
 refine sv_r (v := pt gs 14) hS (ex_fo (hS.get 85 rfl) fo_m3u8_decodingState_14 rfl) fun a hS => ?_
 refine sv_st (i := 0) (v := .string (L.extract (ix + 1) L.size)) (cs' := #[.int .u64 2, S1, S2, .bool true, S4, S5, S6, S7, S8, S9, S10, S11, S12, .float .f64 0, .string (L.extract (ix + 1) L.size), S15, S16, S17, S18, S19]) (m' := [⟨gs, #[.int .u64 2, S1, S2, .bool true, S4, S5, S6, S7, S8, S9, S10, S11, S12, .float .f64 0, .string (L.extract (ix + 1) L.size), S15, S16, S17, S18, S19], 121, true⟩, ⟨gp, #[P0, P1, P2, P3, P4, P5, P6, P7, P8, P9, P10, P11, P12, P13, P14, P15, P16, P17, P18, P19, P20, P21, P22], 88, true⟩]) hS (su_string _) (hS.get 86 rfl) (hS.get 84 rfl) rfl (show 14 < 20 from by decide) rfl rfl ?_
 intro w7 hty hS
 refine wpList_nil ?_
 replace hS := hS.cut [79, 74, 9, 61, 11, 51, 10, 32, 2, 8, 0, 1, 3]
 show Code.wp _ _ _ _ _
 refine wp_seq ?_
 refine wp_region_lit ?_
 refine sv_r (v := .iface et (pt eN 0)) hS (ex_mv (hS.get 9 rfl)) fun a hS => ?_
 refine sv_r (v := .iface et (pt eN 0)) hS (ex_as (hS.get 1039 rfl)) fun a hS => ?_
 replace hS : Sv 1040 ((8, .iface et (pt eN 0)) :: (79, .bool true) :: (74, .bool false) :: (9, .iface et (pt eN 0)) :: (61, .bool true) :: (11, .string (L.extract 8 ix)) :: (51, .bool false) :: (10, .int .i64 ((ix : Nat) : Int)) :: (32, .bool true) :: (2, .string L) :: (0, pt gp 0) :: (1, pt gs 0) :: (3, .bool false) :: []) [⟨gs, #[.int .u64 2, S1, S2, .bool true, S4, S5, S6, S7, S8, S9, S10, S11, S12, .float .f64 0, .string (L.extract (ix + 1) L.size), S15, S16, S17, S18, S19], 121, true⟩, ⟨gp, #[P0, P1, P2, P3, P4, P5, P6, P7, P8, P9, P10, P11, P12, P13, P14, P15, P16, P17, P18, P19, P20, P21, P22], 88, true⟩] (fun q => q = gp ∨ q = gs) w a w7 := hS.pick rfl
 refine nx1 ?_
 refine wp_ret ?_
 try simp only [Exit.inBlock, Exit.then]
 exact ret_of_ev hS.ev rfl (hS.get 8 rfl) ⟨_, rfl, ⟨_, _, rfl⟩, hS.only, hS.at 1 rfl, hS.at 0 rfl⟩
end Go.Proofs.YtflppablgdegcaaGreatDoor
