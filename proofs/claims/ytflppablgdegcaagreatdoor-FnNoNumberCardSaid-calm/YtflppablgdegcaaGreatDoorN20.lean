/- Joined: Dlnil, Dluri. -/
import Derived.Test.YtflppablgdegcaaGreatDoorN14
import Derived.Test.YtflppablgdegcaaGreatDoorN19
/- decodeLineOfMediaPlaylist: a line of no tag -/
set_option maxRecDepth 100000
set_option maxHeartbeats 8000000
namespace Go.Proofs.YtflppablgdegcaaGreatDoor
open Go.RowKit

theorem dl_nil {B : Nat} {G : Ge} {gp gs : Nat} {s L : ByteArray} {st : Bool} {P0 P1 P2 P3 P4 P5 P6 P7 P8 P9 P10 P11 P12 P13 P14 P15 P16 P17 P18 P19 P20 P21 P22 S0 S1 S2 S10 S11 S12 S13 S14 S15 S16 S17 S18 S19 : Value} (w : World) (hG : Env B G w) (hsz : s.size ≤ 1000000) (hasc : Asc s) (hLs : trimA s = L) (hL : L.data.toList = []) (hgp : w.heap[gp]? = some (.cells #[P0, P1, P2, P3, P4, P5, P6, P7, P8, P9, P10, P11, P12, P13, P14, P15, P16, P17, P18, P19, P20, P21, P22] 88 (0, 0))) (hgs : w.heap[gs]? = some (.cells #[S0, S1, S2, .bool false, .bool false, .bool false, .bool false, .bool false, .bool false, .bool false, S10, S11, S12, S13, S14, S15, S16, S17, S18, S19] 121 (0, 0))) (hne : gp ≠ gs) (hBp : B ≤ gp) (hBs : B ≤ gs) : Calls Tryz.prog 47 #[pt gp 0, pt gs 0, .string s, .bool st] w fun e w' => e = .returned .nilIface ∧ Only (fun q => q = gp ∨ q = gs) w w' ∧ w'.heap[gp]? = some (.cells #[P0, P1, P2, P3, P4, P5, P6, P7, P8, P9, P10, P11, P12, P13, P14, P15, P16, P17, P18, P19, P20, P21, P22] 88 (0, 0)) ∧ w'.heap[gs]? = some (.cells #[S0, S1, S2, .bool false, .bool false, .bool false, .bool false, .bool false, .bool false, .bool false, S10, S11, S12, S13, S14, S15, S16, S17, S18, S19] 121 (0, 0)) := by
 refine calls_of_ev Tryz.func47 rfl (show 4 ≤ 1040 from by decide) ?_
 intro a hE
 have hE : Ev 1040 ((0, pt gp 0) :: (1, pt gs 0) :: (2, .string s) :: (3, .bool st) :: []) a := hE
 have hS : Sv 1040 ((0, pt gp 0) :: (1, pt gs 0) :: (2, .string s) :: (3, .bool st) :: []) [] (fun q => q = gp ∨ q = gs) w a w := Sv.start hE _ _
 clear hE
 replace hS : Sv 1040 ((0, pt gp 0) :: (1, pt gs 0) :: (2, .string s) :: (3, .bool st) :: []) [⟨gs, #[S0, S1, S2, .bool false, .bool false, .bool false, .bool false, .bool false, .bool false, .bool false, S10, S11, S12, S13, S14, S15, S16, S17, S18, S19], 121, true⟩, ⟨gp, #[P0, P1, P2, P3, P4, P5, P6, P7, P8, P9, P10, P11, P12, P13, P14, P15, P16, P17, P18, P19, P20, P21, P22], 88, true⟩] (fun q => q = gp ∨ q = gs) w a w := ((hS.addB hgp (by intro q hq; cases hq) (fun _ => .inl (.inl rfl))).addB hgs (by intro q hq; cases List.mem_singleton.1 hq; exact hne) (fun _ => .inl (.inr rfl))).pick rfl
 refine wp_seq ?_
 refine wp_region_lit ?_
 refine sv_r (v := .nilIface) hS ex_ac fun a hS => ?_
 refine wpList_nil ?_
 replace hS := hS.cut [8, 0, 1, 2, 3]
 show Code.wp _ _ _ _ _
 refine wp_seq ?_
 refine wp_region_lit ?_
 refine sv_r (v := .nilIface) hS ex_ac fun a hS => ?_
 refine wpList_nil ?_
 replace hS := hS.cut [9, 8, 0, 1, 2, 3]
 show Code.wp _ _ _ _ _
 refine wp_seq ?_
 refine wp_region_lit ?_
 refine sv_r (v := .string s) hS (ex_mv (hS.get 2 rfl)) fun a hS => ?_
 refine sv_callv (v := .string L) hS rfl rfl (by decide) (ex_call1 cf_strings_TrimSpace (hS.get 30 rfl)) (trimL hLs (Nat.le_trans hsz (by decide)) hasc _ (hG.keep hS.only (fun q hq => by rcases hq with rfl | rfl; (· exact hBp); (· exact hBs)))) ?_
 intro a w1 hbw1 hS
 refine sv_r (v := .string L) hS (ex_as (hS.get 31 rfl)) fun a hS => ?_
 replace hS : Sv 1040 ((2, .string L) :: (9, .nilIface) :: (8, .nilIface) :: (0, pt gp 0) :: (1, pt gs 0) :: (3, .bool st) :: []) [⟨gs, #[S0, S1, S2, .bool false, .bool false, .bool false, .bool false, .bool false, .bool false, .bool false, S10, S11, S12, S13, S14, S15, S16, S17, S18, S19], 121, true⟩, ⟨gp, #[P0, P1, P2, P3, P4, P5, P6, P7, P8, P9, P10, P11, P12, P13, P14, P15, P16, P17, P18, P19, P20, P21, P22], 88, true⟩] (fun q => q = gp ∨ q = gs) w a w1 := hS.pick rfl
 refine nx1 ?_
 refine wp_seq ?_
 refine wp_block ?_
 refine wp_seq ?_
 refine wp_region_lit ?_
 refine sv_r (v := pt gs 0) hS (ex_mv (hS.get 1 rfl)) fun a hS => ?_
 refine sv_r (v := pt gs 0) hS (ex_nc (hS.get 33 rfl)) fun a hS => ?_
 refine sv_r (v := pt gs 3) hS (ex_fo (hS.get 34 rfl) fo_m3u8_decodingState_3 rfl) fun a hS => ?_
 refine sv_r (v := .bool false) hS (ex_ld (hS.get 35 rfl) lt_bool (cell_of_heap (v := .bool false) (hS.at 0 rfl) rfl)) fun a hS => ?_
 refine sv_r (v := .bool true) hS (ex_not (hS.get 36 rfl)) fun a hS => ?_
 refine sv_r (v := .bool true) hS (ex_mv (hS.get 37 rfl)) fun a hS => ?_
 refine sv_g (v := .string L) hS (hS.get 38 rfl) (ex_mv (hS.get 2 rfl)) fun a hS => ?_
 refine sv_gcallq (v := .bool false) hS rfl rfl (hS.get 38 rfl) rfl (by decide) (ex_call2 cf_strings_HasPrefix (hS.get 39 rfl) rfl) (hasP (by rw [hL]; rfl) _) ?_
 intro a hS
 refine sv_r (v := .bool false) hS (ex_pickT (hS.get 38 rfl) (hS.get 40 rfl)) fun a hS => ?_
 refine sv_r (v := .bool false) hS (ex_as (hS.get 41 rfl)) fun a hS => ?_
 refine wpList_nil ?_
 replace hS := hS.cut [32, 2, 9, 8, 0, 1, 3]
 show Code.wp _ _ _ _ _
 refine cond_f (hS.get 32 rfl) ?_
 refine wp_seq ?_
 refine wp_region_lit ?_
 refine sv_r (v := .string L) hS (ex_mv (hS.get 2 rfl)) fun a hS => ?_
 refine sv_callq (v := .bool false) hS rfl rfl (by decide) (ex_call2 cf_strings_HasPrefix (hS.get 88 rfl) rfl) (hasP (by rw [hL]; rfl) _) ?_
 intro a hS
 refine sv_r (v := .bool true) hS (ex_not (hS.get 89 rfl)) fun a hS => ?_
 refine sv_r (v := .bool true) hS (ex_as (hS.get 90 rfl)) fun a hS => ?_
 refine wpList_nil ?_
 replace hS := hS.cut [87, 32, 2, 9, 8, 0, 1, 3]
 show Code.wp _ _ _ _ _
 refine cond_t (hS.get 87 rfl) ?_
 refine wp_seq ?_
 refine wp_seq ?_
 refine wp_region_lit ?_
 refine sv_r (v := pt gs 0) hS (ex_mv (hS.get 1 rfl)) fun a hS => ?_
 refine sv_r (v := pt gs 0) hS (ex_nc (hS.get 91 rfl)) fun a hS => ?_
 refine sv_r (v := pt gs 3) hS (ex_fo (hS.get 92 rfl) fo_m3u8_decodingState_3 rfl) fun a hS => ?_
 refine sv_r (v := .bool false) hS (ex_ld (hS.get 93 rfl) lt_bool (cell_of_heap (v := .bool false) (hS.at 0 rfl) rfl)) fun a hS => ?_
 replace hS : Sv 1040 ((94, .bool false) :: (87, .bool true) :: (32, .bool false) :: (2, .string L) :: (9, .nilIface) :: (8, .nilIface) :: (0, pt gp 0) :: (1, pt gs 0) :: (3, .bool st) :: []) [⟨gs, #[S0, S1, S2, .bool false, .bool false, .bool false, .bool false, .bool false, .bool false, .bool false, S10, S11, S12, S13, S14, S15, S16, S17, S18, S19], 121, true⟩, ⟨gp, #[P0, P1, P2, P3, P4, P5, P6, P7, P8, P9, P10, P11, P12, P13, P14, P15, P16, P17, P18, P19, P20, P21, P22], 88, true⟩] (fun q => q = gp ∨ q = gs) w a w1 := hS.pick rfl
 refine nx1 ?_
 refine cond_f (hS.get 94 rfl) ?_
 refine wp_skip ?_
 show Code.wp _ _ _ _ _
 refine wp_seq ?_
 refine wp_seq ?_
 refine wp_region_lit ?_
 refine sv_r (v := pt gs 0) hS (ex_mv (hS.get 1 rfl)) fun a hS => ?_
 refine sv_r (v := pt gs 0) hS (ex_nc (hS.get 152 rfl)) fun a hS => ?_
 refine sv_r (v := pt gs 5) hS (ex_fo (hS.get 153 rfl) fo_m3u8_decodingState_5 rfl) fun a hS => ?_
 refine sv_r (v := .bool false) hS (ex_ld (hS.get 154 rfl) lt_bool (cell_of_heap (v := .bool false) (hS.at 0 rfl) rfl)) fun a hS => ?_
 refine wpList_nil ?_
 replace hS := hS.cut [155, 94, 87, 32, 2, 9, 8, 0, 1, 3]
 show Code.wp _ _ _ _ _
 refine cond_f (hS.get 155 rfl) ?_
 refine wp_skip ?_
 show Code.wp _ _ _ _ _
 refine wp_seq ?_
 refine wp_seq ?_
 refine wp_region_lit ?_
 refine sv_r (v := pt gs 0) hS (ex_mv (hS.get 1 rfl)) fun a hS => ?_
 refine sv_r (v := pt gs 0) hS (ex_nc (hS.get 175 rfl)) fun a hS => ?_
 refine sv_r (v := pt gs 4) hS (ex_fo (hS.get 176 rfl) fo_m3u8_decodingState_4 rfl) fun a hS => ?_
 refine sv_r (v := .bool false) hS (ex_ld (hS.get 177 rfl) lt_bool (cell_of_heap (v := .bool false) (hS.at 0 rfl) rfl)) fun a hS => ?_
 refine wpList_nil ?_
 replace hS := hS.cut [178, 155, 94, 87, 32, 2, 9, 8, 0, 1, 3]
 show Code.wp _ _ _ _ _
 refine cond_f (hS.get 178 rfl) ?_
 refine wp_skip ?_
 show Code.wp _ _ _ _ _
 refine wp_seq ?_
 refine wp_seq ?_
 refine wp_region_lit ?_
 refine sv_r (v := pt gs 0) hS (ex_mv (hS.get 1 rfl)) fun a hS => ?_
 refine sv_r (v := pt gs 0) hS (ex_nc (hS.get 194 rfl)) fun a hS => ?_
 refine sv_r (v := pt gs 6) hS (ex_fo (hS.get 195 rfl) fo_m3u8_decodingState_6 rfl) fun a hS => ?_
 refine sv_r (v := .bool false) hS (ex_ld (hS.get 196 rfl) lt_bool (cell_of_heap (v := .bool false) (hS.at 0 rfl) rfl)) fun a hS => ?_
 replace hS : Sv 1040 ((197, .bool false) :: (178, .bool false) :: (155, .bool false) :: (94, .bool false) :: (87, .bool true) :: (32, .bool false) :: (2, .string L) :: (9, .nilIface) :: (8, .nilIface) :: (0, pt gp 0) :: (1, pt gs 0) :: (3, .bool st) :: []) [⟨gs, #[S0, S1, S2, .bool false, .bool false, .bool false, .bool false, .bool false, .bool false, .bool false, S10, S11, S12, S13, S14, S15, S16, S17, S18, S19], 121, true⟩, ⟨gp, #[P0, P1, P2, P3, P4, P5, P6, P7, P8, P9, P10, P11, P12, P13, P14, P15, P16, P17, P18, P19, P20, P21, P22], 88, true⟩] (fun q => q = gp ∨ q = gs) w a w1 := hS.pick rfl
 refine nx1 ?_
 refine cond_f (hS.get 197 rfl) ?_
 refine wp_skip ?_
 show Code.wp _ _ _ _ _
 refine wp_seq ?_
 refine wp_seq ?_
 refine wp_region_lit ?_
 refine sv_r (v := pt gs 0) hS (ex_mv (hS.get 1 rfl)) fun a hS => ?_
 refine sv_r (v := pt gs 0) hS (ex_nc (hS.get 209 rfl)) fun a hS => ?_
 refine sv_r (v := pt gs 7) hS (ex_fo (hS.get 210 rfl) fo_m3u8_decodingState_7 rfl) fun a hS => ?_
 refine sv_r (v := .bool false) hS (ex_ld (hS.get 211 rfl) lt_bool (cell_of_heap (v := .bool false) (hS.at 0 rfl) rfl)) fun a hS => ?_
 refine sv_r (v := .bool false) hS (ex_mv (hS.get 212 rfl)) fun a hS => ?_
 refine sv_goff hS rfl rfl (hS.get 213 rfl) rfl rfl (by decide) ?_
 intro a hS
 refine sv_goff hS rfl rfl (hS.get 213 rfl) rfl rfl (by decide) ?_
 intro a hS
 refine sv_goff hS rfl rfl (hS.get 213 rfl) rfl rfl (by decide) ?_
 intro a hS
 refine sv_r (v := .bool false) hS (ex_pickF (hS.get 213 rfl) rfl) fun a hS => ?_
 refine wpList_nil ?_
 replace hS := hS.cut [217, 197, 178, 155, 94, 87, 32, 2, 9, 8, 0, 1, 3]
 show Code.wp _ _ _ _ _
 refine cond_f (hS.get 217 rfl) ?_
 refine wp_skip ?_
 show Code.wp _ _ _ _ _
 refine wp_seq ?_
 refine wp_seq ?_
 refine wp_region_lit ?_
 refine sv_r (v := pt gs 0) hS (ex_mv (hS.get 1 rfl)) fun a hS => ?_
 refine sv_r (v := pt gs 0) hS (ex_nc (hS.get 233 rfl)) fun a hS => ?_
 refine sv_r (v := pt gs 8) hS (ex_fo (hS.get 234 rfl) fo_m3u8_decodingState_8 rfl) fun a hS => ?_
 refine sv_r (v := .bool false) hS (ex_ld (hS.get 235 rfl) lt_bool (cell_of_heap (v := .bool false) (hS.at 0 rfl) rfl)) fun a hS => ?_
 refine wpList_nil ?_
 replace hS := hS.cut [236, 217, 197, 178, 155, 94, 87, 32, 2, 9, 8, 0, 1, 3]
 show Code.wp _ _ _ _ _
 refine cond_f (hS.get 236 rfl) ?_
 refine wp_skip ?_
 show Code.wp _ _ _ _ _
 refine wp_seq ?_
 refine wp_region_lit ?_
 refine sv_r (v := pt gs 0) hS (ex_mv (hS.get 1 rfl)) fun a hS => ?_
 refine sv_r (v := pt gs 0) hS (ex_nc (hS.get 299 rfl)) fun a hS => ?_
 refine sv_r (v := pt gs 9) hS (ex_fo (hS.get 300 rfl) fo_m3u8_decodingState_9 rfl) fun a hS => ?_
 refine sv_r (v := .bool false) hS (ex_ld (hS.get 301 rfl) lt_bool (cell_of_heap (v := .bool false) (hS.at 0 rfl) rfl)) fun a hS => ?_
 replace hS : Sv 1040 ((302, .bool false) :: (236, .bool false) :: (217, .bool false) :: (197, .bool false) :: (178, .bool false) :: (155, .bool false) :: (94, .bool false) :: (87, .bool true) :: (32, .bool false) :: (2, .string L) :: (9, .nilIface) :: (8, .nilIface) :: (0, pt gp 0) :: (1, pt gs 0) :: (3, .bool st) :: []) [⟨gs, #[S0, S1, S2, .bool false, .bool false, .bool false, .bool false, .bool false, .bool false, .bool false, S10, S11, S12, S13, S14, S15, S16, S17, S18, S19], 121, true⟩, ⟨gp, #[P0, P1, P2, P3, P4, P5, P6, P7, P8, P9, P10, P11, P12, P13, P14, P15, P16, P17, P18, P19, P20, P21, P22], 88, true⟩] (fun q => q = gp ∨ q = gs) w a w1 := hS.pick rfl
 refine nx1 ?_
 refine cond_f (hS.get 302 rfl) ?_
 refine wp_skip ?_
 show Code.wp _ _ _ _ _
 refine wp_seq ?_
 refine wp_region_lit ?_
 refine sv_r (v := .nilIface) hS (ex_mv (hS.get 9 rfl)) fun a hS => ?_
 refine sv_r (v := .nilIface) hS (ex_as (hS.get 1039 rfl)) fun a hS => ?_
 refine wpList_nil ?_
 replace hS := hS.cut [8, 302, 236, 217, 197, 178, 155, 94, 87, 32, 2, 9, 0, 1, 3]
 show Code.wp _ _ _ _ _
 refine wp_ret ?_
 try simp only [Exit.inBlock, Exit.then]
 exact ret_of_ev hS.ev rfl (hS.get 8 rfl) ⟨rfl, hS.only, hS.at 1 rfl, hS.at 0 rfl⟩
end Go.Proofs.YtflppablgdegcaaGreatDoor
/- decodeLineOfMediaPlaylist: a segment's URI -/
set_option maxRecDepth 100000
set_option maxHeartbeats 8000000
namespace Go.Proofs.YtflppablgdegcaaGreatDoor
open Go.RowKit

theorem dl_uri {B : Nat} {G : Ge} {gp gs : Nat} {s L : ByteArray} {st : Bool} {P0 P1 P2 P3 P4 P5 P6 P7 P8 P9 P10 P11 P12 P13 P14 P15 P16 P17 P18 P19 P20 P21 P22 S0 S1 S2 S10 S11 S12 S15 S16 S17 S18 S19 : Value} (w : World) (hG : Env B G w) (hsz : s.size ≤ 1000000) (hasc : Asc s) (hLs : trimA s = L) (hL : L.data.toList = [97, 46, 116, 115]) {gr dur : Nat} {title : ByteArray} {Rc Sc : Array Value} {Rf : Nat → Array Value} {Q0 Q1 Q2 Q3 Q4 Q5 Q6 Q7 Q8 Q9 Q10 Q11 Q12 Q13 Q14 Q15 Q16 Q17 Q18 Q19 Q20 Q21 Q22 : Value} (hgp : w.heap[gp]? = some (.cells #[P0, P1, P2, P3, P4, P5, P6, P7, P8, P9, P10, P11, P12, P13, P14, P15, P16, P17, P18, P19, P20, P21, P22] 88 (0, 0))) (hgs : w.heap[gs]? = some (.cells #[S0, S1, S2, .bool true, .bool false, .bool false, .bool false, .bool false, .bool false, .bool false, S10, S11, S12, .float .f64 (dur), .string title, S15, S16, S17, S18, S19] 121 (0, 0))) (hne : gp ≠ gs) (hBp : B ≤ gp) (hBs : B ≤ gs) (hBr : B ≤ gr) (hrp : gr ≠ gp) (hrs : gr ≠ gs) (hgr : w.heap[gr]? = some (.cells Rc 125 (0, 0))) (hApp : ∀ w, Env B G w → w.heap[gp]? = some (.cells #[P0, P1, P2, P3, P4, P5, P6, P7, P8, P9, P10, P11, P12, P13, P14, P15, P16, P17, P18, P19, P20, P21, P22] 88 (0, 0)) → w.heap[gr]? = some (.cells Rc 125 (0, 0)) → Calls Tryz.prog 61 #[pt gp 0, .string L, .float .f64 dur, .string title] w fun e w' => e = .returned .nilIface ∧ Only (fun q => q = gp ∨ q = gr) w w' ∧ w'.heap[gp]? = some (.cells #[Q0, Q1, Q2, Q3, Q4, Q5, Q6, Q7, Q8, Q9, Q10, Q11, Q12, Q13, Q14, Q15, Q16, Q17, Q18, Q19, Q20, Q21, Q22] 88 (0, 0)) ∧ ∃ sg, w.heap.size ≤ sg ∧ w'.heap[gr]? = some (.cells (Rf sg) 125 (0, 0)) ∧ w'.heap[sg]? = some (.cells Sc 127 (0, 0))) : Calls Tryz.prog 47 #[pt gp 0, pt gs 0, .string s, .bool st] w fun e w' => e = .returned .nilIface ∧ Only (fun q => (q = gp ∨ q = gs) ∨ q = gr) w w' ∧ w'.heap[gp]? = some (.cells #[Q0, Q1, Q2, Q3, Q4, Q5, Q6, Q7, Q8, Q9, Q10, Q11, Q12, Q13, Q14, Q15, Q16, Q17, Q18, Q19, Q20, Q21, Q22] 88 (0, 0)) ∧ w'.heap[gs]? = some (.cells #[S0, S1, S2, .bool false, .bool false, .bool false, .bool false, .bool false, .bool false, .bool false, S10, S11, S12, .float .f64 (dur), .string title, S15, S16, S17, S18, S19] 121 (0, 0)) ∧ ∃ sg, w.heap.size ≤ sg ∧ w'.heap[gr]? = some (.cells (Rf sg) 125 (0, 0)) ∧ w'.heap[sg]? = some (.cells Sc 127 (0, 0)) := by
 refine calls_of_ev Tryz.func47 rfl (show 4 ≤ 1040 from by decide) ?_
 intro a hE
 have hE : Ev 1040 ((0, pt gp 0) :: (1, pt gs 0) :: (2, .string s) :: (3, .bool st) :: []) a := hE
 have hS : Sv 1040 ((0, pt gp 0) :: (1, pt gs 0) :: (2, .string s) :: (3, .bool st) :: []) [] (fun q => (q = gp ∨ q = gs) ∨ q = gr) w a w := Sv.start hE _ _
 clear hE
 replace hS : Sv 1040 ((0, pt gp 0) :: (1, pt gs 0) :: (2, .string s) :: (3, .bool st) :: []) [⟨gs, #[S0, S1, S2, .bool true, .bool false, .bool false, .bool false, .bool false, .bool false, .bool false, S10, S11, S12, .float .f64 (dur), .string title, S15, S16, S17, S18, S19], 121, true⟩, ⟨gp, #[P0, P1, P2, P3, P4, P5, P6, P7, P8, P9, P10, P11, P12, P13, P14, P15, P16, P17, P18, P19, P20, P21, P22], 88, true⟩] (fun q => (q = gp ∨ q = gs) ∨ q = gr) w a w := ((hS.addB hgp (by intro q hq; cases hq) (fun _ => .inl (.inl (.inl rfl)))).addB hgs (by intro q hq; cases List.mem_singleton.1 hq; exact hne) (fun _ => .inl (.inl (.inr rfl)))).pick rfl
 replace hS : Sv 1040 ((0, pt gp 0) :: (1, pt gs 0) :: (2, .string s) :: (3, .bool st) :: []) [⟨gr, Rc, 125, true⟩, ⟨gs, #[S0, S1, S2, .bool true, .bool false, .bool false, .bool false, .bool false, .bool false, .bool false, S10, S11, S12, .float .f64 (dur), .string title, S15, S16, S17, S18, S19], 121, true⟩, ⟨gp, #[P0, P1, P2, P3, P4, P5, P6, P7, P8, P9, P10, P11, P12, P13, P14, P15, P16, P17, P18, P19, P20, P21, P22], 88, true⟩] (fun q => (q = gp ∨ q = gs) ∨ q = gr) w a w := (hS.addB hgr (by intro q hq; simp only [List.mem_cons, List.not_mem_nil, or_false] at hq; rcases hq with rfl | rfl; (· exact hrs.symm); (· exact hrp.symm)) (fun _ => .inl (.inr rfl))).pick rfl
 refine wp_seq ?_
 refine wp_region_lit ?_
 refine sv_r (v := .nilIface) hS ex_ac fun a hS => ?_
 refine wpList_nil ?_
 replace hS := hS.cut [8, 0, 1, 2, 3]
 show Code.wp _ _ _ _ _
 refine wp_seq ?_
 refine wp_region_lit ?_
 refine sv_r (v := .nilIface) hS ex_ac fun a hS => ?_
 refine wpList_nil ?_
 replace hS := hS.cut [9, 8, 0, 1, 2, 3]
 show Code.wp _ _ _ _ _
 refine wp_seq ?_
 refine wp_region_lit ?_
 refine sv_r (v := .string s) hS (ex_mv (hS.get 2 rfl)) fun a hS => ?_
 refine sv_callv (v := .string L) hS rfl rfl (by decide) (ex_call1 cf_strings_TrimSpace (hS.get 30 rfl)) (trimL hLs (Nat.le_trans hsz (by decide)) hasc _ (hG.keep hS.only (fun q hq => by rcases hq with (rfl | rfl) | rfl; (· exact hBp); (· exact hBs); (· exact hBr)))) ?_
 intro a w1 hbw1 hS
 refine sv_r (v := .string L) hS (ex_as (hS.get 31 rfl)) fun a hS => ?_
 replace hS : Sv 1040 ((2, .string L) :: (9, .nilIface) :: (8, .nilIface) :: (0, pt gp 0) :: (1, pt gs 0) :: (3, .bool st) :: []) [⟨gr, Rc, 125, true⟩, ⟨gs, #[S0, S1, S2, .bool true, .bool false, .bool false, .bool false, .bool false, .bool false, .bool false, S10, S11, S12, .float .f64 (dur), .string title, S15, S16, S17, S18, S19], 121, true⟩, ⟨gp, #[P0, P1, P2, P3, P4, P5, P6, P7, P8, P9, P10, P11, P12, P13, P14, P15, P16, P17, P18, P19, P20, P21, P22], 88, true⟩] (fun q => (q = gp ∨ q = gs) ∨ q = gr) w a w1 := hS.pick rfl
 refine nx1 ?_
 refine wp_seq ?_
 refine wp_block ?_
 refine wp_seq ?_
 refine wp_region_lit ?_
 refine sv_r (v := pt gs 0) hS (ex_mv (hS.get 1 rfl)) fun a hS => ?_
 refine sv_r (v := pt gs 0) hS (ex_nc (hS.get 33 rfl)) fun a hS => ?_
 refine sv_r (v := pt gs 3) hS (ex_fo (hS.get 34 rfl) fo_m3u8_decodingState_3 rfl) fun a hS => ?_
 refine sv_r (v := .bool true) hS (ex_ld (hS.get 35 rfl) lt_bool (cell_of_heap (v := .bool true) (hS.at 1 rfl) rfl)) fun a hS => ?_
 refine sv_r (v := .bool false) hS (ex_not (hS.get 36 rfl)) fun a hS => ?_
 refine sv_r (v := .bool false) hS (ex_mv (hS.get 37 rfl)) fun a hS => ?_
 refine sv_goff hS rfl rfl (hS.get 38 rfl) rfl rfl (by decide) ?_
 intro a hS
 refine sv_goff hS rfl rfl (hS.get 38 rfl) rfl rfl (by decide) ?_
 intro a hS
 refine sv_r (v := .bool false) hS (ex_pickF (hS.get 38 rfl) rfl) fun a hS => ?_
 refine sv_r (v := .bool false) hS (ex_as (hS.get 41 rfl)) fun a hS => ?_
 refine wpList_nil ?_
 replace hS := hS.cut [32, 2, 9, 8, 0, 1, 3]
 show Code.wp _ _ _ _ _
 refine cond_f (hS.get 32 rfl) ?_
 refine wp_seq ?_
 refine wp_region_lit ?_
 refine sv_r (v := .string L) hS (ex_mv (hS.get 2 rfl)) fun a hS => ?_
 refine sv_callq (v := .bool false) hS rfl rfl (by decide) (ex_call2 cf_strings_HasPrefix (hS.get 88 rfl) rfl) (hasP (by rw [hL]; rfl) _) ?_
 intro a hS
 refine sv_r (v := .bool true) hS (ex_not (hS.get 89 rfl)) fun a hS => ?_
 refine sv_r (v := .bool true) hS (ex_as (hS.get 90 rfl)) fun a hS => ?_
 refine wpList_nil ?_
 replace hS := hS.cut [87, 32, 2, 9, 8, 0, 1, 3]
 show Code.wp _ _ _ _ _
 refine cond_t (hS.get 87 rfl) ?_
 refine wp_seq ?_
 refine wp_seq ?_
 refine wp_region_lit ?_
 refine sv_r (v := pt gs 0) hS (ex_mv (hS.get 1 rfl)) fun a hS => ?_
 refine sv_r (v := pt gs 0) hS (ex_nc (hS.get 91 rfl)) fun a hS => ?_
 refine sv_r (v := pt gs 3) hS (ex_fo (hS.get 92 rfl) fo_m3u8_decodingState_3 rfl) fun a hS => ?_
 refine sv_r (v := .bool true) hS (ex_ld (hS.get 93 rfl) lt_bool (cell_of_heap (v := .bool true) (hS.at 1 rfl) rfl)) fun a hS => ?_
 replace hS : Sv 1040 ((94, .bool true) :: (87, .bool true) :: (32, .bool false) :: (2, .string L) :: (9, .nilIface) :: (8, .nilIface) :: (0, pt gp 0) :: (1, pt gs 0) :: (3, .bool st) :: []) [⟨gr, Rc, 125, true⟩, ⟨gs, #[S0, S1, S2, .bool true, .bool false, .bool false, .bool false, .bool false, .bool false, .bool false, S10, S11, S12, .float .f64 (dur), .string title, S15, S16, S17, S18, S19], 121, true⟩, ⟨gp, #[P0, P1, P2, P3, P4, P5, P6, P7, P8, P9, P10, P11, P12, P13, P14, P15, P16, P17, P18, P19, P20, P21, P22], 88, true⟩] (fun q => (q = gp ∨ q = gs) ∨ q = gr) w a w1 := hS.pick rfl
 refine nx1 ?_
 refine cond_t (hS.get 94 rfl) ?_
 refine wp_seq ?_
 refine wp_region_og1 (n := 1040) 10 [Asr.eq (pt gp 0), Asr.eq (.string L), Asr.eq (pt gs 0), Asr.eq (pt gs 0), Asr.eq (pt gs 13), Asr.eq (.float .f64 (dur)), Asr.eq (pt gs 0), Asr.eq (pt gs 0), Asr.eq (pt gs 14), Asr.eq (.string title)] (by kernel_rfl) (by kernel_rfl) (by kernel_rfl) (by simp) (by kernel_rfl) hS.ev.size ⟨⟩ ?_ ?_
 ·simp only [List.take_succ_cons, List.take_zero]
  refine ⟨?_, ?_, ?_, ?_, ?_, ?_, ?_, ?_, ?_, ?_, trivial⟩
  ·intro a wx c
   have e_0 : a.eval (.tmp 0) = pt gp 0 := c.outE (by decide +kernel) (hS.get 0 rfl)
   clear c
   exact og_val (ex_mv e_0) rfl
  ·intro a wx c
   have e_2 : a.eval (.tmp 2) = .string L := c.outE (by decide +kernel) (hS.get 2 rfl)
   clear c
   exact og_val (ex_mv e_2) rfl
  ·intro a wx c
   have e_1 : a.eval (.tmp 1) = pt gs 0 := c.outE (by decide +kernel) (hS.get 1 rfl)
   clear c
   exact og_val (ex_mv e_1) rfl
  ·intro a wx c
   have e_97 : a.eval (.tmp 97) = pt gs 0 := c.slot 2 _ (by decide +kernel) rfl
   clear c
   exact og_val (ex_nc e_97) rfl
  ·intro a wx c
   have e_98 : a.eval (.tmp 98) = pt gs 0 := c.slot 3 _ (by decide +kernel) rfl
   clear c
   exact og_val (ex_fo e_98 fo_m3u8_decodingState_13 rfl) rfl
  ·intro a wx c
   have e_99 : a.eval (.tmp 99) = pt gs 13 := c.slot 4 _ (by decide +kernel) rfl
   have hO := hS.ogc c
   clear c
   exact og_val (ex_ld e_99 lt_float64 (cell_of_heap (v := .float .f64 (dur)) (hO.at 1 rfl) rfl)) rfl
  ·intro a wx c
   have e_1 : a.eval (.tmp 1) = pt gs 0 := c.outE (by decide +kernel) (hS.get 1 rfl)
   clear c
   exact og_val (ex_mv e_1) rfl
  ·intro a wx c
   have e_101 : a.eval (.tmp 101) = pt gs 0 := c.slot 6 _ (by decide +kernel) rfl
   clear c
   exact og_val (ex_nc e_101) rfl
  ·intro a wx c
   have e_102 : a.eval (.tmp 102) = pt gs 0 := c.slot 7 _ (by decide +kernel) rfl
   clear c
   exact og_val (ex_fo e_102 fo_m3u8_decodingState_14 rfl) rfl
  ·intro a wx c
   have e_103 : a.eval (.tmp 103) = pt gs 14 := c.slot 8 _ (by decide +kernel) rfl
   have hO := hS.ogc c
   clear c
   exact og_val (ex_ld e_103 lt_string (cell_of_heap (v := .string title) (hO.at 1 rfl) rfl)) rfl
 ·intro a w2 c hbw2
  replace hS : Sv 1040 ((104, .string title) :: (100, .float .f64 (dur)) :: (96, .string L) :: (95, pt gp 0) :: (3, .bool st) :: (1, pt gs 0) :: (0, pt gp 0) :: (8, .nilIface) :: (9, .nilIface) :: (2, .string L) :: (32, .bool false) :: (87, .bool true) :: (94, .bool true) :: []) [⟨gr, Rc, 125, true⟩, ⟨gs, #[S0, S1, S2, .bool true, .bool false, .bool false, .bool false, .bool false, .bool false, .bool false, S10, S11, S12, .float .f64 (dur), .string title, S15, S16, S17, S18, S19], 121, true⟩, ⟨gp, #[P0, P1, P2, P3, P4, P5, P6, P7, P8, P9, P10, P11, P12, P13, P14, P15, P16, P17, P18, P19, P20, P21, P22], 88, true⟩] (fun q => (q = gp ∨ q = gs) ∨ q = gr) w a w2 := ((((((((((((((hS.ogh c).know (c.outE (by decide +kernel) (hS.get 94 rfl))).know (c.outE (by decide +kernel) (hS.get 87 rfl))).know (c.outE (by decide +kernel) (hS.get 32 rfl))).know (c.outE (by decide +kernel) (hS.get 2 rfl))).know (c.outE (by decide +kernel) (hS.get 9 rfl))).know (c.outE (by decide +kernel) (hS.get 8 rfl))).know (c.outE (by decide +kernel) (hS.get 0 rfl))).know (c.outE (by decide +kernel) (hS.get 1 rfl))).know (c.outE (by decide +kernel) (hS.get 3 rfl))).know (c.slot 0 _ (by decide +kernel) rfl)).know (c.slot 1 _ (by decide +kernel) rfl)).know (c.slot 5 _ (by decide +kernel) rfl)).know (c.slot 9 _ (by decide +kernel) rfl))
  clear c
  simp only [List.drop_succ_cons, List.drop_zero]
  have hgpx := hS.at 2 rfl
  have hgrx := hS.at 0 rfl
  have hGx : Env B G w2 := (hG.keep hS.only (fun q hq => by rcases hq with (rfl | rfl) | rfl; (· exact hBp); (· exact hBs); (· exact hBr)))
  replace hS : Sv 1040 ((104, .string title) :: (100, .float .f64 (dur)) :: (96, .string L) :: (95, pt gp 0) :: (3, .bool st) :: (1, pt gs 0) :: (0, pt gp 0) :: (8, .nilIface) :: (9, .nilIface) :: (2, .string L) :: (32, .bool false) :: (87, .bool true) :: (94, .bool true) :: []) [⟨gs, #[S0, S1, S2, .bool true, .bool false, .bool false, .bool false, .bool false, .bool false, .bool false, S10, S11, S12, .float .f64 (dur), .string title, S15, S16, S17, S18, S19], 121, true⟩] (fun q => (q = gp ∨ q = gs) ∨ q = gr) w a w2 := (hS.mask [false, true, false]).pick rfl
  have hltR := hS.lt
  have hszR := hS.size
  refine sv_callo (X := fun q => q = gp ∨ q = gr) (S := fun v w' => v = .nilIface ∧ w'.heap[gp]? = some (.cells #[Q0, Q1, Q2, Q3, Q4, Q5, Q6, Q7, Q8, Q9, Q10, Q11, Q12, Q13, Q14, Q15, Q16, Q17, Q18, Q19, Q20, Q21, Q22] 88 (0, 0)) ∧ ∃ sg, w2.heap.size ≤ sg ∧ w'.heap[gr]? = some (.cells (Rf sg) 125 (0, 0)) ∧ w'.heap[sg]? = some (.cells Sc 127 (0, 0))) hS rfl rfl (by decide) (ex_call4 cf_m3u8_MediaPlaylist_Append (hS.get 95 rfl) (hS.get 96 rfl) (hS.get 100 rfl) (hS.get 104 rfl)) (Calls.mono (hApp _ hGx hgpx hgrx) fun e w' ⟨h1, h2, h3, h4⟩ => ⟨_, h1, h2, rfl, h3, h4⟩) (by intro q hq; cases List.mem_singleton.1 hq; rintro (h | h); (· exact hne h.symm); (· exact hrs h.symm)) (fun q hq _ => by rcases hq with rfl | rfl; (· exact .inl (.inl rfl)); (· exact .inr rfl)) ?_
  have hgplt : gp < w2.heap.size := (Array.getElem?_eq_some_iff.1 hgpx).1
  have hgrlt : gr < w2.heap.size := (Array.getElem?_eq_some_iff.1 hgrx).1
  rintro a _ w3 ⟨rfl, hgp2, sg, hsg, hgr2, hsg2⟩ hO2 hS
  replace hS : Sv 1040 ((105, .nilIface) :: (104, .string title) :: (100, .float .f64 (dur)) :: (96, .string L) :: (95, pt gp 0) :: (3, .bool st) :: (1, pt gs 0) :: (0, pt gp 0) :: (8, .nilIface) :: (9, .nilIface) :: (2, .string L) :: (32, .bool false) :: (87, .bool true) :: (94, .bool true) :: []) [⟨gp, #[Q0, Q1, Q2, Q3, Q4, Q5, Q6, Q7, Q8, Q9, Q10, Q11, Q12, Q13, Q14, Q15, Q16, Q17, Q18, Q19, Q20, Q21, Q22], 88, true⟩, ⟨gr, (Rf sg), 125, true⟩, ⟨sg, Sc, 127, true⟩, ⟨gs, #[S0, S1, S2, .bool true, .bool false, .bool false, .bool false, .bool false, .bool false, .bool false, S10, S11, S12, .float .f64 (dur), .string title, S15, S16, S17, S18, S19], 121, true⟩] (fun q => (q = gp ∨ q = gs) ∨ q = gr) w a w3 := (((hS.addN hsg2 hltR hsg hszR).addB hgr2 (by intro q hq; simp only [List.mem_cons, List.not_mem_nil, or_false] at hq; rcases hq with rfl | rfl; (· exact (by omega : sg ≠ gr)); (· exact hrs.symm)) (fun _ => .inl (.inr rfl))).addB hgp2 (by intro q hq; simp only [List.mem_cons, List.not_mem_nil, or_false] at hq; rcases hq with rfl | rfl | rfl; (· exact hrp); (· exact (by omega : sg ≠ gp)); (· exact hne.symm)) (fun _ => .inl (.inl (.inl rfl))))
  have hsg0 : w.heap.size ≤ sg := Nat.le_trans hszR hsg
  refine sv_r (v := .nilIface) hS (ex_as (hS.get 105 rfl)) fun a hS => ?_
  refine wpList_nil ?_
  replace hS := hS.cut [12, 3, 1, 0, 8, 9, 2, 32, 87, 94]
  show Code.wp _ _ _ _ _
  refine wp_seq ?_
  refine wp_seq ?_
  refine wp_region_lit ?_
  refine sv_r (v := .nilIface) hS (ex_mv (hS.get 12 rfl)) fun a hS => ?_
  refine sv_r (v := fullV G) hS (ex_ldg lt_error (hG.keep hS.only (fun q hq => by rcases hq with (rfl | rfl) | rfl; (· exact hBp); (· exact hBs); (· exact hBr))).full) fun a hS => ?_
  refine sv_r (v := .bool false) hS (ex_nileq (hS.get 106 rfl) (hS.get 107 rfl)) fun a hS => ?_
  refine wpList_nil ?_
  replace hS := hS.cut [108, 12, 3, 1, 0, 8, 9, 2, 32, 87, 94]
  show Code.wp _ _ _ _ _
  refine cond_f (hS.get 108 rfl) ?_
  refine wp_skip ?_
  show Code.wp _ _ _ _ _
  refine wp_seq ?_
  refine wp_seq ?_
  refine wp_region_lit ?_
  refine sv_r (v := .nilIface) hS (ex_mv (hS.get 12 rfl)) fun a hS => ?_
  refine sv_r (v := .bool false) hS (ex_ine eqi_error (hS.get 146 rfl)) fun a hS => ?_
  replace hS : Sv 1040 ((147, .bool false) :: (108, .bool false) :: (12, .nilIface) :: (3, .bool st) :: (1, pt gs 0) :: (0, pt gp 0) :: (8, .nilIface) :: (9, .nilIface) :: (2, .string L) :: (32, .bool false) :: (87, .bool true) :: (94, .bool true) :: []) [⟨gp, #[Q0, Q1, Q2, Q3, Q4, Q5, Q6, Q7, Q8, Q9, Q10, Q11, Q12, Q13, Q14, Q15, Q16, Q17, Q18, Q19, Q20, Q21, Q22], 88, true⟩, ⟨gr, (Rf sg), 125, true⟩, ⟨sg, Sc, 127, true⟩, ⟨gs, #[S0, S1, S2, .bool true, .bool false, .bool false, .bool false, .bool false, .bool false, .bool false, S10, S11, S12, .float .f64 (dur), .string title, S15, S16, S17, S18, S19], 121, true⟩] (fun q => (q = gp ∨ q = gs) ∨ q = gr) w a w3 := hS.pick rfl
  refine nx1 ?_
  refine cond_f (hS.get 147 rfl) ?_
  refine wp_skip ?_
  show Code.wp _ _ _ _ _
  refine wp_region_lit ?_
  refine sv_r (v := pt gs 0) hS (ex_mv (hS.get 1 rfl)) fun a hS => ?_
  refine sv_r (v := pt gs 0) hS (ex_nc (hS.get 149 rfl)) fun a hS => ?_
  refine sv_r (v := pt gs 3) hS (ex_fo (hS.get 150 rfl) fo_m3u8_decodingState_3 rfl) fun a hS => ?_
  refine sv_st (i := 3) (v := .bool false) (cs' := #[S0, S1, S2, .bool false, .bool false, .bool false, .bool false, .bool false, .bool false, .bool false, S10, S11, S12, .float .f64 (dur), .string title, S15, S16, S17, S18, S19]) (m' := [⟨gp, #[Q0, Q1, Q2, Q3, Q4, Q5, Q6, Q7, Q8, Q9, Q10, Q11, Q12, Q13, Q14, Q15, Q16, Q17, Q18, Q19, Q20, Q21, Q22], 88, true⟩, ⟨gr, (Rf sg), 125, true⟩, ⟨sg, Sc, 127, true⟩, ⟨gs, #[S0, S1, S2, .bool false, .bool false, .bool false, .bool false, .bool false, .bool false, .bool false, S10, S11, S12, .float .f64 (dur), .string title, S15, S16, S17, S18, S19], 121, true⟩]) hS (su_bool _) (hS.get 151 rfl) rfl rfl (show 3 < 20 from by decide) rfl rfl ?_
  intro w4 hty hS
  refine wpList_nil ?_
  replace hS := hS.cut [147, 108, 12, 3, 1, 0, 8, 9, 2, 32, 87, 94]
  show Code.wp _ _ _ _ _
  refine wp_seq ?_
  refine wp_seq ?_
  refine wp_region_lit ?_
  refine sv_r (v := pt gs 0) hS (ex_mv (hS.get 1 rfl)) fun a hS => ?_
  refine sv_r (v := pt gs 0) hS (ex_nc (hS.get 152 rfl)) fun a hS => ?_
  refine sv_r (v := pt gs 5) hS (ex_fo (hS.get 153 rfl) fo_m3u8_decodingState_5 rfl) fun a hS => ?_
  refine sv_r (v := .bool false) hS (ex_ld (hS.get 154 rfl) lt_bool (cell_of_heap (v := .bool false) (hS.at 3 rfl) rfl)) fun a hS => ?_
  refine wpList_nil ?_
  replace hS := hS.cut [155, 147, 108, 12, 3, 1, 0, 8, 9, 2, 32, 87, 94]
  show Code.wp _ _ _ _ _
  refine cond_f (hS.get 155 rfl) ?_
  refine wp_skip ?_
  show Code.wp _ _ _ _ _
  refine wp_seq ?_
  refine wp_seq ?_
  refine wp_region_lit ?_
  refine sv_r (v := pt gs 0) hS (ex_mv (hS.get 1 rfl)) fun a hS => ?_
  refine sv_r (v := pt gs 0) hS (ex_nc (hS.get 175 rfl)) fun a hS => ?_
  refine sv_r (v := pt gs 4) hS (ex_fo (hS.get 176 rfl) fo_m3u8_decodingState_4 rfl) fun a hS => ?_
  refine sv_r (v := .bool false) hS (ex_ld (hS.get 177 rfl) lt_bool (cell_of_heap (v := .bool false) (hS.at 3 rfl) rfl)) fun a hS => ?_
  replace hS : Sv 1040 ((178, .bool false) :: (155, .bool false) :: (147, .bool false) :: (108, .bool false) :: (12, .nilIface) :: (3, .bool st) :: (1, pt gs 0) :: (0, pt gp 0) :: (8, .nilIface) :: (9, .nilIface) :: (2, .string L) :: (32, .bool false) :: (87, .bool true) :: (94, .bool true) :: []) [⟨gp, #[Q0, Q1, Q2, Q3, Q4, Q5, Q6, Q7, Q8, Q9, Q10, Q11, Q12, Q13, Q14, Q15, Q16, Q17, Q18, Q19, Q20, Q21, Q22], 88, true⟩, ⟨gr, (Rf sg), 125, true⟩, ⟨sg, Sc, 127, true⟩, ⟨gs, #[S0, S1, S2, .bool false, .bool false, .bool false, .bool false, .bool false, .bool false, .bool false, S10, S11, S12, .float .f64 (dur), .string title, S15, S16, S17, S18, S19], 121, true⟩] (fun q => (q = gp ∨ q = gs) ∨ q = gr) w a w4 := hS.pick rfl
  refine nx1 ?_
  refine cond_f (hS.get 178 rfl) ?_
  refine wp_skip ?_
  show Code.wp _ _ _ _ _
  refine wp_seq ?_
  refine wp_seq ?_
  refine wp_region_lit ?_
  refine sv_r (v := pt gs 0) hS (ex_mv (hS.get 1 rfl)) fun a hS => ?_
  refine sv_r (v := pt gs 0) hS (ex_nc (hS.get 194 rfl)) fun a hS => ?_
  refine sv_r (v := pt gs 6) hS (ex_fo (hS.get 195 rfl) fo_m3u8_decodingState_6 rfl) fun a hS => ?_
  refine sv_r (v := .bool false) hS (ex_ld (hS.get 196 rfl) lt_bool (cell_of_heap (v := .bool false) (hS.at 3 rfl) rfl)) fun a hS => ?_
  refine wpList_nil ?_
  replace hS := hS.cut [197, 178, 155, 147, 108, 12, 3, 1, 0, 8, 9, 2, 32, 87, 94]
  show Code.wp _ _ _ _ _
  refine cond_f (hS.get 197 rfl) ?_
  refine wp_skip ?_
  show Code.wp _ _ _ _ _
  refine wp_seq ?_
  refine wp_seq ?_
  refine wp_region_lit ?_
  refine sv_r (v := pt gs 0) hS (ex_mv (hS.get 1 rfl)) fun a hS => ?_
  refine sv_r (v := pt gs 0) hS (ex_nc (hS.get 209 rfl)) fun a hS => ?_
  refine sv_r (v := pt gs 7) hS (ex_fo (hS.get 210 rfl) fo_m3u8_decodingState_7 rfl) fun a hS => ?_
  refine sv_r (v := .bool false) hS (ex_ld (hS.get 211 rfl) lt_bool (cell_of_heap (v := .bool false) (hS.at 3 rfl) rfl)) fun a hS => ?_
  refine sv_r (v := .bool false) hS (ex_mv (hS.get 212 rfl)) fun a hS => ?_
  refine sv_goff hS rfl rfl (hS.get 213 rfl) rfl rfl (by decide) ?_
  intro a hS
  refine sv_goff hS rfl rfl (hS.get 213 rfl) rfl rfl (by decide) ?_
  intro a hS
  refine sv_goff hS rfl rfl (hS.get 213 rfl) rfl rfl (by decide) ?_
  intro a hS
  refine sv_r (v := .bool false) hS (ex_pickF (hS.get 213 rfl) rfl) fun a hS => ?_
  refine wpList_nil ?_
  replace hS := hS.cut [217, 197, 178, 155, 147, 108, 12, 3, 1, 0, 8, 9, 2, 32, 87, 94]
  show Code.wp _ _ _ _ _
  refine cond_f (hS.get 217 rfl) ?_
  refine wp_skip ?_
  show Code.wp _ _ _ _ _
  refine wp_seq ?_
  refine wp_seq ?_
  refine wp_region_lit ?_
  refine sv_r (v := pt gs 0) hS (ex_mv (hS.get 1 rfl)) fun a hS => ?_
  refine sv_r (v := pt gs 0) hS (ex_nc (hS.get 233 rfl)) fun a hS => ?_
  refine sv_r (v := pt gs 8) hS (ex_fo (hS.get 234 rfl) fo_m3u8_decodingState_8 rfl) fun a hS => ?_
  refine sv_r (v := .bool false) hS (ex_ld (hS.get 235 rfl) lt_bool (cell_of_heap (v := .bool false) (hS.at 3 rfl) rfl)) fun a hS => ?_
  replace hS : Sv 1040 ((236, .bool false) :: (217, .bool false) :: (197, .bool false) :: (178, .bool false) :: (155, .bool false) :: (147, .bool false) :: (108, .bool false) :: (12, .nilIface) :: (3, .bool st) :: (1, pt gs 0) :: (0, pt gp 0) :: (8, .nilIface) :: (9, .nilIface) :: (2, .string L) :: (32, .bool false) :: (87, .bool true) :: (94, .bool true) :: []) [⟨gp, #[Q0, Q1, Q2, Q3, Q4, Q5, Q6, Q7, Q8, Q9, Q10, Q11, Q12, Q13, Q14, Q15, Q16, Q17, Q18, Q19, Q20, Q21, Q22], 88, true⟩, ⟨gr, (Rf sg), 125, true⟩, ⟨sg, Sc, 127, true⟩, ⟨gs, #[S0, S1, S2, .bool false, .bool false, .bool false, .bool false, .bool false, .bool false, .bool false, S10, S11, S12, .float .f64 (dur), .string title, S15, S16, S17, S18, S19], 121, true⟩] (fun q => (q = gp ∨ q = gs) ∨ q = gr) w a w4 := hS.pick rfl
  refine nx1 ?_
  refine cond_f (hS.get 236 rfl) ?_
  refine wp_skip ?_
  show Code.wp _ _ _ _ _
  refine wp_seq ?_
  refine wp_region_lit ?_
  refine sv_r (v := pt gs 0) hS (ex_mv (hS.get 1 rfl)) fun a hS => ?_
  refine sv_r (v := pt gs 0) hS (ex_nc (hS.get 299 rfl)) fun a hS => ?_
  refine sv_r (v := pt gs 9) hS (ex_fo (hS.get 300 rfl) fo_m3u8_decodingState_9 rfl) fun a hS => ?_
  refine sv_r (v := .bool false) hS (ex_ld (hS.get 301 rfl) lt_bool (cell_of_heap (v := .bool false) (hS.at 3 rfl) rfl)) fun a hS => ?_
  refine wpList_nil ?_
  replace hS := hS.cut [302, 236, 217, 197, 178, 155, 147, 108, 12, 3, 1, 0, 8, 9, 2, 32, 87, 94]
  show Code.wp _ _ _ _ _
  refine cond_f (hS.get 302 rfl) ?_
  refine wp_skip ?_
  show Code.wp _ _ _ _ _
  refine wp_seq ?_
  refine wp_region_lit ?_
  refine sv_r (v := .nilIface) hS (ex_mv (hS.get 9 rfl)) fun a hS => ?_
  refine sv_r (v := .nilIface) hS (ex_as (hS.get 1039 rfl)) fun a hS => ?_
  refine wpList_nil ?_
  replace hS := hS.cut [8, 302, 236, 217, 197, 178, 155, 147, 108, 12, 3, 1, 0, 9, 2, 32, 87, 94]
  show Code.wp _ _ _ _ _
  refine wp_ret ?_
  try simp only [Exit.inBlock, Exit.then]
  exact ret_of_ev hS.ev rfl (hS.get 8 rfl) ⟨rfl, hS.only, hS.at 0 rfl, hS.at 3 rfl, sg, hsg0, hS.at 1 rfl, hS.at 2 rfl⟩
end Go.Proofs.YtflppablgdegcaaGreatDoor
