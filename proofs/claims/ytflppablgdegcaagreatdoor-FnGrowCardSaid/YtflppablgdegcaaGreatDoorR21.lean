/- Joined: Se, Gr, Du. -/
import Derived.Test.YtflppablgdegcaaGreatDoorR20
set_option maxRecDepth 100000
set_option maxHeartbeats 8000000
namespace Go.Proofs.YtflppablgdegcaaGreatDoor
open Go.RowKit
theorem count_any {p : Pz} {cap c2 cnt gr : Nat} (gp : Nat) (h0 : 0 < cnt) (hc : cnt ≤ cap) (hcap : cap ≤ 100000) (w : World) (hp : w.heap[gp]? = some (.cells (p.cells (.slice (some ⟨gr, 0, none⟩) cap c2) cap (cnt % cap) cnt) 88 (0, 0))) : Calls Tryz.prog 62 #[pt gp 0] w fun e w' => e = .returned (.int .u64 ((cnt : Nat) : Int)) ∧ Below w.heap.size w w' := by
 refine calls_of_ev Tryz.func62 rfl (show 1 ≤ 7 from by decide) fun a hE => ?_
 have hE : Ev 7 ((0, pt gp 0) :: []) a := hE
 have Z : Sv 7 ((0, pt gp 0) :: []) [] (fun _ => False) w a w := Sv.start hE _ _
 clear hE
 replace Z := (Z.addR hp (by intro b hb; cases hb)).ct [0] rfl
 refine wr (sv_n 1 Z rfl fun a Z => Z.nx [2, 0] rfl fun Z => sh (wr (sv_n 3 Z rfl fun a Z => sv_l (v := .int .u64 ((cnt : Nat) : Int)) 0 Z rfl (Z.g 5 rfl) lt_uint rfl fun a Z => sv_n 1 Z rfl fun a Z => Z.nx [2] rfl fun Z => sh (wp_ret ?_))))
 try simp only [Exit.inBlock, Exit.then]
 exact ret_of_ev Z.ev rfl (Z.g 2 rfl) ⟨rfl, Z.toBelow⟩
theorem last_any {p : Pz} {cap c2 cnt gr : Nat} (gp : Nat) (h0 : 0 < cnt) (hc : cnt ≤ cap) (hcap : cap ≤ 100000) (w : World) (hp : w.heap[gp]? = some (.cells (p.cells (.slice (some ⟨gr, 0, none⟩) cap c2) cap (cnt % cap) cnt) 88 (0, 0))) : Calls Tryz.prog 67 #[pt gp 0] w fun e w' => e = .returned (.int .u64 ((cnt - 1 : Nat) : Int)) ∧ Below w.heap.size w w' := by
 by_cases hcc : cnt = cap
 ·have hm : cnt % cap = 0 := by rw [hcc, Nat.mod_self]
  refine calls_of_ev Tryz.func67 rfl (show 1 ≤ 18 from by decide) fun a hE => ?_
  have hE : Ev 18 ((0, pt gp 0) :: []) a := hE
  have Z : Sv 18 ((0, pt gp 0) :: []) [] (fun _ => False) w a w := Sv.start hE _ _
  clear hE
  replace Z := (Z.addR hp (by intro b hb; cases hb)).ct [0] rfl
  refine wr (sv_n 1 Z rfl fun a Z => Z.nx [2, 0] rfl fun Z => sh (wp_seq (wr (sv_n 3 Z rfl fun a Z => sv_l (v := .int .u64 ((cnt % cap : Nat) : Int)) 0 Z rfl (Z.g 5 rfl) lt_uint rfl fun a Z => ?_))))
  refine sv_r (v := .bool true) Z (ei_eql (Z.g 6 rfl) rfl (by rw [decide_eq_true_iff, show ((cnt % cap : Nat) : Int) = 0 from by rw [hm]; rfl])) fun a Z => Z.nx [7, 2, 0] rfl fun Z => sh (cond_t (Z.g 7 rfl) (wr (sv_n 3 Z rfl fun a Z => sv_l (v := .int .u64 ((cap : Nat) : Int)) 0 Z rfl (Z.g 10 rfl) lt_uint rfl fun a Z => ?_)))
  refine sv_r (v := .int .u64 ((cnt - 1 : Nat) : Int)) Z (ei_sub (Z.g 11 rfl) rfl (by rw [IntKind.wrap_u64]; omega)) fun a Z => sv_n 1 Z rfl fun a Z => Z.nx [2, 7, 0] rfl fun Z => sh (wp_ret ?_)
  try simp only [Exit.inBlock, Exit.then]
  exact ret_of_ev Z.ev rfl (Z.g 2 rfl) ⟨rfl, Z.toBelow⟩
 ·have hm : cnt % cap = cnt := Nat.mod_eq_of_lt (by omega)
  refine calls_of_ev Tryz.func67 rfl (show 1 ≤ 18 from by decide) fun a hE => ?_
  have hE : Ev 18 ((0, pt gp 0) :: []) a := hE
  have Z : Sv 18 ((0, pt gp 0) :: []) [] (fun _ => False) w a w := Sv.start hE _ _
  clear hE
  replace Z := (Z.addR hp (by intro b hb; cases hb)).ct [0] rfl
  refine wr (sv_n 1 Z rfl fun a Z => Z.nx [2, 0] rfl fun Z => sh (wp_seq (wr (sv_n 3 Z rfl fun a Z => sv_l (v := .int .u64 ((cnt % cap : Nat) : Int)) 0 Z rfl (Z.g 5 rfl) lt_uint rfl fun a Z => ?_))))
  refine sv_r (v := .bool false) Z (ei_eql (Z.g 6 rfl) rfl (by rw [decide_eq_false_iff_not]; omega)) fun a Z => Z.nx [7, 2, 0] rfl fun Z => sh (cond_f (Z.g 7 rfl) (wp_skip (sh (wr (sv_n 3 Z rfl fun a Z => sv_l (v := .int .u64 ((cnt % cap : Nat) : Int)) 0 Z rfl (Z.g 15 rfl) lt_uint rfl fun a Z => ?_)))))
  refine sv_r (v := .int .u64 ((cnt - 1 : Nat) : Int)) Z (ei_sub (Z.g 16 rfl) rfl (by rw [IntKind.wrap_u64]; omega)) fun a Z => sv_n 1 Z rfl fun a Z => Z.nx [2, 7, 0] rfl fun Z => sh (wp_ret ?_)
  try simp only [Exit.inBlock, Exit.then]
  exact ret_of_ev Z.ev rfl (Z.g 2 rfl) ⟨rfl, Z.toBelow⟩
theorem version4 {p : Pz} {sv : Value} {cap tail cnt : Nat} (gp : Nat) (w : World) (hp : w.heap[gp]? = some (.cells (p.cells sv cap tail cnt) 88 (0, 0))) : Calls Tryz.prog 87 #[pt gp 20, .int .u8 4] w fun e w' => e = .returned (.tuple #[]) ∧ w'.heap[gp]? = some (.cells ({ p with ver := max p.ver 4 }.cells sv cap tail cnt) 88 (0, 0)) ∧ Only (fun x => x = gp) w w' := by
 by_cases hv : p.ver < 4
 ·refine calls_of_ev Tryz.func87 rfl (show 2 ≤ 12 from by decide) fun a hE => ?_
  have hE : Ev 12 ((0, pt gp 20) :: (1, .int .u8 4) :: []) a := hE
  have Z : Sv 12 ((0, pt gp 20) :: (1, .int .u8 4) :: []) [] (fun x => x = gp) w a w := Sv.start hE _ _
  clear hE
  replace Z := (Z.addB (o := true) hp (by intro b hb; cases hb) (fun _ => .inl rfl)).ct [0, 1] rfl
  refine wr (sv_n 2 Z rfl fun a Z => sv_l (v := .int .u8 ((p.ver : Nat) : Int)) 0 Z rfl (Z.g 5 rfl) lt_uint8 rfl fun a Z => sv_n 1 Z rfl fun a Z => ?_)
  refine sv_r (v := .bool true) Z (ei_lss (Z.g 6 rfl) (Z.g 7 rfl) (by rw [decide_eq_true_iff]; omega)) fun a Z => Z.nx [8, 0, 1] rfl fun Z => sh (cond_t (Z.g 8 rfl) (wp_region_lit (sv_n 3 Z rfl fun a Z => sv_st (i := 0) (v := .int .u8 4) (cs' := (({ p with ver := 4 } : Pz).cells sv cap tail cnt)) Z (su_uint8 _) (Z.g 11 rfl) (Z.g 10 rfl) rfl (show 20 < 23 from by decide) rfl rfl fun w1 hty Z => Z.nx [8, 0, 1] rfl fun Z => ?_)))
  have hmx : max p.ver 4 = 4 := by omega
  refine end_ev Z.ev rfl ⟨rfl, ?_, Z.only⟩
  rw [hmx]
  exact Z.at 0 rfl
 ·refine calls_of_ev Tryz.func87 rfl (show 2 ≤ 12 from by decide) fun a hE => ?_
  have hE : Ev 12 ((0, pt gp 20) :: (1, .int .u8 4) :: []) a := hE
  have Z : Sv 12 ((0, pt gp 20) :: (1, .int .u8 4) :: []) [] (fun x => x = gp) w a w := Sv.start hE _ _
  clear hE
  replace Z := (Z.addB (o := true) hp (by intro b hb; cases hb) (fun _ => .inl rfl)).ct [0, 1] rfl
  refine wr (sv_n 2 Z rfl fun a Z => sv_l (v := .int .u8 ((p.ver : Nat) : Int)) 0 Z rfl (Z.g 5 rfl) lt_uint8 rfl fun a Z => sv_n 1 Z rfl fun a Z => ?_)
  refine sv_r (v := .bool false) Z (ei_lss (Z.g 6 rfl) (Z.g 7 rfl) (by rw [decide_eq_false_iff_not]; omega)) fun a Z => Z.nx [8, 0, 1] rfl fun Z => sh (cond_f (Z.g 8 rfl) (wp_skip ?_))
  have hmx : max p.ver 4 = p.ver := by omega
  refine end_ev Z.ev rfl ⟨rfl, ?_, Z.only⟩
  rw [hmx]
  exact Z.at 0 rfl
theorem setRange_any {p : Pz} {z : Sz} {cap c2 cnt : Nat} {Rc : Array Value} {lim off : Nat} (gp gr gz : Nat) (h0 : 0 < cnt) (hc : cnt ≤ cap) (hcap : cap ≤ 100000) (hl1 : Rc[cnt - 1]? = some (pt gz 0)) (w : World) (hp : w.heap[gp]? = some (.cells (p.cells (.slice (some ⟨gr, 0, none⟩) cap c2) cap (cnt % cap) cnt) 88 (0, 0))) (hr : w.heap[gr]? = some (.cells Rc 125 (0, 0))) (hz : w.heap[gz]? = some (.cells z.cells 127 (0, 0))) : Calls Tryz.prog 63 #[pt gp 0, .int .i64 ((lim : Nat) : Int), .int .i64 ((off : Nat) : Int)] w fun e w' => e = .returned .nilIface ∧ Only (fun q => q = gp ∨ q = gz) w w' ∧ w'.heap[gp]? = some (.cells ({ p with ver := max p.ver 4 }.cells (.slice (some ⟨gr, 0, none⟩) cap c2) cap (cnt % cap) cnt) 88 (0, 0)) ∧ w'.heap[gz]? = some (.cells { z with limit := lim, offset := off }.cells 127 (0, 0)) := by
 refine calls_of_ev Tryz.func63 rfl (show 3 ≤ 39 from by decide) fun a hE => ?_
 have hE : Ev 39 ((0, pt gp 0) :: (1, .int .i64 ((lim : Nat) : Int)) :: (2, .int .i64 ((off : Nat) : Int)) :: []) a := hE
 have Z : Sv 39 ((0, pt gp 0) :: (1, .int .i64 ((lim : Nat) : Int)) :: (2, .int .i64 ((off : Nat) : Int)) :: []) [] (fun q => q = gp ∨ q = gz) w a w := Sv.start hE _ _
 clear hE
 replace Z := (Z.addB (o := true) hp (by intro b hb; cases hb) (fun _ => .inl (.inl rfl))).ct [0, 1, 2] rfl
 replace Z := (Z.addR hr (Z.neT hr rfl)).ct [0, 1, 2] rfl
 replace Z := (Z.addB (o := true) hz (Z.neT hz rfl) (fun _ => .inl (.inr rfl))).ct [0, 1, 2] rfl
 refine wr (sv_n 1 Z rfl fun a Z => Z.nx [6, 0, 1, 2] rfl fun Z => sh (wp_seq (wr (sv_n 3 Z rfl fun a Z => sv_l (v := .int .u64 ((cnt : Nat) : Int)) 2 Z rfl (Z.g 9 rfl) lt_uint rfl fun a Z => ?_))))
 refine sv_r (v := .bool false) Z (ei_eql (Z.g 10 rfl) rfl (by rw [decide_eq_false_iff_not]; omega)) fun a Z => Z.nx [11, 6, 0, 1, 2] rfl fun Z => sh (cond_f (Z.g 11 rfl) (wp_skip (sh (wr (sv_n 3 Z rfl fun a Z => sv_callp (i := 2) (v := .tuple #[]) (cs' := (({ p with ver := max p.ver 4 } : Pz).cells ((.slice (some ⟨gr, 0, none⟩) cap c2)) cap (cnt % cap) cnt)) Z rfl rfl (by decide) (ex_call2 cf_m3u8_version (Z.g 15 rfl) rfl) rfl rfl (version4 gp w (Z.at 2 rfl)) fun a w1 hty Z => Z.nx [11, 6, 0, 1, 2] rfl fun Z => sh (wp_seq ?_))))))
 refine qg 9 [pt gp 0, pt gp 0, pt gp 2, .slice (some ⟨gr, 0, none⟩) cap c2, pt gp 0, .int .u64 ((cnt - 1 : Nat) : Int), pt gr (cnt - 1), pt gz 0, .int .i64 ((lim : Nat) : Int)] Z ?_ ?_
 ·simp only [List.take_succ_cons, List.take_zero]
  refine ⟨?_, ?_, ?_, ?_, ?_, ?_, ?_, ?_, ?_, trivial⟩
  ·exact qm (Z.g 0 rfl)
  ·exact qn 0
  ·exact qf 1
  ·exact ql 2 lt_sl_p_m3u8_MediaSegment Z 2
  ·exact qm (Z.g 0 rfl)
  ·intro a wx c
   have e_21 : a.eval (.tmp 21) = pt gp 0 := c.s 4 rfl
   have hO := Z.ogc c
   have hbx := drew_below c.only
   clear c
   have hcl : Calls Tryz.prog _ _ wx (fun e w' => e = .returned (.int .u64 ((cnt - 1 : Nat) : Int)) ∧ Below wx.heap.size wx w') := (last_any gp h0 hc hcap wx (hO.at 2 rfl))
   refine og_call (ex_call1 cf_m3u8_MediaPlaylist_last e_21) (Calls.mono hcl ?_)
   rintro e w' ⟨rfl, hb⟩
   exact ⟨_, rfl, hb, rfl⟩
  ·exact fun _ _ c => og_val (v := pt gr (cnt - 1)) (ex_ia1 (E := 125) (i := cnt - 1) Tryz.underlying79 Tryz.sizeOf125 (c.s 3 rfl) (c.s 5 rfl) (by omega)) rfl
  ·exact fun _ _ c => og_val (v := pt gz 0) (ex_ld (c.s 6 rfl) lt_p_m3u8_MediaSegment (cell_of_heap (v := pt gz 0) ((Z.ogc c).at 1 rfl) hl1)) rfl
  ·exact qm (Z.g 1 rfl)
 ·intro a w2 c hbw2
  replace Z := ((Z.ogk c [2, 1, 0, 6, 11]).kS c 7 rfl rfl).kS c 8 rfl rfl
  clear c
  simp only [List.drop_succ_cons, List.drop_zero]
  refine sv_n 2 Z rfl fun a Z => sv_st (i := 0) (v := .int .i64 ((lim : Nat) : Int)) (cs' := (({ z with limit := lim } : Sz).cells)) Z (su_int64 _) (Z.g 27 rfl) (Z.g 25 rfl) rfl (show 4 < 11 from by decide) rfl rfl fun w3 hty Z => Z.nx [2, 0, 6, 11] rfl fun Z => sh (wp_seq ?_)
  refine qg 9 [pt gp 0, pt gp 0, pt gp 2, .slice (some ⟨gr, 0, none⟩) cap c2, pt gp 0, .int .u64 ((cnt - 1 : Nat) : Int), pt gr (cnt - 1), pt gz 0, .int .i64 ((off : Nat) : Int)] Z ?_ ?_
  ·simp only [List.take_succ_cons, List.take_zero]
   refine ⟨?_, ?_, ?_, ?_, ?_, ?_, ?_, ?_, ?_, trivial⟩
   ·exact qm (Z.g 0 rfl)
   ·exact qn 0
   ·exact qf 1
   ·exact ql 2 lt_sl_p_m3u8_MediaSegment Z 2
   ·exact qm (Z.g 0 rfl)
   ·intro a wx c
    have e_32 : a.eval (.tmp 32) = pt gp 0 := c.s 4 rfl
    have hO := Z.ogc c
    have hbx := drew_below c.only
    clear c
    have hcl : Calls Tryz.prog _ _ wx (fun e w' => e = .returned (.int .u64 ((cnt - 1 : Nat) : Int)) ∧ Below wx.heap.size wx w') := (last_any gp h0 hc hcap wx (hO.at 2 rfl))
    refine og_call (ex_call1 cf_m3u8_MediaPlaylist_last e_32) (Calls.mono hcl ?_)
    rintro e w' ⟨rfl, hb⟩
    exact ⟨_, rfl, hb, rfl⟩
   ·exact fun _ _ c => og_val (v := pt gr (cnt - 1)) (ex_ia1 (E := 125) (i := cnt - 1) Tryz.underlying79 Tryz.sizeOf125 (c.s 3 rfl) (c.s 5 rfl) (by omega)) rfl
   ·exact fun _ _ c => og_val (v := pt gz 0) (ex_ld (c.s 6 rfl) lt_p_m3u8_MediaSegment (cell_of_heap (v := pt gz 0) ((Z.ogc c).at 1 rfl) hl1)) rfl
   ·exact qm (Z.g 2 rfl)
  ·intro a w4 c hbw4
   replace Z := ((Z.ogk c [11, 6, 0, 2]).kS c 7 rfl rfl).kS c 8 rfl rfl
   clear c
   simp only [List.drop_succ_cons, List.drop_zero]
   refine sv_n 2 Z rfl fun a Z => sv_st (i := 0) (v := .int .i64 ((off : Nat) : Int)) (cs' := (({ z with limit := lim, offset := off } : Sz).cells)) Z (su_int64 _) (Z.g 38 rfl) (Z.g 36 rfl) rfl (show 5 < 11 from by decide) rfl rfl fun w5 hty Z => Z.nx [11, 6, 0] rfl fun Z => sh (wr (sv_n 1 Z rfl fun a Z => Z.nx [6, 11, 0] rfl fun Z => sh (wp_ret ?_)))
   try simp only [Exit.inBlock, Exit.then]
   exact ret_of_ev Z.ev rfl (Z.g 6 rfl) ⟨rfl, Z.only, Z.at 2 rfl, Z.at 0 rfl⟩
theorem setDisc_any {p : Pz} {z : Sz} {cap c2 cnt : Nat} {Rc : Array Value} (gp gr gz : Nat) (h0 : 0 < cnt) (hc : cnt ≤ cap) (hcap : cap ≤ 100000) (hl1 : Rc[cnt - 1]? = some (pt gz 0)) (w : World) (hp : w.heap[gp]? = some (.cells (p.cells (.slice (some ⟨gr, 0, none⟩) cap c2) cap (cnt % cap) cnt) 88 (0, 0))) (hr : w.heap[gr]? = some (.cells Rc 125 (0, 0))) (hz : w.heap[gz]? = some (.cells z.cells 127 (0, 0))) : Calls Tryz.prog 65 #[pt gp 0] w fun e w' => e = .returned .nilIface ∧ Only (fun q => q = gp ∨ q = gz) w w' ∧ w'.heap[gp]? = some (.cells (p.cells (.slice (some ⟨gr, 0, none⟩) cap c2) cap (cnt % cap) cnt) 88 (0, 0)) ∧ w'.heap[gz]? = some (.cells { z with disc := true }.cells 127 (0, 0)) := by
 refine calls_of_ev Tryz.func65 rfl (show 1 ≤ 19 from by decide) fun a hE => ?_
 have hE : Ev 19 ((0, pt gp 0) :: []) a := hE
 have Z : Sv 19 ((0, pt gp 0) :: []) [] (fun q => q = gp ∨ q = gz) w a w := Sv.start hE _ _
 clear hE
 replace Z := (Z.addB (o := true) hp (by intro b hb; cases hb) (fun _ => .inl (.inl rfl))).ct [0] rfl
 replace Z := (Z.addR hr (Z.neT hr rfl)).ct [0] rfl
 replace Z := (Z.addB (o := true) hz (Z.neT hz rfl) (fun _ => .inl (.inr rfl))).ct [0] rfl
 refine wr (sv_n 1 Z rfl fun a Z => Z.nx [2, 0] rfl fun Z => sh (wp_seq (wr (sv_n 3 Z rfl fun a Z => sv_l (v := .int .u64 ((cnt : Nat) : Int)) 2 Z rfl (Z.g 5 rfl) lt_uint rfl fun a Z => ?_))))
 refine sv_r (v := .bool false) Z (ei_eql (Z.g 6 rfl) rfl (by rw [decide_eq_false_iff_not]; omega)) fun a Z => Z.nx [7, 2, 0] rfl fun Z => sh (cond_f (Z.g 7 rfl) (wp_skip (sh (wp_seq ?_))))
 refine qg 6 [pt gp 0, pt gp 0, pt gp 2, .slice (some ⟨gr, 0, none⟩) cap c2, pt gp 0, .int .u64 ((cnt - 1 : Nat) : Int)] Z ?_ ?_
 ·simp only [List.take_succ_cons, List.take_zero]
  refine ⟨?_, ?_, ?_, ?_, ?_, ?_, trivial⟩
  ·exact qm (Z.g 0 rfl)
  ·exact qn 0
  ·exact qf 1
  ·exact ql 2 lt_sl_p_m3u8_MediaSegment Z 2
  ·exact qm (Z.g 0 rfl)
  ·intro a wx c
   have e_13 : a.eval (.tmp 13) = pt gp 0 := c.s 4 rfl
   have hO := Z.ogc c
   have hbx := drew_below c.only
   clear c
   have hcl : Calls Tryz.prog _ _ wx (fun e w' => e = .returned (.int .u64 ((cnt - 1 : Nat) : Int)) ∧ Below wx.heap.size wx w') := (last_any gp h0 hc hcap wx (hO.at 2 rfl))
   refine og_call (ex_call1 cf_m3u8_MediaPlaylist_last e_13) (Calls.mono hcl ?_)
   rintro e w' ⟨rfl, hb⟩
   exact ⟨_, rfl, hb, rfl⟩
 ·intro a w1 c hbw1
  replace Z := ((Z.ogk c [0, 2, 7]).kS c 3 rfl rfl).kS c 5 rfl rfl
  clear c
  simp only [List.drop_succ_cons, List.drop_zero]
  refine sv_r (v := pt gr (cnt - 1)) Z (ex_ia1 (E := 125) (i := cnt - 1) Tryz.underlying79 Tryz.sizeOf125 (Z.g 12 rfl) (Z.g 14 rfl) (by omega)) fun a Z => sv_r (v := pt gz 0) Z (ex_ld (Z.g 15 rfl) lt_p_m3u8_MediaSegment (cell_of_heap (v := pt gz 0) (Z.at 1 rfl) hl1)) fun a Z => sv_n 2 Z rfl fun a Z => sv_st (i := 0) (v := .bool true) (cs' := (({ z with disc := true } : Sz).cells)) Z (su_bool _) (Z.g 18 rfl) rfl rfl (show 8 < 11 from by decide) rfl rfl fun w2 hty Z => Z.nx [0, 2, 7] rfl fun Z => sh (wr (sv_n 1 Z rfl fun a Z => Z.nx [2, 0, 7] rfl fun Z => sh (wp_ret ?_)))
  try simp only [Exit.inBlock, Exit.then]
  exact ret_of_ev Z.ev rfl (Z.g 2 rfl) ⟨rfl, Z.only, Z.at 2 rfl, Z.at 0 rfl⟩
theorem setDate_any {p : Pz} {z : Sz} {cap c2 cnt : Nat} {Rc : Array Value} {dv : ByteArray} (gp gr gz : Nat) (h0 : 0 < cnt) (hc : cnt ≤ cap) (hcap : cap ≤ 100000) (hl1 : Rc[cnt - 1]? = some (pt gz 0)) (w : World) (hp : w.heap[gp]? = some (.cells (p.cells (.slice (some ⟨gr, 0, none⟩) cap c2) cap (cnt % cap) cnt) 88 (0, 0))) (hr : w.heap[gr]? = some (.cells Rc 125 (0, 0))) (hz : w.heap[gz]? = some (.cells z.cells 127 (0, 0))) : Calls Tryz.prog 66 #[pt gp 0, .string dv] w fun e w' => e = .returned .nilIface ∧ Only (fun q => q = gp ∨ q = gz) w w' ∧ w'.heap[gp]? = some (.cells (p.cells (.slice (some ⟨gr, 0, none⟩) cap c2) cap (cnt % cap) cnt) 88 (0, 0)) ∧ w'.heap[gz]? = some (.cells { z with date := dv }.cells 127 (0, 0)) := by
 refine calls_of_ev Tryz.func66 rfl (show 2 ≤ 22 from by decide) fun a hE => ?_
 have hE : Ev 22 ((0, pt gp 0) :: (1, .string dv) :: []) a := hE
 have Z : Sv 22 ((0, pt gp 0) :: (1, .string dv) :: []) [] (fun q => q = gp ∨ q = gz) w a w := Sv.start hE _ _
 clear hE
 replace Z := (Z.addB (o := true) hp (by intro b hb; cases hb) (fun _ => .inl (.inl rfl))).ct [0, 1] rfl
 replace Z := (Z.addR hr (Z.neT hr rfl)).ct [0, 1] rfl
 replace Z := (Z.addB (o := true) hz (Z.neT hz rfl) (fun _ => .inl (.inr rfl))).ct [0, 1] rfl
 refine wr (sv_n 1 Z rfl fun a Z => Z.nx [4, 0, 1] rfl fun Z => sh (wp_seq (wr (sv_n 3 Z rfl fun a Z => sv_l (v := .int .u64 ((cnt : Nat) : Int)) 2 Z rfl (Z.g 7 rfl) lt_uint rfl fun a Z => ?_))))
 refine sv_r (v := .bool false) Z (ei_eql (Z.g 8 rfl) rfl (by rw [decide_eq_false_iff_not]; omega)) fun a Z => Z.nx [9, 4, 0, 1] rfl fun Z => sh (cond_f (Z.g 9 rfl) (wp_skip (sh (wp_seq ?_))))
 refine qg 9 [pt gp 0, pt gp 0, pt gp 2, .slice (some ⟨gr, 0, none⟩) cap c2, pt gp 0, .int .u64 ((cnt - 1 : Nat) : Int), pt gr (cnt - 1), pt gz 0, .string dv] Z ?_ ?_
 ·simp only [List.take_succ_cons, List.take_zero]
  refine ⟨?_, ?_, ?_, ?_, ?_, ?_, ?_, ?_, ?_, trivial⟩
  ·exact qm (Z.g 0 rfl)
  ·exact qn 0
  ·exact qf 1
  ·exact ql 2 lt_sl_p_m3u8_MediaSegment Z 2
  ·exact qm (Z.g 0 rfl)
  ·intro a wx c
   have e_15 : a.eval (.tmp 15) = pt gp 0 := c.s 4 rfl
   have hO := Z.ogc c
   have hbx := drew_below c.only
   clear c
   have hcl : Calls Tryz.prog _ _ wx (fun e w' => e = .returned (.int .u64 ((cnt - 1 : Nat) : Int)) ∧ Below wx.heap.size wx w') := (last_any gp h0 hc hcap wx (hO.at 2 rfl))
   refine og_call (ex_call1 cf_m3u8_MediaPlaylist_last e_15) (Calls.mono hcl ?_)
   rintro e w' ⟨rfl, hb⟩
   exact ⟨_, rfl, hb, rfl⟩
  ·exact fun _ _ c => og_val (v := pt gr (cnt - 1)) (ex_ia1 (E := 125) (i := cnt - 1) Tryz.underlying79 Tryz.sizeOf125 (c.s 3 rfl) (c.s 5 rfl) (by omega)) rfl
  ·exact fun _ _ c => og_val (v := pt gz 0) (ex_ld (c.s 6 rfl) lt_p_m3u8_MediaSegment (cell_of_heap (v := pt gz 0) ((Z.ogc c).at 1 rfl) hl1)) rfl
  ·exact qm (Z.g 1 rfl)
 ·intro a w1 c hbw1
  replace Z := ((Z.ogk c [1, 0, 4, 9]).kS c 7 rfl rfl).kS c 8 rfl rfl
  clear c
  simp only [List.drop_succ_cons, List.drop_zero]
  refine sv_n 2 Z rfl fun a Z => sv_st (i := 0) (v := .string dv) (cs' := (({ z with date := dv } : Sz).cells)) Z (su_string _) (Z.g 21 rfl) (Z.g 19 rfl) rfl (show 10 < 11 from by decide) rfl rfl fun w2 hty Z => Z.nx [0, 4, 9] rfl fun Z => sh (wr (sv_n 1 Z rfl fun a Z => Z.nx [4, 0, 9] rfl fun Z => sh (wp_ret ?_)))
  try simp only [Exit.inBlock, Exit.then]
  exact ret_of_ev Z.ev rfl (Z.g 4 rfl) ⟨rfl, Z.only, Z.at 2 rfl, Z.at 0 rfl⟩
def rcA (ps : List Nat) (k : Nat) : Array Value := (ps.map (fun g => pt g 0) ++ List.replicate (k - ps.length) (Value.pointer none)).toArray
theorem rcA_size {ps : List Nat} {k : Nat} (h : ps.length ≤ k) : (rcA ps k).size = k := by
 unfold rcA
 simp only [List.size_toArray, List.length_append, List.length_map, List.length_replicate]
 omega
theorem rcA_get {ps : List Nat} {k i g : Nat} (h : ps[i]? = some g) : (rcA ps k)[i]? = some (pt g 0) := by
 unfold rcA
 have hi := (List.getElem?_eq_some_iff.1 h).1
 simp only [List.getElem?_toArray]
 rw [List.getElem?_append_left (by rw [List.length_map]; exact hi), List.getElem?_map, h]
 rfl
theorem rcA_nil {ps : List Nat} {k i : Nat} (h : ps.length ≤ i) (hk : i < k) : (rcA ps k)[i]? = some (.pointer none) := by
 unfold rcA
 simp only [List.getElem?_toArray]
 rw [List.getElem?_append_right (by rw [List.length_map]; exact h), List.getElem?_replicate, List.length_map, if_pos (by omega)]
theorem rcA_snoc {ps : List Nat} {k g : Nat} (h : ps.length < k) : (rcA ps k).setIfInBounds ps.length (pt g 0) = rcA (ps ++ [g]) k := by
 unfold rcA
 apply Array.ext'
 obtain ⟨j, hj⟩ : ∃ j, k - ps.length = j + 1 := ⟨k - ps.length - 1, by omega⟩
 have hj2 : k - (ps ++ [g]).length = j := by rw [List.length_append, List.length_singleton]; omega
 rw [hj, hj2, Array.toList_setIfInBounds]
 simp only [List.map_append, List.map_cons, List.map_nil, List.append_assoc, List.singleton_append, List.replicate_succ]
 rw [List.set_append_right _ _ (by rw [List.length_map]; exact Nat.le_refl _), List.length_map, Nat.sub_self]
 rfl
theorem rcA_grow (ps : List Nat) (k : Nat) (h : ps.length ≤ k) : (ps.map (fun g => pt g 0)).toArray ++ (Array.replicate ps.length (Value.pointer none)) ++ Array.replicate (k - (ps.length + ps.length)) (Value.pointer none) = if ps.length + ps.length ≤ k then rcA ps k else rcA ps (ps.length + ps.length) := by
 apply Array.ext'
 split
 ·unfold rcA
  rw [show k - ps.length = ps.length + (k - (ps.length + ps.length)) from by omega, ← List.replicate_append_replicate]
  simp
 ·unfold rcA
  rw [show ps.length + ps.length - ps.length = ps.length from by omega, show k - (ps.length + ps.length) = 0 from by omega]
  simp
theorem zeroCells_one (v : Value) (n : Nat) : Builtin.zeroCells #[v] n = Array.replicate n v := by
 unfold Builtin.zeroCells
 apply Array.ext
 ·simp
 ·intro i h1 h2
  simp [Nat.mod_one]
theorem setCell_same {w : World} {g i : Nat} {v : Value} (h : w.cell? ⟨g, i, none⟩ = some v) : w.setCell ⟨g, i, none⟩ v = w := by
 unfold World.setCell
 have hh : (w.heap.modify g fun | .cells c elem frozen => .cells (if (none : Option Nat).isSome then c else c.setIfInBounds i v) elem frozen | o => o) = w.heap := by
  apply Array.ext
  ·simp
  ·intro k h1 h2
   rw [Array.getElem_modify]
   split
   ·rename_i hk
    subst hk
    unfold World.cell? at h
    simp only [Array.getElem?_eq_getElem h2] at h
    cases ho : w.heap[g] with
    | cells c e f =>
     rw [ho] at h
     simp at h
     simp only [Option.isSome_none, Bool.false_eq_true, if_false, Obj.cells.injEq, and_true]
     apply Array.ext
     ·simp
     ·intro j h3 h4
      rw [Array.getElem_setIfInBounds]
      split
      ·rename_i hij
       subst hij
       rw [Array.getElem?_eq_getElem h4] at h
       injection h with h
       exact h.symm
      ·rfl
    | _ => rfl
   ·rfl
 cases w
 simp only [World.mk.injEq, and_true]
 exact hh
theorem setCells_same {w : World} {g : Nat} {v : Value} : ∀ (n o : Nat), (∀ j, j < n → w.cell? ⟨g, o + j, none⟩ = some v) → w.setCells g o (List.replicate n v) = w
 | 0, _, _ => rfl
 | n + 1, o, h => by
  have h1 := h 0 (by omega)
  rw [Nat.add_zero] at h1
  rw [List.replicate_succ, World.setCells, setCell_same h1]
  exact setCells_same n (o + 1) fun j hj => by rw [show o + 1 + j = o + (j + 1) from by omega]; exact h (j + 1) (by omega)
def Grown (gr n : Nat) (ps : List Nat) (w : World) (v : Value) (w' : World) : Prop := ∃ g c, v = .slice (some ⟨g, 0, none⟩) (n + n) c ∧ n + n ≤ c ∧ (g = gr ∨ w.heap.size ≤ g) ∧ w'.heap[g]? = some (.cells (rcA ps c) 125 (0, 0))
theorem run_growz {w : World} {gr n c2 : Nat} {ps : List Nat} {ty : TypeId} (h0 : 0 < n) (hn : n ≤ 1000) (hps : ps.length = n) (hc2 : n ≤ c2) (hr : w.heap[gr]? = some (.cells (rcA ps c2) 125 (0, 0))) :
  ∃ v w', (Builtin.append_ #[79, 48] ty #[.slice (some ⟨gr, 0, none⟩) n c2, .int .u64 ((n : Nat) : Int)]).run Tryz.prog w = .ok v w' ∧ Below w.heap.size w w' ∧ Grown gr n ps w v w' := by
 have hparts : (Tryz.prog.info? 125).map (fun i => (i.zero, i.size, i.bytes)) = some (some (.pointer none), 1, 8) := by kernel_rfl
 obtain ⟨ei, hi, hz, hs, hb⟩ := info_parts hparts
 have ht : Tryz.prog.underlying 79 = some (.slice 125) := Tryz.underlying79
 obtain ⟨uk, hu⟩ : ∃ k, Tryz.prog.underlying 48 = some (.int k) := ⟨.u64, by kernel_rfl⟩
 have hw : IntKind.i64.wrap (n : Int) = n := by rw [IntKind.wrap_i64]; omega
 have hneg : ¬ ((n : Int) < 0) := by omega
 have h48i : ¬ (281474976710656 < (n : Int) * 8) := by omega
 have hn0 : n ≠ 0 := by omega
 have hcell : ∀ j, (hj : j < c2) → w.cell? ⟨gr, j, none⟩ = (rcA ps c2)[j]? := fun j hj => by
  unfold World.cell?
  simp [hr]
 by_cases hroom : n + n ≤ c2
 ·refine ⟨.slice (some ⟨gr, 0, none⟩) (n + n) c2, w, ?_, Below.refl _ _, gr, c2, rfl, hroom, .inl rfl, hr⟩
  have hnil : ∀ j, j < n → w.cell? ⟨gr, n + j, none⟩ = some (.pointer none) := fun j hj => by
   rw [hcell _ (by omega)]
   exact rcA_nil (by omega) (by omega)
  have hst := run_storeCells_cells (P := Tryz.prog) gr n (List.replicate n (Value.pointer none)) 0 w (by
   intro j hj
   rw [List.length_replicate] at hj
   rw [Nat.add_zero, hnil j hj]
   rfl) (by
   intro j hj
   rw [List.length_replicate] at hj
   exact frozen_of_heap hr (rcA_nil (k := c2) (i := n + 0 + j) (by omega) (by omega))) (by
   intro v hv
   rw [List.eq_of_mem_replicate hv]
   rfl)
  rw [Nat.add_zero, setCells_same n n hnil] at hst
  simp [Builtin.append_, run_underlying ht, run_underlying hu, sizeOf, typeInfo, zeroValue, hi, hz, hs, hb, hw, hneg, h48i, hn0, hroom, asInt, asIntOf, Value.cells, zeroCells_one, addr_add, hst]
 ·have hg := hroom
  have h63' : ¬ (9223372036854775807 < ((n : Int) + (n : Int))) := by omega
  have h48' : ¬ (281474976710656 < Builtin.nextslicecap (n + n) c2 * 8) := by
   have := growslice_fits (need := n + n) (old := c2) (bytes := 8) (by omega) (by omega)
   omega
  have hge := grownCap_ge w (n + n) c2 125
  have hfo := run_firstCells_some (P := Tryz.prog) w.drew 1 n ⟨gr, 0, none⟩ n c2 (ps.map fun g => pt g 0) (by rw [List.length_map]; omega) (by
   intro j v hj
   rw [addr_add]
   have hjl : j < ps.length := by
    have := (List.getElem?_eq_some_iff.1 hj).1
    rwa [List.length_map] at this
   have : w.cell? ⟨gr, j, none⟩ = some v := by
    rw [hcell j (by omega), rcA_get (List.getElem?_eq_getElem hjl)]
    rw [List.getElem?_map, List.getElem?_eq_getElem hjl] at hj
    exact hj
   simpa using this)
  refine ⟨.slice (some ⟨w.heap.size, 0, none⟩) (n + n) (grownCap w (n + n) c2 125), w.drew.alloc (.cells (rcA ps (grownCap w (n + n) c2 125)) 125), ?_, ⟨rfl, rfl, rfl, by simp, fun k hk => heap_alloc_old w.drew _ hk⟩, w.heap.size, _, rfl, hge, .inr (Nat.le_refl _), heap_alloc_new w.drew _⟩
  have hlist : ((ps.map fun g => pt g 0).toArray ++ Array.replicate n (Value.pointer none) ++ Array.replicate (grownCap w (n + n) c2 125 - (n + n)) (Value.pointer none)) = rcA ps (grownCap w (n + n) c2 125) := by
   have := rcA_grow ps (grownCap w (n + n) c2 125) (by omega)
   rw [if_pos (by omega), hps] at this
   exact this
  rw [← hlist]
  simp [Builtin.append_, run_underlying ht, run_underlying hu, sizeOf, typeInfo, zeroValue, hi, hz, hs, hb, hw, hneg, h48i, hn0, hroom, asInt, asIntOf, h63', h48', Question.forced, Value.cells, zeroCells_one, hfo, newRow, grownCap]
theorem cv_int_uint (n : Int) {z : Int} (h : IntKind.u64.wrap n = z) : Cv 3 48 (.int .i64 n) (.int .u64 z) := by subst h; intro w; go_simp
abbrev GR (gp gs gr : Nat) : Nat → Prop := fun q => q = gp ∨ q = gs ∨ q = gr
noncomputable def du19 : Code := ar18
noncomputable def du29 : Code := (cB du19)
noncomputable def du34 : Code := (cB du29)
noncomputable def du39 : Code := (cB du34)
noncomputable def du44 : Code := (cB du39)
noncomputable def du49 : Code := (cB du44)
noncomputable def du54 : Code := (cB du49)
def LastOk (ps : List Nat) (n : Nat) (w : World) : Prop := ∀ gl, ps.getLast? = some gl → ∃ Lc : Array Value, w.heap[gl]? = some (.cells Lc 127 (0, 0)) ∧ Lc[0]? = some (.int .u64 ((n : Nat) : Int))
theorem ne_of_type {w : World} {g h : Nat} {cs cs' : Array Value} {t t' : TypeId} {fr fr' : Nat × Nat} (hg : w.heap[g]? = some (.cells cs t fr)) (hh : w.heap[h]? = some (.cells cs' t' fr')) (hne : t ≠ t') : g ≠ h := by
 intro e
 rw [e, hh] at hg
 injection hg with h1
 injection h1 with _ h2 _
 exact hne h2.symm
theorem LastOk.keep {ps : List Nat} {n gp gs gr : Nat} {w0 w : World} {cp cs cr : Array Value} (h : LastOk ps n w0) (hO : Only (GR gp gs gr) w0 w) (h1 : w0.heap[gp]? = some (.cells cp 88 (0, 0))) (h2 : w0.heap[gs]? = some (.cells cs 121 (0, 0))) (h3 : w0.heap[gr]? = some (.cells cr 125 (0, 0))) : LastOk ps n w := by
 intro gl hgl
 obtain ⟨Lc, k1, k2⟩ := h gl hgl
 refine ⟨Lc, (hO.block gl (Array.getElem?_eq_some_iff.1 k1).1 ?_).trans k1, k2⟩
 rintro (q | q | q)
 ·exact ne_of_type k1 h1 (by decide) q
 ·exact ne_of_type k1 h2 (by decide) q
 ·exact ne_of_type k1 h3 (by decide) q
theorem appR {p : Pz} {cap c2 dur : Nat} {title uri : ByteArray} (ps : List Nat) (gp gr : Nat) (hk : ps.length < cap) (hc2 : cap ≤ c2) (hcap : cap ≤ 100000) (hseq : p.seq ≤ 4294967296) (hfl : (FloatKind.f64.format.order p.tgt dur == some .lt) = false) (w : World) (hp : w.heap[gp]? = some (.cells (p.cells (.slice (some ⟨gr, 0, none⟩) cap c2) cap ps.length ps.length) 88 (0, 0))) (hr : w.heap[gr]? = some (.cells (rcA ps c2) 125 (0, 0))) (hl : LastOk ps (p.seq + (ps.length - 1)) w) :
  Calls Tryz.prog 61 #[pt gp 0, .string uri, .float .f64 dur, .string title] w fun e w' => ∃ v, e = .returned v ∧ Only (fun x => x = gp ∨ x = gr) w w' ∧ v = .nilIface ∧ w'.heap[gp]? = some (.cells (p.cells (.slice (some ⟨gr, 0, none⟩) cap c2) cap ((ps.length + 1) % cap) (ps.length + 1)) 88 (0, 0)) ∧ ∃ sg, w.heap.size ≤ sg ∧ w'.heap[gr]? = some (.cells (rcA (ps ++ [sg]) c2) 125 (0, 0)) ∧ w'.heap[sg]? = some (.cells (Sz.new (p.seq + ps.length) title uri dur).cells 127 (0, 0)) := by
 have hsz : (rcA ps c2).size = c2 := rcA_size (by omega)
 rcases Nat.eq_zero_or_pos ps.length with h0 | h0
 ·refine Calls.mono (app0 gp gr (by omega) hcap (by omega) hseq hfl w (by rw [h0] at hp; exact hp) hr) ?_
  rintro e w' ⟨v, h1, h2, h3, h4, sg, h5, h6, h7⟩
  refine ⟨v, h1, h2, h3, by rw [h0]; exact h4, sg, h5, ?_, by rw [h0]; exact h7⟩
  rw [← rcA_snoc (by omega), h0]
  exact h6
 ·obtain ⟨gl, hgl⟩ : ∃ gl, ps.getLast? = some gl := by
   cases hq : ps.getLast? with
   | none => rw [List.getLast?_eq_none_iff] at hq; rw [hq] at h0; exact absurd h0 (by decide)
   | some g => exact ⟨g, rfl⟩
  obtain ⟨Lc, k1, k2⟩ := hl gl hgl
  refine Calls.mono (appN gp gr h0 (rcA_get (by rw [← List.getLast?_eq_getElem?]; exact hgl)) k2 hk hcap (by omega) hseq hfl w hp hr k1) ?_
  rintro e w' ⟨v, h1, h2, h3, h4, sg, h5, h6, h7⟩
  refine ⟨v, h1, h2, h3, h4, sg, h5, ?_, h7⟩
  rw [← rcA_snoc (by omega)]
  exact h6
section
variable {a : Act} {w : World} {dst : Option Nat} {ty : TypeId} {pos : String} {af : Array Edge} {gd : Option (Nat × Bool)} {x y : Operand}
theorem ex_growz {gr n c2 : Nat} {ps : List Nat} (hx : a.eval x = .slice (some ⟨gr, 0, none⟩) n c2) (hy : a.eval y = .int .u64 ((n : Nat) : Int)) (h0 : 0 < n) (hn : n ≤ 1000) (hps : ps.length = n) (hc2 : n ≤ c2) (hr : w.heap[gr]? = some (.cells (rcA ps c2) 125 (0, 0))) :
  ∃ v w', (execOp a.eval ⟨dst, .call { callee := .builtin .append, args := #[x, y], argTypes := #[79, 48] }, ty, pos, af, gd⟩).run Tryz.prog w = .ok (.value v) w' ∧ Below w.heap.size w w' ∧ Grown gr n ps w v w' := by
 obtain ⟨v, w', h1, h2, h3⟩ := run_growz (ty := ty) h0 hn hps hc2 hr
 refine ⟨v, w', ?_, h2, h3⟩
 unfold execOp
 simp only [resolve, invoke, builtin, Sem.run_bind, Sem.run_pure, Result.andThen_ok, List.map_toArray, List.map_cons, List.map_nil, hx, hy, h1]
end
theorem duA_room {B : Nat} {G : Ge} {gp gs gr0 c2 : Nat} {L : ByteArray} {st : Bool} {p : Pz} {d : Dz} {ps : List Nat} {w0 w : World} {a : Act} {Q : Exit → Act → World → Prop} {cap : Nat} (hk : ps.length < cap) (hcap : cap ≤ 1000) (hc2 : cap ≤ c2) (hinf : d.inf = true) (hseq : p.seq ≤ 4294967296) (hfl : (FloatKind.f64.format.order p.tgt d.dur == some .lt) = false) (hG : Env B G w0) (hBp : B ≤ gp) (hBs : B ≤ gs) (hBr : B ≤ gr0) {cp cs : Array Value} (hp0 : w0.heap[gp]? = some (.cells cp 88 (0, 0))) (hs0 : w0.heap[gs]? = some (.cells cs 121 (0, 0))) (hr0 : w0.heap[gr0]? = some (.cells (rcA ps c2) 125 (0, 0))) (hl : LastOk ps (p.seq + (ps.length - 1)) w0) (Z : Sv 1040 (dl0 gp gs L st) [⟨gs, d.cells, 121, true⟩, ⟨gp, (p.cells (.slice (some ⟨gr0, 0, none⟩) cap c2) cap ps.length ps.length), 88, true⟩] (GR gp gs gr0) w0 a w) (hr : w.heap[gr0]? = some (.cells (rcA ps c2) 125 (0, 0))) (hK : ∀ a' w' gr' cap' c2' gz, w0.heap.size ≤ gz → (gr' = gr0 ∨ w0.heap.size ≤ gr') → ps.length < cap' → cap' ≤ c2' → cap' ≤ cap → Sv 1040 (dl0 gp gs L st) [⟨gz, (Sz.new (p.seq + ps.length) d.title L d.dur).cells, 127, true⟩, ⟨gr', rcA (ps ++ [gz]) c2', 125, true⟩, ⟨gp, p.cells (.slice (some ⟨gr', 0, none⟩) cap' c2') cap' ((ps.length + 1) % cap') (ps.length + 1), 88, true⟩, ⟨gs, ({ d with inf := false } : Dz).cells, 121, true⟩] (GR gp gs gr0) w0 a' w' → (du29).wp Tryz.prog Q a' w') : (du19).wp Tryz.prog Q a w := by
 have hfI : w.cell? ⟨gs, 3, none⟩ = some (.bool true) := by have h : w.cell? ⟨gs, 3, none⟩ = some (.bool d.inf) := cell_of_heap (cs := d.cells) (v := .bool d.inf) (Z.at 0 rfl) rfl; rw [hinf] at h; exact h
 replace Z := (Z.addB (o := true) hr (Z.neT hr rfl) (fun _ => .inl (.inr (.inr rfl)))).ct [2, 0, 1, 3, 8, 9] rfl
 have hne : gs ≠ gp := Z.neq 1 2 rfl rfl (by decide)
 have hnr : gr0 ≠ gs := Z.neq 0 1 rfl rfl (by decide)
 have hW : w0.heap.size ≤ w.heap.size := Z.size
 refine wp_seq (wr (sv_n 3 Z rfl fun a Z => sv_r (v := .bool true) Z (ex_ld (Z.g 93 rfl) lt_bool hfI) fun a Z => Z.nx [94, 2, 0, 1, 3, 8, 9] rfl fun Z => sh (cond_t (Z.g 94 rfl) (wp_seq ?_))))
 refine qg 10 [pt gp 0, .string L, pt gs 0, pt gs 0, pt gs 13, .float .f64 (d.dur), pt gs 0, pt gs 0, pt gs 14, .string d.title] Z ?_ ?_
 ·simp only [List.take_succ_cons, List.take_zero]
  exact ⟨qm (Z.g 0 rfl), qm (Z.g 2 rfl), qm (Z.g 1 rfl), qn 2, qf 3, ql 4 lt_float64 Z 1, qm (Z.g 1 rfl), qn 6, qf 7, ql 8 lt_string Z 1, trivial⟩
 ·intro a w1 c hbw1
  replace Z := ((((Z.ogk c [9, 8, 3, 1, 0, 2, 94]).kS c 0 rfl rfl).kS c 1 rfl rfl).kS c 5 rfl rfl).kS c 9 rfl rfl
  clear c
  simp only [List.drop_succ_cons, List.drop_zero]
  have hGx : Env B G w1 := (hG.keep Z.only (fun q hq => by rcases hq with rfl | rfl | rfl; (· exact hBp); (· exact hBs); (· exact hBr)))
  have hgpx := Z.at 2 rfl
  have hgrx := Z.at 0 rfl
  have hlx : LastOk ps (p.seq + (ps.length - 1)) w1 := hl.keep Z.only hp0 hs0 hr0
  have hltR := Z.lt
  have hszR := Z.size
  have hrs : gr0 ≠ gs := Z.neq 0 1 rfl rfl (by decide)
  have hrp : gr0 ≠ gp := Z.neq 0 2 rfl rfl (by decide)
  have hcall := appR (title := d.title) (uri := L) ps gp gr0 hk hc2 (by omega) hseq hfl w1 hgpx hgrx hlx
  replace Z := (Z.mz [false, true, false] rfl).ct [104, 100, 96, 95, 9, 8, 3, 1, 0, 2, 94] rfl
  refine sv_callo (X := fun q => q = gp ∨ q = gr0) (S := fun v w' => v = .nilIface ∧ w'.heap[gp]? = some (.cells (p.cells (.slice (some ⟨gr0, 0, none⟩) cap c2) cap ((ps.length + 1) % cap) (ps.length + 1)) 88 (0, 0)) ∧ ∃ sg, w1.heap.size ≤ sg ∧ w'.heap[gr0]? = some (.cells (rcA (ps ++ [sg]) c2) 125 (0, 0)) ∧ w'.heap[sg]? = some (.cells (Sz.new (p.seq + ps.length) d.title L d.dur).cells 127 (0, 0))) Z rfl rfl (by decide) (ex_call4 cf_m3u8_MediaPlaylist_Append (Z.g 95 rfl) (Z.g 96 rfl) (Z.g 100 rfl) (Z.g 104 rfl)) (hcall.mono fun e w' ⟨v, h1, h2, h3, h4, h5⟩ => ⟨v, h1, h2, h3, h4, h5⟩) (by intro q hq; cases List.mem_singleton.1 hq; rintro (h | h); (· exact hne h); (· exact hrs h.symm)) (fun q hq hlt => by rcases hq with rfl | rfl; (· exact .inl rfl); (· exact .inr (.inr rfl))) ?_
  have hgplt : gp < w1.heap.size := (Array.getElem?_eq_some_iff.1 hgpx).1
  have hgrlt : gr0 < w1.heap.size := (Array.getElem?_eq_some_iff.1 hgrx).1
  rintro a _ w2 ⟨rfl, hgp2, sg, hsg, hgr2, hsg2⟩ hO2 Z
  replace Z := (Z.addB (o := true) hgp2 (Z.neT hgp2 rfl) (fun _ => .inl (.inl rfl))).ct [105, 104, 100, 96, 95, 9, 8, 3, 1, 0, 2, 94] rfl
  replace Z := (Z.addB (o := true) hgr2 (Z.neT hgr2 rfl) (fun _ => .inl (.inr (.inr rfl)))).ct [105, 104, 100, 96, 95, 9, 8, 3, 1, 0, 2, 94] rfl
  replace Z := (Z.addB (o := true) hsg2 (Z.neT hsg2 rfl) (fun _ => .inr (Nat.le_trans hszR hsg))).ct [105, 104, 100, 96, 95, 9, 8, 3, 1, 0, 2, 94] rfl
  have hsg0 : w0.heap.size ≤ sg := Nat.le_trans hszR hsg
  refine sv_n 1 Z rfl fun a Z => Z.nx [12, 9, 8, 3, 1, 0, 2, 94] rfl fun Z => sh (wp_seq (wr (sv_n 1 Z rfl fun a Z => ?_)))
  refine sv_r (v := fullV G) Z (ex_ldg lt_error (hG.keep Z.only (fun q hq => by rcases hq with rfl | rfl | rfl; (· exact hBp); (· exact hBs); (· exact hBr))).full) fun a Z => sv_r (v := .bool false) Z (ex_nileq (Z.g 106 rfl) (Z.g 107 rfl)) fun a Z => Z.nx [108, 12, 9, 8, 3, 1, 0, 2, 94] rfl fun Z => sh (cond_f (Z.g 108 rfl) (wp_skip (sh (wp_seq (wr (sv_n 1 Z rfl fun a Z => sv_r (v := .bool false) Z (ex_ine eqi_error (Z.g 146 rfl)) fun a Z => Z.nx [147, 108, 12, 9, 8, 3, 1, 0, 2, 94] rfl fun Z => ?_))))))
  refine sh (cond_f (Z.g 147 rfl) (wp_skip (sh (wp_region_lit (sv_n 3 Z rfl fun a Z => sv_st (i := 3) (v := .bool false) (cs' := (({ d with inf := false } : Dz).cells)) Z (su_bool _) (Z.g 151 rfl) rfl rfl (show 3 < 20 from by decide) rfl rfl fun w3 hty Z => Z.nx [147, 108, 12, 9, 8, 3, 1, 0, 2, 94] rfl fun Z => sh ?_)))))
  exact hK _ _ gr0 _ _ _ hsg0 (.inl rfl) hk hc2 (Nat.le_refl _) (Z.pick rfl)
theorem duA_full {B : Nat} {G : Ge} {gp gs gr0 c2 : Nat} {L : ByteArray} {st : Bool} {p : Pz} {d : Dz} {ps : List Nat} {w0 w : World} {a : Act} {Q : Exit → Act → World → Prop} (h0 : 0 < ps.length) (hcap : ps.length ≤ 1000) (hc2 : ps.length ≤ c2) (hinf : d.inf = true) (hseq : p.seq ≤ 4294967296) (hfl : (FloatKind.f64.format.order p.tgt d.dur == some .lt) = false) (hG : Env B G w0) (hBp : B ≤ gp) (hBs : B ≤ gs) (hBr : B ≤ gr0) {cp cs : Array Value} (hp0 : w0.heap[gp]? = some (.cells cp 88 (0, 0))) (hs0 : w0.heap[gs]? = some (.cells cs 121 (0, 0))) (hr0 : w0.heap[gr0]? = some (.cells (rcA ps c2) 125 (0, 0))) (hl : LastOk ps (p.seq + (ps.length - 1)) w0) (Z : Sv 1040 (dl0 gp gs L st) [⟨gs, d.cells, 121, true⟩, ⟨gp, (p.cells (.slice (some ⟨gr0, 0, none⟩) ps.length c2) ps.length 0 ps.length), 88, true⟩] (GR gp gs gr0) w0 a w) (hr : w.heap[gr0]? = some (.cells (rcA ps c2) 125 (0, 0))) (hK : ∀ a' w' gr' cap' c2' gz, w0.heap.size ≤ gz → (gr' = gr0 ∨ w0.heap.size ≤ gr') → ps.length < cap' → cap' ≤ c2' → cap' ≤ ps.length + ps.length → Sv 1040 (dl0 gp gs L st) [⟨gz, (Sz.new (p.seq + ps.length) d.title L d.dur).cells, 127, true⟩, ⟨gr', rcA (ps ++ [gz]) c2', 125, true⟩, ⟨gp, p.cells (.slice (some ⟨gr', 0, none⟩) cap' c2') cap' ((ps.length + 1) % cap') (ps.length + 1), 88, true⟩, ⟨gs, ({ d with inf := false } : Dz).cells, 121, true⟩] (GR gp gs gr0) w0 a' w' → (du29).wp Tryz.prog Q a' w') : (du19).wp Tryz.prog Q a w := by
 have hfI : w.cell? ⟨gs, 3, none⟩ = some (.bool true) := by have h : w.cell? ⟨gs, 3, none⟩ = some (.bool d.inf) := cell_of_heap (cs := d.cells) (v := .bool d.inf) (Z.at 0 rfl) rfl; rw [hinf] at h; exact h
 replace Z := (Z.addB (o := true) hr (Z.neT hr rfl) (fun _ => .inl (.inr (.inr rfl)))).ct [2, 0, 1, 3, 8, 9] rfl
 have hne : gs ≠ gp := Z.neq 1 2 rfl rfl (by decide)
 have hnr : gr0 ≠ gs := Z.neq 0 1 rfl rfl (by decide)
 have hW : w0.heap.size ≤ w.heap.size := Z.size
 refine wp_seq (wr (sv_n 3 Z rfl fun a Z => sv_r (v := .bool true) Z (ex_ld (Z.g 93 rfl) lt_bool hfI) fun a Z => Z.nx [94, 2, 0, 1, 3, 8, 9] rfl fun Z => sh (cond_t (Z.g 94 rfl) (wp_seq ?_))))
 refine qg 10 [pt gp 0, .string L, pt gs 0, pt gs 0, pt gs 13, .float .f64 (d.dur), pt gs 0, pt gs 0, pt gs 14, .string d.title] Z ?_ ?_
 ·simp only [List.take_succ_cons, List.take_zero]
  exact ⟨qm (Z.g 0 rfl), qm (Z.g 2 rfl), qm (Z.g 1 rfl), qn 2, qf 3, ql 4 lt_float64 Z 1, qm (Z.g 1 rfl), qn 6, qf 7, ql 8 lt_string Z 1, trivial⟩
 ·intro a w1 c hbw1
  replace Z := ((((Z.ogk c [9, 8, 3, 1, 0, 2, 94]).kS c 0 rfl rfl).kS c 1 rfl rfl).kS c 5 rfl rfl).kS c 9 rfl rfl
  clear c
  simp only [List.drop_succ_cons, List.drop_zero]
  have hGx : Env B G w1 := (hG.keep Z.only (fun q hq => by rcases hq with rfl | rfl | rfl; (· exact hBp); (· exact hBs); (· exact hBr)))
  have hgpx := Z.at 2 rfl
  have hgrx := Z.at 0 rfl
  refine sv_callv (v := fullV G) Z rfl rfl (by decide) (ex_call4 cf_m3u8_MediaPlaylist_Append (Z.g 95 rfl) (Z.g 96 rfl) (Z.g 100 rfl) (Z.g 104 rfl)) (appF gp gr0 h0 (by omega) w1 hGx hgpx) fun a w2 hbw2 Z => sv_n 1 Z rfl fun a Z => Z.nx [12, 9, 8, 3, 1, 0, 2, 94] rfl fun Z => sh (wp_seq (wr (sv_n 1 Z rfl fun a Z => ?_)))
  refine sv_r (v := fullV G) Z (ex_ldg lt_error (hG.keep Z.only (fun q hq => by rcases hq with rfl | rfl | rfl; (· exact hBp); (· exact hBs); (· exact hBr))).full) fun a Z => sv_r (v := .bool true) Z (ex_sameeq (Z.g 106 rfl) (Z.g 107 rfl)) fun a Z => Z.nx [108, 12, 9, 8, 3, 1, 0, 2, 94] rfl fun Z => sh (cond_t (Z.g 108 rfl) (wp_seq ?_))
  have hS2 : w0.heap.size ≤ w2.heap.size := Z.size
  refine wp_region_og1 (n := 1040) 8 [Asr.eq (pt gp 0), Asr.eq (pt gp 0), Asr.eq (pt gp 0), Asr.eq (pt gp 2), Asr.eq (.slice (some ⟨gr0, 0, none⟩) ps.length c2), Asr.eq (pt gp 0), Asr.eq (.int .u64 ((ps.length : Nat) : Int)), Asr.any (fun v w' => ∃ g c, v = .slice (some ⟨g, 0, none⟩) (ps.length + ps.length) c ∧ ps.length + ps.length ≤ c ∧ (g = gr0 ∨ w2.heap.size ≤ g) ∧ w'.heap[g]? = some (.cells (rcA ps c) 125 (0, 0)))] (by kernel_rfl) (by kernel_rfl) (by kernel_rfl) (by simp) (by kernel_rfl) Z.ev.size ⟨(fun i _ _ v w w' _ ho hp => by obtain ⟨g, c, h1, h2, h3, h4⟩ := hp; exact ⟨g, c, h1, h2, h3, hp_below h4 (only_below0 ho)⟩), ⟨⟩⟩ ?_ ?_
  ·simp only [List.take_succ_cons, List.take_zero]
   refine ⟨?_, ?_, ?_, ?_, ?_, ?_, ?_, ?_, trivial⟩
   ·exact qm (Z.g 0 rfl)
   ·exact qm (Z.g 0 rfl)
   ·exact qn 1
   ·exact qf 2
   ·exact ql 3 lt_sl_p_m3u8_MediaSegment Z 2
   ·exact qm (Z.g 0 rfl)
   ·intro a wx c
    have e_114 : a.eval (.tmp 114) = pt gp 0 := c.s 5 rfl
    have hO := Z.ogc c
    have hbx := drew_below c.only
    clear c
    have hcl : Calls Tryz.prog _ _ wx (fun e w' => e = .returned (.int .u64 ((ps.length : Nat) : Int)) ∧ Below wx.heap.size wx w') := (count_any (cap := ps.length) gp h0 (Nat.le_refl _) (by omega) wx (by rw [Nat.mod_self]; exact hO.at 2 rfl))
    refine og_call (ex_call1 cf_m3u8_MediaPlaylist_Count e_114) (Calls.mono hcl ?_)
    rintro e w' ⟨rfl, hb⟩
    exact ⟨_, rfl, hb, rfl⟩
   ·intro a wx c
    have e_113 : a.eval (.tmp 113) = .slice (some ⟨gr0, 0, none⟩) ps.length c2 := c.s 4 rfl
    have e_115 : a.eval (.tmp 115) = .int .u64 ((ps.length : Nat) : Int) := c.s 6 rfl
    have hO := Z.ogc c
    have hszx := (drew_below c.only).size
    clear c
    obtain ⟨v, w', h1, h2, h3⟩ := ex_growz (dst := some 116) (ps := ps) e_113 e_115 h0 hcap rfl hc2 (hO.at 0 rfl)
    obtain ⟨g, c, k1, k2, k3, k4⟩ := h3
    exact og_ext h1 h2 ⟨g, c, k1, k2, k3.imp id (fun h => Nat.le_trans hszx h), k4⟩
  ·intro a w3 c hbw3
   obtain ⟨gn, cn, e_116, hcn, hgn, hhn⟩ : ∃ g c, (a.eval (.tmp 116)) = .slice (some ⟨g, 0, none⟩) (ps.length + ps.length) c ∧ ps.length + ps.length ≤ c ∧ (g = gr0 ∨ w2.heap.size ≤ g) ∧ w3.heap[g]? = some (.cells (rcA ps c) 125 (0, 0)) := c.s 7 rfl
   replace Z : Sv 1040 ((116, .slice (some ⟨gn, 0, none⟩) (ps.length + ps.length) cn) :: (109, pt gp 0) :: (94, .bool true) :: (2, .string L) :: (0, pt gp 0) :: (1, pt gs 0) :: (3, .bool st) :: (8, .nilIface) :: (9, .nilIface) :: (12, fullV G) :: (108, .bool true) :: []) [⟨gr0, (rcA ps c2), 125, true⟩, ⟨gs, d.cells, 121, true⟩, ⟨gp, (p.cells (.slice (some ⟨gr0, 0, none⟩) ps.length c2) ps.length 0 ps.length), 88, true⟩] (GR gp gs gr0) w0 a w3 := ((((((((((((Z.ogh c).know (c.o (Z.g 108 rfl))).know (c.o (Z.g 12 rfl))).know (c.o (Z.g 9 rfl))).know (c.o (Z.g 8 rfl))).know (c.o (Z.g 3 rfl))).know (c.o (Z.g 1 rfl))).know (c.o (Z.g 0 rfl))).know (c.o (Z.g 2 rfl))).know (c.o (Z.g 94 rfl))).know (c.s 0 rfl)).know e_116)
   clear c
   simp only [List.drop_succ_cons, List.drop_zero]
   refine sv_n 2 Z rfl fun a Z => ?_
   replace Z := (Z.mz [false, true, true] rfl).ct [118, 117, 116, 109, 94, 2, 0, 1, 3, 8, 9, 12, 108] rfl
   have hgq : gn = gr0 ∨ w0.heap.size ≤ gn := hgn.imp id (fun h => Nat.le_trans hS2 h)
   replace Z := (Z.addB (o := true) hhn (Z.neT hhn rfl) (fun _ => hgq.imp (fun h => .inr (.inr h)) id)).ct [118, 117, 116, 109, 94, 2, 0, 1, 3, 8, 9, 12, 108] rfl
   refine sv_st (i := 2) (v := .slice (some ⟨gn, 0, none⟩) (ps.length + ps.length) cn) (cs' := (p.cells (.slice (some ⟨gn, 0, none⟩) (ps.length + ps.length) cn) ps.length 0 ps.length)) Z (su_sl_p_m3u8_MediaSegment _ _ _) (Z.g 118 rfl) (Z.g 116 rfl) rfl (show 2 < 23 from by decide) rfl rfl fun w4 hty Z => Z.nx [94, 2, 0, 1, 3, 8, 9, 12, 108] rfl fun Z => sh (wr (sv_n 4 Z rfl fun a Z => sv_l (v := .slice (some ⟨gn, 0, none⟩) (ps.length + ps.length) cn) 2 Z rfl (Z.g 122 rfl) lt_sl_p_m3u8_MediaSegment rfl fun a Z => sv_r (v := .int .i64 ((ps.length + ps.length : Nat) : Int)) Z (ex_lenS (E := 125) Tryz.underlying79 (Z.g 123 rfl)) fun a Z => ?_))
   refine sv_r (v := .int .u64 ((ps.length + ps.length : Nat) : Int)) Z (ex_cv (Z.g 124 rfl) (cv_int_uint _ (by rw [IntKind.wrap_u64]; omega))) fun a Z => sv_n 2 Z rfl fun a Z => sv_st (i := 2) (v := .int .u64 ((ps.length + ps.length : Nat) : Int)) (cs' := (p.cells (.slice (some ⟨gn, 0, none⟩) (ps.length + ps.length) cn) (ps.length + ps.length) 0 ps.length)) Z (su_uint _) (Z.g 127 rfl) (Z.g 125 rfl) rfl (show 13 < 23 from by decide) rfl rfl fun w5 hty Z => Z.nx [94, 2, 0, 1, 3, 8, 9, 12, 108] rfl fun Z => sh (wr (sv_n 4 Z rfl fun a Z => sv_l (v := .int .u64 ((ps.length : Nat) : Int)) 2 Z rfl (Z.g 131 rfl) lt_uint rfl fun a Z => sv_n 2 Z rfl fun a Z => ?_))
   refine sv_st (i := 2) (v := .int .u64 ((ps.length : Nat) : Int)) (cs' := (p.cells (.slice (some ⟨gn, 0, none⟩) (ps.length + ps.length) cn) (ps.length + ps.length) ps.length ps.length)) Z (su_uint _) (Z.g 134 rfl) (Z.g 132 rfl) rfl (show 15 < 23 from by decide) rfl rfl fun w6 hty Z => Z.nx [94, 2, 0, 1, 3, 8, 9, 12, 108] rfl fun Z => sh ?_
   refine qg 10 [pt gp 0, .string L, pt gs 0, pt gs 0, pt gs 13, .float .f64 (d.dur), pt gs 0, pt gs 0, pt gs 14, .string d.title] Z ?_ ?_
   ·simp only [List.take_succ_cons, List.take_zero]
    exact ⟨qm (Z.g 0 rfl), qm (Z.g 2 rfl), qm (Z.g 1 rfl), qn 2, qf 3, ql 4 lt_float64 Z 1, qm (Z.g 1 rfl), qn 6, qf 7, ql 8 lt_string Z 1, trivial⟩
   ·intro a w7 c hbw7
    replace Z := ((((Z.ogk c [108, 12, 9, 8, 3, 1, 0, 2, 94]).kS c 0 rfl rfl).kS c 1 rfl rfl).kS c 5 rfl rfl).kS c 9 rfl rfl
    clear c
    simp only [List.drop_succ_cons, List.drop_zero]
    have hGx : Env B G w7 := (hG.keep Z.only (fun q hq => by rcases hq with rfl | rfl | rfl; (· exact hBp); (· exact hBs); (· exact hBr)))
    have hgpx := Z.at 2 rfl
    have hgrx := Z.at 0 rfl
    have hlx : LastOk ps (p.seq + (ps.length - 1)) w7 := hl.keep Z.only hp0 hs0 hr0
    have hltR := Z.lt
    have hszR := Z.size
    have hrs : gn ≠ gs := Z.neq 0 1 rfl rfl (by decide)
    have hrp : gn ≠ gp := Z.neq 0 2 rfl rfl (by decide)
    have hcall := appR (title := d.title) (uri := L) ps gp gn (by omega) hcn (by omega) hseq hfl w7 hgpx hgrx hlx
    replace Z := (Z.mz [false, true, false] rfl).ct [144, 140, 136, 135, 108, 12, 9, 8, 3, 1, 0, 2, 94] rfl
    refine sv_callo (X := fun q => q = gp ∨ q = gn) (S := fun v w' => v = .nilIface ∧ w'.heap[gp]? = some (.cells (p.cells (.slice (some ⟨gn, 0, none⟩) (ps.length + ps.length) cn) (ps.length + ps.length) ((ps.length + 1) % (ps.length + ps.length)) (ps.length + 1)) 88 (0, 0)) ∧ ∃ sg, w7.heap.size ≤ sg ∧ w'.heap[gn]? = some (.cells (rcA (ps ++ [sg]) cn) 125 (0, 0)) ∧ w'.heap[sg]? = some (.cells (Sz.new (p.seq + ps.length) d.title L d.dur).cells 127 (0, 0))) Z rfl rfl (by decide) (ex_call4 cf_m3u8_MediaPlaylist_Append (Z.g 135 rfl) (Z.g 136 rfl) (Z.g 140 rfl) (Z.g 144 rfl)) (hcall.mono fun e w' ⟨v, h1, h2, h3, h4, h5⟩ => ⟨v, h1, h2, h3, h4, h5⟩) (by intro q hq; cases List.mem_singleton.1 hq; rintro (h | h); (· exact hne h); (· exact hrs h.symm)) (fun q hq hlt => by rcases hq with rfl | rfl; (· exact .inl rfl); (· rcases hgq with h | h; (· exact .inr (.inr h)); (· omega))) ?_
    have hgplt : gp < w7.heap.size := (Array.getElem?_eq_some_iff.1 hgpx).1
    have hgrlt : gn < w7.heap.size := (Array.getElem?_eq_some_iff.1 hgrx).1
    rintro a _ w8 ⟨rfl, hgp2, sg, hsg, hgr2, hsg2⟩ hO2 Z
    replace Z := (Z.addB (o := true) hgp2 (Z.neT hgp2 rfl) (fun _ => .inl (.inl rfl))).ct [145, 144, 140, 136, 135, 108, 12, 9, 8, 3, 1, 0, 2, 94] rfl
    replace Z := (Z.addB (o := true) hgr2 (Z.neT hgr2 rfl) (fun _ => hgq.imp (fun h => .inr (.inr h)) id)).ct [145, 144, 140, 136, 135, 108, 12, 9, 8, 3, 1, 0, 2, 94] rfl
    replace Z := (Z.addB (o := true) hsg2 (Z.neT hsg2 rfl) (fun _ => .inr (Nat.le_trans hszR hsg))).ct [145, 144, 140, 136, 135, 108, 12, 9, 8, 3, 1, 0, 2, 94] rfl
    have hsg0 : w0.heap.size ≤ sg := Nat.le_trans hszR hsg
    refine sv_n 1 Z rfl fun a Z => Z.nx [12, 108, 9, 8, 3, 1, 0, 2, 94] rfl fun Z => sh (wp_seq (wr (sv_n 1 Z rfl fun a Z => sv_r (v := .bool false) Z (ex_ine eqi_error (Z.g 146 rfl)) fun a Z => Z.nx [147, 12, 108, 9, 8, 3, 1, 0, 2, 94] rfl fun Z => sh (cond_f (Z.g 147 rfl) (wp_skip (sh ?_))))))
    refine wp_region_lit (sv_n 3 Z rfl fun a Z => sv_st (i := 3) (v := .bool false) (cs' := (({ d with inf := false } : Dz).cells)) Z (su_bool _) (Z.g 151 rfl) rfl rfl (show 3 < 20 from by decide) rfl rfl fun w9 hty Z => Z.nx [147, 12, 108, 9, 8, 3, 1, 0, 2, 94] rfl fun Z => sh ?_)
    exact hK _ _ gn _ _ _ hsg0 hgq (by omega) hcn (Nat.le_refl _) (Z.pick rfl)
end Go.Proofs.YtflppablgdegcaaGreatDoor
