/- Joined: Mi, Rm. -/
import Derived.Test.YtflppablgdegcaaGreatDoorN24
import Derived.Test.YtflppablgdegcaaGreatDoorN25
/- impl.mediaOf of a playlist with one segment. -/
set_option maxRecDepth 100000
set_option maxHeartbeats 8000000
namespace Go.Proofs.YtflppablgdegcaaGreatDoor
open Go.RowKit
theorem cv_m3u8_MediaType_int (n : Int) {z : Int} (h : IntKind.i64.wrap n = z) : Cv 80 3 (.int .u64 n) (.int .i64 z) := by subst h; intro w; go_simp
theorem cv_uint_int (n : Int) {z : Int} (h : IntKind.i64.wrap n = z) : Cv 48 3 (.int .u64 n) (.int .i64 z) := by subst h; intro w; go_simp
theorem cv_uint8_int (n : Int) {z : Int} (h : IntKind.i64.wrap n = z) : Cv 5 3 (.int .u8 n) (.int .i64 z) := by subst h; intro w; go_simp
/-- The data of a playlist with one segment. -/
def mcs (tgt seq disc ver : Nat) (sv : Value) : Array Value := #[.float .f64 tgt, .int .u64 (seq : Int), sv, .string ⟨#[]⟩, .bool false, .bool false, .int .i64 0, .int .u64 (disc : Int), .float .f64 0, .bool false, .int .i64 (ver : Int), .slice none 0 0, .slice none 0 0, .int .i64 0]
theorem mcs_one (tgt seq disc ver : Nat) (p : Option Addr) (n c : Nat) : ∀ u ∈ (mcs tgt seq disc ver (.slice p n c)).toList, u.oneCell' = true := by
 intro u hu
 simp only [mcs, List.mem_cons, List.not_mem_nil, or_false] at hu
 rcases hu with rfl | rfl | rfl | rfl | rfl | rfl | rfl | rfl | rfl | rfl | rfl | rfl | rfl | rfl <;> rfl
theorem mediaOf1 {gp gr sg tgt seq disc ver cap tail sq2 dur : Nat} {title uri : ByteArray} {Rc : Array Value} (hv : ver < 256) (hc0 : 0 < cap) (hcap : cap ≤ 100000) (w : World) (hp : w.heap[gp]? = some (.cells (pcs tgt seq disc ver (.slice (some ⟨gr, 0, none⟩) cap cap) cap tail 1) 88 (0, 0))) (hr : w.heap[gr]? = some (.cells Rc 125 (0, 0))) (hr0 : Rc[0]? = some (pt sg 0)) (hz : w.heap[sg]? = some (.cells (scs sq2 title uri dur) 127 (0, 0))) (hne : gp ≠ gr) : Calls Tryz.prog 20 #[pt gp 0] w fun e w' => ∃ v, e = .returned v ∧ Below w.heap.size w w' ∧ ∃ p c, v = .agg (mcs tgt seq disc ver (.slice p 1 c)) := by
 refine calls_of_ev Tryz.func20 rfl (show 1 ≤ 60 from by decide) ?_
 intro a hE
 have hE : Ev 60 ((0, pt gp 0) :: []) a := hE
 have hS : Sv 60 ((0, pt gp 0) :: []) [] (fun _ => False) w a w := Sv.start hE _ _
 clear hE
 have hS1 := (hS.addR hp (by intro q hq; cases hq)).addR hr (by intro q hq; cases List.mem_singleton.1 hq; exact hne)
 replace hS : Sv 60 ((0, pt gp 0) :: []) [⟨sg, (scs sq2 title uri dur), 127, false⟩, ⟨gr, Rc, 125, false⟩, ⟨gp, (pcs tgt seq disc ver (.slice (some ⟨gr, 0, none⟩) cap cap) cap tail 1), 88, false⟩] (fun _ => False) w a w := hS1.addR hz (hS1.neT hz rfl)
 clear hS1
 refine wp_seq ?_
 refine wp_region_lit ?_
 refine sv_al hS al_impl_Media (by decide) ?_
 intro g1 a w2 hg1 hbw2 hwg1 hS
 refine wpList_nil ?_
 replace hS := hS.cut [2, 0]
 show Code.wp _ _ _ _ _
 refine wp_seq ?_
 refine wp_region_og1 (n := 60) 56 [Asr.eq (pt gp 0), Asr.eq (pt gp 0), Asr.eq (pt gp 0), Asr.eq (.float .f64 (tgt)), Asr.eq (pt gp 0), Asr.eq (pt gp 0), Asr.eq (pt gp 1), Asr.eq (.int .u64 ((seq : Nat) : Int)), Asr.eq (pt gp 0), Asr.any (fun v w' => ∃ iv, v = iv ∧ Own ptL 125 1 w' 0 iv [sg]), Asr.any (fun v w' => ∃ p c, v = .slice p 1 c), Asr.eq (pt gp 0), Asr.eq (pt gp 0), Asr.eq (pt gp 3), Asr.eq (.string (⟨#[]⟩)), Asr.eq (pt gp 0), Asr.eq (pt gp 0), Asr.eq (pt gp 4), Asr.eq (.bool false), Asr.eq (pt gp 0), Asr.eq (pt gp 0), Asr.eq (pt gp 5), Asr.eq (.bool false), Asr.eq (pt gp 0), Asr.eq (pt gp 0), Asr.eq (pt gp 6), Asr.eq (.int .u64 0), Asr.eq (.int .i64 0), Asr.eq (pt gp 0), Asr.eq (pt gp 0), Asr.eq (pt gp 7), Asr.eq (.int .u64 ((disc : Nat) : Int)), Asr.eq (pt gp 0), Asr.eq (pt gp 0), Asr.eq (pt gp 8), Asr.eq (.float .f64 0), Asr.eq (pt gp 0), Asr.eq (pt gp 0), Asr.eq (pt gp 9), Asr.eq (.bool false), Asr.eq (pt gp 0), Asr.eq (.int .u8 ((ver : Nat) : Int)), Asr.eq (.int .i64 ((ver : Nat) : Int)), Asr.eq (pt gp 0), Asr.eq (pt gp 0), Asr.eq (pt gp 21), Asr.eq (.pointer none), Asr.eq (.slice none 0 0), Asr.eq (pt gp 0), Asr.eq (pt gp 0), Asr.eq (pt gp 22), Asr.eq (.pointer none), Asr.eq (.slice none 0 0), Asr.eq (pt gp 0), Asr.eq (.int .u64 0), Asr.eq (.int .i64 0)] (by kernel_rfl) (by kernel_rfl) (by kernel_rfl) (by simp) (by kernel_rfl) hS.ev.size ⟨(fun i _ _ v w w' _ ho hp => by obtain ⟨iv, h1, h2⟩ := hp; exact ⟨iv, h1, h2.below (only_below0 ho)⟩), (fun i _ _ v w w' _ ho hp => hp), ⟨⟩⟩ ?_ ?_
 ·simp only [List.take_succ_cons, List.take_zero]
  refine ⟨?_, ?_, ?_, ?_, ?_, ?_, ?_, ?_, ?_, ?_, ?_, ?_, ?_, ?_, ?_, ?_, ?_, ?_, ?_, ?_, ?_, ?_, ?_, ?_, ?_, ?_, ?_, ?_, ?_, ?_, ?_, ?_, ?_, ?_, ?_, ?_, ?_, ?_, ?_, ?_, ?_, ?_, ?_, ?_, ?_, ?_, ?_, ?_, ?_, ?_, ?_, ?_, ?_, ?_, ?_, ?_, trivial⟩
  ·intro a wx c
   have e_0 : a.eval (.tmp 0) = pt gp 0 := c.outE (by decide +kernel) (hS.get 0 rfl)
   clear c
   exact og_val (ex_mv e_0) rfl
  ·intro a wx c
   have e_3 : a.eval (.tmp 3) = pt gp 0 := c.slot 0 _ (by decide +kernel) rfl
   clear c
   exact og_val (ex_nc e_3) rfl
  ·intro a wx c
   have e_4 : a.eval (.tmp 4) = pt gp 0 := c.slot 1 _ (by decide +kernel) rfl
   clear c
   exact og_val (ex_fo e_4 fo_m3u8_MediaPlaylist_0 rfl) rfl
  ·intro a wx c
   have e_5 : a.eval (.tmp 5) = pt gp 0 := c.slot 2 _ (by decide +kernel) rfl
   have hO := hS.ogc c
   clear c
   exact og_val (ex_ld e_5 lt_float64 (cell_of_heap (v := .float .f64 (tgt)) (hO.at 3 rfl) rfl)) rfl
  ·intro a wx c
   have e_0 : a.eval (.tmp 0) = pt gp 0 := c.outE (by decide +kernel) (hS.get 0 rfl)
   clear c
   exact og_val (ex_mv e_0) rfl
  ·intro a wx c
   have e_7 : a.eval (.tmp 7) = pt gp 0 := c.slot 4 _ (by decide +kernel) rfl
   clear c
   exact og_val (ex_nc e_7) rfl
  ·intro a wx c
   have e_8 : a.eval (.tmp 8) = pt gp 0 := c.slot 5 _ (by decide +kernel) rfl
   clear c
   exact og_val (ex_fo e_8 fo_m3u8_MediaPlaylist_1 rfl) rfl
  ·intro a wx c
   have e_9 : a.eval (.tmp 9) = pt gp 1 := c.slot 6 _ (by decide +kernel) rfl
   have hO := hS.ogc c
   clear c
   exact og_val (ex_ld e_9 lt_uint64 (cell_of_heap (v := .int .u64 ((seq : Nat) : Int)) (hO.at 3 rfl) rfl)) rfl
  ·intro a wx c
   have e_0 : a.eval (.tmp 0) = pt gp 0 := c.outE (by decide +kernel) (hS.get 0 rfl)
   clear c
   exact og_val (ex_mv e_0) rfl
  ·intro a wx c
   have e_11 : a.eval (.tmp 11) = pt gp 0 := c.slot 8 _ (by decide +kernel) rfl
   have hO := hS.ogc c
   have hbx := drew_below c.only
   clear c
   exact og_call (ex_call1 cf_impl_inOrder e_11) ((inOrder1 hc0 hcap wx (hO.at 3 rfl) (hO.at 2 rfl) hr0 hne).mono fun e w' ⟨v, h1, h2, h3⟩ => ⟨v, h1, h2, v, rfl, h3.base (Nat.zero_le _)⟩)
  ·intro a wx c
   obtain ⟨iv, e_12, hin⟩ : ∃ iv, (a.eval (.tmp 12)) = iv ∧ Own ptL 125 1 wx 0 iv [sg] := c.slot 9 _ (by decide +kernel) rfl
   have hO := hS.ogc c
   have hbx := drew_below c.only
   clear c
   exact og_call (ex_call1 cf_impl_segmentsOf e_12) ((segsOf1 wx (hO.at 1 rfl) hin).mono fun e w' ⟨v, h1, h2, h3⟩ => ⟨v, h1, h2, by obtain ⟨A, c, h4, _⟩ := h3.shape; exact ⟨A, c, h4⟩⟩)
  ·intro a wx c
   have e_0 : a.eval (.tmp 0) = pt gp 0 := c.outE (by decide +kernel) (hS.get 0 rfl)
   clear c
   exact og_val (ex_mv e_0) rfl
  ·intro a wx c
   have e_14 : a.eval (.tmp 14) = pt gp 0 := c.slot 11 _ (by decide +kernel) rfl
   clear c
   exact og_val (ex_nc e_14) rfl
  ·intro a wx c
   have e_15 : a.eval (.tmp 15) = pt gp 0 := c.slot 12 _ (by decide +kernel) rfl
   clear c
   exact og_val (ex_fo e_15 fo_m3u8_MediaPlaylist_3 rfl) rfl
  ·intro a wx c
   have e_16 : a.eval (.tmp 16) = pt gp 3 := c.slot 13 _ (by decide +kernel) rfl
   have hO := hS.ogc c
   clear c
   exact og_val (ex_ld e_16 lt_string (cell_of_heap (v := .string (⟨#[]⟩)) (hO.at 3 rfl) rfl)) rfl
  ·intro a wx c
   have e_0 : a.eval (.tmp 0) = pt gp 0 := c.outE (by decide +kernel) (hS.get 0 rfl)
   clear c
   exact og_val (ex_mv e_0) rfl
  ·intro a wx c
   have e_18 : a.eval (.tmp 18) = pt gp 0 := c.slot 15 _ (by decide +kernel) rfl
   clear c
   exact og_val (ex_nc e_18) rfl
  ·intro a wx c
   have e_19 : a.eval (.tmp 19) = pt gp 0 := c.slot 16 _ (by decide +kernel) rfl
   clear c
   exact og_val (ex_fo e_19 fo_m3u8_MediaPlaylist_4 rfl) rfl
  ·intro a wx c
   have e_20 : a.eval (.tmp 20) = pt gp 4 := c.slot 17 _ (by decide +kernel) rfl
   have hO := hS.ogc c
   clear c
   exact og_val (ex_ld e_20 lt_bool (cell_of_heap (v := .bool false) (hO.at 3 rfl) rfl)) rfl
  ·intro a wx c
   have e_0 : a.eval (.tmp 0) = pt gp 0 := c.outE (by decide +kernel) (hS.get 0 rfl)
   clear c
   exact og_val (ex_mv e_0) rfl
  ·intro a wx c
   have e_22 : a.eval (.tmp 22) = pt gp 0 := c.slot 19 _ (by decide +kernel) rfl
   clear c
   exact og_val (ex_nc e_22) rfl
  ·intro a wx c
   have e_23 : a.eval (.tmp 23) = pt gp 0 := c.slot 20 _ (by decide +kernel) rfl
   clear c
   exact og_val (ex_fo e_23 fo_m3u8_MediaPlaylist_5 rfl) rfl
  ·intro a wx c
   have e_24 : a.eval (.tmp 24) = pt gp 5 := c.slot 21 _ (by decide +kernel) rfl
   have hO := hS.ogc c
   clear c
   exact og_val (ex_ld e_24 lt_bool (cell_of_heap (v := .bool false) (hO.at 3 rfl) rfl)) rfl
  ·intro a wx c
   have e_0 : a.eval (.tmp 0) = pt gp 0 := c.outE (by decide +kernel) (hS.get 0 rfl)
   clear c
   exact og_val (ex_mv e_0) rfl
  ·intro a wx c
   have e_26 : a.eval (.tmp 26) = pt gp 0 := c.slot 23 _ (by decide +kernel) rfl
   clear c
   exact og_val (ex_nc e_26) rfl
  ·intro a wx c
   have e_27 : a.eval (.tmp 27) = pt gp 0 := c.slot 24 _ (by decide +kernel) rfl
   clear c
   exact og_val (ex_fo e_27 fo_m3u8_MediaPlaylist_6 rfl) rfl
  ·intro a wx c
   have e_28 : a.eval (.tmp 28) = pt gp 6 := c.slot 25 _ (by decide +kernel) rfl
   have hO := hS.ogc c
   clear c
   exact og_val (ex_ld e_28 lt_m3u8_MediaType (cell_of_heap (v := .int .u64 0) (hO.at 3 rfl) rfl)) rfl
  ·intro a wx c
   have e_29 : a.eval (.tmp 29) = .int .u64 0 := c.slot 26 _ (by decide +kernel) rfl
   clear c
   exact og_val (ex_cv e_29 (cv_m3u8_MediaType_int _ (by rw [IntKind.wrap_i64]; omega))) rfl
  ·intro a wx c
   have e_0 : a.eval (.tmp 0) = pt gp 0 := c.outE (by decide +kernel) (hS.get 0 rfl)
   clear c
   exact og_val (ex_mv e_0) rfl
  ·intro a wx c
   have e_31 : a.eval (.tmp 31) = pt gp 0 := c.slot 28 _ (by decide +kernel) rfl
   clear c
   exact og_val (ex_nc e_31) rfl
  ·intro a wx c
   have e_32 : a.eval (.tmp 32) = pt gp 0 := c.slot 29 _ (by decide +kernel) rfl
   clear c
   exact og_val (ex_fo e_32 fo_m3u8_MediaPlaylist_7 rfl) rfl
  ·intro a wx c
   have e_33 : a.eval (.tmp 33) = pt gp 7 := c.slot 30 _ (by decide +kernel) rfl
   have hO := hS.ogc c
   clear c
   exact og_val (ex_ld e_33 lt_uint64 (cell_of_heap (v := .int .u64 ((disc : Nat) : Int)) (hO.at 3 rfl) rfl)) rfl
  ·intro a wx c
   have e_0 : a.eval (.tmp 0) = pt gp 0 := c.outE (by decide +kernel) (hS.get 0 rfl)
   clear c
   exact og_val (ex_mv e_0) rfl
  ·intro a wx c
   have e_35 : a.eval (.tmp 35) = pt gp 0 := c.slot 32 _ (by decide +kernel) rfl
   clear c
   exact og_val (ex_nc e_35) rfl
  ·intro a wx c
   have e_36 : a.eval (.tmp 36) = pt gp 0 := c.slot 33 _ (by decide +kernel) rfl
   clear c
   exact og_val (ex_fo e_36 fo_m3u8_MediaPlaylist_8 rfl) rfl
  ·intro a wx c
   have e_37 : a.eval (.tmp 37) = pt gp 8 := c.slot 34 _ (by decide +kernel) rfl
   have hO := hS.ogc c
   clear c
   exact og_val (ex_ld e_37 lt_float64 (cell_of_heap (v := .float .f64 0) (hO.at 3 rfl) rfl)) rfl
  ·intro a wx c
   have e_0 : a.eval (.tmp 0) = pt gp 0 := c.outE (by decide +kernel) (hS.get 0 rfl)
   clear c
   exact og_val (ex_mv e_0) rfl
  ·intro a wx c
   have e_39 : a.eval (.tmp 39) = pt gp 0 := c.slot 36 _ (by decide +kernel) rfl
   clear c
   exact og_val (ex_nc e_39) rfl
  ·intro a wx c
   have e_40 : a.eval (.tmp 40) = pt gp 0 := c.slot 37 _ (by decide +kernel) rfl
   clear c
   exact og_val (ex_fo e_40 fo_m3u8_MediaPlaylist_9 rfl) rfl
  ·intro a wx c
   have e_41 : a.eval (.tmp 41) = pt gp 9 := c.slot 38 _ (by decide +kernel) rfl
   have hO := hS.ogc c
   clear c
   exact og_val (ex_ld e_41 lt_bool (cell_of_heap (v := .bool false) (hO.at 3 rfl) rfl)) rfl
  ·intro a wx c
   have e_0 : a.eval (.tmp 0) = pt gp 0 := c.outE (by decide +kernel) (hS.get 0 rfl)
   clear c
   exact og_val (ex_mv e_0) rfl
  ·intro a wx c
   have e_43 : a.eval (.tmp 43) = pt gp 0 := c.slot 40 _ (by decide +kernel) rfl
   have hO := hS.ogc c
   have hbx := drew_below c.only
   clear c
   have hcl : Calls Tryz.prog _ _ wx (fun e w' => e = .returned (.int .u8 ((ver : Nat) : Int)) ∧ Below wx.heap.size wx w') := (ver_any wx (hO.at 3 rfl))
   refine og_call (ex_call1 cf_m3u8_MediaPlaylist_Version e_43) (Calls.mono hcl ?_)
   rintro e w' ⟨rfl, hb⟩
   exact ⟨_, rfl, hb, rfl⟩
  ·intro a wx c
   have e_44 : a.eval (.tmp 44) = .int .u8 ((ver : Nat) : Int) := c.slot 41 _ (by decide +kernel) rfl
   clear c
   exact og_val (ex_cv e_44 (cv_uint8_int _ (by rw [IntKind.wrap_i64]; omega))) rfl
  ·intro a wx c
   have e_0 : a.eval (.tmp 0) = pt gp 0 := c.outE (by decide +kernel) (hS.get 0 rfl)
   clear c
   exact og_val (ex_mv e_0) rfl
  ·intro a wx c
   have e_46 : a.eval (.tmp 46) = pt gp 0 := c.slot 43 _ (by decide +kernel) rfl
   clear c
   exact og_val (ex_nc e_46) rfl
  ·intro a wx c
   have e_47 : a.eval (.tmp 47) = pt gp 0 := c.slot 44 _ (by decide +kernel) rfl
   clear c
   exact og_val (ex_fo e_47 fo_m3u8_MediaPlaylist_19 rfl) rfl
  ·intro a wx c
   have e_48 : a.eval (.tmp 48) = pt gp 21 := c.slot 45 _ (by decide +kernel) rfl
   have hO := hS.ogc c
   clear c
   exact og_val (ex_ld e_48 lt_p_m3u8_Key (cell_of_heap (v := .pointer none) (hO.at 3 rfl) rfl)) rfl
  ·intro a wx c
   have e_49 : a.eval (.tmp 49) = .pointer none := c.slot 46 _ (by decide +kernel) rfl
   have hO := hS.ogc c
   have hbx := drew_below c.only
   clear c
   have hcl : Calls Tryz.prog _ _ wx (fun e w' => e = .returned (.slice none 0 0) ∧ Below wx.heap.size wx w') := (keyOf_nil wx)
   refine og_call (ex_call1 cf_impl_keyOf e_49) (Calls.mono hcl ?_)
   rintro e w' ⟨rfl, hb⟩
   exact ⟨_, rfl, hb, rfl⟩
  ·intro a wx c
   have e_0 : a.eval (.tmp 0) = pt gp 0 := c.outE (by decide +kernel) (hS.get 0 rfl)
   clear c
   exact og_val (ex_mv e_0) rfl
  ·intro a wx c
   have e_51 : a.eval (.tmp 51) = pt gp 0 := c.slot 48 _ (by decide +kernel) rfl
   clear c
   exact og_val (ex_nc e_51) rfl
  ·intro a wx c
   have e_52 : a.eval (.tmp 52) = pt gp 0 := c.slot 49 _ (by decide +kernel) rfl
   clear c
   exact og_val (ex_fo e_52 fo_m3u8_MediaPlaylist_20 rfl) rfl
  ·intro a wx c
   have e_53 : a.eval (.tmp 53) = pt gp 22 := c.slot 50 _ (by decide +kernel) rfl
   have hO := hS.ogc c
   clear c
   exact og_val (ex_ld e_53 lt_p_m3u8_Map (cell_of_heap (v := .pointer none) (hO.at 3 rfl) rfl)) rfl
  ·intro a wx c
   have e_54 : a.eval (.tmp 54) = .pointer none := c.slot 51 _ (by decide +kernel) rfl
   have hO := hS.ogc c
   have hbx := drew_below c.only
   clear c
   have hcl : Calls Tryz.prog _ _ wx (fun e w' => e = .returned (.slice none 0 0) ∧ Below wx.heap.size wx w') := (mapOf_nil wx)
   refine og_call (ex_call1 cf_impl_mapOf e_54) (Calls.mono hcl ?_)
   rintro e w' ⟨rfl, hb⟩
   exact ⟨_, rfl, hb, rfl⟩
  ·intro a wx c
   have e_0 : a.eval (.tmp 0) = pt gp 0 := c.outE (by decide +kernel) (hS.get 0 rfl)
   clear c
   exact og_val (ex_mv e_0) rfl
  ·intro a wx c
   have e_56 : a.eval (.tmp 56) = pt gp 0 := c.slot 53 _ (by decide +kernel) rfl
   have hO := hS.ogc c
   have hbx := drew_below c.only
   clear c
   have hcl : Calls Tryz.prog _ _ wx (fun e w' => e = .returned (.int .u64 0) ∧ Below wx.heap.size wx w') := (win_any wx (hO.at 3 rfl))
   refine og_call (ex_call1 cf_m3u8_MediaPlaylist_WinSize e_56) (Calls.mono hcl ?_)
   rintro e w' ⟨rfl, hb⟩
   exact ⟨_, rfl, hb, rfl⟩
  ·intro a wx c
   have e_57 : a.eval (.tmp 57) = .int .u64 0 := c.slot 54 _ (by decide +kernel) rfl
   clear c
   exact og_val (ex_cv e_57 (cv_uint_int _ (by rw [IntKind.wrap_i64]; omega))) rfl
 ·intro a w3 c hbw3
  obtain ⟨p, c0, e_13⟩ : ∃ p c0, (a.eval (.tmp 13)) = .slice p 1 c0 := c.slot 10 _ (by decide +kernel) rfl
  replace hS : Sv 60 ((58, .int .i64 0) :: (55, .slice none 0 0) :: (50, .slice none 0 0) :: (45, .int .i64 ((ver : Nat) : Int)) :: (42, .bool false) :: (38, .float .f64 0) :: (34, .int .u64 ((disc : Nat) : Int)) :: (30, .int .i64 0) :: (25, .bool false) :: (21, .bool false) :: (17, .string (⟨#[]⟩)) :: (13, .slice p 1 c0) :: (10, .int .u64 ((seq : Nat) : Int)) :: (6, .float .f64 (tgt)) :: (0, pt gp 0) :: (2, pt g1 0) :: []) [⟨g1, #[.float .f64 0, .int .u64 0, .slice none 0 0, .string ⟨#[]⟩, .bool false, .bool false, .int .i64 0, .int .u64 0, .float .f64 0, .bool false, .int .i64 0, .slice none 0 0, .slice none 0 0, .int .i64 0], 40, true⟩, ⟨sg, (scs sq2 title uri dur), 127, false⟩, ⟨gr, Rc, 125, false⟩, ⟨gp, (pcs tgt seq disc ver (.slice (some ⟨gr, 0, none⟩) cap cap) cap tail 1), 88, false⟩] (fun _ => False) w a w3 := (((((((((((((((((hS.ogh c).know (c.outE (by decide +kernel) (hS.get 2 rfl))).know (c.outE (by decide +kernel) (hS.get 0 rfl))).know (c.slot 3 _ (by decide +kernel) rfl)).know (c.slot 7 _ (by decide +kernel) rfl)).know e_13).know (c.slot 14 _ (by decide +kernel) rfl)).know (c.slot 18 _ (by decide +kernel) rfl)).know (c.slot 22 _ (by decide +kernel) rfl)).know (c.slot 27 _ (by decide +kernel) rfl)).know (c.slot 31 _ (by decide +kernel) rfl)).know (c.slot 35 _ (by decide +kernel) rfl)).know (c.slot 39 _ (by decide +kernel) rfl)).know (c.slot 42 _ (by decide +kernel) rfl)).know (c.slot 47 _ (by decide +kernel) rfl)).know (c.slot 52 _ (by decide +kernel) rfl)).know (c.slot 55 _ (by decide +kernel) rfl))
  clear c
  simp only [List.drop_succ_cons, List.drop_zero]
  refine sv_r (v := .agg #[.float .f64 (tgt), .int .u64 ((seq : Nat) : Int), .slice p 1 c0, .string (⟨#[]⟩), .bool false, .bool false, .int .i64 0, .int .u64 ((disc : Nat) : Int), .float .f64 0, .bool false, .int .i64 ((ver : Nat) : Int), .slice none 0 0, .slice none 0 0, .int .i64 0]) hS (by simp only [execOp, List.map_toArray, List.map_cons, List.map_nil, hS.get 6 rfl, hS.get 10 rfl, hS.get 13 rfl, hS.get 17 rfl, hS.get 21 rfl, hS.get 25 rfl, hS.get 30 rfl, hS.get 34 rfl, hS.get 38 rfl, hS.get 42 rfl, hS.get 45 rfl, hS.get 50 rfl, hS.get 55 rfl, hS.get 58 rfl]; go_simp) fun a hS => ?_
  refine sv_sb (i := 0) (m' := [⟨g1, #[.float .f64 (tgt), .int .u64 ((seq : Nat) : Int), .slice p 1 c0, .string (⟨#[]⟩), .bool false, .bool false, .int .i64 0, .int .u64 ((disc : Nat) : Int), .float .f64 0, .bool false, .int .i64 ((ver : Nat) : Int), .slice none 0 0, .slice none 0 0, .int .i64 0], 40, true⟩, ⟨sg, (scs sq2 title uri dur), 127, false⟩, ⟨gr, Rc, 125, false⟩, ⟨gp, (pcs tgt seq disc ver (.slice (some ⟨gr, 0, none⟩) cap cap) cap tail 1), 88, false⟩]) hS ag_impl_Media (hS.get 2 rfl) (hS.get 59 rfl) rfl rfl rfl (by intro u hu; simp only [List.mem_cons, List.not_mem_nil, or_false] at hu; rcases hu with rfl | rfl | rfl | rfl | rfl | rfl | rfl | rfl | rfl | rfl | rfl | rfl | rfl | rfl <;> rfl) rfl ?_
  intro w4 hty hS
  refine wpList_nil ?_
  replace hS := hS.cut [2]
  show Code.wp _ _ _ _ _
  refine wp_ret ?_
  try simp only [Exit.inBlock, Exit.then]
  exact ret_cell hS.ev rfl ag_impl_Media (hS.get 2 rfl) (hS.at 0 rfl) rfl ⟨_, rfl, hS.toBelow, p, c0, rfl⟩
end Go.Proofs.YtflppablgdegcaaGreatDoor
/- impl.ReadMedia of FnNoNumber's text. -/
set_option maxRecDepth 100000
set_option maxHeartbeats 8000000
namespace Go.Proofs.YtflppablgdegcaaGreatDoor
open Go.RowKit
theorem flat_len {k : Nat} (last : List UInt8) : ∀ lns : List (List UInt8), (∀ l ∈ lns, l.length ≤ k) → (flatLn lns last).length ≤ lns.length * (k + 1) + last.length
 | [], _ => by simp [flatLn]
 | l :: r, h => by
  have h1 := flat_len last r (fun x hx => h x (List.mem_cons_of_mem _ hx))
  have h2 := h l List.mem_cons_self
  have h3 : flatLn (l :: r) last = l ++ 10 :: flatLn r last := rfl
  rw [h3, List.length_append, List.length_cons, List.length_cons, Nat.add_mul, Nat.one_mul]
  omega
theorem flat_mem {last : List UInt8} {x : UInt8} : ∀ lns : List (List UInt8), x ∈ flatLn lns last → (∃ l ∈ lns, x ∈ l) ∨ x = 10 ∨ x ∈ last
 | [], h => .inr (.inr h)
 | l :: r, h => by
  have h3 : flatLn (l :: r) last = l ++ 10 :: flatLn r last := rfl
  rw [h3] at h
  rcases List.mem_append.1 h with h | h
  ·exact .inl ⟨l, List.mem_cons_self, h⟩
  ·rcases List.mem_cons.1 h with h | h
   ·exact .inr (.inl h)
   ·rcases flat_mem r h with ⟨l2, h4, h5⟩ | h4
    ·exact .inl ⟨l2, List.mem_cons_of_mem _ h4, h5⟩
    ·exact .inr h4
theorem lns_sgn {kk : Nat} {wd : List UInt8} (hw : Wd wd) : ∀ ln ∈ lnsOf kk wd, Sgn ln ∧ ln.length ≤ 60 := by
 intro ln hl
 simp only [lnsOf, List.mem_cons, List.not_mem_nil, or_false] at hl
 rcases hl with rfl | rfl | rfl | rfl | rfl | rfl | rfl
 ·exact ⟨sgn_of (by decide), by decide⟩
 ·exact ⟨sgnVer hw, lenVer hw⟩
 ·exact ⟨sgnTgt hw, lenTgt hw⟩
 ·exact ⟨sgnSeq hw, lenSeq hw⟩
 ·exact ⟨sgnDsq hw, lenDsq hw⟩
 ·exact ⟨sgnInf hw, lenInf hw⟩
 ·exact ⟨sgn_of (by decide), by decide⟩
theorem noKM_pre {pre rest : List UInt8} (h : (([35, 69, 88, 84, 45, 88, 45, 75, 69, 89, 58] : List UInt8).isPrefixOf pre || pre.isPrefixOf [35, 69, 88, 84, 45, 88, 45, 75, 69, 89, 58] || ([35, 69, 88, 84, 45, 88, 45, 77, 65, 80, 58] : List UInt8).isPrefixOf pre || pre.isPrefixOf [35, 69, 88, 84, 45, 88, 45, 77, 65, 80, 58]) = false) : NoKM ⟨(pre ++ rest).toArray⟩ := by
 simp only [Bool.or_eq_false_iff] at h
 have hd : (⟨(pre ++ rest).toArray⟩ : ByteArray).data.toList = pre ++ rest := by simp
 unfold NoKM
 rw [hd]
 exact ⟨pre_f _ _ _ h.1.1.1 h.1.1.2, pre_f _ _ _ h.1.2 h.2⟩
theorem lns_km {kk : Nat} {wd : List UInt8} (hw : Wd wd) : ∀ l ∈ lnsOf kk wd ++ [[]], NoKM (trL l) := by
 intro l hl
 have hs : Sgn l := by
  rcases List.mem_append.1 hl with h | h
  ·exact (lns_sgn hw l h).1
  ·rw [List.mem_singleton.1 h]; intro x hx; cases hx
 rw [trL_sgn hs]
 simp only [lnsOf, List.cons_append, List.nil_append, List.mem_cons, List.not_mem_nil, or_false] at hl
 rcases hl with rfl | rfl | rfl | rfl | rfl | rfl | rfl | rfl
 ·exact ⟨by decide, by decide⟩
 ·exact noKM_pre (by decide)
 ·exact noKM_pre (by decide)
 ·exact noKM_pre (by decide)
 ·exact noKM_pre (by decide)
 ·exact noKM_pre (by decide)
 ·exact ⟨by decide, by decide⟩
 ·exact ⟨by decide, by decide⟩
theorem ret_cell_tmp {N t u k g : Nat} {T : TypeId} {l : List (Nat × Value)} {fn : Func} {R : Ending → World → Prop} {a : Act} {w : World} {cs : Array Value} {e : TypeId} {fr : Nat × Nat} {y : Value} (h : Ev N l a) (hr : fn.results = #[.cell t T, .tmp u]) (hA : Ag T k) (hv : a.eval (.tmp t) = pt g 0) (hg : w.heap[g]? = some (.cells cs e fr)) (hsz : cs.size = k) (hy : a.eval (.tmp u) = y) (hR : R (.returned (.tuple #[.agg cs, y])) w) : bodyPost Tryz.prog fn R .ret a w := by
 refine bodyPost_ret (v := .tuple #[.agg cs, y]) ?_ h.defers hR
 have hl1 := run_load_blk (P := Tryz.prog) (w := w) T hA.agg hA.size hg hsz
 have hv1' : a.tmps.getD t undef = pt g 0 := hv
 have hv2' : a.tmps.getD u undef = y := hy
 rw [Array.getD_eq_getD_getElem?] at hv1' hv2'
 simp [results, hr, hv1', hv2', asAddr, hl1]
/-- No playlist's data. -/
def zmc : Array Value := #[.float .f64 0, .int .u64 0, .slice none 0 0, .string ⟨#[]⟩, .bool false, .bool false, .int .i64 0, .int .u64 0, .float .f64 0, .bool false, .int .i64 0, .slice none 0 0, .slice none 0 0, .int .i64 0]
theorem zmc_one : ∀ u ∈ zmc.toList, u.oneCell' = true := by
 intro u hu
 simp only [zmc, List.mem_cons, List.not_mem_nil, or_false] at hu
 rcases hu with rfl | rfl | rfl | rfl | rfl | rfl | rfl | rfl | rfl | rfl | rfl | rfl | rfl | rfl <;> rfl
theorem readMediaNN (kk : Nat) {wd : List UInt8} (hw : Wd wd) (st : Bool) (s : ByteArray) (hs : s.data.toList = flatLn (lnsOf kk wd) []) {B : Nat} {G : Ge} (w : World) (hG : Env B G w) : Calls Tryz.prog 9 #[.string s, .int .i64 0, .int .i64 4, .bool st] w fun e w' => ∃ v, e = .returned v ∧ Below w.heap.size w w' ∧ (((st = true ∧ kk < 5) ∧ v = .tuple #[.agg zmc, .bool false]) ∨ (¬ (st = true ∧ kk < 5) ∧ ∃ tgt seq disc p c, v = .tuple #[.agg (mcs tgt seq disc 3 (.slice p 1 c)), .bool true])) := by
 have hsz : s.size ≤ 427 := by
  have h1 := flat_len (k := 60) [] (lnsOf kk wd) (fun l hl => (lns_sgn hw l hl).2)
  rw [← hs, len_list] at h1
  have h2 : (lnsOf kk wd).length = 7 := rfl
  rw [h2] at h1
  simpa using h1
 have hasc : Asc s := by
  intro j b hb
  have h1 := List.mem_of_getElem? hb
  rw [hs] at h1
  rcases flat_mem _ h1 with ⟨l, h2, h3⟩ | h2 | h2
  ·exact ((lns_sgn hw l h2).1 b h3).2
  ·rw [h2]; decide
  ·cases h2
 refine calls_of_ev Tryz.func9 rfl (show 4 ≤ 57 from by decide) ?_
 intro a hE
 have hE : Ev 57 ((0, .string s) :: (1, .int .i64 0) :: (2, .int .i64 4) :: (3, .bool st) :: []) a := hE
 have hS : Sv 57 ((0, .string s) :: (1, .int .i64 0) :: (2, .int .i64 4) :: (3, .bool st) :: []) [] (fun _ => False) w a w := Sv.start hE _ _
 clear hE
 refine wp_seq ?_
 refine wp_region_lit ?_
 refine sv_al hS al_impl_Media (by decide) ?_
 intro g1 a w2 hg1 hbw2 hwg1 hS
 refine sv_r (v := .bool false) hS ex_ac fun a hS => ?_
 refine wpList_nil ?_
 replace hS := hS.cut [9, 8, 0, 1, 2, 3]
 show Code.wp _ _ _ _ _
 refine wp_seq ?_
 refine wp_seq ?_
 refine wp_region_lit ?_
 refine sv_r (v := .string s) hS (ex_mv (hS.get 0 rfl)) fun a hS => ?_
 refine sv_callv (v := .bool true) hS rfl rfl (by decide) (ex_call1 cf_impl_readable (hS.get 13 rfl)) (readable_any (lnsOf kk wd) [] s hs (fun ln hl => (lns_sgn hw ln hl).1.ne10) (by intro x hx; cases hx) (by omega) hasc (by show 7 ≤ _; decide) (lns_km hw) w2 (hG.below hS.toBelow)) ?_
 intro a w3 hbw3 hS
 refine sv_r (v := .bool false) hS (ex_not (hS.get 14 rfl)) fun a hS => ?_
 refine sv_r (v := .bool false) hS (ex_mv (hS.get 15 rfl)) fun a hS => ?_
 refine sv_g (v := .int .i64 4) hS (hS.get 16 rfl) (ex_mv (hS.get 2 rfl)) fun a hS => ?_
 refine sv_g (v := .bool false) hS (hS.get 16 rfl) (ei_lss (hS.get 17 rfl) rfl (by rw [decide_eq_false_iff_not]; omega)) fun a hS => ?_
 refine sv_r (v := .bool false) hS (ex_pickF (hS.get 16 rfl) (hS.get 18 rfl)) fun a hS => ?_
 refine sv_r (v := .bool false) hS (ex_mv (hS.get 19 rfl)) fun a hS => ?_
 refine sv_g (v := .int .i64 4) hS (hS.get 20 rfl) (ex_mv (hS.get 2 rfl)) fun a hS => ?_
 refine sv_g (v := .bool false) hS (hS.get 20 rfl) (ei_gtr (hS.get 21 rfl) rfl (by rw [decide_eq_false_iff_not]; omega)) fun a hS => ?_
 refine sv_r (v := .bool false) hS (ex_pickF (hS.get 20 rfl) (hS.get 22 rfl)) fun a hS => ?_
 refine sv_r (v := .bool false) hS (ex_mv (hS.get 23 rfl)) fun a hS => ?_
 refine sv_g (v := .int .i64 0) hS (hS.get 24 rfl) (ex_mv (hS.get 1 rfl)) fun a hS => ?_
 refine sv_g (v := .bool false) hS (hS.get 24 rfl) (ei_lss (hS.get 25 rfl) rfl (by rw [decide_eq_false_iff_not]; omega)) fun a hS => ?_
 refine sv_r (v := .bool false) hS (ex_pickF (hS.get 24 rfl) (hS.get 26 rfl)) fun a hS => ?_
 refine sv_r (v := .bool false) hS (ex_mv (hS.get 27 rfl)) fun a hS => ?_
 refine sv_g (v := .int .i64 0) hS (hS.get 28 rfl) (ex_mv (hS.get 1 rfl)) fun a hS => ?_
 refine sv_g (v := .int .i64 4) hS (hS.get 28 rfl) (ex_mv (hS.get 2 rfl)) fun a hS => ?_
 refine sv_g (v := .bool false) hS (hS.get 28 rfl) (ei_gtr (hS.get 29 rfl) (hS.get 30 rfl) (by rw [decide_eq_false_iff_not]; omega)) fun a hS => ?_
 refine sv_r (v := .bool false) hS (ex_pickF (hS.get 28 rfl) (hS.get 31 rfl)) fun a hS => ?_
 refine wpList_nil ?_
 replace hS := hS.cut [32, 9, 8, 0, 1, 2, 3]
 show Code.wp _ _ _ _ _
 refine cond_f (hS.get 32 rfl) ?_
 refine wp_skip ?_
 show Code.wp _ _ _ _ _
 refine wp_seq ?_
 refine wp_region_lit ?_
 refine sv_r (v := .int .i64 0) hS (ex_mv (hS.get 1 rfl)) fun a hS => ?_
 refine sv_r (v := .int .u64 0) hS (ex_cv (hS.get 35 rfl) (cv_int_uint _ (by rw [IntKind.wrap_u64]; omega))) fun a hS => ?_
 refine sv_r (v := .int .i64 4) hS (ex_mv (hS.get 2 rfl)) fun a hS => ?_
 refine sv_r (v := .int .u64 4) hS (ex_cv (hS.get 37 rfl) (cv_int_uint _ (by rw [IntKind.wrap_u64]; omega))) fun a hS => ?_
 have hsz0 := hS.size
 have hlt := hS.lt
 have hsz := hS.size
 refine sv_call (S := fun v w' => ∃ gp gr : Nat, v = .tuple #[pt gp 0, .nilIface] ∧ w3.heap.size ≤ gp ∧ w3.heap.size ≤ gr ∧ w'.heap[gp]? = some (.cells (pcs 0 0 0 3 (.slice (some ⟨gr, 0, none⟩) 4 4) 4 0 0) 88 (0, 0)) ∧ w'.heap[gr]? = some (.cells (List.replicate 4 (Value.pointer none)).toArray 125 (0, 0))) hS rfl rfl (by decide) (ex_call2 cf_m3u8_NewMediaPlaylist (hS.get 36 rfl) (hS.get 38 rfl)) (newMedia0 4 (by decide) w3) ?_
 rintro a _ w4 ⟨gp, gr, rfl, hgp0, hgr0, hgp, hgr⟩ hbw4 hS
 have hg8 : w4.heap[g1]? = some (.cells #[.float .f64 0, .int .u64 0, .slice none 0 0, .string ⟨#[]⟩, .bool false, .bool false, .int .i64 0, .int .u64 0, .float .f64 0, .bool false, .int .i64 0, .slice none 0 0, .slice none 0 0, .int .i64 0] 40 (0, 0)) := hS.at 0 rfl
 have hpr : gp ≠ gr := by rintro rfl; rw [hgp] at hgr; injection hgr with h1; injection h1 with _ h2 _; exact absurd (show (88 : Nat) = 125 from h2) (by decide)
 have hSp := hS.addN hgp hlt hgp0 hsz0
 replace hS : Sv 57 ((39, .tuple #[pt gp 0, .nilIface]) :: (38, .int .u64 4) :: (37, .int .i64 4) :: (36, .int .u64 0) :: (35, .int .i64 0) :: (32, .bool false) :: (9, .bool false) :: (8, pt g1 0) :: (0, .string s) :: (1, .int .i64 0) :: (2, .int .i64 4) :: (3, .bool st) :: []) [⟨gr, (List.replicate 4 (Value.pointer none)).toArray, 125, true⟩, ⟨gp, (pcs 0 0 0 3 (.slice (some ⟨gr, 0, none⟩) 4 4) 4 0 0), 88, true⟩, ⟨g1, #[.float .f64 0, .int .u64 0, .slice none 0 0, .string ⟨#[]⟩, .bool false, .bool false, .int .i64 0, .int .u64 0, .float .f64 0, .bool false, .int .i64 0, .slice none 0 0, .slice none 0 0, .int .i64 0], 40, true⟩] (fun _ => False) w a w4 := hSp.addB hgr (hSp.neT hgr rfl) (fun _ => .inr (by omega))
 clear hSp
 refine sv_r (v := .tuple #[pt gp 0, .nilIface]) hS (ex_mv (hS.get 39 rfl)) fun a hS => ?_
 refine sv_r (v := pt gp 0) hS (ei_ext (hS.get 34 rfl) rfl) fun a hS => ?_
 refine sv_r (v := .nilIface) hS (ei_ext (hS.get 34 rfl) rfl) fun a hS => ?_
 refine sv_r (v := pt gp 0) hS (ex_as (hS.get 40 rfl)) fun a hS => ?_
 refine sv_r (v := .nilIface) hS (ex_as (hS.get 41 rfl)) fun a hS => ?_
 refine wpList_nil ?_
 replace hS : Sv 57 ((11, .nilIface) :: (10, pt gp 0) :: (32, .bool false) :: (9, .bool false) :: (8, pt g1 0) :: (0, .string s) :: (1, .int .i64 0) :: (2, .int .i64 4) :: (3, .bool st) :: []) [⟨gr, (List.replicate 4 (Value.pointer none)).toArray, 125, true⟩, ⟨gp, (pcs 0 0 0 3 (.slice (some ⟨gr, 0, none⟩) 4 4) 4 0 0), 88, true⟩, ⟨g1, #[.float .f64 0, .int .u64 0, .slice none 0 0, .string ⟨#[]⟩, .bool false, .bool false, .int .i64 0, .int .u64 0, .float .f64 0, .bool false, .int .i64 0, .slice none 0 0, .slice none 0 0, .int .i64 0], 40, true⟩] (fun _ => False) w a w4 := hS.pick rfl
 show Code.wp _ _ _ _ _
 refine wp_seq ?_
 refine wp_seq ?_
 refine wp_region_lit ?_
 refine sv_r (v := .nilIface) hS (ex_mv (hS.get 11 rfl)) fun a hS => ?_
 refine sv_r (v := .bool false) hS (ex_ine eqi_error (hS.get 42 rfl)) fun a hS => ?_
 refine wpList_nil ?_
 replace hS := hS.cut [43, 10, 32, 9, 8, 0, 1, 2, 3]
 show Code.wp _ _ _ _ _
 refine cond_f (hS.get 43 rfl) ?_
 refine wp_skip ?_
 show Code.wp _ _ _ _ _
 refine wp_seq ?_
 refine wp_seq ?_
 have hn8p : g1 ≠ gp := by intro h; rw [h] at hg8; rw [hgp] at hg8; injection hg8 with h1; injection h1 with _ h2 _; exact absurd (show (88 : Nat) = 40 from h2) (by decide)
 have hn8r : g1 ≠ gr := by intro h; rw [h] at hg8; rw [hgr] at hg8; injection hg8 with h1; injection h1 with _ h2 _; exact absurd (show (125 : Nat) = 40 from h2) (by decide)
 have hszp := hS.size
 refine wp_region_lit ?_
 refine sv_r (v := pt gp 0) hS (ex_mv (hS.get 10 rfl)) fun a hS => ?_
 refine sv_r (v := .string s) hS (ex_mv (hS.get 0 rfl)) fun a hS => ?_
 obtain ⟨H, c, wn, hrun, hbel, hbyt, hc, hH, hHl⟩ := conv_new s w4
 refine sv_ext hS rfl rfl (by decide) (by simp only [execOp, hS.get 46 rfl]; exact run_andValue'' hrun) hbel ?_
 intro a hS
 have hlt := hS.lt
 have hsz := hS.size
 refine sv_call (S := fun v w' => ∃ r, v = pt r 0 ∧ wn.heap.size ≤ r ∧ w'.heap[r]? = some (.cells #[.slice (some ⟨H, 0, none⟩) s.size c, .int .i64 ((0 : Nat) : Int), .int .i64 (-1)] 97 (0, 0))) hS rfl rfl (by decide) (ex_call1 cf_bytes_NewReader (hS.get 47 rfl)) (newReader_any H s.size c wn) ?_
 rintro a _ w5 ⟨r, rfl, hr0, hr⟩ hbw5 hS
 refine sv_r (v := .iface 62 (pt r 0)) hS (ex_mi (hS.get 48 rfl) (by kernel_rfl)) fun a hS => ?_
 refine sv_r (v := .bool st) hS (ex_mv (hS.get 3 rfl)) fun a hS => ?_
 have hgpx : w5.heap[gp]? = some (.cells (pcs 0 0 0 3 (.slice (some ⟨gr, 0, none⟩) 4 4) 4 0 0) 88 (0, 0)) := hS.at 1 rfl
 have hgrx : w5.heap[gr]? = some (.cells (List.replicate 4 (Value.pointer none)).toArray 125 (0, 0)) := hS.at 0 rfl
 have hg8x := hS.at 2 rfl
 have hw5 := hS.toBelow
 have hltw := hS.lt
 have hgpl : gp < wn.heap.size := Nat.lt_of_lt_of_le (Array.getElem?_eq_some_iff.1 hgp).1 hbel.size
 have hgrl : gr < wn.heap.size := Nat.lt_of_lt_of_le (Array.getElem?_eq_some_iff.1 hgr).1 hbel.size
 have hg8l : g1 < wn.heap.size := Nat.lt_of_lt_of_le (Array.getElem?_eq_some_iff.1 hg8).1 hbel.size
 have hbyt2 : Lib.Bytes w5 H 0 s := by intro i hi; rw [World.cell?_of_block (w := wn) (hbw5.block H hHl)]; exact hbyt i hi
 have hle := hG.le
 have hd := decodeNN kk hw st (n := s.size) w5 (hG.below hS.toBelow) hr hbyt2 rfl hc (by omega) (by omega) (Nat.lt_of_lt_of_le hHl hbw5.size) hs (by omega) (by omega) (by omega) hgpx hgrx hpr (by omega) (by omega)
 replace hS : Sv 57 ((50, .bool st) :: (49, .iface 62 (pt r 0)) :: (48, pt r 0) :: (47, .slice (some ⟨H, 0, none⟩) s.size c) :: (46, .string s) :: (45, pt gp 0) :: (43, .bool false) :: (10, pt gp 0) :: (32, .bool false) :: (9, .bool false) :: (8, pt g1 0) :: (0, .string s) :: (1, .int .i64 0) :: (2, .int .i64 4) :: (3, .bool st) :: []) [⟨g1, #[.float .f64 0, .int .u64 0, .slice none 0 0, .string ⟨#[]⟩, .bool false, .bool false, .int .i64 0, .int .u64 0, .float .f64 0, .bool false, .int .i64 0, .slice none 0 0, .slice none 0 0, .int .i64 0], 40, true⟩] (fun _ => False) w a w5 := (hS.mask [false, false, true]).pick rfl
 refine sv_callo (X := fun q => q = r ∨ q = gp ∨ q = gr) (S := fun ev w' => ((st = true ∧ kk < 5) ∧ IsErr ev) ∨ (¬ (st = true ∧ kk < 5) ∧ ev = .nilIface ∧ ∃ gs, gp < gs ∧ StJ kk gp gr gs 7 w')) hS rfl rfl (by decide) (ex_call3 cf_m3u8_MediaPlaylist_DecodeFrom (hS.get 45 rfl) (hS.get 49 rfl) (hS.get 50 rfl)) hd (by intro q hq; cases List.mem_singleton.1 hq; rintro (h | h | h); (· exact absurd (show g1 = r from h) (by omega)); (· exact hn8p h); (· exact hn8r h)) (fun q hq hlt => by rcases hq with rfl | rfl | rfl <;> omega) ?_
 intro a ev w6 hres hO hS
 refine sv_r (v := ev) hS (ex_as (hS.get 51 rfl)) fun a hS => ?_
 refine wpList_nil ?_
 replace hS := hS.cut [12, 43, 10, 32, 9, 8, 0, 1, 2]
 rcases hres with ⟨hsb, ⟨et, eN, rfl⟩⟩ | ⟨hsb, rfl, gs, hgs, hst⟩
 ·show Code.wp _ _ _ _ _
  refine wp_seq ?_
  refine wp_region_lit ?_
  refine sv_r (v := .iface et (pt eN 0)) hS (ex_mv (hS.get 12 rfl)) fun a hS => ?_
  refine sv_r (v := .bool true) hS (ex_ifne (hS.get 52 rfl)) fun a hS => ?_
  refine wpList_nil ?_
  replace hS : Sv 57 ((53, .bool true) :: (43, .bool false) :: (10, pt gp 0) :: (32, .bool false) :: (9, .bool false) :: (8, pt g1 0) :: (0, .string s) :: (1, .int .i64 0) :: (2, .int .i64 4) :: []) [⟨g1, #[.float .f64 0, .int .u64 0, .slice none 0 0, .string ⟨#[]⟩, .bool false, .bool false, .int .i64 0, .int .u64 0, .float .f64 0, .bool false, .int .i64 0, .slice none 0 0, .slice none 0 0, .int .i64 0], 40, true⟩] (fun _ => False) w a w6 := hS.pick rfl
  show Code.wp _ _ _ _ _
  refine cond_t (hS.get 53 rfl) ?_
  refine wp_seq ?_
  refine wp_region_lit ?_
  refine sv_r (v := .agg zmc) hS (by unfold zmc; simp only [execOp, List.map_toArray, List.map_nil]; go_simp) fun a hS => ?_
  refine sv_sb (i := 0) (m' := [⟨g1, zmc, 40, true⟩]) hS ag_impl_Media (hS.get 8 rfl) (hS.get 54 rfl) rfl rfl rfl zmc_one rfl ?_
  intro w6 hty hS
  refine sv_r (v := .bool false) hS ex_ac fun a hS => ?_
  refine wpList_nil ?_
  replace hS := hS.cut [9, 53, 43, 10, 32, 8, 0, 1, 2]
  show Code.wp _ _ _ _ _
  refine wp_ret ?_
  try simp only [Exit.inBlock, Exit.then]
  exact ret_cell_tmp hS.ev rfl ag_impl_Media (hS.get 8 rfl) (hS.at 0 rfl) rfl (hS.get 9 rfl) ⟨_, rfl, hS.toBelow, .inl ⟨hsb, rfl⟩⟩
 ·obtain ⟨⟨hgp6, _⟩, sg, hsg, hgr6, hsg6⟩ := hst
  show Code.wp _ _ _ _ _
  refine wp_seq ?_
  refine wp_region_lit ?_
  refine sv_r (v := .nilIface) hS (ex_mv (hS.get 12 rfl)) fun a hS => ?_
  refine sv_r (v := .bool false) hS (ex_ine eqi_error (hS.get 52 rfl)) fun a hS => ?_
  refine wpList_nil ?_
  replace hS : Sv 57 ((53, .bool false) :: (43, .bool false) :: (10, pt gp 0) :: (32, .bool false) :: (9, .bool false) :: (8, pt g1 0) :: (0, .string s) :: (1, .int .i64 0) :: (2, .int .i64 4) :: []) [⟨g1, #[.float .f64 0, .int .u64 0, .slice none 0 0, .string ⟨#[]⟩, .bool false, .bool false, .int .i64 0, .int .u64 0, .float .f64 0, .bool false, .int .i64 0, .slice none 0 0, .slice none 0 0, .int .i64 0], 40, true⟩] (fun _ => False) w a w6 := hS.pick rfl
  show Code.wp _ _ _ _ _
  refine cond_f (hS.get 53 rfl) ?_
  refine wp_skip ?_
  show Code.wp _ _ _ _ _
  refine wp_seq ?_
  refine wp_region_lit ?_
  refine sv_r (v := pt gp 0) hS (ex_mv (hS.get 10 rfl)) fun a hS => ?_
  have hlt := hS.lt
  have hsz := hS.size
  refine sv_call (S := fun v w' => ∃ p c, v = .agg (mcs (tgt2 (tgN kk) (duN kk)) (sqN kk) (dqN kk) 3 (.slice p 1 c))) hS rfl rfl (by decide) (ex_call1 cf_impl_mediaOf (hS.get 55 rfl)) (mediaOf1 (by decide) (by decide) (by decide) w6 hgp6 hgr6 rfl hsg6 hpr) ?_
  rintro a _ w7 ⟨p, c6, rfl⟩ hbw7 hS
  refine sv_sb (i := 0) (m' := [⟨g1, (mcs (tgt2 (tgN kk) (duN kk)) (sqN kk) (dqN kk) 3 (.slice p 1 c6)), 40, true⟩]) hS ag_impl_Media (hS.get 8 rfl) (hS.get 56 rfl) rfl rfl rfl (mcs_one _ _ _ _ _ _ _) rfl ?_
  intro w8 hty hS
  refine sv_r (v := .bool true) hS ex_ac fun a hS => ?_
  refine wpList_nil ?_
  replace hS := hS.cut [9, 53, 43, 10, 32, 8, 0, 1, 2]
  show Code.wp _ _ _ _ _
  refine wp_ret ?_
  try simp only [Exit.inBlock, Exit.then]
  exact ret_cell_tmp hS.ev rfl ag_impl_Media (hS.get 8 rfl) (hS.at 0 rfl) rfl (hS.get 9 rfl) ⟨_, rfl, hS.toBelow, .inr ⟨hsb, _, _, _, p, c6, rfl⟩⟩
end Go.Proofs.YtflppablgdegcaaGreatDoor
