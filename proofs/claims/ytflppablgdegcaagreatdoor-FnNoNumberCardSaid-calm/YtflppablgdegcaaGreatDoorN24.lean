/- Joined: Io, Sn. -/
import Derived.Test.YtflppablgdegcaaGreatDoorN23
/- impl.inOrder of a playlist with one segment. -/
set_option maxRecDepth 100000
set_option maxHeartbeats 8000000
namespace Go.Proofs.YtflppablgdegcaaGreatDoor
open Go.RowKit
theorem cv_int_uint (n : Int) {z : Int} (h : IntKind.u64.wrap n = z) : Cv 3 48 (.int .i64 n) (.int .u64 z) := by subst h; intro w; go_simp
def ptL (g : Nat) : List Value := [pt g 0]
theorem inOrder1 {gp gr sg tgt seq disc ver cap tail : Nat} {Rc : Array Value} (hc0 : 0 < cap) (hcap : cap ≤ 100000) (w : World) (hp : w.heap[gp]? = some (.cells (pcs tgt seq disc ver (.slice (some ⟨gr, 0, none⟩) cap cap) cap tail 1) 88 (0, 0))) (hr : w.heap[gr]? = some (.cells Rc 125 (0, 0))) (hr0 : Rc[0]? = some (pt sg 0)) (hne : gp ≠ gr) : Calls Tryz.prog 38 #[pt gp 0] w fun e w' => ∃ v, e = .returned v ∧ Below w.heap.size w w' ∧ Own ptL 125 1 w' w.heap.size v [sg] := by
 refine calls_of_ev Tryz.func38 rfl (show 1 ≤ 39 from by decide) ?_
 intro a hE
 have hE : Ev 39 ((0, pt gp 0) :: []) a := hE
 have hS : Sv 39 ((0, pt gp 0) :: []) [] (fun _ => False) w a w := Sv.start hE _ _
 clear hE
 replace hS : Sv 39 ((0, pt gp 0) :: []) [⟨gr, Rc, 125, false⟩, ⟨gp, (pcs tgt seq disc ver (.slice (some ⟨gr, 0, none⟩) cap cap) cap tail 1), 88, false⟩] (fun _ => False) w a w := ((hS.addR hp (by intro q hq; cases hq)).addR hr (by intro q hq; cases List.mem_singleton.1 hq; exact hne)).pick rfl
 refine wp_seq ?_
 refine wp_region_lit ?_
 refine sv_r (v := .slice none 0 0) hS ex_ac fun a hS => ?_
 refine wpList_nil ?_
 replace hS := hS.cut [2, 0]
 show Code.wp _ _ _ _ _
 refine wp_seq ?_
 refine wp_region_lit ?_
 refine sv_r (v := pt gp 0) hS (ex_mv (hS.get 0 rfl)) fun a hS => ?_
 refine sv_callv (v := .tuple #[.int .u64 0, .int .u64 ((tail : Nat) : Int), .int .u64 ((1 : Nat) : Int)]) hS rfl rfl (by decide) (ex_call1 cf_m3u8_MediaPlaylist_ZZHead (hS.get 9 rfl)) (head_any _ (hS.at 1 rfl)) ?_
 intro a w1 hbw1 hS
 refine sv_r (v := .tuple #[.int .u64 0, .int .u64 ((tail : Nat) : Int), .int .u64 ((1 : Nat) : Int)]) hS (ex_mv (hS.get 10 rfl)) fun a hS => ?_
 refine sv_r (v := .int .u64 0) hS (ei_ext (hS.get 8 rfl) rfl) fun a hS => ?_
 refine sv_r (v := .int .u64 ((tail : Nat) : Int)) hS (ei_ext (hS.get 8 rfl) rfl) fun a hS => ?_
 refine sv_r (v := .int .u64 1) hS (ei_ext (hS.get 8 rfl) rfl) fun a hS => ?_
 refine sv_r (v := .int .u64 0) hS (ex_as (hS.get 11 rfl)) fun a hS => ?_
 refine sv_r (v := .int .u64 ((tail : Nat) : Int)) hS (ex_as (hS.get 12 rfl)) fun a hS => ?_
 refine sv_r (v := .int .u64 1) hS (ex_as (hS.get 13 rfl)) fun a hS => ?_
 refine wpList_nil ?_
 replace hS := hS.cut [5, 3, 2, 0]
 show Code.wp _ _ _ _ _
 refine wp_seq ?_
 refine wp_region_lit ?_
 refine sv_r (v := .slice none 0 0) hS ex_ac fun a hS => ?_
 refine wpList_nil ?_
 replace hS : Sv 39 ((6, .slice none 0 0) :: (5, .int .u64 1) :: (3, .int .u64 0) :: (2, .slice none 0 0) :: (0, pt gp 0) :: []) [⟨gr, Rc, 125, false⟩, ⟨gp, (pcs tgt seq disc ver (.slice (some ⟨gr, 0, none⟩) cap cap) cap tail 1), 88, false⟩] (fun _ => False) w a w1 := hS.pick rfl
 show Code.wp _ _ _ _ _
 refine wp_seq ?_
 refine wp_seq ?_
 refine wp_region_lit ?_
 refine sv_r (v := .int .u64 0) hS ex_ac fun a hS => ?_
 refine wpList_nil ?_
 replace hS := hS.cut [7, 6, 5, 3, 2, 0]
 show Code.wp _ _ _ _ _
 refine wp_block ?_
 refine wp_loop (fun a w' => ∃ (i : Nat) (lv : Value) (LL : List Nat), ((i = 0 ∧ LL = []) ∨ (i = 1 ∧ LL = [sg])) ∧ Own ptL 125 1 w' w.heap.size lv LL ∧ Sv 39 ((6, lv) :: (7, .int .u64 ((i : Nat) : Int)) :: (3, .int .u64 0) :: (5, .int .u64 1) :: (0, pt gp 0) :: []) [⟨gr, Rc, 125, false⟩, ⟨gp, (pcs tgt seq disc ver (.slice (some ⟨gr, 0, none⟩) cap cap) cap tail 1), 88, false⟩] (fun _ => False) w a w') (fun a _ => 2 - (intOf (a.eval (.tmp 7))).toNat) ⟨0, .slice none 0 0, [], .inl ⟨rfl, rfl⟩, Own.nil _ _ _ _ _, hS.pick rfl⟩ ?_
 clear hS
 rintro a w5 ⟨i, lv, LL, hinv, ho, hS⟩
 have h7 := hS.get 7 rfl
 rcases hinv with ⟨rfl, rfl⟩ | ⟨rfl, rfl⟩
 ·refine wp_seq ?_
  refine wp_seq ?_
  refine wp_region_lit ?_
  refine sv_r (v := .int .u64 0) hS (ex_mv (hS.get 7 rfl)) fun a hS => ?_
  refine sv_r (v := .int .u64 1) hS (ex_mv (hS.get 5 rfl)) fun a hS => ?_
  refine sv_r (v := .bool true) hS (ei_lss (hS.get 14 rfl) (hS.get 15 rfl) (by decide)) fun a hS => ?_
  refine wpList_nil ?_
  replace hS := hS.cut [16, 6, 7, 3, 5, 0]
  show Code.wp _ _ _ _ _
  refine cond_t (hS.get 16 rfl) ?_
  refine wp_skip ?_
  show Code.wp _ _ _ _ _
  refine wp_seq ?_
  refine wp_block ?_
  refine wp_region_og1 (n := 39) 18 [Asr.eq (lv), Asr.eq (pt gp 0), Asr.eq (pt gp 0), Asr.eq (pt gp 2), Asr.eq (.slice (some ⟨gr, 0, none⟩) cap cap), Asr.eq (.int .u64 0), Asr.eq (.int .u64 0), Asr.eq (.int .u64 0), Asr.eq (pt gp 0), Asr.eq (pt gp 0), Asr.eq (pt gp 2), Asr.eq (.slice (some ⟨gr, 0, none⟩) cap cap), Asr.eq (.int .i64 ((cap : Nat) : Int)), Asr.eq (.int .u64 ((cap : Nat) : Int)), Asr.eq (.int .u64 0), Asr.eq (pt gr 0), Asr.eq (pt sg 0), Asr.any (fun v w' => ∃ g, v = .slice (some ⟨g, 0, none⟩) 1 1 ∧ w'.heap[g]? = some (.cells #[pt sg 0] 125 (0, 0)))] (by kernel_rfl) (by kernel_rfl) (by kernel_rfl) (by simp) (by kernel_rfl) hS.ev.size ⟨(fun i _ _ v w w' _ ho hp => by obtain ⟨g, h1, h2⟩ := hp; exact ⟨g, h1, hp_below h2 (only_below0 ho)⟩), ⟨⟩⟩ ?_ ?_
  ·simp only [List.take_succ_cons, List.take_zero]
   refine ⟨?_, ?_, ?_, ?_, ?_, ?_, ?_, ?_, ?_, ?_, ?_, ?_, ?_, ?_, ?_, ?_, ?_, ?_, trivial⟩
   ·intro a wx c
    have e_6 : a.eval (.tmp 6) = lv := c.outE (by decide +kernel) (hS.get 6 rfl)
    clear c
    exact og_val (ex_mv e_6) rfl
   ·intro a wx c
    have e_0 : a.eval (.tmp 0) = pt gp 0 := c.outE (by decide +kernel) (hS.get 0 rfl)
    clear c
    exact og_val (ex_mv e_0) rfl
   ·intro a wx c
    have e_20 : a.eval (.tmp 20) = pt gp 0 := c.slot 1 _ (by decide +kernel) rfl
    clear c
    exact og_val (ex_nc e_20) rfl
   ·intro a wx c
    have e_21 : a.eval (.tmp 21) = pt gp 0 := c.slot 2 _ (by decide +kernel) rfl
    clear c
    exact og_val (ex_fo e_21 fo_m3u8_MediaPlaylist_2 rfl) rfl
   ·intro a wx c
    have e_22 : a.eval (.tmp 22) = pt gp 2 := c.slot 3 _ (by decide +kernel) rfl
    have hO := hS.ogc c
    clear c
    exact og_val (ex_ld e_22 lt_sl_p_m3u8_MediaSegment (cell_of_heap (v := .slice (some ⟨gr, 0, none⟩) cap cap) (hO.at 1 rfl) rfl)) rfl
   ·intro a wx c
    have e_3 : a.eval (.tmp 3) = .int .u64 0 := c.outE (by decide +kernel) (hS.get 3 rfl)
    clear c
    exact og_val (ex_mv e_3) rfl
   ·intro a wx c
    have e_7 : a.eval (.tmp 7) = .int .u64 0 := c.outE (by decide +kernel) (hS.get 7 rfl)
    clear c
    exact og_val (ex_mv e_7) rfl
   ·intro a wx c
    have e_24 : a.eval (.tmp 24) = .int .u64 0 := c.slot 5 _ (by decide +kernel) rfl
    have e_25 : a.eval (.tmp 25) = .int .u64 0 := c.slot 6 _ (by decide +kernel) rfl
    clear c
    exact og_val (v := .int .u64 0) (ei_add e_24 e_25 (by decide)) rfl
   ·intro a wx c
    have e_0 : a.eval (.tmp 0) = pt gp 0 := c.outE (by decide +kernel) (hS.get 0 rfl)
    clear c
    exact og_val (ex_mv e_0) rfl
   ·intro a wx c
    have e_27 : a.eval (.tmp 27) = pt gp 0 := c.slot 8 _ (by decide +kernel) rfl
    clear c
    exact og_val (ex_nc e_27) rfl
   ·intro a wx c
    have e_28 : a.eval (.tmp 28) = pt gp 0 := c.slot 9 _ (by decide +kernel) rfl
    clear c
    exact og_val (ex_fo e_28 fo_m3u8_MediaPlaylist_2 rfl) rfl
   ·intro a wx c
    have e_29 : a.eval (.tmp 29) = pt gp 2 := c.slot 10 _ (by decide +kernel) rfl
    have hO := hS.ogc c
    clear c
    exact og_val (ex_ld e_29 lt_sl_p_m3u8_MediaSegment (cell_of_heap (v := .slice (some ⟨gr, 0, none⟩) cap cap) (hO.at 1 rfl) rfl)) rfl
   ·intro a wx c
    have e_30 : a.eval (.tmp 30) = .slice (some ⟨gr, 0, none⟩) cap cap := c.slot 11 _ (by decide +kernel) rfl
    clear c
    exact og_val (ex_lenS (E := 125) Tryz.underlying79 e_30) rfl
   ·intro a wx c
    have e_31 : a.eval (.tmp 31) = .int .i64 ((cap : Nat) : Int) := c.slot 12 _ (by decide +kernel) rfl
    clear c
    exact og_val (ex_cv e_31 (cv_int_uint _ (by rw [IntKind.wrap_u64]; omega))) rfl
   ·intro a wx c
    have e_26 : a.eval (.tmp 26) = .int .u64 0 := c.slot 7 _ (by decide +kernel) rfl
    have e_32 : a.eval (.tmp 32) = .int .u64 ((cap : Nat) : Int) := c.slot 13 _ (by decide +kernel) rfl
    clear c
    have e : 0 % cap = 0 := Nat.zero_mod _
    exact og_val (v := .int .u64 ((0 : Nat) : Int)) (ni_rem' (n := 0) cap e_26 e_32 (by omega) e) rfl
   ·intro a wx c
    have e_23 : a.eval (.tmp 23) = .slice (some ⟨gr, 0, none⟩) cap cap := c.slot 4 _ (by decide +kernel) rfl
    have e_33 : a.eval (.tmp 33) = .int .u64 0 := c.slot 14 _ (by decide +kernel) rfl
    clear c
    exact og_val (ex_ia1 (E := 125) (i := 0) Tryz.underlying79 Tryz.sizeOf125 e_23 e_33 (by omega)) rfl
   ·intro a wx c
    have e_34 : a.eval (.tmp 34) = pt gr 0 := c.slot 15 _ (by decide +kernel) rfl
    have hO := hS.ogc c
    have hO := hS.ogc c
    clear c
    exact og_val (ex_ld e_34 lt_p_m3u8_MediaSegment (cell_of_heap (v := pt sg 0) (hO.at 0 rfl) hr0)) rfl
   ·intro a wx c
    have e_35 : a.eval (.tmp 35) = pt sg 0 := c.slot 16 _ (by decide +kernel) rfl
    clear c
    exact og_ext (v := .slice (some ⟨wx.heap.size, 0, none⟩) 1 1) (w' := wx.alloc (.cells #[pt sg 0] 125)) (by simp only [execOp, List.map_toArray, List.map_cons, List.map_nil, e_35]; go_simp) ((Below.refl _ _).alloc (Nat.le_refl _) _) ⟨_, rfl, heap_alloc_new _ _⟩
  ·intro a w10 c hbw10
   replace ho := ho.ty (TyOnly.of_below (ts := []) hbw10) (by decide)
   obtain ⟨g9, e_36, hxg9⟩ : ∃ g, (a.eval (.tmp 36)) = .slice (some ⟨g, 0, none⟩) 1 1 ∧ w10.heap[g]? = some (.cells #[pt sg 0] 125 (0, 0)) := c.slot 17 _ (by decide +kernel) rfl
   replace hS : Sv 39 ((36, .slice (some ⟨g9, 0, none⟩) 1 1) :: (19, lv) :: (0, pt gp 0) :: (5, .int .u64 1) :: (3, .int .u64 0) :: (7, .int .u64 0) :: (6, lv) :: (16, .bool true) :: []) [⟨gr, Rc, 125, false⟩, ⟨gp, (pcs tgt seq disc ver (.slice (some ⟨gr, 0, none⟩) cap cap) cap tail 1), 88, false⟩] (fun _ => False) w a w10 := (((((((((hS.ogh c).know (c.outE (by decide +kernel) (hS.get 16 rfl))).know (c.outE (by decide +kernel) (hS.get 6 rfl))).know (c.outE (by decide +kernel) (hS.get 7 rfl))).know (c.outE (by decide +kernel) (hS.get 3 rfl))).know (c.outE (by decide +kernel) (hS.get 5 rfl))).know (c.outE (by decide +kernel) (hS.get 0 rfl))).know (c.slot 0 _ (by decide +kernel) rfl)).know e_36)
   clear c
   simp only [List.drop_succ_cons, List.drop_zero]
   replace hS : Sv 39 ((36, .slice (some ⟨g9, 0, none⟩) 1 1) :: (19, lv) :: (0, pt gp 0) :: (5, .int .u64 1) :: (3, .int .u64 0) :: (7, .int .u64 0) :: (6, lv) :: (16, .bool true) :: []) [⟨gp, (pcs tgt seq disc ver (.slice (some ⟨gr, 0, none⟩) cap cap) cap tail 1), 88, false⟩] (fun _ => False) w a w10 := (hS.mask [false, true]).pick rfl
   refine sv_append (f := ptL) (L := ([] : List Nat)) sli_sl_p_m3u8_MediaSegment (by decide) (fun _ => rfl) [sg] hS (hS.get 19 rfl) (hS.get 36 rfl) hxg9 rfl rfl (by intro y hy u hu; simp only [ptL, List.mem_cons, List.not_mem_nil, or_false] at hu; subst hu; rfl) ho rfl (by decide) (by decide) (by decide) ?_
   intro a lv2 w11 hty ho2 hS
   replace hS : Sv 39 ((37, lv2) :: (36, .slice (some ⟨g9, 0, none⟩) 1 1) :: (19, lv) :: (0, pt gp 0) :: (5, .int .u64 1) :: (3, .int .u64 0) :: (7, .int .u64 0) :: (6, lv) :: (16, .bool true) :: []) [⟨gr, Rc, 125, false⟩, ⟨gp, (pcs tgt seq disc ver (.slice (some ⟨gr, 0, none⟩) cap cap) cap tail 1), 88, false⟩] (fun _ => False) w a w11 := (hS.addR ((hS.toBelow.block gr (Array.getElem?_eq_some_iff.1 hr).1).trans hr) (by intro q hq; cases List.mem_singleton.1 hq; exact hne)).pick rfl
   refine sv_r (v := lv2) hS (ex_as (hS.get 37 rfl)) fun a hS => ?_
   refine wpList_nil ?_
   replace hS : Sv 39 ((6, lv2) :: (0, pt gp 0) :: (5, .int .u64 1) :: (3, .int .u64 0) :: (7, .int .u64 0) :: (16, .bool true) :: []) [⟨gr, Rc, 125, false⟩, ⟨gp, (pcs tgt seq disc ver (.slice (some ⟨gr, 0, none⟩) cap cap) cap tail 1), 88, false⟩] (fun _ => False) w a w11 := hS.pick rfl
   show Code.wp _ _ _ _ _
   refine wp_region_lit ?_
   refine sv_r (v := .int .u64 0) hS (ex_mv (hS.get 7 rfl)) fun a hS => ?_
   refine sv_r (v := .int .u64 ((0 + 1 : Nat) : Int)) hS (ei_add (hS.get 17 rfl) rfl (by rw [IntKind.wrap_u64]; omega)) fun a hS => ?_
   refine sv_r (v := .int .u64 ((0 + 1 : Nat) : Int)) hS (ex_as (hS.get 18 rfl)) fun a hS => ?_
   refine wpList_nil ?_
   replace hS := hS.cut [7, 6, 0, 5, 3, 16]
   refine ⟨⟨1, lv2, _, .inr ⟨rfl, rfl⟩, ho2, hS.pick rfl⟩, ?_⟩
   have h7' := hS.get 7 rfl
   rw [h7, h7']
   decide
 ·refine wp_seq ?_
  refine wp_seq ?_
  refine wp_region_lit ?_
  refine sv_r (v := .int .u64 1) hS (ex_mv (hS.get 7 rfl)) fun a hS => ?_
  refine sv_r (v := .int .u64 1) hS (ex_mv (hS.get 5 rfl)) fun a hS => ?_
  refine sv_r (v := .bool false) hS (ei_lss (hS.get 14 rfl) (hS.get 15 rfl) (by decide)) fun a hS => ?_
  refine wpList_nil ?_
  replace hS := hS.cut [16, 6, 7, 3, 5, 0]
  show Code.wp _ _ _ _ _
  refine cond_f (hS.get 16 rfl) ?_
  refine wp_exit ?_
  show Code.wp _ _ _ _ _
  refine wp_seq ?_
  refine wp_region_lit ?_
  refine sv_r (v := lv) hS (ex_mv (hS.get 6 rfl)) fun a hS => ?_
  refine sv_r (v := lv) hS (ex_as (hS.get 38 rfl)) fun a hS => ?_
  refine wpList_nil ?_
  replace hS : Sv 39 ((2, lv) :: (16, .bool false) :: (6, lv) :: (7, .int .u64 1) :: (3, .int .u64 0) :: (5, .int .u64 1) :: (0, pt gp 0) :: []) [⟨gr, Rc, 125, false⟩, ⟨gp, (pcs tgt seq disc ver (.slice (some ⟨gr, 0, none⟩) cap cap) cap tail 1), 88, false⟩] (fun _ => False) w a w5 := hS.pick rfl
  show Code.wp _ _ _ _ _
  refine wp_ret ?_
  try simp only [Exit.inBlock, Exit.then]
  exact ret_of_ev hS.ev rfl (hS.get 2 rfl) ⟨_, rfl, hS.toBelow, ho⟩
end Go.Proofs.YtflppablgdegcaaGreatDoor
/- impl.segmentsOf of one segment. -/
set_option maxRecDepth 100000
set_option maxHeartbeats 8000000
namespace Go.Proofs.YtflppablgdegcaaGreatDoor
open Go.RowKit
structure Sgi where
 seq : Nat
 title : ByteArray
 uri : ByteArray
 dur : Nat
def sgL (x : Sgi) : List Value := [.int .u64 (x.seq : Int), .string x.title, .string x.uri, .float .f64 x.dur, .int .i64 0, .int .i64 0, .slice none 0 0, .slice none 0 0, .slice none 0 0, .bool false, .string ⟨#[]⟩]
theorem sgL_one (x : Sgi) : ∀ u ∈ sgL x, u.oneCell' = true := by
 intro u hu
 simp only [sgL, List.mem_cons, List.not_mem_nil, or_false] at hu
 rcases hu with rfl | rfl | rfl | rfl | rfl | rfl | rfl | rfl | rfl | rfl | rfl <;> rfl
theorem sv_elemP {N : Nat} {l : List (Nat × Value)} {m : List Bk} {M : Nat → Prop} {w0 w : World} {a : Act} {ops : Array Oper} {rest : List Oper} {Q : Exit → Act → World → Prop} {T E s i B n d1 d2 x : Nat} {sv : Value} {L : List Nat} {ty1 ty2 : TypeId} {ps1 ps2 : String} {af1 af2 : Array Edge} (hu : Tryz.prog.underlying T = some (.slice E)) (hz : ∀ w, (sizeOf E).run Tryz.prog w = .ok 1 w) (hL : Ld E) (h : Sv N l m M w0 a w) (ho : Own ptL E 1 w B sv L) (hx : L[n]? = some x) (hs : a.eval (.tmp s) = sv) (hi : a.eval (.tmp i) = .int .i64 n) (h1 : d1 < N) (h2 : d2 < N)
  (hK : ∀ a' p, Sv N ((d2, pt x 0) :: (d1, .pointer p) :: l) m M w0 a' w → wpList Tryz.prog ops Q rest a' w) :
  wpList Tryz.prog ops Q (⟨some d1, .indexAddr T (.tmp s) (.tmp i), ty1, ps1, af1, none⟩ :: ⟨some d2, .load E (.tmp d1), ty2, ps2, af2, none⟩ :: rest) a w := by
 have hlt : n < L.length := (List.getElem?_eq_some_iff.1 hx).1
 obtain ⟨A, cap, hsv, hA0⟩ := ho.shape
 obtain ⟨g, rfl⟩ := hA0 (by intro e; rw [e] at hlt; simp at hlt)
 have hc := Own.cells_at (f := ptL) (fun _ => rfl) Nat.one_pos (hsv ▸ ho) hlt (j := 0) Nat.one_pos
 rw [List.getElem?_eq_getElem hlt] at hx
 rw [Option.some.inj hx] at hc
 refine sv_run (v := .pointer (some ⟨g, n * 1, none⟩)) h rfl rfl h1 ?_ ?_
 ·have h3 := ex_ia (dst := some d1) (ty := ty1) (ps := ps1) (af := af1) (gd := none) (w := w) (i := n) hu hz (hs.trans hsv) hi hlt
  rw [add_block, Nat.zero_add] at h3
  exact h3
 ·intro a' h'
  refine sv_run (v := pt x 0) h' rfl rfl h2 (ex_ld (h'.get d1 look_eq) hL hc) ?_
  intro a2 h2'
  exact hK a2 _ h2'
theorem segsOf1 {sg seq dur Bo : Nat} {title uri : ByteArray} {v0 : Value} (w : World) (hz : w.heap[sg]? = some (.cells (scs seq title uri dur) 127 (0, 0))) (hin : Own ptL 125 1 w Bo v0 [sg]) : Calls Tryz.prog 37 #[v0] w fun e w' => ∃ v, e = .returned v ∧ Below w.heap.size w w' ∧ Own sgL 67 11 w' w.heap.size v [⟨seq, title, uri, dur⟩] := by
 refine calls_of_ev Tryz.func37 rfl (show 1 ≤ 67 from by decide) ?_
 intro a hE
 have hE : Ev 67 ((0, v0) :: []) a := hE
 have hS : Sv 67 ((0, v0) :: []) [] (fun _ => False) w a w := Sv.start hE _ _
 clear hE
 replace hS : Sv 67 ((0, v0) :: []) [⟨sg, (scs seq title uri dur), 127, false⟩] (fun _ => False) w a w := (hS.addR hz (by intro q hq; cases hq)).pick rfl
 refine wp_seq ?_
 refine wp_region_lit ?_
 refine sv_r (v := .slice none 0 0) hS ex_ac fun a hS => ?_
 refine wpList_nil ?_
 replace hS := hS.cut [2, 0]
 show Code.wp _ _ _ _ _
 refine wp_seq ?_
 refine wp_region_lit ?_
 refine sv_r (v := .slice none 0 0) hS ex_ac fun a hS => ?_
 refine wpList_nil ?_
 replace hS := hS.cut [3, 2, 0]
 show Code.wp _ _ _ _ _
 refine wp_seq ?_
 refine wp_seq ?_
 refine wp_region_lit ?_
 refine sv_r (v := v0) hS (ex_mv (hS.get 0 rfl)) fun a hS => ?_
 refine sv_r (v := .int .i64 (([sg].length : Nat) : Int)) hS (ex_lenO Tryz.underlying79 (hS.get 6 rfl) hin) fun a hS => ?_
 refine sv_r (v := .int .i64 0) hS ex_mc fun a hS => ?_
 refine wpList_nil ?_
 replace hS : Sv 67 ((8, .int .i64 0) :: (7, .int .i64 (([sg].length : Nat) : Int)) :: (6, v0) :: (3, .slice none 0 0) :: (2, .slice none 0 0) :: (0, v0) :: []) [⟨sg, (scs seq title uri dur), 127, false⟩] (fun _ => False) w a w := hS.pick rfl
 show Code.wp _ _ _ _ _
 refine wp_block ?_
 refine wp_loop (fun a w' => ∃ (i : Nat) (lv : Value) (LL : List Sgi), ((i = 0 ∧ LL = []) ∨ (i = 1 ∧ LL = [⟨seq, title, uri, dur⟩])) ∧ Own sgL 67 11 w' w.heap.size lv LL ∧ Own ptL 125 1 w' Bo v0 [sg] ∧ Sv 67 ((3, lv) :: (6, v0) :: (7, .int .i64 1) :: (8, .int .i64 ((i : Nat) : Int)) :: []) [⟨sg, (scs seq title uri dur), 127, false⟩] (fun _ => False) w a w') (fun a _ => 2 - (intOf (a.eval (.tmp 8))).toNat) ⟨0, .slice none 0 0, [], .inl ⟨rfl, rfl⟩, Own.nil _ _ _ _ _, hin, hS.pick rfl⟩ ?_
 clear hS hin
 rintro a w5 ⟨i, lv, LL, hinv, ho, hin, hS⟩
 have h8 := hS.get 8 rfl
 rcases hinv with ⟨rfl, rfl⟩ | ⟨rfl, rfl⟩
 ·refine wp_seq ?_
  refine wp_region_lit ?_
  refine sv_r (v := .bool true) hS (ei_lss (hS.get 8 rfl) (hS.get 7 rfl) (by decide)) fun a hS => ?_
  refine wpList_nil ?_
  replace hS := hS.cut [9, 3, 6, 7, 8]
  show Code.wp _ _ _ _ _
  refine wp_seq ?_
  refine cond_t (hS.get 9 rfl) ?_
  refine wp_skip ?_
  show Code.wp _ _ _ _ _
  refine wp_seq ?_
  refine wp_block ?_
  refine wp_seq ?_
  refine wp_region_lit ?_
  refine sv_elemP Tryz.underlying79 Tryz.sizeOf125 lt_p_m3u8_MediaSegment hS hin (n := 0) rfl (hS.get 6 rfl) (hS.get 8 rfl) (by decide) (by decide) ?_
  intro a p hS
  refine sv_r (v := pt sg 0) hS (ex_as (hS.get 11 rfl)) fun a hS => ?_
  refine wpList_nil ?_
  replace hS := hS.cut [5, 9, 3, 6, 7, 8]
  show Code.wp _ _ _ _ _
  refine wp_seq ?_
  refine wp_seq ?_
  refine wp_region_lit ?_
  refine sv_r (v := pt sg 0) hS (ex_mv (hS.get 5 rfl)) fun a hS => ?_
  refine sv_r (v := .bool false) hS (ex_pe eqp_p_m3u8_MediaSegment (hS.get 12 rfl)) fun a hS => ?_
  refine wpList_nil ?_
  replace hS : Sv 67 ((13, .bool false) :: (5, pt sg 0) :: (9, .bool true) :: (3, lv) :: (6, v0) :: (7, .int .i64 1) :: (8, .int .i64 0) :: []) [⟨sg, (scs seq title uri dur), 127, false⟩] (fun _ => False) w a w5 := hS.pick rfl
  show Code.wp _ _ _ _ _
  refine cond_f (hS.get 13 rfl) ?_
  refine wp_skip ?_
  show Code.wp _ _ _ _ _
  refine wp_region_og1 (n := 67) 50 [Asr.eq (lv), Asr.eq (pt sg 0), Asr.eq (pt sg 0), Asr.eq (pt sg 0), Asr.eq (.int .u64 ((seq : Nat) : Int)), Asr.eq (pt sg 0), Asr.eq (pt sg 0), Asr.eq (pt sg 1), Asr.eq (.string title), Asr.eq (pt sg 0), Asr.eq (pt sg 0), Asr.eq (pt sg 2), Asr.eq (.string uri), Asr.eq (pt sg 0), Asr.eq (pt sg 0), Asr.eq (pt sg 3), Asr.eq (.float .f64 (dur)), Asr.eq (pt sg 0), Asr.eq (pt sg 0), Asr.eq (pt sg 4), Asr.eq (.int .i64 0), Asr.eq (pt sg 0), Asr.eq (pt sg 0), Asr.eq (pt sg 5), Asr.eq (.int .i64 0), Asr.eq (pt sg 0), Asr.eq (pt sg 0), Asr.eq (pt sg 6), Asr.eq (.pointer none), Asr.eq (.slice none 0 0), Asr.eq (pt sg 0), Asr.eq (pt sg 0), Asr.eq (pt sg 7), Asr.eq (.pointer none), Asr.eq (.slice none 0 0), Asr.eq (pt sg 0), Asr.eq (pt sg 0), Asr.eq (pt sg 9), Asr.eq (.pointer none), Asr.eq (.slice none 0 0), Asr.eq (pt sg 0), Asr.eq (pt sg 0), Asr.eq (pt sg 8), Asr.eq (.bool false), Asr.eq (pt sg 0), Asr.eq (pt sg 0), Asr.eq (pt sg 10), Asr.eq (.string (⟨#[]⟩)), Asr.eq (.agg #[.int .u64 ((seq : Nat) : Int), .string title, .string uri, .float .f64 (dur), .int .i64 0, .int .i64 0, .slice none 0 0, .slice none 0 0, .slice none 0 0, .bool false, .string (⟨#[]⟩)]), Asr.any (fun v w' => ∃ g, v = .slice (some ⟨g, 0, none⟩) 1 1 ∧ w'.heap[g]? = some (.cells #[.int .u64 ((seq : Nat) : Int), .string title, .string uri, .float .f64 (dur), .int .i64 0, .int .i64 0, .slice none 0 0, .slice none 0 0, .slice none 0 0, .bool false, .string (⟨#[]⟩)] 67 (0, 0)))] (by kernel_rfl) (by kernel_rfl) (by kernel_rfl) (by simp) (by kernel_rfl) hS.ev.size ⟨(fun i _ _ v w w' _ ho hp => by obtain ⟨g, h1, h2⟩ := hp; exact ⟨g, h1, hp_below h2 (only_below0 ho)⟩), ⟨⟩⟩ ?_ ?_
  ·simp only [List.take_succ_cons, List.take_zero]
   refine ⟨?_, ?_, ?_, ?_, ?_, ?_, ?_, ?_, ?_, ?_, ?_, ?_, ?_, ?_, ?_, ?_, ?_, ?_, ?_, ?_, ?_, ?_, ?_, ?_, ?_, ?_, ?_, ?_, ?_, ?_, ?_, ?_, ?_, ?_, ?_, ?_, ?_, ?_, ?_, ?_, ?_, ?_, ?_, ?_, ?_, ?_, ?_, ?_, ?_, ?_, trivial⟩
   ·intro a wx c
    have e_3 : a.eval (.tmp 3) = lv := c.outE (by decide +kernel) (hS.get 3 rfl)
    clear c
    exact og_val (ex_mv e_3) rfl
   ·intro a wx c
    have e_5 : a.eval (.tmp 5) = pt sg 0 := c.outE (by decide +kernel) (hS.get 5 rfl)
    clear c
    exact og_val (ex_mv e_5) rfl
   ·intro a wx c
    have e_15 : a.eval (.tmp 15) = pt sg 0 := c.slot 1 _ (by decide +kernel) rfl
    clear c
    exact og_val (ex_nc e_15) rfl
   ·intro a wx c
    have e_16 : a.eval (.tmp 16) = pt sg 0 := c.slot 2 _ (by decide +kernel) rfl
    clear c
    exact og_val (ex_fo e_16 fo_m3u8_MediaSegment_0 rfl) rfl
   ·intro a wx c
    have e_17 : a.eval (.tmp 17) = pt sg 0 := c.slot 3 _ (by decide +kernel) rfl
    have hO := hS.ogc c
    clear c
    exact og_val (ex_ld e_17 lt_uint64 (cell_of_heap (v := .int .u64 ((seq : Nat) : Int)) (hO.at 0 rfl) rfl)) rfl
   ·intro a wx c
    have e_5 : a.eval (.tmp 5) = pt sg 0 := c.outE (by decide +kernel) (hS.get 5 rfl)
    clear c
    exact og_val (ex_mv e_5) rfl
   ·intro a wx c
    have e_19 : a.eval (.tmp 19) = pt sg 0 := c.slot 5 _ (by decide +kernel) rfl
    clear c
    exact og_val (ex_nc e_19) rfl
   ·intro a wx c
    have e_20 : a.eval (.tmp 20) = pt sg 0 := c.slot 6 _ (by decide +kernel) rfl
    clear c
    exact og_val (ex_fo e_20 fo_m3u8_MediaSegment_1 rfl) rfl
   ·intro a wx c
    have e_21 : a.eval (.tmp 21) = pt sg 1 := c.slot 7 _ (by decide +kernel) rfl
    have hO := hS.ogc c
    clear c
    exact og_val (ex_ld e_21 lt_string (cell_of_heap (v := .string title) (hO.at 0 rfl) rfl)) rfl
   ·intro a wx c
    have e_5 : a.eval (.tmp 5) = pt sg 0 := c.outE (by decide +kernel) (hS.get 5 rfl)
    clear c
    exact og_val (ex_mv e_5) rfl
   ·intro a wx c
    have e_23 : a.eval (.tmp 23) = pt sg 0 := c.slot 9 _ (by decide +kernel) rfl
    clear c
    exact og_val (ex_nc e_23) rfl
   ·intro a wx c
    have e_24 : a.eval (.tmp 24) = pt sg 0 := c.slot 10 _ (by decide +kernel) rfl
    clear c
    exact og_val (ex_fo e_24 fo_m3u8_MediaSegment_2 rfl) rfl
   ·intro a wx c
    have e_25 : a.eval (.tmp 25) = pt sg 2 := c.slot 11 _ (by decide +kernel) rfl
    have hO := hS.ogc c
    clear c
    exact og_val (ex_ld e_25 lt_string (cell_of_heap (v := .string uri) (hO.at 0 rfl) rfl)) rfl
   ·intro a wx c
    have e_5 : a.eval (.tmp 5) = pt sg 0 := c.outE (by decide +kernel) (hS.get 5 rfl)
    clear c
    exact og_val (ex_mv e_5) rfl
   ·intro a wx c
    have e_27 : a.eval (.tmp 27) = pt sg 0 := c.slot 13 _ (by decide +kernel) rfl
    clear c
    exact og_val (ex_nc e_27) rfl
   ·intro a wx c
    have e_28 : a.eval (.tmp 28) = pt sg 0 := c.slot 14 _ (by decide +kernel) rfl
    clear c
    exact og_val (ex_fo e_28 fo_m3u8_MediaSegment_3 rfl) rfl
   ·intro a wx c
    have e_29 : a.eval (.tmp 29) = pt sg 3 := c.slot 15 _ (by decide +kernel) rfl
    have hO := hS.ogc c
    clear c
    exact og_val (ex_ld e_29 lt_float64 (cell_of_heap (v := .float .f64 (dur)) (hO.at 0 rfl) rfl)) rfl
   ·intro a wx c
    have e_5 : a.eval (.tmp 5) = pt sg 0 := c.outE (by decide +kernel) (hS.get 5 rfl)
    clear c
    exact og_val (ex_mv e_5) rfl
   ·intro a wx c
    have e_31 : a.eval (.tmp 31) = pt sg 0 := c.slot 17 _ (by decide +kernel) rfl
    clear c
    exact og_val (ex_nc e_31) rfl
   ·intro a wx c
    have e_32 : a.eval (.tmp 32) = pt sg 0 := c.slot 18 _ (by decide +kernel) rfl
    clear c
    exact og_val (ex_fo e_32 fo_m3u8_MediaSegment_4 rfl) rfl
   ·intro a wx c
    have e_33 : a.eval (.tmp 33) = pt sg 4 := c.slot 19 _ (by decide +kernel) rfl
    have hO := hS.ogc c
    clear c
    exact og_val (ex_ld e_33 lt_int64 (cell_of_heap (v := .int .i64 0) (hO.at 0 rfl) rfl)) rfl
   ·intro a wx c
    have e_5 : a.eval (.tmp 5) = pt sg 0 := c.outE (by decide +kernel) (hS.get 5 rfl)
    clear c
    exact og_val (ex_mv e_5) rfl
   ·intro a wx c
    have e_35 : a.eval (.tmp 35) = pt sg 0 := c.slot 21 _ (by decide +kernel) rfl
    clear c
    exact og_val (ex_nc e_35) rfl
   ·intro a wx c
    have e_36 : a.eval (.tmp 36) = pt sg 0 := c.slot 22 _ (by decide +kernel) rfl
    clear c
    exact og_val (ex_fo e_36 fo_m3u8_MediaSegment_5 rfl) rfl
   ·intro a wx c
    have e_37 : a.eval (.tmp 37) = pt sg 5 := c.slot 23 _ (by decide +kernel) rfl
    have hO := hS.ogc c
    clear c
    exact og_val (ex_ld e_37 lt_int64 (cell_of_heap (v := .int .i64 0) (hO.at 0 rfl) rfl)) rfl
   ·intro a wx c
    have e_5 : a.eval (.tmp 5) = pt sg 0 := c.outE (by decide +kernel) (hS.get 5 rfl)
    clear c
    exact og_val (ex_mv e_5) rfl
   ·intro a wx c
    have e_39 : a.eval (.tmp 39) = pt sg 0 := c.slot 25 _ (by decide +kernel) rfl
    clear c
    exact og_val (ex_nc e_39) rfl
   ·intro a wx c
    have e_40 : a.eval (.tmp 40) = pt sg 0 := c.slot 26 _ (by decide +kernel) rfl
    clear c
    exact og_val (ex_fo e_40 fo_m3u8_MediaSegment_6 rfl) rfl
   ·intro a wx c
    have e_41 : a.eval (.tmp 41) = pt sg 6 := c.slot 27 _ (by decide +kernel) rfl
    have hO := hS.ogc c
    clear c
    exact og_val (ex_ld e_41 lt_p_m3u8_Key (cell_of_heap (v := .pointer none) (hO.at 0 rfl) rfl)) rfl
   ·intro a wx c
    have e_42 : a.eval (.tmp 42) = .pointer none := c.slot 28 _ (by decide +kernel) rfl
    have hO := hS.ogc c
    have hbx := drew_below c.only
    clear c
    have hcl : Calls Tryz.prog _ _ wx (fun e w' => e = .returned (.slice none 0 0) ∧ Below wx.heap.size wx w') := (keyOf_nil _)
    refine og_call (ex_call1 cf_impl_keyOf e_42) (Calls.mono hcl ?_)
    rintro e w' ⟨rfl, hb⟩
    exact ⟨_, rfl, hb, rfl⟩
   ·intro a wx c
    have e_5 : a.eval (.tmp 5) = pt sg 0 := c.outE (by decide +kernel) (hS.get 5 rfl)
    clear c
    exact og_val (ex_mv e_5) rfl
   ·intro a wx c
    have e_44 : a.eval (.tmp 44) = pt sg 0 := c.slot 30 _ (by decide +kernel) rfl
    clear c
    exact og_val (ex_nc e_44) rfl
   ·intro a wx c
    have e_45 : a.eval (.tmp 45) = pt sg 0 := c.slot 31 _ (by decide +kernel) rfl
    clear c
    exact og_val (ex_fo e_45 fo_m3u8_MediaSegment_7 rfl) rfl
   ·intro a wx c
    have e_46 : a.eval (.tmp 46) = pt sg 7 := c.slot 32 _ (by decide +kernel) rfl
    have hO := hS.ogc c
    clear c
    exact og_val (ex_ld e_46 lt_p_m3u8_Map (cell_of_heap (v := .pointer none) (hO.at 0 rfl) rfl)) rfl
   ·intro a wx c
    have e_47 : a.eval (.tmp 47) = .pointer none := c.slot 33 _ (by decide +kernel) rfl
    have hO := hS.ogc c
    have hbx := drew_below c.only
    clear c
    have hcl : Calls Tryz.prog _ _ wx (fun e w' => e = .returned (.slice none 0 0) ∧ Below wx.heap.size wx w') := (mapOf_nil _)
    refine og_call (ex_call1 cf_impl_mapOf e_47) (Calls.mono hcl ?_)
    rintro e w' ⟨rfl, hb⟩
    exact ⟨_, rfl, hb, rfl⟩
   ·intro a wx c
    have e_5 : a.eval (.tmp 5) = pt sg 0 := c.outE (by decide +kernel) (hS.get 5 rfl)
    clear c
    exact og_val (ex_mv e_5) rfl
   ·intro a wx c
    have e_49 : a.eval (.tmp 49) = pt sg 0 := c.slot 35 _ (by decide +kernel) rfl
    clear c
    exact og_val (ex_nc e_49) rfl
   ·intro a wx c
    have e_50 : a.eval (.tmp 50) = pt sg 0 := c.slot 36 _ (by decide +kernel) rfl
    clear c
    exact og_val (ex_fo e_50 fo_m3u8_MediaSegment_9 rfl) rfl
   ·intro a wx c
    have e_51 : a.eval (.tmp 51) = pt sg 9 := c.slot 37 _ (by decide +kernel) rfl
    have hO := hS.ogc c
    clear c
    exact og_val (ex_ld e_51 lt_p_m3u8_SCTE (cell_of_heap (v := .pointer none) (hO.at 0 rfl) rfl)) rfl
   ·intro a wx c
    have e_52 : a.eval (.tmp 52) = .pointer none := c.slot 38 _ (by decide +kernel) rfl
    have hO := hS.ogc c
    have hbx := drew_below c.only
    clear c
    have hcl : Calls Tryz.prog _ _ wx (fun e w' => e = .returned (.slice none 0 0) ∧ Below wx.heap.size wx w') := (cueOf_nil _)
    refine og_call (ex_call1 cf_impl_cueOf e_52) (Calls.mono hcl ?_)
    rintro e w' ⟨rfl, hb⟩
    exact ⟨_, rfl, hb, rfl⟩
   ·intro a wx c
    have e_5 : a.eval (.tmp 5) = pt sg 0 := c.outE (by decide +kernel) (hS.get 5 rfl)
    clear c
    exact og_val (ex_mv e_5) rfl
   ·intro a wx c
    have e_54 : a.eval (.tmp 54) = pt sg 0 := c.slot 40 _ (by decide +kernel) rfl
    clear c
    exact og_val (ex_nc e_54) rfl
   ·intro a wx c
    have e_55 : a.eval (.tmp 55) = pt sg 0 := c.slot 41 _ (by decide +kernel) rfl
    clear c
    exact og_val (ex_fo e_55 fo_m3u8_MediaSegment_8 rfl) rfl
   ·intro a wx c
    have e_56 : a.eval (.tmp 56) = pt sg 8 := c.slot 42 _ (by decide +kernel) rfl
    have hO := hS.ogc c
    clear c
    exact og_val (ex_ld e_56 lt_bool (cell_of_heap (v := .bool false) (hO.at 0 rfl) rfl)) rfl
   ·intro a wx c
    have e_5 : a.eval (.tmp 5) = pt sg 0 := c.outE (by decide +kernel) (hS.get 5 rfl)
    clear c
    exact og_val (ex_mv e_5) rfl
   ·intro a wx c
    have e_58 : a.eval (.tmp 58) = pt sg 0 := c.slot 44 _ (by decide +kernel) rfl
    clear c
    exact og_val (ex_nc e_58) rfl
   ·intro a wx c
    have e_59 : a.eval (.tmp 59) = pt sg 0 := c.slot 45 _ (by decide +kernel) rfl
    clear c
    exact og_val (ex_fo e_59 fo_m3u8_MediaSegment_10 rfl) rfl
   ·intro a wx c
    have e_60 : a.eval (.tmp 60) = pt sg 10 := c.slot 46 _ (by decide +kernel) rfl
    have hO := hS.ogc c
    clear c
    exact og_val (ex_ld e_60 lt_string (cell_of_heap (v := .string (⟨#[]⟩)) (hO.at 0 rfl) rfl)) rfl
   ·intro a wx c
    have e_18 : a.eval (.tmp 18) = .int .u64 ((seq : Nat) : Int) := c.slot 4 _ (by decide +kernel) rfl
    have e_22 : a.eval (.tmp 22) = .string title := c.slot 8 _ (by decide +kernel) rfl
    have e_26 : a.eval (.tmp 26) = .string uri := c.slot 12 _ (by decide +kernel) rfl
    have e_30 : a.eval (.tmp 30) = .float .f64 (dur) := c.slot 16 _ (by decide +kernel) rfl
    have e_34 : a.eval (.tmp 34) = .int .i64 0 := c.slot 20 _ (by decide +kernel) rfl
    have e_38 : a.eval (.tmp 38) = .int .i64 0 := c.slot 24 _ (by decide +kernel) rfl
    have e_43 : a.eval (.tmp 43) = .slice none 0 0 := c.slot 29 _ (by decide +kernel) rfl
    have e_48 : a.eval (.tmp 48) = .slice none 0 0 := c.slot 34 _ (by decide +kernel) rfl
    have e_53 : a.eval (.tmp 53) = .slice none 0 0 := c.slot 39 _ (by decide +kernel) rfl
    have e_57 : a.eval (.tmp 57) = .bool false := c.slot 43 _ (by decide +kernel) rfl
    have e_61 : a.eval (.tmp 61) = .string (⟨#[]⟩) := c.slot 47 _ (by decide +kernel) rfl
    clear c
    exact og_val (by simp only [execOp, List.map_toArray, List.map_cons, List.map_nil, e_18, e_22, e_26, e_30, e_34, e_38, e_43, e_48, e_53, e_57, e_61]; go_simp) rfl
   ·intro a wx c
    have e_62 : a.eval (.tmp 62) = .agg #[.int .u64 ((seq : Nat) : Int), .string title, .string uri, .float .f64 (dur), .int .i64 0, .int .i64 0, .slice none 0 0, .slice none 0 0, .slice none 0 0, .bool false, .string (⟨#[]⟩)] := c.slot 48 _ (by decide +kernel) rfl
    clear c
    exact og_ext (v := .slice (some ⟨wx.heap.size, 0, none⟩) 1 1) (w' := wx.alloc (.cells #[.int .u64 ((seq : Nat) : Int), .string title, .string uri, .float .f64 (dur), .int .i64 0, .int .i64 0, .slice none 0 0, .slice none 0 0, .slice none 0 0, .bool false, .string (⟨#[]⟩)] 67)) (by simp only [execOp, List.map_toArray, List.map_cons, List.map_nil, e_62]; go_simp) ((Below.refl _ _).alloc (Nat.le_refl _) _) ⟨_, rfl, heap_alloc_new _ _⟩
  ·intro a w10 c hbw10
   replace hin := hin.ty (TyOnly.of_below (ts := []) hbw10) (by decide)
   replace ho := ho.ty (TyOnly.of_below (ts := []) hbw10) (by decide)
   obtain ⟨g9, e_63, hxg9⟩ : ∃ g, (a.eval (.tmp 63)) = .slice (some ⟨g, 0, none⟩) 1 1 ∧ w10.heap[g]? = some (.cells #[.int .u64 ((seq : Nat) : Int), .string title, .string uri, .float .f64 (dur), .int .i64 0, .int .i64 0, .slice none 0 0, .slice none 0 0, .slice none 0 0, .bool false, .string (⟨#[]⟩)] 67 (0, 0)) := c.slot 49 _ (by decide +kernel) rfl
   replace hS : Sv 67 ((63, .slice (some ⟨g9, 0, none⟩) 1 1) :: (14, lv) :: (8, .int .i64 0) :: (7, .int .i64 1) :: (6, v0) :: (3, lv) :: (9, .bool true) :: (5, pt sg 0) :: (13, .bool false) :: []) [⟨sg, (scs seq title uri dur), 127, false⟩] (fun _ => False) w a w10 := ((((((((((hS.ogh c).know (c.outE (by decide +kernel) (hS.get 13 rfl))).know (c.outE (by decide +kernel) (hS.get 5 rfl))).know (c.outE (by decide +kernel) (hS.get 9 rfl))).know (c.outE (by decide +kernel) (hS.get 3 rfl))).know (c.outE (by decide +kernel) (hS.get 6 rfl))).know (c.outE (by decide +kernel) (hS.get 7 rfl))).know (c.outE (by decide +kernel) (hS.get 8 rfl))).know (c.slot 0 _ (by decide +kernel) rfl)).know e_63)
   clear c
   simp only [List.drop_succ_cons, List.drop_zero]
   refine sv_append (f := sgL) (L := ([] : List Sgi)) sli_sl_impl_Segment (by decide) (fun _ => rfl) [⟨seq, title, uri, dur⟩] hS (hS.get 14 rfl) (hS.get 63 rfl) hxg9 rfl rfl (fun y _ u hu => sgL_one y u hu) ho rfl (by decide) (by decide) (by decide) ?_
   intro a lv2 w11 hty ho2 hS
   replace hin := hin.ty hty (by decide)
   refine sv_r (v := lv2) hS (ex_as (hS.get 64 rfl)) fun a hS => ?_
   refine wpList_nil ?_
   replace hS := hS.cut [3, 8, 7, 6, 9, 5, 13]
   show Code.wp _ _ _ _ _
   refine wp_region_lit ?_
   refine sv_r (v := .int .i64 ((0 + 1 : Nat) : Int)) hS (ei_add (hS.get 8 rfl) rfl (by rw [IntKind.wrap_i64]; omega)) fun a hS => ?_
   refine sv_r (v := .int .i64 ((0 + 1 : Nat) : Int)) hS (ex_mv (hS.get 65 rfl)) fun a hS => ?_
   refine wpList_nil ?_
   replace hS := hS.cut [8, 3, 7, 6, 9, 5, 13]
   refine ⟨⟨1, lv2, _, .inr ⟨rfl, rfl⟩, ho2, hin, hS.pick rfl⟩, ?_⟩
   have h8' := hS.get 8 rfl
   rw [h8, h8']
   decide
 ·refine wp_seq ?_
  refine wp_region_lit ?_
  refine sv_r (v := .bool false) hS (ei_lss (hS.get 8 rfl) (hS.get 7 rfl) (by decide)) fun a hS => ?_
  refine wpList_nil ?_
  replace hS := hS.cut [9, 3, 6, 7, 8]
  show Code.wp _ _ _ _ _
  refine wp_seq ?_
  refine cond_f (hS.get 9 rfl) ?_
  refine wp_exit ?_
  show Code.wp _ _ _ _ _
  refine wp_seq ?_
  refine wp_region_lit ?_
  refine sv_r (v := lv) hS (ex_mv (hS.get 3 rfl)) fun a hS => ?_
  refine sv_r (v := lv) hS (ex_as (hS.get 66 rfl)) fun a hS => ?_
  refine wpList_nil ?_
  replace hS := hS.cut [2, 9, 3, 6, 7, 8]
  show Code.wp _ _ _ _ _
  refine wp_ret ?_
  try simp only [Exit.inBlock, Exit.then]
  exact ret_of_ev hS.ev rfl (hS.get 2 rfl) ⟨_, rfl, hS.toBelow, ho⟩
end Go.Proofs.YtflppablgdegcaaGreatDoor
