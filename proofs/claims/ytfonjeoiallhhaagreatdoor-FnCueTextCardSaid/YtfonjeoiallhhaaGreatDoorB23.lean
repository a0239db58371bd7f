/- Joined: Wn. -/
import Derived.Test.YtfonjeoiallhhaaGreatDoorB16
import Derived.Test.YtfonjeoiallhhaaGreatDoorB22
/- impl.WriteMedia: the walk. Printed by wip/tools/gen_wn.py. -/
set_option maxRecDepth 100000
set_option maxHeartbeats 8000000
namespace Go.Proofs.YtfonjeoiallhhaaGreatDoor
open Go.RowKit
noncomputable def wmBody : Code := Tryz.f7.body.getD .skip
theorem cv_int_uint (n : Int) {z : Int} (h : IntKind.u64.wrap n = z) : Cv 3 49 (.int .i64 n) (.int .u64 z) := by subst h; intro w; go_simp
theorem cv_int_uint8 (n : Int) {z : Int} (h : IntKind.u8.wrap n = z) : Cv 3 5 (.int .i64 n) (.int .u8 z) := by subst h; intro w; go_simp
theorem cv_int_m3u8_MediaType (n : Int) {z : Int} (h : IntKind.u64.wrap n = z) : Cv 3 64 (.int .i64 n) (.int .u64 z) := by subst h; intro w; go_simp
theorem plain_target_all : (List.range 70).all (fun t => plainB (floatOfInt .f64 (t : Int))) = true := by decide +kernel
theorem plain_target {t : Nat} (h : t < 70) : plainB (floatOfInt .f64 (t : Int)) = true := List.all_eq_true.1 plain_target_all t (List.mem_range.2 h)
theorem tgt_lt_all : (List.range 70).all (fun t => (List.range 160).all fun e => decide (t < 20) || (FloatKind.f64.format.order (floatOfInt .f64 (t : Int)) (e8 e) == some .lt) == false) = true := by decide +kernel
theorem tgt_lt {t e : Nat} (h1 : 20 ≤ t) (h2 : t < 70) (h3 : e < 160) : (FloatKind.f64.format.order (floatOfInt .f64 (t : Int)) (e8 e) == some .lt) = false := by
 have a1 := List.all_eq_true.1 tgt_lt_all t (List.mem_range.2 h2)
 have a2 := List.all_eq_true.1 a1 e (List.mem_range.2 h3)
 have a3 : decide (t < 20) = false := decide_eq_false (by omega)
 rw [a3, Bool.false_or] at a2
 exact eq_of_beq a2
theorem wm_cues (y : Iy) (g9 : Nat) (v1 v2 v6 v88 v89 v90 : Value) (a : Act) (w : World) (hE : Ev 201 ((2, v2) :: (6, v6) :: (88, v88) :: (89, v89) :: (90, v90) :: (1, v1) :: (9, pt g9 0) :: []) a) (h9 : w.heap[g9]? = some (.cells y.cells 55 (0, 0))) (hcv : OneOf1 74 (y.c.map Cq.icells) y.cv w) (hcue : ∀ c, y.c = some c → CueOk c)
  (Q : Exit → Act → World → Prop) (hQ : ∀ a' w', Ev 201 ((2, v2) :: (6, v6) :: (88, v88) :: (89, v89) :: (90, v90) :: (1, v1) :: (9, pt g9 0) :: []) a' → Below w.heap.size w w' → Q .normal a' w') : ((cA (cB (cB (cA (cA (cB (cB (cA (cA (cB (cA (cB (cB (cB (cB (cB (cB wmBody)))))))))))))))))).wp Tryz.prog Q a w := by
 rcases hcv with ⟨h1, h2⟩ | ⟨gq, cs, h1, h2, h3⟩
 ·have hS : Sv 201 ((2, v2) :: (6, v6) :: (88, v88) :: (89, v89) :: (90, v90) :: (1, v1) :: (9, pt g9 0) :: []) [] (fun _ => False) w a w := Sv.start hE _ _
  replace hS : Sv 201 ((2, v2) :: (6, v6) :: (88, v88) :: (89, v89) :: (90, v90) :: (1, v1) :: (9, pt g9 0) :: []) [⟨g9, y.cells, 55, false⟩] (fun _ => False) w a w := (hS.addR h9 (by intro b hb; cases hb)).pick rfl
  refine wp_seq ?_
  refine wp_region_lit ?_
  refine sv_r (v := pt g9 8) hS (ex_fo (hS.get 9 rfl) fo_impl_Segment_8 rfl) fun a hS => ?_
  refine sv_r (v := .slice none 0 0) hS (ex_ld (hS.get 98 rfl) lt_sl_impl_Cue (cell_of_heap (v := .slice none 0 0) (hS.at 0 rfl) (by rw [← h2]; rfl))) fun a hS => ?_
  refine sv_r (v := .int .i64 0) hS (ex_len Tryz.underlying53 (hS.get 99 rfl)) fun a hS => ?_
  refine sv_r (v := .int .i64 0) hS ex_mc fun a hS => ?_
  refine wpList_nil ?_
  replace hS := hS.cut [101, 100, 99, 2, 6, 88, 89, 90, 1, 9]
  show Code.wp _ _ _ _ _
  have hE : Ev 201 ((101, .int .i64 ((0 : Nat) : Int)) :: (100, .int .i64 ((0 : Nat) : Int)) :: (99, .slice none 0 0) :: (2, v2) :: (6, v6) :: (88, v88) :: (89, v89) :: (90, v90) :: (1, v1) :: (9, pt g9 0) :: []) a := hS.ev.pick rfl
  refine range_wp (N := 201) (n := 0) (l := (99, .slice none 0 0) :: (2, v2) :: (6, v6) :: (88, v88) :: (89, v89) :: (90, v90) :: (1, v1) :: (9, pt g9 0) :: []) (fun k w' => w' = w) (by decide) hE rfl rfl (by decide) (by decide) (fun k _ _ hk => absurd hk (Nat.not_lt_zero _)) ?_
  rintro a w' hE rfl
  exact hQ a _ (hE.pick rfl) (Below.refl _ _)
 ·rw [Option.map_eq_some_iff] at h1
  obtain ⟨c, hc, rfl⟩ := h1
  have hco := hcue c hc
  obtain ⟨c1, c2, c3, c4, c5, c6⟩ := hco
  have hS : Sv 201 ((2, v2) :: (6, v6) :: (88, v88) :: (89, v89) :: (90, v90) :: (1, v1) :: (9, pt g9 0) :: []) [] (fun _ => False) w a w := Sv.start hE _ _
  replace hS : Sv 201 ((2, v2) :: (6, v6) :: (88, v88) :: (89, v89) :: (90, v90) :: (1, v1) :: (9, pt g9 0) :: []) [⟨g9, y.cells, 55, false⟩] (fun _ => False) w a w := (hS.addR h9 (by intro b hb; cases hb)).pick rfl
  refine wp_seq ?_
  refine wp_region_lit ?_
  refine sv_r (v := pt g9 8) hS (ex_fo (hS.get 9 rfl) fo_impl_Segment_8 rfl) fun a hS => ?_
  refine sv_r (v := .slice (some ⟨gq, 0, none⟩) 1 1) hS (ex_ld (hS.get 98 rfl) lt_sl_impl_Cue (cell_of_heap (v := .slice (some ⟨gq, 0, none⟩) 1 1) (hS.at 0 rfl) (by rw [← h2]; rfl))) fun a hS => ?_
  refine sv_r (v := .int .i64 1) hS (ex_len Tryz.underlying53 (hS.get 99 rfl)) fun a hS => ?_
  refine sv_r (v := .int .i64 0) hS ex_mc fun a hS => ?_
  refine wpList_nil ?_
  replace hS := hS.cut [101, 100, 99, 2, 6, 88, 89, 90, 1, 9]
  show Code.wp _ _ _ _ _
  have hE : Ev 201 ((101, .int .i64 ((0 : Nat) : Int)) :: (100, .int .i64 1) :: (99, .slice (some ⟨gq, 0, none⟩) 1 1) :: (2, v2) :: (6, v6) :: (88, v88) :: (89, v89) :: (90, v90) :: (1, v1) :: (9, pt g9 0) :: []) a := hS.ev.pick rfl
  refine range_wp (N := 201) (n := 1) (l := (99, .slice (some ⟨gq, 0, none⟩) 1 1) :: (2, v2) :: (6, v6) :: (88, v88) :: (89, v89) :: (90, v90) :: (1, v1) :: (9, pt g9 0) :: []) (fun k w' => Below w.heap.size w w') (by decide) hE (Below.refl _ _) rfl (by decide) (by decide) ?_ ?_
  ·clear hE hS
   rintro k a w1 hk hE hb Q' hQ'
   obtain rfl : k = 0 := by omega
   have hS : Sv 201 ((101, .int .i64 0) :: (100, .int .i64 1) :: (99, .slice (some ⟨gq, 0, none⟩) 1 1) :: (2, v2) :: (6, v6) :: (88, v88) :: (89, v89) :: (90, v90) :: (1, v1) :: (9, pt g9 0) :: []) [] (fun _ => False) w1 a w1 := Sv.start hE _ _
   have hq : w1.heap[gq]? = some (.cells c.icells 74 (0, 0)) := (below_ty hb).keep h3 rfl
   replace hS : Sv 201 ((101, .int .i64 0) :: (100, .int .i64 1) :: (99, .slice (some ⟨gq, 0, none⟩) 1 1) :: (2, v2) :: (6, v6) :: (88, v88) :: (89, v89) :: (90, v90) :: (1, v1) :: (9, pt g9 0) :: []) [⟨gq, c.icells, 74, false⟩] (fun _ => False) w1 a w1 := (hS.addR hq (by intro b hb; cases hb)).pick rfl
   refine wp_block ?_
   refine wp_seq ?_
   refine wp_region_lit ?_
   refine sv_r (v := pt gq 0) hS (ex_ia (i := 0) (E := 74) Tryz.underlying53 Tryz.sizeOf74 (hS.get 99 rfl) (hS.get 101 rfl) (by omega)) fun a hS => ?_
   refine sv_r (v := .agg c.icells) hS (ex_lb ag_impl_Cue (hS.get 103 rfl) (hS.at 0 rfl) rfl) fun a hS => ?_
   refine sv_al hS al_impl_Cue (by decide) ?_
   intro g2 a w3 hg2 hbw3 hwg2 hS
   refine sv_sb (i := 0) (m' := [⟨g2, c.icells, 74, true⟩, ⟨gq, c.icells, 74, false⟩]) hS ag_impl_Cue (hS.get 11 rfl) (hS.get 104 rfl) rfl rfl rfl (fun u hu => by simp only [Cq.icells, List.mem_cons, List.not_mem_nil, or_false] at hu; rcases hu with rfl | rfl | rfl | rfl | rfl | rfl <;> rfl) rfl ?_
   intro w4 hty hS
   refine wpList_nil ?_
   replace hS := hS.cut [11, 101, 100, 99, 2, 6, 88, 89, 90, 1, 9]
   show Code.wp _ _ _ _ _
   refine wp_seq ?_
   refine wp_region_lit ?_
   refine sv_r (v := pt g2 0) hS (ex_fo (hS.get 11 rfl) fo_impl_Cue_0 rfl) fun a hS => ?_
   refine sv_r (v := .int .i64 ((c.syn : Nat) : Int)) hS (ex_ld (hS.get 105 rfl) lt_int (cell_of_heap (v := .int .i64 ((c.syn : Nat) : Int)) (hS.at 0 rfl) rfl)) fun a hS => ?_
   refine sv_r (v := .bool false) hS (ei_lss (hS.get 106 rfl) rfl (by rw [decide_eq_false_iff_not]; omega)) fun a hS => ?_
   refine sv_r (v := .bool false) hS (ex_mv (hS.get 107 rfl)) fun a hS => ?_
   refine sv_g (v := pt g2 0) hS (hS.get 108 rfl) (ex_fo (hS.get 11 rfl) fo_impl_Cue_0 rfl) fun a hS => ?_
   refine sv_g (v := .int .i64 ((c.syn : Nat) : Int)) hS (hS.get 108 rfl) (ex_ld (hS.get 109 rfl) lt_int (cell_of_heap (v := .int .i64 ((c.syn : Nat) : Int)) (hS.at 0 rfl) rfl)) fun a hS => ?_
   refine sv_g (v := .bool false) hS (hS.get 108 rfl) (ei_gtr (hS.get 110 rfl) rfl (by rw [decide_eq_false_iff_not]; omega)) fun a hS => ?_
   refine sv_r (v := .bool false) hS (ex_pickF (hS.get 108 rfl) (hS.get 111 rfl)) fun a hS => ?_
   refine sv_r (v := .bool false) hS (ex_mv (hS.get 112 rfl)) fun a hS => ?_
   refine sv_g (v := pt g2 1) hS (hS.get 113 rfl) (ex_fo (hS.get 11 rfl) fo_impl_Cue_1 rfl) fun a hS => ?_
   refine sv_g (v := .int .i64 ((c.typ : Nat) : Int)) hS (hS.get 113 rfl) (ex_ld (hS.get 114 rfl) lt_int (cell_of_heap (v := .int .i64 ((c.typ : Nat) : Int)) (hS.at 0 rfl) rfl)) fun a hS => ?_
   refine sv_g (v := .bool false) hS (hS.get 113 rfl) (ei_lss (hS.get 115 rfl) rfl (by rw [decide_eq_false_iff_not]; omega)) fun a hS => ?_
   refine sv_r (v := .bool false) hS (ex_pickF (hS.get 113 rfl) (hS.get 116 rfl)) fun a hS => ?_
   refine sv_r (v := .bool false) hS (ex_mv (hS.get 117 rfl)) fun a hS => ?_
   refine sv_g (v := pt g2 1) hS (hS.get 118 rfl) (ex_fo (hS.get 11 rfl) fo_impl_Cue_1 rfl) fun a hS => ?_
   refine sv_g (v := .int .i64 ((c.typ : Nat) : Int)) hS (hS.get 118 rfl) (ex_ld (hS.get 119 rfl) lt_int (cell_of_heap (v := .int .i64 ((c.typ : Nat) : Int)) (hS.at 0 rfl) rfl)) fun a hS => ?_
   refine sv_g (v := .bool false) hS (hS.get 118 rfl) (ei_gtr (hS.get 120 rfl) rfl (by rw [decide_eq_false_iff_not]; omega)) fun a hS => ?_
   refine sv_r (v := .bool false) hS (ex_pickF (hS.get 118 rfl) (hS.get 121 rfl)) fun a hS => ?_
   refine sv_r (v := .bool false) hS (ex_mv (hS.get 122 rfl)) fun a hS => ?_
   refine sv_g (v := pt g2 4) hS (hS.get 123 rfl) (ex_fo (hS.get 11 rfl) fo_impl_Cue_4 rfl) fun a hS => ?_
   refine sv_g (v := .float .f64 (e8 c.time)) hS (hS.get 123 rfl) (ex_ld (hS.get 124 rfl) lt_float64 (cell_of_heap (v := .float .f64 (e8 c.time)) (hS.at 0 rfl) rfl)) fun a hS => ?_
   refine sv_gcallq (v := .bool true) hS rfl rfl (hS.get 123 rfl) rfl (by decide) (ex_call1 cf_impl_plainNumber (hS.get 125 rfl)) (plain_any _ (rate_plain (by omega)) _) ?_
   intro a hS
   refine sv_g (v := .bool false) hS (hS.get 123 rfl) (ex_not (hS.get 126 rfl)) fun a hS => ?_
   refine sv_r (v := .bool false) hS (ex_pickF (hS.get 123 rfl) (hS.get 127 rfl)) fun a hS => ?_
   refine sv_r (v := .bool false) hS (ex_mv (hS.get 128 rfl)) fun a hS => ?_
   refine sv_g (v := pt g2 5) hS (hS.get 129 rfl) (ex_fo (hS.get 11 rfl) fo_impl_Cue_5 rfl) fun a hS => ?_
   refine sv_g (v := .float .f64 (e8 c.elapsed)) hS (hS.get 129 rfl) (ex_ld (hS.get 130 rfl) lt_float64 (cell_of_heap (v := .float .f64 (e8 c.elapsed)) (hS.at 0 rfl) rfl)) fun a hS => ?_
   refine sv_gcallq (v := .bool true) hS rfl rfl (hS.get 129 rfl) rfl (by decide) (ex_call1 cf_impl_plainNumber (hS.get 131 rfl)) (plain_any _ (rate_plain (by omega)) _) ?_
   intro a hS
   refine sv_g (v := .bool false) hS (hS.get 129 rfl) (ex_not (hS.get 132 rfl)) fun a hS => ?_
   refine sv_r (v := .bool false) hS (ex_pickF (hS.get 129 rfl) (hS.get 133 rfl)) fun a hS => ?_
   refine wpList_nil ?_
   replace hS := hS.cut [134, 11, 101, 100, 99, 2, 6, 88, 89, 90, 1, 9]
   show Code.wp _ _ _ _ _
   refine cond_f (hS.get 134 rfl) ?_
   refine wp_skip ?_
   show Q' .normal a w4
   exact hQ' a w4 (hS.ev.pick rfl) (hb.trans (hS.toBelow.mono hb.size))
  ·clear hE hS
   rintro a w5 hE hb
   exact hQ a _ (hE.pick rfl) hb
theorem string_m (p : Pq) (B pb gs tn st n : Nat) (w0 : World) (L : List (Nat × Mz)) (ps : List Value) (pc : Array Value) (hpb : w0.heap[pb]? = some (.cells pc 72 (0, 0))) (hsv : p.sv = .slice (some ⟨gs, 0, none⟩) p.cap p.cap) (hn : n = L.length) (hcnt : p.count = n) (hnc : n ≤ p.cap) (hcap : p.cap ≤ 100000) (hps : w0.heap[gs]? = some (.cells ps.toArray 76 (0, 0)))
  (hL : ∀ (k : Nat) (q : Nat × Mz), L[k]? = some q → ps[k]? = some (pt q.1 0) ∧ w0.heap[q.1]? = some (.cells q.2.cells 104 (0, 0)) ∧ q.2.At w0 ∧ SegE q.2) (hkp : p.kp = .pointer none) (hmp : p.mp = .pointer none)
  (hver : p.ver < 256) (hseq : p.seq < 18446744073709551616) (hdisc : p.disc < 18446744073709551616) (hst : p.start = e8 st) (hst1 : st ≤ 400) (htn : tn < 9223372036854775808) (hcv : Cv 32 2 (.float .f64 p.tgt) (.int .i64 (tn : Int)))
  (hlim : (encAll p tn st (L.map (·.2))).length ≤ 140737488355328)
  (hT : ∀ s w, EW 72 p.rest B pb 17 w0 s w → PowTab w) (hCe : ∀ s w, EW 72 p.rest B pb 17 w0 s w → Calls Tryz.prog 35 #[.float .f64 p.tgt] w fun e w' => e = .returned (.float .f64 p.tgt) ∧ Below w.heap.size w w')
  (hFF : ∀ x : Nat, x ≤ 400 → ∀ s w, EW 72 p.rest B pb 17 w0 s w → Calls Tryz.prog 56 #[.float .f64 (e8 x), .int .u8 102, .int .i64 (-1), .int .i64 64] w fun e w' => e = .returned (.string (shorts x)) ∧ Below w.heap.size w w') (hFI : ∀ (n : Nat), n < 9223372036854775808 → ∀ s w, EW 72 p.rest B pb 17 w0 s w → Calls Tryz.prog 54 #[.int .i64 (n : Int), .int .i64 10] w fun e w' => e = .returned (.string (dec n)) ∧ Below w.heap.size w w') (hF3 : ∀ x : Nat, x < 160 → ∀ s w, EW 72 p.rest B pb 17 w0 s w → Calls Tryz.prog 56 #[.float .f64 (e8 x), .int .u8 102, .int .i64 3, .int .i64 32] w fun e w' => e = .returned (.string (secs x)) ∧ Below w.heap.size w w')
  (hbuf : LibA.IsBuffer 72 p.rest 5 B pb 17 (Lib.byteCells []) w0) :
  Calls Tryz.prog 22 #[pt pb 0] w0 fun e w' => e = .returned (.string ⟨(encAll p tn st (L.map (·.2))).toArray⟩) ∧ Below B w0 w' := by
 have henc := encode_any p B pb gs tn st n w0 L ps pc hpb hsv hn hcnt hnc hcap hps hL hkp hmp hver hseq hdisc hst hst1 htn hcv hlim hT hCe hFF hFI hF3 hbuf
 refine calls_of_ev Tryz.func22 rfl (show 1 ≤ 6 from by decide) ?_
 intro a hE
 have hE : Ev 6 ((0, pt pb 0) :: []) a := hE
 refine wp_seq ?_
 refine wp_region_lit ?_
 refine ev_r (w' := w0) hE ex_ac fun a hE => ?_
 refine nx3 ?_
 refine ev_r (w' := w0) hE (ex_mv (hE.get 0 rfl)) fun a hE => ?_
 refine ev_call (S := fun v w' => v = pt pb 17 ∧ EW 72 p.rest B pb 17 w0 (encAll p tn st (L.map (·.2))) w') hE rfl rfl (by decide) (ex_call1 cf_m3u8_MediaPlaylist_Encode (hE.get 3 rfl)) (Calls.mono henc (by rintro e w' ⟨rfl, h⟩; exact ⟨_, rfl, rfl, h⟩)) ?_
 rintro a v w1 ⟨rfl, hW⟩ hE
 refine ev_call (S := fun v w' => v = .string ⟨(encAll p tn st (L.map (·.2))).toArray⟩ ∧ Below B w0 w') hE rfl rfl (by decide) (ex_call1 cf_bytes_Buffer_String (hE.get 4 rfl)) (Calls.mono (string_any _ _ _ _ _ _ _ hW.1) (by rintro e w' ⟨rfl, nn, rfl⟩; exact ⟨_, rfl, rfl, below_drewN hW.2.1 nn⟩)) ?_
 rintro a v w2 ⟨rfl, hb⟩ hE
 refine ev_r (w' := w2) hE (ex_as (hE.get 5 rfl)) fun a hE => ?_
 refine nx1 ?_
 refine wp_ret ?_
 exact ret_of_ev hE rfl (hE.get 2 rfl) ⟨rfl, hb⟩
/-- A segment by what its text tells. -/
def mz (s : Sm) (c : Option Cq) : Mz := ⟨s, c, 0, .pointer none, .pointer none, .pointer none⟩
def pqT (m : Md) (a : ByteArray) : Pq := ⟨floatOfInt .f64 (m.target : Int), m.seq, .slice none 0 0, a, m.iframe, m.closed, m.typ, m.disc, e8 m.start, m.precise, 0, 0, 0, m.version, .pointer none, .pointer none⟩
def wmText (m : Md) (a : ByteArray) (ys : List Iy) : List UInt8 := encAll (pqT m a) m.target m.start (ys.map fun y => mz y.s y.c)
theorem enc_map (p : Pq) (tn st : Nat) (L : List Mz) : encAll p tn st L = encAll p tn st (L.map fun z => mz z.s z.c) := by
 unfold encAll
 rw [List.foldl_map]
 rfl
theorem mz_eq : ∀ (L : List (Nat × Mz)) (ys : List Iy), L.map (·.2.s) = ys.map Iy.s → L.map (·.2.c) = ys.map Iy.c → L.map (fun q => mz q.2.s q.2.c) = ys.map (fun y => mz y.s y.c)
 | [], [], _, _ => rfl
 | [], _ :: _, h, _ => by cases h
 | _ :: _, [], h, _ => by cases h
 | q :: L, y :: ys, h1, h2 => by
  simp only [List.map_cons, List.cons.injEq] at h1 h2 ⊢
  exact ⟨by rw [h1.1, h2.1], mz_eq L ys h1.2 h2.2⟩
structure RowAt (g n : Nat) (w : World) : Prop where
 cells : w.heap[g]? = some (.cells (List.replicate n (Value.pointer none)).toArray 76 (0, 0))
theorem RowAt.ty {g n : Nat} {w w' : World} {ts : List TypeId} (h : RowAt g n w) (hb : TyOnly ts w w') (ht : (ts.all fun u => u != 76) = true) : RowAt g n w' := ⟨hb.keep h.cells ht⟩
theorem writeMedia_any (m : Md) (hm : MdOk m) (s : ByteArray) (B0 : Nat) (dl : Value) (ys : List Iy) (hyl : ys.length ≤ 12) (hyE : ∀ y ∈ ys, SegLn y.s ∧ (∀ c, y.c = some c → CueOk c ∧ (1 ≤ c.time ∨ c.typ = 2 ∨ c.syn = 0))) (hlim : (wmText m s ys).length ≤ 140737488355328) (w : World) (hI : IsAt B0 dl ys w)
  (hT : ∀ w', Below w.heap.size w w' → PowTab w') (hFF : ∀ x : Nat, x ≤ 400 → ∀ w', Below w.heap.size w w' → Calls Tryz.prog 56 #[.float .f64 (e8 x), .int .u8 102, .int .i64 (-1), .int .i64 64] w' fun e w'' => e = .returned (.string (shorts x)) ∧ Below w'.heap.size w' w'')
  (hF3 : ∀ x : Nat, x < 160 → ∀ w', Below w.heap.size w w' → Calls Tryz.prog 56 #[.float .f64 (e8 x), .int .u8 102, .int .i64 3, .int .i64 32] w' fun e w'' => e = .returned (.string (secs x)) ∧ Below w'.heap.size w' w'') :
  Calls Tryz.prog 7 #[.agg (m.icells s dl), .bool false] w fun e w' => e = .returned (.tuple #[.string ⟨(wmText m s ys).toArray⟩, .bool true]) ∧ Below w.heap.size w w' := by
 obtain ⟨hm1, ⟨hm2, hm2'⟩, hm3, hm4, hm5, hm6, hm7⟩ := hm
 obtain ⟨cap, hcap⟩ : ∃ cap, cap = max 1 ys.length := ⟨_, rfl⟩
 have hc1 : 1 ≤ cap ∧ cap ≤ 12 ∧ ys.length ≤ cap := by omega
 refine calls_of_ev Tryz.func7 rfl (show 2 ≤ 201 from by decide) ?_
 intro a hE
 have hE : Ev 201 ((0, .agg (m.icells s dl)) :: (1, .bool false) :: []) a := hE
 have hS : Sv 201 ((0, .agg (m.icells s dl)) :: (1, .bool false) :: []) [] (fun _ => False) w a w := Sv.start hE _ _
 clear hE
 refine wp_seq ?_
 refine wp_region_lit ?_
 refine sv_box hS (hS.get 0 rfl) (bx_impl_Media _) (by decide) ?_
 intro g11 a w12 hg11 hbw12 hwg11 hS
 replace hI := hI.ty (TyOnly.of_below (ts := []) hbw12) (by decide)
 refine sv_r (v := .string (⟨#[]⟩)) hS ex_ac fun a hS => ?_
 refine sv_r (v := .bool false) hS ex_ac fun a hS => ?_
 refine wpList_nil ?_
 replace hS := hS.cut [5, 4, 2, 1]
 show Code.wp _ _ _ _ _
 refine wp_seq ?_
 refine wp_seq ?_
 refine wp_region_lit ?_
 refine sv_r (v := pt g11 2) hS (ex_fo (hS.get 2 rfl) fo_impl_Media_2 rfl) fun a hS => ?_
 refine sv_r (v := dl) hS (ex_ld (hS.get 13 rfl) lt_sl_impl_Segment (cell_of_heap (v := dl) (hS.at 0 rfl) rfl)) fun a hS => ?_
 refine sv_r (v := .int .i64 ((ys.length : Nat) : Int)) hS (ex_lenO Tryz.underlying33 (hS.get 14 rfl) hI.own) fun a hS => ?_
 refine sv_r (v := .bool false) hS (ei_gtr (hS.get 15 rfl) rfl (by rw [decide_eq_false_iff_not]; omega)) fun a hS => ?_
 refine sv_r (v := .bool false) hS (ex_mv (hS.get 16 rfl)) fun a hS => ?_
 refine sv_g (v := pt g11 13) hS (hS.get 17 rfl) (ex_fo (hS.get 2 rfl) fo_impl_Media_13 rfl) fun a hS => ?_
 refine sv_g (v := .int .i64 0) hS (hS.get 17 rfl) (ex_ld (hS.get 18 rfl) lt_int (cell_of_heap (v := .int .i64 0) (hS.at 0 rfl) rfl)) fun a hS => ?_
 refine sv_g (v := .bool false) hS (hS.get 17 rfl) (ei_lss (hS.get 19 rfl) rfl (by rw [decide_eq_false_iff_not]; omega)) fun a hS => ?_
 refine sv_r (v := .bool false) hS (ex_pickF (hS.get 17 rfl) (hS.get 20 rfl)) fun a hS => ?_
 refine sv_r (v := .bool false) hS (ex_mv (hS.get 21 rfl)) fun a hS => ?_
 refine sv_g (v := pt g11 13) hS (hS.get 22 rfl) (ex_fo (hS.get 2 rfl) fo_impl_Media_13 rfl) fun a hS => ?_
 refine sv_g (v := .int .i64 0) hS (hS.get 22 rfl) (ex_ld (hS.get 23 rfl) lt_int (cell_of_heap (v := .int .i64 0) (hS.at 0 rfl) rfl)) fun a hS => ?_
 refine sv_g (v := pt g11 2) hS (hS.get 22 rfl) (ex_fo (hS.get 2 rfl) fo_impl_Media_2 rfl) fun a hS => ?_
 refine sv_g (v := dl) hS (hS.get 22 rfl) (ex_ld (hS.get 25 rfl) lt_sl_impl_Segment (cell_of_heap (v := dl) (hS.at 0 rfl) rfl)) fun a hS => ?_
 refine sv_g (v := .int .i64 ((ys.length : Nat) : Int)) hS (hS.get 22 rfl) (ex_lenO Tryz.underlying33 (hS.get 26 rfl) hI.own) fun a hS => ?_
 refine sv_g (v := .int .i64 ((max 1 ys.length : Nat) : Int)) hS (hS.get 22 rfl) (ex_max (n := 1) rfl (hS.get 27 rfl)) fun a hS => ?_
 refine sv_g (v := .bool false) hS (hS.get 22 rfl) (ei_gtr (hS.get 24 rfl) (hS.get 28 rfl) (by rw [decide_eq_false_iff_not]; omega)) fun a hS => ?_
 refine sv_r (v := .bool false) hS (ex_pickF (hS.get 22 rfl) (hS.get 29 rfl)) fun a hS => ?_
 refine sv_r (v := .bool false) hS (ex_mv (hS.get 30 rfl)) fun a hS => ?_
 refine sv_g (v := pt g11 10) hS (hS.get 31 rfl) (ex_fo (hS.get 2 rfl) fo_impl_Media_10 rfl) fun a hS => ?_
 refine sv_g (v := .int .i64 ((m.version : Nat) : Int)) hS (hS.get 31 rfl) (ex_ld (hS.get 32 rfl) lt_int (cell_of_heap (v := .int .i64 ((m.version : Nat) : Int)) (hS.at 0 rfl) rfl)) fun a hS => ?_
 refine sv_g (v := .bool false) hS (hS.get 31 rfl) (ei_lss (hS.get 33 rfl) rfl (by rw [decide_eq_false_iff_not]; omega)) fun a hS => ?_
 refine sv_r (v := .bool false) hS (ex_pickF (hS.get 31 rfl) (hS.get 34 rfl)) fun a hS => ?_
 refine sv_r (v := .bool false) hS (ex_mv (hS.get 35 rfl)) fun a hS => ?_
 refine sv_g (v := pt g11 10) hS (hS.get 36 rfl) (ex_fo (hS.get 2 rfl) fo_impl_Media_10 rfl) fun a hS => ?_
 refine sv_g (v := .int .i64 ((m.version : Nat) : Int)) hS (hS.get 36 rfl) (ex_ld (hS.get 37 rfl) lt_int (cell_of_heap (v := .int .i64 ((m.version : Nat) : Int)) (hS.at 0 rfl) rfl)) fun a hS => ?_
 refine sv_g (v := .bool false) hS (hS.get 36 rfl) (ei_gtr (hS.get 38 rfl) rfl (by rw [decide_eq_false_iff_not]; omega)) fun a hS => ?_
 refine sv_r (v := .bool false) hS (ex_pickF (hS.get 36 rfl) (hS.get 39 rfl)) fun a hS => ?_
 refine sv_r (v := .bool false) hS (ex_mv (hS.get 40 rfl)) fun a hS => ?_
 refine sv_g (v := pt g11 6) hS (hS.get 41 rfl) (ex_fo (hS.get 2 rfl) fo_impl_Media_6 rfl) fun a hS => ?_
 refine sv_g (v := .int .i64 ((m.typ : Nat) : Int)) hS (hS.get 41 rfl) (ex_ld (hS.get 42 rfl) lt_int (cell_of_heap (v := .int .i64 ((m.typ : Nat) : Int)) (hS.at 0 rfl) rfl)) fun a hS => ?_
 refine sv_g (v := .bool false) hS (hS.get 41 rfl) (ei_lss (hS.get 43 rfl) rfl (by rw [decide_eq_false_iff_not]; omega)) fun a hS => ?_
 refine sv_r (v := .bool false) hS (ex_pickF (hS.get 41 rfl) (hS.get 44 rfl)) fun a hS => ?_
 refine sv_r (v := .bool false) hS (ex_mv (hS.get 45 rfl)) fun a hS => ?_
 refine sv_g (v := pt g11 6) hS (hS.get 46 rfl) (ex_fo (hS.get 2 rfl) fo_impl_Media_6 rfl) fun a hS => ?_
 refine sv_g (v := .int .i64 ((m.typ : Nat) : Int)) hS (hS.get 46 rfl) (ex_ld (hS.get 47 rfl) lt_int (cell_of_heap (v := .int .i64 ((m.typ : Nat) : Int)) (hS.at 0 rfl) rfl)) fun a hS => ?_
 refine sv_g (v := .bool false) hS (hS.get 46 rfl) (ei_gtr (hS.get 48 rfl) rfl (by rw [decide_eq_false_iff_not]; omega)) fun a hS => ?_
 refine sv_r (v := .bool false) hS (ex_pickF (hS.get 46 rfl) (hS.get 49 rfl)) fun a hS => ?_
 refine sv_r (v := .bool false) hS (ex_mv (hS.get 50 rfl)) fun a hS => ?_
 refine sv_g (v := pt g11 0) hS (hS.get 51 rfl) (ex_fo (hS.get 2 rfl) fo_impl_Media_0 rfl) fun a hS => ?_
 refine sv_g (v := .float .f64 (floatOfInt .f64 ((m.target : Nat) : Int))) hS (hS.get 51 rfl) (ex_ld (hS.get 52 rfl) lt_float64 (cell_of_heap (v := .float .f64 (floatOfInt .f64 ((m.target : Nat) : Int))) (hS.at 0 rfl) rfl)) fun a hS => ?_
 refine sv_gcallq (v := .bool true) hS rfl rfl (hS.get 51 rfl) rfl (by decide) (ex_call1 cf_impl_plainNumber (hS.get 53 rfl)) (plain_any _ (plain_target hm2') _) ?_
 intro a hS
 refine sv_g (v := .bool false) hS (hS.get 51 rfl) (ex_not (hS.get 54 rfl)) fun a hS => ?_
 refine sv_r (v := .bool false) hS (ex_pickF (hS.get 51 rfl) (hS.get 55 rfl)) fun a hS => ?_
 refine sv_r (v := .bool false) hS (ex_mv (hS.get 56 rfl)) fun a hS => ?_
 refine sv_g (v := pt g11 8) hS (hS.get 57 rfl) (ex_fo (hS.get 2 rfl) fo_impl_Media_8 rfl) fun a hS => ?_
 refine sv_g (v := .float .f64 (e8 m.start)) hS (hS.get 57 rfl) (ex_ld (hS.get 58 rfl) lt_float64 (cell_of_heap (v := .float .f64 (e8 m.start)) (hS.at 0 rfl) rfl)) fun a hS => ?_
 refine sv_gcallq (v := .bool true) hS rfl rfl (hS.get 57 rfl) rfl (by decide) (ex_call1 cf_impl_plainNumber (hS.get 59 rfl)) (plain_any _ (rate_plain (by omega)) _) ?_
 intro a hS
 refine sv_g (v := .bool false) hS (hS.get 57 rfl) (ex_not (hS.get 60 rfl)) fun a hS => ?_
 refine sv_r (v := .bool false) hS (ex_pickF (hS.get 57 rfl) (hS.get 61 rfl)) fun a hS => ?_
 refine wpList_nil ?_
 replace hS := hS.cut [62, 5, 4, 2, 1]
 show Code.wp _ _ _ _ _
 refine cond_f (hS.get 62 rfl) ?_
 refine wp_skip ?_
 show Code.wp _ _ _ _ _
 refine wp_seq ?_
 refine wp_region_lit ?_
 refine sv_r (v := pt g11 13) hS (ex_fo (hS.get 2 rfl) fo_impl_Media_13 rfl) fun a hS => ?_
 refine sv_r (v := .int .i64 0) hS (ex_ld (hS.get 64 rfl) lt_int (cell_of_heap (v := .int .i64 0) (hS.at 0 rfl) rfl)) fun a hS => ?_
 refine sv_r (v := .int .u64 0) hS (ex_cv (hS.get 65 rfl) (cv_int_uint _ (by rw [IntKind.wrap_u64]; omega))) fun a hS => ?_
 refine sv_r (v := pt g11 2) hS (ex_fo (hS.get 2 rfl) fo_impl_Media_2 rfl) fun a hS => ?_
 refine sv_r (v := dl) hS (ex_ld (hS.get 67 rfl) lt_sl_impl_Segment (cell_of_heap (v := dl) (hS.at 0 rfl) rfl)) fun a hS => ?_
 refine sv_r (v := .int .i64 ((ys.length : Nat) : Int)) hS (ex_lenO Tryz.underlying33 (hS.get 68 rfl) hI.own) fun a hS => ?_
 refine sv_r (v := .int .i64 ((cap : Nat) : Int)) hS (by rw [hcap]; exact ex_max (n := 1) rfl (hS.get 69 rfl)) fun a hS => ?_
 refine sv_r (v := .int .u64 ((cap : Nat) : Int)) hS (ex_cv (hS.get 70 rfl) (cv_int_uint _ (by rw [IntKind.wrap_u64]; omega))) fun a hS => ?_
 have hlt := hS.lt
 have hsz := hS.size
 refine sv_call (S := fun v w' => ∃ gp gs : Nat, v = .tuple #[pt gp 0, .nilIface] ∧ w12.heap.size ≤ gp ∧ w12.heap.size ≤ gs ∧ w'.heap[gp]? = some (.cells (newPq gs cap).cells 72 (0, 0)) ∧ RowAt gs cap w') hS rfl rfl (by decide) (ex_call2 cf_m3u8_NewMediaPlaylist (hS.get 66 rfl) (hS.get 71 rfl)) (Calls.mono (newMedia_any cap (by omega) w12) (by rintro e w' ⟨v, rfl, hb, gp, gs, hv, h1, h2, h3, h4⟩; exact ⟨v, rfl, hb, gp, gs, hv, h1, h2, h3, ⟨h4⟩⟩)) ?_
 rintro a vx w13 ⟨gp, gs, rfl, hgpl, hgsl, hgp, hR⟩ hbw13 hS
 replace hI := hI.ty (TyOnly.of_below (ts := []) hbw13) (by decide)
 have hgt := hS.addN hgp hlt hgpl hsz
 replace hS : Sv 201 ((72, .tuple #[pt gp 0, .nilIface]) :: (71, .int .u64 ((cap : Nat) : Int)) :: (70, .int .i64 ((cap : Nat) : Int)) :: (69, .int .i64 ((ys.length : Nat) : Int)) :: (68, dl) :: (67, pt g11 2) :: (66, .int .u64 0) :: (65, .int .i64 0) :: (64, pt g11 13) :: (62, .bool false) :: (5, .bool false) :: (4, .string (⟨#[]⟩)) :: (2, pt g11 0) :: (1, .bool false) :: []) [⟨gp, (newPq gs cap).cells, 72, true⟩, ⟨g11, (m.icells s dl), 37, true⟩] (fun _ => False) w a w13 := hgt.pick rfl
 clear hgt
 refine sv_r (v := .tuple #[pt gp 0, .nilIface]) hS (ex_mv (hS.get 72 rfl)) fun a hS => ?_
 refine sv_r (v := pt gp 0) hS (ei_ext (hS.get 63 rfl) rfl) fun a hS => ?_
 refine sv_r (v := .nilIface) hS (ei_ext (hS.get 63 rfl) rfl) fun a hS => ?_
 refine sv_r (v := pt gp 0) hS (ex_as (hS.get 73 rfl)) fun a hS => ?_
 refine sv_r (v := .nilIface) hS (ex_as (hS.get 74 rfl)) fun a hS => ?_
 refine wpList_nil ?_
 replace hS := hS.cut [7, 6, 62, 5, 4, 2, 1]
 show Code.wp _ _ _ _ _
 refine wp_seq ?_
 refine wp_seq ?_
 refine wp_region_lit ?_
 refine sv_r (v := .nilIface) hS (ex_mv (hS.get 7 rfl)) fun a hS => ?_
 refine sv_r (v := .bool false) hS (ex_ine eqi_error (hS.get 75 rfl)) fun a hS => ?_
 refine wpList_nil ?_
 replace hS := hS.cut [76, 6, 62, 5, 4, 2, 1]
 show Code.wp _ _ _ _ _
 refine cond_f (hS.get 76 rfl) ?_
 refine wp_skip ?_
 show Code.wp _ _ _ _ _
 refine wp_seq ?_
 refine wp_region_lit ?_
 refine sv_r (v := pt gp 0) hS (ex_mv (hS.get 6 rfl)) fun a hS => ?_
 refine sv_r (v := pt g11 1) hS (ex_fo (hS.get 2 rfl) fo_impl_Media_1 rfl) fun a hS => ?_
 refine sv_r (v := .int .u64 ((m.seq : Nat) : Int)) hS (ex_ld (hS.get 78 rfl) lt_uint64 (cell_of_heap (v := .int .u64 ((m.seq : Nat) : Int)) (hS.at 1 rfl) rfl)) fun a hS => ?_
 refine sv_r (v := pt gp 0) hS (ex_nc (hS.get 77 rfl)) fun a hS => ?_
 refine sv_r (v := pt gp 1) hS (ex_fo (hS.get 80 rfl) fo_m3u8_MediaPlaylist_1 rfl) fun a hS => ?_
 refine sv_st (i := 0) (v := .int .u64 ((m.seq : Nat) : Int)) (cs' := #[.float .f64 0, .int .u64 ((m.seq : Nat) : Int), .slice (some ⟨gs, 0, none⟩) cap cap, .string (⟨#[]⟩), .bool false, .bool false, .int .u64 0, .int .u64 0, .float .f64 0, .bool false, .bool false, .int .i64 0, .int .u64 0, .int .u64 ((cap : Nat) : Int), .int .u64 0, .int .u64 0, .int .u64 0, .slice none 0 0, .int .i64 0, .int .i8 0, .int .u8 3, .pointer none, .pointer none]) (m' := [⟨gp, #[.float .f64 0, .int .u64 ((m.seq : Nat) : Int), .slice (some ⟨gs, 0, none⟩) cap cap, .string (⟨#[]⟩), .bool false, .bool false, .int .u64 0, .int .u64 0, .float .f64 0, .bool false, .bool false, .int .i64 0, .int .u64 0, .int .u64 ((cap : Nat) : Int), .int .u64 0, .int .u64 0, .int .u64 0, .slice none 0 0, .int .i64 0, .int .i8 0, .int .u8 3, .pointer none, .pointer none], 72, true⟩, ⟨g11, (m.icells s dl), 37, true⟩]) hS (su_uint64 _) (hS.get 81 rfl) (hS.get 79 rfl) rfl (show 1 < 23 from by decide) rfl rfl ?_
 intro w14 hty hS
 replace hI := hI.ty hty (by decide)
 replace hR := hR.ty hty (by decide)
 refine wpList_nil ?_
 replace hS := hS.cut [76, 6, 62, 5, 4, 2, 1]
 show Code.wp _ _ _ _ _
 refine wp_seq ?_
 refine wp_region_lit ?_
 refine sv_r (v := pt gp 0) hS (ex_mv (hS.get 6 rfl)) fun a hS => ?_
 refine sv_r (v := pt g11 0) hS (ex_fo (hS.get 2 rfl) fo_impl_Media_0 rfl) fun a hS => ?_
 refine sv_r (v := .float .f64 (floatOfInt .f64 ((m.target : Nat) : Int))) hS (ex_ld (hS.get 83 rfl) lt_float64 (cell_of_heap (v := .float .f64 (floatOfInt .f64 ((m.target : Nat) : Int))) (hS.at 1 rfl) rfl)) fun a hS => ?_
 refine sv_r (v := pt gp 0) hS (ex_nc (hS.get 82 rfl)) fun a hS => ?_
 refine sv_r (v := pt gp 0) hS (ex_fo (hS.get 85 rfl) fo_m3u8_MediaPlaylist_0 rfl) fun a hS => ?_
 refine sv_st (i := 0) (v := .float .f64 (floatOfInt .f64 ((m.target : Nat) : Int))) (cs' := #[.float .f64 (floatOfInt .f64 ((m.target : Nat) : Int)), .int .u64 ((m.seq : Nat) : Int), .slice (some ⟨gs, 0, none⟩) cap cap, .string (⟨#[]⟩), .bool false, .bool false, .int .u64 0, .int .u64 0, .float .f64 0, .bool false, .bool false, .int .i64 0, .int .u64 0, .int .u64 ((cap : Nat) : Int), .int .u64 0, .int .u64 0, .int .u64 0, .slice none 0 0, .int .i64 0, .int .i8 0, .int .u8 3, .pointer none, .pointer none]) (m' := [⟨gp, #[.float .f64 (floatOfInt .f64 ((m.target : Nat) : Int)), .int .u64 ((m.seq : Nat) : Int), .slice (some ⟨gs, 0, none⟩) cap cap, .string (⟨#[]⟩), .bool false, .bool false, .int .u64 0, .int .u64 0, .float .f64 0, .bool false, .bool false, .int .i64 0, .int .u64 0, .int .u64 ((cap : Nat) : Int), .int .u64 0, .int .u64 0, .int .u64 0, .slice none 0 0, .int .i64 0, .int .i8 0, .int .u8 3, .pointer none, .pointer none], 72, true⟩, ⟨g11, (m.icells s dl), 37, true⟩]) hS (su_float64 _) (hS.get 86 rfl) (hS.get 84 rfl) rfl (show 0 < 23 from by decide) rfl rfl ?_
 intro w15 hty hS
 replace hI := hI.ty hty (by decide)
 replace hR := hR.ty hty (by decide)
 refine wpList_nil ?_
 replace hS := hS.cut [76, 6, 62, 5, 4, 2, 1]
 show Code.wp _ _ _ _ _
 refine wp_seq ?_
 refine wp_seq ?_
 refine wp_region_lit ?_
 refine sv_r (v := pt g11 2) hS (ex_fo (hS.get 2 rfl) fo_impl_Media_2 rfl) fun a hS => ?_
 refine sv_r (v := dl) hS (ex_ld (hS.get 87 rfl) lt_sl_impl_Segment (cell_of_heap (v := dl) (hS.at 1 rfl) rfl)) fun a hS => ?_
 refine sv_r (v := .int .i64 ((ys.length : Nat) : Int)) hS (ex_lenO Tryz.underlying33 (hS.get 88 rfl) hI.own) fun a hS => ?_
 refine sv_r (v := .int .i64 0) hS ex_mc fun a hS => ?_
 refine wpList_nil ?_
 replace hS := hS.cut [90, 89, 88, 76, 6, 62, 5, 4, 2, 1]
 show Code.wp _ _ _ _ _
 obtain ⟨P0, hP0⟩ : ∃ P0, P0 = (⟨floatOfInt .f64 ((m.target : Nat) : Int), m.seq, .slice none 0 0, ⟨#[]⟩, false, false, 0, 0, 0, false, cap, 0, 0, 3, .pointer none, .pointer none⟩ : Pq) := ⟨_, rfl⟩
 have hWI : WmI w P0 gp gs g11 B0 (m.icells s dl) dl ys 0 w15 := by
  refine ⟨hS.toBelow, ?_, ?_, ?_, hS.at 1 rfl, hI, _, [], ⟨by rw [hP0]; exact List.length_replicate, hR.cells, (by intro i q hq; simp at hq), rfl, rfl⟩⟩
  ·rcases hS.wr _ (List.mem_of_getElem? (show _[0]? = some _ from rfl)) rfl with h | h; (· exact h.elim); (· exact h)
  ·omega
  ·rw [hP0]; have hpp := hS.at 0 rfl; unfold Pq.after; rw [Nat.zero_mod]; exact hpp
 have hPc : P0.cap = cap := by rw [hP0]
 have hPs : P0.seq = m.seq := by rw [hP0]
 have hPt : P0.tgt = floatOfInt .f64 ((m.target : Nat) : Int) := by rw [hP0]
 have hE : Ev 201 ((90, .int .i64 ((0 : Nat) : Int)) :: (89, .int .i64 ((ys.length : Nat) : Int)) :: (2, pt g11 0) :: (6, pt gp 0) :: (88, dl) :: (1, .bool false) :: []) a := hS.ev.pick rfl
 clear hI hR
 refine range_wp (N := 201) (n := ys.length) (l := (2, pt g11 0) :: (6, pt gp 0) :: (88, dl) :: (1, .bool false) :: []) (fun k w' => WmI w P0 gp gs g11 B0 (m.icells s dl) dl ys k w') (by omega) hE hWI rfl (by decide) (by decide) ?_ ?_
 ·clear hE hS hWI
  rintro k a w16 hk hE hWI Q' hQ'
  have hS : Sv 201 ((90, .int .i64 ((k : Nat) : Int)) :: (89, .int .i64 ((ys.length : Nat) : Int)) :: (2, pt g11 0) :: (6, pt gp 0) :: (88, dl) :: (1, .bool false) :: []) [] (fun _ => False) w16 a w16 := Sv.start hE _ _
  have hI := hWI.at_
  obtain ⟨y, hyk⟩ : ∃ y, ys[k]? = some y := ⟨_, List.getElem?_eq_getElem hk⟩
  have hym := List.mem_of_getElem? hyk
  obtain ⟨hyS, hyC⟩ := hyE y hym
  have hyA := hI.ats y hym
  refine wp_block ?_
  refine wp_seq ?_
  refine wp_region_lit ?_
  refine sv_elem (n := k) ag_impl_Segment Tryz.underlying33 (fun _ => rfl) (by decide) hS hI.own hyk (hS.get 88 rfl) (hS.get 90 rfl) (by decide) (by decide) ?_ rfl (by decide)
  intro a hS
  clear hI
  refine sv_al hS al_impl_Segment (by decide) ?_
  intro g17 a w18 hg17 hbw18 hwg17 hS
  replace hyA := hyA.ty (TyOnly.of_below (ts := []) hbw18) (by decide)
  refine sv_sb (i := 0) (m' := [⟨g17, y.cells, 55, true⟩]) hS ag_impl_Segment (hS.get 9 rfl) (hS.get 93 rfl) rfl rfl rfl hyA.one rfl ?_
  intro w19 hty hS
  replace hyA := hyA.ty hty (by decide)
  refine wpList_nil ?_
  replace hS := hS.cut [9, 90, 89, 2, 6, 88, 1]
  show Code.wp _ _ _ _ _
  refine wp_seq ?_
  refine wp_seq ?_
  refine wp_region_lit ?_
  refine sv_r (v := pt g17 3) hS (ex_fo (hS.get 9 rfl) fo_impl_Segment_3 rfl) fun a hS => ?_
  refine sv_r (v := .float .f64 (e8 y.s.e)) hS (ex_ld (hS.get 94 rfl) lt_float64 (cell_of_heap (v := .float .f64 (e8 y.s.e)) (hS.at 0 rfl) rfl)) fun a hS => ?_
  refine sv_callq (v := .bool true) hS rfl rfl (by decide) (ex_call1 cf_impl_plainNumber (hS.get 95 rfl)) (plain_any _ (rate_plain (by have := hyS.e; omega)) _) ?_
  intro a hS
  refine sv_r (v := .bool false) hS (ex_not (hS.get 96 rfl)) fun a hS => ?_
  refine wpList_nil ?_
  replace hS := hS.cut [97, 9, 90, 89, 2, 6, 88, 1]
  show Code.wp _ _ _ _ _
  refine cond_f (hS.get 97 rfl) ?_
  refine wp_skip ?_
  show Code.wp _ _ _ _ _
  refine wp_seq ?_
  have hbk : Below w16.heap.size w16 w19 := hS.toBelow
  refine wm_cues y g17 _ _ _ _ _ _ a w19 (hS.ev.pick (l' := ((2, pt g11 0) :: (6, pt gp 0) :: (88, dl) :: (89, .int .i64 ((ys.length : Nat) : Int)) :: (90, .int .i64 ((k : Nat) : Int)) :: (1, .bool false) :: (9, pt g17 0) :: [])) rfl) (hS.at 0 rfl) hyA.c (fun c hc => (hyC c hc).1) _ ?_
  intro a w20 hE hbc
  show Code.wp _ _ _ _ _
  replace hyA := hyA.ty (TyOnly.of_below (ts := []) hbc) (by decide)
  have h9 : w20.heap[g17]? = some (.cells y.cells 55 (0, 0)) := (below_ty hbc).keep (hS.at 0 rfl) rfl
  have hbk : Below w16.heap.size w16 w20 := hbk.trans (hbc.mono hbk.size)
  clear hS
  have hS : Sv 201 ((2, pt g11 0) :: (6, pt gp 0) :: (88, dl) :: (89, .int .i64 ((ys.length : Nat) : Int)) :: (90, .int .i64 ((k : Nat) : Int)) :: (1, .bool false) :: (9, pt g17 0) :: []) [] (fun _ => False) w20 a w20 := Sv.start hE _ _
  replace hS : Sv 201 ((2, pt g11 0) :: (6, pt gp 0) :: (88, dl) :: (89, .int .i64 ((ys.length : Nat) : Int)) :: (90, .int .i64 ((k : Nat) : Int)) :: (1, .bool false) :: (9, pt g17 0) :: []) [⟨g17, y.cells, 55, false⟩] (fun _ => False) w20 a w20 := (hS.addR h9 (by intro b hb; cases hb)).pick rfl
  refine wp_seq ?_
  refine wp_region_lit ?_
  refine sv_r (v := pt gp 0) hS (ex_mv (hS.get 6 rfl)) fun a hS => ?_
  refine sv_r (v := .agg y.cells) hS (ex_lb ag_impl_Segment (hS.get 9 rfl) (hS.at 0 rfl) rfl) fun a hS => ?_
  refine sv_call (S := fun v w' => ∃ (g : Nat) (z : Mz), v = pt g 0 ∧ w20.heap.size ≤ g ∧ z.s = y.s ∧ z.c = y.c ∧ z.seq = 0 ∧ w'.heap[g]? = some (.cells z.cells 104 (0, 0)) ∧ z.At w') hS rfl rfl (by decide) (ex_call1 cf_impl_segmentTo (hS.get 137 rfl)) (segmentTo_any y (fun c hc => (hyC c hc).1) w20 hyA) ?_
  rintro a v w21 ⟨gz, z, rfl, hgz, hzs, hzc, _, hz, hzA⟩ hbz hS
  have hst := wm_step hWI hyk (by rw [hPc]; omega) (by rw [hPc]; omega) (by rw [hPs]; omega) (by rw [hPt]; exact tgt_lt hm2 hm2' hyS.e) (hbk.trans (hbz.mono hbk.size)) (Nat.le_trans hbk.size hgz) hz hzA hzs hzc
  refine ev_call (S := fun v w' => v = .nilIface ∧ WmI w P0 gp gs g11 B0 (m.icells s dl) dl ys (k + 1) w') hS.ev rfl rfl (by decide) (ex_call2 cf_m3u8_MediaPlaylist_AppendSegment (hS.get 136 rfl) (hS.get 138 rfl)) (Calls.mono hst (by rintro e w' ⟨rfl, h⟩; exact ⟨_, rfl, rfl, h⟩)) ?_
  rintro a v w22 ⟨rfl, hWN⟩ hE
  clear hS
  have hS : Sv 201 ((139, .nilIface) :: (138, pt gz 0) :: (137, .agg y.cells) :: (136, pt gp 0) :: (2, pt g11 0) :: (6, pt gp 0) :: (88, dl) :: (89, .int .i64 ((ys.length : Nat) : Int)) :: (90, .int .i64 ((k : Nat) : Int)) :: (1, .bool false) :: (9, pt g17 0) :: []) [] (fun _ => False) w22 a w22 := Sv.start hE _ _
  refine sv_r (v := .nilIface) hS (ex_as (hS.get 139 rfl)) fun a hS => ?_
  refine wpList_nil ?_
  replace hS := hS.cut [12, 2, 6, 88, 89, 90, 1, 9]
  show Code.wp _ _ _ _ _
  refine wp_seq ?_
  refine wp_region_lit ?_
  refine sv_r (v := .nilIface) hS (ex_mv (hS.get 12 rfl)) fun a hS => ?_
  refine sv_r (v := .bool false) hS (ex_ine eqi_error (hS.get 140 rfl)) fun a hS => ?_
  refine wpList_nil ?_
  replace hS := hS.cut [141, 2, 6, 88, 89, 90, 1, 9]
  show Code.wp _ _ _ _ _
  refine cond_f (hS.get 141 rfl) ?_
  refine wp_skip ?_
  show Q' .normal a w22
  exact hQ' a w22 (hS.ev.pick rfl) hWN
 ·clear hE hS hWI
  rintro a w23 hE hWI
  have hS : Sv 201 ((90, .int .i64 ((ys.length : Nat) : Int)) :: (89, .int .i64 ((ys.length : Nat) : Int)) :: (2, pt g11 0) :: (6, pt gp 0) :: (88, dl) :: (1, .bool false) :: []) [] (fun x => x = gp) w23 a w23 := Sv.start hE _ _
  have hI := hWI.at_
  replace hS : Sv 201 ((90, .int .i64 ((ys.length : Nat) : Int)) :: (89, .int .i64 ((ys.length : Nat) : Int)) :: (2, pt g11 0) :: (6, pt gp 0) :: (88, dl) :: (1, .bool false) :: []) [⟨g11, m.icells s dl, 37, false⟩] (fun x => x = gp) w23 a w23 := (hS.addR hWI.med (by intro b hb; cases hb)).pick rfl
  have hpc : w23.heap[gp]? = some (.cells (⟨floatOfInt .f64 ((m.target : Nat) : Int), m.seq, .slice (some ⟨gs, 0, none⟩) cap cap, ⟨#[]⟩, false, false, 0, 0, 0, false, cap, ys.length % cap, ys.length, 3, .pointer none, .pointer none⟩ : Pq).cells 72 (0, 0)) := by have h := hWI.hp; rw [hP0] at h; exact h
  replace hS : Sv 201 ((90, .int .i64 ((ys.length : Nat) : Int)) :: (89, .int .i64 ((ys.length : Nat) : Int)) :: (2, pt g11 0) :: (6, pt gp 0) :: (88, dl) :: (1, .bool false) :: []) [⟨gp, (⟨floatOfInt .f64 ((m.target : Nat) : Int), m.seq, .slice (some ⟨gs, 0, none⟩) cap cap, ⟨#[]⟩, false, false, 0, 0, 0, false, cap, ys.length % cap, ys.length, 3, .pointer none, .pointer none⟩ : Pq).cells, 72, true⟩, ⟨g11, (m.icells s dl), 37, false⟩] (fun x => x = gp) w23 a w23 := (hS.addB hpc (hS.neT hpc rfl) (fun _ => .inl rfl)).pick rfl
  show Code.wp _ _ _ _ _
  refine wp_seq ?_
  let cf24 : Nat → Array Value := fun k : Nat => if k = 0 then (⟨floatOfInt .f64 ((m.target : Nat) : Int), m.seq, .slice (some ⟨gs, 0, none⟩) cap cap, ⟨#[]⟩, false, false, 0, 0, 0, false, cap, ys.length % cap, ys.length, 3, .pointer none, .pointer none⟩ : Pq).cells else if k = 1 then #[.float .f64 (floatOfInt .f64 ((m.target : Nat) : Int)), .int .u64 ((m.seq : Nat) : Int), .slice (some ⟨gs, 0, none⟩) cap cap, .string s, .bool false, .bool false, .int .u64 0, .int .u64 0, .float .f64 0, .bool false, .bool false, .int .i64 0, .int .u64 0, .int .u64 ((cap : Nat) : Int), .int .u64 0, .int .u64 ((ys.length % cap : Nat) : Int), .int .u64 ((ys.length : Nat) : Int), .slice none 0 0, .int .i64 0, .int .i8 0, .int .u8 3, .pointer none, .pointer none] else if k = 2 then #[.float .f64 (floatOfInt .f64 ((m.target : Nat) : Int)), .int .u64 ((m.seq : Nat) : Int), .slice (some ⟨gs, 0, none⟩) cap cap, .string s, .bool (m.iframe), .bool false, .int .u64 0, .int .u64 0, .float .f64 0, .bool false, .bool false, .int .i64 0, .int .u64 0, .int .u64 ((cap : Nat) : Int), .int .u64 0, .int .u64 ((ys.length % cap : Nat) : Int), .int .u64 ((ys.length : Nat) : Int), .slice none 0 0, .int .i64 0, .int .i8 0, .int .u8 3, .pointer none, .pointer none] else if k = 3 then #[.float .f64 (floatOfInt .f64 ((m.target : Nat) : Int)), .int .u64 ((m.seq : Nat) : Int), .slice (some ⟨gs, 0, none⟩) cap cap, .string s, .bool (m.iframe), .bool (m.closed), .int .u64 0, .int .u64 0, .float .f64 0, .bool false, .bool false, .int .i64 0, .int .u64 0, .int .u64 ((cap : Nat) : Int), .int .u64 0, .int .u64 ((ys.length % cap : Nat) : Int), .int .u64 ((ys.length : Nat) : Int), .slice none 0 0, .int .i64 0, .int .i8 0, .int .u8 3, .pointer none, .pointer none] else if k = 4 then #[.float .f64 (floatOfInt .f64 ((m.target : Nat) : Int)), .int .u64 ((m.seq : Nat) : Int), .slice (some ⟨gs, 0, none⟩) cap cap, .string s, .bool (m.iframe), .bool (m.closed), .int .u64 ((m.typ : Nat) : Int), .int .u64 0, .float .f64 0, .bool false, .bool false, .int .i64 0, .int .u64 0, .int .u64 ((cap : Nat) : Int), .int .u64 0, .int .u64 ((ys.length % cap : Nat) : Int), .int .u64 ((ys.length : Nat) : Int), .slice none 0 0, .int .i64 0, .int .i8 0, .int .u8 3, .pointer none, .pointer none] else #[.float .f64 (floatOfInt .f64 ((m.target : Nat) : Int)), .int .u64 ((m.seq : Nat) : Int), .slice (some ⟨gs, 0, none⟩) cap cap, .string s, .bool (m.iframe), .bool (m.closed), .int .u64 ((m.typ : Nat) : Int), .int .u64 ((m.disc : Nat) : Int), .float .f64 0, .bool false, .bool false, .int .i64 0, .int .u64 0, .int .u64 ((cap : Nat) : Int), .int .u64 0, .int .u64 ((ys.length % cap : Nat) : Int), .int .u64 ((ys.length : Nat) : Int), .slice none 0 0, .int .i64 0, .int .i8 0, .int .u8 3, .pointer none, .pointer none]
  refine G2.wp_region_sto (N := 201) [G2.Ast.eq (pt gp 0), G2.Ast.eq (pt gp 0), G2.Ast.eq (pt gp 0), G2.Ast.eq (pt gp 0), G2.Ast.eq (pt gp 0), G2.Ast.eq (pt g11 3), G2.Ast.eq (.string s), G2.Ast.eq (pt g11 4), G2.Ast.eq (.bool (m.iframe)), G2.Ast.eq (pt g11 5), G2.Ast.eq (.bool (m.closed)), G2.Ast.eq (pt g11 6), G2.Ast.eq (.int .i64 ((m.typ : Nat) : Int)), G2.Ast.eq (.int .u64 ((m.typ : Nat) : Int)), G2.Ast.eq (pt g11 7), G2.Ast.eq (.int .u64 ((m.disc : Nat) : Int)), G2.Ast.eq (pt gp 0), G2.Ast.eq (pt gp 3), G2.Ast.sto 1, G2.Ast.eq (pt gp 0), G2.Ast.eq (pt gp 4), G2.Ast.sto 2, G2.Ast.eq (pt gp 0), G2.Ast.eq (pt gp 5), G2.Ast.sto 3, G2.Ast.eq (pt gp 0), G2.Ast.eq (pt gp 6), G2.Ast.sto 4, G2.Ast.eq (pt gp 0), G2.Ast.eq (pt gp 7), G2.Ast.sto 5] gp 72 5 cf24 (by kernel_rfl) (by kernel_rfl) (by kernel_rfl) hS.ev.size (by simp) ?_ ?_
  ·refine ⟨?_, ?_, ?_, ?_, ?_, ?_, ?_, ?_, ?_, ?_, ?_, ?_, ?_, ?_, ?_, ?_, ?_, ?_, ?_, ?_, ?_, ?_, ?_, ?_, ?_, ?_, ?_, ?_, ?_, ?_, ?_, trivial⟩
   ·intro a wx c
    have e_6 : a.eval (.tmp 6) = pt gp 0 := c.outE (by decide +kernel) (hS.get 6 rfl)
    clear c
    exact G2.og_val (ex_mv e_6) rfl
   ·intro a wx c
    have e_6 : a.eval (.tmp 6) = pt gp 0 := c.outE (by decide +kernel) (hS.get 6 rfl)
    clear c
    exact G2.og_val (ex_mv e_6) rfl
   ·intro a wx c
    have e_6 : a.eval (.tmp 6) = pt gp 0 := c.outE (by decide +kernel) (hS.get 6 rfl)
    clear c
    exact G2.og_val (ex_mv e_6) rfl
   ·intro a wx c
    have e_6 : a.eval (.tmp 6) = pt gp 0 := c.outE (by decide +kernel) (hS.get 6 rfl)
    clear c
    exact G2.og_val (ex_mv e_6) rfl
   ·intro a wx c
    have e_6 : a.eval (.tmp 6) = pt gp 0 := c.outE (by decide +kernel) (hS.get 6 rfl)
    clear c
    exact G2.og_val (ex_mv e_6) rfl
   ·intro a wx c
    have e_2 : a.eval (.tmp 2) = pt g11 0 := c.outE (by decide +kernel) (hS.get 2 rfl)
    clear c
    exact G2.og_val (ex_fo e_2 fo_impl_Media_3 rfl) rfl
   ·intro a wx c
    have e_148 : a.eval (.tmp 148) = pt g11 3 := c.slot 5 _ (by decide +kernel) rfl
    have hK1 := G2.sto_keep hS c 1 rfl (hS.neq 1 0 rfl rfl (by decide))
    clear c
    exact G2.og_val (ex_ld e_148 lt_string (cell_of_heap (v := .string s) hK1 rfl)) rfl
   ·intro a wx c
    have e_2 : a.eval (.tmp 2) = pt g11 0 := c.outE (by decide +kernel) (hS.get 2 rfl)
    clear c
    exact G2.og_val (ex_fo e_2 fo_impl_Media_4 rfl) rfl
   ·intro a wx c
    have e_150 : a.eval (.tmp 150) = pt g11 4 := c.slot 7 _ (by decide +kernel) rfl
    have hK1 := G2.sto_keep hS c 1 rfl (hS.neq 1 0 rfl rfl (by decide))
    clear c
    exact G2.og_val (ex_ld e_150 lt_bool (cell_of_heap (v := .bool (m.iframe)) hK1 rfl)) rfl
   ·intro a wx c
    have e_2 : a.eval (.tmp 2) = pt g11 0 := c.outE (by decide +kernel) (hS.get 2 rfl)
    clear c
    exact G2.og_val (ex_fo e_2 fo_impl_Media_5 rfl) rfl
   ·intro a wx c
    have e_152 : a.eval (.tmp 152) = pt g11 5 := c.slot 9 _ (by decide +kernel) rfl
    have hK1 := G2.sto_keep hS c 1 rfl (hS.neq 1 0 rfl rfl (by decide))
    clear c
    exact G2.og_val (ex_ld e_152 lt_bool (cell_of_heap (v := .bool (m.closed)) hK1 rfl)) rfl
   ·intro a wx c
    have e_2 : a.eval (.tmp 2) = pt g11 0 := c.outE (by decide +kernel) (hS.get 2 rfl)
    clear c
    exact G2.og_val (ex_fo e_2 fo_impl_Media_6 rfl) rfl
   ·intro a wx c
    have e_154 : a.eval (.tmp 154) = pt g11 6 := c.slot 11 _ (by decide +kernel) rfl
    have hK1 := G2.sto_keep hS c 1 rfl (hS.neq 1 0 rfl rfl (by decide))
    clear c
    exact G2.og_val (ex_ld e_154 lt_int (cell_of_heap (v := .int .i64 ((m.typ : Nat) : Int)) hK1 rfl)) rfl
   ·intro a wx c
    have e_155 : a.eval (.tmp 155) = .int .i64 ((m.typ : Nat) : Int) := c.slot 12 _ (by decide +kernel) rfl
    clear c
    exact G2.og_val (ex_cv e_155 (cv_int_m3u8_MediaType _ (by rw [IntKind.wrap_u64]; omega))) rfl
   ·intro a wx c
    have e_2 : a.eval (.tmp 2) = pt g11 0 := c.outE (by decide +kernel) (hS.get 2 rfl)
    clear c
    exact G2.og_val (ex_fo e_2 fo_impl_Media_7 rfl) rfl
   ·intro a wx c
    have e_157 : a.eval (.tmp 157) = pt g11 7 := c.slot 14 _ (by decide +kernel) rfl
    have hK1 := G2.sto_keep hS c 1 rfl (hS.neq 1 0 rfl rfl (by decide))
    clear c
    exact G2.og_val (ex_ld e_157 lt_uint64 (cell_of_heap (v := .int .u64 ((m.disc : Nat) : Int)) hK1 rfl)) rfl
   ·intro a wx c
    have e_143 : a.eval (.tmp 143) = pt gp 0 := c.slot 0 _ (by decide +kernel) rfl
    clear c
    exact G2.og_val (ex_nc e_143) rfl
   ·intro a wx c
    have e_159 : a.eval (.tmp 159) = pt gp 0 := c.slot 16 _ (by decide +kernel) rfl
    clear c
    exact G2.og_val (ex_fo e_159 fo_m3u8_MediaPlaylist_3 rfl) rfl
   ·intro a wx c
    have e_160 : a.eval (.tmp 160) = pt gp 3 := c.slot 17 _ (by decide +kernel) rfl
    have e_149 : a.eval (.tmp 149) = .string s := c.slot 6 _ (by decide +kernel) rfl
    have ms3 := G2.sto_first hS c 0 rfl rfl (by kernel_rfl)
    clear c
    exact G2.og_sto (k := 1) (m := 0) (m' := 1) (off := 3) rfl ms3 (su_string _) e_160 e_149 (show 3 < 23 from by decide) rfl (by decide) (by decide)
   ·intro a wx c
    have e_144 : a.eval (.tmp 144) = pt gp 0 := c.slot 1 _ (by decide +kernel) rfl
    clear c
    exact G2.og_val (ex_nc e_144) rfl
   ·intro a wx c
    have e_161 : a.eval (.tmp 161) = pt gp 0 := c.slot 19 _ (by decide +kernel) rfl
    clear c
    exact G2.og_val (ex_fo e_161 fo_m3u8_MediaPlaylist_4 rfl) rfl
   ·intro a wx c
    have e_162 : a.eval (.tmp 162) = pt gp 4 := c.slot 20 _ (by decide +kernel) rfl
    have e_151 : a.eval (.tmp 151) = .bool (m.iframe) := c.slot 8 _ (by decide +kernel) rfl
    obtain ⟨mi, ms1, ms2, ms3⟩ : ∃ mi, 1 ≤ mi ∧ mi ≤ 5 ∧ wx.heap[gp]? = some (.cells (cf24 mi) 72 (0, 0)) := c.slot 18 _ (by decide +kernel) rfl
    clear c
    have hmm : mi = 1 ∨ mi = 2 ∨ mi = 3 ∨ mi = 4 ∨ mi = 5 := by omega
    rcases hmm with rfl | rfl | rfl | rfl | rfl
    ·exact G2.og_sto (k := 2) (m := 1) (m' := 2) (off := 4) rfl ms3 (su_bool _) e_162 e_151 (show 4 < 23 from by decide) rfl (by decide) (by decide)
    ·exact G2.og_sto (k := 2) (m := 2) (m' := 2) (off := 4) rfl ms3 (su_bool _) e_162 e_151 (show 4 < 23 from by decide) rfl (by decide) (by decide)
    ·exact G2.og_sto (k := 2) (m := 3) (m' := 3) (off := 4) rfl ms3 (su_bool _) e_162 e_151 (show 4 < 23 from by decide) rfl (by decide) (by decide)
    ·exact G2.og_sto (k := 2) (m := 4) (m' := 4) (off := 4) rfl ms3 (su_bool _) e_162 e_151 (show 4 < 23 from by decide) rfl (by decide) (by decide)
    ·exact G2.og_sto (k := 2) (m := 5) (m' := 5) (off := 4) rfl ms3 (su_bool _) e_162 e_151 (show 4 < 23 from by decide) rfl (by decide) (by decide)
   ·intro a wx c
    have e_145 : a.eval (.tmp 145) = pt gp 0 := c.slot 2 _ (by decide +kernel) rfl
    clear c
    exact G2.og_val (ex_nc e_145) rfl
   ·intro a wx c
    have e_163 : a.eval (.tmp 163) = pt gp 0 := c.slot 22 _ (by decide +kernel) rfl
    clear c
    exact G2.og_val (ex_fo e_163 fo_m3u8_MediaPlaylist_5 rfl) rfl
   ·intro a wx c
    have e_164 : a.eval (.tmp 164) = pt gp 5 := c.slot 23 _ (by decide +kernel) rfl
    have e_153 : a.eval (.tmp 153) = .bool (m.closed) := c.slot 10 _ (by decide +kernel) rfl
    obtain ⟨mi, ms1, ms2, ms3⟩ : ∃ mi, 2 ≤ mi ∧ mi ≤ 5 ∧ wx.heap[gp]? = some (.cells (cf24 mi) 72 (0, 0)) := c.slot 21 _ (by decide +kernel) rfl
    clear c
    have hmm : mi = 2 ∨ mi = 3 ∨ mi = 4 ∨ mi = 5 := by omega
    rcases hmm with rfl | rfl | rfl | rfl
    ·exact G2.og_sto (k := 3) (m := 2) (m' := 3) (off := 5) rfl ms3 (su_bool _) e_164 e_153 (show 5 < 23 from by decide) rfl (by decide) (by decide)
    ·exact G2.og_sto (k := 3) (m := 3) (m' := 3) (off := 5) rfl ms3 (su_bool _) e_164 e_153 (show 5 < 23 from by decide) rfl (by decide) (by decide)
    ·exact G2.og_sto (k := 3) (m := 4) (m' := 4) (off := 5) rfl ms3 (su_bool _) e_164 e_153 (show 5 < 23 from by decide) rfl (by decide) (by decide)
    ·exact G2.og_sto (k := 3) (m := 5) (m' := 5) (off := 5) rfl ms3 (su_bool _) e_164 e_153 (show 5 < 23 from by decide) rfl (by decide) (by decide)
   ·intro a wx c
    have e_146 : a.eval (.tmp 146) = pt gp 0 := c.slot 3 _ (by decide +kernel) rfl
    clear c
    exact G2.og_val (ex_nc e_146) rfl
   ·intro a wx c
    have e_165 : a.eval (.tmp 165) = pt gp 0 := c.slot 25 _ (by decide +kernel) rfl
    clear c
    exact G2.og_val (ex_fo e_165 fo_m3u8_MediaPlaylist_6 rfl) rfl
   ·intro a wx c
    have e_166 : a.eval (.tmp 166) = pt gp 6 := c.slot 26 _ (by decide +kernel) rfl
    have e_156 : a.eval (.tmp 156) = .int .u64 ((m.typ : Nat) : Int) := c.slot 13 _ (by decide +kernel) rfl
    obtain ⟨mi, ms1, ms2, ms3⟩ : ∃ mi, 3 ≤ mi ∧ mi ≤ 5 ∧ wx.heap[gp]? = some (.cells (cf24 mi) 72 (0, 0)) := c.slot 24 _ (by decide +kernel) rfl
    clear c
    have hmm : mi = 3 ∨ mi = 4 ∨ mi = 5 := by omega
    rcases hmm with rfl | rfl | rfl
    ·exact G2.og_sto (k := 4) (m := 3) (m' := 4) (off := 6) rfl ms3 (su_m3u8_MediaType _) e_166 e_156 (show 6 < 23 from by decide) rfl (by decide) (by decide)
    ·exact G2.og_sto (k := 4) (m := 4) (m' := 4) (off := 6) rfl ms3 (su_m3u8_MediaType _) e_166 e_156 (show 6 < 23 from by decide) rfl (by decide) (by decide)
    ·exact G2.og_sto (k := 4) (m := 5) (m' := 5) (off := 6) rfl ms3 (su_m3u8_MediaType _) e_166 e_156 (show 6 < 23 from by decide) rfl (by decide) (by decide)
   ·intro a wx c
    have e_147 : a.eval (.tmp 147) = pt gp 0 := c.slot 4 _ (by decide +kernel) rfl
    clear c
    exact G2.og_val (ex_nc e_147) rfl
   ·intro a wx c
    have e_167 : a.eval (.tmp 167) = pt gp 0 := c.slot 28 _ (by decide +kernel) rfl
    clear c
    exact G2.og_val (ex_fo e_167 fo_m3u8_MediaPlaylist_7 rfl) rfl
   ·intro a wx c
    have e_168 : a.eval (.tmp 168) = pt gp 7 := c.slot 29 _ (by decide +kernel) rfl
    have e_158 : a.eval (.tmp 158) = .int .u64 ((m.disc : Nat) : Int) := c.slot 15 _ (by decide +kernel) rfl
    obtain ⟨mi, ms1, ms2, ms3⟩ : ∃ mi, 4 ≤ mi ∧ mi ≤ 5 ∧ wx.heap[gp]? = some (.cells (cf24 mi) 72 (0, 0)) := c.slot 27 _ (by decide +kernel) rfl
    clear c
    have hmm : mi = 4 ∨ mi = 5 := by omega
    rcases hmm with rfl | rfl
    ·exact G2.og_sto (k := 5) (m := 4) (m' := 5) (off := 7) rfl ms3 (su_uint64 _) e_168 e_158 (show 7 < 23 from by decide) rfl (by decide) (by decide)
    ·exact G2.og_sto (k := 5) (m := 5) (m' := 5) (off := 7) rfl ms3 (su_uint64 _) e_168 e_158 (show 7 < 23 from by decide) rfl (by decide) (by decide)
  ·intro a w25 c
   obtain ⟨mi, ms1, ms2, ms3⟩ : ∃ mi, 5 ≤ mi ∧ mi ≤ 5 ∧ w25.heap[gp]? = some (.cells (cf24 mi) 72 (0, 0)) := c.slot 30 _ rfl
   obtain rfl : mi = 5 := by omega
   have ms3 : w25.heap[gp]? = some (.cells #[.float .f64 (floatOfInt .f64 ((m.target : Nat) : Int)), .int .u64 ((m.seq : Nat) : Int), .slice (some ⟨gs, 0, none⟩) cap cap, .string s, .bool (m.iframe), .bool (m.closed), .int .u64 ((m.typ : Nat) : Int), .int .u64 ((m.disc : Nat) : Int), .float .f64 0, .bool false, .bool false, .int .i64 0, .int .u64 0, .int .u64 ((cap : Nat) : Int), .int .u64 0, .int .u64 ((ys.length % cap : Nat) : Int), .int .u64 ((ys.length : Nat) : Int), .slice none 0 0, .int .i64 0, .int .i8 0, .int .u8 3, .pointer none, .pointer none] 72 (0, 0)) := ms3
   obtain ⟨hS', hty⟩ := G2.sto_end (m' := [⟨gp, #[.float .f64 (floatOfInt .f64 ((m.target : Nat) : Int)), .int .u64 ((m.seq : Nat) : Int), .slice (some ⟨gs, 0, none⟩) cap cap, .string s, .bool (m.iframe), .bool (m.closed), .int .u64 ((m.typ : Nat) : Int), .int .u64 ((m.disc : Nat) : Int), .float .f64 0, .bool false, .bool false, .int .i64 0, .int .u64 0, .int .u64 ((cap : Nat) : Int), .int .u64 0, .int .u64 ((ys.length % cap : Nat) : Int), .int .u64 ((ys.length : Nat) : Int), .slice none 0 0, .int .i64 0, .int .i8 0, .int .u8 3, .pointer none, .pointer none], 72, true⟩, ⟨g11, (m.icells s dl), 37, false⟩]) hS c (i := 0) rfl rfl ms3
   replace hS : Sv 201 ((1, .bool false) :: (88, dl) :: (6, pt gp 0) :: (2, pt g11 0) :: (89, .int .i64 ((ys.length : Nat) : Int)) :: (90, .int .i64 ((ys.length : Nat) : Int)) :: []) [⟨gp, #[.float .f64 (floatOfInt .f64 ((m.target : Nat) : Int)), .int .u64 ((m.seq : Nat) : Int), .slice (some ⟨gs, 0, none⟩) cap cap, .string s, .bool (m.iframe), .bool (m.closed), .int .u64 ((m.typ : Nat) : Int), .int .u64 ((m.disc : Nat) : Int), .float .f64 0, .bool false, .bool false, .int .i64 0, .int .u64 0, .int .u64 ((cap : Nat) : Int), .int .u64 0, .int .u64 ((ys.length % cap : Nat) : Int), .int .u64 ((ys.length : Nat) : Int), .slice none 0 0, .int .i64 0, .int .i8 0, .int .u8 3, .pointer none, .pointer none], 72, true⟩, ⟨g11, (m.icells s dl), 37, false⟩] (fun x => x = gp) w23 a w25 := ((((((hS'.know (c.outS (by decide +kernel) (hS.get 90 rfl))).know (c.outS (by decide +kernel) (hS.get 89 rfl))).know (c.outS (by decide +kernel) (hS.get 2 rfl))).know (c.outS (by decide +kernel) (hS.get 6 rfl))).know (c.outS (by decide +kernel) (hS.get 88 rfl))).know (c.outS (by decide +kernel) (hS.get 1 rfl)))
   clear c hS'
   replace hS := hS.cut [1, 88, 6, 2, 89, 90]
   show Code.wp _ _ _ _ _
   refine wp_seq ?_
   let cf26 : Nat → Array Value := fun k : Nat => if k = 0 then #[.float .f64 (floatOfInt .f64 ((m.target : Nat) : Int)), .int .u64 ((m.seq : Nat) : Int), .slice (some ⟨gs, 0, none⟩) cap cap, .string s, .bool (m.iframe), .bool (m.closed), .int .u64 ((m.typ : Nat) : Int), .int .u64 ((m.disc : Nat) : Int), .float .f64 0, .bool false, .bool false, .int .i64 0, .int .u64 0, .int .u64 ((cap : Nat) : Int), .int .u64 0, .int .u64 ((ys.length % cap : Nat) : Int), .int .u64 ((ys.length : Nat) : Int), .slice none 0 0, .int .i64 0, .int .i8 0, .int .u8 3, .pointer none, .pointer none] else if k = 1 then #[.float .f64 (floatOfInt .f64 ((m.target : Nat) : Int)), .int .u64 ((m.seq : Nat) : Int), .slice (some ⟨gs, 0, none⟩) cap cap, .string s, .bool (m.iframe), .bool (m.closed), .int .u64 ((m.typ : Nat) : Int), .int .u64 ((m.disc : Nat) : Int), .float .f64 (e8 m.start), .bool false, .bool false, .int .i64 0, .int .u64 0, .int .u64 ((cap : Nat) : Int), .int .u64 0, .int .u64 ((ys.length % cap : Nat) : Int), .int .u64 ((ys.length : Nat) : Int), .slice none 0 0, .int .i64 0, .int .i8 0, .int .u8 3, .pointer none, .pointer none] else if k = 2 then #[.float .f64 (floatOfInt .f64 ((m.target : Nat) : Int)), .int .u64 ((m.seq : Nat) : Int), .slice (some ⟨gs, 0, none⟩) cap cap, .string s, .bool (m.iframe), .bool (m.closed), .int .u64 ((m.typ : Nat) : Int), .int .u64 ((m.disc : Nat) : Int), .float .f64 (e8 m.start), .bool (m.precise), .bool false, .int .i64 0, .int .u64 0, .int .u64 ((cap : Nat) : Int), .int .u64 0, .int .u64 ((ys.length % cap : Nat) : Int), .int .u64 ((ys.length : Nat) : Int), .slice none 0 0, .int .i64 0, .int .i8 0, .int .u8 3, .pointer none, .pointer none] else if k = 3 then #[.float .f64 (floatOfInt .f64 ((m.target : Nat) : Int)), .int .u64 ((m.seq : Nat) : Int), .slice (some ⟨gs, 0, none⟩) cap cap, .string s, .bool (m.iframe), .bool (m.closed), .int .u64 ((m.typ : Nat) : Int), .int .u64 ((m.disc : Nat) : Int), .float .f64 (e8 m.start), .bool (m.precise), .bool false, .int .i64 0, .int .u64 0, .int .u64 ((cap : Nat) : Int), .int .u64 0, .int .u64 ((ys.length % cap : Nat) : Int), .int .u64 ((ys.length : Nat) : Int), .slice none 0 0, .int .i64 0, .int .i8 0, .int .u8 3, .pointer none, .pointer none] else #[.float .f64 (floatOfInt .f64 ((m.target : Nat) : Int)), .int .u64 ((m.seq : Nat) : Int), .slice (some ⟨gs, 0, none⟩) cap cap, .string s, .bool (m.iframe), .bool (m.closed), .int .u64 ((m.typ : Nat) : Int), .int .u64 ((m.disc : Nat) : Int), .float .f64 (e8 m.start), .bool (m.precise), .bool false, .int .i64 0, .int .u64 0, .int .u64 ((cap : Nat) : Int), .int .u64 0, .int .u64 ((ys.length % cap : Nat) : Int), .int .u64 ((ys.length : Nat) : Int), .slice none 0 0, .int .i64 0, .int .i8 0, .int .u8 3, .pointer none, .pointer none]
   refine G2.wp_region_sto (N := 201) [G2.Ast.eq (pt gp 0), G2.Ast.eq (pt gp 0), G2.Ast.eq (pt gp 0), G2.Ast.eq (pt gp 0), G2.Ast.eq (pt g11 8), G2.Ast.eq (.float .f64 (e8 m.start)), G2.Ast.eq (pt g11 9), G2.Ast.eq (.bool (m.precise)), G2.Ast.eq (pt g11 11), G2.Ast.eq (.slice none 0 0), G2.Ast.eq (.pointer none), G2.Ast.eq (pt g11 12), G2.Ast.eq (.slice none 0 0), G2.Ast.eq (.pointer none), G2.Ast.eq (pt gp 0), G2.Ast.eq (pt gp 8), G2.Ast.sto 1, G2.Ast.eq (pt gp 0), G2.Ast.eq (pt gp 9), G2.Ast.sto 2, G2.Ast.eq (pt gp 0), G2.Ast.eq (pt gp 21), G2.Ast.sto 3, G2.Ast.eq (pt gp 0), G2.Ast.eq (pt gp 22), G2.Ast.sto 4] gp 72 4 cf26 (by kernel_rfl) (by kernel_rfl) (by kernel_rfl) hS.ev.size (by simp) ?_ ?_
   ·refine ⟨?_, ?_, ?_, ?_, ?_, ?_, ?_, ?_, ?_, ?_, ?_, ?_, ?_, ?_, ?_, ?_, ?_, ?_, ?_, ?_, ?_, ?_, ?_, ?_, ?_, ?_, trivial⟩
    ·intro a wx c
     have e_6 : a.eval (.tmp 6) = pt gp 0 := c.outE (by decide +kernel) (hS.get 6 rfl)
     clear c
     exact G2.og_val (ex_mv e_6) rfl
    ·intro a wx c
     have e_6 : a.eval (.tmp 6) = pt gp 0 := c.outE (by decide +kernel) (hS.get 6 rfl)
     clear c
     exact G2.og_val (ex_mv e_6) rfl
    ·intro a wx c
     have e_6 : a.eval (.tmp 6) = pt gp 0 := c.outE (by decide +kernel) (hS.get 6 rfl)
     clear c
     exact G2.og_val (ex_mv e_6) rfl
    ·intro a wx c
     have e_6 : a.eval (.tmp 6) = pt gp 0 := c.outE (by decide +kernel) (hS.get 6 rfl)
     clear c
     exact G2.og_val (ex_mv e_6) rfl
    ·intro a wx c
     have e_2 : a.eval (.tmp 2) = pt g11 0 := c.outE (by decide +kernel) (hS.get 2 rfl)
     clear c
     exact G2.og_val (ex_fo e_2 fo_impl_Media_8 rfl) rfl
    ·intro a wx c
     have e_173 : a.eval (.tmp 173) = pt g11 8 := c.slot 4 _ (by decide +kernel) rfl
     have hK1 := G2.sto_keep hS c 1 rfl (hS.neq 1 0 rfl rfl (by decide))
     clear c
     exact G2.og_val (ex_ld e_173 lt_float64 (cell_of_heap (v := .float .f64 (e8 m.start)) hK1 rfl)) rfl
    ·intro a wx c
     have e_2 : a.eval (.tmp 2) = pt g11 0 := c.outE (by decide +kernel) (hS.get 2 rfl)
     clear c
     exact G2.og_val (ex_fo e_2 fo_impl_Media_9 rfl) rfl
    ·intro a wx c
     have e_175 : a.eval (.tmp 175) = pt g11 9 := c.slot 6 _ (by decide +kernel) rfl
     have hK1 := G2.sto_keep hS c 1 rfl (hS.neq 1 0 rfl rfl (by decide))
     clear c
     exact G2.og_val (ex_ld e_175 lt_bool (cell_of_heap (v := .bool (m.precise)) hK1 rfl)) rfl
    ·intro a wx c
     have e_2 : a.eval (.tmp 2) = pt g11 0 := c.outE (by decide +kernel) (hS.get 2 rfl)
     clear c
     exact G2.og_val (ex_fo e_2 fo_impl_Media_11 rfl) rfl
    ·intro a wx c
     have e_177 : a.eval (.tmp 177) = pt g11 11 := c.slot 8 _ (by decide +kernel) rfl
     have hK1 := G2.sto_keep hS c 1 rfl (hS.neq 1 0 rfl rfl (by decide))
     clear c
     exact G2.og_val (ex_ld e_177 lt_sl_impl_Key (cell_of_heap (v := .slice none 0 0) hK1 rfl)) rfl
    ·intro a wx c
     have e_178 : a.eval (.tmp 178) = .slice none 0 0 := c.slot 9 _ (by decide +kernel) rfl
     clear c
     have hcl : Calls Tryz.prog _ _ wx (fun e w' => e = .returned (.pointer none) ∧ Below wx.heap.size wx w') := (Calls.mono (keyTo_any none _ wx .nil) (by rintro e w' ⟨v', rfl, hb, h⟩; obtain ⟨_, rfl⟩ | ⟨_, _, h, _⟩ := h; (· exact ⟨rfl, hb⟩); (· cases h)))
     refine G2.og_call (ex_call1 cf_impl_keyTo e_178) (Calls.mono hcl ?_)
     rintro e w' ⟨rfl, hb⟩
     exact ⟨_, rfl, hb, rfl⟩
    ·intro a wx c
     have e_2 : a.eval (.tmp 2) = pt g11 0 := c.outE (by decide +kernel) (hS.get 2 rfl)
     clear c
     exact G2.og_val (ex_fo e_2 fo_impl_Media_12 rfl) rfl
    ·intro a wx c
     have e_180 : a.eval (.tmp 180) = pt g11 12 := c.slot 11 _ (by decide +kernel) rfl
     have hK1 := G2.sto_keep hS c 1 rfl (hS.neq 1 0 rfl rfl (by decide))
     clear c
     exact G2.og_val (ex_ld e_180 lt_sl_impl_Map (cell_of_heap (v := .slice none 0 0) hK1 rfl)) rfl
    ·intro a wx c
     have e_181 : a.eval (.tmp 181) = .slice none 0 0 := c.slot 12 _ (by decide +kernel) rfl
     clear c
     have hcl : Calls Tryz.prog _ _ wx (fun e w' => e = .returned (.pointer none) ∧ Below wx.heap.size wx w') := (Calls.mono (mapTo_any none _ wx .nil) (by rintro e w' ⟨v', rfl, hb, h⟩; obtain ⟨_, rfl⟩ | ⟨_, _, h, _⟩ := h; (· exact ⟨rfl, hb⟩); (· cases h)))
     refine G2.og_call (ex_call1 cf_impl_mapTo e_181) (Calls.mono hcl ?_)
     rintro e w' ⟨rfl, hb⟩
     exact ⟨_, rfl, hb, rfl⟩
    ·intro a wx c
     have e_169 : a.eval (.tmp 169) = pt gp 0 := c.slot 0 _ (by decide +kernel) rfl
     clear c
     exact G2.og_val (ex_nc e_169) rfl
    ·intro a wx c
     have e_183 : a.eval (.tmp 183) = pt gp 0 := c.slot 14 _ (by decide +kernel) rfl
     clear c
     exact G2.og_val (ex_fo e_183 fo_m3u8_MediaPlaylist_8 rfl) rfl
    ·intro a wx c
     have e_184 : a.eval (.tmp 184) = pt gp 8 := c.slot 15 _ (by decide +kernel) rfl
     have e_174 : a.eval (.tmp 174) = .float .f64 (e8 m.start) := c.slot 5 _ (by decide +kernel) rfl
     have ms3 := G2.sto_first hS c 0 rfl rfl (by kernel_rfl)
     clear c
     exact G2.og_sto (k := 1) (m := 0) (m' := 1) (off := 8) rfl ms3 (su_float64 _) e_184 e_174 (show 8 < 23 from by decide) rfl (by decide) (by decide)
    ·intro a wx c
     have e_170 : a.eval (.tmp 170) = pt gp 0 := c.slot 1 _ (by decide +kernel) rfl
     clear c
     exact G2.og_val (ex_nc e_170) rfl
    ·intro a wx c
     have e_185 : a.eval (.tmp 185) = pt gp 0 := c.slot 17 _ (by decide +kernel) rfl
     clear c
     exact G2.og_val (ex_fo e_185 fo_m3u8_MediaPlaylist_9 rfl) rfl
    ·intro a wx c
     have e_186 : a.eval (.tmp 186) = pt gp 9 := c.slot 18 _ (by decide +kernel) rfl
     have e_176 : a.eval (.tmp 176) = .bool (m.precise) := c.slot 7 _ (by decide +kernel) rfl
     obtain ⟨mi, ms1, ms2, ms3⟩ : ∃ mi, 1 ≤ mi ∧ mi ≤ 4 ∧ wx.heap[gp]? = some (.cells (cf26 mi) 72 (0, 0)) := c.slot 16 _ (by decide +kernel) rfl
     clear c
     have hmm : mi = 1 ∨ mi = 2 ∨ mi = 3 ∨ mi = 4 := by omega
     rcases hmm with rfl | rfl | rfl | rfl
     ·exact G2.og_sto (k := 2) (m := 1) (m' := 2) (off := 9) rfl ms3 (su_bool _) e_186 e_176 (show 9 < 23 from by decide) rfl (by decide) (by decide)
     ·exact G2.og_sto (k := 2) (m := 2) (m' := 2) (off := 9) rfl ms3 (su_bool _) e_186 e_176 (show 9 < 23 from by decide) rfl (by decide) (by decide)
     ·exact G2.og_sto (k := 2) (m := 3) (m' := 3) (off := 9) rfl ms3 (su_bool _) e_186 e_176 (show 9 < 23 from by decide) rfl (by decide) (by decide)
     ·exact G2.og_sto (k := 2) (m := 4) (m' := 4) (off := 9) rfl ms3 (su_bool _) e_186 e_176 (show 9 < 23 from by decide) rfl (by decide) (by decide)
    ·intro a wx c
     have e_171 : a.eval (.tmp 171) = pt gp 0 := c.slot 2 _ (by decide +kernel) rfl
     clear c
     exact G2.og_val (ex_nc e_171) rfl
    ·intro a wx c
     have e_187 : a.eval (.tmp 187) = pt gp 0 := c.slot 20 _ (by decide +kernel) rfl
     clear c
     exact G2.og_val (ex_fo e_187 fo_m3u8_MediaPlaylist_19 rfl) rfl
    ·intro a wx c
     have e_188 : a.eval (.tmp 188) = pt gp 21 := c.slot 21 _ (by decide +kernel) rfl
     have e_179 : a.eval (.tmp 179) = .pointer none := c.slot 10 _ (by decide +kernel) rfl
     obtain ⟨mi, ms1, ms2, ms3⟩ : ∃ mi, 2 ≤ mi ∧ mi ≤ 4 ∧ wx.heap[gp]? = some (.cells (cf26 mi) 72 (0, 0)) := c.slot 19 _ (by decide +kernel) rfl
     clear c
     have hmm : mi = 2 ∨ mi = 3 ∨ mi = 4 := by omega
     rcases hmm with rfl | rfl | rfl
     ·exact G2.og_sto (k := 3) (m := 2) (m' := 3) (off := 21) rfl ms3 (su_p_m3u8_Key _) e_188 e_179 (show 21 < 23 from by decide) rfl (by decide) (by decide)
     ·exact G2.og_sto (k := 3) (m := 3) (m' := 3) (off := 21) rfl ms3 (su_p_m3u8_Key _) e_188 e_179 (show 21 < 23 from by decide) rfl (by decide) (by decide)
     ·exact G2.og_sto (k := 3) (m := 4) (m' := 4) (off := 21) rfl ms3 (su_p_m3u8_Key _) e_188 e_179 (show 21 < 23 from by decide) rfl (by decide) (by decide)
    ·intro a wx c
     have e_172 : a.eval (.tmp 172) = pt gp 0 := c.slot 3 _ (by decide +kernel) rfl
     clear c
     exact G2.og_val (ex_nc e_172) rfl
    ·intro a wx c
     have e_189 : a.eval (.tmp 189) = pt gp 0 := c.slot 23 _ (by decide +kernel) rfl
     clear c
     exact G2.og_val (ex_fo e_189 fo_m3u8_MediaPlaylist_20 rfl) rfl
    ·intro a wx c
     have e_190 : a.eval (.tmp 190) = pt gp 22 := c.slot 24 _ (by decide +kernel) rfl
     have e_182 : a.eval (.tmp 182) = .pointer none := c.slot 13 _ (by decide +kernel) rfl
     obtain ⟨mi, ms1, ms2, ms3⟩ : ∃ mi, 3 ≤ mi ∧ mi ≤ 4 ∧ wx.heap[gp]? = some (.cells (cf26 mi) 72 (0, 0)) := c.slot 22 _ (by decide +kernel) rfl
     clear c
     have hmm : mi = 3 ∨ mi = 4 := by omega
     rcases hmm with rfl | rfl
     ·exact G2.og_sto (k := 4) (m := 3) (m' := 4) (off := 22) rfl ms3 (su_p_m3u8_Map _) e_190 e_182 (show 22 < 23 from by decide) rfl (by decide) (by decide)
     ·exact G2.og_sto (k := 4) (m := 4) (m' := 4) (off := 22) rfl ms3 (su_p_m3u8_Map _) e_190 e_182 (show 22 < 23 from by decide) rfl (by decide) (by decide)
   ·intro a w27 c
    obtain ⟨mi, ms1, ms2, ms3⟩ : ∃ mi, 4 ≤ mi ∧ mi ≤ 4 ∧ w27.heap[gp]? = some (.cells (cf26 mi) 72 (0, 0)) := c.slot 25 _ rfl
    obtain rfl : mi = 4 := by omega
    have ms3 : w27.heap[gp]? = some (.cells #[.float .f64 (floatOfInt .f64 ((m.target : Nat) : Int)), .int .u64 ((m.seq : Nat) : Int), .slice (some ⟨gs, 0, none⟩) cap cap, .string s, .bool (m.iframe), .bool (m.closed), .int .u64 ((m.typ : Nat) : Int), .int .u64 ((m.disc : Nat) : Int), .float .f64 (e8 m.start), .bool (m.precise), .bool false, .int .i64 0, .int .u64 0, .int .u64 ((cap : Nat) : Int), .int .u64 0, .int .u64 ((ys.length % cap : Nat) : Int), .int .u64 ((ys.length : Nat) : Int), .slice none 0 0, .int .i64 0, .int .i8 0, .int .u8 3, .pointer none, .pointer none] 72 (0, 0)) := ms3
    obtain ⟨hS', hty⟩ := G2.sto_end (m' := [⟨gp, #[.float .f64 (floatOfInt .f64 ((m.target : Nat) : Int)), .int .u64 ((m.seq : Nat) : Int), .slice (some ⟨gs, 0, none⟩) cap cap, .string s, .bool (m.iframe), .bool (m.closed), .int .u64 ((m.typ : Nat) : Int), .int .u64 ((m.disc : Nat) : Int), .float .f64 (e8 m.start), .bool (m.precise), .bool false, .int .i64 0, .int .u64 0, .int .u64 ((cap : Nat) : Int), .int .u64 0, .int .u64 ((ys.length % cap : Nat) : Int), .int .u64 ((ys.length : Nat) : Int), .slice none 0 0, .int .i64 0, .int .i8 0, .int .u8 3, .pointer none, .pointer none], 72, true⟩, ⟨g11, (m.icells s dl), 37, false⟩]) hS c (i := 0) rfl rfl ms3
    replace hS : Sv 201 ((90, .int .i64 ((ys.length : Nat) : Int)) :: (89, .int .i64 ((ys.length : Nat) : Int)) :: (2, pt g11 0) :: (6, pt gp 0) :: (88, dl) :: (1, .bool false) :: []) [⟨gp, #[.float .f64 (floatOfInt .f64 ((m.target : Nat) : Int)), .int .u64 ((m.seq : Nat) : Int), .slice (some ⟨gs, 0, none⟩) cap cap, .string s, .bool (m.iframe), .bool (m.closed), .int .u64 ((m.typ : Nat) : Int), .int .u64 ((m.disc : Nat) : Int), .float .f64 (e8 m.start), .bool (m.precise), .bool false, .int .i64 0, .int .u64 0, .int .u64 ((cap : Nat) : Int), .int .u64 0, .int .u64 ((ys.length % cap : Nat) : Int), .int .u64 ((ys.length : Nat) : Int), .slice none 0 0, .int .i64 0, .int .i8 0, .int .u8 3, .pointer none, .pointer none], 72, true⟩, ⟨g11, (m.icells s dl), 37, false⟩] (fun x => x = gp) w23 a w27 := ((((((hS'.know (c.outS (by decide +kernel) (hS.get 1 rfl))).know (c.outS (by decide +kernel) (hS.get 88 rfl))).know (c.outS (by decide +kernel) (hS.get 6 rfl))).know (c.outS (by decide +kernel) (hS.get 2 rfl))).know (c.outS (by decide +kernel) (hS.get 89 rfl))).know (c.outS (by decide +kernel) (hS.get 90 rfl)))
    clear c hS'
    replace hS := hS.cut [90, 89, 2, 6, 88, 1]
    show Code.wp _ _ _ _ _
    refine wp_seq ?_
    refine wp_region_lit ?_
    refine sv_r (v := pt gp 0) hS (ex_mv (hS.get 6 rfl)) fun a hS => ?_
    refine sv_r (v := .bool false) hS (ex_mv (hS.get 1 rfl)) fun a hS => ?_
    have hpq : w27.heap[gp]? = some (.cells (⟨floatOfInt .f64 ((m.target : Nat) : Int), m.seq, .slice (some ⟨gs, 0, none⟩) cap cap, s, m.iframe, m.closed, m.typ, m.disc, e8 m.start, m.precise, cap, ys.length % cap, ys.length, 3, .pointer none, .pointer none⟩ : Pq).cells 72 (0, 0)) := hS.at 0 rfl
    refine sv_callp (i := 0) (v := .tuple #[]) (m' := [⟨gp, (⟨floatOfInt .f64 ((m.target : Nat) : Int), m.seq, .slice (some ⟨gs, 0, none⟩) cap cap, s, m.iframe, m.closed, m.typ, m.disc, e8 m.start, m.precise, cap, ys.length % cap, ys.length, 3, .pointer none, .pointer none⟩ : Pq).cells, 72, true⟩, ⟨g11, (m.icells s dl), 37, false⟩]) hS rfl rfl (by decide) (ex_call2 cf_m3u8_MediaPlaylist_DurationAsInt (hS.get 191 rfl) (hS.get 192 rfl)) rfl rfl (durInt_any _ gp w27 hpq) ?_
    intro a w28 hty hS
    refine wpList_nil ?_
    replace hS := hS.cut [90, 89, 2, 6, 88]
    show Code.wp _ _ _ _ _
    refine wp_seq ?_
    refine wp_region_lit ?_
    refine sv_r (v := pt gp 0) hS (ex_mv (hS.get 6 rfl)) fun a hS => ?_
    refine sv_r (v := pt g11 10) hS (ex_fo (hS.get 2 rfl) fo_impl_Media_10 rfl) fun a hS => ?_
    refine sv_r (v := .int .i64 ((m.version : Nat) : Int)) hS (ex_ld (hS.get 195 rfl) lt_int (cell_of_heap (v := .int .i64 ((m.version : Nat) : Int)) (hS.at 1 rfl) rfl)) fun a hS => ?_
    refine sv_r (v := .int .u8 ((m.version : Nat) : Int)) hS (ex_cv (hS.get 196 rfl) (cv_int_uint8 _ (by rw [IntKind.wrap_u8]; omega))) fun a hS => ?_
    have hpq : w28.heap[gp]? = some (.cells (⟨floatOfInt .f64 ((m.target : Nat) : Int), m.seq, .slice (some ⟨gs, 0, none⟩) cap cap, s, m.iframe, m.closed, m.typ, m.disc, e8 m.start, m.precise, cap, ys.length % cap, ys.length, 3, .pointer none, .pointer none⟩ : Pq).cells 72 (0, 0)) := hS.at 0 rfl
    refine sv_callp (i := 0) (v := .tuple #[]) (m' := [⟨gp, (⟨floatOfInt .f64 ((m.target : Nat) : Int), m.seq, .slice (some ⟨gs, 0, none⟩) cap cap, s, m.iframe, m.closed, m.typ, m.disc, e8 m.start, m.precise, cap, ys.length % cap, ys.length, m.version, .pointer none, .pointer none⟩ : Pq).cells, 72, true⟩, ⟨g11, (m.icells s dl), 37, false⟩]) hS rfl rfl (by decide) (ex_call2 cf_m3u8_MediaPlaylist_SetVersion (hS.get 194 rfl) (hS.get 197 rfl)) rfl rfl (setVersion_any _ gp m.version w28 hpq) ?_
    intro a w29 hty hS
    refine wpList_nil ?_
    replace hS := hS.cut [90, 89, 2, 6, 88]
    show Code.wp _ _ _ _ _
    refine wp_seq ?_
    refine wp_region_lit ?_
    refine sv_r (v := pt gp 0) hS (ex_mv (hS.get 6 rfl)) fun a hS => ?_
    have hpq : w29.heap[gp]? = some (.cells (⟨floatOfInt .f64 ((m.target : Nat) : Int), m.seq, .slice (some ⟨gs, 0, none⟩) cap cap, s, m.iframe, m.closed, m.typ, m.disc, e8 m.start, m.precise, cap, ys.length % cap, ys.length, m.version, .pointer none, .pointer none⟩ : Pq).cells 72 (0, 0)) := hS.at 0 rfl
    obtain ⟨P1, hP1⟩ : ∃ P1, P1 = (⟨floatOfInt .f64 ((m.target : Nat) : Int), m.seq, .slice (some ⟨gs, 0, none⟩) cap cap, s, m.iframe, m.closed, m.typ, m.disc, e8 m.start, m.precise, cap, ys.length % cap, ys.length, m.version, .pointer none, .pointer none⟩ : Pq) := ⟨_, rfl⟩
    rw [← hP1] at hpq
    have hb4 : Below w.heap.size w w29 := ⟨hS.only.os.trans hWI.below.os, hS.only.tape.trans hWI.below.tape, hS.only.output.trans hWI.below.output, Nat.le_trans hWI.below.size hS.only.size, fun g hg => by rw [hS.only.block g (Nat.lt_of_lt_of_le hg hWI.below.size) (fun e => by have := hWI.gp0; omega)]; exact hWI.below.block g hg⟩
    have hTy : TyOnly [72] w23 w29 := .of_only hS.only fun g cs e fr hg hc => by subst hg; rw [hWI.hp] at hc; injection hc with hc; injection hc with _ e1 _; simp [← e1]
    obtain ⟨ps, L, hSg⟩ := hWI.segs
    have hLl : L.length = ys.length := by have h5 := congrArg List.length hSg.s; simpa using h5
    have hLs : L.map (·.2.s) = ys.map Iy.s := by rw [hSg.s, List.take_length]
    have hLc : L.map (·.2.c) = ys.map Iy.c := by rw [hSg.c, List.take_length]
    have htx : encAll P1 m.target m.start (L.map (·.2)) = wmText m s ys := by rw [enc_map, List.map_map]; have h6 := mz_eq L ys hLs hLc; unfold wmText; rw [← h6, hP1]; rfl
    have hbuf : LibA.IsBuffer 72 P1.rest 5 w.heap.size gp 17 (Lib.byteCells []) w29 := LibA.zero_isBuffer hWI.gp0 (lr := 0) ⟨_, hpq, by rw [hP1]; rfl, by rw [hP1]; rfl, by rw [hP1]; rfl, fun i hi => by unfold Pq.rest; rw [if_neg (by omega)]⟩
    have hSegE : ∀ (k : Nat) (q : Nat × Mz), L[k]? = some q → SegE q.2 := by
     intro k q hq
     have hkl : k < ys.length := by rw [← hLl]; exact (List.getElem?_eq_some_iff.1 hq).1
     obtain ⟨y, hyk⟩ : ∃ y, ys[k]? = some y := ⟨_, List.getElem?_eq_getElem hkl⟩
     obtain ⟨hyS, hyC⟩ := hyE y (List.mem_of_getElem? hyk)
     have e1 : q.2.s = y.s := by have h7 := congrArg (fun l => l[k]?) hLs; simp only [List.getElem?_map, hq, hyk] at h7; exact Option.some.inj h7
     have e2 : q.2.c = y.c := by have h7 := congrArg (fun l => l[k]?) hLc; simp only [List.getElem?_map, hq, hyk] at h7; exact Option.some.inj h7
     have hpt := hyS.part
     refine ⟨by rw [e1]; exact hyS.e, by rw [e1]; omega, by rw [e1]; omega, ?_, ?_⟩
     ·intro mm hmm; rw [e1] at hmm; have h8 := hyS.map mm hmm; obtain ⟨h9, h10⟩ := h8; omega
     ·intro c hc; rw [e2] at hc; exact hyC c hc
    have hstr := string_m P1 w.heap.size gp gs m.target m.start ys.length w29 L ps _ hpq (by rw [hP1]) hLl.symm (by rw [hP1]) (by rw [hP1]; show ys.length ≤ cap; omega) (by rw [hP1]; show cap ≤ 100000; omega) (hTy.keep hSg.cells (by decide)) (fun k q hq => by obtain ⟨q1, q2, q3, q4, q5⟩ := hSg.each k q hq; exact ⟨q1, hTy.keep q2 (by decide), q3.ty hTy (by decide), hSegE k q hq⟩) (by rw [hP1]) (by rw [hP1]) (by rw [hP1]; show m.version < 256; omega) (by rw [hP1]; show m.seq < 18446744073709551616; omega) (by rw [hP1]; show m.disc < 18446744073709551616; omega) (by rw [hP1]) (by omega) (by omega) (by rw [hP1]; exact cv_target m.target hm2') (by rw [htx]; exact hlim) (fun _ w' h => hT w' (hb4.trans h.2.1)) (fun _ w' h => by rw [hP1]; exact ceil_any m.target hm2 hm2' w') (fun x hx _ w' h => hFF x hx w' (hb4.trans h.2.1)) (fun n hn _ w' h => formatInt_any n hn w' (hT w' (hb4.trans h.2.1))) (fun x hx _ w' h => hF3 x hx w' (hb4.trans h.2.1)) hbuf
    rw [htx] at hstr
    refine ev_call (S := fun v w' => v = .string ⟨(wmText m s ys).toArray⟩ ∧ Below w.heap.size w29 w') hS.ev rfl rfl (by decide) (ex_call1 cf_m3u8_MediaPlaylist_String (hS.get 199 rfl)) (Calls.mono hstr (by rintro e w' ⟨rfl, h⟩; exact ⟨_, rfl, rfl, h⟩)) ?_
    rintro a v wz ⟨rfl, hbz⟩ hE
    have hS : Sv 201 ((200, .string (⟨(wmText m s ys).toArray⟩)) :: (199, pt gp 0) :: (90, .int .i64 ((ys.length : Nat) : Int)) :: (89, .int .i64 ((ys.length : Nat) : Int)) :: (2, pt g11 0) :: (6, pt gp 0) :: (88, dl) :: []) [] (fun _ => False) wz a wz := Sv.start hE _ _
    refine sv_r (v := .string (⟨(wmText m s ys).toArray⟩)) hS (ex_as (hS.get 200 rfl)) fun a hS => ?_
    refine sv_r (v := .bool true) hS ex_ac fun a hS => ?_
    refine nx1 ?_
    refine wp_ret ?_
    try simp only [Exit.inBlock, Exit.then]
    exact ret2_of_ev hS.ev rfl (hS.get 4 rfl) (hS.get 5 rfl) ⟨rfl, hb4.trans hbz⟩
end Go.Proofs.YtfonjeoiallhhaaGreatDoor
