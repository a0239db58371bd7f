/- Joined: Ag. -/
import Derived.Test.YtflppablgdegcaaGreatDoorR16
import Derived.Test.YtflppablgdegcaaGreatDoorR19
set_option maxRecDepth 100000
set_option maxHeartbeats 8000000
namespace Go.Proofs.YtflppablgdegcaaGreatDoor
open Go.RowKit
structure Sz where
 seq : Nat
 title : ByteArray
 uri : ByteArray
 dur : Nat
 limit : Nat
 offset : Nat
 key : Option Addr
 map : Option Addr
 disc : Bool
 date : ByteArray
def Sz.cells (z : Sz) : Array Value := #[.int .u64 ((z.seq : Nat) : Int), .string z.title, .string z.uri, .float .f64 (z.dur), .int .i64 ((z.limit : Nat) : Int), .int .i64 ((z.offset : Nat) : Int), .pointer z.key, .pointer z.map, .bool (z.disc), .pointer none, .string z.date]
def Sz.new (seq : Nat) (title uri : ByteArray) (dur : Nat) : Sz := ⟨seq, title, uri, dur, 0, 0, none, none, false, ⟨#[]⟩⟩
theorem setWinG {p : Pz} {sv : Value} {cap tail cnt : Nat} (gp : Nat) (w : World) (hp : w.heap[gp]? = some (.cells (p.cells sv cap tail cnt) 88 (0, 0))) : Calls Tryz.prog 34 #[pt gp 0, .int .u64 0] w fun e w' => e = .returned .nilIface ∧ w'.heap[gp]? = some (.cells (p.cells sv cap tail cnt) 88 (0, 0)) ∧ Only (fun x => x = gp) w w' := by
 refine calls_of_ev Tryz.func34 rfl (show 2 ≤ 16 from by decide) fun a hE => ?_
 have hE : Ev 16 ((0, pt gp 0) :: (1, .int .u64 0) :: []) a := hE
 have Z : Sv 16 ((0, pt gp 0) :: (1, .int .u64 0) :: []) [] (fun x => x = gp) w a w := Sv.start hE _ _
 clear hE
 replace Z := (Z.addB (o := true) hp (by intro b hb; cases hb) (fun _ => .inl rfl)).ct [0, 1] rfl
 refine wr (sv_n 1 Z rfl fun a Z => Z.nx [4, 0, 1] rfl fun Z => sh (wp_seq (wr (sv_n 4 Z rfl fun a Z => sv_l (v := .int .u64 ((cap : Nat) : Int)) 0 Z rfl (Z.g 8 rfl) lt_uint rfl fun a Z => ?_))))
 refine sv_r (v := .bool false) Z (ei_gtr (Z.g 5 rfl) (Z.g 9 rfl) (by rw [decide_eq_false_iff_not]; omega)) fun a Z => Z.nx [10, 4, 0, 1] rfl fun Z => sh (cond_f (Z.g 10 rfl) (wp_skip (sh (wr (sv_n 4 Z rfl fun a Z => sv_st (i := 0) (v := .int .u64 0) (cs' := (p.cells sv cap tail cnt)) Z (su_uint _) (Z.g 15 rfl) (Z.g 13 rfl) rfl (show 12 < 23 from by decide) rfl rfl fun w1 hty Z => Z.nx [10, 4, 0, 1] rfl fun Z => sh (wr ?_))))))
 refine sv_n 1 Z rfl fun a Z => Z.nx [4, 10, 0, 1] rfl fun Z => sh (wp_ret ?_)
 try simp only [Exit.inBlock, Exit.then]
 exact ret_of_ev Z.ev rfl (Z.g 4 rfl) ⟨rfl, Z.at 0 rfl, Z.only⟩
theorem resetG {p : Pz} {sv : Value} {cap tail cnt : Nat} (gp : Nat) (w : World) (hp : w.heap[gp]? = some (.cells (p.cells sv cap tail cnt) 88 (0, 0))) : Calls Tryz.prog 53 #[pt gp 17] w fun e w' => e = .returned (.tuple #[]) ∧ w'.heap[gp]? = some (.cells (p.cells sv cap tail cnt) 88 (0, 0)) ∧ Only (fun x => x = gp) w w' := by
 refine calls_of_ev Tryz.func53 rfl (show 1 ≤ 16 from by decide) fun a hE => ?_
 have hE : Ev 16 ((0, pt gp 17) :: []) a := hE
 have Z : Sv 16 ((0, pt gp 17) :: []) [] (fun x => x = gp) w a w := Sv.start hE _ _
 clear hE
 replace Z := (Z.addB (o := true) hp (by intro b hb; cases hb) (fun _ => .inl rfl)).ct [0] rfl
 refine wr (sv_n 4 Z rfl fun a Z => sv_l (v := .slice none 0 0) 0 Z rfl (Z.g 5 rfl) lt_sl_uint8 rfl fun a Z => ?_)
 refine sv_r (v := .slice none 0 0) Z (ex_slh (E := 5) (h := 0) Tryz.underlying45 Tryz.sizeOf5 (Z.g 6 rfl) rfl (by omega)) fun a Z => sv_n 2 Z rfl fun a Z => sv_st (i := 0) (v := .slice none 0 0) (cs' := #[.float .f64 (p.tgt), .int .u64 ((p.seq : Nat) : Int), sv, .string (⟨#[]⟩), .bool (p.iframe), .bool (p.closed), .int .u64 ((p.typ : Nat) : Int), .int .u64 ((p.disc : Nat) : Int), .float .f64 (p.start), .bool (p.precise), .bool false, .int .i64 0, .int .u64 0, .int .u64 ((cap : Nat) : Int), .int .u64 0, .int .u64 ((tail : Nat) : Int), .int .u64 ((cnt : Nat) : Int), .slice none 0 0, .int .i64 0, .int .i8 0, .int .u8 ((p.ver : Nat) : Int), .pointer p.key, .pointer p.map]) Z (su_sl_uint8 _ _ _) (Z.g 9 rfl) (Z.g 7 rfl) rfl (show 17 < 23 from by decide) rfl rfl fun w1 hty Z => Z.nx [0] rfl fun Z => sh (wr (sv_n 3 Z rfl fun a Z => ?_))
 refine sv_st (i := 0) (v := .int .i64 0) (cs' := #[.float .f64 (p.tgt), .int .u64 ((p.seq : Nat) : Int), sv, .string (⟨#[]⟩), .bool (p.iframe), .bool (p.closed), .int .u64 ((p.typ : Nat) : Int), .int .u64 ((p.disc : Nat) : Int), .float .f64 (p.start), .bool (p.precise), .bool false, .int .i64 0, .int .u64 0, .int .u64 ((cap : Nat) : Int), .int .u64 0, .int .u64 ((tail : Nat) : Int), .int .u64 ((cnt : Nat) : Int), .slice none 0 0, .int .i64 0, .int .i8 0, .int .u8 ((p.ver : Nat) : Int), .pointer p.key, .pointer p.map]) Z (su_int _) (Z.g 12 rfl) rfl rfl (show 18 < 23 from by decide) rfl rfl fun w2 hty Z => Z.nx [0] rfl fun Z => sh (wp_region_lit (sv_n 3 Z rfl fun a Z => ?_))
 refine sv_st (i := 0) (v := .int .i8 0) (cs' := #[.float .f64 (p.tgt), .int .u64 ((p.seq : Nat) : Int), sv, .string (⟨#[]⟩), .bool (p.iframe), .bool (p.closed), .int .u64 ((p.typ : Nat) : Int), .int .u64 ((p.disc : Nat) : Int), .float .f64 (p.start), .bool (p.precise), .bool false, .int .i64 0, .int .u64 0, .int .u64 ((cap : Nat) : Int), .int .u64 0, .int .u64 ((tail : Nat) : Int), .int .u64 ((cnt : Nat) : Int), .slice none 0 0, .int .i64 0, .int .i8 0, .int .u8 ((p.ver : Nat) : Int), .pointer p.key, .pointer p.map]) Z (su_bytes_readOp _) (Z.g 15 rfl) rfl rfl (show 19 < 23 from by decide) rfl rfl fun w3 hty Z => Z.nx [0] rfl fun Z => ?_
 exact end_ev Z.ev rfl ⟨rfl, Z.at 0 rfl, Z.only⟩
def pz0 : Pz := ⟨0, 0, false, false, 0, 0, 0, false, 3, none, none⟩
theorem newMediaG (n : Nat) (hn : n ≤ 100000) (w : World) : Calls Tryz.prog 17 #[.int .u64 0, .int .u64 ((n : Nat) : Int)] w fun e w' => ∃ v, e = .returned v ∧ Below w.heap.size w w' ∧ ∃ gp gr : Nat, v = .tuple #[pt gp 0, .nilIface] ∧ w.heap.size ≤ gp ∧ w.heap.size ≤ gr ∧ w'.heap[gp]? = some (.cells (pz0.cells (.slice (some ⟨gr, 0, none⟩) n n) n 0 0) 88 (0, 0)) ∧ w'.heap[gr]? = some (.cells (List.replicate n (Value.pointer none)).toArray 125 (0, 0)) := by
 refine calls_of_ev Tryz.func17 rfl (show 2 ≤ 28 from by decide) fun a hE => ?_
 have hE : Ev 28 ((0, .int .u64 0) :: (1, .int .u64 ((n : Nat) : Int)) :: []) a := hE
 have Z : Sv 28 ((0, .int .u64 0) :: (1, .int .u64 ((n : Nat) : Int)) :: []) [] (fun _ => False) w a w := Sv.start hE _ _
 clear hE
 refine wr (sv_n 2 Z rfl fun a Z => Z.nx [5, 4, 0, 1] rfl fun Z => sh (wr (sv_al Z al_m3u8_MediaPlaylist (by decide) fun g1 a w2 hg1 hbw2 hwg1 Z => sv_n 1 Z rfl fun a Z => Z.nx [6, 5, 4, 0, 1] rfl fun Z => sh (wr (sv_n 3 Z rfl fun a Z => sv_st (i := 0) (v := .int .u8 3) (cs' := #[.float .f64 0, .int .u64 0, .slice none 0 0, .string ⟨#[]⟩, .bool false, .bool false, .int .u64 0, .int .u64 0, .float .f64 0, .bool false, .bool false, .int .i64 0, .int .u64 0, .int .u64 0, .int .u64 0, .int .u64 0, .int .u64 0, .slice none 0 0, .int .i64 0, .int .i8 0, .int .u8 3, .pointer none, .pointer none]) Z (su_uint8 _) (Z.g 11 rfl) rfl rfl (show 20 < 23 from by decide) rfl rfl fun w3 hty Z => ?_)))))
 refine Z.nx [6, 5, 4, 0, 1] rfl fun Z => sh (wr (sv_n 4 Z rfl fun a Z => sv_st (i := 0) (v := .int .u64 ((n : Nat) : Int)) (cs' := #[.float .f64 0, .int .u64 0, .slice none 0 0, .string ⟨#[]⟩, .bool false, .bool false, .int .u64 0, .int .u64 0, .float .f64 0, .bool false, .bool false, .int .i64 0, .int .u64 0, .int .u64 ((n : Nat) : Int), .int .u64 0, .int .u64 0, .int .u64 0, .slice none 0 0, .int .i64 0, .int .i8 0, .int .u8 3, .pointer none, .pointer none]) Z (su_uint _) (Z.g 15 rfl) (Z.g 13 rfl) rfl (show 13 < 23 from by decide) rfl rfl fun w4 hty Z => Z.nx [6, 5, 4, 0, 1] rfl fun Z => sh (wp_seq (wr (sv_n 2 Z rfl fun a Z => ?_)))))
 have hpq : w4.heap[g1]? = some (.cells (pz0.cells (.slice none 0 0) n 0 0) 88 (0, 0)) := Z.at 0 rfl
 refine sv_callp (i := 0) (v := .nilIface) Z rfl rfl (by decide) (ex_call2 cf_m3u8_MediaPlaylist_SetWinSize (Z.g 16 rfl) (Z.g 17 rfl)) rfl rfl (setWinG g1 w4 hpq) fun a w5 hty Z => sv_n 1 Z rfl fun a Z => Z.nx [7, 6, 5, 4, 1] rfl fun Z => sh (wr (sv_n 1 Z rfl fun a Z => sv_r (v := .bool false) Z (ex_ine eqi_error (Z.g 19 rfl)) fun a Z => Z.nx [20, 7, 6, 5, 4, 1] rfl fun Z => sh (cond_f (Z.g 20 rfl) (wp_skip (sh ?_)))))
 refine wr (sv_n 2 Z rfl fun a Z => ?_)
 refine sv_new (T := 125) (cs := (List.replicate n (.pointer none)).toArray) Z rfl rfl (by decide) (fun g => .slice (some ⟨g, 0, none⟩) n n) (ex_make sli_sl_p_m3u8_MediaSegment (by kernel_rfl) rfl (Z.g 23 rfl) (by omega) (by omega)) fun g6 a w7 hg6 hbw7 hwg6 Z => sv_n 2 Z rfl fun a Z => sv_st (i := 1) (v := .slice (some ⟨g6, 0, none⟩) n n) (cs' := #[.float .f64 0, .int .u64 0, .slice (some ⟨g6, 0, none⟩) n n, .string ⟨#[]⟩, .bool false, .bool false, .int .u64 0, .int .u64 0, .float .f64 0, .bool false, .bool false, .int .i64 0, .int .u64 0, .int .u64 ((n : Nat) : Int), .int .u64 0, .int .u64 0, .int .u64 0, .slice none 0 0, .int .i64 0, .int .i8 0, .int .u8 3, .pointer none, .pointer none]) Z (su_sl_p_m3u8_MediaSegment _ _ _) (Z.g 26 rfl) (Z.g 24 rfl) rfl (show 2 < 23 from by decide) rfl rfl fun w8 hty Z => Z.nx [20, 7, 6, 5, 4, 1] rfl fun Z => sh (wr (sv_n 3 Z rfl fun a Z => Z.nx [5, 4, 20, 7, 6, 1] rfl fun Z => sh (wp_ret ?_)))
 try simp only [Exit.inBlock, Exit.then]
 exact ret2_of_ev Z.ev rfl (Z.g 4 rfl) (Z.g 5 rfl) ⟨_, rfl, Z.toBelow, g1, g6, rfl, hg1, hg6, Z.at 1 rfl, Z.at 0 rfl⟩
theorem appSeg0 {p : Pz} {cap c2 dur : Nat} {title uri : ByteArray} {Rc : Array Value} (gp gr gz : Nat) (hk : 0 < cap) (hcap : cap ≤ 100000) (hRc : cap ≤ Rc.size) (hseq : p.seq ≤ 4294967296) (hfl : (FloatKind.f64.format.order p.tgt dur == some .lt) = false) (w : World) (hp : w.heap[gp]? = some (.cells (p.cells (.slice (some ⟨gr, 0, none⟩) cap c2) cap 0 0) 88 (0, 0))) (hr : w.heap[gr]? = some (.cells Rc 125 (0, 0))) (hz : w.heap[gz]? = some (.cells (Sz.new 0 title uri dur).cells 127 (0, 0))) : Calls Tryz.prog 86 #[pt gp 0, pt gz 0] w fun e w' => e = .returned .nilIface ∧ w'.heap[gp]? = some (.cells (p.cells (.slice (some ⟨gr, 0, none⟩) cap c2) cap (1 % cap) (1)) 88 (0, 0)) ∧ w'.heap[gr]? = some (.cells (Rc.setIfInBounds 0 (pt gz 0)) 125 (0, 0)) ∧ w'.heap[gz]? = some (.cells (Sz.new (p.seq) title uri dur).cells 127 (0, 0)) ∧ Only (fun x => x = gp ∨ x = gr ∨ x = gz) w w' := by
 refine calls_of_ev Tryz.func86 rfl (show 2 ≤ 113 from by decide) fun a hE => ?_
 have hE : Ev 113 ((0, pt gp 0) :: (1, pt gz 0) :: []) a := hE
 have Z : Sv 113 ((0, pt gp 0) :: (1, pt gz 0) :: []) [] (fun x => x = gp ∨ x = gr ∨ x = gz) w a w := Sv.start hE _ _
 clear hE
 replace Z := (Z.addB (o := true) hp (by intro b hb; cases hb) (fun _ => .inl (.inl rfl))).ct [0, 1] rfl
 replace Z := (Z.addB (o := true) hr (Z.neT hr rfl) (fun _ => .inl (.inr (.inl rfl)))).ct [0, 1] rfl
 replace Z := (Z.addB (o := true) hz (Z.neT hz rfl) (fun _ => .inl (.inr (.inr rfl)))).ct [0, 1] rfl
 refine wr (sv_n 1 Z rfl fun a Z => Z.nx [4, 0, 1] rfl fun Z => sh (wp_seq (wp_seq ?_)))
 refine qg 8 [pt gp 0, pt gp 0, pt gp 14, .int .u64 0, pt gp 0, pt gp 0, pt gp 15, .int .u64 0] Z ?_ ?_
 ·simp only [List.take_succ_cons, List.take_zero]
  exact ⟨qm (Z.g 0 rfl), qn 0, qf 1, ql 2 lt_uint Z 2, qm (Z.g 0 rfl), qn 4, qf 5, ql 6 lt_uint Z 2, trivial⟩
 ·intro a w1 c hbw1
  replace Z := ((Z.ogk c [1, 0, 4]).kS c 3 rfl rfl).kS c 7 rfl rfl
  clear c
  simp only [List.drop_succ_cons, List.drop_zero]
  refine sv_r (v := .bool true) Z (ei_eql (Z.g 8 rfl) (Z.g 12 rfl) (by decide)) fun a Z => sv_n 4 Z rfl fun a Z => sv_g (v := .int .u64 0) Z (Z.g 14 rfl) (ex_ld (Z.g 17 rfl) lt_uint (cell_of_heap (v := .int .u64 0) (Z.at 2 rfl) rfl)) fun a Z => ?_
  refine sv_g (v := .bool false) Z (Z.g 14 rfl) (ei_gtr (Z.g 18 rfl) rfl (by rw [decide_eq_false_iff_not]; omega)) fun a Z => sv_n 1 Z rfl fun a Z => Z.nx [20, 1, 0, 4] rfl fun Z => sh (cond_f (Z.g 20 rfl) (wp_skip (sh (wr (sv_n 4 Z rfl fun a Z => sv_l (v := .int .u64 ((p.seq : Nat) : Int)) 2 Z rfl (Z.g 25 rfl) lt_uint64 rfl fun a Z => sv_n 2 Z rfl fun a Z => sv_st (i := 0) (v := .int .u64 ((p.seq : Nat) : Int)) (cs' := #[.int .u64 ((p.seq : Nat) : Int), .string title, .string uri, .float .f64 (dur), .int .i64 0, .int .i64 0, .pointer none, .pointer none, .bool false, .pointer none, .string (⟨#[]⟩)]) Z (su_uint64 _) (Z.g 28 rfl) (Z.g 26 rfl) rfl (show 0 < 11 from by decide) rfl rfl fun w2 hty Z => ?_)))))
  refine Z.nx [20, 1, 0, 4] rfl fun Z => sh (wp_seq (wr (sv_n 3 Z rfl fun a Z => sv_l (v := .int .u64 0) 2 Z rfl (Z.g 31 rfl) lt_uint rfl fun a Z => ?_)))
  refine sv_r (v := .bool false) Z (ei_gtr (Z.g 32 rfl) rfl (by rw [decide_eq_false_iff_not]; omega)) fun a Z => Z.nx [33, 20, 1, 0, 4] rfl fun Z => sh (cond_f (Z.g 33 rfl) (wp_skip (sh (wp_seq ?_))))
  refine qg 9 [pt gp 0, pt gp 0, pt gp 2, .slice (some ⟨gr, 0, none⟩) cap c2, pt gp 0, pt gp 0, pt gp 15, .int .u64 0, pt gz 0] Z ?_ ?_
  ·simp only [List.take_succ_cons, List.take_zero]
   exact ⟨qm (Z.g 0 rfl), qn 0, qf 1, ql 2 lt_sl_p_m3u8_MediaSegment Z 2, qm (Z.g 0 rfl), qn 4, qf 5, ql 6 lt_uint Z 2, qm (Z.g 1 rfl), trivial⟩
  ·intro a w3 c hbw3
   replace Z := (((Z.ogk c [4, 0, 1, 20, 33]).kS c 3 rfl rfl).kS c 7 rfl rfl).kS c 8 rfl rfl
   clear c
   simp only [List.drop_succ_cons, List.drop_zero]
   refine sv_r (v := pt gr 0) Z (ex_ia1 (E := 125) (i := 0) Tryz.underlying79 Tryz.sizeOf125 (Z.g 65 rfl) (Z.g 69 rfl) (by omega)) fun a Z => ?_
   refine sv_st (i := 1) (v := pt gz 0) Z (su_p_m3u8_MediaSegment _) (Z.g 71 rfl) (Z.g 70 rfl) rfl (by omega) rfl rfl fun w4 hty Z => Z.nx [4, 0, 1, 20, 33] rfl fun Z => sh (wp_seq ?_)
   refine qg 11 [pt gp 0, pt gp 0, pt gp 0, pt gp 15, .int .u64 0, .int .u64 1, pt gp 0, pt gp 0, pt gp 13, .int .u64 ((cap : Nat) : Int), .int .u64 ((1 % cap : Nat) : Int)] Z ?_ ?_
   ·simp only [List.take_succ_cons, List.take_zero]
    exact ⟨qm (Z.g 0 rfl), qm (Z.g 0 rfl), qn 1, qf 2, ql 3 lt_uint Z 2, fun _ _ c => og_val (v := .int .u64 1) (ei_add (c.s 4 rfl) rfl (by rw [IntKind.wrap_u64]; omega)) rfl, qm (Z.g 0 rfl), qn 6, qf 7, ql 8 lt_uint Z 2, fun _ _ c => og_val (v := .int .u64 ((1 % cap : Nat) : Int)) (ni_rem cap (c.s 5 rfl) (c.s 9 rfl) (by omega)) rfl, trivial⟩
   ·intro a w5 c hbw5
    replace Z := ((Z.ogk c [33, 20, 1, 0, 4]).kS c 0 rfl rfl).kS c 10 rfl rfl
    clear c
    simp only [List.drop_succ_cons, List.drop_zero]
    refine sv_n 2 Z rfl fun a Z => sv_st (i := 2) (v := .int .u64 ((1 % cap : Nat) : Int)) (cs' := (p.cells ((.slice (some ⟨gr, 0, none⟩) cap c2)) cap (1 % cap) 0)) Z (su_uint _) (Z.g 84 rfl) (Z.g 82 rfl) rfl (show 15 < 23 from by decide) rfl rfl fun w6 hty Z => Z.nx [33, 20, 1, 0, 4] rfl fun Z => sh (wr (sv_n 3 Z rfl fun a Z => sv_l (v := .int .u64 0) 2 Z rfl (Z.g 87 rfl) lt_uint rfl fun a Z => ?_))
    refine sv_r (v := .int .u64 ((1 : Nat) : Int)) Z (ei_add (Z.g 88 rfl) rfl (by rw [IntKind.wrap_u64]; omega)) fun a Z => sv_n 2 Z rfl fun a Z => sv_st (i := 2) (v := .int .u64 1) (cs' := (p.cells ((.slice (some ⟨gr, 0, none⟩) cap c2)) cap (1 % cap) 1)) Z (su_uint _) (Z.g 91 rfl) (Z.g 89 rfl) rfl (show 16 < 23 from by decide) rfl rfl fun w7 hty Z => Z.nx [33, 20, 1, 0, 4] rfl fun Z => sh (wp_seq (wp_seq ?_))
    refine qg 8 [pt gp 0, pt gp 0, pt gp 0, .float .f64 (p.tgt), pt gz 0, pt gz 0, pt gz 3, .float .f64 (dur)] Z ?_ ?_
    ·simp only [List.take_succ_cons, List.take_zero]
     exact ⟨qm (Z.g 0 rfl), qn 0, qf 1, ql 2 lt_float64 Z 2, qm (Z.g 1 rfl), qn 4, qf 5, ql 6 lt_float64 Z 0, trivial⟩
    ·intro a w8 c hbw8
     replace Z := ((Z.ogk c [4, 0, 1, 20, 33]).kS c 3 rfl rfl).kS c 7 rfl rfl
     clear c
     simp only [List.drop_succ_cons, List.drop_zero]
     refine sv_r (v := .bool false) Z (ef_lss (Z.g 95 rfl) (Z.g 99 rfl) (by exact hfl)) fun a Z => Z.nx [100, 4, 0, 1, 20, 33] rfl fun Z => sh (cond_f (Z.g 100 rfl) (wp_skip (sh (wr (sv_n 3 Z rfl fun a Z => ?_)))))
     have hpq : w8.heap[gp]? = some (.cells (p.cells (.slice (some ⟨gr, 0, none⟩) cap c2) cap (1 % cap) (1)) 88 (0, 0)) := Z.at 2 rfl
     refine sv_callp (i := 2) (v := .tuple #[]) Z rfl rfl (by decide) (ex_call1 cf_bytes_Buffer_Reset (Z.g 111 rfl)) rfl rfl (resetG gp w8 hpq) fun a w9 hty Z => Z.nx [100, 4, 0, 1, 20, 33] rfl fun Z => sh (wr (sv_n 1 Z rfl fun a Z => Z.nx [4, 100, 0, 1, 20, 33] rfl fun Z => sh (wp_ret ?_)))
     try simp only [Exit.inBlock, Exit.then]
     exact ret_of_ev Z.ev rfl (Z.g 4 rfl) ⟨rfl, Z.at 2 rfl, Z.at 1 rfl, Z.at 0 rfl, Z.only⟩
theorem app0 {p : Pz} {cap c2 dur : Nat} {title uri : ByteArray} {Rc : Array Value} (gp gr : Nat) (hk : 0 < cap) (hcap : cap ≤ 100000) (hRc : cap ≤ Rc.size) (hseq : p.seq ≤ 4294967296) (hfl : (FloatKind.f64.format.order p.tgt dur == some .lt) = false) (w : World) (hp : w.heap[gp]? = some (.cells (p.cells (.slice (some ⟨gr, 0, none⟩) cap c2) cap 0 0) 88 (0, 0))) (hr : w.heap[gr]? = some (.cells Rc 125 (0, 0))) : Calls Tryz.prog 61 #[pt gp 0, .string uri, .float .f64 dur, .string title] w fun e w' => ∃ v, e = .returned v ∧ Only (fun x => x = gp ∨ x = gr) w w' ∧ v = .nilIface ∧ w'.heap[gp]? = some (.cells (p.cells (.slice (some ⟨gr, 0, none⟩) cap c2) cap (1 % cap) (1)) 88 (0, 0)) ∧ ∃ sg, w.heap.size ≤ sg ∧ w'.heap[gr]? = some (.cells (Rc.setIfInBounds 0 (pt sg 0)) 125 (0, 0)) ∧ w'.heap[sg]? = some (.cells (Sz.new (p.seq) title uri dur).cells 127 (0, 0)) := by
 refine calls_of_ev Tryz.func61 rfl (show 4 ≤ 26 from by decide) fun a hE => ?_
 have hE : Ev 26 ((0, pt gp 0) :: (1, .string uri) :: (2, .float .f64 (dur)) :: (3, .string title) :: []) a := hE
 have Z : Sv 26 ((0, pt gp 0) :: (1, .string uri) :: (2, .float .f64 (dur)) :: (3, .string title) :: []) [] (fun x => x = gp ∨ x = gr) w a w := Sv.start hE _ _
 clear hE
 replace Z := (Z.addB (o := true) hp (by intro b hb; cases hb) (fun _ => .inl (.inl rfl))).ct [0, 1, 2, 3] rfl
 replace Z := (Z.addB (o := true) hr (Z.neT hr rfl) (fun _ => .inl (.inr rfl))).ct [0, 1, 2, 3] rfl
 refine wr (sv_n 1 Z rfl fun a Z => Z.nx [8, 0, 1, 2, 3] rfl fun Z => sh (wr (sv_al Z al_m3u8_MediaSegment (by decide) fun g1 a w2 hg1 hbw2 hwg1 Z => sv_n 1 Z rfl fun a Z => Z.nx [9, 8, 0, 1, 2, 3] rfl fun Z => sh (wr (sv_n 4 Z rfl fun a Z => sv_st (i := 0) (v := .string uri) (cs' := #[.int .u64 0, .string ⟨#[]⟩, .string uri, .float .f64 0, .int .i64 0, .int .i64 0, .pointer none, .pointer none, .bool false, .pointer none, .string ⟨#[]⟩]) Z (su_string _) (Z.g 14 rfl) (Z.g 12 rfl) rfl (show 2 < 11 from by decide) rfl rfl fun w3 hty Z => ?_)))))
 refine Z.nx [9, 8, 0, 2, 3] rfl fun Z => sh (wr (sv_n 4 Z rfl fun a Z => sv_st (i := 0) (v := .float .f64 (dur)) (cs' := #[.int .u64 0, .string ⟨#[]⟩, .string uri, .float .f64 (dur), .int .i64 0, .int .i64 0, .pointer none, .pointer none, .bool false, .pointer none, .string ⟨#[]⟩]) Z (su_float64 _) (Z.g 18 rfl) (Z.g 16 rfl) rfl (show 3 < 11 from by decide) rfl rfl fun w4 hty Z => Z.nx [9, 8, 0, 3] rfl fun Z => sh (wr (sv_n 4 Z rfl fun a Z => ?_))))
 refine sv_st (i := 0) (v := .string title) (cs' := #[.int .u64 0, .string title, .string uri, .float .f64 (dur), .int .i64 0, .int .i64 0, .pointer none, .pointer none, .bool false, .pointer none, .string ⟨#[]⟩]) Z (su_string _) (Z.g 22 rfl) (Z.g 20 rfl) rfl (show 1 < 11 from by decide) rfl rfl fun w5 hty Z => Z.nx [9, 8, 0] rfl fun Z => sh (wr (sv_n 2 Z rfl fun a Z => ?_))
 have hgz := Z.at 0 rfl
 have hgp1 := Z.at 2 rfl
 have hgr1 := Z.at 1 rfl
 have hgz0 : w.heap.size ≤ g1 := hg1
 have hcall := appSeg0 gp gr g1 hk hcap hRc hseq hfl w5 hgp1 hgr1 hgz
 replace Z := (Z.mz [false, false, false] rfl).ct [24, 23, 9, 8, 0] rfl
 refine sv_callo (X := fun x => x = gp ∨ x = gr ∨ x = g1) (S := fun v w' => v = .nilIface ∧ w'.heap[gp]? = some (.cells (p.cells (.slice (some ⟨gr, 0, none⟩) cap c2) cap (1 % cap) (1)) 88 (0, 0)) ∧ w'.heap[gr]? = some (.cells (Rc.setIfInBounds 0 (pt g1 0)) 125 (0, 0)) ∧ w'.heap[g1]? = some (.cells (Sz.new (p.seq) title uri dur).cells 127 (0, 0))) Z rfl rfl (by decide) (ex_call2 cf_m3u8_MediaPlaylist_AppendSegment (Z.g 23 rfl) (Z.g 24 rfl)) (hcall.mono fun e w' ⟨h1, h2, h3, h4, h5⟩ => ⟨_, h1, h5, rfl, h2, h3, h4⟩) (by intro b hb; cases hb) (fun q hq hlt => by rcases hq with rfl | rfl | rfl; (· exact .inl rfl); (· exact .inr rfl); (· omega)) ?_
 rintro a _ w6 ⟨rfl, k1, k2, k3⟩ hO2 Z
 refine sv_n 1 Z rfl fun a Z => Z.nx [8, 9] rfl fun Z => sh (wp_ret ?_)
 try simp only [Exit.inBlock, Exit.then]
 exact ret_of_ev Z.ev rfl (Z.g 8 rfl) ⟨_, rfl, Z.only, rfl, k1, g1, hgz0, k2, k3⟩
theorem appSegN {p : Pz} {cap c2 dur : Nat} {title uri : ByteArray} {Rc : Array Value} (gp gr gz : Nat) {cnt gl : Nat} {Lc : Array Value} (h0 : 0 < cnt) (hl1 : Rc[cnt - 1]? = some (pt gl 0)) (hlz : gl ≠ gz) (hLc : Lc[0]? = some (.int .u64 ((p.seq + (cnt - 1) : Nat) : Int))) (hk : cnt < cap) (hcap : cap ≤ 100000) (hRc : cap ≤ Rc.size) (hseq : p.seq ≤ 4294967296) (hfl : (FloatKind.f64.format.order p.tgt dur == some .lt) = false) (w : World) (hp : w.heap[gp]? = some (.cells (p.cells (.slice (some ⟨gr, 0, none⟩) cap c2) cap cnt cnt) 88 (0, 0))) (hr : w.heap[gr]? = some (.cells Rc 125 (0, 0))) (hz : w.heap[gz]? = some (.cells (Sz.new 0 title uri dur).cells 127 (0, 0))) (hl : w.heap[gl]? = some (.cells Lc 127 (0, 0))) : Calls Tryz.prog 86 #[pt gp 0, pt gz 0] w fun e w' => e = .returned .nilIface ∧ w'.heap[gp]? = some (.cells (p.cells (.slice (some ⟨gr, 0, none⟩) cap c2) cap ((cnt + 1) % cap) (cnt + 1)) 88 (0, 0)) ∧ w'.heap[gr]? = some (.cells (Rc.setIfInBounds cnt (pt gz 0)) 125 (0, 0)) ∧ w'.heap[gz]? = some (.cells (Sz.new (p.seq + cnt) title uri dur).cells 127 (0, 0)) ∧ Only (fun x => x = gp ∨ x = gr ∨ x = gz) w w' := by
 refine calls_of_ev Tryz.func86 rfl (show 2 ≤ 113 from by decide) fun a hE => ?_
 have hE : Ev 113 ((0, pt gp 0) :: (1, pt gz 0) :: []) a := hE
 have Z : Sv 113 ((0, pt gp 0) :: (1, pt gz 0) :: []) [] (fun x => x = gp ∨ x = gr ∨ x = gz) w a w := Sv.start hE _ _
 clear hE
 replace Z := (Z.addB (o := true) hp (by intro b hb; cases hb) (fun _ => .inl (.inl rfl))).ct [0, 1] rfl
 replace Z := (Z.addB (o := true) hr (Z.neT hr rfl) (fun _ => .inl (.inr (.inl rfl)))).ct [0, 1] rfl
 replace Z := (Z.addB (o := true) hz (Z.neT hz rfl) (fun _ => .inl (.inr (.inr rfl)))).ct [0, 1] rfl
 replace Z := (Z.addR hl (by intro q hq; simp only [List.mem_cons, List.not_mem_nil, or_false] at hq; rcases hq with rfl | rfl | rfl; (· exact hlz.symm); (· intro e; have e : gr = gl := e; rw [e, hl] at hr; injection hr with h1; injection h1 with _ h2 _; exact absurd (show (127 : Nat) = 125 from h2) (by decide)); (· intro e; have e : gp = gl := e; rw [e, hl] at hp; injection hp with h1; injection h1 with _ h2 _; exact absurd (show (127 : Nat) = 88 from h2) (by decide)))).ct [0, 1] rfl
 refine wr (sv_n 1 Z rfl fun a Z => Z.nx [4, 0, 1] rfl fun Z => sh (wp_seq (wp_seq ?_)))
 refine qg 8 [pt gp 0, pt gp 0, pt gp 14, .int .u64 0, pt gp 0, pt gp 0, pt gp 15, .int .u64 ((cnt : Nat) : Int)] Z ?_ ?_
 ·simp only [List.take_succ_cons, List.take_zero]
  exact ⟨qm (Z.g 0 rfl), qn 0, qf 1, ql 2 lt_uint Z 3, qm (Z.g 0 rfl), qn 4, qf 5, ql 6 lt_uint Z 3, trivial⟩
 ·intro a w1 c hbw1
  replace Z := ((Z.ogk c [1, 0, 4]).kS c 3 rfl rfl).kS c 7 rfl rfl
  clear c
  simp only [List.drop_succ_cons, List.drop_zero]
  refine sv_r (v := .bool false) Z (ei_eql (Z.g 8 rfl) (Z.g 12 rfl) (by rw [decide_eq_false_iff_not]; omega)) fun a Z => sv_n 7 Z rfl fun a Z => Z.nx [20, 1, 0, 4] rfl fun Z => sh (cond_f (Z.g 20 rfl) (wp_skip (sh (wr (sv_n 4 Z rfl fun a Z => sv_l (v := .int .u64 ((p.seq : Nat) : Int)) 3 Z rfl (Z.g 25 rfl) lt_uint64 rfl fun a Z => sv_n 2 Z rfl fun a Z => sv_st (i := 1) (v := .int .u64 ((p.seq : Nat) : Int)) (cs' := #[.int .u64 ((p.seq : Nat) : Int), .string title, .string uri, .float .f64 (dur), .int .i64 0, .int .i64 0, .pointer none, .pointer none, .bool false, .pointer none, .string (⟨#[]⟩)]) Z (su_uint64 _) (Z.g 28 rfl) (Z.g 26 rfl) rfl (show 0 < 11 from by decide) rfl rfl fun w2 hty Z => ?_)))))
  refine Z.nx [20, 1, 0, 4] rfl fun Z => sh (wp_seq (wr (sv_n 3 Z rfl fun a Z => sv_l (v := .int .u64 ((cnt : Nat) : Int)) 3 Z rfl (Z.g 31 rfl) lt_uint rfl fun a Z => ?_)))
  refine sv_r (v := .bool true) Z (ei_gtr (Z.g 32 rfl) rfl (by rw [decide_eq_true_iff]; omega)) fun a Z => Z.nx [33, 20, 1, 0, 4] rfl fun Z => sh (cond_t (Z.g 33 rfl) ?_)
  refine qg 26 [pt gz 0, pt gp 0, pt gp 0, pt gp 2, .slice (some ⟨gr, 0, none⟩) cap c2, pt gp 0, pt gp 0, pt gp 13, .int .u64 ((cap : Nat) : Int), pt gp 0, pt gp 0, pt gp 15, .int .u64 ((cnt : Nat) : Int), .int .u64 ((cap + cnt : Nat) : Int), .int .u64 ((cap + cnt - 1 : Nat) : Int), pt gp 0, pt gp 0, pt gp 13, .int .u64 ((cap : Nat) : Int), .int .u64 ((cnt - 1 : Nat) : Int), pt gr (cnt - 1), pt gl 0, pt gl 0, pt gl 0, .int .u64 ((p.seq + (cnt - 1) : Nat) : Int), .int .u64 ((p.seq + cnt : Nat) : Int)] Z ?_ ?_
  ·simp only [List.take_succ_cons, List.take_zero]
   exact ⟨qm (Z.g 1 rfl), qm (Z.g 0 rfl), qn 1, qf 2, ql 3 lt_sl_p_m3u8_MediaSegment Z 3, qm (Z.g 0 rfl), qn 5, qf 6, ql 7 lt_uint Z 3, qm (Z.g 0 rfl), qn 9, qf 10, ql 11 lt_uint Z 3, fun _ _ c => og_val (v := .int .u64 ((cap + cnt : Nat) : Int)) (ei_add (c.s 8 rfl) (c.s 12 rfl) (by rw [IntKind.wrap_u64]; omega)) rfl, fun _ _ c => og_val (v := .int .u64 ((cap + cnt - 1 : Nat) : Int)) (ei_sub (c.s 13 rfl) rfl (by rw [IntKind.wrap_u64]; omega)) rfl, qm (Z.g 0 rfl), qn 15, qf 16, ql 17 lt_uint Z 3, fun _ _ c => og_val (v := .int .u64 ((cnt - 1 : Nat) : Int)) (ni_rem' cap (c.s 14 rfl) (c.s 18 rfl) (by omega) (by rw [show cap + cnt - 1 = (cnt - 1) + cap from by omega, Nat.add_mod_right, Nat.mod_eq_of_lt (by omega)])) rfl, fun _ _ c => og_val (v := pt gr (cnt - 1)) (ex_ia1 (E := 125) (i := cnt - 1) Tryz.underlying79 Tryz.sizeOf125 (c.s 4 rfl) (c.s 19 rfl) (by omega)) rfl, fun _ _ c => og_val (v := pt gl 0) (ex_ld (c.s 20 rfl) lt_p_m3u8_MediaSegment (cell_of_heap (v := pt gl 0) ((Z.ogc c).at 2 rfl) hl1)) rfl, qn 21, qf 22, fun _ _ c => og_val (v := .int .u64 ((p.seq + (cnt - 1) : Nat) : Int)) (ex_ld (c.s 23 rfl) lt_uint64 (cell_of_heap (v := .int .u64 ((p.seq + (cnt - 1) : Nat) : Int)) ((Z.ogc c).at 0 rfl) hLc)) rfl, fun _ _ c => og_val (v := .int .u64 ((p.seq + cnt : Nat) : Int)) (ei_add (c.s 24 rfl) rfl (by rw [IntKind.wrap_u64]; omega)) rfl, trivial⟩
  ·intro a w3 c hbw3
   replace Z := ((Z.ogk c [4, 0, 1, 20, 33]).kS c 0 rfl rfl).kS c 25 rfl rfl
   clear c
   simp only [List.drop_succ_cons, List.drop_zero]
   refine sv_n 2 Z rfl fun a Z => sv_st (i := 1) (v := .int .u64 ((p.seq + cnt : Nat) : Int)) (cs' := #[.int .u64 ((p.seq + cnt : Nat) : Int), .string title, .string uri, .float .f64 (dur), .int .i64 0, .int .i64 0, .pointer none, .pointer none, .bool false, .pointer none, .string (⟨#[]⟩)]) Z (su_uint64 _) (Z.g 61 rfl) (Z.g 59 rfl) rfl (show 0 < 11 from by decide) rfl rfl fun w4 hty Z => Z.nx [4, 0, 1, 20, 33] rfl fun Z => sh (wp_seq ?_)
   refine qg 9 [pt gp 0, pt gp 0, pt gp 2, .slice (some ⟨gr, 0, none⟩) cap c2, pt gp 0, pt gp 0, pt gp 15, .int .u64 ((cnt : Nat) : Int), pt gz 0] Z ?_ ?_
   ·simp only [List.take_succ_cons, List.take_zero]
    exact ⟨qm (Z.g 0 rfl), qn 0, qf 1, ql 2 lt_sl_p_m3u8_MediaSegment Z 3, qm (Z.g 0 rfl), qn 4, qf 5, ql 6 lt_uint Z 3, qm (Z.g 1 rfl), trivial⟩
   ·intro a w5 c hbw5
    replace Z := (((Z.ogk c [33, 20, 1, 0, 4]).kS c 3 rfl rfl).kS c 7 rfl rfl).kS c 8 rfl rfl
    clear c
    simp only [List.drop_succ_cons, List.drop_zero]
    refine sv_r (v := pt gr cnt) Z (ex_ia1 (E := 125) (i := cnt) Tryz.underlying79 Tryz.sizeOf125 (Z.g 65 rfl) (Z.g 69 rfl) (by omega)) fun a Z => ?_
    refine sv_st (i := 2) (v := pt gz 0) Z (su_p_m3u8_MediaSegment _) (Z.g 71 rfl) (Z.g 70 rfl) rfl (by omega) rfl rfl fun w6 hty Z => Z.nx [33, 20, 1, 0, 4] rfl fun Z => sh (wp_seq ?_)
    refine qg 11 [pt gp 0, pt gp 0, pt gp 0, pt gp 15, .int .u64 ((cnt : Nat) : Int), .int .u64 ((cnt + 1 : Nat) : Int), pt gp 0, pt gp 0, pt gp 13, .int .u64 ((cap : Nat) : Int), .int .u64 (((cnt + 1) % cap : Nat) : Int)] Z ?_ ?_
    ·simp only [List.take_succ_cons, List.take_zero]
     exact ⟨qm (Z.g 0 rfl), qm (Z.g 0 rfl), qn 1, qf 2, ql 3 lt_uint Z 3, fun _ _ c => og_val (v := .int .u64 ((cnt + 1 : Nat) : Int)) (ei_add (c.s 4 rfl) rfl (by rw [IntKind.wrap_u64]; omega)) rfl, qm (Z.g 0 rfl), qn 6, qf 7, ql 8 lt_uint Z 3, fun _ _ c => og_val (v := .int .u64 (((cnt + 1) % cap : Nat) : Int)) (ni_rem cap (c.s 5 rfl) (c.s 9 rfl) (by omega)) rfl, trivial⟩
    ·intro a w7 c hbw7
     replace Z := ((Z.ogk c [4, 0, 1, 20, 33]).kS c 0 rfl rfl).kS c 10 rfl rfl
     clear c
     simp only [List.drop_succ_cons, List.drop_zero]
     refine sv_n 2 Z rfl fun a Z => sv_st (i := 3) (v := .int .u64 (((cnt + 1) % cap : Nat) : Int)) (cs' := (p.cells ((.slice (some ⟨gr, 0, none⟩) cap c2)) cap ((cnt + 1) % cap) cnt)) Z (su_uint _) (Z.g 84 rfl) (Z.g 82 rfl) rfl (show 15 < 23 from by decide) rfl rfl fun w8 hty Z => Z.nx [4, 0, 1, 20, 33] rfl fun Z => sh (wr (sv_n 3 Z rfl fun a Z => sv_l (v := .int .u64 ((cnt : Nat) : Int)) 3 Z rfl (Z.g 87 rfl) lt_uint rfl fun a Z => ?_))
     refine sv_r (v := .int .u64 ((cnt + 1 : Nat) : Int)) Z (ei_add (Z.g 88 rfl) rfl (by rw [IntKind.wrap_u64]; omega)) fun a Z => sv_n 2 Z rfl fun a Z => sv_st (i := 3) (v := .int .u64 ((cnt + 1 : Nat) : Int)) (cs' := (p.cells ((.slice (some ⟨gr, 0, none⟩) cap c2)) cap ((cnt + 1) % cap) (cnt + 1))) Z (su_uint _) (Z.g 91 rfl) (Z.g 89 rfl) rfl (show 16 < 23 from by decide) rfl rfl fun w9 hty Z => Z.nx [4, 0, 1, 20, 33] rfl fun Z => sh (wp_seq (wp_seq ?_))
     refine qg 8 [pt gp 0, pt gp 0, pt gp 0, .float .f64 (p.tgt), pt gz 0, pt gz 0, pt gz 3, .float .f64 (dur)] Z ?_ ?_
     ·simp only [List.take_succ_cons, List.take_zero]
      exact ⟨qm (Z.g 0 rfl), qn 0, qf 1, ql 2 lt_float64 Z 3, qm (Z.g 1 rfl), qn 4, qf 5, ql 6 lt_float64 Z 1, trivial⟩
     ·intro a w10 c hbw10
      replace Z := ((Z.ogk c [33, 20, 1, 0, 4]).kS c 3 rfl rfl).kS c 7 rfl rfl
      clear c
      simp only [List.drop_succ_cons, List.drop_zero]
      refine sv_r (v := .bool false) Z (ef_lss (Z.g 95 rfl) (Z.g 99 rfl) (by exact hfl)) fun a Z => Z.nx [100, 33, 20, 1, 0, 4] rfl fun Z => sh (cond_f (Z.g 100 rfl) (wp_skip (sh (wr (sv_n 3 Z rfl fun a Z => ?_)))))
      have hpq : w10.heap[gp]? = some (.cells (p.cells (.slice (some ⟨gr, 0, none⟩) cap c2) cap ((cnt + 1) % cap) (cnt + 1)) 88 (0, 0)) := Z.at 3 rfl
      refine sv_callp (i := 3) (v := .tuple #[]) Z rfl rfl (by decide) (ex_call1 cf_bytes_Buffer_Reset (Z.g 111 rfl)) rfl rfl (resetG gp w10 hpq) fun a w11 hty Z => Z.nx [100, 33, 20, 1, 0, 4] rfl fun Z => sh (wr (sv_n 1 Z rfl fun a Z => Z.nx [4, 100, 33, 20, 1, 0] rfl fun Z => sh (wp_ret ?_)))
      try simp only [Exit.inBlock, Exit.then]
      exact ret_of_ev Z.ev rfl (Z.g 4 rfl) ⟨rfl, Z.at 3 rfl, Z.at 2 rfl, Z.at 1 rfl, Z.only⟩
theorem appN {p : Pz} {cap c2 dur : Nat} {title uri : ByteArray} {Rc : Array Value} (gp gr : Nat) {cnt gl : Nat} {Lc : Array Value} (h0 : 0 < cnt) (hl1 : Rc[cnt - 1]? = some (pt gl 0)) (hLc : Lc[0]? = some (.int .u64 ((p.seq + (cnt - 1) : Nat) : Int))) (hk : cnt < cap) (hcap : cap ≤ 100000) (hRc : cap ≤ Rc.size) (hseq : p.seq ≤ 4294967296) (hfl : (FloatKind.f64.format.order p.tgt dur == some .lt) = false) (w : World) (hp : w.heap[gp]? = some (.cells (p.cells (.slice (some ⟨gr, 0, none⟩) cap c2) cap cnt cnt) 88 (0, 0))) (hr : w.heap[gr]? = some (.cells Rc 125 (0, 0))) (hl : w.heap[gl]? = some (.cells Lc 127 (0, 0))) : Calls Tryz.prog 61 #[pt gp 0, .string uri, .float .f64 dur, .string title] w fun e w' => ∃ v, e = .returned v ∧ Only (fun x => x = gp ∨ x = gr) w w' ∧ v = .nilIface ∧ w'.heap[gp]? = some (.cells (p.cells (.slice (some ⟨gr, 0, none⟩) cap c2) cap ((cnt + 1) % cap) (cnt + 1)) 88 (0, 0)) ∧ ∃ sg, w.heap.size ≤ sg ∧ w'.heap[gr]? = some (.cells (Rc.setIfInBounds cnt (pt sg 0)) 125 (0, 0)) ∧ w'.heap[sg]? = some (.cells (Sz.new (p.seq + cnt) title uri dur).cells 127 (0, 0)) := by
 refine calls_of_ev Tryz.func61 rfl (show 4 ≤ 26 from by decide) fun a hE => ?_
 have hE : Ev 26 ((0, pt gp 0) :: (1, .string uri) :: (2, .float .f64 (dur)) :: (3, .string title) :: []) a := hE
 have Z : Sv 26 ((0, pt gp 0) :: (1, .string uri) :: (2, .float .f64 (dur)) :: (3, .string title) :: []) [] (fun x => x = gp ∨ x = gr) w a w := Sv.start hE _ _
 clear hE
 replace Z := (Z.addB (o := true) hp (by intro b hb; cases hb) (fun _ => .inl (.inl rfl))).ct [0, 1, 2, 3] rfl
 replace Z := (Z.addB (o := true) hr (Z.neT hr rfl) (fun _ => .inl (.inr rfl))).ct [0, 1, 2, 3] rfl
 have hltl : gl < w.heap.size := (Array.getElem?_eq_some_iff.1 hl).1
 have hlr : gl ≠ gr := by intro e; rw [← e, hl] at hr; injection hr with h1; injection h1 with _ h2 _; exact absurd (show (127 : Nat) = 125 from h2) (by decide)
 have hlp : gl ≠ gp := by intro e; rw [← e, hl] at hp; injection hp with h1; injection h1 with _ h2 _; exact absurd (show (127 : Nat) = 88 from h2) (by decide)
 refine wr (sv_n 1 Z rfl fun a Z => Z.nx [8, 0, 1, 2, 3] rfl fun Z => sh (wr (sv_al Z al_m3u8_MediaSegment (by decide) fun g1 a w2 hg1 hbw2 hwg1 Z => sv_n 1 Z rfl fun a Z => Z.nx [9, 8, 0, 1, 2, 3] rfl fun Z => sh (wr (sv_n 4 Z rfl fun a Z => sv_st (i := 0) (v := .string uri) (cs' := #[.int .u64 0, .string ⟨#[]⟩, .string uri, .float .f64 0, .int .i64 0, .int .i64 0, .pointer none, .pointer none, .bool false, .pointer none, .string ⟨#[]⟩]) Z (su_string _) (Z.g 14 rfl) (Z.g 12 rfl) rfl (show 2 < 11 from by decide) rfl rfl fun w3 hty Z => ?_)))))
 refine Z.nx [9, 8, 0, 2, 3] rfl fun Z => sh (wr (sv_n 4 Z rfl fun a Z => sv_st (i := 0) (v := .float .f64 (dur)) (cs' := #[.int .u64 0, .string ⟨#[]⟩, .string uri, .float .f64 (dur), .int .i64 0, .int .i64 0, .pointer none, .pointer none, .bool false, .pointer none, .string ⟨#[]⟩]) Z (su_float64 _) (Z.g 18 rfl) (Z.g 16 rfl) rfl (show 3 < 11 from by decide) rfl rfl fun w4 hty Z => Z.nx [9, 8, 0, 3] rfl fun Z => sh (wr (sv_n 4 Z rfl fun a Z => ?_))))
 refine sv_st (i := 0) (v := .string title) (cs' := #[.int .u64 0, .string title, .string uri, .float .f64 (dur), .int .i64 0, .int .i64 0, .pointer none, .pointer none, .bool false, .pointer none, .string ⟨#[]⟩]) Z (su_string _) (Z.g 22 rfl) (Z.g 20 rfl) rfl (show 1 < 11 from by decide) rfl rfl fun w5 hty Z => Z.nx [9, 8, 0] rfl fun Z => sh (wr (sv_n 2 Z rfl fun a Z => ?_))
 have hgz := Z.at 0 rfl
 have hgp1 := Z.at 2 rfl
 have hgr1 := Z.at 1 rfl
 have hgz0 : w.heap.size ≤ g1 := hg1
 have hcall := appSegN gp gr g1 h0 hl1 (by omega) hLc hk hcap hRc hseq hfl w5 hgp1 hgr1 hgz (Z.old hl (by rintro (h | h); (· exact hlp h); (· exact hlr h)))
 replace Z := (Z.mz [false, false, false] rfl).ct [24, 23, 9, 8, 0] rfl
 refine sv_callo (X := fun x => x = gp ∨ x = gr ∨ x = g1) (S := fun v w' => v = .nilIface ∧ w'.heap[gp]? = some (.cells (p.cells (.slice (some ⟨gr, 0, none⟩) cap c2) cap ((cnt + 1) % cap) (cnt + 1)) 88 (0, 0)) ∧ w'.heap[gr]? = some (.cells (Rc.setIfInBounds cnt (pt g1 0)) 125 (0, 0)) ∧ w'.heap[g1]? = some (.cells (Sz.new (p.seq + cnt) title uri dur).cells 127 (0, 0))) Z rfl rfl (by decide) (ex_call2 cf_m3u8_MediaPlaylist_AppendSegment (Z.g 23 rfl) (Z.g 24 rfl)) (hcall.mono fun e w' ⟨h1, h2, h3, h4, h5⟩ => ⟨_, h1, h5, rfl, h2, h3, h4⟩) (by intro b hb; cases hb) (fun q hq hlt => by rcases hq with rfl | rfl | rfl; (· exact .inl rfl); (· exact .inr rfl); (· omega)) ?_
 rintro a _ w6 ⟨rfl, k1, k2, k3⟩ hO2 Z
 refine sv_n 1 Z rfl fun a Z => Z.nx [8, 9] rfl fun Z => sh (wp_ret ?_)
 try simp only [Exit.inBlock, Exit.then]
 exact ret_of_ev Z.ev rfl (Z.g 8 rfl) ⟨_, rfl, Z.only, rfl, k1, g1, hgz0, k2, k3⟩
theorem appSegF {p : Pz} {cap c2 : Nat} {B : Nat} {G : Ge} (gp gr gz : Nat) (hk : 0 < cap) (hcap : cap ≤ 100000) (w : World) (hG : Env B G w) (hp : w.heap[gp]? = some (.cells (p.cells (.slice (some ⟨gr, 0, none⟩) cap c2) cap 0 cap) 88 (0, 0))) : Calls Tryz.prog 86 #[pt gp 0, pt gz 0] w fun e w' => e = .returned (fullV G) ∧ Below w.heap.size w w' := by
 refine calls_of_ev Tryz.func86 rfl (show 2 ≤ 113 from by decide) fun a hE => ?_
 have hE : Ev 113 ((0, pt gp 0) :: (1, pt gz 0) :: []) a := hE
 have Z : Sv 113 ((0, pt gp 0) :: (1, pt gz 0) :: []) [] (fun _ => False) w a w := Sv.start hE _ _
 clear hE
 replace Z := (Z.addR hp (by intro b hb; cases hb)).ct [0, 1] rfl
 refine wr (sv_n 1 Z rfl fun a Z => Z.nx [4, 0, 1] rfl fun Z => sh (wp_seq (wp_seq ?_)))
 refine qg 8 [pt gp 0, pt gp 0, pt gp 14, .int .u64 0, pt gp 0, pt gp 0, pt gp 15, .int .u64 0] Z ?_ ?_
 ·simp only [List.take_succ_cons, List.take_zero]
  exact ⟨qm (Z.g 0 rfl), qn 0, qf 1, ql 2 lt_uint Z 0, qm (Z.g 0 rfl), qn 4, qf 5, ql 6 lt_uint Z 0, trivial⟩
 ·intro a w1 c hbw1
  replace Z := ((Z.ogk c [1, 0, 4]).kS c 3 rfl rfl).kS c 7 rfl rfl
  clear c
  simp only [List.drop_succ_cons, List.drop_zero]
  refine sv_r (v := .bool true) Z (ei_eql (Z.g 8 rfl) (Z.g 12 rfl) (by decide)) fun a Z => sv_n 4 Z rfl fun a Z => sv_g (v := .int .u64 ((cap : Nat) : Int)) Z (Z.g 14 rfl) (ex_ld (Z.g 17 rfl) lt_uint (cell_of_heap (v := .int .u64 ((cap : Nat) : Int)) (Z.at 0 rfl) rfl)) fun a Z => ?_
  refine sv_g (v := .bool true) Z (Z.g 14 rfl) (ei_gtr (Z.g 18 rfl) rfl (by rw [decide_eq_true_iff]; omega)) fun a Z => sv_n 1 Z rfl fun a Z => Z.nx [20, 1, 0, 4] rfl fun Z => sh (cond_t (Z.g 20 rfl) (wr (sv_r (v := fullV G) Z (ex_ldg lt_error (hG.below Z.toBelow).full) fun a Z => sv_n 1 Z rfl fun a Z => Z.nx [4, 20, 1, 0] rfl fun Z => sh (wp_ret ?_))))
  try simp only [Exit.inBlock, Exit.then]
  exact ret_of_ev Z.ev rfl (Z.g 4 rfl) ⟨rfl, Z.toBelow⟩
theorem appF {p : Pz} {cap c2 dur : Nat} {title uri : ByteArray} {B : Nat} {G : Ge} (gp gr : Nat) (hk : 0 < cap) (hcap : cap ≤ 100000) (w : World) (hG : Env B G w) (hp : w.heap[gp]? = some (.cells (p.cells (.slice (some ⟨gr, 0, none⟩) cap c2) cap 0 cap) 88 (0, 0))) : Calls Tryz.prog 61 #[pt gp 0, .string uri, .float .f64 (dur), .string title] w fun e w' => e = .returned (fullV G) ∧ Below w.heap.size w w' := by
 refine calls_of_ev Tryz.func61 rfl (show 4 ≤ 26 from by decide) fun a hE => ?_
 have hE : Ev 26 ((0, pt gp 0) :: (1, .string uri) :: (2, .float .f64 (dur)) :: (3, .string title) :: []) a := hE
 have Z : Sv 26 ((0, pt gp 0) :: (1, .string uri) :: (2, .float .f64 (dur)) :: (3, .string title) :: []) [] (fun _ => False) w a w := Sv.start hE _ _
 clear hE
 replace Z := (Z.addR hp (by intro b hb; cases hb)).ct [0, 1, 2, 3] rfl
 refine wr (sv_n 1 Z rfl fun a Z => Z.nx [8, 0, 1, 2, 3] rfl fun Z => sh (wr (sv_al Z al_m3u8_MediaSegment (by decide) fun g1 a w2 hg1 hbw2 hwg1 Z => sv_n 1 Z rfl fun a Z => Z.nx [9, 8, 0, 1, 2, 3] rfl fun Z => sh (wr (sv_n 4 Z rfl fun a Z => sv_st (i := 0) (v := .string uri) (cs' := #[.int .u64 0, .string ⟨#[]⟩, .string uri, .float .f64 0, .int .i64 0, .int .i64 0, .pointer none, .pointer none, .bool false, .pointer none, .string ⟨#[]⟩]) Z (su_string _) (Z.g 14 rfl) (Z.g 12 rfl) rfl (show 2 < 11 from by decide) rfl rfl fun w3 hty Z => ?_)))))
 refine Z.nx [9, 8, 0, 2, 3] rfl fun Z => sh (wr (sv_n 4 Z rfl fun a Z => sv_st (i := 0) (v := .float .f64 (dur)) (cs' := #[.int .u64 0, .string ⟨#[]⟩, .string uri, .float .f64 (dur), .int .i64 0, .int .i64 0, .pointer none, .pointer none, .bool false, .pointer none, .string ⟨#[]⟩]) Z (su_float64 _) (Z.g 18 rfl) (Z.g 16 rfl) rfl (show 3 < 11 from by decide) rfl rfl fun w4 hty Z => Z.nx [9, 8, 0, 3] rfl fun Z => sh (wr (sv_n 4 Z rfl fun a Z => ?_))))
 refine sv_st (i := 0) (v := .string title) (cs' := #[.int .u64 0, .string title, .string uri, .float .f64 (dur), .int .i64 0, .int .i64 0, .pointer none, .pointer none, .bool false, .pointer none, .string ⟨#[]⟩]) Z (su_string _) (Z.g 22 rfl) (Z.g 20 rfl) rfl (show 1 < 11 from by decide) rfl rfl fun w5 hty Z => Z.nx [9, 8, 0] rfl fun Z => sh (wr (sv_n 2 Z rfl fun a Z => sv_callv (v := fullV G) Z rfl rfl (by decide) (ex_call2 cf_m3u8_MediaPlaylist_AppendSegment (Z.g 23 rfl) (Z.g 24 rfl)) (appSegF gp gr _ hk hcap _ (hG.below Z.toBelow) (Z.at 1 rfl)) fun a w6 hbw6 Z => sv_n 1 Z rfl fun a Z => Z.nx [8, 9] rfl fun Z => sh (wp_ret ?_)))
 try simp only [Exit.inBlock, Exit.then]
 exact ret_of_ev Z.ev rfl (Z.g 8 rfl) ⟨rfl, Z.toBelow⟩
end Go.Proofs.YtflppablgdegcaaGreatDoor
