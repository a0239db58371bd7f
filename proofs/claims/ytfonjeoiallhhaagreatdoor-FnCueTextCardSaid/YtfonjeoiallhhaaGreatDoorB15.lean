/- Joined: Ap. -/
import Derived.Test.YtfonjeoiallhhaaGreatDoorB14
/- The walks of the package's small functions on a media playlist, and of AppendSegment. -/
set_option maxRecDepth 100000
set_option maxHeartbeats 8000000
namespace Go.Proofs.YtfonjeoiallhhaaGreatDoor
open Go.RowKit
/-- A media playlist of the package: its window is 0, its head 0, its buffer empty; numbers of seconds by their bits. -/
structure Pq where
 tgt : Nat
 seq : Nat
 sv : Value
 args : ByteArray
 iframe : Bool
 closed : Bool
 typ : Nat
 disc : Nat
 start : Nat
 precise : Bool
 cap : Nat
 tail : Nat
 count : Nat
 ver : Nat
 kp : Value
 mp : Value
def Pq.cells (p : Pq) : Array Value := #[.float .f64 p.tgt, .int .u64 (p.seq : Int), p.sv, .string p.args, .bool p.iframe, .bool p.closed, .int .u64 (p.typ : Int), .int .u64 (p.disc : Int), .float .f64 p.start, .bool p.precise, .bool false, .int .i64 0, .int .u64 0, .int .u64 (p.cap : Int), .int .u64 0, .int .u64 (p.tail : Int), .int .u64 (p.count : Int), .slice none 0 0, .int .i64 0, .int .i8 0, .int .u8 (p.ver : Int), p.kp, p.mp]
theorem setVersion_any (p : Pq) (g n : Nat) (w : World) (hp : w.heap[g]? = some (.cells p.cells 72 (0, 0))) : Calls Tryz.prog 21 #[pt g 0, .int .u8 ((n : Nat) : Int)] w fun e w' => e = .returned (.tuple #[]) ∧ w'.heap[g]? = some (.cells ({ p with ver := n } : Pq).cells 72 (0, 0)) ∧ Only (fun x => x = g) w w' := by
 refine calls_of_ev Tryz.func21 rfl (show 2 ≤ 8 from by decide) ?_
 intro a hE
 have hE : Ev 8 ((0, pt g 0) :: (1, .int .u8 ((n : Nat) : Int)) :: []) a := hE
 have hS : Sv 8 ((0, pt g 0) :: (1, .int .u8 ((n : Nat) : Int)) :: []) [] (fun x => x = g) w a w := Sv.start hE _ _
 clear hE
 replace hS : Sv 8 ((0, pt g 0) :: (1, .int .u8 ((n : Nat) : Int)) :: []) [⟨g, p.cells, 72, true⟩] (fun x => x = g) w a w := hS.addB hp (by intro b hb; cases hb) (fun _ => .inl rfl)
 refine wp_region_lit ?_
 refine sv_r (v := pt g 0) hS (ex_mv (hS.get 0 rfl)) fun a hS => ?_
 refine sv_r (v := .int .u8 ((n : Nat) : Int)) hS (ex_mv (hS.get 1 rfl)) fun a hS => ?_
 refine sv_r (v := pt g 0) hS (ex_nc (hS.get 4 rfl)) fun a hS => ?_
 refine sv_r (v := pt g 20) hS (ex_fo (hS.get 6 rfl) fo_m3u8_MediaPlaylist_18 rfl) fun a hS => ?_
 refine sv_st (i := 0) (v := .int .u8 ((n : Nat) : Int)) (cs' := #[.float .f64 (p.tgt), .int .u64 ((p.seq : Nat) : Int), p.sv, .string p.args, .bool (p.iframe), .bool (p.closed), .int .u64 ((p.typ : Nat) : Int), .int .u64 ((p.disc : Nat) : Int), .float .f64 (p.start), .bool (p.precise), .bool false, .int .i64 0, .int .u64 0, .int .u64 ((p.cap : Nat) : Int), .int .u64 0, .int .u64 ((p.tail : Nat) : Int), .int .u64 ((p.count : Nat) : Int), .slice none 0 0, .int .i64 0, .int .i8 0, .int .u8 ((n : Nat) : Int), p.kp, p.mp]) (m' := [⟨g, #[.float .f64 (p.tgt), .int .u64 ((p.seq : Nat) : Int), p.sv, .string p.args, .bool (p.iframe), .bool (p.closed), .int .u64 ((p.typ : Nat) : Int), .int .u64 ((p.disc : Nat) : Int), .float .f64 (p.start), .bool (p.precise), .bool false, .int .i64 0, .int .u64 0, .int .u64 ((p.cap : Nat) : Int), .int .u64 0, .int .u64 ((p.tail : Nat) : Int), .int .u64 ((p.count : Nat) : Int), .slice none 0 0, .int .i64 0, .int .i8 0, .int .u8 ((n : Nat) : Int), p.kp, p.mp], 72, true⟩]) hS (su_uint8 _) (hS.get 7 rfl) (hS.get 5 rfl) rfl (show 20 < 23 from by decide) rfl rfl ?_
 intro w1 hty hS
 refine wpList_nil ?_
 replace hS := hS.cut []
 exact end_ev hS.ev rfl ⟨rfl, hS.at 0 rfl, hS.only⟩
theorem durInt_any (p : Pq) (g : Nat) (w : World) (hp : w.heap[g]? = some (.cells p.cells 72 (0, 0))) : Calls Tryz.prog 20 #[pt g 0, .bool false] w fun e w' => e = .returned (.tuple #[]) ∧ w'.heap[g]? = some (.cells p.cells 72 (0, 0)) ∧ Only (fun x => x = g) w w' := by
 refine calls_of_ev Tryz.func20 rfl (show 2 ≤ 13 from by decide) ?_
 intro a hE
 have hE : Ev 13 ((0, pt g 0) :: (1, .bool false) :: []) a := hE
 have hS : Sv 13 ((0, pt g 0) :: (1, .bool false) :: []) [] (fun x => x = g) w a w := Sv.start hE _ _
 clear hE
 replace hS : Sv 13 ((0, pt g 0) :: (1, .bool false) :: []) [⟨g, p.cells, 72, true⟩] (fun x => x = g) w a w := hS.addB hp (by intro b hb; cases hb) (fun _ => .inl rfl)
 refine wp_seq ?_
 refine wp_seq ?_
 refine wp_region_lit ?_
 refine sv_r (v := .bool false) hS (ex_mv (hS.get 1 rfl)) fun a hS => ?_
 refine wpList_nil ?_
 replace hS := hS.cut [4, 0, 1]
 show Code.wp _ _ _ _ _
 refine cond_f (hS.get 4 rfl) ?_
 refine wp_skip ?_
 show Code.wp _ _ _ _ _
 refine wp_region_lit ?_
 refine sv_r (v := pt g 0) hS (ex_mv (hS.get 0 rfl)) fun a hS => ?_
 refine sv_r (v := .bool false) hS (ex_mv (hS.get 1 rfl)) fun a hS => ?_
 refine sv_r (v := pt g 0) hS (ex_nc (hS.get 9 rfl)) fun a hS => ?_
 refine sv_r (v := pt g 10) hS (ex_fo (hS.get 11 rfl) fo_m3u8_MediaPlaylist_10 rfl) fun a hS => ?_
 refine sv_st (i := 0) (v := .bool false) (cs' := #[.float .f64 (p.tgt), .int .u64 ((p.seq : Nat) : Int), p.sv, .string p.args, .bool (p.iframe), .bool (p.closed), .int .u64 ((p.typ : Nat) : Int), .int .u64 ((p.disc : Nat) : Int), .float .f64 (p.start), .bool (p.precise), .bool false, .int .i64 0, .int .u64 0, .int .u64 ((p.cap : Nat) : Int), .int .u64 0, .int .u64 ((p.tail : Nat) : Int), .int .u64 ((p.count : Nat) : Int), .slice none 0 0, .int .i64 0, .int .i8 0, .int .u8 ((p.ver : Nat) : Int), p.kp, p.mp]) (m' := [⟨g, #[.float .f64 (p.tgt), .int .u64 ((p.seq : Nat) : Int), p.sv, .string p.args, .bool (p.iframe), .bool (p.closed), .int .u64 ((p.typ : Nat) : Int), .int .u64 ((p.disc : Nat) : Int), .float .f64 (p.start), .bool (p.precise), .bool false, .int .i64 0, .int .u64 0, .int .u64 ((p.cap : Nat) : Int), .int .u64 0, .int .u64 ((p.tail : Nat) : Int), .int .u64 ((p.count : Nat) : Int), .slice none 0 0, .int .i64 0, .int .i8 0, .int .u8 ((p.ver : Nat) : Int), p.kp, p.mp], 72, true⟩]) hS (su_bool _) (hS.get 12 rfl) (hS.get 10 rfl) rfl (show 10 < 23 from by decide) rfl rfl ?_
 intro w1 hty hS
 refine wpList_nil ?_
 replace hS := hS.cut [4, 0, 1]
 exact end_ev hS.ev rfl ⟨rfl, hS.at 0 rfl, hS.only⟩
theorem setWin_any (p : Pq) (g : Nat) (w : World) (hp : w.heap[g]? = some (.cells p.cells 72 (0, 0))) : Calls Tryz.prog 34 #[pt g 0, .int .u64 0] w fun e w' => e = .returned .nilIface ∧ w'.heap[g]? = some (.cells p.cells 72 (0, 0)) ∧ Only (fun x => x = g) w w' := by
 refine calls_of_ev Tryz.func34 rfl (show 2 ≤ 16 from by decide) ?_
 intro a hE
 have hE : Ev 16 ((0, pt g 0) :: (1, .int .u64 0) :: []) a := hE
 have hS : Sv 16 ((0, pt g 0) :: (1, .int .u64 0) :: []) [] (fun x => x = g) w a w := Sv.start hE _ _
 clear hE
 replace hS : Sv 16 ((0, pt g 0) :: (1, .int .u64 0) :: []) [⟨g, p.cells, 72, true⟩] (fun x => x = g) w a w := hS.addB hp (by intro b hb; cases hb) (fun _ => .inl rfl)
 refine wp_seq ?_
 refine wp_region_lit ?_
 refine sv_r (v := .nilIface) hS ex_ac fun a hS => ?_
 refine wpList_nil ?_
 replace hS := hS.cut [4, 0, 1]
 show Code.wp _ _ _ _ _
 refine wp_seq ?_
 refine wp_seq ?_
 refine wp_region_lit ?_
 refine sv_r (v := .int .u64 0) hS (ex_mv (hS.get 1 rfl)) fun a hS => ?_
 refine sv_r (v := pt g 0) hS (ex_mv (hS.get 0 rfl)) fun a hS => ?_
 refine sv_r (v := pt g 0) hS (ex_nc (hS.get 6 rfl)) fun a hS => ?_
 refine sv_r (v := pt g 13) hS (ex_fo (hS.get 7 rfl) fo_m3u8_MediaPlaylist_13 rfl) fun a hS => ?_
 refine sv_r (v := .int .u64 ((p.cap : Nat) : Int)) hS (ex_ld (hS.get 8 rfl) lt_uint (cell_of_heap (v := .int .u64 ((p.cap : Nat) : Int)) (hS.at 0 rfl) rfl)) fun a hS => ?_
 refine sv_r (v := .bool false) hS (ei_gtr (hS.get 5 rfl) (hS.get 9 rfl) (by rw [decide_eq_false_iff_not]; omega)) fun a hS => ?_
 refine wpList_nil ?_
 replace hS := hS.cut [10, 4, 0, 1]
 show Code.wp _ _ _ _ _
 refine cond_f (hS.get 10 rfl) ?_
 refine wp_skip ?_
 show Code.wp _ _ _ _ _
 refine wp_seq ?_
 refine wp_region_lit ?_
 refine sv_r (v := pt g 0) hS (ex_mv (hS.get 0 rfl)) fun a hS => ?_
 refine sv_r (v := .int .u64 0) hS (ex_mv (hS.get 1 rfl)) fun a hS => ?_
 refine sv_r (v := pt g 0) hS (ex_nc (hS.get 12 rfl)) fun a hS => ?_
 refine sv_r (v := pt g 12) hS (ex_fo (hS.get 14 rfl) fo_m3u8_MediaPlaylist_12 rfl) fun a hS => ?_
 refine sv_st (i := 0) (v := .int .u64 0) (cs' := #[.float .f64 (p.tgt), .int .u64 ((p.seq : Nat) : Int), p.sv, .string p.args, .bool (p.iframe), .bool (p.closed), .int .u64 ((p.typ : Nat) : Int), .int .u64 ((p.disc : Nat) : Int), .float .f64 (p.start), .bool (p.precise), .bool false, .int .i64 0, .int .u64 0, .int .u64 ((p.cap : Nat) : Int), .int .u64 0, .int .u64 ((p.tail : Nat) : Int), .int .u64 ((p.count : Nat) : Int), .slice none 0 0, .int .i64 0, .int .i8 0, .int .u8 ((p.ver : Nat) : Int), p.kp, p.mp]) (m' := [⟨g, #[.float .f64 (p.tgt), .int .u64 ((p.seq : Nat) : Int), p.sv, .string p.args, .bool (p.iframe), .bool (p.closed), .int .u64 ((p.typ : Nat) : Int), .int .u64 ((p.disc : Nat) : Int), .float .f64 (p.start), .bool (p.precise), .bool false, .int .i64 0, .int .u64 0, .int .u64 ((p.cap : Nat) : Int), .int .u64 0, .int .u64 ((p.tail : Nat) : Int), .int .u64 ((p.count : Nat) : Int), .slice none 0 0, .int .i64 0, .int .i8 0, .int .u8 ((p.ver : Nat) : Int), p.kp, p.mp], 72, true⟩]) hS (su_uint _) (hS.get 15 rfl) (hS.get 13 rfl) rfl (show 12 < 23 from by decide) rfl rfl ?_
 intro w1 hty hS
 refine wpList_nil ?_
 replace hS := hS.cut [10, 4, 0, 1]
 show Code.wp _ _ _ _ _
 refine wp_seq ?_
 refine wp_region_lit ?_
 refine sv_r (v := .nilIface) hS ex_ac fun a hS => ?_
 refine wpList_nil ?_
 replace hS := hS.cut [4, 10, 0, 1]
 show Code.wp _ _ _ _ _
 refine wp_ret ?_
 try simp only [Exit.inBlock, Exit.then]
 exact ret_of_ev hS.ev rfl (hS.get 4 rfl) ⟨rfl, hS.at 0 rfl, hS.only⟩
theorem reset_any (p : Pq) (g : Nat) (w : World) (hp : w.heap[g]? = some (.cells p.cells 72 (0, 0))) : Calls Tryz.prog 36 #[pt g 17] w fun e w' => e = .returned (.tuple #[]) ∧ w'.heap[g]? = some (.cells p.cells 72 (0, 0)) ∧ Only (fun x => x = g) w w' := by
 refine calls_of_ev Tryz.func36 rfl (show 1 ≤ 16 from by decide) ?_
 intro a hE
 have hE : Ev 16 ((0, pt g 17) :: []) a := hE
 have hS : Sv 16 ((0, pt g 17) :: []) [] (fun x => x = g) w a w := Sv.start hE _ _
 clear hE
 replace hS : Sv 16 ((0, pt g 17) :: []) [⟨g, p.cells, 72, true⟩] (fun x => x = g) w a w := hS.addB hp (by intro b hb; cases hb) (fun _ => .inl rfl)
 refine wp_seq ?_
 refine wp_region_lit ?_
 refine sv_r (v := pt g 17) hS (ex_mv (hS.get 0 rfl)) fun a hS => ?_
 refine sv_r (v := pt g 17) hS (ex_mv (hS.get 0 rfl)) fun a hS => ?_
 refine sv_r (v := pt g 17) hS (ex_nc (hS.get 3 rfl)) fun a hS => ?_
 refine sv_r (v := pt g 17) hS (ex_fo (hS.get 4 rfl) fo_bytes_Buffer_0 rfl) fun a hS => ?_
 refine sv_r (v := .slice none 0 0) hS (ex_ld (hS.get 5 rfl) lt_sl_uint8 (cell_of_heap (v := .slice none 0 0) (hS.at 0 rfl) rfl)) fun a hS => ?_
 refine sv_r (v := .slice none 0 0) hS (ex_slh (E := 5) (h := 0) Tryz.underlying24 Tryz.sizeOf5 (hS.get 6 rfl) rfl (by omega)) fun a hS => ?_
 refine sv_r (v := pt g 17) hS (ex_nc (hS.get 2 rfl)) fun a hS => ?_
 refine sv_r (v := pt g 17) hS (ex_fo (hS.get 8 rfl) fo_bytes_Buffer_0 rfl) fun a hS => ?_
 refine sv_st (i := 0) (v := .slice none 0 0) (cs' := #[.float .f64 (p.tgt), .int .u64 ((p.seq : Nat) : Int), p.sv, .string p.args, .bool (p.iframe), .bool (p.closed), .int .u64 ((p.typ : Nat) : Int), .int .u64 ((p.disc : Nat) : Int), .float .f64 (p.start), .bool (p.precise), .bool false, .int .i64 0, .int .u64 0, .int .u64 ((p.cap : Nat) : Int), .int .u64 0, .int .u64 ((p.tail : Nat) : Int), .int .u64 ((p.count : Nat) : Int), .slice none 0 0, .int .i64 0, .int .i8 0, .int .u8 ((p.ver : Nat) : Int), p.kp, p.mp]) (m' := [⟨g, #[.float .f64 (p.tgt), .int .u64 ((p.seq : Nat) : Int), p.sv, .string p.args, .bool (p.iframe), .bool (p.closed), .int .u64 ((p.typ : Nat) : Int), .int .u64 ((p.disc : Nat) : Int), .float .f64 (p.start), .bool (p.precise), .bool false, .int .i64 0, .int .u64 0, .int .u64 ((p.cap : Nat) : Int), .int .u64 0, .int .u64 ((p.tail : Nat) : Int), .int .u64 ((p.count : Nat) : Int), .slice none 0 0, .int .i64 0, .int .i8 0, .int .u8 ((p.ver : Nat) : Int), p.kp, p.mp], 72, true⟩]) hS (su_sl_uint8 _ _ _) (hS.get 9 rfl) (hS.get 7 rfl) rfl (show 17 < 23 from by decide) rfl rfl ?_
 intro w1 hty hS
 refine wpList_nil ?_
 replace hS := hS.cut [0]
 show Code.wp _ _ _ _ _
 refine wp_seq ?_
 refine wp_region_lit ?_
 refine sv_r (v := pt g 17) hS (ex_mv (hS.get 0 rfl)) fun a hS => ?_
 refine sv_r (v := pt g 17) hS (ex_nc (hS.get 10 rfl)) fun a hS => ?_
 refine sv_r (v := pt g 18) hS (ex_fo (hS.get 11 rfl) fo_bytes_Buffer_1 rfl) fun a hS => ?_
 refine sv_st (i := 0) (v := .int .i64 0) (cs' := #[.float .f64 (p.tgt), .int .u64 ((p.seq : Nat) : Int), p.sv, .string p.args, .bool (p.iframe), .bool (p.closed), .int .u64 ((p.typ : Nat) : Int), .int .u64 ((p.disc : Nat) : Int), .float .f64 (p.start), .bool (p.precise), .bool false, .int .i64 0, .int .u64 0, .int .u64 ((p.cap : Nat) : Int), .int .u64 0, .int .u64 ((p.tail : Nat) : Int), .int .u64 ((p.count : Nat) : Int), .slice none 0 0, .int .i64 0, .int .i8 0, .int .u8 ((p.ver : Nat) : Int), p.kp, p.mp]) (m' := [⟨g, #[.float .f64 (p.tgt), .int .u64 ((p.seq : Nat) : Int), p.sv, .string p.args, .bool (p.iframe), .bool (p.closed), .int .u64 ((p.typ : Nat) : Int), .int .u64 ((p.disc : Nat) : Int), .float .f64 (p.start), .bool (p.precise), .bool false, .int .i64 0, .int .u64 0, .int .u64 ((p.cap : Nat) : Int), .int .u64 0, .int .u64 ((p.tail : Nat) : Int), .int .u64 ((p.count : Nat) : Int), .slice none 0 0, .int .i64 0, .int .i8 0, .int .u8 ((p.ver : Nat) : Int), p.kp, p.mp], 72, true⟩]) hS (su_int _) (hS.get 12 rfl) rfl rfl (show 18 < 23 from by decide) rfl rfl ?_
 intro w2 hty hS
 refine wpList_nil ?_
 replace hS := hS.cut [0]
 show Code.wp _ _ _ _ _
 refine wp_region_lit ?_
 refine sv_r (v := pt g 17) hS (ex_mv (hS.get 0 rfl)) fun a hS => ?_
 refine sv_r (v := pt g 17) hS (ex_nc (hS.get 13 rfl)) fun a hS => ?_
 refine sv_r (v := pt g 19) hS (ex_fo (hS.get 14 rfl) fo_bytes_Buffer_2 rfl) fun a hS => ?_
 refine sv_st (i := 0) (v := .int .i8 0) (cs' := #[.float .f64 (p.tgt), .int .u64 ((p.seq : Nat) : Int), p.sv, .string p.args, .bool (p.iframe), .bool (p.closed), .int .u64 ((p.typ : Nat) : Int), .int .u64 ((p.disc : Nat) : Int), .float .f64 (p.start), .bool (p.precise), .bool false, .int .i64 0, .int .u64 0, .int .u64 ((p.cap : Nat) : Int), .int .u64 0, .int .u64 ((p.tail : Nat) : Int), .int .u64 ((p.count : Nat) : Int), .slice none 0 0, .int .i64 0, .int .i8 0, .int .u8 ((p.ver : Nat) : Int), p.kp, p.mp]) (m' := [⟨g, #[.float .f64 (p.tgt), .int .u64 ((p.seq : Nat) : Int), p.sv, .string p.args, .bool (p.iframe), .bool (p.closed), .int .u64 ((p.typ : Nat) : Int), .int .u64 ((p.disc : Nat) : Int), .float .f64 (p.start), .bool (p.precise), .bool false, .int .i64 0, .int .u64 0, .int .u64 ((p.cap : Nat) : Int), .int .u64 0, .int .u64 ((p.tail : Nat) : Int), .int .u64 ((p.count : Nat) : Int), .slice none 0 0, .int .i64 0, .int .i8 0, .int .u8 ((p.ver : Nat) : Int), p.kp, p.mp], 72, true⟩]) hS (su_bytes_readOp _) (hS.get 15 rfl) rfl rfl (show 19 < 23 from by decide) rfl rfl ?_
 intro w3 hty hS
 refine wpList_nil ?_
 replace hS := hS.cut [0]
 exact end_ev hS.ev rfl ⟨rfl, hS.at 0 rfl, hS.only⟩
/-- A playlist that is new. -/
def newPq (gs n : Nat) : Pq := ⟨0, 0, .slice (some ⟨gs, 0, none⟩) n n, ⟨#[]⟩, false, false, 0, 0, 0, false, n, 0, 0, 3, .pointer none, .pointer none⟩
theorem newMedia_any (n : Nat) (hn : n ≤ 100000) (w : World) : Calls Tryz.prog 15 #[.int .u64 0, .int .u64 ((n : Nat) : Int)] w fun e w' => ∃ v, e = .returned v ∧ Below w.heap.size w w' ∧ ∃ gp gs : Nat, v = .tuple #[pt gp 0, .nilIface] ∧ w.heap.size ≤ gp ∧ w.heap.size ≤ gs ∧ w'.heap[gp]? = some (.cells (newPq gs n).cells 72 (0, 0)) ∧ w'.heap[gs]? = some (.cells (List.replicate n (Value.pointer none)).toArray 76 (0, 0)) := by
 refine calls_of_ev Tryz.func15 rfl (show 2 ≤ 28 from by decide) ?_
 intro a hE
 have hE : Ev 28 ((0, .int .u64 0) :: (1, .int .u64 ((n : Nat) : Int)) :: []) a := hE
 have hS : Sv 28 ((0, .int .u64 0) :: (1, .int .u64 ((n : Nat) : Int)) :: []) [] (fun _ => False) w a w := Sv.start hE _ _
 clear hE
 refine wp_seq ?_
 refine wp_region_lit ?_
 refine sv_r (v := .pointer none) hS ex_ac fun a hS => ?_
 refine sv_r (v := .nilIface) hS ex_ac fun a hS => ?_
 refine wpList_nil ?_
 replace hS := hS.cut [5, 4, 0, 1]
 show Code.wp _ _ _ _ _
 refine wp_seq ?_
 refine wp_region_lit ?_
 refine sv_al hS al_m3u8_MediaPlaylist (by decide) ?_
 intro g1 a w2 hg1 hbw2 hwg1 hS
 refine sv_r (v := pt g1 0) hS (ex_as (hS.get 8 rfl)) fun a hS => ?_
 refine wpList_nil ?_
 replace hS := hS.cut [6, 5, 4, 0, 1]
 show Code.wp _ _ _ _ _
 refine wp_seq ?_
 refine wp_region_lit ?_
 refine sv_r (v := pt g1 0) hS (ex_mv (hS.get 6 rfl)) fun a hS => ?_
 refine sv_r (v := pt g1 0) hS (ex_nc (hS.get 9 rfl)) fun a hS => ?_
 refine sv_r (v := pt g1 20) hS (ex_fo (hS.get 10 rfl) fo_m3u8_MediaPlaylist_18 rfl) fun a hS => ?_
 refine sv_st (i := 0) (v := .int .u8 3) (cs' := #[.float .f64 0, .int .u64 0, .slice none 0 0, .string ⟨#[]⟩, .bool false, .bool false, .int .u64 0, .int .u64 0, .float .f64 0, .bool false, .bool false, .int .i64 0, .int .u64 0, .int .u64 0, .int .u64 0, .int .u64 0, .int .u64 0, .slice none 0 0, .int .i64 0, .int .i8 0, .int .u8 3, .pointer none, .pointer none]) (m' := [⟨g1, #[.float .f64 0, .int .u64 0, .slice none 0 0, .string ⟨#[]⟩, .bool false, .bool false, .int .u64 0, .int .u64 0, .float .f64 0, .bool false, .bool false, .int .i64 0, .int .u64 0, .int .u64 0, .int .u64 0, .int .u64 0, .int .u64 0, .slice none 0 0, .int .i64 0, .int .i8 0, .int .u8 3, .pointer none, .pointer none], 72, true⟩]) hS (su_uint8 _) (hS.get 11 rfl) rfl rfl (show 20 < 23 from by decide) rfl rfl ?_
 intro w3 hty hS
 refine wpList_nil ?_
 replace hS := hS.cut [6, 5, 4, 0, 1]
 show Code.wp _ _ _ _ _
 refine wp_seq ?_
 refine wp_region_lit ?_
 refine sv_r (v := pt g1 0) hS (ex_mv (hS.get 6 rfl)) fun a hS => ?_
 refine sv_r (v := .int .u64 ((n : Nat) : Int)) hS (ex_mv (hS.get 1 rfl)) fun a hS => ?_
 refine sv_r (v := pt g1 0) hS (ex_nc (hS.get 12 rfl)) fun a hS => ?_
 refine sv_r (v := pt g1 13) hS (ex_fo (hS.get 14 rfl) fo_m3u8_MediaPlaylist_13 rfl) fun a hS => ?_
 refine sv_st (i := 0) (v := .int .u64 ((n : Nat) : Int)) (cs' := #[.float .f64 0, .int .u64 0, .slice none 0 0, .string ⟨#[]⟩, .bool false, .bool false, .int .u64 0, .int .u64 0, .float .f64 0, .bool false, .bool false, .int .i64 0, .int .u64 0, .int .u64 ((n : Nat) : Int), .int .u64 0, .int .u64 0, .int .u64 0, .slice none 0 0, .int .i64 0, .int .i8 0, .int .u8 3, .pointer none, .pointer none]) (m' := [⟨g1, #[.float .f64 0, .int .u64 0, .slice none 0 0, .string ⟨#[]⟩, .bool false, .bool false, .int .u64 0, .int .u64 0, .float .f64 0, .bool false, .bool false, .int .i64 0, .int .u64 0, .int .u64 ((n : Nat) : Int), .int .u64 0, .int .u64 0, .int .u64 0, .slice none 0 0, .int .i64 0, .int .i8 0, .int .u8 3, .pointer none, .pointer none], 72, true⟩]) hS (su_uint _) (hS.get 15 rfl) (hS.get 13 rfl) rfl (show 13 < 23 from by decide) rfl rfl ?_
 intro w4 hty hS
 refine wpList_nil ?_
 replace hS := hS.cut [6, 5, 4, 0, 1]
 show Code.wp _ _ _ _ _
 refine wp_seq ?_
 refine wp_seq ?_
 refine wp_region_lit ?_
 refine sv_r (v := pt g1 0) hS (ex_mv (hS.get 6 rfl)) fun a hS => ?_
 refine sv_r (v := .int .u64 0) hS (ex_mv (hS.get 0 rfl)) fun a hS => ?_
 have hpq : w4.heap[g1]? = some (.cells (⟨0, 0, .slice none 0 0, ⟨#[]⟩, false, false, 0, 0, 0, false, n, 0, 0, 3, .pointer none, .pointer none⟩ : Pq).cells 72 (0, 0)) := hS.at 0 rfl
 refine sv_callp (i := 0) (v := .nilIface) (m' := [⟨g1, #[.float .f64 0, .int .u64 0, .slice none 0 0, .string ⟨#[]⟩, .bool false, .bool false, .int .u64 0, .int .u64 0, .float .f64 0, .bool false, .bool false, .int .i64 0, .int .u64 0, .int .u64 ((n : Nat) : Int), .int .u64 0, .int .u64 0, .int .u64 0, .slice none 0 0, .int .i64 0, .int .i8 0, .int .u8 3, .pointer none, .pointer none], 72, true⟩]) hS rfl rfl (by decide) (ex_call2 cf_m3u8_MediaPlaylist_SetWinSize (hS.get 16 rfl) (hS.get 17 rfl)) rfl rfl (setWin_any _ g1 w4 hpq) ?_
 intro a w5 hty hS
 refine sv_r (v := .nilIface) hS (ex_as (hS.get 18 rfl)) fun a hS => ?_
 refine wpList_nil ?_
 replace hS := hS.cut [7, 6, 5, 4, 1]
 show Code.wp _ _ _ _ _
 refine wp_seq ?_
 refine wp_region_lit ?_
 refine sv_r (v := .nilIface) hS (ex_mv (hS.get 7 rfl)) fun a hS => ?_
 refine sv_r (v := .bool false) hS (ex_ine eqi_error (hS.get 19 rfl)) fun a hS => ?_
 refine wpList_nil ?_
 replace hS := hS.cut [20, 7, 6, 5, 4, 1]
 show Code.wp _ _ _ _ _
 refine cond_f (hS.get 20 rfl) ?_
 refine wp_skip ?_
 show Code.wp _ _ _ _ _
 refine wp_seq ?_
 refine wp_region_lit ?_
 refine sv_r (v := pt g1 0) hS (ex_mv (hS.get 6 rfl)) fun a hS => ?_
 refine sv_r (v := .int .u64 ((n : Nat) : Int)) hS (ex_mv (hS.get 1 rfl)) fun a hS => ?_
 refine sv_new (T := 76) (cs := (List.replicate n (.pointer none)).toArray) hS rfl rfl (by decide) (fun g => .slice (some ⟨g, 0, none⟩) n n) (ex_make sli_sl_p_m3u8_MediaSegment (by kernel_rfl) rfl (hS.get 23 rfl) (by omega) (by omega)) ?_
 intro g6 a w7 hg6 hbw7 hwg6 hS
 refine sv_r (v := pt g1 0) hS (ex_nc (hS.get 22 rfl)) fun a hS => ?_
 refine sv_r (v := pt g1 2) hS (ex_fo (hS.get 25 rfl) fo_m3u8_MediaPlaylist_2 rfl) fun a hS => ?_
 refine sv_st (i := 1) (v := .slice (some ⟨g6, 0, none⟩) n n) (cs' := #[.float .f64 0, .int .u64 0, .slice (some ⟨g6, 0, none⟩) n n, .string ⟨#[]⟩, .bool false, .bool false, .int .u64 0, .int .u64 0, .float .f64 0, .bool false, .bool false, .int .i64 0, .int .u64 0, .int .u64 ((n : Nat) : Int), .int .u64 0, .int .u64 0, .int .u64 0, .slice none 0 0, .int .i64 0, .int .i8 0, .int .u8 3, .pointer none, .pointer none]) (m' := [⟨g6, (List.replicate n (.pointer none)).toArray, 76, true⟩, ⟨g1, #[.float .f64 0, .int .u64 0, .slice (some ⟨g6, 0, none⟩) n n, .string ⟨#[]⟩, .bool false, .bool false, .int .u64 0, .int .u64 0, .float .f64 0, .bool false, .bool false, .int .i64 0, .int .u64 0, .int .u64 ((n : Nat) : Int), .int .u64 0, .int .u64 0, .int .u64 0, .slice none 0 0, .int .i64 0, .int .i8 0, .int .u8 3, .pointer none, .pointer none], 72, true⟩]) hS (su_sl_p_m3u8_MediaSegment _ _ _) (hS.get 26 rfl) (hS.get 24 rfl) rfl (show 2 < 23 from by decide) rfl rfl ?_
 intro w8 hty hS
 refine wpList_nil ?_
 replace hS := hS.cut [20, 7, 6, 5, 4, 1]
 show Code.wp _ _ _ _ _
 refine wp_seq ?_
 refine wp_region_lit ?_
 refine sv_r (v := pt g1 0) hS (ex_mv (hS.get 6 rfl)) fun a hS => ?_
 refine sv_r (v := pt g1 0) hS (ex_as (hS.get 27 rfl)) fun a hS => ?_
 refine sv_r (v := .nilIface) hS ex_ac fun a hS => ?_
 refine wpList_nil ?_
 replace hS := hS.cut [5, 4, 20, 7, 6, 1]
 show Code.wp _ _ _ _ _
 refine wp_ret ?_
 try simp only [Exit.inBlock, Exit.then]
 exact ret2_of_ev hS.ev rfl (hS.get 4 rfl) (hS.get 5 rfl) ⟨_, rfl, hS.toBelow, g1, g6, rfl, hg1, hg6, hS.at 1 rfl, hS.at 0 rfl⟩
theorem append0_any (p : Pq) (z : Mz) (gp gs gz : Nat) (ps : List Value) (hps : ps.length = p.cap) (hk : 0 < p.cap) (hcap : p.cap ≤ 100000) (hseq : p.seq + 0 < 18446744073709551615) (hfl : (FloatKind.f64.format.order p.tgt (e8 z.s.e) == some .lt) = false) (w : World) (hp : w.heap[gp]? = some (.cells ({ p with sv := .slice (some ⟨gs, 0, none⟩) p.cap p.cap, tail := 0, count := 0 } : Pq).cells 72 (0, 0))) (hs : w.heap[gs]? = some (.cells ps.toArray 76 (0, 0))) (hz : w.heap[gz]? = some (.cells z.cells 104 (0, 0))) : Calls Tryz.prog 16 #[pt gp 0, pt gz 0] w fun e w' => e = .returned .nilIface ∧ w'.heap[gp]? = some (.cells ({ p with sv := .slice (some ⟨gs, 0, none⟩) p.cap p.cap, tail := (0 + 1) % p.cap, count := 0 + 1 } : Pq).cells 72 (0, 0)) ∧ w'.heap[gs]? = some (.cells (ps.set 0 (pt gz 0)).toArray 76 (0, 0)) ∧ w'.heap[gz]? = some (.cells ({ z with seq := p.seq + 0 } : Mz).cells 104 (0, 0)) ∧ Only (fun x => x = gp ∨ x = gs ∨ x = gz) w w' := by
 refine calls_of_ev Tryz.func16 rfl (show 2 ≤ 113 from by decide) ?_
 intro a hE
 have hE : Ev 113 ((0, pt gp 0) :: (1, pt gz 0) :: []) a := hE
 have hS : Sv 113 ((0, pt gp 0) :: (1, pt gz 0) :: []) [] (fun x => x = gp ∨ x = gs ∨ x = gz) w a w := Sv.start hE _ _
 clear hE
 replace hS : Sv 113 ((0, pt gp 0) :: (1, pt gz 0) :: []) [⟨gp, ({ p with sv := .slice (some ⟨gs, 0, none⟩) p.cap p.cap, tail := 0, count := 0 } : Pq).cells, 72, true⟩] (fun x => x = gp ∨ x = gs ∨ x = gz) w a w := hS.addB hp (by intro b hb; cases hb) (fun _ => .inl (.inl rfl))
 replace hS : Sv 113 ((0, pt gp 0) :: (1, pt gz 0) :: []) [⟨gs, ps.toArray, 76, true⟩, ⟨gp, ({ p with sv := .slice (some ⟨gs, 0, none⟩) p.cap p.cap, tail := 0, count := 0 } : Pq).cells, 72, true⟩] (fun x => x = gp ∨ x = gs ∨ x = gz) w a w := hS.addB hs (hS.neT hs rfl) (fun _ => .inl (.inr (.inl rfl)))
 replace hS : Sv 113 ((0, pt gp 0) :: (1, pt gz 0) :: []) [⟨gz, z.cells, 104, true⟩, ⟨gs, ps.toArray, 76, true⟩, ⟨gp, ({ p with sv := .slice (some ⟨gs, 0, none⟩) p.cap p.cap, tail := 0, count := 0 } : Pq).cells, 72, true⟩] (fun x => x = gp ∨ x = gs ∨ x = gz) w a w := hS.addB hz (hS.neT hz rfl) (fun _ => .inl (.inr (.inr rfl)))
 refine wp_seq ?_
 refine wp_region_lit ?_
 refine sv_r (v := .nilIface) hS ex_ac fun a hS => ?_
 refine wpList_nil ?_
 replace hS := hS.cut [4, 0, 1]
 show Code.wp _ _ _ _ _
 refine wp_seq ?_
 refine wp_seq ?_
 refine wp_region_og1 (n := 113) 8 [Asr.eq (pt gp 0), Asr.eq (pt gp 0), Asr.eq (pt gp 14), Asr.eq (.int .u64 0), Asr.eq (pt gp 0), Asr.eq (pt gp 0), Asr.eq (pt gp 15), Asr.eq (.int .u64 0)] (by kernel_rfl) (by kernel_rfl) (by kernel_rfl) (by simp) (by kernel_rfl) hS.ev.size ⟨⟩ ?_ ?_
 ·simp only [List.take_succ_cons, List.take_zero]
  refine ⟨?_, ?_, ?_, ?_, ?_, ?_, ?_, ?_, trivial⟩
  ·intro a wx c
   have e_0 : a.eval (.tmp 0) = pt gp 0 := c.outE (by decide +kernel) (hS.get 0 rfl)
   clear c
   exact og_val (ex_mv e_0) rfl
  ·intro a wx c
   have e_5 : a.eval (.tmp 5) = pt gp 0 := c.slot 0 _ (by decide +kernel) rfl
   clear c
   exact og_val (ex_nc e_5) rfl
  ·intro a wx c
   have e_6 : a.eval (.tmp 6) = pt gp 0 := c.slot 1 _ (by decide +kernel) rfl
   clear c
   exact og_val (ex_fo e_6 fo_m3u8_MediaPlaylist_14 rfl) rfl
  ·intro a wx c
   have e_7 : a.eval (.tmp 7) = pt gp 14 := c.slot 2 _ (by decide +kernel) rfl
   have hO := hS.ogc c
   clear c
   exact og_val (ex_ld e_7 lt_uint (cell_of_heap (v := .int .u64 0) (hO.at 2 rfl) rfl)) rfl
  ·intro a wx c
   have e_0 : a.eval (.tmp 0) = pt gp 0 := c.outE (by decide +kernel) (hS.get 0 rfl)
   clear c
   exact og_val (ex_mv e_0) rfl
  ·intro a wx c
   have e_9 : a.eval (.tmp 9) = pt gp 0 := c.slot 4 _ (by decide +kernel) rfl
   clear c
   exact og_val (ex_nc e_9) rfl
  ·intro a wx c
   have e_10 : a.eval (.tmp 10) = pt gp 0 := c.slot 5 _ (by decide +kernel) rfl
   clear c
   exact og_val (ex_fo e_10 fo_m3u8_MediaPlaylist_15 rfl) rfl
  ·intro a wx c
   have e_11 : a.eval (.tmp 11) = pt gp 15 := c.slot 6 _ (by decide +kernel) rfl
   have hO := hS.ogc c
   clear c
   exact og_val (ex_ld e_11 lt_uint (cell_of_heap (v := .int .u64 0) (hO.at 2 rfl) rfl)) rfl
 ·intro a w1 c hbw1
  replace hS : Sv 113 ((12, .int .u64 0) :: (8, .int .u64 0) :: (1, pt gz 0) :: (0, pt gp 0) :: (4, .nilIface) :: []) [⟨gz, z.cells, 104, true⟩, ⟨gs, ps.toArray, 76, true⟩, ⟨gp, ({ p with sv := .slice (some ⟨gs, 0, none⟩) p.cap p.cap, tail := 0, count := 0 } : Pq).cells, 72, true⟩] (fun x => x = gp ∨ x = gs ∨ x = gz) w a w1 := ((((((hS.ogh c).know (c.outE (by decide +kernel) (hS.get 4 rfl))).know (c.outE (by decide +kernel) (hS.get 0 rfl))).know (c.outE (by decide +kernel) (hS.get 1 rfl))).know (c.slot 3 _ (by decide +kernel) rfl)).know (c.slot 7 _ (by decide +kernel) rfl))
  clear c
  simp only [List.drop_succ_cons, List.drop_zero]
  refine sv_r (v := .bool true) hS (ei_eql (hS.get 8 rfl) (hS.get 12 rfl) (by simp)) fun a hS => ?_
  refine sv_r (v := .bool true) hS (ex_mv (hS.get 13 rfl)) fun a hS => ?_
  refine sv_g (v := pt gp 0) hS (hS.get 14 rfl) (ex_mv (hS.get 0 rfl)) fun a hS => ?_
  refine sv_g (v := pt gp 0) hS (hS.get 14 rfl) (ex_nc (hS.get 15 rfl)) fun a hS => ?_
  refine sv_g (v := pt gp 16) hS (hS.get 14 rfl) (ex_fo (hS.get 16 rfl) fo_m3u8_MediaPlaylist_16 rfl) fun a hS => ?_
  refine sv_g (v := .int .u64 0) hS (hS.get 14 rfl) (ex_ld (hS.get 17 rfl) lt_uint (cell_of_heap (v := .int .u64 0) (hS.at 2 rfl) rfl)) fun a hS => ?_
  refine sv_g (v := .bool false) hS (hS.get 14 rfl) (ei_gtr (hS.get 18 rfl) rfl (by simp)) fun a hS => ?_
  refine sv_r (v := .bool false) hS (ex_pickT (hS.get 14 rfl) (hS.get 19 rfl)) fun a hS => ?_
  refine wpList_nil ?_
  replace hS := hS.cut [20, 1, 0, 4]
  show Code.wp _ _ _ _ _
  refine cond_f (hS.get 20 rfl) ?_
  refine wp_skip ?_
  show Code.wp _ _ _ _ _
  refine wp_seq ?_
  refine wp_region_lit ?_
  refine sv_r (v := pt gz 0) hS (ex_mv (hS.get 1 rfl)) fun a hS => ?_
  refine sv_r (v := pt gp 0) hS (ex_mv (hS.get 0 rfl)) fun a hS => ?_
  refine sv_r (v := pt gp 0) hS (ex_nc (hS.get 23 rfl)) fun a hS => ?_
  refine sv_r (v := pt gp 1) hS (ex_fo (hS.get 24 rfl) fo_m3u8_MediaPlaylist_1 rfl) fun a hS => ?_
  refine sv_r (v := .int .u64 ((p.seq : Nat) : Int)) hS (ex_ld (hS.get 25 rfl) lt_uint64 (cell_of_heap (v := .int .u64 ((p.seq : Nat) : Int)) (hS.at 2 rfl) rfl)) fun a hS => ?_
  refine sv_r (v := pt gz 0) hS (ex_nc (hS.get 22 rfl)) fun a hS => ?_
  refine sv_r (v := pt gz 0) hS (ex_fo (hS.get 27 rfl) fo_m3u8_MediaSegment_0 rfl) fun a hS => ?_
  refine sv_st (i := 0) (v := .int .u64 ((p.seq : Nat) : Int)) (cs' := #[.int .u64 ((p.seq : Nat) : Int), .string z.s.title, .string z.s.uri, .float .f64 (e8 z.s.e), .int .i64 ((z.s.limit : Nat) : Int), .int .i64 ((z.s.offset : Nat) : Int), z.kp, z.mp, .bool (z.s.disc), z.cp, .string z.s.date]) (m' := [⟨gz, #[.int .u64 ((p.seq : Nat) : Int), .string z.s.title, .string z.s.uri, .float .f64 (e8 z.s.e), .int .i64 ((z.s.limit : Nat) : Int), .int .i64 ((z.s.offset : Nat) : Int), z.kp, z.mp, .bool (z.s.disc), z.cp, .string z.s.date], 104, true⟩, ⟨gs, ps.toArray, 76, true⟩, ⟨gp, ({ p with sv := .slice (some ⟨gs, 0, none⟩) p.cap p.cap, tail := 0, count := 0 } : Pq).cells, 72, true⟩]) hS (su_uint64 _) (hS.get 28 rfl) (hS.get 26 rfl) rfl (show 0 < 11 from by decide) rfl rfl ?_
  intro w2 hty hS
  refine wpList_nil ?_
  replace hS := hS.cut [20, 1, 0, 4]
  show Code.wp _ _ _ _ _
  refine wp_seq ?_
  refine wp_seq ?_
  refine wp_region_lit ?_
  refine sv_r (v := pt gp 0) hS (ex_mv (hS.get 0 rfl)) fun a hS => ?_
  refine sv_r (v := pt gp 0) hS (ex_nc (hS.get 29 rfl)) fun a hS => ?_
  refine sv_r (v := pt gp 16) hS (ex_fo (hS.get 30 rfl) fo_m3u8_MediaPlaylist_16 rfl) fun a hS => ?_
  refine sv_r (v := .int .u64 0) hS (ex_ld (hS.get 31 rfl) lt_uint (cell_of_heap (v := .int .u64 0) (hS.at 2 rfl) rfl)) fun a hS => ?_
  refine sv_r (v := .bool false) hS (ei_gtr (hS.get 32 rfl) rfl (by simp)) fun a hS => ?_
  refine wpList_nil ?_
  replace hS := hS.cut [33, 20, 1, 0, 4]
  show Code.wp _ _ _ _ _
  refine cond_f (hS.get 33 rfl) ?_
  refine wp_skip ?_
  show Code.wp _ _ _ _ _
  refine wp_seq ?_
  refine wp_region_og1 (n := 113) 9 [Asr.eq (pt gp 0), Asr.eq (pt gp 0), Asr.eq (pt gp 2), Asr.eq (.slice (some ⟨gs, 0, none⟩) p.cap p.cap), Asr.eq (pt gp 0), Asr.eq (pt gp 0), Asr.eq (pt gp 15), Asr.eq (.int .u64 0), Asr.eq (pt gz 0)] (by kernel_rfl) (by kernel_rfl) (by kernel_rfl) (by simp) (by kernel_rfl) hS.ev.size ⟨⟩ ?_ ?_
  ·simp only [List.take_succ_cons, List.take_zero]
   refine ⟨?_, ?_, ?_, ?_, ?_, ?_, ?_, ?_, ?_, trivial⟩
   ·intro a wx c
    have e_0 : a.eval (.tmp 0) = pt gp 0 := c.outE (by decide +kernel) (hS.get 0 rfl)
    clear c
    exact og_val (ex_mv e_0) rfl
   ·intro a wx c
    have e_62 : a.eval (.tmp 62) = pt gp 0 := c.slot 0 _ (by decide +kernel) rfl
    clear c
    exact og_val (ex_nc e_62) rfl
   ·intro a wx c
    have e_63 : a.eval (.tmp 63) = pt gp 0 := c.slot 1 _ (by decide +kernel) rfl
    clear c
    exact og_val (ex_fo e_63 fo_m3u8_MediaPlaylist_2 rfl) rfl
   ·intro a wx c
    have e_64 : a.eval (.tmp 64) = pt gp 2 := c.slot 2 _ (by decide +kernel) rfl
    have hO := hS.ogc c
    clear c
    exact og_val (ex_ld e_64 lt_sl_p_m3u8_MediaSegment (cell_of_heap (v := .slice (some ⟨gs, 0, none⟩) p.cap p.cap) (hO.at 2 rfl) rfl)) rfl
   ·intro a wx c
    have e_0 : a.eval (.tmp 0) = pt gp 0 := c.outE (by decide +kernel) (hS.get 0 rfl)
    clear c
    exact og_val (ex_mv e_0) rfl
   ·intro a wx c
    have e_66 : a.eval (.tmp 66) = pt gp 0 := c.slot 4 _ (by decide +kernel) rfl
    clear c
    exact og_val (ex_nc e_66) rfl
   ·intro a wx c
    have e_67 : a.eval (.tmp 67) = pt gp 0 := c.slot 5 _ (by decide +kernel) rfl
    clear c
    exact og_val (ex_fo e_67 fo_m3u8_MediaPlaylist_15 rfl) rfl
   ·intro a wx c
    have e_68 : a.eval (.tmp 68) = pt gp 15 := c.slot 6 _ (by decide +kernel) rfl
    have hO := hS.ogc c
    clear c
    exact og_val (ex_ld e_68 lt_uint (cell_of_heap (v := .int .u64 0) (hO.at 2 rfl) rfl)) rfl
   ·intro a wx c
    have e_1 : a.eval (.tmp 1) = pt gz 0 := c.outE (by decide +kernel) (hS.get 1 rfl)
    clear c
    exact og_val (ex_mv e_1) rfl
  ·intro a w3 c hbw3
   replace hS : Sv 113 ((70, pt gz 0) :: (69, .int .u64 0) :: (65, .slice (some ⟨gs, 0, none⟩) p.cap p.cap) :: (4, .nilIface) :: (0, pt gp 0) :: (1, pt gz 0) :: (20, .bool false) :: (33, .bool false) :: []) [⟨gz, #[.int .u64 ((p.seq : Nat) : Int), .string z.s.title, .string z.s.uri, .float .f64 (e8 z.s.e), .int .i64 ((z.s.limit : Nat) : Int), .int .i64 ((z.s.offset : Nat) : Int), z.kp, z.mp, .bool (z.s.disc), z.cp, .string z.s.date], 104, true⟩, ⟨gs, ps.toArray, 76, true⟩, ⟨gp, ({ p with sv := .slice (some ⟨gs, 0, none⟩) p.cap p.cap, tail := 0, count := 0 } : Pq).cells, 72, true⟩] (fun x => x = gp ∨ x = gs ∨ x = gz) w a w3 := (((((((((hS.ogh c).know (c.outE (by decide +kernel) (hS.get 33 rfl))).know (c.outE (by decide +kernel) (hS.get 20 rfl))).know (c.outE (by decide +kernel) (hS.get 1 rfl))).know (c.outE (by decide +kernel) (hS.get 0 rfl))).know (c.outE (by decide +kernel) (hS.get 4 rfl))).know (c.slot 3 _ (by decide +kernel) rfl)).know (c.slot 7 _ (by decide +kernel) rfl)).know (c.slot 8 _ (by decide +kernel) rfl))
   clear c
   simp only [List.drop_succ_cons, List.drop_zero]
   refine sv_r (v := pt gs 0) hS (ex_ia1 (E := 76) (i := 0) Tryz.underlying63 Tryz.sizeOf76 (hS.get 65 rfl) (hS.get 69 rfl) (by omega)) fun a hS => ?_
   refine sv_st (i := 1) (v := pt gz 0) (m' := [⟨gz, #[.int .u64 ((p.seq : Nat) : Int), .string z.s.title, .string z.s.uri, .float .f64 (e8 z.s.e), .int .i64 ((z.s.limit : Nat) : Int), .int .i64 ((z.s.offset : Nat) : Int), z.kp, z.mp, .bool (z.s.disc), z.cp, .string z.s.date], 104, true⟩, ⟨gs, (ps.set 0 (pt gz 0)).toArray, 76, true⟩, ⟨gp, ({ p with sv := .slice (some ⟨gs, 0, none⟩) p.cap p.cap, tail := 0, count := 0 } : Pq).cells, 72, true⟩]) hS (su_p_m3u8_MediaSegment _) (hS.get 71 rfl) (hS.get 70 rfl) rfl (by rw [List.size_toArray]; omega) rfl (by rw [List.setIfInBounds_toArray]) ?_
   intro w4 hty hS
   refine wpList_nil ?_
   replace hS := hS.cut [4, 0, 1, 20, 33]
   show Code.wp _ _ _ _ _
   refine wp_seq ?_
   refine wp_region_og1 (n := 113) 11 [Asr.eq (pt gp 0), Asr.eq (pt gp 0), Asr.eq (pt gp 0), Asr.eq (pt gp 15), Asr.eq (.int .u64 0), Asr.eq (.int .u64 ((0 + 1 : Nat) : Int)), Asr.eq (pt gp 0), Asr.eq (pt gp 0), Asr.eq (pt gp 13), Asr.eq (.int .u64 ((p.cap : Nat) : Int)), Asr.eq (.int .u64 (((0 + 1) % p.cap : Nat) : Int))] (by kernel_rfl) (by kernel_rfl) (by kernel_rfl) (by simp) (by kernel_rfl) hS.ev.size ⟨⟩ ?_ ?_
   ·simp only [List.take_succ_cons, List.take_zero]
    refine ⟨?_, ?_, ?_, ?_, ?_, ?_, ?_, ?_, ?_, ?_, ?_, trivial⟩
    ·intro a wx c
     have e_0 : a.eval (.tmp 0) = pt gp 0 := c.outE (by decide +kernel) (hS.get 0 rfl)
     clear c
     exact og_val (ex_mv e_0) rfl
    ·intro a wx c
     have e_0 : a.eval (.tmp 0) = pt gp 0 := c.outE (by decide +kernel) (hS.get 0 rfl)
     clear c
     exact og_val (ex_mv e_0) rfl
    ·intro a wx c
     have e_73 : a.eval (.tmp 73) = pt gp 0 := c.slot 1 _ (by decide +kernel) rfl
     clear c
     exact og_val (ex_nc e_73) rfl
    ·intro a wx c
     have e_74 : a.eval (.tmp 74) = pt gp 0 := c.slot 2 _ (by decide +kernel) rfl
     clear c
     exact og_val (ex_fo e_74 fo_m3u8_MediaPlaylist_15 rfl) rfl
    ·intro a wx c
     have e_75 : a.eval (.tmp 75) = pt gp 15 := c.slot 3 _ (by decide +kernel) rfl
     have hO := hS.ogc c
     clear c
     exact og_val (ex_ld e_75 lt_uint (cell_of_heap (v := .int .u64 0) (hO.at 2 rfl) rfl)) rfl
    ·intro a wx c
     have e_76 : a.eval (.tmp 76) = .int .u64 0 := c.slot 4 _ (by decide +kernel) rfl
     clear c
     exact og_val (ei_add e_76 rfl (by rw [IntKind.wrap_u64]; omega)) rfl
    ·intro a wx c
     have e_0 : a.eval (.tmp 0) = pt gp 0 := c.outE (by decide +kernel) (hS.get 0 rfl)
     clear c
     exact og_val (ex_mv e_0) rfl
    ·intro a wx c
     have e_78 : a.eval (.tmp 78) = pt gp 0 := c.slot 6 _ (by decide +kernel) rfl
     clear c
     exact og_val (ex_nc e_78) rfl
    ·intro a wx c
     have e_79 : a.eval (.tmp 79) = pt gp 0 := c.slot 7 _ (by decide +kernel) rfl
     clear c
     exact og_val (ex_fo e_79 fo_m3u8_MediaPlaylist_13 rfl) rfl
    ·intro a wx c
     have e_80 : a.eval (.tmp 80) = pt gp 13 := c.slot 8 _ (by decide +kernel) rfl
     have hO := hS.ogc c
     clear c
     exact og_val (ex_ld e_80 lt_uint (cell_of_heap (v := .int .u64 ((p.cap : Nat) : Int)) (hO.at 2 rfl) rfl)) rfl
    ·intro a wx c
     have e_77 : a.eval (.tmp 77) = .int .u64 ((0 + 1 : Nat) : Int) := c.slot 5 _ (by decide +kernel) rfl
     have e_81 : a.eval (.tmp 81) = .int .u64 ((p.cap : Nat) : Int) := c.slot 9 _ (by decide +kernel) rfl
     clear c
     exact og_val (ni_rem p.cap e_77 e_81 (by omega)) rfl
   ·intro a w5 c hbw5
    replace hS : Sv 113 ((82, .int .u64 (((0 + 1) % p.cap : Nat) : Int)) :: (72, pt gp 0) :: (33, .bool false) :: (20, .bool false) :: (1, pt gz 0) :: (0, pt gp 0) :: (4, .nilIface) :: []) [⟨gz, #[.int .u64 ((p.seq : Nat) : Int), .string z.s.title, .string z.s.uri, .float .f64 (e8 z.s.e), .int .i64 ((z.s.limit : Nat) : Int), .int .i64 ((z.s.offset : Nat) : Int), z.kp, z.mp, .bool (z.s.disc), z.cp, .string z.s.date], 104, true⟩, ⟨gs, (ps.set 0 (pt gz 0)).toArray, 76, true⟩, ⟨gp, ({ p with sv := .slice (some ⟨gs, 0, none⟩) p.cap p.cap, tail := 0, count := 0 } : Pq).cells, 72, true⟩] (fun x => x = gp ∨ x = gs ∨ x = gz) w a w5 := ((((((((hS.ogh c).know (c.outE (by decide +kernel) (hS.get 4 rfl))).know (c.outE (by decide +kernel) (hS.get 0 rfl))).know (c.outE (by decide +kernel) (hS.get 1 rfl))).know (c.outE (by decide +kernel) (hS.get 20 rfl))).know (c.outE (by decide +kernel) (hS.get 33 rfl))).know (c.slot 0 _ (by decide +kernel) rfl)).know (c.slot 10 _ (by decide +kernel) rfl))
    clear c
    simp only [List.drop_succ_cons, List.drop_zero]
    refine sv_r (v := pt gp 0) hS (ex_nc (hS.get 72 rfl)) fun a hS => ?_
    refine sv_r (v := pt gp 15) hS (ex_fo (hS.get 83 rfl) fo_m3u8_MediaPlaylist_15 rfl) fun a hS => ?_
    refine sv_st (i := 2) (v := .int .u64 (((0 + 1) % p.cap : Nat) : Int)) (cs' := #[.float .f64 (p.tgt), .int .u64 ((p.seq : Nat) : Int), .slice (some ⟨gs, 0, none⟩) p.cap p.cap, .string p.args, .bool (p.iframe), .bool (p.closed), .int .u64 ((p.typ : Nat) : Int), .int .u64 ((p.disc : Nat) : Int), .float .f64 (p.start), .bool (p.precise), .bool false, .int .i64 0, .int .u64 0, .int .u64 ((p.cap : Nat) : Int), .int .u64 0, .int .u64 (((0 + 1) % p.cap : Nat) : Int), .int .u64 0, .slice none 0 0, .int .i64 0, .int .i8 0, .int .u8 ((p.ver : Nat) : Int), p.kp, p.mp]) (m' := [⟨gz, #[.int .u64 ((p.seq : Nat) : Int), .string z.s.title, .string z.s.uri, .float .f64 (e8 z.s.e), .int .i64 ((z.s.limit : Nat) : Int), .int .i64 ((z.s.offset : Nat) : Int), z.kp, z.mp, .bool (z.s.disc), z.cp, .string z.s.date], 104, true⟩, ⟨gs, (ps.set 0 (pt gz 0)).toArray, 76, true⟩, ⟨gp, #[.float .f64 (p.tgt), .int .u64 ((p.seq : Nat) : Int), .slice (some ⟨gs, 0, none⟩) p.cap p.cap, .string p.args, .bool (p.iframe), .bool (p.closed), .int .u64 ((p.typ : Nat) : Int), .int .u64 ((p.disc : Nat) : Int), .float .f64 (p.start), .bool (p.precise), .bool false, .int .i64 0, .int .u64 0, .int .u64 ((p.cap : Nat) : Int), .int .u64 0, .int .u64 (((0 + 1) % p.cap : Nat) : Int), .int .u64 0, .slice none 0 0, .int .i64 0, .int .i8 0, .int .u8 ((p.ver : Nat) : Int), p.kp, p.mp], 72, true⟩]) hS (su_uint _) (hS.get 84 rfl) (hS.get 82 rfl) rfl (show 15 < 23 from by decide) rfl rfl ?_
    intro w6 hty hS
    refine wpList_nil ?_
    replace hS := hS.cut [33, 20, 1, 0, 4]
    show Code.wp _ _ _ _ _
    refine wp_seq ?_
    refine wp_region_lit ?_
    refine sv_r (v := pt gp 0) hS (ex_mv (hS.get 0 rfl)) fun a hS => ?_
    refine sv_r (v := pt gp 0) hS (ex_nc (hS.get 85 rfl)) fun a hS => ?_
    refine sv_r (v := pt gp 16) hS (ex_fo (hS.get 86 rfl) fo_m3u8_MediaPlaylist_16 rfl) fun a hS => ?_
    refine sv_r (v := .int .u64 0) hS (ex_ld (hS.get 87 rfl) lt_uint (cell_of_heap (v := .int .u64 0) (hS.at 2 rfl) rfl)) fun a hS => ?_
    refine sv_r (v := .int .u64 ((0 + 1 : Nat) : Int)) hS (ei_add (hS.get 88 rfl) rfl (by rw [IntKind.wrap_u64]; omega)) fun a hS => ?_
    refine sv_r (v := pt gp 0) hS (ex_nc (hS.get 85 rfl)) fun a hS => ?_
    refine sv_r (v := pt gp 16) hS (ex_fo (hS.get 90 rfl) fo_m3u8_MediaPlaylist_16 rfl) fun a hS => ?_
    refine sv_st (i := 2) (v := .int .u64 ((0 + 1 : Nat) : Int)) (cs' := #[.float .f64 (p.tgt), .int .u64 ((p.seq : Nat) : Int), .slice (some ⟨gs, 0, none⟩) p.cap p.cap, .string p.args, .bool (p.iframe), .bool (p.closed), .int .u64 ((p.typ : Nat) : Int), .int .u64 ((p.disc : Nat) : Int), .float .f64 (p.start), .bool (p.precise), .bool false, .int .i64 0, .int .u64 0, .int .u64 ((p.cap : Nat) : Int), .int .u64 0, .int .u64 (((0 + 1) % p.cap : Nat) : Int), .int .u64 ((0 + 1 : Nat) : Int), .slice none 0 0, .int .i64 0, .int .i8 0, .int .u8 ((p.ver : Nat) : Int), p.kp, p.mp]) (m' := [⟨gz, #[.int .u64 ((p.seq : Nat) : Int), .string z.s.title, .string z.s.uri, .float .f64 (e8 z.s.e), .int .i64 ((z.s.limit : Nat) : Int), .int .i64 ((z.s.offset : Nat) : Int), z.kp, z.mp, .bool (z.s.disc), z.cp, .string z.s.date], 104, true⟩, ⟨gs, (ps.set 0 (pt gz 0)).toArray, 76, true⟩, ⟨gp, #[.float .f64 (p.tgt), .int .u64 ((p.seq : Nat) : Int), .slice (some ⟨gs, 0, none⟩) p.cap p.cap, .string p.args, .bool (p.iframe), .bool (p.closed), .int .u64 ((p.typ : Nat) : Int), .int .u64 ((p.disc : Nat) : Int), .float .f64 (p.start), .bool (p.precise), .bool false, .int .i64 0, .int .u64 0, .int .u64 ((p.cap : Nat) : Int), .int .u64 0, .int .u64 (((0 + 1) % p.cap : Nat) : Int), .int .u64 ((0 + 1 : Nat) : Int), .slice none 0 0, .int .i64 0, .int .i8 0, .int .u8 ((p.ver : Nat) : Int), p.kp, p.mp], 72, true⟩]) hS (su_uint _) (hS.get 91 rfl) (hS.get 89 rfl) rfl (show 16 < 23 from by decide) rfl rfl ?_
    intro w7 hty hS
    refine wpList_nil ?_
    replace hS := hS.cut [33, 20, 1, 0, 4]
    show Code.wp _ _ _ _ _
    refine wp_seq ?_
    refine wp_seq ?_
    refine wp_region_og1 (n := 113) 8 [Asr.eq (pt gp 0), Asr.eq (pt gp 0), Asr.eq (pt gp 0), Asr.eq (.float .f64 (p.tgt)), Asr.eq (pt gz 0), Asr.eq (pt gz 0), Asr.eq (pt gz 3), Asr.eq (.float .f64 (e8 z.s.e))] (by kernel_rfl) (by kernel_rfl) (by kernel_rfl) (by simp) (by kernel_rfl) hS.ev.size ⟨⟩ ?_ ?_
    ·simp only [List.take_succ_cons, List.take_zero]
     refine ⟨?_, ?_, ?_, ?_, ?_, ?_, ?_, ?_, trivial⟩
     ·intro a wx c
      have e_0 : a.eval (.tmp 0) = pt gp 0 := c.outE (by decide +kernel) (hS.get 0 rfl)
      clear c
      exact og_val (ex_mv e_0) rfl
     ·intro a wx c
      have e_92 : a.eval (.tmp 92) = pt gp 0 := c.slot 0 _ (by decide +kernel) rfl
      clear c
      exact og_val (ex_nc e_92) rfl
     ·intro a wx c
      have e_93 : a.eval (.tmp 93) = pt gp 0 := c.slot 1 _ (by decide +kernel) rfl
      clear c
      exact og_val (ex_fo e_93 fo_m3u8_MediaPlaylist_0 rfl) rfl
     ·intro a wx c
      have e_94 : a.eval (.tmp 94) = pt gp 0 := c.slot 2 _ (by decide +kernel) rfl
      have hO := hS.ogc c
      clear c
      exact og_val (ex_ld e_94 lt_float64 (cell_of_heap (v := .float .f64 (p.tgt)) (hO.at 2 rfl) rfl)) rfl
     ·intro a wx c
      have e_1 : a.eval (.tmp 1) = pt gz 0 := c.outE (by decide +kernel) (hS.get 1 rfl)
      clear c
      exact og_val (ex_mv e_1) rfl
     ·intro a wx c
      have e_96 : a.eval (.tmp 96) = pt gz 0 := c.slot 4 _ (by decide +kernel) rfl
      clear c
      exact og_val (ex_nc e_96) rfl
     ·intro a wx c
      have e_97 : a.eval (.tmp 97) = pt gz 0 := c.slot 5 _ (by decide +kernel) rfl
      clear c
      exact og_val (ex_fo e_97 fo_m3u8_MediaSegment_3 rfl) rfl
     ·intro a wx c
      have e_98 : a.eval (.tmp 98) = pt gz 3 := c.slot 6 _ (by decide +kernel) rfl
      have hO := hS.ogc c
      clear c
      exact og_val (ex_ld e_98 lt_float64 (cell_of_heap (v := .float .f64 (e8 z.s.e)) (hO.at 0 rfl) rfl)) rfl
    ·intro a w8 c hbw8
     replace hS : Sv 113 ((99, .float .f64 (e8 z.s.e)) :: (95, .float .f64 (p.tgt)) :: (4, .nilIface) :: (0, pt gp 0) :: (1, pt gz 0) :: (20, .bool false) :: (33, .bool false) :: []) [⟨gz, #[.int .u64 ((p.seq : Nat) : Int), .string z.s.title, .string z.s.uri, .float .f64 (e8 z.s.e), .int .i64 ((z.s.limit : Nat) : Int), .int .i64 ((z.s.offset : Nat) : Int), z.kp, z.mp, .bool (z.s.disc), z.cp, .string z.s.date], 104, true⟩, ⟨gs, (ps.set 0 (pt gz 0)).toArray, 76, true⟩, ⟨gp, #[.float .f64 (p.tgt), .int .u64 ((p.seq : Nat) : Int), .slice (some ⟨gs, 0, none⟩) p.cap p.cap, .string p.args, .bool (p.iframe), .bool (p.closed), .int .u64 ((p.typ : Nat) : Int), .int .u64 ((p.disc : Nat) : Int), .float .f64 (p.start), .bool (p.precise), .bool false, .int .i64 0, .int .u64 0, .int .u64 ((p.cap : Nat) : Int), .int .u64 0, .int .u64 (((0 + 1) % p.cap : Nat) : Int), .int .u64 ((0 + 1 : Nat) : Int), .slice none 0 0, .int .i64 0, .int .i8 0, .int .u8 ((p.ver : Nat) : Int), p.kp, p.mp], 72, true⟩] (fun x => x = gp ∨ x = gs ∨ x = gz) w a w8 := ((((((((hS.ogh c).know (c.outE (by decide +kernel) (hS.get 33 rfl))).know (c.outE (by decide +kernel) (hS.get 20 rfl))).know (c.outE (by decide +kernel) (hS.get 1 rfl))).know (c.outE (by decide +kernel) (hS.get 0 rfl))).know (c.outE (by decide +kernel) (hS.get 4 rfl))).know (c.slot 3 _ (by decide +kernel) rfl)).know (c.slot 7 _ (by decide +kernel) rfl))
     clear c
     simp only [List.drop_succ_cons, List.drop_zero]
     refine sv_r (v := .bool false) hS (ef_lss (hS.get 95 rfl) (hS.get 99 rfl) (by exact hfl)) fun a hS => ?_
     refine wpList_nil ?_
     replace hS := hS.cut [100, 4, 0, 1, 20, 33]
     show Code.wp _ _ _ _ _
     refine cond_f (hS.get 100 rfl) ?_
     refine wp_skip ?_
     show Code.wp _ _ _ _ _
     refine wp_seq ?_
     refine wp_region_lit ?_
     refine sv_r (v := pt gp 0) hS (ex_mv (hS.get 0 rfl)) fun a hS => ?_
     refine sv_r (v := pt gp 0) hS (ex_nc (hS.get 109 rfl)) fun a hS => ?_
     refine sv_r (v := pt gp 17) hS (ex_fo (hS.get 110 rfl) fo_m3u8_MediaPlaylist_17 rfl) fun a hS => ?_
     have hpq : w8.heap[gp]? = some (.cells ({ p with sv := .slice (some ⟨gs, 0, none⟩) p.cap p.cap, tail := (0 + 1) % p.cap, count := 0 + 1 } : Pq).cells 72 (0, 0)) := hS.at 2 rfl
     refine sv_callp (i := 2) (v := .tuple #[]) (m' := [⟨gz, #[.int .u64 ((p.seq : Nat) : Int), .string z.s.title, .string z.s.uri, .float .f64 (e8 z.s.e), .int .i64 ((z.s.limit : Nat) : Int), .int .i64 ((z.s.offset : Nat) : Int), z.kp, z.mp, .bool (z.s.disc), z.cp, .string z.s.date], 104, true⟩, ⟨gs, (ps.set 0 (pt gz 0)).toArray, 76, true⟩, ⟨gp, ({ p with sv := .slice (some ⟨gs, 0, none⟩) p.cap p.cap, tail := (0 + 1) % p.cap, count := 0 + 1 } : Pq).cells, 72, true⟩]) hS rfl rfl (by decide) (ex_call1 cf_bytes_Buffer_Reset (hS.get 111 rfl)) rfl rfl (reset_any _ gp w8 hpq) ?_
     intro a w9 hty hS
     refine wpList_nil ?_
     replace hS := hS.cut [100, 4, 0, 1, 20, 33]
     show Code.wp _ _ _ _ _
     refine wp_seq ?_
     refine wp_region_lit ?_
     refine sv_r (v := .nilIface) hS ex_ac fun a hS => ?_
     refine wpList_nil ?_
     replace hS := hS.cut [4, 100, 0, 1, 20, 33]
     show Code.wp _ _ _ _ _
     refine wp_ret ?_
     try simp only [Exit.inBlock, Exit.then]
     exact ret_of_ev hS.ev rfl (hS.get 4 rfl) ⟨rfl, hS.at 2 rfl, hS.at 1 rfl, hS.at 0 rfl, hS.only⟩
theorem append1_any (p : Pq) (z : Mz) (gp gs gz k : Nat) (ps : List Value) (hps : ps.length = p.cap) (hk : k < p.cap) (hcap : p.cap ≤ 100000) (hseq : p.seq + k < 18446744073709551615) (hfl : (FloatKind.f64.format.order p.tgt (e8 z.s.e) == some .lt) = false) (w : World) (hp : w.heap[gp]? = some (.cells ({ p with sv := .slice (some ⟨gs, 0, none⟩) p.cap p.cap, tail := k, count := k } : Pq).cells 72 (0, 0))) (hs : w.heap[gs]? = some (.cells ps.toArray 76 (0, 0))) (hz : w.heap[gz]? = some (.cells z.cells 104 (0, 0))) (hk0 : 0 < k) (gq : Nat) (y : Mz) (hq : ps[k - 1]? = some (pt gq 0)) (hy : w.heap[gq]? = some (.cells y.cells 104 (0, 0))) (hyz : gq ≠ gz) (hsq : y.seq + 1 = p.seq + k) : Calls Tryz.prog 16 #[pt gp 0, pt gz 0] w fun e w' => e = .returned .nilIface ∧ w'.heap[gp]? = some (.cells ({ p with sv := .slice (some ⟨gs, 0, none⟩) p.cap p.cap, tail := (k + 1) % p.cap, count := k + 1 } : Pq).cells 72 (0, 0)) ∧ w'.heap[gs]? = some (.cells (ps.set k (pt gz 0)).toArray 76 (0, 0)) ∧ w'.heap[gz]? = some (.cells ({ z with seq := p.seq + k } : Mz).cells 104 (0, 0)) ∧ Only (fun x => x = gp ∨ x = gs ∨ x = gz) w w' := by
 refine calls_of_ev Tryz.func16 rfl (show 2 ≤ 113 from by decide) ?_
 intro a hE
 have hE : Ev 113 ((0, pt gp 0) :: (1, pt gz 0) :: []) a := hE
 have hS : Sv 113 ((0, pt gp 0) :: (1, pt gz 0) :: []) [] (fun x => x = gp ∨ x = gs ∨ x = gz) w a w := Sv.start hE _ _
 clear hE
 replace hS : Sv 113 ((0, pt gp 0) :: (1, pt gz 0) :: []) [⟨gp, ({ p with sv := .slice (some ⟨gs, 0, none⟩) p.cap p.cap, tail := k, count := k } : Pq).cells, 72, true⟩] (fun x => x = gp ∨ x = gs ∨ x = gz) w a w := hS.addB hp (by intro b hb; cases hb) (fun _ => .inl (.inl rfl))
 replace hS : Sv 113 ((0, pt gp 0) :: (1, pt gz 0) :: []) [⟨gs, ps.toArray, 76, true⟩, ⟨gp, ({ p with sv := .slice (some ⟨gs, 0, none⟩) p.cap p.cap, tail := k, count := k } : Pq).cells, 72, true⟩] (fun x => x = gp ∨ x = gs ∨ x = gz) w a w := hS.addB hs (hS.neT hs rfl) (fun _ => .inl (.inr (.inl rfl)))
 replace hS : Sv 113 ((0, pt gp 0) :: (1, pt gz 0) :: []) [⟨gz, z.cells, 104, true⟩, ⟨gs, ps.toArray, 76, true⟩, ⟨gp, ({ p with sv := .slice (some ⟨gs, 0, none⟩) p.cap p.cap, tail := k, count := k } : Pq).cells, 72, true⟩] (fun x => x = gp ∨ x = gs ∨ x = gz) w a w := hS.addB hz (hS.neT hz rfl) (fun _ => .inl (.inr (.inr rfl)))
 have hne : ∀ b ∈ ([⟨gz, z.cells, 104, true⟩, ⟨gs, ps.toArray, 76, true⟩, ⟨gp, ({ p with sv := .slice (some ⟨gs, 0, none⟩) p.cap p.cap, tail := k, count := k } : Pq).cells, 72, true⟩] : List Bk), b.g ≠ gq := by
  intro b hb
  simp only [List.mem_cons, List.not_mem_nil, or_false] at hb
  rcases hb with rfl | rfl | rfl
  ·exact fun e => hyz e.symm
  ·exact (hS.mask [false, true, true]).neT hy rfl _ (by simp [maskB])
  ·exact (hS.mask [false, false, true]).neT hy rfl _ (by simp [maskB])
 replace hS : Sv 113 ((0, pt gp 0) :: (1, pt gz 0) :: []) [⟨gq, y.cells, 104, false⟩, ⟨gz, z.cells, 104, true⟩, ⟨gs, ps.toArray, 76, true⟩, ⟨gp, ({ p with sv := .slice (some ⟨gs, 0, none⟩) p.cap p.cap, tail := k, count := k } : Pq).cells, 72, true⟩] (fun x => x = gp ∨ x = gs ∨ x = gz) w a w := hS.addR hy hne
 refine wp_seq ?_
 refine wp_region_lit ?_
 refine sv_r (v := .nilIface) hS ex_ac fun a hS => ?_
 refine wpList_nil ?_
 replace hS := hS.cut [4, 0, 1]
 show Code.wp _ _ _ _ _
 refine wp_seq ?_
 refine wp_seq ?_
 refine wp_region_og1 (n := 113) 8 [Asr.eq (pt gp 0), Asr.eq (pt gp 0), Asr.eq (pt gp 14), Asr.eq (.int .u64 0), Asr.eq (pt gp 0), Asr.eq (pt gp 0), Asr.eq (pt gp 15), Asr.eq (.int .u64 ((k : Nat) : Int))] (by kernel_rfl) (by kernel_rfl) (by kernel_rfl) (by simp) (by kernel_rfl) hS.ev.size ⟨⟩ ?_ ?_
 ·simp only [List.take_succ_cons, List.take_zero]
  refine ⟨?_, ?_, ?_, ?_, ?_, ?_, ?_, ?_, trivial⟩
  ·intro a wx c
   have e_0 : a.eval (.tmp 0) = pt gp 0 := c.outE (by decide +kernel) (hS.get 0 rfl)
   clear c
   exact og_val (ex_mv e_0) rfl
  ·intro a wx c
   have e_5 : a.eval (.tmp 5) = pt gp 0 := c.slot 0 _ (by decide +kernel) rfl
   clear c
   exact og_val (ex_nc e_5) rfl
  ·intro a wx c
   have e_6 : a.eval (.tmp 6) = pt gp 0 := c.slot 1 _ (by decide +kernel) rfl
   clear c
   exact og_val (ex_fo e_6 fo_m3u8_MediaPlaylist_14 rfl) rfl
  ·intro a wx c
   have e_7 : a.eval (.tmp 7) = pt gp 14 := c.slot 2 _ (by decide +kernel) rfl
   have hO := hS.ogc c
   clear c
   exact og_val (ex_ld e_7 lt_uint (cell_of_heap (v := .int .u64 0) (hO.at 3 rfl) rfl)) rfl
  ·intro a wx c
   have e_0 : a.eval (.tmp 0) = pt gp 0 := c.outE (by decide +kernel) (hS.get 0 rfl)
   clear c
   exact og_val (ex_mv e_0) rfl
  ·intro a wx c
   have e_9 : a.eval (.tmp 9) = pt gp 0 := c.slot 4 _ (by decide +kernel) rfl
   clear c
   exact og_val (ex_nc e_9) rfl
  ·intro a wx c
   have e_10 : a.eval (.tmp 10) = pt gp 0 := c.slot 5 _ (by decide +kernel) rfl
   clear c
   exact og_val (ex_fo e_10 fo_m3u8_MediaPlaylist_15 rfl) rfl
  ·intro a wx c
   have e_11 : a.eval (.tmp 11) = pt gp 15 := c.slot 6 _ (by decide +kernel) rfl
   have hO := hS.ogc c
   clear c
   exact og_val (ex_ld e_11 lt_uint (cell_of_heap (v := .int .u64 ((k : Nat) : Int)) (hO.at 3 rfl) rfl)) rfl
 ·intro a w1 c hbw1
  replace hS : Sv 113 ((12, .int .u64 ((k : Nat) : Int)) :: (8, .int .u64 0) :: (1, pt gz 0) :: (0, pt gp 0) :: (4, .nilIface) :: []) [⟨gq, y.cells, 104, false⟩, ⟨gz, z.cells, 104, true⟩, ⟨gs, ps.toArray, 76, true⟩, ⟨gp, ({ p with sv := .slice (some ⟨gs, 0, none⟩) p.cap p.cap, tail := k, count := k } : Pq).cells, 72, true⟩] (fun x => x = gp ∨ x = gs ∨ x = gz) w a w1 := ((((((hS.ogh c).know (c.outE (by decide +kernel) (hS.get 4 rfl))).know (c.outE (by decide +kernel) (hS.get 0 rfl))).know (c.outE (by decide +kernel) (hS.get 1 rfl))).know (c.slot 3 _ (by decide +kernel) rfl)).know (c.slot 7 _ (by decide +kernel) rfl))
  clear c
  simp only [List.drop_succ_cons, List.drop_zero]
  refine sv_r (v := .bool false) hS (ei_eql (hS.get 8 rfl) (hS.get 12 rfl) (by rw [decide_eq_false_iff_not]; omega)) fun a hS => ?_
  refine sv_r (v := .bool false) hS (ex_mv (hS.get 13 rfl)) fun a hS => ?_
  refine sv_goff hS rfl rfl (hS.get 14 rfl) rfl rfl (by decide) ?_
  intro a hS
  refine sv_goff hS rfl rfl (hS.get 14 rfl) rfl rfl (by decide) ?_
  intro a hS
  refine sv_goff hS rfl rfl (hS.get 14 rfl) rfl rfl (by decide) ?_
  intro a hS
  refine sv_goff hS rfl rfl (hS.get 14 rfl) rfl rfl (by decide) ?_
  intro a hS
  refine sv_goff hS rfl rfl (hS.get 14 rfl) rfl rfl (by decide) ?_
  intro a hS
  refine sv_r (v := .bool false) hS (ex_pickF (hS.get 14 rfl) rfl) fun a hS => ?_
  refine wpList_nil ?_
  replace hS := hS.cut [20, 1, 0, 4]
  show Code.wp _ _ _ _ _
  refine cond_f (hS.get 20 rfl) ?_
  refine wp_skip ?_
  show Code.wp _ _ _ _ _
  refine wp_seq ?_
  refine wp_region_lit ?_
  refine sv_r (v := pt gz 0) hS (ex_mv (hS.get 1 rfl)) fun a hS => ?_
  refine sv_r (v := pt gp 0) hS (ex_mv (hS.get 0 rfl)) fun a hS => ?_
  refine sv_r (v := pt gp 0) hS (ex_nc (hS.get 23 rfl)) fun a hS => ?_
  refine sv_r (v := pt gp 1) hS (ex_fo (hS.get 24 rfl) fo_m3u8_MediaPlaylist_1 rfl) fun a hS => ?_
  refine sv_r (v := .int .u64 ((p.seq : Nat) : Int)) hS (ex_ld (hS.get 25 rfl) lt_uint64 (cell_of_heap (v := .int .u64 ((p.seq : Nat) : Int)) (hS.at 3 rfl) rfl)) fun a hS => ?_
  refine sv_r (v := pt gz 0) hS (ex_nc (hS.get 22 rfl)) fun a hS => ?_
  refine sv_r (v := pt gz 0) hS (ex_fo (hS.get 27 rfl) fo_m3u8_MediaSegment_0 rfl) fun a hS => ?_
  refine sv_st (i := 1) (v := .int .u64 ((p.seq : Nat) : Int)) (cs' := #[.int .u64 ((p.seq : Nat) : Int), .string z.s.title, .string z.s.uri, .float .f64 (e8 z.s.e), .int .i64 ((z.s.limit : Nat) : Int), .int .i64 ((z.s.offset : Nat) : Int), z.kp, z.mp, .bool (z.s.disc), z.cp, .string z.s.date]) (m' := [⟨gq, y.cells, 104, false⟩, ⟨gz, #[.int .u64 ((p.seq : Nat) : Int), .string z.s.title, .string z.s.uri, .float .f64 (e8 z.s.e), .int .i64 ((z.s.limit : Nat) : Int), .int .i64 ((z.s.offset : Nat) : Int), z.kp, z.mp, .bool (z.s.disc), z.cp, .string z.s.date], 104, true⟩, ⟨gs, ps.toArray, 76, true⟩, ⟨gp, ({ p with sv := .slice (some ⟨gs, 0, none⟩) p.cap p.cap, tail := k, count := k } : Pq).cells, 72, true⟩]) hS (su_uint64 _) (hS.get 28 rfl) (hS.get 26 rfl) rfl (show 0 < 11 from by decide) rfl rfl ?_
  intro w2 hty hS
  refine wpList_nil ?_
  replace hS := hS.cut [20, 1, 0, 4]
  show Code.wp _ _ _ _ _
  refine wp_seq ?_
  refine wp_seq ?_
  refine wp_region_lit ?_
  refine sv_r (v := pt gp 0) hS (ex_mv (hS.get 0 rfl)) fun a hS => ?_
  refine sv_r (v := pt gp 0) hS (ex_nc (hS.get 29 rfl)) fun a hS => ?_
  refine sv_r (v := pt gp 16) hS (ex_fo (hS.get 30 rfl) fo_m3u8_MediaPlaylist_16 rfl) fun a hS => ?_
  refine sv_r (v := .int .u64 ((k : Nat) : Int)) hS (ex_ld (hS.get 31 rfl) lt_uint (cell_of_heap (v := .int .u64 ((k : Nat) : Int)) (hS.at 3 rfl) rfl)) fun a hS => ?_
  refine sv_r (v := .bool true) hS (ei_gtr (hS.get 32 rfl) rfl (by rw [decide_eq_true_iff]; omega)) fun a hS => ?_
  refine wpList_nil ?_
  replace hS := hS.cut [33, 20, 1, 0, 4]
  show Code.wp _ _ _ _ _
  refine cond_t (hS.get 33 rfl) ?_
  refine wp_region_og1 (n := 113) 26 [Asr.eq (pt gz 0), Asr.eq (pt gp 0), Asr.eq (pt gp 0), Asr.eq (pt gp 2), Asr.eq (.slice (some ⟨gs, 0, none⟩) p.cap p.cap), Asr.eq (pt gp 0), Asr.eq (pt gp 0), Asr.eq (pt gp 13), Asr.eq (.int .u64 ((p.cap : Nat) : Int)), Asr.eq (pt gp 0), Asr.eq (pt gp 0), Asr.eq (pt gp 15), Asr.eq (.int .u64 ((k : Nat) : Int)), Asr.eq (.int .u64 ((p.cap + k : Nat) : Int)), Asr.eq (.int .u64 (((p.cap + k) - 1 : Nat) : Int)), Asr.eq (pt gp 0), Asr.eq (pt gp 0), Asr.eq (pt gp 13), Asr.eq (.int .u64 ((p.cap : Nat) : Int)), Asr.eq (.int .u64 ((k - 1 : Nat) : Int)), Asr.eq (pt gs (k - 1)), Asr.eq (pt gq 0), Asr.eq (pt gq 0), Asr.eq (pt gq 0), Asr.eq (.int .u64 ((y.seq : Nat) : Int)), Asr.eq (.int .u64 ((p.seq + k : Nat) : Int))] (by kernel_rfl) (by kernel_rfl) (by kernel_rfl) (by simp) (by kernel_rfl) hS.ev.size ⟨⟩ ?_ ?_
  ·simp only [List.take_succ_cons, List.take_zero]
   refine ⟨?_, ?_, ?_, ?_, ?_, ?_, ?_, ?_, ?_, ?_, ?_, ?_, ?_, ?_, ?_, ?_, ?_, ?_, ?_, ?_, ?_, ?_, ?_, ?_, ?_, ?_, trivial⟩
   ·intro a wx c
    have e_1 : a.eval (.tmp 1) = pt gz 0 := c.outE (by decide +kernel) (hS.get 1 rfl)
    clear c
    exact og_val (ex_mv e_1) rfl
   ·intro a wx c
    have e_0 : a.eval (.tmp 0) = pt gp 0 := c.outE (by decide +kernel) (hS.get 0 rfl)
    clear c
    exact og_val (ex_mv e_0) rfl
   ·intro a wx c
    have e_35 : a.eval (.tmp 35) = pt gp 0 := c.slot 1 _ (by decide +kernel) rfl
    clear c
    exact og_val (ex_nc e_35) rfl
   ·intro a wx c
    have e_36 : a.eval (.tmp 36) = pt gp 0 := c.slot 2 _ (by decide +kernel) rfl
    clear c
    exact og_val (ex_fo e_36 fo_m3u8_MediaPlaylist_2 rfl) rfl
   ·intro a wx c
    have e_37 : a.eval (.tmp 37) = pt gp 2 := c.slot 3 _ (by decide +kernel) rfl
    have hO := hS.ogc c
    clear c
    exact og_val (ex_ld e_37 lt_sl_p_m3u8_MediaSegment (cell_of_heap (v := .slice (some ⟨gs, 0, none⟩) p.cap p.cap) (hO.at 3 rfl) rfl)) rfl
   ·intro a wx c
    have e_0 : a.eval (.tmp 0) = pt gp 0 := c.outE (by decide +kernel) (hS.get 0 rfl)
    clear c
    exact og_val (ex_mv e_0) rfl
   ·intro a wx c
    have e_39 : a.eval (.tmp 39) = pt gp 0 := c.slot 5 _ (by decide +kernel) rfl
    clear c
    exact og_val (ex_nc e_39) rfl
   ·intro a wx c
    have e_40 : a.eval (.tmp 40) = pt gp 0 := c.slot 6 _ (by decide +kernel) rfl
    clear c
    exact og_val (ex_fo e_40 fo_m3u8_MediaPlaylist_13 rfl) rfl
   ·intro a wx c
    have e_41 : a.eval (.tmp 41) = pt gp 13 := c.slot 7 _ (by decide +kernel) rfl
    have hO := hS.ogc c
    clear c
    exact og_val (ex_ld e_41 lt_uint (cell_of_heap (v := .int .u64 ((p.cap : Nat) : Int)) (hO.at 3 rfl) rfl)) rfl
   ·intro a wx c
    have e_0 : a.eval (.tmp 0) = pt gp 0 := c.outE (by decide +kernel) (hS.get 0 rfl)
    clear c
    exact og_val (ex_mv e_0) rfl
   ·intro a wx c
    have e_43 : a.eval (.tmp 43) = pt gp 0 := c.slot 9 _ (by decide +kernel) rfl
    clear c
    exact og_val (ex_nc e_43) rfl
   ·intro a wx c
    have e_44 : a.eval (.tmp 44) = pt gp 0 := c.slot 10 _ (by decide +kernel) rfl
    clear c
    exact og_val (ex_fo e_44 fo_m3u8_MediaPlaylist_15 rfl) rfl
   ·intro a wx c
    have e_45 : a.eval (.tmp 45) = pt gp 15 := c.slot 11 _ (by decide +kernel) rfl
    have hO := hS.ogc c
    clear c
    exact og_val (ex_ld e_45 lt_uint (cell_of_heap (v := .int .u64 ((k : Nat) : Int)) (hO.at 3 rfl) rfl)) rfl
   ·intro a wx c
    have e_42 : a.eval (.tmp 42) = .int .u64 ((p.cap : Nat) : Int) := c.slot 8 _ (by decide +kernel) rfl
    have e_46 : a.eval (.tmp 46) = .int .u64 ((k : Nat) : Int) := c.slot 12 _ (by decide +kernel) rfl
    clear c
    exact og_val (ei_add e_42 e_46 (by rw [IntKind.wrap_u64]; omega)) rfl
   ·intro a wx c
    have e_47 : a.eval (.tmp 47) = .int .u64 ((p.cap + k : Nat) : Int) := c.slot 13 _ (by decide +kernel) rfl
    clear c
    exact og_val (ei_sub e_47 rfl (by rw [IntKind.wrap_u64]; omega)) rfl
   ·intro a wx c
    have e_0 : a.eval (.tmp 0) = pt gp 0 := c.outE (by decide +kernel) (hS.get 0 rfl)
    clear c
    exact og_val (ex_mv e_0) rfl
   ·intro a wx c
    have e_49 : a.eval (.tmp 49) = pt gp 0 := c.slot 15 _ (by decide +kernel) rfl
    clear c
    exact og_val (ex_nc e_49) rfl
   ·intro a wx c
    have e_50 : a.eval (.tmp 50) = pt gp 0 := c.slot 16 _ (by decide +kernel) rfl
    clear c
    exact og_val (ex_fo e_50 fo_m3u8_MediaPlaylist_13 rfl) rfl
   ·intro a wx c
    have e_51 : a.eval (.tmp 51) = pt gp 13 := c.slot 17 _ (by decide +kernel) rfl
    have hO := hS.ogc c
    clear c
    exact og_val (ex_ld e_51 lt_uint (cell_of_heap (v := .int .u64 ((p.cap : Nat) : Int)) (hO.at 3 rfl) rfl)) rfl
   ·intro a wx c
    have e_48 : a.eval (.tmp 48) = .int .u64 (((p.cap + k) - 1 : Nat) : Int) := c.slot 14 _ (by decide +kernel) rfl
    have e_52 : a.eval (.tmp 52) = .int .u64 ((p.cap : Nat) : Int) := c.slot 18 _ (by decide +kernel) rfl
    clear c
    have e : (p.cap + k - 1) % p.cap = k - 1 := by rw [show p.cap + k - 1 = p.cap + (k - 1) from by omega, Nat.add_mod_left]; exact Nat.mod_eq_of_lt (by omega)
    exact og_val (v := .int .u64 ((k - 1 : Nat) : Int)) (ni_rem' p.cap e_48 e_52 (by omega) e) rfl
   ·intro a wx c
    have e_38 : a.eval (.tmp 38) = .slice (some ⟨gs, 0, none⟩) p.cap p.cap := c.slot 4 _ (by decide +kernel) rfl
    have e_53 : a.eval (.tmp 53) = .int .u64 ((k - 1 : Nat) : Int) := c.slot 19 _ (by decide +kernel) rfl
    clear c
    exact og_val (ex_ia1 (E := 76) Tryz.underlying63 Tryz.sizeOf76 e_38 e_53 (by omega)) rfl
   ·intro a wx c
    have e_54 : a.eval (.tmp 54) = pt gs (k - 1) := c.slot 20 _ (by decide +kernel) rfl
    have hO := hS.ogc c
    have hO := hS.ogc c
    clear c
    exact og_val (ex_ld e_54 lt_p_m3u8_MediaSegment (cell_of_heap (v := pt gq 0) (hO.at 2 rfl) (by rw [List.getElem?_toArray]; exact hq))) rfl
   ·intro a wx c
    have e_55 : a.eval (.tmp 55) = pt gq 0 := c.slot 21 _ (by decide +kernel) rfl
    clear c
    exact og_val (ex_nc e_55) rfl
   ·intro a wx c
    have e_56 : a.eval (.tmp 56) = pt gq 0 := c.slot 22 _ (by decide +kernel) rfl
    clear c
    exact og_val (ex_fo e_56 fo_m3u8_MediaSegment_0 rfl) rfl
   ·intro a wx c
    have e_57 : a.eval (.tmp 57) = pt gq 0 := c.slot 23 _ (by decide +kernel) rfl
    have hO := hS.ogc c
    clear c
    exact og_val (ex_ld e_57 lt_uint64 (cell_of_heap (v := .int .u64 ((y.seq : Nat) : Int)) (hO.at 0 rfl) rfl)) rfl
   ·intro a wx c
    have e_58 : a.eval (.tmp 58) = .int .u64 ((y.seq : Nat) : Int) := c.slot 24 _ (by decide +kernel) rfl
    clear c
    exact og_val (v := .int .u64 ((p.seq + k : Nat) : Int)) (ei_add e_58 rfl (by rw [IntKind.wrap_u64]; omega)) rfl
  ·intro a w3 c hbw3
   replace hS : Sv 113 ((59, .int .u64 ((p.seq + k : Nat) : Int)) :: (34, pt gz 0) :: (4, .nilIface) :: (0, pt gp 0) :: (1, pt gz 0) :: (20, .bool false) :: (33, .bool true) :: []) [⟨gq, y.cells, 104, false⟩, ⟨gz, #[.int .u64 ((p.seq : Nat) : Int), .string z.s.title, .string z.s.uri, .float .f64 (e8 z.s.e), .int .i64 ((z.s.limit : Nat) : Int), .int .i64 ((z.s.offset : Nat) : Int), z.kp, z.mp, .bool (z.s.disc), z.cp, .string z.s.date], 104, true⟩, ⟨gs, ps.toArray, 76, true⟩, ⟨gp, ({ p with sv := .slice (some ⟨gs, 0, none⟩) p.cap p.cap, tail := k, count := k } : Pq).cells, 72, true⟩] (fun x => x = gp ∨ x = gs ∨ x = gz) w a w3 := ((((((((hS.ogh c).know (c.outE (by decide +kernel) (hS.get 33 rfl))).know (c.outE (by decide +kernel) (hS.get 20 rfl))).know (c.outE (by decide +kernel) (hS.get 1 rfl))).know (c.outE (by decide +kernel) (hS.get 0 rfl))).know (c.outE (by decide +kernel) (hS.get 4 rfl))).know (c.slot 0 _ (by decide +kernel) rfl)).know (c.slot 25 _ (by decide +kernel) rfl))
   clear c
   simp only [List.drop_succ_cons, List.drop_zero]
   refine sv_r (v := pt gz 0) hS (ex_nc (hS.get 34 rfl)) fun a hS => ?_
   refine sv_r (v := pt gz 0) hS (ex_fo (hS.get 60 rfl) fo_m3u8_MediaSegment_0 rfl) fun a hS => ?_
   refine sv_st (i := 1) (v := .int .u64 ((p.seq + k : Nat) : Int)) (cs' := #[.int .u64 ((p.seq + k : Nat) : Int), .string z.s.title, .string z.s.uri, .float .f64 (e8 z.s.e), .int .i64 ((z.s.limit : Nat) : Int), .int .i64 ((z.s.offset : Nat) : Int), z.kp, z.mp, .bool (z.s.disc), z.cp, .string z.s.date]) (m' := [⟨gq, y.cells, 104, false⟩, ⟨gz, #[.int .u64 ((p.seq + k : Nat) : Int), .string z.s.title, .string z.s.uri, .float .f64 (e8 z.s.e), .int .i64 ((z.s.limit : Nat) : Int), .int .i64 ((z.s.offset : Nat) : Int), z.kp, z.mp, .bool (z.s.disc), z.cp, .string z.s.date], 104, true⟩, ⟨gs, ps.toArray, 76, true⟩, ⟨gp, ({ p with sv := .slice (some ⟨gs, 0, none⟩) p.cap p.cap, tail := k, count := k } : Pq).cells, 72, true⟩]) hS (su_uint64 _) (hS.get 61 rfl) (hS.get 59 rfl) rfl (show 0 < 11 from by decide) rfl rfl ?_
   intro w4 hty hS
   refine wpList_nil ?_
   replace hS := hS.cut [4, 0, 1, 20, 33]
   show Code.wp _ _ _ _ _
   refine wp_seq ?_
   refine wp_region_og1 (n := 113) 9 [Asr.eq (pt gp 0), Asr.eq (pt gp 0), Asr.eq (pt gp 2), Asr.eq (.slice (some ⟨gs, 0, none⟩) p.cap p.cap), Asr.eq (pt gp 0), Asr.eq (pt gp 0), Asr.eq (pt gp 15), Asr.eq (.int .u64 ((k : Nat) : Int)), Asr.eq (pt gz 0)] (by kernel_rfl) (by kernel_rfl) (by kernel_rfl) (by simp) (by kernel_rfl) hS.ev.size ⟨⟩ ?_ ?_
   ·simp only [List.take_succ_cons, List.take_zero]
    refine ⟨?_, ?_, ?_, ?_, ?_, ?_, ?_, ?_, ?_, trivial⟩
    ·intro a wx c
     have e_0 : a.eval (.tmp 0) = pt gp 0 := c.outE (by decide +kernel) (hS.get 0 rfl)
     clear c
     exact og_val (ex_mv e_0) rfl
    ·intro a wx c
     have e_62 : a.eval (.tmp 62) = pt gp 0 := c.slot 0 _ (by decide +kernel) rfl
     clear c
     exact og_val (ex_nc e_62) rfl
    ·intro a wx c
     have e_63 : a.eval (.tmp 63) = pt gp 0 := c.slot 1 _ (by decide +kernel) rfl
     clear c
     exact og_val (ex_fo e_63 fo_m3u8_MediaPlaylist_2 rfl) rfl
    ·intro a wx c
     have e_64 : a.eval (.tmp 64) = pt gp 2 := c.slot 2 _ (by decide +kernel) rfl
     have hO := hS.ogc c
     clear c
     exact og_val (ex_ld e_64 lt_sl_p_m3u8_MediaSegment (cell_of_heap (v := .slice (some ⟨gs, 0, none⟩) p.cap p.cap) (hO.at 3 rfl) rfl)) rfl
    ·intro a wx c
     have e_0 : a.eval (.tmp 0) = pt gp 0 := c.outE (by decide +kernel) (hS.get 0 rfl)
     clear c
     exact og_val (ex_mv e_0) rfl
    ·intro a wx c
     have e_66 : a.eval (.tmp 66) = pt gp 0 := c.slot 4 _ (by decide +kernel) rfl
     clear c
     exact og_val (ex_nc e_66) rfl
    ·intro a wx c
     have e_67 : a.eval (.tmp 67) = pt gp 0 := c.slot 5 _ (by decide +kernel) rfl
     clear c
     exact og_val (ex_fo e_67 fo_m3u8_MediaPlaylist_15 rfl) rfl
    ·intro a wx c
     have e_68 : a.eval (.tmp 68) = pt gp 15 := c.slot 6 _ (by decide +kernel) rfl
     have hO := hS.ogc c
     clear c
     exact og_val (ex_ld e_68 lt_uint (cell_of_heap (v := .int .u64 ((k : Nat) : Int)) (hO.at 3 rfl) rfl)) rfl
    ·intro a wx c
     have e_1 : a.eval (.tmp 1) = pt gz 0 := c.outE (by decide +kernel) (hS.get 1 rfl)
     clear c
     exact og_val (ex_mv e_1) rfl
   ·intro a w5 c hbw5
    replace hS : Sv 113 ((70, pt gz 0) :: (69, .int .u64 ((k : Nat) : Int)) :: (65, .slice (some ⟨gs, 0, none⟩) p.cap p.cap) :: (33, .bool true) :: (20, .bool false) :: (1, pt gz 0) :: (0, pt gp 0) :: (4, .nilIface) :: []) [⟨gq, y.cells, 104, false⟩, ⟨gz, #[.int .u64 ((p.seq + k : Nat) : Int), .string z.s.title, .string z.s.uri, .float .f64 (e8 z.s.e), .int .i64 ((z.s.limit : Nat) : Int), .int .i64 ((z.s.offset : Nat) : Int), z.kp, z.mp, .bool (z.s.disc), z.cp, .string z.s.date], 104, true⟩, ⟨gs, ps.toArray, 76, true⟩, ⟨gp, ({ p with sv := .slice (some ⟨gs, 0, none⟩) p.cap p.cap, tail := k, count := k } : Pq).cells, 72, true⟩] (fun x => x = gp ∨ x = gs ∨ x = gz) w a w5 := (((((((((hS.ogh c).know (c.outE (by decide +kernel) (hS.get 4 rfl))).know (c.outE (by decide +kernel) (hS.get 0 rfl))).know (c.outE (by decide +kernel) (hS.get 1 rfl))).know (c.outE (by decide +kernel) (hS.get 20 rfl))).know (c.outE (by decide +kernel) (hS.get 33 rfl))).know (c.slot 3 _ (by decide +kernel) rfl)).know (c.slot 7 _ (by decide +kernel) rfl)).know (c.slot 8 _ (by decide +kernel) rfl))
    clear c
    simp only [List.drop_succ_cons, List.drop_zero]
    refine sv_r (v := pt gs k) hS (ex_ia1 (E := 76) (i := k) Tryz.underlying63 Tryz.sizeOf76 (hS.get 65 rfl) (hS.get 69 rfl) (by omega)) fun a hS => ?_
    refine sv_st (i := 2) (v := pt gz 0) (m' := [⟨gq, y.cells, 104, false⟩, ⟨gz, #[.int .u64 ((p.seq + k : Nat) : Int), .string z.s.title, .string z.s.uri, .float .f64 (e8 z.s.e), .int .i64 ((z.s.limit : Nat) : Int), .int .i64 ((z.s.offset : Nat) : Int), z.kp, z.mp, .bool (z.s.disc), z.cp, .string z.s.date], 104, true⟩, ⟨gs, (ps.set k (pt gz 0)).toArray, 76, true⟩, ⟨gp, ({ p with sv := .slice (some ⟨gs, 0, none⟩) p.cap p.cap, tail := k, count := k } : Pq).cells, 72, true⟩]) hS (su_p_m3u8_MediaSegment _) (hS.get 71 rfl) (hS.get 70 rfl) rfl (by rw [List.size_toArray]; omega) rfl (by rw [List.setIfInBounds_toArray]) ?_
    intro w6 hty hS
    refine wpList_nil ?_
    replace hS := hS.cut [33, 20, 1, 0, 4]
    show Code.wp _ _ _ _ _
    refine wp_seq ?_
    refine wp_region_og1 (n := 113) 11 [Asr.eq (pt gp 0), Asr.eq (pt gp 0), Asr.eq (pt gp 0), Asr.eq (pt gp 15), Asr.eq (.int .u64 ((k : Nat) : Int)), Asr.eq (.int .u64 ((k + 1 : Nat) : Int)), Asr.eq (pt gp 0), Asr.eq (pt gp 0), Asr.eq (pt gp 13), Asr.eq (.int .u64 ((p.cap : Nat) : Int)), Asr.eq (.int .u64 (((k + 1) % p.cap : Nat) : Int))] (by kernel_rfl) (by kernel_rfl) (by kernel_rfl) (by simp) (by kernel_rfl) hS.ev.size ⟨⟩ ?_ ?_
    ·simp only [List.take_succ_cons, List.take_zero]
     refine ⟨?_, ?_, ?_, ?_, ?_, ?_, ?_, ?_, ?_, ?_, ?_, trivial⟩
     ·intro a wx c
      have e_0 : a.eval (.tmp 0) = pt gp 0 := c.outE (by decide +kernel) (hS.get 0 rfl)
      clear c
      exact og_val (ex_mv e_0) rfl
     ·intro a wx c
      have e_0 : a.eval (.tmp 0) = pt gp 0 := c.outE (by decide +kernel) (hS.get 0 rfl)
      clear c
      exact og_val (ex_mv e_0) rfl
     ·intro a wx c
      have e_73 : a.eval (.tmp 73) = pt gp 0 := c.slot 1 _ (by decide +kernel) rfl
      clear c
      exact og_val (ex_nc e_73) rfl
     ·intro a wx c
      have e_74 : a.eval (.tmp 74) = pt gp 0 := c.slot 2 _ (by decide +kernel) rfl
      clear c
      exact og_val (ex_fo e_74 fo_m3u8_MediaPlaylist_15 rfl) rfl
     ·intro a wx c
      have e_75 : a.eval (.tmp 75) = pt gp 15 := c.slot 3 _ (by decide +kernel) rfl
      have hO := hS.ogc c
      clear c
      exact og_val (ex_ld e_75 lt_uint (cell_of_heap (v := .int .u64 ((k : Nat) : Int)) (hO.at 3 rfl) rfl)) rfl
     ·intro a wx c
      have e_76 : a.eval (.tmp 76) = .int .u64 ((k : Nat) : Int) := c.slot 4 _ (by decide +kernel) rfl
      clear c
      exact og_val (ei_add e_76 rfl (by rw [IntKind.wrap_u64]; omega)) rfl
     ·intro a wx c
      have e_0 : a.eval (.tmp 0) = pt gp 0 := c.outE (by decide +kernel) (hS.get 0 rfl)
      clear c
      exact og_val (ex_mv e_0) rfl
     ·intro a wx c
      have e_78 : a.eval (.tmp 78) = pt gp 0 := c.slot 6 _ (by decide +kernel) rfl
      clear c
      exact og_val (ex_nc e_78) rfl
     ·intro a wx c
      have e_79 : a.eval (.tmp 79) = pt gp 0 := c.slot 7 _ (by decide +kernel) rfl
      clear c
      exact og_val (ex_fo e_79 fo_m3u8_MediaPlaylist_13 rfl) rfl
     ·intro a wx c
      have e_80 : a.eval (.tmp 80) = pt gp 13 := c.slot 8 _ (by decide +kernel) rfl
      have hO := hS.ogc c
      clear c
      exact og_val (ex_ld e_80 lt_uint (cell_of_heap (v := .int .u64 ((p.cap : Nat) : Int)) (hO.at 3 rfl) rfl)) rfl
     ·intro a wx c
      have e_77 : a.eval (.tmp 77) = .int .u64 ((k + 1 : Nat) : Int) := c.slot 5 _ (by decide +kernel) rfl
      have e_81 : a.eval (.tmp 81) = .int .u64 ((p.cap : Nat) : Int) := c.slot 9 _ (by decide +kernel) rfl
      clear c
      exact og_val (ni_rem p.cap e_77 e_81 (by omega)) rfl
    ·intro a w7 c hbw7
     replace hS : Sv 113 ((82, .int .u64 (((k + 1) % p.cap : Nat) : Int)) :: (72, pt gp 0) :: (4, .nilIface) :: (0, pt gp 0) :: (1, pt gz 0) :: (20, .bool false) :: (33, .bool true) :: []) [⟨gq, y.cells, 104, false⟩, ⟨gz, #[.int .u64 ((p.seq + k : Nat) : Int), .string z.s.title, .string z.s.uri, .float .f64 (e8 z.s.e), .int .i64 ((z.s.limit : Nat) : Int), .int .i64 ((z.s.offset : Nat) : Int), z.kp, z.mp, .bool (z.s.disc), z.cp, .string z.s.date], 104, true⟩, ⟨gs, (ps.set k (pt gz 0)).toArray, 76, true⟩, ⟨gp, ({ p with sv := .slice (some ⟨gs, 0, none⟩) p.cap p.cap, tail := k, count := k } : Pq).cells, 72, true⟩] (fun x => x = gp ∨ x = gs ∨ x = gz) w a w7 := ((((((((hS.ogh c).know (c.outE (by decide +kernel) (hS.get 33 rfl))).know (c.outE (by decide +kernel) (hS.get 20 rfl))).know (c.outE (by decide +kernel) (hS.get 1 rfl))).know (c.outE (by decide +kernel) (hS.get 0 rfl))).know (c.outE (by decide +kernel) (hS.get 4 rfl))).know (c.slot 0 _ (by decide +kernel) rfl)).know (c.slot 10 _ (by decide +kernel) rfl))
     clear c
     simp only [List.drop_succ_cons, List.drop_zero]
     refine sv_r (v := pt gp 0) hS (ex_nc (hS.get 72 rfl)) fun a hS => ?_
     refine sv_r (v := pt gp 15) hS (ex_fo (hS.get 83 rfl) fo_m3u8_MediaPlaylist_15 rfl) fun a hS => ?_
     refine sv_st (i := 3) (v := .int .u64 (((k + 1) % p.cap : Nat) : Int)) (cs' := #[.float .f64 (p.tgt), .int .u64 ((p.seq : Nat) : Int), .slice (some ⟨gs, 0, none⟩) p.cap p.cap, .string p.args, .bool (p.iframe), .bool (p.closed), .int .u64 ((p.typ : Nat) : Int), .int .u64 ((p.disc : Nat) : Int), .float .f64 (p.start), .bool (p.precise), .bool false, .int .i64 0, .int .u64 0, .int .u64 ((p.cap : Nat) : Int), .int .u64 0, .int .u64 (((k + 1) % p.cap : Nat) : Int), .int .u64 ((k : Nat) : Int), .slice none 0 0, .int .i64 0, .int .i8 0, .int .u8 ((p.ver : Nat) : Int), p.kp, p.mp]) (m' := [⟨gq, y.cells, 104, false⟩, ⟨gz, #[.int .u64 ((p.seq + k : Nat) : Int), .string z.s.title, .string z.s.uri, .float .f64 (e8 z.s.e), .int .i64 ((z.s.limit : Nat) : Int), .int .i64 ((z.s.offset : Nat) : Int), z.kp, z.mp, .bool (z.s.disc), z.cp, .string z.s.date], 104, true⟩, ⟨gs, (ps.set k (pt gz 0)).toArray, 76, true⟩, ⟨gp, #[.float .f64 (p.tgt), .int .u64 ((p.seq : Nat) : Int), .slice (some ⟨gs, 0, none⟩) p.cap p.cap, .string p.args, .bool (p.iframe), .bool (p.closed), .int .u64 ((p.typ : Nat) : Int), .int .u64 ((p.disc : Nat) : Int), .float .f64 (p.start), .bool (p.precise), .bool false, .int .i64 0, .int .u64 0, .int .u64 ((p.cap : Nat) : Int), .int .u64 0, .int .u64 (((k + 1) % p.cap : Nat) : Int), .int .u64 ((k : Nat) : Int), .slice none 0 0, .int .i64 0, .int .i8 0, .int .u8 ((p.ver : Nat) : Int), p.kp, p.mp], 72, true⟩]) hS (su_uint _) (hS.get 84 rfl) (hS.get 82 rfl) rfl (show 15 < 23 from by decide) rfl rfl ?_
     intro w8 hty hS
     refine wpList_nil ?_
     replace hS := hS.cut [4, 0, 1, 20, 33]
     show Code.wp _ _ _ _ _
     refine wp_seq ?_
     refine wp_region_lit ?_
     refine sv_r (v := pt gp 0) hS (ex_mv (hS.get 0 rfl)) fun a hS => ?_
     refine sv_r (v := pt gp 0) hS (ex_nc (hS.get 85 rfl)) fun a hS => ?_
     refine sv_r (v := pt gp 16) hS (ex_fo (hS.get 86 rfl) fo_m3u8_MediaPlaylist_16 rfl) fun a hS => ?_
     refine sv_r (v := .int .u64 ((k : Nat) : Int)) hS (ex_ld (hS.get 87 rfl) lt_uint (cell_of_heap (v := .int .u64 ((k : Nat) : Int)) (hS.at 3 rfl) rfl)) fun a hS => ?_
     refine sv_r (v := .int .u64 ((k + 1 : Nat) : Int)) hS (ei_add (hS.get 88 rfl) rfl (by rw [IntKind.wrap_u64]; omega)) fun a hS => ?_
     refine sv_r (v := pt gp 0) hS (ex_nc (hS.get 85 rfl)) fun a hS => ?_
     refine sv_r (v := pt gp 16) hS (ex_fo (hS.get 90 rfl) fo_m3u8_MediaPlaylist_16 rfl) fun a hS => ?_
     refine sv_st (i := 3) (v := .int .u64 ((k + 1 : Nat) : Int)) (cs' := #[.float .f64 (p.tgt), .int .u64 ((p.seq : Nat) : Int), .slice (some ⟨gs, 0, none⟩) p.cap p.cap, .string p.args, .bool (p.iframe), .bool (p.closed), .int .u64 ((p.typ : Nat) : Int), .int .u64 ((p.disc : Nat) : Int), .float .f64 (p.start), .bool (p.precise), .bool false, .int .i64 0, .int .u64 0, .int .u64 ((p.cap : Nat) : Int), .int .u64 0, .int .u64 (((k + 1) % p.cap : Nat) : Int), .int .u64 ((k + 1 : Nat) : Int), .slice none 0 0, .int .i64 0, .int .i8 0, .int .u8 ((p.ver : Nat) : Int), p.kp, p.mp]) (m' := [⟨gq, y.cells, 104, false⟩, ⟨gz, #[.int .u64 ((p.seq + k : Nat) : Int), .string z.s.title, .string z.s.uri, .float .f64 (e8 z.s.e), .int .i64 ((z.s.limit : Nat) : Int), .int .i64 ((z.s.offset : Nat) : Int), z.kp, z.mp, .bool (z.s.disc), z.cp, .string z.s.date], 104, true⟩, ⟨gs, (ps.set k (pt gz 0)).toArray, 76, true⟩, ⟨gp, #[.float .f64 (p.tgt), .int .u64 ((p.seq : Nat) : Int), .slice (some ⟨gs, 0, none⟩) p.cap p.cap, .string p.args, .bool (p.iframe), .bool (p.closed), .int .u64 ((p.typ : Nat) : Int), .int .u64 ((p.disc : Nat) : Int), .float .f64 (p.start), .bool (p.precise), .bool false, .int .i64 0, .int .u64 0, .int .u64 ((p.cap : Nat) : Int), .int .u64 0, .int .u64 (((k + 1) % p.cap : Nat) : Int), .int .u64 ((k + 1 : Nat) : Int), .slice none 0 0, .int .i64 0, .int .i8 0, .int .u8 ((p.ver : Nat) : Int), p.kp, p.mp], 72, true⟩]) hS (su_uint _) (hS.get 91 rfl) (hS.get 89 rfl) rfl (show 16 < 23 from by decide) rfl rfl ?_
     intro w9 hty hS
     refine wpList_nil ?_
     replace hS := hS.cut [4, 0, 1, 20, 33]
     show Code.wp _ _ _ _ _
     refine wp_seq ?_
     refine wp_seq ?_
     refine wp_region_og1 (n := 113) 8 [Asr.eq (pt gp 0), Asr.eq (pt gp 0), Asr.eq (pt gp 0), Asr.eq (.float .f64 (p.tgt)), Asr.eq (pt gz 0), Asr.eq (pt gz 0), Asr.eq (pt gz 3), Asr.eq (.float .f64 (e8 z.s.e))] (by kernel_rfl) (by kernel_rfl) (by kernel_rfl) (by simp) (by kernel_rfl) hS.ev.size ⟨⟩ ?_ ?_
     ·simp only [List.take_succ_cons, List.take_zero]
      refine ⟨?_, ?_, ?_, ?_, ?_, ?_, ?_, ?_, trivial⟩
      ·intro a wx c
       have e_0 : a.eval (.tmp 0) = pt gp 0 := c.outE (by decide +kernel) (hS.get 0 rfl)
       clear c
       exact og_val (ex_mv e_0) rfl
      ·intro a wx c
       have e_92 : a.eval (.tmp 92) = pt gp 0 := c.slot 0 _ (by decide +kernel) rfl
       clear c
       exact og_val (ex_nc e_92) rfl
      ·intro a wx c
       have e_93 : a.eval (.tmp 93) = pt gp 0 := c.slot 1 _ (by decide +kernel) rfl
       clear c
       exact og_val (ex_fo e_93 fo_m3u8_MediaPlaylist_0 rfl) rfl
      ·intro a wx c
       have e_94 : a.eval (.tmp 94) = pt gp 0 := c.slot 2 _ (by decide +kernel) rfl
       have hO := hS.ogc c
       clear c
       exact og_val (ex_ld e_94 lt_float64 (cell_of_heap (v := .float .f64 (p.tgt)) (hO.at 3 rfl) rfl)) rfl
      ·intro a wx c
       have e_1 : a.eval (.tmp 1) = pt gz 0 := c.outE (by decide +kernel) (hS.get 1 rfl)
       clear c
       exact og_val (ex_mv e_1) rfl
      ·intro a wx c
       have e_96 : a.eval (.tmp 96) = pt gz 0 := c.slot 4 _ (by decide +kernel) rfl
       clear c
       exact og_val (ex_nc e_96) rfl
      ·intro a wx c
       have e_97 : a.eval (.tmp 97) = pt gz 0 := c.slot 5 _ (by decide +kernel) rfl
       clear c
       exact og_val (ex_fo e_97 fo_m3u8_MediaSegment_3 rfl) rfl
      ·intro a wx c
       have e_98 : a.eval (.tmp 98) = pt gz 3 := c.slot 6 _ (by decide +kernel) rfl
       have hO := hS.ogc c
       clear c
       exact og_val (ex_ld e_98 lt_float64 (cell_of_heap (v := .float .f64 (e8 z.s.e)) (hO.at 1 rfl) rfl)) rfl
     ·intro a w10 c hbw10
      replace hS : Sv 113 ((99, .float .f64 (e8 z.s.e)) :: (95, .float .f64 (p.tgt)) :: (33, .bool true) :: (20, .bool false) :: (1, pt gz 0) :: (0, pt gp 0) :: (4, .nilIface) :: []) [⟨gq, y.cells, 104, false⟩, ⟨gz, #[.int .u64 ((p.seq + k : Nat) : Int), .string z.s.title, .string z.s.uri, .float .f64 (e8 z.s.e), .int .i64 ((z.s.limit : Nat) : Int), .int .i64 ((z.s.offset : Nat) : Int), z.kp, z.mp, .bool (z.s.disc), z.cp, .string z.s.date], 104, true⟩, ⟨gs, (ps.set k (pt gz 0)).toArray, 76, true⟩, ⟨gp, #[.float .f64 (p.tgt), .int .u64 ((p.seq : Nat) : Int), .slice (some ⟨gs, 0, none⟩) p.cap p.cap, .string p.args, .bool (p.iframe), .bool (p.closed), .int .u64 ((p.typ : Nat) : Int), .int .u64 ((p.disc : Nat) : Int), .float .f64 (p.start), .bool (p.precise), .bool false, .int .i64 0, .int .u64 0, .int .u64 ((p.cap : Nat) : Int), .int .u64 0, .int .u64 (((k + 1) % p.cap : Nat) : Int), .int .u64 ((k + 1 : Nat) : Int), .slice none 0 0, .int .i64 0, .int .i8 0, .int .u8 ((p.ver : Nat) : Int), p.kp, p.mp], 72, true⟩] (fun x => x = gp ∨ x = gs ∨ x = gz) w a w10 := ((((((((hS.ogh c).know (c.outE (by decide +kernel) (hS.get 4 rfl))).know (c.outE (by decide +kernel) (hS.get 0 rfl))).know (c.outE (by decide +kernel) (hS.get 1 rfl))).know (c.outE (by decide +kernel) (hS.get 20 rfl))).know (c.outE (by decide +kernel) (hS.get 33 rfl))).know (c.slot 3 _ (by decide +kernel) rfl)).know (c.slot 7 _ (by decide +kernel) rfl))
      clear c
      simp only [List.drop_succ_cons, List.drop_zero]
      refine sv_r (v := .bool false) hS (ef_lss (hS.get 95 rfl) (hS.get 99 rfl) (by exact hfl)) fun a hS => ?_
      refine wpList_nil ?_
      replace hS := hS.cut [100, 33, 20, 1, 0, 4]
      show Code.wp _ _ _ _ _
      refine cond_f (hS.get 100 rfl) ?_
      refine wp_skip ?_
      show Code.wp _ _ _ _ _
      refine wp_seq ?_
      refine wp_region_lit ?_
      refine sv_r (v := pt gp 0) hS (ex_mv (hS.get 0 rfl)) fun a hS => ?_
      refine sv_r (v := pt gp 0) hS (ex_nc (hS.get 109 rfl)) fun a hS => ?_
      refine sv_r (v := pt gp 17) hS (ex_fo (hS.get 110 rfl) fo_m3u8_MediaPlaylist_17 rfl) fun a hS => ?_
      have hpq : w10.heap[gp]? = some (.cells ({ p with sv := .slice (some ⟨gs, 0, none⟩) p.cap p.cap, tail := (k + 1) % p.cap, count := k + 1 } : Pq).cells 72 (0, 0)) := hS.at 3 rfl
      refine sv_callp (i := 3) (v := .tuple #[]) (m' := [⟨gq, y.cells, 104, false⟩, ⟨gz, #[.int .u64 ((p.seq + k : Nat) : Int), .string z.s.title, .string z.s.uri, .float .f64 (e8 z.s.e), .int .i64 ((z.s.limit : Nat) : Int), .int .i64 ((z.s.offset : Nat) : Int), z.kp, z.mp, .bool (z.s.disc), z.cp, .string z.s.date], 104, true⟩, ⟨gs, (ps.set k (pt gz 0)).toArray, 76, true⟩, ⟨gp, ({ p with sv := .slice (some ⟨gs, 0, none⟩) p.cap p.cap, tail := (k + 1) % p.cap, count := k + 1 } : Pq).cells, 72, true⟩]) hS rfl rfl (by decide) (ex_call1 cf_bytes_Buffer_Reset (hS.get 111 rfl)) rfl rfl (reset_any _ gp w10 hpq) ?_
      intro a w11 hty hS
      refine wpList_nil ?_
      replace hS := hS.cut [100, 33, 20, 1, 0, 4]
      show Code.wp _ _ _ _ _
      refine wp_seq ?_
      refine wp_region_lit ?_
      refine sv_r (v := .nilIface) hS ex_ac fun a hS => ?_
      refine wpList_nil ?_
      replace hS := hS.cut [4, 100, 33, 20, 1, 0]
      show Code.wp _ _ _ _ _
      refine wp_ret ?_
      try simp only [Exit.inBlock, Exit.then]
      exact ret_of_ev hS.ev rfl (hS.get 4 rfl) ⟨rfl, hS.at 3 rfl, hS.at 2 rfl, hS.at 1 rfl, hS.only⟩
end Go.Proofs.YtfonjeoiallhhaaGreatDoor
