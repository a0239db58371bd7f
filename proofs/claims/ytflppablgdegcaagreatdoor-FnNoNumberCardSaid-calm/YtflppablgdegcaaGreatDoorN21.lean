/- Joined: Na. -/
import Derived.Test.YtflppablgdegcaaGreatDoorN14
import Derived.Test.YtflppablgdegcaaGreatDoorN20
/- A new media playlist; its first segment. -/
set_option maxRecDepth 100000
set_option maxHeartbeats 8000000
namespace Go.Proofs.YtflppablgdegcaaGreatDoor
open Go.RowKit
/-- A media playlist's cells: its window is 0, its buffer empty, no key and no map of its own. -/
def pcs (tgt seq disc ver : Nat) (sv : Value) (cap tail count : Nat) : Array Value := #[.float .f64 tgt, .int .u64 (seq : Int), sv, .string ⟨#[]⟩, .bool false, .bool false, .int .u64 0, .int .u64 (disc : Int), .float .f64 0, .bool false, .bool false, .int .i64 0, .int .u64 0, .int .u64 (cap : Int), .int .u64 0, .int .u64 (tail : Int), .int .u64 (count : Int), .slice none 0 0, .int .i64 0, .int .i8 0, .int .u8 (ver : Int), .pointer none, .pointer none]
/-- A segment's cells. -/
def scs (seq : Nat) (title uri : ByteArray) (dur : Nat) : Array Value := #[.int .u64 (seq : Int), .string title, .string uri, .float .f64 dur, .int .i64 0, .int .i64 0, .pointer none, .pointer none, .bool false, .pointer none, .string ⟨#[]⟩]
theorem setWin0 {tgt seq disc ver cap tail count : Nat} {sv : Value} (gp : Nat) (w : World) (hp : w.heap[gp]? = some (.cells (pcs tgt seq disc ver sv cap tail count) 88 (0, 0))) : Calls Tryz.prog 34 #[pt gp 0, .int .u64 0] w fun e w' => e = .returned .nilIface ∧ w'.heap[gp]? = some (.cells (pcs tgt seq disc ver sv cap tail count) 88 (0, 0)) ∧ Only (fun x => x = gp) w w' := by
 refine calls_of_ev Tryz.func34 rfl (show 2 ≤ 16 from by decide) ?_
 intro a hE
 have hE : Ev 16 ((0, pt gp 0) :: (1, .int .u64 0) :: []) a := hE
 have hS : Sv 16 ((0, pt gp 0) :: (1, .int .u64 0) :: []) [] (fun x => x = gp) w a w := Sv.start hE _ _
 clear hE
 replace hS : Sv 16 ((0, pt gp 0) :: (1, .int .u64 0) :: []) [⟨gp, (pcs tgt seq disc ver sv cap tail count), 88, true⟩] (fun x => x = gp) w a w := (hS.addB hp (by intro b hb; cases hb) (fun _ => .inl rfl)).pick rfl
 refine wp_seq ?_
 refine wp_region_lit ?_
 refine sv_r (v := .nilIface) hS ex_ac fun a hS => ?_
 refine wpList_nil ?_
 replace hS := hS.cut [4, 0, 1]
 show Code.wp _ _ _ _ _
 refine wp_seq ?_
 refine wp_seq ?_
 refine wp_region_lit ?_
 refine sv_r (v := .int .u64 0) hS (ex_mv (hS.get 1 rfl)) fun a hS => ?_
 refine sv_r (v := pt gp 0) hS (ex_mv (hS.get 0 rfl)) fun a hS => ?_
 refine sv_r (v := pt gp 0) hS (ex_nc (hS.get 6 rfl)) fun a hS => ?_
 refine sv_r (v := pt gp 13) hS (ex_fo (hS.get 7 rfl) fo_m3u8_MediaPlaylist_13 rfl) fun a hS => ?_
 refine sv_r (v := .int .u64 ((cap : Nat) : Int)) hS (ex_ld (hS.get 8 rfl) lt_uint (cell_of_heap (v := .int .u64 ((cap : Nat) : Int)) (hS.at 0 rfl) rfl)) fun a hS => ?_
 refine sv_r (v := .bool false) hS (ei_gtr (hS.get 5 rfl) (hS.get 9 rfl) (by rw [decide_eq_false_iff_not]; omega)) fun a hS => ?_
 refine wpList_nil ?_
 replace hS := hS.cut [10, 4, 0, 1]
 show Code.wp _ _ _ _ _
 refine cond_f (hS.get 10 rfl) ?_
 refine wp_skip ?_
 show Code.wp _ _ _ _ _
 refine wp_seq ?_
 refine wp_region_lit ?_
 refine sv_r (v := pt gp 0) hS (ex_mv (hS.get 0 rfl)) fun a hS => ?_
 refine sv_r (v := .int .u64 0) hS (ex_mv (hS.get 1 rfl)) fun a hS => ?_
 refine sv_r (v := pt gp 0) hS (ex_nc (hS.get 12 rfl)) fun a hS => ?_
 refine sv_r (v := pt gp 12) hS (ex_fo (hS.get 14 rfl) fo_m3u8_MediaPlaylist_12 rfl) fun a hS => ?_
 refine sv_st (i := 0) (v := .int .u64 0) (cs' := #[.float .f64 (tgt), .int .u64 ((seq : Nat) : Int), sv, .string (⟨#[]⟩), .bool false, .bool false, .int .u64 0, .int .u64 ((disc : Nat) : Int), .float .f64 0, .bool false, .bool false, .int .i64 0, .int .u64 0, .int .u64 ((cap : Nat) : Int), .int .u64 0, .int .u64 ((tail : Nat) : Int), .int .u64 ((count : Nat) : Int), .slice none 0 0, .int .i64 0, .int .i8 0, .int .u8 ((ver : Nat) : Int), .pointer none, .pointer none]) (m' := [⟨gp, #[.float .f64 (tgt), .int .u64 ((seq : Nat) : Int), sv, .string (⟨#[]⟩), .bool false, .bool false, .int .u64 0, .int .u64 ((disc : Nat) : Int), .float .f64 0, .bool false, .bool false, .int .i64 0, .int .u64 0, .int .u64 ((cap : Nat) : Int), .int .u64 0, .int .u64 ((tail : Nat) : Int), .int .u64 ((count : Nat) : Int), .slice none 0 0, .int .i64 0, .int .i8 0, .int .u8 ((ver : Nat) : Int), .pointer none, .pointer none], 88, true⟩]) hS (su_uint _) (hS.get 15 rfl) (hS.get 13 rfl) rfl (show 12 < 23 from by decide) rfl rfl ?_
 intro w1 hty hS
 replace hS : Sv 16 ((10, .bool false) :: (4, .nilIface) :: (0, pt gp 0) :: (1, .int .u64 0) :: []) [⟨gp, #[.float .f64 (tgt), .int .u64 ((seq : Nat) : Int), sv, .string (⟨#[]⟩), .bool false, .bool false, .int .u64 0, .int .u64 ((disc : Nat) : Int), .float .f64 0, .bool false, .bool false, .int .i64 0, .int .u64 0, .int .u64 ((cap : Nat) : Int), .int .u64 0, .int .u64 ((tail : Nat) : Int), .int .u64 ((count : Nat) : Int), .slice none 0 0, .int .i64 0, .int .i8 0, .int .u8 ((ver : Nat) : Int), .pointer none, .pointer none], 88, true⟩] (fun x => x = gp) w a w1 := hS.pick rfl
 refine nx3 ?_
 refine sv_r (v := .nilIface) hS ex_ac fun a hS => ?_
 refine wpList_nil ?_
 replace hS := hS.cut [4, 10, 0, 1]
 show Code.wp _ _ _ _ _
 refine wp_ret ?_
 try simp only [Exit.inBlock, Exit.then]
 exact ret_of_ev hS.ev rfl (hS.get 4 rfl) ⟨rfl, hS.at 0 rfl, hS.only⟩
theorem reset0 {tgt seq disc ver cap tail count : Nat} {sv : Value} (gp : Nat) (w : World) (hp : w.heap[gp]? = some (.cells (pcs tgt seq disc ver sv cap tail count) 88 (0, 0))) : Calls Tryz.prog 53 #[pt gp 17] w fun e w' => e = .returned (.tuple #[]) ∧ w'.heap[gp]? = some (.cells (pcs tgt seq disc ver sv cap tail count) 88 (0, 0)) ∧ Only (fun x => x = gp) w w' := by
 refine calls_of_ev Tryz.func53 rfl (show 1 ≤ 16 from by decide) ?_
 intro a hE
 have hE : Ev 16 ((0, pt gp 17) :: []) a := hE
 have hS : Sv 16 ((0, pt gp 17) :: []) [] (fun x => x = gp) w a w := Sv.start hE _ _
 clear hE
 replace hS : Sv 16 ((0, pt gp 17) :: []) [⟨gp, (pcs tgt seq disc ver sv cap tail count), 88, true⟩] (fun x => x = gp) w a w := (hS.addB hp (by intro b hb; cases hb) (fun _ => .inl rfl)).pick rfl
 refine wp_seq ?_
 refine wp_region_lit ?_
 refine sv_r (v := pt gp 17) hS (ex_mv (hS.get 0 rfl)) fun a hS => ?_
 refine sv_r (v := pt gp 17) hS (ex_mv (hS.get 0 rfl)) fun a hS => ?_
 refine sv_r (v := pt gp 17) hS (ex_nc (hS.get 3 rfl)) fun a hS => ?_
 refine sv_r (v := pt gp 17) hS (ex_fo (hS.get 4 rfl) fo_bytes_Buffer_0 rfl) fun a hS => ?_
 refine sv_r (v := .slice none 0 0) hS (ex_ld (hS.get 5 rfl) lt_sl_uint8 (cell_of_heap (v := .slice none 0 0) (hS.at 0 rfl) rfl)) fun a hS => ?_
 refine sv_r (v := .slice none 0 0) hS (ex_slh (E := 5) (h := 0) Tryz.underlying45 Tryz.sizeOf5 (hS.get 6 rfl) rfl (by omega)) fun a hS => ?_
 refine sv_r (v := pt gp 17) hS (ex_nc (hS.get 2 rfl)) fun a hS => ?_
 refine sv_r (v := pt gp 17) hS (ex_fo (hS.get 8 rfl) fo_bytes_Buffer_0 rfl) fun a hS => ?_
 refine sv_st (i := 0) (v := .slice none 0 0) (cs' := #[.float .f64 (tgt), .int .u64 ((seq : Nat) : Int), sv, .string (⟨#[]⟩), .bool false, .bool false, .int .u64 0, .int .u64 ((disc : Nat) : Int), .float .f64 0, .bool false, .bool false, .int .i64 0, .int .u64 0, .int .u64 ((cap : Nat) : Int), .int .u64 0, .int .u64 ((tail : Nat) : Int), .int .u64 ((count : Nat) : Int), .slice none 0 0, .int .i64 0, .int .i8 0, .int .u8 ((ver : Nat) : Int), .pointer none, .pointer none]) (m' := [⟨gp, #[.float .f64 (tgt), .int .u64 ((seq : Nat) : Int), sv, .string (⟨#[]⟩), .bool false, .bool false, .int .u64 0, .int .u64 ((disc : Nat) : Int), .float .f64 0, .bool false, .bool false, .int .i64 0, .int .u64 0, .int .u64 ((cap : Nat) : Int), .int .u64 0, .int .u64 ((tail : Nat) : Int), .int .u64 ((count : Nat) : Int), .slice none 0 0, .int .i64 0, .int .i8 0, .int .u8 ((ver : Nat) : Int), .pointer none, .pointer none], 88, true⟩]) hS (su_sl_uint8 _ _ _) (hS.get 9 rfl) (hS.get 7 rfl) rfl (show 17 < 23 from by decide) rfl rfl ?_
 intro w1 hty hS
 refine wpList_nil ?_
 replace hS := hS.cut [0]
 show Code.wp _ _ _ _ _
 refine wp_seq ?_
 refine wp_region_lit ?_
 refine sv_r (v := pt gp 17) hS (ex_mv (hS.get 0 rfl)) fun a hS => ?_
 refine sv_r (v := pt gp 17) hS (ex_nc (hS.get 10 rfl)) fun a hS => ?_
 refine sv_r (v := pt gp 18) hS (ex_fo (hS.get 11 rfl) fo_bytes_Buffer_1 rfl) fun a hS => ?_
 refine sv_st (i := 0) (v := .int .i64 0) (cs' := #[.float .f64 (tgt), .int .u64 ((seq : Nat) : Int), sv, .string (⟨#[]⟩), .bool false, .bool false, .int .u64 0, .int .u64 ((disc : Nat) : Int), .float .f64 0, .bool false, .bool false, .int .i64 0, .int .u64 0, .int .u64 ((cap : Nat) : Int), .int .u64 0, .int .u64 ((tail : Nat) : Int), .int .u64 ((count : Nat) : Int), .slice none 0 0, .int .i64 0, .int .i8 0, .int .u8 ((ver : Nat) : Int), .pointer none, .pointer none]) (m' := [⟨gp, #[.float .f64 (tgt), .int .u64 ((seq : Nat) : Int), sv, .string (⟨#[]⟩), .bool false, .bool false, .int .u64 0, .int .u64 ((disc : Nat) : Int), .float .f64 0, .bool false, .bool false, .int .i64 0, .int .u64 0, .int .u64 ((cap : Nat) : Int), .int .u64 0, .int .u64 ((tail : Nat) : Int), .int .u64 ((count : Nat) : Int), .slice none 0 0, .int .i64 0, .int .i8 0, .int .u8 ((ver : Nat) : Int), .pointer none, .pointer none], 88, true⟩]) hS (su_int _) (hS.get 12 rfl) rfl rfl (show 18 < 23 from by decide) rfl rfl ?_
 intro w2 hty hS
 refine wpList_nil ?_
 replace hS := hS.cut [0]
 show Code.wp _ _ _ _ _
 refine wp_region_lit ?_
 refine sv_r (v := pt gp 17) hS (ex_mv (hS.get 0 rfl)) fun a hS => ?_
 refine sv_r (v := pt gp 17) hS (ex_nc (hS.get 13 rfl)) fun a hS => ?_
 refine sv_r (v := pt gp 19) hS (ex_fo (hS.get 14 rfl) fo_bytes_Buffer_2 rfl) fun a hS => ?_
 refine sv_st (i := 0) (v := .int .i8 0) (cs' := #[.float .f64 (tgt), .int .u64 ((seq : Nat) : Int), sv, .string (⟨#[]⟩), .bool false, .bool false, .int .u64 0, .int .u64 ((disc : Nat) : Int), .float .f64 0, .bool false, .bool false, .int .i64 0, .int .u64 0, .int .u64 ((cap : Nat) : Int), .int .u64 0, .int .u64 ((tail : Nat) : Int), .int .u64 ((count : Nat) : Int), .slice none 0 0, .int .i64 0, .int .i8 0, .int .u8 ((ver : Nat) : Int), .pointer none, .pointer none]) (m' := [⟨gp, #[.float .f64 (tgt), .int .u64 ((seq : Nat) : Int), sv, .string (⟨#[]⟩), .bool false, .bool false, .int .u64 0, .int .u64 ((disc : Nat) : Int), .float .f64 0, .bool false, .bool false, .int .i64 0, .int .u64 0, .int .u64 ((cap : Nat) : Int), .int .u64 0, .int .u64 ((tail : Nat) : Int), .int .u64 ((count : Nat) : Int), .slice none 0 0, .int .i64 0, .int .i8 0, .int .u8 ((ver : Nat) : Int), .pointer none, .pointer none], 88, true⟩]) hS (su_bytes_readOp _) (hS.get 15 rfl) rfl rfl (show 19 < 23 from by decide) rfl rfl ?_
 intro w3 hty hS
 refine wpList_nil ?_
 replace hS : Sv 16 ((0, pt gp 17) :: []) [⟨gp, #[.float .f64 (tgt), .int .u64 ((seq : Nat) : Int), sv, .string (⟨#[]⟩), .bool false, .bool false, .int .u64 0, .int .u64 ((disc : Nat) : Int), .float .f64 0, .bool false, .bool false, .int .i64 0, .int .u64 0, .int .u64 ((cap : Nat) : Int), .int .u64 0, .int .u64 ((tail : Nat) : Int), .int .u64 ((count : Nat) : Int), .slice none 0 0, .int .i64 0, .int .i8 0, .int .u8 ((ver : Nat) : Int), .pointer none, .pointer none], 88, true⟩] (fun x => x = gp) w a w3 := hS.pick rfl
 exact end_ev hS.ev rfl ⟨rfl, hS.at 0 rfl, hS.only⟩
theorem newMedia0 (n : Nat) (hn : n ≤ 100000) (w : World) : Calls Tryz.prog 17 #[.int .u64 0, .int .u64 ((n : Nat) : Int)] w fun e w' => ∃ v, e = .returned v ∧ Below w.heap.size w w' ∧ ∃ gp gr : Nat, v = .tuple #[pt gp 0, .nilIface] ∧ w.heap.size ≤ gp ∧ w.heap.size ≤ gr ∧ w'.heap[gp]? = some (.cells (pcs 0 0 0 3 (.slice (some ⟨gr, 0, none⟩) n n) n 0 0) 88 (0, 0)) ∧ w'.heap[gr]? = some (.cells (List.replicate n (Value.pointer none)).toArray 125 (0, 0)) := by
 refine calls_of_ev Tryz.func17 rfl (show 2 ≤ 28 from by decide) ?_
 intro a hE
 have hE : Ev 28 ((0, .int .u64 0) :: (1, .int .u64 ((n : Nat) : Int)) :: []) a := hE
 have hS : Sv 28 ((0, .int .u64 0) :: (1, .int .u64 ((n : Nat) : Int)) :: []) [] (fun _ => False) w a w := Sv.start hE _ _
 clear hE
 refine wp_seq ?_
 refine wp_region_lit ?_
 refine sv_r (v := .pointer none) hS ex_ac fun a hS => ?_
 refine sv_r (v := .nilIface) hS ex_ac fun a hS => ?_
 refine wpList_nil ?_
 replace hS := hS.cut [5, 4, 0, 1]
 show Code.wp _ _ _ _ _
 refine wp_seq ?_
 refine wp_region_lit ?_
 refine sv_al hS al_m3u8_MediaPlaylist (by decide) ?_
 intro g1 a w2 hg1 hbw2 hwg1 hS
 refine sv_r (v := pt g1 0) hS (ex_as (hS.get 8 rfl)) fun a hS => ?_
 refine wpList_nil ?_
 replace hS := hS.cut [6, 5, 4, 0, 1]
 show Code.wp _ _ _ _ _
 refine wp_seq ?_
 refine wp_region_lit ?_
 refine sv_r (v := pt g1 0) hS (ex_mv (hS.get 6 rfl)) fun a hS => ?_
 refine sv_r (v := pt g1 0) hS (ex_nc (hS.get 9 rfl)) fun a hS => ?_
 refine sv_r (v := pt g1 20) hS (ex_fo (hS.get 10 rfl) fo_m3u8_MediaPlaylist_18 rfl) fun a hS => ?_
 refine sv_st (i := 0) (v := .int .u8 3) (cs' := #[.float .f64 0, .int .u64 0, .slice none 0 0, .string ⟨#[]⟩, .bool false, .bool false, .int .u64 0, .int .u64 0, .float .f64 0, .bool false, .bool false, .int .i64 0, .int .u64 0, .int .u64 0, .int .u64 0, .int .u64 0, .int .u64 0, .slice none 0 0, .int .i64 0, .int .i8 0, .int .u8 3, .pointer none, .pointer none]) (m' := [⟨g1, #[.float .f64 0, .int .u64 0, .slice none 0 0, .string ⟨#[]⟩, .bool false, .bool false, .int .u64 0, .int .u64 0, .float .f64 0, .bool false, .bool false, .int .i64 0, .int .u64 0, .int .u64 0, .int .u64 0, .int .u64 0, .int .u64 0, .slice none 0 0, .int .i64 0, .int .i8 0, .int .u8 3, .pointer none, .pointer none], 88, true⟩]) hS (su_uint8 _) (hS.get 11 rfl) rfl rfl (show 20 < 23 from by decide) rfl rfl ?_
 intro w3 hty hS
 replace hS : Sv 28 ((6, pt g1 0) :: (5, .nilIface) :: (4, .pointer none) :: (0, .int .u64 0) :: (1, .int .u64 ((n : Nat) : Int)) :: []) [⟨g1, #[.float .f64 0, .int .u64 0, .slice none 0 0, .string ⟨#[]⟩, .bool false, .bool false, .int .u64 0, .int .u64 0, .float .f64 0, .bool false, .bool false, .int .i64 0, .int .u64 0, .int .u64 0, .int .u64 0, .int .u64 0, .int .u64 0, .slice none 0 0, .int .i64 0, .int .i8 0, .int .u8 3, .pointer none, .pointer none], 88, true⟩] (fun _ => False) w a w3 := hS.pick rfl
 refine nx3 ?_
 refine sv_r (v := pt g1 0) hS (ex_mv (hS.get 6 rfl)) fun a hS => ?_
 refine sv_r (v := .int .u64 ((n : Nat) : Int)) hS (ex_mv (hS.get 1 rfl)) fun a hS => ?_
 refine sv_r (v := pt g1 0) hS (ex_nc (hS.get 12 rfl)) fun a hS => ?_
 refine sv_r (v := pt g1 13) hS (ex_fo (hS.get 14 rfl) fo_m3u8_MediaPlaylist_13 rfl) fun a hS => ?_
 refine sv_st (i := 0) (v := .int .u64 ((n : Nat) : Int)) (cs' := #[.float .f64 0, .int .u64 0, .slice none 0 0, .string ⟨#[]⟩, .bool false, .bool false, .int .u64 0, .int .u64 0, .float .f64 0, .bool false, .bool false, .int .i64 0, .int .u64 0, .int .u64 ((n : Nat) : Int), .int .u64 0, .int .u64 0, .int .u64 0, .slice none 0 0, .int .i64 0, .int .i8 0, .int .u8 3, .pointer none, .pointer none]) (m' := [⟨g1, #[.float .f64 0, .int .u64 0, .slice none 0 0, .string ⟨#[]⟩, .bool false, .bool false, .int .u64 0, .int .u64 0, .float .f64 0, .bool false, .bool false, .int .i64 0, .int .u64 0, .int .u64 ((n : Nat) : Int), .int .u64 0, .int .u64 0, .int .u64 0, .slice none 0 0, .int .i64 0, .int .i8 0, .int .u8 3, .pointer none, .pointer none], 88, true⟩]) hS (su_uint _) (hS.get 15 rfl) (hS.get 13 rfl) rfl (show 13 < 23 from by decide) rfl rfl ?_
 intro w4 hty hS
 refine wpList_nil ?_
 replace hS := hS.cut [6, 5, 4, 0, 1]
 show Code.wp _ _ _ _ _
 refine wp_seq ?_
 refine wp_seq ?_
 refine wp_region_lit ?_
 refine sv_r (v := pt g1 0) hS (ex_mv (hS.get 6 rfl)) fun a hS => ?_
 refine sv_r (v := .int .u64 0) hS (ex_mv (hS.get 0 rfl)) fun a hS => ?_
 have hpq : w4.heap[g1]? = some (.cells (pcs 0 0 0 3 (.slice none 0 0) n 0 0) 88 (0, 0)) := hS.at 0 rfl
 refine sv_callp (i := 0) (v := .nilIface) (m' := [⟨g1, #[.float .f64 0, .int .u64 0, .slice none 0 0, .string ⟨#[]⟩, .bool false, .bool false, .int .u64 0, .int .u64 0, .float .f64 0, .bool false, .bool false, .int .i64 0, .int .u64 0, .int .u64 ((n : Nat) : Int), .int .u64 0, .int .u64 0, .int .u64 0, .slice none 0 0, .int .i64 0, .int .i8 0, .int .u8 3, .pointer none, .pointer none], 88, true⟩]) hS rfl rfl (by decide) (ex_call2 cf_m3u8_MediaPlaylist_SetWinSize (hS.get 16 rfl) (hS.get 17 rfl)) rfl rfl (setWin0 g1 w4 hpq) ?_
 intro a w5 hty hS
 refine sv_r (v := .nilIface) hS (ex_as (hS.get 18 rfl)) fun a hS => ?_
 refine wpList_nil ?_
 replace hS := hS.cut [7, 6, 5, 4, 1]
 show Code.wp _ _ _ _ _
 refine wp_seq ?_
 refine wp_region_lit ?_
 refine sv_r (v := .nilIface) hS (ex_mv (hS.get 7 rfl)) fun a hS => ?_
 refine sv_r (v := .bool false) hS (ex_ine eqi_error (hS.get 19 rfl)) fun a hS => ?_
 replace hS : Sv 28 ((20, .bool false) :: (7, .nilIface) :: (6, pt g1 0) :: (5, .nilIface) :: (4, .pointer none) :: (1, .int .u64 ((n : Nat) : Int)) :: []) [⟨g1, #[.float .f64 0, .int .u64 0, .slice none 0 0, .string ⟨#[]⟩, .bool false, .bool false, .int .u64 0, .int .u64 0, .float .f64 0, .bool false, .bool false, .int .i64 0, .int .u64 0, .int .u64 ((n : Nat) : Int), .int .u64 0, .int .u64 0, .int .u64 0, .slice none 0 0, .int .i64 0, .int .i8 0, .int .u8 3, .pointer none, .pointer none], 88, true⟩] (fun _ => False) w a w5 := hS.pick rfl
 refine nx1 ?_
 refine cond_f (hS.get 20 rfl) ?_
 refine wp_skip ?_
 show Code.wp _ _ _ _ _
 refine wp_seq ?_
 refine wp_region_lit ?_
 refine sv_r (v := pt g1 0) hS (ex_mv (hS.get 6 rfl)) fun a hS => ?_
 refine sv_r (v := .int .u64 ((n : Nat) : Int)) hS (ex_mv (hS.get 1 rfl)) fun a hS => ?_
 refine sv_new (T := 125) (cs := (List.replicate n (.pointer none)).toArray) hS rfl rfl (by decide) (fun g => .slice (some ⟨g, 0, none⟩) n n) (ex_make sli_sl_p_m3u8_MediaSegment (by kernel_rfl) rfl (hS.get 23 rfl) (by omega) (by omega)) ?_
 intro g6 a w7 hg6 hbw7 hwg6 hS
 refine sv_r (v := pt g1 0) hS (ex_nc (hS.get 22 rfl)) fun a hS => ?_
 refine sv_r (v := pt g1 2) hS (ex_fo (hS.get 25 rfl) fo_m3u8_MediaPlaylist_2 rfl) fun a hS => ?_
 refine sv_st (i := 1) (v := .slice (some ⟨g6, 0, none⟩) n n) (cs' := #[.float .f64 0, .int .u64 0, .slice (some ⟨g6, 0, none⟩) n n, .string ⟨#[]⟩, .bool false, .bool false, .int .u64 0, .int .u64 0, .float .f64 0, .bool false, .bool false, .int .i64 0, .int .u64 0, .int .u64 ((n : Nat) : Int), .int .u64 0, .int .u64 0, .int .u64 0, .slice none 0 0, .int .i64 0, .int .i8 0, .int .u8 3, .pointer none, .pointer none]) (m' := [⟨g6, (List.replicate n (.pointer none)).toArray, 125, true⟩, ⟨g1, #[.float .f64 0, .int .u64 0, .slice (some ⟨g6, 0, none⟩) n n, .string ⟨#[]⟩, .bool false, .bool false, .int .u64 0, .int .u64 0, .float .f64 0, .bool false, .bool false, .int .i64 0, .int .u64 0, .int .u64 ((n : Nat) : Int), .int .u64 0, .int .u64 0, .int .u64 0, .slice none 0 0, .int .i64 0, .int .i8 0, .int .u8 3, .pointer none, .pointer none], 88, true⟩]) hS (su_sl_p_m3u8_MediaSegment _ _ _) (hS.get 26 rfl) (hS.get 24 rfl) rfl (show 2 < 23 from by decide) rfl rfl ?_
 intro w8 hty hS
 refine wpList_nil ?_
 replace hS := hS.cut [20, 7, 6, 5, 4, 1]
 show Code.wp _ _ _ _ _
 refine wp_seq ?_
 refine wp_region_lit ?_
 refine sv_r (v := pt g1 0) hS (ex_mv (hS.get 6 rfl)) fun a hS => ?_
 refine sv_r (v := pt g1 0) hS (ex_as (hS.get 27 rfl)) fun a hS => ?_
 refine sv_r (v := .nilIface) hS ex_ac fun a hS => ?_
 refine wpList_nil ?_
 replace hS := hS.cut [5, 4, 20, 7, 6, 1]
 show Code.wp _ _ _ _ _
 refine wp_ret ?_
 try simp only [Exit.inBlock, Exit.then]
 exact ret2_of_ev hS.ev rfl (hS.get 4 rfl) (hS.get 5 rfl) ⟨_, rfl, hS.toBelow, g1, g6, rfl, hg1, hg6, hS.at 1 rfl, hS.at 0 rfl⟩
theorem appSeg {tgt seq disc ver cap dur : Nat} {title uri : ByteArray} (gp gr gz : Nat) (hk : 0 < cap) (hcap : cap ≤ 100000) (hseq : seq < 18446744073709551615) (hfl : (FloatKind.f64.format.order tgt dur == some .lt) = false) (w : World) (hp : w.heap[gp]? = some (.cells (pcs tgt seq disc ver ((.slice (some ⟨gr, 0, none⟩) cap cap)) cap 0 0) 88 (0, 0))) (hr : w.heap[gr]? = some (.cells (List.replicate cap (Value.pointer none)).toArray 125 (0, 0))) (hz : w.heap[gz]? = some (.cells (scs 0 title uri dur) 127 (0, 0))) : Calls Tryz.prog 86 #[pt gp 0, pt gz 0] w fun e w' => e = .returned .nilIface ∧ w'.heap[gp]? = some (.cells (pcs tgt seq disc ver (.slice (some ⟨gr, 0, none⟩) cap cap) cap (1 % cap) 1) 88 (0, 0)) ∧ w'.heap[gr]? = some (.cells ((List.replicate cap (Value.pointer none)).set 0 (pt gz 0)).toArray 125 (0, 0)) ∧ w'.heap[gz]? = some (.cells (scs seq title uri dur) 127 (0, 0)) ∧ Only (fun x => x = gp ∨ x = gr ∨ x = gz) w w' := by
 refine calls_of_ev Tryz.func86 rfl (show 2 ≤ 113 from by decide) ?_
 intro a hE
 have hE : Ev 113 ((0, pt gp 0) :: (1, pt gz 0) :: []) a := hE
 have hS : Sv 113 ((0, pt gp 0) :: (1, pt gz 0) :: []) [] (fun x => x = gp ∨ x = gr ∨ x = gz) w a w := Sv.start hE _ _
 clear hE
 replace hS : Sv 113 ((0, pt gp 0) :: (1, pt gz 0) :: []) [⟨gp, (pcs tgt seq disc ver ((.slice (some ⟨gr, 0, none⟩) cap cap)) cap 0 0), 88, true⟩] (fun x => x = gp ∨ x = gr ∨ x = gz) w a w := (hS.addB hp (by intro b hb; cases hb) (fun _ => .inl (.inl rfl))).pick rfl
 replace hS : Sv 113 ((0, pt gp 0) :: (1, pt gz 0) :: []) [⟨gr, (List.replicate cap (Value.pointer none)).toArray, 125, true⟩, ⟨gp, (pcs tgt seq disc ver ((.slice (some ⟨gr, 0, none⟩) cap cap)) cap 0 0), 88, true⟩] (fun x => x = gp ∨ x = gr ∨ x = gz) w a w := (hS.addB hr (hS.neT hr rfl) (fun _ => .inl (.inr (.inl rfl)))).pick rfl
 replace hS : Sv 113 ((0, pt gp 0) :: (1, pt gz 0) :: []) [⟨gz, (scs 0 title uri dur), 127, true⟩, ⟨gr, (List.replicate cap (Value.pointer none)).toArray, 125, true⟩, ⟨gp, (pcs tgt seq disc ver ((.slice (some ⟨gr, 0, none⟩) cap cap)) cap 0 0), 88, true⟩] (fun x => x = gp ∨ x = gr ∨ x = gz) w a w := (hS.addB hz (hS.neT hz rfl) (fun _ => .inl (.inr (.inr rfl)))).pick rfl
 refine wp_seq ?_
 refine wp_region_lit ?_
 refine sv_r (v := .nilIface) hS ex_ac fun a hS => ?_
 refine wpList_nil ?_
 replace hS := hS.cut [4, 0, 1]
 show Code.wp _ _ _ _ _
 refine wp_seq ?_
 refine wp_seq ?_
 refine wp_region_og1 (n := 113) 8 [Asr.eq (pt gp 0), Asr.eq (pt gp 0), Asr.eq (pt gp 14), Asr.eq (.int .u64 0), Asr.eq (pt gp 0), Asr.eq (pt gp 0), Asr.eq (pt gp 15), Asr.eq (.int .u64 0)] (by kernel_rfl) (by kernel_rfl) (by kernel_rfl) (by simp) (by kernel_rfl) hS.ev.size ⟨⟩ ?_ ?_
 ·simp only [List.take_succ_cons, List.take_zero]
  refine ⟨?_, ?_, ?_, ?_, ?_, ?_, ?_, ?_, trivial⟩
  ·intro a wx c
   have e_0 : a.eval (.tmp 0) = pt gp 0 := c.outE (by decide +kernel) (hS.get 0 rfl)
   clear c
   exact og_val (ex_mv e_0) rfl
  ·intro a wx c
   have e_5 : a.eval (.tmp 5) = pt gp 0 := c.slot 0 _ (by decide +kernel) rfl
   clear c
   exact og_val (ex_nc e_5) rfl
  ·intro a wx c
   have e_6 : a.eval (.tmp 6) = pt gp 0 := c.slot 1 _ (by decide +kernel) rfl
   clear c
   exact og_val (ex_fo e_6 fo_m3u8_MediaPlaylist_14 rfl) rfl
  ·intro a wx c
   have e_7 : a.eval (.tmp 7) = pt gp 14 := c.slot 2 _ (by decide +kernel) rfl
   have hO := hS.ogc c
   clear c
   exact og_val (ex_ld e_7 lt_uint (cell_of_heap (v := .int .u64 0) (hO.at 2 rfl) rfl)) rfl
  ·intro a wx c
   have e_0 : a.eval (.tmp 0) = pt gp 0 := c.outE (by decide +kernel) (hS.get 0 rfl)
   clear c
   exact og_val (ex_mv e_0) rfl
  ·intro a wx c
   have e_9 : a.eval (.tmp 9) = pt gp 0 := c.slot 4 _ (by decide +kernel) rfl
   clear c
   exact og_val (ex_nc e_9) rfl
  ·intro a wx c
   have e_10 : a.eval (.tmp 10) = pt gp 0 := c.slot 5 _ (by decide +kernel) rfl
   clear c
   exact og_val (ex_fo e_10 fo_m3u8_MediaPlaylist_15 rfl) rfl
  ·intro a wx c
   have e_11 : a.eval (.tmp 11) = pt gp 15 := c.slot 6 _ (by decide +kernel) rfl
   have hO := hS.ogc c
   clear c
   exact og_val (ex_ld e_11 lt_uint (cell_of_heap (v := .int .u64 0) (hO.at 2 rfl) rfl)) rfl
 ·intro a w1 c hbw1
  replace hS : Sv 113 ((12, .int .u64 0) :: (8, .int .u64 0) :: (1, pt gz 0) :: (0, pt gp 0) :: (4, .nilIface) :: []) [⟨gz, (scs 0 title uri dur), 127, true⟩, ⟨gr, (List.replicate cap (Value.pointer none)).toArray, 125, true⟩, ⟨gp, (pcs tgt seq disc ver ((.slice (some ⟨gr, 0, none⟩) cap cap)) cap 0 0), 88, true⟩] (fun x => x = gp ∨ x = gr ∨ x = gz) w a w1 := ((((((hS.ogh c).know (c.outE (by decide +kernel) (hS.get 4 rfl))).know (c.outE (by decide +kernel) (hS.get 0 rfl))).know (c.outE (by decide +kernel) (hS.get 1 rfl))).know (c.slot 3 _ (by decide +kernel) rfl)).know (c.slot 7 _ (by decide +kernel) rfl))
  clear c
  simp only [List.drop_succ_cons, List.drop_zero]
  refine sv_r (v := .bool true) hS (ei_eql (hS.get 8 rfl) (hS.get 12 rfl) (by simp)) fun a hS => ?_
  refine sv_r (v := .bool true) hS (ex_mv (hS.get 13 rfl)) fun a hS => ?_
  refine sv_g (v := pt gp 0) hS (hS.get 14 rfl) (ex_mv (hS.get 0 rfl)) fun a hS => ?_
  refine sv_g (v := pt gp 0) hS (hS.get 14 rfl) (ex_nc (hS.get 15 rfl)) fun a hS => ?_
  refine sv_g (v := pt gp 16) hS (hS.get 14 rfl) (ex_fo (hS.get 16 rfl) fo_m3u8_MediaPlaylist_16 rfl) fun a hS => ?_
  refine sv_g (v := .int .u64 0) hS (hS.get 14 rfl) (ex_ld (hS.get 17 rfl) lt_uint (cell_of_heap (v := .int .u64 0) (hS.at 2 rfl) rfl)) fun a hS => ?_
  refine sv_g (v := .bool false) hS (hS.get 14 rfl) (ei_gtr (hS.get 18 rfl) rfl (by simp)) fun a hS => ?_
  refine sv_r (v := .bool false) hS (ex_pickT (hS.get 14 rfl) (hS.get 19 rfl)) fun a hS => ?_
  refine wpList_nil ?_
  replace hS := hS.cut [20, 1, 0, 4]
  show Code.wp _ _ _ _ _
  refine cond_f (hS.get 20 rfl) ?_
  refine wp_skip ?_
  show Code.wp _ _ _ _ _
  refine wp_seq ?_
  refine wp_region_lit ?_
  refine sv_r (v := pt gz 0) hS (ex_mv (hS.get 1 rfl)) fun a hS => ?_
  refine sv_r (v := pt gp 0) hS (ex_mv (hS.get 0 rfl)) fun a hS => ?_
  refine sv_r (v := pt gp 0) hS (ex_nc (hS.get 23 rfl)) fun a hS => ?_
  refine sv_r (v := pt gp 1) hS (ex_fo (hS.get 24 rfl) fo_m3u8_MediaPlaylist_1 rfl) fun a hS => ?_
  refine sv_r (v := .int .u64 ((seq : Nat) : Int)) hS (ex_ld (hS.get 25 rfl) lt_uint64 (cell_of_heap (v := .int .u64 ((seq : Nat) : Int)) (hS.at 2 rfl) rfl)) fun a hS => ?_
  refine sv_r (v := pt gz 0) hS (ex_nc (hS.get 22 rfl)) fun a hS => ?_
  refine sv_r (v := pt gz 0) hS (ex_fo (hS.get 27 rfl) fo_m3u8_MediaSegment_0 rfl) fun a hS => ?_
  refine sv_st (i := 0) (v := .int .u64 ((seq : Nat) : Int)) (cs' := #[.int .u64 ((seq : Nat) : Int), .string title, .string uri, .float .f64 (dur), .int .i64 0, .int .i64 0, .pointer none, .pointer none, .bool false, .pointer none, .string (⟨#[]⟩)]) (m' := [⟨gz, #[.int .u64 ((seq : Nat) : Int), .string title, .string uri, .float .f64 (dur), .int .i64 0, .int .i64 0, .pointer none, .pointer none, .bool false, .pointer none, .string (⟨#[]⟩)], 127, true⟩, ⟨gr, (List.replicate cap (Value.pointer none)).toArray, 125, true⟩, ⟨gp, (pcs tgt seq disc ver ((.slice (some ⟨gr, 0, none⟩) cap cap)) cap 0 0), 88, true⟩]) hS (su_uint64 _) (hS.get 28 rfl) (hS.get 26 rfl) rfl (show 0 < 11 from by decide) rfl rfl ?_
  intro w2 hty hS
  replace hS : Sv 113 ((20, .bool false) :: (1, pt gz 0) :: (0, pt gp 0) :: (4, .nilIface) :: []) [⟨gz, #[.int .u64 ((seq : Nat) : Int), .string title, .string uri, .float .f64 (dur), .int .i64 0, .int .i64 0, .pointer none, .pointer none, .bool false, .pointer none, .string (⟨#[]⟩)], 127, true⟩, ⟨gr, (List.replicate cap (Value.pointer none)).toArray, 125, true⟩, ⟨gp, (pcs tgt seq disc ver ((.slice (some ⟨gr, 0, none⟩) cap cap)) cap 0 0), 88, true⟩] (fun x => x = gp ∨ x = gr ∨ x = gz) w a w2 := hS.pick rfl
  refine nx1 ?_
  refine wp_seq ?_
  refine wp_seq ?_
  refine wp_region_lit ?_
  refine sv_r (v := pt gp 0) hS (ex_mv (hS.get 0 rfl)) fun a hS => ?_
  refine sv_r (v := pt gp 0) hS (ex_nc (hS.get 29 rfl)) fun a hS => ?_
  refine sv_r (v := pt gp 16) hS (ex_fo (hS.get 30 rfl) fo_m3u8_MediaPlaylist_16 rfl) fun a hS => ?_
  refine sv_r (v := .int .u64 0) hS (ex_ld (hS.get 31 rfl) lt_uint (cell_of_heap (v := .int .u64 0) (hS.at 2 rfl) rfl)) fun a hS => ?_
  refine sv_r (v := .bool false) hS (ei_gtr (hS.get 32 rfl) rfl (by simp)) fun a hS => ?_
  refine wpList_nil ?_
  replace hS := hS.cut [33, 20, 1, 0, 4]
  show Code.wp _ _ _ _ _
  refine cond_f (hS.get 33 rfl) ?_
  refine wp_skip ?_
  show Code.wp _ _ _ _ _
  refine wp_seq ?_
  refine wp_region_og1 (n := 113) 9 [Asr.eq (pt gp 0), Asr.eq (pt gp 0), Asr.eq (pt gp 2), Asr.eq (.slice (some ⟨gr, 0, none⟩) cap cap), Asr.eq (pt gp 0), Asr.eq (pt gp 0), Asr.eq (pt gp 15), Asr.eq (.int .u64 0), Asr.eq (pt gz 0)] (by kernel_rfl) (by kernel_rfl) (by kernel_rfl) (by simp) (by kernel_rfl) hS.ev.size ⟨⟩ ?_ ?_
  ·simp only [List.take_succ_cons, List.take_zero]
   refine ⟨?_, ?_, ?_, ?_, ?_, ?_, ?_, ?_, ?_, trivial⟩
   ·intro a wx c
    have e_0 : a.eval (.tmp 0) = pt gp 0 := c.outE (by decide +kernel) (hS.get 0 rfl)
    clear c
    exact og_val (ex_mv e_0) rfl
   ·intro a wx c
    have e_62 : a.eval (.tmp 62) = pt gp 0 := c.slot 0 _ (by decide +kernel) rfl
    clear c
    exact og_val (ex_nc e_62) rfl
   ·intro a wx c
    have e_63 : a.eval (.tmp 63) = pt gp 0 := c.slot 1 _ (by decide +kernel) rfl
    clear c
    exact og_val (ex_fo e_63 fo_m3u8_MediaPlaylist_2 rfl) rfl
   ·intro a wx c
    have e_64 : a.eval (.tmp 64) = pt gp 2 := c.slot 2 _ (by decide +kernel) rfl
    have hO := hS.ogc c
    clear c
    exact og_val (ex_ld e_64 lt_sl_p_m3u8_MediaSegment (cell_of_heap (v := .slice (some ⟨gr, 0, none⟩) cap cap) (hO.at 2 rfl) rfl)) rfl
   ·intro a wx c
    have e_0 : a.eval (.tmp 0) = pt gp 0 := c.outE (by decide +kernel) (hS.get 0 rfl)
    clear c
    exact og_val (ex_mv e_0) rfl
   ·intro a wx c
    have e_66 : a.eval (.tmp 66) = pt gp 0 := c.slot 4 _ (by decide +kernel) rfl
    clear c
    exact og_val (ex_nc e_66) rfl
   ·intro a wx c
    have e_67 : a.eval (.tmp 67) = pt gp 0 := c.slot 5 _ (by decide +kernel) rfl
    clear c
    exact og_val (ex_fo e_67 fo_m3u8_MediaPlaylist_15 rfl) rfl
   ·intro a wx c
    have e_68 : a.eval (.tmp 68) = pt gp 15 := c.slot 6 _ (by decide +kernel) rfl
    have hO := hS.ogc c
    clear c
    exact og_val (ex_ld e_68 lt_uint (cell_of_heap (v := .int .u64 0) (hO.at 2 rfl) rfl)) rfl
   ·intro a wx c
    have e_1 : a.eval (.tmp 1) = pt gz 0 := c.outE (by decide +kernel) (hS.get 1 rfl)
    clear c
    exact og_val (ex_mv e_1) rfl
  ·intro a w3 c hbw3
   replace hS : Sv 113 ((70, pt gz 0) :: (69, .int .u64 0) :: (65, .slice (some ⟨gr, 0, none⟩) cap cap) :: (4, .nilIface) :: (0, pt gp 0) :: (1, pt gz 0) :: (20, .bool false) :: (33, .bool false) :: []) [⟨gz, #[.int .u64 ((seq : Nat) : Int), .string title, .string uri, .float .f64 (dur), .int .i64 0, .int .i64 0, .pointer none, .pointer none, .bool false, .pointer none, .string (⟨#[]⟩)], 127, true⟩, ⟨gr, (List.replicate cap (Value.pointer none)).toArray, 125, true⟩, ⟨gp, (pcs tgt seq disc ver ((.slice (some ⟨gr, 0, none⟩) cap cap)) cap 0 0), 88, true⟩] (fun x => x = gp ∨ x = gr ∨ x = gz) w a w3 := (((((((((hS.ogh c).know (c.outE (by decide +kernel) (hS.get 33 rfl))).know (c.outE (by decide +kernel) (hS.get 20 rfl))).know (c.outE (by decide +kernel) (hS.get 1 rfl))).know (c.outE (by decide +kernel) (hS.get 0 rfl))).know (c.outE (by decide +kernel) (hS.get 4 rfl))).know (c.slot 3 _ (by decide +kernel) rfl)).know (c.slot 7 _ (by decide +kernel) rfl)).know (c.slot 8 _ (by decide +kernel) rfl))
   clear c
   simp only [List.drop_succ_cons, List.drop_zero]
   refine sv_r (v := pt gr 0) hS (ex_ia1 (E := 125) (i := 0) Tryz.underlying79 Tryz.sizeOf125 (hS.get 65 rfl) (hS.get 69 rfl) (by omega)) fun a hS => ?_
   refine sv_st (i := 1) (v := pt gz 0) (m' := [⟨gz, #[.int .u64 ((seq : Nat) : Int), .string title, .string uri, .float .f64 (dur), .int .i64 0, .int .i64 0, .pointer none, .pointer none, .bool false, .pointer none, .string (⟨#[]⟩)], 127, true⟩, ⟨gr, ((List.replicate cap (Value.pointer none)).set 0 (pt gz 0)).toArray, 125, true⟩, ⟨gp, (pcs tgt seq disc ver ((.slice (some ⟨gr, 0, none⟩) cap cap)) cap 0 0), 88, true⟩]) hS (su_p_m3u8_MediaSegment _) (hS.get 71 rfl) (hS.get 70 rfl) rfl (by rw [List.size_toArray, List.length_replicate]; omega) rfl (by rw [List.setIfInBounds_toArray]) ?_
   intro w4 hty hS
   refine wpList_nil ?_
   replace hS := hS.cut [4, 0, 1, 20, 33]
   show Code.wp _ _ _ _ _
   refine wp_seq ?_
   refine wp_region_og1 (n := 113) 11 [Asr.eq (pt gp 0), Asr.eq (pt gp 0), Asr.eq (pt gp 0), Asr.eq (pt gp 15), Asr.eq (.int .u64 0), Asr.eq (.int .u64 1), Asr.eq (pt gp 0), Asr.eq (pt gp 0), Asr.eq (pt gp 13), Asr.eq (.int .u64 ((cap : Nat) : Int)), Asr.eq (.int .u64 ((1 % cap : Nat) : Int))] (by kernel_rfl) (by kernel_rfl) (by kernel_rfl) (by simp) (by kernel_rfl) hS.ev.size ⟨⟩ ?_ ?_
   ·simp only [List.take_succ_cons, List.take_zero]
    refine ⟨?_, ?_, ?_, ?_, ?_, ?_, ?_, ?_, ?_, ?_, ?_, trivial⟩
    ·intro a wx c
     have e_0 : a.eval (.tmp 0) = pt gp 0 := c.outE (by decide +kernel) (hS.get 0 rfl)
     clear c
     exact og_val (ex_mv e_0) rfl
    ·intro a wx c
     have e_0 : a.eval (.tmp 0) = pt gp 0 := c.outE (by decide +kernel) (hS.get 0 rfl)
     clear c
     exact og_val (ex_mv e_0) rfl
    ·intro a wx c
     have e_73 : a.eval (.tmp 73) = pt gp 0 := c.slot 1 _ (by decide +kernel) rfl
     clear c
     exact og_val (ex_nc e_73) rfl
    ·intro a wx c
     have e_74 : a.eval (.tmp 74) = pt gp 0 := c.slot 2 _ (by decide +kernel) rfl
     clear c
     exact og_val (ex_fo e_74 fo_m3u8_MediaPlaylist_15 rfl) rfl
    ·intro a wx c
     have e_75 : a.eval (.tmp 75) = pt gp 15 := c.slot 3 _ (by decide +kernel) rfl
     have hO := hS.ogc c
     clear c
     exact og_val (ex_ld e_75 lt_uint (cell_of_heap (v := .int .u64 0) (hO.at 2 rfl) rfl)) rfl
    ·intro a wx c
     have e_76 : a.eval (.tmp 76) = .int .u64 0 := c.slot 4 _ (by decide +kernel) rfl
     clear c
     exact og_val (v := .int .u64 1) (ei_add e_76 rfl (by rw [IntKind.wrap_u64]; omega)) rfl
    ·intro a wx c
     have e_0 : a.eval (.tmp 0) = pt gp 0 := c.outE (by decide +kernel) (hS.get 0 rfl)
     clear c
     exact og_val (ex_mv e_0) rfl
    ·intro a wx c
     have e_78 : a.eval (.tmp 78) = pt gp 0 := c.slot 6 _ (by decide +kernel) rfl
     clear c
     exact og_val (ex_nc e_78) rfl
    ·intro a wx c
     have e_79 : a.eval (.tmp 79) = pt gp 0 := c.slot 7 _ (by decide +kernel) rfl
     clear c
     exact og_val (ex_fo e_79 fo_m3u8_MediaPlaylist_13 rfl) rfl
    ·intro a wx c
     have e_80 : a.eval (.tmp 80) = pt gp 13 := c.slot 8 _ (by decide +kernel) rfl
     have hO := hS.ogc c
     clear c
     exact og_val (ex_ld e_80 lt_uint (cell_of_heap (v := .int .u64 ((cap : Nat) : Int)) (hO.at 2 rfl) rfl)) rfl
    ·intro a wx c
     have e_77 : a.eval (.tmp 77) = .int .u64 1 := c.slot 5 _ (by decide +kernel) rfl
     have e_81 : a.eval (.tmp 81) = .int .u64 ((cap : Nat) : Int) := c.slot 9 _ (by decide +kernel) rfl
     clear c
     exact og_val (v := .int .u64 ((1 % cap : Nat) : Int)) (ni_rem cap e_77 e_81 (by omega)) rfl
   ·intro a w5 c hbw5
    replace hS : Sv 113 ((82, .int .u64 ((1 % cap : Nat) : Int)) :: (72, pt gp 0) :: (33, .bool false) :: (20, .bool false) :: (1, pt gz 0) :: (0, pt gp 0) :: (4, .nilIface) :: []) [⟨gz, #[.int .u64 ((seq : Nat) : Int), .string title, .string uri, .float .f64 (dur), .int .i64 0, .int .i64 0, .pointer none, .pointer none, .bool false, .pointer none, .string (⟨#[]⟩)], 127, true⟩, ⟨gr, ((List.replicate cap (Value.pointer none)).set 0 (pt gz 0)).toArray, 125, true⟩, ⟨gp, (pcs tgt seq disc ver ((.slice (some ⟨gr, 0, none⟩) cap cap)) cap 0 0), 88, true⟩] (fun x => x = gp ∨ x = gr ∨ x = gz) w a w5 := ((((((((hS.ogh c).know (c.outE (by decide +kernel) (hS.get 4 rfl))).know (c.outE (by decide +kernel) (hS.get 0 rfl))).know (c.outE (by decide +kernel) (hS.get 1 rfl))).know (c.outE (by decide +kernel) (hS.get 20 rfl))).know (c.outE (by decide +kernel) (hS.get 33 rfl))).know (c.slot 0 _ (by decide +kernel) rfl)).know (c.slot 10 _ (by decide +kernel) rfl))
    clear c
    simp only [List.drop_succ_cons, List.drop_zero]
    refine sv_r (v := pt gp 0) hS (ex_nc (hS.get 72 rfl)) fun a hS => ?_
    refine sv_r (v := pt gp 15) hS (ex_fo (hS.get 83 rfl) fo_m3u8_MediaPlaylist_15 rfl) fun a hS => ?_
    refine sv_st (i := 2) (v := .int .u64 ((1 % cap : Nat) : Int)) (cs' := #[.float .f64 (tgt), .int .u64 ((seq : Nat) : Int), .slice (some ⟨gr, 0, none⟩) cap cap, .string (⟨#[]⟩), .bool false, .bool false, .int .u64 0, .int .u64 ((disc : Nat) : Int), .float .f64 0, .bool false, .bool false, .int .i64 0, .int .u64 0, .int .u64 ((cap : Nat) : Int), .int .u64 0, .int .u64 ((1 % cap : Nat) : Int), .int .u64 0, .slice none 0 0, .int .i64 0, .int .i8 0, .int .u8 ((ver : Nat) : Int), .pointer none, .pointer none]) (m' := [⟨gz, #[.int .u64 ((seq : Nat) : Int), .string title, .string uri, .float .f64 (dur), .int .i64 0, .int .i64 0, .pointer none, .pointer none, .bool false, .pointer none, .string (⟨#[]⟩)], 127, true⟩, ⟨gr, ((List.replicate cap (Value.pointer none)).set 0 (pt gz 0)).toArray, 125, true⟩, ⟨gp, #[.float .f64 (tgt), .int .u64 ((seq : Nat) : Int), .slice (some ⟨gr, 0, none⟩) cap cap, .string (⟨#[]⟩), .bool false, .bool false, .int .u64 0, .int .u64 ((disc : Nat) : Int), .float .f64 0, .bool false, .bool false, .int .i64 0, .int .u64 0, .int .u64 ((cap : Nat) : Int), .int .u64 0, .int .u64 ((1 % cap : Nat) : Int), .int .u64 0, .slice none 0 0, .int .i64 0, .int .i8 0, .int .u8 ((ver : Nat) : Int), .pointer none, .pointer none], 88, true⟩]) hS (su_uint _) (hS.get 84 rfl) (hS.get 82 rfl) rfl (show 15 < 23 from by decide) rfl rfl ?_
    intro w6 hty hS
    replace hS : Sv 113 ((33, .bool false) :: (20, .bool false) :: (1, pt gz 0) :: (0, pt gp 0) :: (4, .nilIface) :: []) [⟨gz, #[.int .u64 ((seq : Nat) : Int), .string title, .string uri, .float .f64 (dur), .int .i64 0, .int .i64 0, .pointer none, .pointer none, .bool false, .pointer none, .string (⟨#[]⟩)], 127, true⟩, ⟨gr, ((List.replicate cap (Value.pointer none)).set 0 (pt gz 0)).toArray, 125, true⟩, ⟨gp, #[.float .f64 (tgt), .int .u64 ((seq : Nat) : Int), .slice (some ⟨gr, 0, none⟩) cap cap, .string (⟨#[]⟩), .bool false, .bool false, .int .u64 0, .int .u64 ((disc : Nat) : Int), .float .f64 0, .bool false, .bool false, .int .i64 0, .int .u64 0, .int .u64 ((cap : Nat) : Int), .int .u64 0, .int .u64 ((1 % cap : Nat) : Int), .int .u64 0, .slice none 0 0, .int .i64 0, .int .i8 0, .int .u8 ((ver : Nat) : Int), .pointer none, .pointer none], 88, true⟩] (fun x => x = gp ∨ x = gr ∨ x = gz) w a w6 := hS.pick rfl
    refine nx3 ?_
    refine sv_r (v := pt gp 0) hS (ex_mv (hS.get 0 rfl)) fun a hS => ?_
    refine sv_r (v := pt gp 0) hS (ex_nc (hS.get 85 rfl)) fun a hS => ?_
    refine sv_r (v := pt gp 16) hS (ex_fo (hS.get 86 rfl) fo_m3u8_MediaPlaylist_16 rfl) fun a hS => ?_
    refine sv_r (v := .int .u64 0) hS (ex_ld (hS.get 87 rfl) lt_uint (cell_of_heap (v := .int .u64 0) (hS.at 2 rfl) rfl)) fun a hS => ?_
    refine sv_r (v := .int .u64 1) hS (ei_add (hS.get 88 rfl) rfl (by rw [IntKind.wrap_u64]; omega)) fun a hS => ?_
    refine sv_r (v := pt gp 0) hS (ex_nc (hS.get 85 rfl)) fun a hS => ?_
    refine sv_r (v := pt gp 16) hS (ex_fo (hS.get 90 rfl) fo_m3u8_MediaPlaylist_16 rfl) fun a hS => ?_
    refine sv_st (i := 2) (v := .int .u64 1) (cs' := #[.float .f64 (tgt), .int .u64 ((seq : Nat) : Int), .slice (some ⟨gr, 0, none⟩) cap cap, .string (⟨#[]⟩), .bool false, .bool false, .int .u64 0, .int .u64 ((disc : Nat) : Int), .float .f64 0, .bool false, .bool false, .int .i64 0, .int .u64 0, .int .u64 ((cap : Nat) : Int), .int .u64 0, .int .u64 ((1 % cap : Nat) : Int), .int .u64 1, .slice none 0 0, .int .i64 0, .int .i8 0, .int .u8 ((ver : Nat) : Int), .pointer none, .pointer none]) (m' := [⟨gz, #[.int .u64 ((seq : Nat) : Int), .string title, .string uri, .float .f64 (dur), .int .i64 0, .int .i64 0, .pointer none, .pointer none, .bool false, .pointer none, .string (⟨#[]⟩)], 127, true⟩, ⟨gr, ((List.replicate cap (Value.pointer none)).set 0 (pt gz 0)).toArray, 125, true⟩, ⟨gp, #[.float .f64 (tgt), .int .u64 ((seq : Nat) : Int), .slice (some ⟨gr, 0, none⟩) cap cap, .string (⟨#[]⟩), .bool false, .bool false, .int .u64 0, .int .u64 ((disc : Nat) : Int), .float .f64 0, .bool false, .bool false, .int .i64 0, .int .u64 0, .int .u64 ((cap : Nat) : Int), .int .u64 0, .int .u64 ((1 % cap : Nat) : Int), .int .u64 1, .slice none 0 0, .int .i64 0, .int .i8 0, .int .u8 ((ver : Nat) : Int), .pointer none, .pointer none], 88, true⟩]) hS (su_uint _) (hS.get 91 rfl) (hS.get 89 rfl) rfl (show 16 < 23 from by decide) rfl rfl ?_
    intro w7 hty hS
    refine wpList_nil ?_
    replace hS := hS.cut [33, 20, 1, 0, 4]
    show Code.wp _ _ _ _ _
    refine wp_seq ?_
    refine wp_seq ?_
    refine wp_region_og1 (n := 113) 8 [Asr.eq (pt gp 0), Asr.eq (pt gp 0), Asr.eq (pt gp 0), Asr.eq (.float .f64 (tgt)), Asr.eq (pt gz 0), Asr.eq (pt gz 0), Asr.eq (pt gz 3), Asr.eq (.float .f64 (dur))] (by kernel_rfl) (by kernel_rfl) (by kernel_rfl) (by simp) (by kernel_rfl) hS.ev.size ⟨⟩ ?_ ?_
    ·simp only [List.take_succ_cons, List.take_zero]
     refine ⟨?_, ?_, ?_, ?_, ?_, ?_, ?_, ?_, trivial⟩
     ·intro a wx c
      have e_0 : a.eval (.tmp 0) = pt gp 0 := c.outE (by decide +kernel) (hS.get 0 rfl)
      clear c
      exact og_val (ex_mv e_0) rfl
     ·intro a wx c
      have e_92 : a.eval (.tmp 92) = pt gp 0 := c.slot 0 _ (by decide +kernel) rfl
      clear c
      exact og_val (ex_nc e_92) rfl
     ·intro a wx c
      have e_93 : a.eval (.tmp 93) = pt gp 0 := c.slot 1 _ (by decide +kernel) rfl
      clear c
      exact og_val (ex_fo e_93 fo_m3u8_MediaPlaylist_0 rfl) rfl
     ·intro a wx c
      have e_94 : a.eval (.tmp 94) = pt gp 0 := c.slot 2 _ (by decide +kernel) rfl
      have hO := hS.ogc c
      clear c
      exact og_val (ex_ld e_94 lt_float64 (cell_of_heap (v := .float .f64 (tgt)) (hO.at 2 rfl) rfl)) rfl
     ·intro a wx c
      have e_1 : a.eval (.tmp 1) = pt gz 0 := c.outE (by decide +kernel) (hS.get 1 rfl)
      clear c
      exact og_val (ex_mv e_1) rfl
     ·intro a wx c
      have e_96 : a.eval (.tmp 96) = pt gz 0 := c.slot 4 _ (by decide +kernel) rfl
      clear c
      exact og_val (ex_nc e_96) rfl
     ·intro a wx c
      have e_97 : a.eval (.tmp 97) = pt gz 0 := c.slot 5 _ (by decide +kernel) rfl
      clear c
      exact og_val (ex_fo e_97 fo_m3u8_MediaSegment_3 rfl) rfl
     ·intro a wx c
      have e_98 : a.eval (.tmp 98) = pt gz 3 := c.slot 6 _ (by decide +kernel) rfl
      have hO := hS.ogc c
      clear c
      exact og_val (ex_ld e_98 lt_float64 (cell_of_heap (v := .float .f64 (dur)) (hO.at 0 rfl) rfl)) rfl
    ·intro a w8 c hbw8
     replace hS : Sv 113 ((99, .float .f64 (dur)) :: (95, .float .f64 (tgt)) :: (4, .nilIface) :: (0, pt gp 0) :: (1, pt gz 0) :: (20, .bool false) :: (33, .bool false) :: []) [⟨gz, #[.int .u64 ((seq : Nat) : Int), .string title, .string uri, .float .f64 (dur), .int .i64 0, .int .i64 0, .pointer none, .pointer none, .bool false, .pointer none, .string (⟨#[]⟩)], 127, true⟩, ⟨gr, ((List.replicate cap (Value.pointer none)).set 0 (pt gz 0)).toArray, 125, true⟩, ⟨gp, #[.float .f64 (tgt), .int .u64 ((seq : Nat) : Int), .slice (some ⟨gr, 0, none⟩) cap cap, .string (⟨#[]⟩), .bool false, .bool false, .int .u64 0, .int .u64 ((disc : Nat) : Int), .float .f64 0, .bool false, .bool false, .int .i64 0, .int .u64 0, .int .u64 ((cap : Nat) : Int), .int .u64 0, .int .u64 ((1 % cap : Nat) : Int), .int .u64 1, .slice none 0 0, .int .i64 0, .int .i8 0, .int .u8 ((ver : Nat) : Int), .pointer none, .pointer none], 88, true⟩] (fun x => x = gp ∨ x = gr ∨ x = gz) w a w8 := ((((((((hS.ogh c).know (c.outE (by decide +kernel) (hS.get 33 rfl))).know (c.outE (by decide +kernel) (hS.get 20 rfl))).know (c.outE (by decide +kernel) (hS.get 1 rfl))).know (c.outE (by decide +kernel) (hS.get 0 rfl))).know (c.outE (by decide +kernel) (hS.get 4 rfl))).know (c.slot 3 _ (by decide +kernel) rfl)).know (c.slot 7 _ (by decide +kernel) rfl))
     clear c
     simp only [List.drop_succ_cons, List.drop_zero]
     refine sv_r (v := .bool false) hS (ef_lss (hS.get 95 rfl) (hS.get 99 rfl) (by exact hfl)) fun a hS => ?_
     refine wpList_nil ?_
     replace hS := hS.cut [100, 4, 0, 1, 20, 33]
     show Code.wp _ _ _ _ _
     refine cond_f (hS.get 100 rfl) ?_
     refine wp_skip ?_
     show Code.wp _ _ _ _ _
     refine wp_seq ?_
     refine wp_region_lit ?_
     refine sv_r (v := pt gp 0) hS (ex_mv (hS.get 0 rfl)) fun a hS => ?_
     refine sv_r (v := pt gp 0) hS (ex_nc (hS.get 109 rfl)) fun a hS => ?_
     refine sv_r (v := pt gp 17) hS (ex_fo (hS.get 110 rfl) fo_m3u8_MediaPlaylist_17 rfl) fun a hS => ?_
     have hpq : w8.heap[gp]? = some (.cells (pcs tgt seq disc ver (.slice (some ⟨gr, 0, none⟩) cap cap) cap (1 % cap) 1) 88 (0, 0)) := hS.at 2 rfl
     refine sv_callp (i := 2) (v := .tuple #[]) (m' := [⟨gz, #[.int .u64 ((seq : Nat) : Int), .string title, .string uri, .float .f64 (dur), .int .i64 0, .int .i64 0, .pointer none, .pointer none, .bool false, .pointer none, .string (⟨#[]⟩)], 127, true⟩, ⟨gr, ((List.replicate cap (Value.pointer none)).set 0 (pt gz 0)).toArray, 125, true⟩, ⟨gp, (pcs tgt seq disc ver (.slice (some ⟨gr, 0, none⟩) cap cap) cap (1 % cap) 1), 88, true⟩]) hS rfl rfl (by decide) (ex_call1 cf_bytes_Buffer_Reset (hS.get 111 rfl)) rfl rfl (reset0 gp w8 hpq) ?_
     intro a w9 hty hS
     replace hS : Sv 113 ((100, .bool false) :: (4, .nilIface) :: (0, pt gp 0) :: (1, pt gz 0) :: (20, .bool false) :: (33, .bool false) :: []) [⟨gz, #[.int .u64 ((seq : Nat) : Int), .string title, .string uri, .float .f64 (dur), .int .i64 0, .int .i64 0, .pointer none, .pointer none, .bool false, .pointer none, .string (⟨#[]⟩)], 127, true⟩, ⟨gr, ((List.replicate cap (Value.pointer none)).set 0 (pt gz 0)).toArray, 125, true⟩, ⟨gp, (pcs tgt seq disc ver (.slice (some ⟨gr, 0, none⟩) cap cap) cap (1 % cap) 1), 88, true⟩] (fun x => x = gp ∨ x = gr ∨ x = gz) w a w9 := hS.pick rfl
     refine nx3 ?_
     refine sv_r (v := .nilIface) hS ex_ac fun a hS => ?_
     refine wpList_nil ?_
     replace hS := hS.cut [4, 100, 0, 1, 20, 33]
     show Code.wp _ _ _ _ _
     refine wp_ret ?_
     try simp only [Exit.inBlock, Exit.then]
     exact ret_of_ev hS.ev rfl (hS.get 4 rfl) ⟨rfl, hS.at 2 rfl, hS.at 1 rfl, hS.at 0 rfl, hS.only⟩
theorem append0 {tgt seq disc ver cap dur : Nat} {title uri : ByteArray} (gp gr : Nat) (hk : 0 < cap) (hcap : cap ≤ 100000) (hseq : seq < 18446744073709551615) (hfl : (FloatKind.f64.format.order tgt dur == some .lt) = false) (w : World) (hp : w.heap[gp]? = some (.cells (pcs tgt seq disc ver ((.slice (some ⟨gr, 0, none⟩) cap cap)) cap 0 0) 88 (0, 0))) (hr : w.heap[gr]? = some (.cells (List.replicate cap (Value.pointer none)).toArray 125 (0, 0))) : Calls Tryz.prog 61 #[pt gp 0, .string uri, .float .f64 dur, .string title] w fun e w' => e = .returned .nilIface ∧ Only (fun x => x = gp ∨ x = gr) w w' ∧ w'.heap[gp]? = some (.cells (pcs tgt seq disc ver (.slice (some ⟨gr, 0, none⟩) cap cap) cap (1 % cap) 1) 88 (0, 0)) ∧ ∃ sg, w.heap.size ≤ sg ∧ w'.heap[gr]? = some (.cells ((List.replicate cap (Value.pointer none)).set 0 (pt sg 0)).toArray 125 (0, 0)) ∧ w'.heap[sg]? = some (.cells (scs seq title uri dur) 127 (0, 0)) := by
 refine calls_of_ev Tryz.func61 rfl (show 4 ≤ 26 from by decide) ?_
 intro a hE
 have hE : Ev 26 ((0, pt gp 0) :: (1, .string uri) :: (2, .float .f64 (dur)) :: (3, .string title) :: []) a := hE
 have hS : Sv 26 ((0, pt gp 0) :: (1, .string uri) :: (2, .float .f64 (dur)) :: (3, .string title) :: []) [] (fun x => x = gp ∨ x = gr) w a w := Sv.start hE _ _
 clear hE
 replace hS : Sv 26 ((0, pt gp 0) :: (1, .string uri) :: (2, .float .f64 (dur)) :: (3, .string title) :: []) [⟨gp, (pcs tgt seq disc ver ((.slice (some ⟨gr, 0, none⟩) cap cap)) cap 0 0), 88, true⟩] (fun x => x = gp ∨ x = gr) w a w := (hS.addB hp (by intro b hb; cases hb) (fun _ => .inl (.inl rfl))).pick rfl
 replace hS : Sv 26 ((0, pt gp 0) :: (1, .string uri) :: (2, .float .f64 (dur)) :: (3, .string title) :: []) [⟨gr, (List.replicate cap (Value.pointer none)).toArray, 125, true⟩, ⟨gp, (pcs tgt seq disc ver ((.slice (some ⟨gr, 0, none⟩) cap cap)) cap 0 0), 88, true⟩] (fun x => x = gp ∨ x = gr) w a w := (hS.addB hr (hS.neT hr rfl) (fun _ => .inl (.inr rfl))).pick rfl
 refine wp_seq ?_
 refine wp_region_lit ?_
 refine sv_r (v := .nilIface) hS ex_ac fun a hS => ?_
 refine wpList_nil ?_
 replace hS := hS.cut [8, 0, 1, 2, 3]
 show Code.wp _ _ _ _ _
 refine wp_seq ?_
 refine wp_region_lit ?_
 refine sv_al hS al_m3u8_MediaSegment (by decide) ?_
 intro g1 a w2 hg1 hbw2 hwg1 hS
 refine sv_r (v := pt g1 0) hS (ex_as (hS.get 10 rfl)) fun a hS => ?_
 refine wpList_nil ?_
 replace hS := hS.cut [9, 8, 0, 1, 2, 3]
 show Code.wp _ _ _ _ _
 refine wp_seq ?_
 refine wp_region_lit ?_
 refine sv_r (v := pt g1 0) hS (ex_mv (hS.get 9 rfl)) fun a hS => ?_
 refine sv_r (v := .string uri) hS (ex_mv (hS.get 1 rfl)) fun a hS => ?_
 refine sv_r (v := pt g1 0) hS (ex_nc (hS.get 11 rfl)) fun a hS => ?_
 refine sv_r (v := pt g1 2) hS (ex_fo (hS.get 13 rfl) fo_m3u8_MediaSegment_2 rfl) fun a hS => ?_
 refine sv_st (i := 0) (v := .string uri) (cs' := #[.int .u64 0, .string ⟨#[]⟩, .string uri, .float .f64 0, .int .i64 0, .int .i64 0, .pointer none, .pointer none, .bool false, .pointer none, .string ⟨#[]⟩]) (m' := [⟨g1, #[.int .u64 0, .string ⟨#[]⟩, .string uri, .float .f64 0, .int .i64 0, .int .i64 0, .pointer none, .pointer none, .bool false, .pointer none, .string ⟨#[]⟩], 127, true⟩, ⟨gr, (List.replicate cap (Value.pointer none)).toArray, 125, true⟩, ⟨gp, (pcs tgt seq disc ver ((.slice (some ⟨gr, 0, none⟩) cap cap)) cap 0 0), 88, true⟩]) hS (su_string _) (hS.get 14 rfl) (hS.get 12 rfl) rfl (show 2 < 11 from by decide) rfl rfl ?_
 intro w3 hty hS
 replace hS : Sv 26 ((9, pt g1 0) :: (8, .nilIface) :: (0, pt gp 0) :: (2, .float .f64 (dur)) :: (3, .string title) :: []) [⟨g1, #[.int .u64 0, .string ⟨#[]⟩, .string uri, .float .f64 0, .int .i64 0, .int .i64 0, .pointer none, .pointer none, .bool false, .pointer none, .string ⟨#[]⟩], 127, true⟩, ⟨gr, (List.replicate cap (Value.pointer none)).toArray, 125, true⟩, ⟨gp, (pcs tgt seq disc ver ((.slice (some ⟨gr, 0, none⟩) cap cap)) cap 0 0), 88, true⟩] (fun x => x = gp ∨ x = gr) w a w3 := hS.pick rfl
 refine nx3 ?_
 refine sv_r (v := pt g1 0) hS (ex_mv (hS.get 9 rfl)) fun a hS => ?_
 refine sv_r (v := .float .f64 (dur)) hS (ex_mv (hS.get 2 rfl)) fun a hS => ?_
 refine sv_r (v := pt g1 0) hS (ex_nc (hS.get 15 rfl)) fun a hS => ?_
 refine sv_r (v := pt g1 3) hS (ex_fo (hS.get 17 rfl) fo_m3u8_MediaSegment_3 rfl) fun a hS => ?_
 refine sv_st (i := 0) (v := .float .f64 (dur)) (cs' := #[.int .u64 0, .string ⟨#[]⟩, .string uri, .float .f64 (dur), .int .i64 0, .int .i64 0, .pointer none, .pointer none, .bool false, .pointer none, .string ⟨#[]⟩]) (m' := [⟨g1, #[.int .u64 0, .string ⟨#[]⟩, .string uri, .float .f64 (dur), .int .i64 0, .int .i64 0, .pointer none, .pointer none, .bool false, .pointer none, .string ⟨#[]⟩], 127, true⟩, ⟨gr, (List.replicate cap (Value.pointer none)).toArray, 125, true⟩, ⟨gp, (pcs tgt seq disc ver ((.slice (some ⟨gr, 0, none⟩) cap cap)) cap 0 0), 88, true⟩]) hS (su_float64 _) (hS.get 18 rfl) (hS.get 16 rfl) rfl (show 3 < 11 from by decide) rfl rfl ?_
 intro w4 hty hS
 refine wpList_nil ?_
 replace hS := hS.cut [9, 8, 0, 3]
 show Code.wp _ _ _ _ _
 refine wp_seq ?_
 refine wp_region_lit ?_
 refine sv_r (v := pt g1 0) hS (ex_mv (hS.get 9 rfl)) fun a hS => ?_
 refine sv_r (v := .string title) hS (ex_mv (hS.get 3 rfl)) fun a hS => ?_
 refine sv_r (v := pt g1 0) hS (ex_nc (hS.get 19 rfl)) fun a hS => ?_
 refine sv_r (v := pt g1 1) hS (ex_fo (hS.get 21 rfl) fo_m3u8_MediaSegment_1 rfl) fun a hS => ?_
 refine sv_st (i := 0) (v := .string title) (cs' := #[.int .u64 0, .string title, .string uri, .float .f64 (dur), .int .i64 0, .int .i64 0, .pointer none, .pointer none, .bool false, .pointer none, .string ⟨#[]⟩]) (m' := [⟨g1, #[.int .u64 0, .string title, .string uri, .float .f64 (dur), .int .i64 0, .int .i64 0, .pointer none, .pointer none, .bool false, .pointer none, .string ⟨#[]⟩], 127, true⟩, ⟨gr, (List.replicate cap (Value.pointer none)).toArray, 125, true⟩, ⟨gp, (pcs tgt seq disc ver ((.slice (some ⟨gr, 0, none⟩) cap cap)) cap 0 0), 88, true⟩]) hS (su_string _) (hS.get 22 rfl) (hS.get 20 rfl) rfl (show 1 < 11 from by decide) rfl rfl ?_
 intro w5 hty hS
 refine wpList_nil ?_
 replace hS := hS.cut [9, 8, 0]
 show Code.wp _ _ _ _ _
 refine wp_seq ?_
 refine wp_region_lit ?_
 refine sv_r (v := pt gp 0) hS (ex_mv (hS.get 0 rfl)) fun a hS => ?_
 refine sv_r (v := pt g1 0) hS (ex_mv (hS.get 9 rfl)) fun a hS => ?_
 have hgz := hS.at 0 rfl
 have hgp1 := hS.at 2 rfl
 have hgr1 := hS.at 1 rfl
 have hgz0 : w.heap.size ≤ g1 := hg1
 replace hS : Sv 26 ((24, pt g1 0) :: (23, pt gp 0) :: (9, pt g1 0) :: (8, .nilIface) :: (0, pt gp 0) :: []) [] (fun x => x = gp ∨ x = gr) w a w5 := (hS.mask [false, false, false]).pick rfl
 refine sv_callo (X := fun x => x = gp ∨ x = gr ∨ x = g1) (S := fun v w' => v = .nilIface ∧ w'.heap[gp]? = some (.cells (pcs tgt seq disc ver (.slice (some ⟨gr, 0, none⟩) cap cap) cap (1 % cap) 1) 88 (0, 0)) ∧ w'.heap[gr]? = some (.cells ((List.replicate cap (Value.pointer none)).set 0 (pt g1 0)).toArray 125 (0, 0)) ∧ w'.heap[g1]? = some (.cells (scs seq title uri dur) 127 (0, 0))) hS rfl rfl (by decide) (ex_call2 cf_m3u8_MediaPlaylist_AppendSegment (hS.get 23 rfl) (hS.get 24 rfl)) (Calls.mono (appSeg gp gr g1 hk hcap hseq hfl  _ hgp1 hgr1 hgz) fun e w' ⟨h1, h2, h3, h4, h5⟩ => ⟨_, h1, h5, rfl, h2, h3, h4⟩) (by intro b hb; cases hb) (fun q hq hlt => by rcases hq with rfl | rfl | rfl; (· exact .inl rfl); (· exact .inr rfl); (· omega)) ?_
 rintro a _ w6 ⟨rfl, k1, k2, k3⟩ hO2 hS
 refine sv_r (v := .nilIface) hS (ex_as (hS.get 25 rfl)) fun a hS => ?_
 replace hS : Sv 26 ((8, .nilIface) :: (9, pt g1 0) :: []) [] (fun x => x = gp ∨ x = gr) w a w6 := hS.pick rfl
 refine nx1 ?_
 refine wp_ret ?_
 try simp only [Exit.inBlock, Exit.then]
 exact ret_of_ev hS.ev rfl (hS.get 8 rfl) ⟨rfl, hS.only, k1, g1, hgz0, k2, k3⟩
theorem appSegC {tgt seq disc ver cap dur : Nat} {title uri : ByteArray} (gp gr gz : Nat) (hk : 0 < cap) (hcap : cap ≤ 100000) (hseq : seq < 18446744073709551615) (hfl : (FloatKind.f64.format.order tgt dur == some .lt) = true) {c : Nat} (hceil : ∀ w, Calls Tryz.prog 109 #[.float .f64 dur] w fun e w' => e = .returned (.float .f64 c) ∧ w' = w) (w : World) (hp : w.heap[gp]? = some (.cells (pcs tgt seq disc ver ((.slice (some ⟨gr, 0, none⟩) cap cap)) cap 0 0) 88 (0, 0))) (hr : w.heap[gr]? = some (.cells (List.replicate cap (Value.pointer none)).toArray 125 (0, 0))) (hz : w.heap[gz]? = some (.cells (scs 0 title uri dur) 127 (0, 0))) : Calls Tryz.prog 86 #[pt gp 0, pt gz 0] w fun e w' => e = .returned .nilIface ∧ w'.heap[gp]? = some (.cells (pcs c seq disc ver (.slice (some ⟨gr, 0, none⟩) cap cap) cap (1 % cap) 1) 88 (0, 0)) ∧ w'.heap[gr]? = some (.cells ((List.replicate cap (Value.pointer none)).set 0 (pt gz 0)).toArray 125 (0, 0)) ∧ w'.heap[gz]? = some (.cells (scs seq title uri dur) 127 (0, 0)) ∧ Only (fun x => x = gp ∨ x = gr ∨ x = gz) w w' := by
 refine calls_of_ev Tryz.func86 rfl (show 2 ≤ 113 from by decide) ?_
 intro a hE
 have hE : Ev 113 ((0, pt gp 0) :: (1, pt gz 0) :: []) a := hE
 have hS : Sv 113 ((0, pt gp 0) :: (1, pt gz 0) :: []) [] (fun x => x = gp ∨ x = gr ∨ x = gz) w a w := Sv.start hE _ _
 clear hE
 replace hS : Sv 113 ((0, pt gp 0) :: (1, pt gz 0) :: []) [⟨gp, (pcs tgt seq disc ver ((.slice (some ⟨gr, 0, none⟩) cap cap)) cap 0 0), 88, true⟩] (fun x => x = gp ∨ x = gr ∨ x = gz) w a w := (hS.addB hp (by intro b hb; cases hb) (fun _ => .inl (.inl rfl))).pick rfl
 replace hS : Sv 113 ((0, pt gp 0) :: (1, pt gz 0) :: []) [⟨gr, (List.replicate cap (Value.pointer none)).toArray, 125, true⟩, ⟨gp, (pcs tgt seq disc ver ((.slice (some ⟨gr, 0, none⟩) cap cap)) cap 0 0), 88, true⟩] (fun x => x = gp ∨ x = gr ∨ x = gz) w a w := (hS.addB hr (hS.neT hr rfl) (fun _ => .inl (.inr (.inl rfl)))).pick rfl
 replace hS : Sv 113 ((0, pt gp 0) :: (1, pt gz 0) :: []) [⟨gz, (scs 0 title uri dur), 127, true⟩, ⟨gr, (List.replicate cap (Value.pointer none)).toArray, 125, true⟩, ⟨gp, (pcs tgt seq disc ver ((.slice (some ⟨gr, 0, none⟩) cap cap)) cap 0 0), 88, true⟩] (fun x => x = gp ∨ x = gr ∨ x = gz) w a w := (hS.addB hz (hS.neT hz rfl) (fun _ => .inl (.inr (.inr rfl)))).pick rfl
 refine wp_seq ?_
 refine wp_region_lit ?_
 refine sv_r (v := .nilIface) hS ex_ac fun a hS => ?_
 refine wpList_nil ?_
 replace hS := hS.cut [4, 0, 1]
 show Code.wp _ _ _ _ _
 refine wp_seq ?_
 refine wp_seq ?_
 refine wp_region_og1 (n := 113) 8 [Asr.eq (pt gp 0), Asr.eq (pt gp 0), Asr.eq (pt gp 14), Asr.eq (.int .u64 0), Asr.eq (pt gp 0), Asr.eq (pt gp 0), Asr.eq (pt gp 15), Asr.eq (.int .u64 0)] (by kernel_rfl) (by kernel_rfl) (by kernel_rfl) (by simp) (by kernel_rfl) hS.ev.size ⟨⟩ ?_ ?_
 ·simp only [List.take_succ_cons, List.take_zero]
  refine ⟨?_, ?_, ?_, ?_, ?_, ?_, ?_, ?_, trivial⟩
  ·intro a wx c
   have e_0 : a.eval (.tmp 0) = pt gp 0 := c.outE (by decide +kernel) (hS.get 0 rfl)
   clear c
   exact og_val (ex_mv e_0) rfl
  ·intro a wx c
   have e_5 : a.eval (.tmp 5) = pt gp 0 := c.slot 0 _ (by decide +kernel) rfl
   clear c
   exact og_val (ex_nc e_5) rfl
  ·intro a wx c
   have e_6 : a.eval (.tmp 6) = pt gp 0 := c.slot 1 _ (by decide +kernel) rfl
   clear c
   exact og_val (ex_fo e_6 fo_m3u8_MediaPlaylist_14 rfl) rfl
  ·intro a wx c
   have e_7 : a.eval (.tmp 7) = pt gp 14 := c.slot 2 _ (by decide +kernel) rfl
   have hO := hS.ogc c
   clear c
   exact og_val (ex_ld e_7 lt_uint (cell_of_heap (v := .int .u64 0) (hO.at 2 rfl) rfl)) rfl
  ·intro a wx c
   have e_0 : a.eval (.tmp 0) = pt gp 0 := c.outE (by decide +kernel) (hS.get 0 rfl)
   clear c
   exact og_val (ex_mv e_0) rfl
  ·intro a wx c
   have e_9 : a.eval (.tmp 9) = pt gp 0 := c.slot 4 _ (by decide +kernel) rfl
   clear c
   exact og_val (ex_nc e_9) rfl
  ·intro a wx c
   have e_10 : a.eval (.tmp 10) = pt gp 0 := c.slot 5 _ (by decide +kernel) rfl
   clear c
   exact og_val (ex_fo e_10 fo_m3u8_MediaPlaylist_15 rfl) rfl
  ·intro a wx c
   have e_11 : a.eval (.tmp 11) = pt gp 15 := c.slot 6 _ (by decide +kernel) rfl
   have hO := hS.ogc c
   clear c
   exact og_val (ex_ld e_11 lt_uint (cell_of_heap (v := .int .u64 0) (hO.at 2 rfl) rfl)) rfl
 ·intro a w1 c hbw1
  replace hS : Sv 113 ((12, .int .u64 0) :: (8, .int .u64 0) :: (1, pt gz 0) :: (0, pt gp 0) :: (4, .nilIface) :: []) [⟨gz, (scs 0 title uri dur), 127, true⟩, ⟨gr, (List.replicate cap (Value.pointer none)).toArray, 125, true⟩, ⟨gp, (pcs tgt seq disc ver ((.slice (some ⟨gr, 0, none⟩) cap cap)) cap 0 0), 88, true⟩] (fun x => x = gp ∨ x = gr ∨ x = gz) w a w1 := ((((((hS.ogh c).know (c.outE (by decide +kernel) (hS.get 4 rfl))).know (c.outE (by decide +kernel) (hS.get 0 rfl))).know (c.outE (by decide +kernel) (hS.get 1 rfl))).know (c.slot 3 _ (by decide +kernel) rfl)).know (c.slot 7 _ (by decide +kernel) rfl))
  clear c
  simp only [List.drop_succ_cons, List.drop_zero]
  refine sv_r (v := .bool true) hS (ei_eql (hS.get 8 rfl) (hS.get 12 rfl) (by simp)) fun a hS => ?_
  refine sv_r (v := .bool true) hS (ex_mv (hS.get 13 rfl)) fun a hS => ?_
  refine sv_g (v := pt gp 0) hS (hS.get 14 rfl) (ex_mv (hS.get 0 rfl)) fun a hS => ?_
  refine sv_g (v := pt gp 0) hS (hS.get 14 rfl) (ex_nc (hS.get 15 rfl)) fun a hS => ?_
  refine sv_g (v := pt gp 16) hS (hS.get 14 rfl) (ex_fo (hS.get 16 rfl) fo_m3u8_MediaPlaylist_16 rfl) fun a hS => ?_
  refine sv_g (v := .int .u64 0) hS (hS.get 14 rfl) (ex_ld (hS.get 17 rfl) lt_uint (cell_of_heap (v := .int .u64 0) (hS.at 2 rfl) rfl)) fun a hS => ?_
  refine sv_g (v := .bool false) hS (hS.get 14 rfl) (ei_gtr (hS.get 18 rfl) rfl (by simp)) fun a hS => ?_
  refine sv_r (v := .bool false) hS (ex_pickT (hS.get 14 rfl) (hS.get 19 rfl)) fun a hS => ?_
  refine wpList_nil ?_
  replace hS := hS.cut [20, 1, 0, 4]
  show Code.wp _ _ _ _ _
  refine cond_f (hS.get 20 rfl) ?_
  refine wp_skip ?_
  show Code.wp _ _ _ _ _
  refine wp_seq ?_
  refine wp_region_lit ?_
  refine sv_r (v := pt gz 0) hS (ex_mv (hS.get 1 rfl)) fun a hS => ?_
  refine sv_r (v := pt gp 0) hS (ex_mv (hS.get 0 rfl)) fun a hS => ?_
  refine sv_r (v := pt gp 0) hS (ex_nc (hS.get 23 rfl)) fun a hS => ?_
  refine sv_r (v := pt gp 1) hS (ex_fo (hS.get 24 rfl) fo_m3u8_MediaPlaylist_1 rfl) fun a hS => ?_
  refine sv_r (v := .int .u64 ((seq : Nat) : Int)) hS (ex_ld (hS.get 25 rfl) lt_uint64 (cell_of_heap (v := .int .u64 ((seq : Nat) : Int)) (hS.at 2 rfl) rfl)) fun a hS => ?_
  refine sv_r (v := pt gz 0) hS (ex_nc (hS.get 22 rfl)) fun a hS => ?_
  refine sv_r (v := pt gz 0) hS (ex_fo (hS.get 27 rfl) fo_m3u8_MediaSegment_0 rfl) fun a hS => ?_
  refine sv_st (i := 0) (v := .int .u64 ((seq : Nat) : Int)) (cs' := #[.int .u64 ((seq : Nat) : Int), .string title, .string uri, .float .f64 (dur), .int .i64 0, .int .i64 0, .pointer none, .pointer none, .bool false, .pointer none, .string (⟨#[]⟩)]) (m' := [⟨gz, #[.int .u64 ((seq : Nat) : Int), .string title, .string uri, .float .f64 (dur), .int .i64 0, .int .i64 0, .pointer none, .pointer none, .bool false, .pointer none, .string (⟨#[]⟩)], 127, true⟩, ⟨gr, (List.replicate cap (Value.pointer none)).toArray, 125, true⟩, ⟨gp, (pcs tgt seq disc ver ((.slice (some ⟨gr, 0, none⟩) cap cap)) cap 0 0), 88, true⟩]) hS (su_uint64 _) (hS.get 28 rfl) (hS.get 26 rfl) rfl (show 0 < 11 from by decide) rfl rfl ?_
  intro w2 hty hS
  replace hS : Sv 113 ((20, .bool false) :: (1, pt gz 0) :: (0, pt gp 0) :: (4, .nilIface) :: []) [⟨gz, #[.int .u64 ((seq : Nat) : Int), .string title, .string uri, .float .f64 (dur), .int .i64 0, .int .i64 0, .pointer none, .pointer none, .bool false, .pointer none, .string (⟨#[]⟩)], 127, true⟩, ⟨gr, (List.replicate cap (Value.pointer none)).toArray, 125, true⟩, ⟨gp, (pcs tgt seq disc ver ((.slice (some ⟨gr, 0, none⟩) cap cap)) cap 0 0), 88, true⟩] (fun x => x = gp ∨ x = gr ∨ x = gz) w a w2 := hS.pick rfl
  refine nx1 ?_
  refine wp_seq ?_
  refine wp_seq ?_
  refine wp_region_lit ?_
  refine sv_r (v := pt gp 0) hS (ex_mv (hS.get 0 rfl)) fun a hS => ?_
  refine sv_r (v := pt gp 0) hS (ex_nc (hS.get 29 rfl)) fun a hS => ?_
  refine sv_r (v := pt gp 16) hS (ex_fo (hS.get 30 rfl) fo_m3u8_MediaPlaylist_16 rfl) fun a hS => ?_
  refine sv_r (v := .int .u64 0) hS (ex_ld (hS.get 31 rfl) lt_uint (cell_of_heap (v := .int .u64 0) (hS.at 2 rfl) rfl)) fun a hS => ?_
  refine sv_r (v := .bool false) hS (ei_gtr (hS.get 32 rfl) rfl (by simp)) fun a hS => ?_
  refine wpList_nil ?_
  replace hS := hS.cut [33, 20, 1, 0, 4]
  show Code.wp _ _ _ _ _
  refine cond_f (hS.get 33 rfl) ?_
  refine wp_skip ?_
  show Code.wp _ _ _ _ _
  refine wp_seq ?_
  refine wp_region_og1 (n := 113) 9 [Asr.eq (pt gp 0), Asr.eq (pt gp 0), Asr.eq (pt gp 2), Asr.eq (.slice (some ⟨gr, 0, none⟩) cap cap), Asr.eq (pt gp 0), Asr.eq (pt gp 0), Asr.eq (pt gp 15), Asr.eq (.int .u64 0), Asr.eq (pt gz 0)] (by kernel_rfl) (by kernel_rfl) (by kernel_rfl) (by simp) (by kernel_rfl) hS.ev.size ⟨⟩ ?_ ?_
  ·simp only [List.take_succ_cons, List.take_zero]
   refine ⟨?_, ?_, ?_, ?_, ?_, ?_, ?_, ?_, ?_, trivial⟩
   ·intro a wx c
    have e_0 : a.eval (.tmp 0) = pt gp 0 := c.outE (by decide +kernel) (hS.get 0 rfl)
    clear c
    exact og_val (ex_mv e_0) rfl
   ·intro a wx c
    have e_62 : a.eval (.tmp 62) = pt gp 0 := c.slot 0 _ (by decide +kernel) rfl
    clear c
    exact og_val (ex_nc e_62) rfl
   ·intro a wx c
    have e_63 : a.eval (.tmp 63) = pt gp 0 := c.slot 1 _ (by decide +kernel) rfl
    clear c
    exact og_val (ex_fo e_63 fo_m3u8_MediaPlaylist_2 rfl) rfl
   ·intro a wx c
    have e_64 : a.eval (.tmp 64) = pt gp 2 := c.slot 2 _ (by decide +kernel) rfl
    have hO := hS.ogc c
    clear c
    exact og_val (ex_ld e_64 lt_sl_p_m3u8_MediaSegment (cell_of_heap (v := .slice (some ⟨gr, 0, none⟩) cap cap) (hO.at 2 rfl) rfl)) rfl
   ·intro a wx c
    have e_0 : a.eval (.tmp 0) = pt gp 0 := c.outE (by decide +kernel) (hS.get 0 rfl)
    clear c
    exact og_val (ex_mv e_0) rfl
   ·intro a wx c
    have e_66 : a.eval (.tmp 66) = pt gp 0 := c.slot 4 _ (by decide +kernel) rfl
    clear c
    exact og_val (ex_nc e_66) rfl
   ·intro a wx c
    have e_67 : a.eval (.tmp 67) = pt gp 0 := c.slot 5 _ (by decide +kernel) rfl
    clear c
    exact og_val (ex_fo e_67 fo_m3u8_MediaPlaylist_15 rfl) rfl
   ·intro a wx c
    have e_68 : a.eval (.tmp 68) = pt gp 15 := c.slot 6 _ (by decide +kernel) rfl
    have hO := hS.ogc c
    clear c
    exact og_val (ex_ld e_68 lt_uint (cell_of_heap (v := .int .u64 0) (hO.at 2 rfl) rfl)) rfl
   ·intro a wx c
    have e_1 : a.eval (.tmp 1) = pt gz 0 := c.outE (by decide +kernel) (hS.get 1 rfl)
    clear c
    exact og_val (ex_mv e_1) rfl
  ·intro a w3 c hbw3
   replace hS : Sv 113 ((70, pt gz 0) :: (69, .int .u64 0) :: (65, .slice (some ⟨gr, 0, none⟩) cap cap) :: (4, .nilIface) :: (0, pt gp 0) :: (1, pt gz 0) :: (20, .bool false) :: (33, .bool false) :: []) [⟨gz, #[.int .u64 ((seq : Nat) : Int), .string title, .string uri, .float .f64 (dur), .int .i64 0, .int .i64 0, .pointer none, .pointer none, .bool false, .pointer none, .string (⟨#[]⟩)], 127, true⟩, ⟨gr, (List.replicate cap (Value.pointer none)).toArray, 125, true⟩, ⟨gp, (pcs tgt seq disc ver ((.slice (some ⟨gr, 0, none⟩) cap cap)) cap 0 0), 88, true⟩] (fun x => x = gp ∨ x = gr ∨ x = gz) w a w3 := (((((((((hS.ogh c).know (c.outE (by decide +kernel) (hS.get 33 rfl))).know (c.outE (by decide +kernel) (hS.get 20 rfl))).know (c.outE (by decide +kernel) (hS.get 1 rfl))).know (c.outE (by decide +kernel) (hS.get 0 rfl))).know (c.outE (by decide +kernel) (hS.get 4 rfl))).know (c.slot 3 _ (by decide +kernel) rfl)).know (c.slot 7 _ (by decide +kernel) rfl)).know (c.slot 8 _ (by decide +kernel) rfl))
   clear c
   simp only [List.drop_succ_cons, List.drop_zero]
   refine sv_r (v := pt gr 0) hS (ex_ia1 (E := 125) (i := 0) Tryz.underlying79 Tryz.sizeOf125 (hS.get 65 rfl) (hS.get 69 rfl) (by omega)) fun a hS => ?_
   refine sv_st (i := 1) (v := pt gz 0) (m' := [⟨gz, #[.int .u64 ((seq : Nat) : Int), .string title, .string uri, .float .f64 (dur), .int .i64 0, .int .i64 0, .pointer none, .pointer none, .bool false, .pointer none, .string (⟨#[]⟩)], 127, true⟩, ⟨gr, ((List.replicate cap (Value.pointer none)).set 0 (pt gz 0)).toArray, 125, true⟩, ⟨gp, (pcs tgt seq disc ver ((.slice (some ⟨gr, 0, none⟩) cap cap)) cap 0 0), 88, true⟩]) hS (su_p_m3u8_MediaSegment _) (hS.get 71 rfl) (hS.get 70 rfl) rfl (by rw [List.size_toArray, List.length_replicate]; omega) rfl (by rw [List.setIfInBounds_toArray]) ?_
   intro w4 hty hS
   refine wpList_nil ?_
   replace hS := hS.cut [4, 0, 1, 20, 33]
   show Code.wp _ _ _ _ _
   refine wp_seq ?_
   refine wp_region_og1 (n := 113) 11 [Asr.eq (pt gp 0), Asr.eq (pt gp 0), Asr.eq (pt gp 0), Asr.eq (pt gp 15), Asr.eq (.int .u64 0), Asr.eq (.int .u64 1), Asr.eq (pt gp 0), Asr.eq (pt gp 0), Asr.eq (pt gp 13), Asr.eq (.int .u64 ((cap : Nat) : Int)), Asr.eq (.int .u64 ((1 % cap : Nat) : Int))] (by kernel_rfl) (by kernel_rfl) (by kernel_rfl) (by simp) (by kernel_rfl) hS.ev.size ⟨⟩ ?_ ?_
   ·simp only [List.take_succ_cons, List.take_zero]
    refine ⟨?_, ?_, ?_, ?_, ?_, ?_, ?_, ?_, ?_, ?_, ?_, trivial⟩
    ·intro a wx c
     have e_0 : a.eval (.tmp 0) = pt gp 0 := c.outE (by decide +kernel) (hS.get 0 rfl)
     clear c
     exact og_val (ex_mv e_0) rfl
    ·intro a wx c
     have e_0 : a.eval (.tmp 0) = pt gp 0 := c.outE (by decide +kernel) (hS.get 0 rfl)
     clear c
     exact og_val (ex_mv e_0) rfl
    ·intro a wx c
     have e_73 : a.eval (.tmp 73) = pt gp 0 := c.slot 1 _ (by decide +kernel) rfl
     clear c
     exact og_val (ex_nc e_73) rfl
    ·intro a wx c
     have e_74 : a.eval (.tmp 74) = pt gp 0 := c.slot 2 _ (by decide +kernel) rfl
     clear c
     exact og_val (ex_fo e_74 fo_m3u8_MediaPlaylist_15 rfl) rfl
    ·intro a wx c
     have e_75 : a.eval (.tmp 75) = pt gp 15 := c.slot 3 _ (by decide +kernel) rfl
     have hO := hS.ogc c
     clear c
     exact og_val (ex_ld e_75 lt_uint (cell_of_heap (v := .int .u64 0) (hO.at 2 rfl) rfl)) rfl
    ·intro a wx c
     have e_76 : a.eval (.tmp 76) = .int .u64 0 := c.slot 4 _ (by decide +kernel) rfl
     clear c
     exact og_val (v := .int .u64 1) (ei_add e_76 rfl (by rw [IntKind.wrap_u64]; omega)) rfl
    ·intro a wx c
     have e_0 : a.eval (.tmp 0) = pt gp 0 := c.outE (by decide +kernel) (hS.get 0 rfl)
     clear c
     exact og_val (ex_mv e_0) rfl
    ·intro a wx c
     have e_78 : a.eval (.tmp 78) = pt gp 0 := c.slot 6 _ (by decide +kernel) rfl
     clear c
     exact og_val (ex_nc e_78) rfl
    ·intro a wx c
     have e_79 : a.eval (.tmp 79) = pt gp 0 := c.slot 7 _ (by decide +kernel) rfl
     clear c
     exact og_val (ex_fo e_79 fo_m3u8_MediaPlaylist_13 rfl) rfl
    ·intro a wx c
     have e_80 : a.eval (.tmp 80) = pt gp 13 := c.slot 8 _ (by decide +kernel) rfl
     have hO := hS.ogc c
     clear c
     exact og_val (ex_ld e_80 lt_uint (cell_of_heap (v := .int .u64 ((cap : Nat) : Int)) (hO.at 2 rfl) rfl)) rfl
    ·intro a wx c
     have e_77 : a.eval (.tmp 77) = .int .u64 1 := c.slot 5 _ (by decide +kernel) rfl
     have e_81 : a.eval (.tmp 81) = .int .u64 ((cap : Nat) : Int) := c.slot 9 _ (by decide +kernel) rfl
     clear c
     exact og_val (v := .int .u64 ((1 % cap : Nat) : Int)) (ni_rem cap e_77 e_81 (by omega)) rfl
   ·intro a w5 c hbw5
    replace hS : Sv 113 ((82, .int .u64 ((1 % cap : Nat) : Int)) :: (72, pt gp 0) :: (33, .bool false) :: (20, .bool false) :: (1, pt gz 0) :: (0, pt gp 0) :: (4, .nilIface) :: []) [⟨gz, #[.int .u64 ((seq : Nat) : Int), .string title, .string uri, .float .f64 (dur), .int .i64 0, .int .i64 0, .pointer none, .pointer none, .bool false, .pointer none, .string (⟨#[]⟩)], 127, true⟩, ⟨gr, ((List.replicate cap (Value.pointer none)).set 0 (pt gz 0)).toArray, 125, true⟩, ⟨gp, (pcs tgt seq disc ver ((.slice (some ⟨gr, 0, none⟩) cap cap)) cap 0 0), 88, true⟩] (fun x => x = gp ∨ x = gr ∨ x = gz) w a w5 := ((((((((hS.ogh c).know (c.outE (by decide +kernel) (hS.get 4 rfl))).know (c.outE (by decide +kernel) (hS.get 0 rfl))).know (c.outE (by decide +kernel) (hS.get 1 rfl))).know (c.outE (by decide +kernel) (hS.get 20 rfl))).know (c.outE (by decide +kernel) (hS.get 33 rfl))).know (c.slot 0 _ (by decide +kernel) rfl)).know (c.slot 10 _ (by decide +kernel) rfl))
    clear c
    simp only [List.drop_succ_cons, List.drop_zero]
    refine sv_r (v := pt gp 0) hS (ex_nc (hS.get 72 rfl)) fun a hS => ?_
    refine sv_r (v := pt gp 15) hS (ex_fo (hS.get 83 rfl) fo_m3u8_MediaPlaylist_15 rfl) fun a hS => ?_
    refine sv_st (i := 2) (v := .int .u64 ((1 % cap : Nat) : Int)) (cs' := #[.float .f64 (tgt), .int .u64 ((seq : Nat) : Int), .slice (some ⟨gr, 0, none⟩) cap cap, .string (⟨#[]⟩), .bool false, .bool false, .int .u64 0, .int .u64 ((disc : Nat) : Int), .float .f64 0, .bool false, .bool false, .int .i64 0, .int .u64 0, .int .u64 ((cap : Nat) : Int), .int .u64 0, .int .u64 ((1 % cap : Nat) : Int), .int .u64 0, .slice none 0 0, .int .i64 0, .int .i8 0, .int .u8 ((ver : Nat) : Int), .pointer none, .pointer none]) (m' := [⟨gz, #[.int .u64 ((seq : Nat) : Int), .string title, .string uri, .float .f64 (dur), .int .i64 0, .int .i64 0, .pointer none, .pointer none, .bool false, .pointer none, .string (⟨#[]⟩)], 127, true⟩, ⟨gr, ((List.replicate cap (Value.pointer none)).set 0 (pt gz 0)).toArray, 125, true⟩, ⟨gp, #[.float .f64 (tgt), .int .u64 ((seq : Nat) : Int), .slice (some ⟨gr, 0, none⟩) cap cap, .string (⟨#[]⟩), .bool false, .bool false, .int .u64 0, .int .u64 ((disc : Nat) : Int), .float .f64 0, .bool false, .bool false, .int .i64 0, .int .u64 0, .int .u64 ((cap : Nat) : Int), .int .u64 0, .int .u64 ((1 % cap : Nat) : Int), .int .u64 0, .slice none 0 0, .int .i64 0, .int .i8 0, .int .u8 ((ver : Nat) : Int), .pointer none, .pointer none], 88, true⟩]) hS (su_uint _) (hS.get 84 rfl) (hS.get 82 rfl) rfl (show 15 < 23 from by decide) rfl rfl ?_
    intro w6 hty hS
    replace hS : Sv 113 ((33, .bool false) :: (20, .bool false) :: (1, pt gz 0) :: (0, pt gp 0) :: (4, .nilIface) :: []) [⟨gz, #[.int .u64 ((seq : Nat) : Int), .string title, .string uri, .float .f64 (dur), .int .i64 0, .int .i64 0, .pointer none, .pointer none, .bool false, .pointer none, .string (⟨#[]⟩)], 127, true⟩, ⟨gr, ((List.replicate cap (Value.pointer none)).set 0 (pt gz 0)).toArray, 125, true⟩, ⟨gp, #[.float .f64 (tgt), .int .u64 ((seq : Nat) : Int), .slice (some ⟨gr, 0, none⟩) cap cap, .string (⟨#[]⟩), .bool false, .bool false, .int .u64 0, .int .u64 ((disc : Nat) : Int), .float .f64 0, .bool false, .bool false, .int .i64 0, .int .u64 0, .int .u64 ((cap : Nat) : Int), .int .u64 0, .int .u64 ((1 % cap : Nat) : Int), .int .u64 0, .slice none 0 0, .int .i64 0, .int .i8 0, .int .u8 ((ver : Nat) : Int), .pointer none, .pointer none], 88, true⟩] (fun x => x = gp ∨ x = gr ∨ x = gz) w a w6 := hS.pick rfl
    refine nx3 ?_
    refine sv_r (v := pt gp 0) hS (ex_mv (hS.get 0 rfl)) fun a hS => ?_
    refine sv_r (v := pt gp 0) hS (ex_nc (hS.get 85 rfl)) fun a hS => ?_
    refine sv_r (v := pt gp 16) hS (ex_fo (hS.get 86 rfl) fo_m3u8_MediaPlaylist_16 rfl) fun a hS => ?_
    refine sv_r (v := .int .u64 0) hS (ex_ld (hS.get 87 rfl) lt_uint (cell_of_heap (v := .int .u64 0) (hS.at 2 rfl) rfl)) fun a hS => ?_
    refine sv_r (v := .int .u64 1) hS (ei_add (hS.get 88 rfl) rfl (by rw [IntKind.wrap_u64]; omega)) fun a hS => ?_
    refine sv_r (v := pt gp 0) hS (ex_nc (hS.get 85 rfl)) fun a hS => ?_
    refine sv_r (v := pt gp 16) hS (ex_fo (hS.get 90 rfl) fo_m3u8_MediaPlaylist_16 rfl) fun a hS => ?_
    refine sv_st (i := 2) (v := .int .u64 1) (cs' := #[.float .f64 (tgt), .int .u64 ((seq : Nat) : Int), .slice (some ⟨gr, 0, none⟩) cap cap, .string (⟨#[]⟩), .bool false, .bool false, .int .u64 0, .int .u64 ((disc : Nat) : Int), .float .f64 0, .bool false, .bool false, .int .i64 0, .int .u64 0, .int .u64 ((cap : Nat) : Int), .int .u64 0, .int .u64 ((1 % cap : Nat) : Int), .int .u64 1, .slice none 0 0, .int .i64 0, .int .i8 0, .int .u8 ((ver : Nat) : Int), .pointer none, .pointer none]) (m' := [⟨gz, #[.int .u64 ((seq : Nat) : Int), .string title, .string uri, .float .f64 (dur), .int .i64 0, .int .i64 0, .pointer none, .pointer none, .bool false, .pointer none, .string (⟨#[]⟩)], 127, true⟩, ⟨gr, ((List.replicate cap (Value.pointer none)).set 0 (pt gz 0)).toArray, 125, true⟩, ⟨gp, #[.float .f64 (tgt), .int .u64 ((seq : Nat) : Int), .slice (some ⟨gr, 0, none⟩) cap cap, .string (⟨#[]⟩), .bool false, .bool false, .int .u64 0, .int .u64 ((disc : Nat) : Int), .float .f64 0, .bool false, .bool false, .int .i64 0, .int .u64 0, .int .u64 ((cap : Nat) : Int), .int .u64 0, .int .u64 ((1 % cap : Nat) : Int), .int .u64 1, .slice none 0 0, .int .i64 0, .int .i8 0, .int .u8 ((ver : Nat) : Int), .pointer none, .pointer none], 88, true⟩]) hS (su_uint _) (hS.get 91 rfl) (hS.get 89 rfl) rfl (show 16 < 23 from by decide) rfl rfl ?_
    intro w7 hty hS
    refine wpList_nil ?_
    replace hS := hS.cut [33, 20, 1, 0, 4]
    show Code.wp _ _ _ _ _
    refine wp_seq ?_
    refine wp_seq ?_
    refine wp_region_og1 (n := 113) 8 [Asr.eq (pt gp 0), Asr.eq (pt gp 0), Asr.eq (pt gp 0), Asr.eq (.float .f64 (tgt)), Asr.eq (pt gz 0), Asr.eq (pt gz 0), Asr.eq (pt gz 3), Asr.eq (.float .f64 (dur))] (by kernel_rfl) (by kernel_rfl) (by kernel_rfl) (by simp) (by kernel_rfl) hS.ev.size ⟨⟩ ?_ ?_
    ·simp only [List.take_succ_cons, List.take_zero]
     refine ⟨?_, ?_, ?_, ?_, ?_, ?_, ?_, ?_, trivial⟩
     ·intro a wx c
      have e_0 : a.eval (.tmp 0) = pt gp 0 := c.outE (by decide +kernel) (hS.get 0 rfl)
      clear c
      exact og_val (ex_mv e_0) rfl
     ·intro a wx c
      have e_92 : a.eval (.tmp 92) = pt gp 0 := c.slot 0 _ (by decide +kernel) rfl
      clear c
      exact og_val (ex_nc e_92) rfl
     ·intro a wx c
      have e_93 : a.eval (.tmp 93) = pt gp 0 := c.slot 1 _ (by decide +kernel) rfl
      clear c
      exact og_val (ex_fo e_93 fo_m3u8_MediaPlaylist_0 rfl) rfl
     ·intro a wx c
      have e_94 : a.eval (.tmp 94) = pt gp 0 := c.slot 2 _ (by decide +kernel) rfl
      have hO := hS.ogc c
      clear c
      exact og_val (ex_ld e_94 lt_float64 (cell_of_heap (v := .float .f64 (tgt)) (hO.at 2 rfl) rfl)) rfl
     ·intro a wx c
      have e_1 : a.eval (.tmp 1) = pt gz 0 := c.outE (by decide +kernel) (hS.get 1 rfl)
      clear c
      exact og_val (ex_mv e_1) rfl
     ·intro a wx c
      have e_96 : a.eval (.tmp 96) = pt gz 0 := c.slot 4 _ (by decide +kernel) rfl
      clear c
      exact og_val (ex_nc e_96) rfl
     ·intro a wx c
      have e_97 : a.eval (.tmp 97) = pt gz 0 := c.slot 5 _ (by decide +kernel) rfl
      clear c
      exact og_val (ex_fo e_97 fo_m3u8_MediaSegment_3 rfl) rfl
     ·intro a wx c
      have e_98 : a.eval (.tmp 98) = pt gz 3 := c.slot 6 _ (by decide +kernel) rfl
      have hO := hS.ogc c
      clear c
      exact og_val (ex_ld e_98 lt_float64 (cell_of_heap (v := .float .f64 (dur)) (hO.at 0 rfl) rfl)) rfl
    ·intro a w8 c hbw8
     replace hS : Sv 113 ((99, .float .f64 (dur)) :: (95, .float .f64 (tgt)) :: (4, .nilIface) :: (0, pt gp 0) :: (1, pt gz 0) :: (20, .bool false) :: (33, .bool false) :: []) [⟨gz, #[.int .u64 ((seq : Nat) : Int), .string title, .string uri, .float .f64 (dur), .int .i64 0, .int .i64 0, .pointer none, .pointer none, .bool false, .pointer none, .string (⟨#[]⟩)], 127, true⟩, ⟨gr, ((List.replicate cap (Value.pointer none)).set 0 (pt gz 0)).toArray, 125, true⟩, ⟨gp, #[.float .f64 (tgt), .int .u64 ((seq : Nat) : Int), .slice (some ⟨gr, 0, none⟩) cap cap, .string (⟨#[]⟩), .bool false, .bool false, .int .u64 0, .int .u64 ((disc : Nat) : Int), .float .f64 0, .bool false, .bool false, .int .i64 0, .int .u64 0, .int .u64 ((cap : Nat) : Int), .int .u64 0, .int .u64 ((1 % cap : Nat) : Int), .int .u64 1, .slice none 0 0, .int .i64 0, .int .i8 0, .int .u8 ((ver : Nat) : Int), .pointer none, .pointer none], 88, true⟩] (fun x => x = gp ∨ x = gr ∨ x = gz) w a w8 := ((((((((hS.ogh c).know (c.outE (by decide +kernel) (hS.get 33 rfl))).know (c.outE (by decide +kernel) (hS.get 20 rfl))).know (c.outE (by decide +kernel) (hS.get 1 rfl))).know (c.outE (by decide +kernel) (hS.get 0 rfl))).know (c.outE (by decide +kernel) (hS.get 4 rfl))).know (c.slot 3 _ (by decide +kernel) rfl)).know (c.slot 7 _ (by decide +kernel) rfl))
     clear c
     simp only [List.drop_succ_cons, List.drop_zero]
     refine sv_r (v := .bool true) hS (ef_lss (hS.get 95 rfl) (hS.get 99 rfl) (by exact hfl)) fun a hS => ?_
     refine wpList_nil ?_
     replace hS := hS.cut [100, 4, 0, 1, 20, 33]
     show Code.wp _ _ _ _ _
     refine cond_t (hS.get 100 rfl) ?_
     refine wp_region_lit ?_
     refine sv_r (v := pt gp 0) hS (ex_mv (hS.get 0 rfl)) fun a hS => ?_
     refine sv_r (v := pt gz 0) hS (ex_mv (hS.get 1 rfl)) fun a hS => ?_
     refine sv_r (v := pt gz 0) hS (ex_nc (hS.get 102 rfl)) fun a hS => ?_
     refine sv_r (v := pt gz 3) hS (ex_fo (hS.get 103 rfl) fo_m3u8_MediaSegment_3 rfl) fun a hS => ?_
     refine sv_r (v := .float .f64 (dur)) hS (ex_ld (hS.get 104 rfl) lt_float64 (cell_of_heap (v := .float .f64 (dur)) (hS.at 0 rfl) rfl)) fun a hS => ?_
     refine sv_callq (v := .float .f64 (c)) hS rfl rfl (by decide) (ex_call1 cf_math_Ceil (hS.get 105 rfl)) (hceil _) ?_
     intro a hS
     refine sv_r (v := pt gp 0) hS (ex_nc (hS.get 101 rfl)) fun a hS => ?_
     refine sv_r (v := pt gp 0) hS (ex_fo (hS.get 107 rfl) fo_m3u8_MediaPlaylist_0 rfl) fun a hS => ?_
     refine sv_st (i := 2) (v := .float .f64 (c)) (cs' := #[.float .f64 (c), .int .u64 ((seq : Nat) : Int), .slice (some ⟨gr, 0, none⟩) cap cap, .string (⟨#[]⟩), .bool false, .bool false, .int .u64 0, .int .u64 ((disc : Nat) : Int), .float .f64 0, .bool false, .bool false, .int .i64 0, .int .u64 0, .int .u64 ((cap : Nat) : Int), .int .u64 0, .int .u64 ((1 % cap : Nat) : Int), .int .u64 1, .slice none 0 0, .int .i64 0, .int .i8 0, .int .u8 ((ver : Nat) : Int), .pointer none, .pointer none]) (m' := [⟨gz, #[.int .u64 ((seq : Nat) : Int), .string title, .string uri, .float .f64 (dur), .int .i64 0, .int .i64 0, .pointer none, .pointer none, .bool false, .pointer none, .string (⟨#[]⟩)], 127, true⟩, ⟨gr, ((List.replicate cap (Value.pointer none)).set 0 (pt gz 0)).toArray, 125, true⟩, ⟨gp, #[.float .f64 (c), .int .u64 ((seq : Nat) : Int), .slice (some ⟨gr, 0, none⟩) cap cap, .string (⟨#[]⟩), .bool false, .bool false, .int .u64 0, .int .u64 ((disc : Nat) : Int), .float .f64 0, .bool false, .bool false, .int .i64 0, .int .u64 0, .int .u64 ((cap : Nat) : Int), .int .u64 0, .int .u64 ((1 % cap : Nat) : Int), .int .u64 1, .slice none 0 0, .int .i64 0, .int .i8 0, .int .u8 ((ver : Nat) : Int), .pointer none, .pointer none], 88, true⟩]) hS (su_float64 _) (hS.get 108 rfl) (hS.get 106 rfl) rfl (show 0 < 23 from by decide) rfl rfl ?_
     intro w9 hty hS
     replace hS : Sv 113 ((100, .bool true) :: (4, .nilIface) :: (0, pt gp 0) :: (1, pt gz 0) :: (20, .bool false) :: (33, .bool false) :: []) [⟨gz, #[.int .u64 ((seq : Nat) : Int), .string title, .string uri, .float .f64 (dur), .int .i64 0, .int .i64 0, .pointer none, .pointer none, .bool false, .pointer none, .string (⟨#[]⟩)], 127, true⟩, ⟨gr, ((List.replicate cap (Value.pointer none)).set 0 (pt gz 0)).toArray, 125, true⟩, ⟨gp, #[.float .f64 (c), .int .u64 ((seq : Nat) : Int), .slice (some ⟨gr, 0, none⟩) cap cap, .string (⟨#[]⟩), .bool false, .bool false, .int .u64 0, .int .u64 ((disc : Nat) : Int), .float .f64 0, .bool false, .bool false, .int .i64 0, .int .u64 0, .int .u64 ((cap : Nat) : Int), .int .u64 0, .int .u64 ((1 % cap : Nat) : Int), .int .u64 1, .slice none 0 0, .int .i64 0, .int .i8 0, .int .u8 ((ver : Nat) : Int), .pointer none, .pointer none], 88, true⟩] (fun x => x = gp ∨ x = gr ∨ x = gz) w a w9 := hS.pick rfl
     refine nx3 ?_
     refine sv_r (v := pt gp 0) hS (ex_mv (hS.get 0 rfl)) fun a hS => ?_
     refine sv_r (v := pt gp 0) hS (ex_nc (hS.get 109 rfl)) fun a hS => ?_
     refine sv_r (v := pt gp 17) hS (ex_fo (hS.get 110 rfl) fo_m3u8_MediaPlaylist_17 rfl) fun a hS => ?_
     have hpq : w9.heap[gp]? = some (.cells (pcs c seq disc ver (.slice (some ⟨gr, 0, none⟩) cap cap) cap (1 % cap) 1) 88 (0, 0)) := hS.at 2 rfl
     refine sv_callp (i := 2) (v := .tuple #[]) (m' := [⟨gz, #[.int .u64 ((seq : Nat) : Int), .string title, .string uri, .float .f64 (dur), .int .i64 0, .int .i64 0, .pointer none, .pointer none, .bool false, .pointer none, .string (⟨#[]⟩)], 127, true⟩, ⟨gr, ((List.replicate cap (Value.pointer none)).set 0 (pt gz 0)).toArray, 125, true⟩, ⟨gp, (pcs c seq disc ver (.slice (some ⟨gr, 0, none⟩) cap cap) cap (1 % cap) 1), 88, true⟩]) hS rfl rfl (by decide) (ex_call1 cf_bytes_Buffer_Reset (hS.get 111 rfl)) rfl rfl (reset0 gp w9 hpq) ?_
     intro a w10 hty hS
     refine wpList_nil ?_
     replace hS := hS.cut [100, 4, 0, 1, 20, 33]
     show Code.wp _ _ _ _ _
     refine wp_seq ?_
     refine wp_region_lit ?_
     refine sv_r (v := .nilIface) hS ex_ac fun a hS => ?_
     refine wpList_nil ?_
     replace hS := hS.cut [4, 100, 0, 1, 20, 33]
     show Code.wp _ _ _ _ _
     refine wp_ret ?_
     try simp only [Exit.inBlock, Exit.then]
     exact ret_of_ev hS.ev rfl (hS.get 4 rfl) ⟨rfl, hS.at 2 rfl, hS.at 1 rfl, hS.at 0 rfl, hS.only⟩
theorem append0C {tgt seq disc ver cap dur : Nat} {title uri : ByteArray} (gp gr : Nat) (hk : 0 < cap) (hcap : cap ≤ 100000) (hseq : seq < 18446744073709551615) (hfl : (FloatKind.f64.format.order tgt dur == some .lt) = true) {c : Nat} (hceil : ∀ w, Calls Tryz.prog 109 #[.float .f64 dur] w fun e w' => e = .returned (.float .f64 c) ∧ w' = w) (w : World) (hp : w.heap[gp]? = some (.cells (pcs tgt seq disc ver ((.slice (some ⟨gr, 0, none⟩) cap cap)) cap 0 0) 88 (0, 0))) (hr : w.heap[gr]? = some (.cells (List.replicate cap (Value.pointer none)).toArray 125 (0, 0))) : Calls Tryz.prog 61 #[pt gp 0, .string uri, .float .f64 dur, .string title] w fun e w' => e = .returned .nilIface ∧ Only (fun x => x = gp ∨ x = gr) w w' ∧ w'.heap[gp]? = some (.cells (pcs c seq disc ver (.slice (some ⟨gr, 0, none⟩) cap cap) cap (1 % cap) 1) 88 (0, 0)) ∧ ∃ sg, w.heap.size ≤ sg ∧ w'.heap[gr]? = some (.cells ((List.replicate cap (Value.pointer none)).set 0 (pt sg 0)).toArray 125 (0, 0)) ∧ w'.heap[sg]? = some (.cells (scs seq title uri dur) 127 (0, 0)) := by
 refine calls_of_ev Tryz.func61 rfl (show 4 ≤ 26 from by decide) ?_
 intro a hE
 have hE : Ev 26 ((0, pt gp 0) :: (1, .string uri) :: (2, .float .f64 (dur)) :: (3, .string title) :: []) a := hE
 have hS : Sv 26 ((0, pt gp 0) :: (1, .string uri) :: (2, .float .f64 (dur)) :: (3, .string title) :: []) [] (fun x => x = gp ∨ x = gr) w a w := Sv.start hE _ _
 clear hE
 replace hS : Sv 26 ((0, pt gp 0) :: (1, .string uri) :: (2, .float .f64 (dur)) :: (3, .string title) :: []) [⟨gp, (pcs tgt seq disc ver ((.slice (some ⟨gr, 0, none⟩) cap cap)) cap 0 0), 88, true⟩] (fun x => x = gp ∨ x = gr) w a w := (hS.addB hp (by intro b hb; cases hb) (fun _ => .inl (.inl rfl))).pick rfl
 replace hS : Sv 26 ((0, pt gp 0) :: (1, .string uri) :: (2, .float .f64 (dur)) :: (3, .string title) :: []) [⟨gr, (List.replicate cap (Value.pointer none)).toArray, 125, true⟩, ⟨gp, (pcs tgt seq disc ver ((.slice (some ⟨gr, 0, none⟩) cap cap)) cap 0 0), 88, true⟩] (fun x => x = gp ∨ x = gr) w a w := (hS.addB hr (hS.neT hr rfl) (fun _ => .inl (.inr rfl))).pick rfl
 refine wp_seq ?_
 refine wp_region_lit ?_
 refine sv_r (v := .nilIface) hS ex_ac fun a hS => ?_
 refine wpList_nil ?_
 replace hS := hS.cut [8, 0, 1, 2, 3]
 show Code.wp _ _ _ _ _
 refine wp_seq ?_
 refine wp_region_lit ?_
 refine sv_al hS al_m3u8_MediaSegment (by decide) ?_
 intro g1 a w2 hg1 hbw2 hwg1 hS
 refine sv_r (v := pt g1 0) hS (ex_as (hS.get 10 rfl)) fun a hS => ?_
 refine wpList_nil ?_
 replace hS := hS.cut [9, 8, 0, 1, 2, 3]
 show Code.wp _ _ _ _ _
 refine wp_seq ?_
 refine wp_region_lit ?_
 refine sv_r (v := pt g1 0) hS (ex_mv (hS.get 9 rfl)) fun a hS => ?_
 refine sv_r (v := .string uri) hS (ex_mv (hS.get 1 rfl)) fun a hS => ?_
 refine sv_r (v := pt g1 0) hS (ex_nc (hS.get 11 rfl)) fun a hS => ?_
 refine sv_r (v := pt g1 2) hS (ex_fo (hS.get 13 rfl) fo_m3u8_MediaSegment_2 rfl) fun a hS => ?_
 refine sv_st (i := 0) (v := .string uri) (cs' := #[.int .u64 0, .string ⟨#[]⟩, .string uri, .float .f64 0, .int .i64 0, .int .i64 0, .pointer none, .pointer none, .bool false, .pointer none, .string ⟨#[]⟩]) (m' := [⟨g1, #[.int .u64 0, .string ⟨#[]⟩, .string uri, .float .f64 0, .int .i64 0, .int .i64 0, .pointer none, .pointer none, .bool false, .pointer none, .string ⟨#[]⟩], 127, true⟩, ⟨gr, (List.replicate cap (Value.pointer none)).toArray, 125, true⟩, ⟨gp, (pcs tgt seq disc ver ((.slice (some ⟨gr, 0, none⟩) cap cap)) cap 0 0), 88, true⟩]) hS (su_string _) (hS.get 14 rfl) (hS.get 12 rfl) rfl (show 2 < 11 from by decide) rfl rfl ?_
 intro w3 hty hS
 replace hS : Sv 26 ((9, pt g1 0) :: (8, .nilIface) :: (0, pt gp 0) :: (2, .float .f64 (dur)) :: (3, .string title) :: []) [⟨g1, #[.int .u64 0, .string ⟨#[]⟩, .string uri, .float .f64 0, .int .i64 0, .int .i64 0, .pointer none, .pointer none, .bool false, .pointer none, .string ⟨#[]⟩], 127, true⟩, ⟨gr, (List.replicate cap (Value.pointer none)).toArray, 125, true⟩, ⟨gp, (pcs tgt seq disc ver ((.slice (some ⟨gr, 0, none⟩) cap cap)) cap 0 0), 88, true⟩] (fun x => x = gp ∨ x = gr) w a w3 := hS.pick rfl
 refine nx3 ?_
 refine sv_r (v := pt g1 0) hS (ex_mv (hS.get 9 rfl)) fun a hS => ?_
 refine sv_r (v := .float .f64 (dur)) hS (ex_mv (hS.get 2 rfl)) fun a hS => ?_
 refine sv_r (v := pt g1 0) hS (ex_nc (hS.get 15 rfl)) fun a hS => ?_
 refine sv_r (v := pt g1 3) hS (ex_fo (hS.get 17 rfl) fo_m3u8_MediaSegment_3 rfl) fun a hS => ?_
 refine sv_st (i := 0) (v := .float .f64 (dur)) (cs' := #[.int .u64 0, .string ⟨#[]⟩, .string uri, .float .f64 (dur), .int .i64 0, .int .i64 0, .pointer none, .pointer none, .bool false, .pointer none, .string ⟨#[]⟩]) (m' := [⟨g1, #[.int .u64 0, .string ⟨#[]⟩, .string uri, .float .f64 (dur), .int .i64 0, .int .i64 0, .pointer none, .pointer none, .bool false, .pointer none, .string ⟨#[]⟩], 127, true⟩, ⟨gr, (List.replicate cap (Value.pointer none)).toArray, 125, true⟩, ⟨gp, (pcs tgt seq disc ver ((.slice (some ⟨gr, 0, none⟩) cap cap)) cap 0 0), 88, true⟩]) hS (su_float64 _) (hS.get 18 rfl) (hS.get 16 rfl) rfl (show 3 < 11 from by decide) rfl rfl ?_
 intro w4 hty hS
 refine wpList_nil ?_
 replace hS := hS.cut [9, 8, 0, 3]
 show Code.wp _ _ _ _ _
 refine wp_seq ?_
 refine wp_region_lit ?_
 refine sv_r (v := pt g1 0) hS (ex_mv (hS.get 9 rfl)) fun a hS => ?_
 refine sv_r (v := .string title) hS (ex_mv (hS.get 3 rfl)) fun a hS => ?_
 refine sv_r (v := pt g1 0) hS (ex_nc (hS.get 19 rfl)) fun a hS => ?_
 refine sv_r (v := pt g1 1) hS (ex_fo (hS.get 21 rfl) fo_m3u8_MediaSegment_1 rfl) fun a hS => ?_
 refine sv_st (i := 0) (v := .string title) (cs' := #[.int .u64 0, .string title, .string uri, .float .f64 (dur), .int .i64 0, .int .i64 0, .pointer none, .pointer none, .bool false, .pointer none, .string ⟨#[]⟩]) (m' := [⟨g1, #[.int .u64 0, .string title, .string uri, .float .f64 (dur), .int .i64 0, .int .i64 0, .pointer none, .pointer none, .bool false, .pointer none, .string ⟨#[]⟩], 127, true⟩, ⟨gr, (List.replicate cap (Value.pointer none)).toArray, 125, true⟩, ⟨gp, (pcs tgt seq disc ver ((.slice (some ⟨gr, 0, none⟩) cap cap)) cap 0 0), 88, true⟩]) hS (su_string _) (hS.get 22 rfl) (hS.get 20 rfl) rfl (show 1 < 11 from by decide) rfl rfl ?_
 intro w5 hty hS
 refine wpList_nil ?_
 replace hS := hS.cut [9, 8, 0]
 show Code.wp _ _ _ _ _
 refine wp_seq ?_
 refine wp_region_lit ?_
 refine sv_r (v := pt gp 0) hS (ex_mv (hS.get 0 rfl)) fun a hS => ?_
 refine sv_r (v := pt g1 0) hS (ex_mv (hS.get 9 rfl)) fun a hS => ?_
 have hgz := hS.at 0 rfl
 have hgp1 := hS.at 2 rfl
 have hgr1 := hS.at 1 rfl
 have hgz0 : w.heap.size ≤ g1 := hg1
 replace hS : Sv 26 ((24, pt g1 0) :: (23, pt gp 0) :: (9, pt g1 0) :: (8, .nilIface) :: (0, pt gp 0) :: []) [] (fun x => x = gp ∨ x = gr) w a w5 := (hS.mask [false, false, false]).pick rfl
 refine sv_callo (X := fun x => x = gp ∨ x = gr ∨ x = g1) (S := fun v w' => v = .nilIface ∧ w'.heap[gp]? = some (.cells (pcs c seq disc ver (.slice (some ⟨gr, 0, none⟩) cap cap) cap (1 % cap) 1) 88 (0, 0)) ∧ w'.heap[gr]? = some (.cells ((List.replicate cap (Value.pointer none)).set 0 (pt g1 0)).toArray 125 (0, 0)) ∧ w'.heap[g1]? = some (.cells (scs seq title uri dur) 127 (0, 0))) hS rfl rfl (by decide) (ex_call2 cf_m3u8_MediaPlaylist_AppendSegment (hS.get 23 rfl) (hS.get 24 rfl)) (Calls.mono (appSegC gp gr g1 hk hcap hseq hfl hceil _ hgp1 hgr1 hgz) fun e w' ⟨h1, h2, h3, h4, h5⟩ => ⟨_, h1, h5, rfl, h2, h3, h4⟩) (by intro b hb; cases hb) (fun q hq hlt => by rcases hq with rfl | rfl | rfl; (· exact .inl rfl); (· exact .inr rfl); (· omega)) ?_
 rintro a _ w6 ⟨rfl, k1, k2, k3⟩ hO2 hS
 refine sv_r (v := .nilIface) hS (ex_as (hS.get 25 rfl)) fun a hS => ?_
 replace hS : Sv 26 ((8, .nilIface) :: (9, pt g1 0) :: []) [] (fun x => x = gp ∨ x = gr) w a w6 := hS.pick rfl
 refine nx1 ?_
 refine wp_ret ?_
 try simp only [Exit.inBlock, Exit.then]
 exact ret_of_ev hS.ev rfl (hS.get 8 rfl) ⟨rfl, hS.only, k1, g1, hgz0, k2, k3⟩
end Go.Proofs.YtflppablgdegcaaGreatDoor
