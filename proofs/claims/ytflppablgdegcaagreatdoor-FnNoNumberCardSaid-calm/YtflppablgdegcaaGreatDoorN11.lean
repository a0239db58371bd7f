/- Joined: Pf. -/
import Derived.Test.YtflppablgdegcaaGreatDoorN10
/- strconv.ParseFloat at numbers with few digits and at words. -/
set_option maxRecDepth 100000
set_option maxHeartbeats 8000000
namespace Go.Proofs.YtflppablgdegcaaGreatDoor
open Go.RowKit
/-- A text of a number that is not nought, and its bits. -/
def FloatOf (s : ByteArray) (z : Nat) : Prop := numB s = true ∧ ∃ k : Nat, (Rf.of s.data.toList).exp = -(k : Int) ∧ k ≤ 22 ∧ (Rf.of s.data.toList).m < 4503599627370496 ∧ (Rf.of s.data.toList).m ≠ 0 ∧ Qb (Rf.of s.data.toList).m k z
/-- No number: nothing, or letters from g to x. -/
def NoNum (s : ByteArray) : Prop := s = (⟨#[]⟩ : ByteArray) ∨ (WordB s ∧ 0 < s.size ∧ s.size ≤ 1000)
abbrev synE : Value := .iface 208 (.int .i64 2)
theorem bool2_f (w : World) : Calls Tryz.prog 136 #[.bool false] w fun e w' => e = .returned (.int .u64 0) ∧ Below w.heap.size w w' := by
 refine calls_of_ev Tryz.func136 rfl (show 1 ≤ 4 from by decide) ?_
 intro a hE
 have hE : Ev 4 ((0, .bool false) :: []) a := hE
 have hS : Sv 4 ((0, .bool false) :: []) [] (fun _ => False) w a w := Sv.start hE _ _
 clear hE
 refine wp_seq ?_
 refine wp_region_lit ?_
 refine sv_r (v := .int .u64 0) hS ex_ac fun a hS => ?_
 refine wpList_nil ?_
 replace hS := hS.cut [2, 0]
 show Code.wp _ _ _ _ _
 refine wp_seq ?_
 refine wp_seq ?_
 refine wp_region_lit ?_
 refine sv_r (v := .bool false) hS (ex_mv (hS.get 0 rfl)) fun a hS => ?_
 refine wpList_nil ?_
 replace hS := hS.cut [3, 2]
 show Code.wp _ _ _ _ _
 refine cond_f (hS.get 3 rfl) ?_
 refine wp_skip ?_
 show Code.wp _ _ _ _ _
 refine wp_seq ?_
 refine wp_region_lit ?_
 refine sv_r (v := .int .u64 0) hS ex_ac fun a hS => ?_
 replace hS : Sv 4 ((2, .int .u64 0) :: (3, .bool false) :: []) [] (fun _ => False) w a w := hS.pick rfl
 refine nx1 ?_
 refine wp_ret ?_
 try simp only [Exit.inBlock, Exit.then]
 exact ret_of_ev hS.ev rfl (hS.get 2 rfl) ⟨rfl, hS.toBelow⟩
theorem sh0 {a : Act} {w : World} {dst : Option Nat} {ty : TypeId} {ps : String} {af : Array Edge} {gd : Option (Nat × Bool)} {x : Operand} {T T' : TypeId} (hx : a.eval x = .int .u64 0) : (execOp a.eval ⟨dst, .binOp .shl T x (.const (.int .u64 63)) T', ty, ps, af, gd⟩).run Tryz.prog w = .ok (.value (.int .u64 0)) w := by
 simp only [execOp, hx]
 go_simp
 rfl
theorem atof64_num (s : ByteArray) (z : Nat) (hz : FloatOf s z) {B : Nat} {G : Ge} (w : World) (hG : Env B G w) : Calls Tryz.prog 119 #[.string s] w fun e w' => e = .returned (.tuple #[.float .f64 z, .int .i64 (s.size : Int), .nilIface]) ∧ Below w.heap.size w w' := by
 obtain ⟨hN, k, he, hk, hm, hm0, hq⟩ := hz
 refine calls_of_ev Tryz.func119 rfl (show 1 ≤ 143 from by decide) ?_
 intro a hE
 have hE : Ev 143 ((0, .string s) :: []) a := hE
 have hS : Sv 143 ((0, .string s) :: []) [] (fun _ => False) w a w := Sv.start hE _ _
 clear hE
 refine wp_seq ?_
 refine wp_region_lit ?_
 refine sv_r (v := .float .f64 0) hS ex_ac fun a hS => ?_
 refine sv_r (v := .int .i64 0) hS ex_ac fun a hS => ?_
 refine sv_r (v := .nilIface) hS ex_ac fun a hS => ?_
 refine wpList_nil ?_
 replace hS := hS.cut [4, 3, 2, 0]
 show Code.wp _ _ _ _ _
 refine wp_seq ?_
 refine wp_seq ?_
 refine wp_region_lit ?_
 refine sv_r (v := .string s) hS (ex_mv (hS.get 0 rfl)) fun a hS => ?_
 refine sv_callv (v := .tuple #[.float .f64 0, .int .i64 0, .bool false]) hS rfl rfl (by decide) (ex_call1 cf_istrconv_special (hS.get 27 rfl)) (special_num s hN _) ?_
 intro a w1 hbw1 hS
 refine sv_r (v := .tuple #[.float .f64 0, .int .i64 0, .bool false]) hS (ex_mv (hS.get 28 rfl)) fun a hS => ?_
 refine sv_r (v := .float .f64 0) hS (ei_ext (hS.get 26 rfl) rfl) fun a hS => ?_
 refine sv_r (v := .int .i64 0) hS (ei_ext (hS.get 26 rfl) rfl) fun a hS => ?_
 refine sv_r (v := .bool false) hS (ei_ext (hS.get 26 rfl) rfl) fun a hS => ?_
 refine sv_r (v := .float .f64 0) hS (ex_as (hS.get 29 rfl)) fun a hS => ?_
 refine sv_r (v := .int .i64 0) hS (ex_as (hS.get 30 rfl)) fun a hS => ?_
 refine sv_r (v := .bool false) hS (ex_as (hS.get 31 rfl)) fun a hS => ?_
 refine wpList_nil ?_
 replace hS := hS.cut [7, 6, 5, 4, 3, 2, 0]
 show Code.wp _ _ _ _ _
 refine wp_seq ?_
 refine wp_region_lit ?_
 refine sv_r (v := .bool false) hS (ex_mv (hS.get 7 rfl)) fun a hS => ?_
 replace hS : Sv 143 ((32, .bool false) :: (6, .int .i64 0) :: (5, .float .f64 0) :: (4, .nilIface) :: (3, .int .i64 0) :: (2, .float .f64 0) :: (0, .string s) :: []) [] (fun _ => False) w a w1 := hS.pick rfl
 refine nx1 ?_
 refine cond_f (hS.get 32 rfl) ?_
 refine wp_skip ?_
 show Code.wp _ _ _ _ _
 refine wp_seq ?_
 refine wp_region_lit ?_
 refine sv_r (v := .string s) hS (ex_mv (hS.get 0 rfl)) fun a hS => ?_
 refine sv_callv (v := .tuple #[.int .u64 (((Rf.of s.data.toList).m : Nat) : Int), .int .i64 (-(k : Int)), .bool false, .bool false, .bool false, .int .i64 (s.size : Int), .bool true]) hS rfl rfl (by decide) (ex_call1 cf_istrconv_readFloat (hS.get 36 rfl)) (Calls.mono (readFloat_num s hN _) (by rintro e w' ⟨h1, h2⟩; rw [he] at h1; exact ⟨h1, h2⟩)) ?_
 intro a w2 hbw2 hS
 refine sv_r (v := .tuple #[.int .u64 (((Rf.of s.data.toList).m : Nat) : Int), .int .i64 (-(k : Int)), .bool false, .bool false, .bool false, .int .i64 (s.size : Int), .bool true]) hS (ex_mv (hS.get 37 rfl)) fun a hS => ?_
 refine sv_r (v := .int .u64 (((Rf.of s.data.toList).m : Nat) : Int)) hS (ei_ext (hS.get 35 rfl) rfl) fun a hS => ?_
 refine sv_r (v := .int .i64 (-(k : Int))) hS (ei_ext (hS.get 35 rfl) rfl) fun a hS => ?_
 refine sv_r (v := .bool false) hS (ei_ext (hS.get 35 rfl) rfl) fun a hS => ?_
 refine sv_r (v := .bool false) hS (ei_ext (hS.get 35 rfl) rfl) fun a hS => ?_
 refine sv_r (v := .bool false) hS (ei_ext (hS.get 35 rfl) rfl) fun a hS => ?_
 refine sv_r (v := .int .i64 ((s.size : Nat) : Int)) hS (ei_ext (hS.get 35 rfl) rfl) fun a hS => ?_
 refine sv_r (v := .bool true) hS (ei_ext (hS.get 35 rfl) rfl) fun a hS => ?_
 refine sv_r (v := .int .u64 (((Rf.of s.data.toList).m : Nat) : Int)) hS (ex_as (hS.get 38 rfl)) fun a hS => ?_
 refine sv_r (v := .int .i64 (-(k : Int))) hS (ex_as (hS.get 39 rfl)) fun a hS => ?_
 refine sv_r (v := .bool false) hS (ex_as (hS.get 40 rfl)) fun a hS => ?_
 refine sv_r (v := .bool false) hS (ex_as (hS.get 41 rfl)) fun a hS => ?_
 refine sv_r (v := .bool false) hS (ex_as (hS.get 42 rfl)) fun a hS => ?_
 refine sv_r (v := .int .i64 ((s.size : Nat) : Int)) hS (ex_as (hS.get 43 rfl)) fun a hS => ?_
 refine sv_r (v := .bool true) hS (ex_as (hS.get 44 rfl)) fun a hS => ?_
 refine wpList_nil ?_
 replace hS := hS.cut [13, 3, 12, 11, 10, 9, 8, 32, 6, 5, 4, 2, 0]
 show Code.wp _ _ _ _ _
 refine wp_seq ?_
 refine wp_seq ?_
 refine wp_region_lit ?_
 refine sv_r (v := .bool true) hS (ex_mv (hS.get 13 rfl)) fun a hS => ?_
 refine sv_r (v := .bool false) hS (ex_not (hS.get 45 rfl)) fun a hS => ?_
 refine wpList_nil ?_
 replace hS := hS.cut [46, 3, 12, 11, 10, 9, 8, 32, 6, 5, 4, 2, 0]
 show Code.wp _ _ _ _ _
 refine cond_f (hS.get 46 rfl) ?_
 refine wp_skip ?_
 show Code.wp _ _ _ _ _
 refine wp_seq ?_
 refine wp_seq ?_
 refine wp_region_lit ?_
 refine sv_r (v := .bool false) hS (ex_mv (hS.get 12 rfl)) fun a hS => ?_
 replace hS : Sv 143 ((49, .bool false) :: (46, .bool false) :: (3, .int .i64 ((s.size : Nat) : Int)) :: (11, .bool false) :: (10, .bool false) :: (9, .int .i64 (-(k : Int))) :: (8, .int .u64 (((Rf.of s.data.toList).m : Nat) : Int)) :: (32, .bool false) :: (6, .int .i64 0) :: (5, .float .f64 0) :: (4, .nilIface) :: (2, .float .f64 0) :: (0, .string s) :: []) [] (fun _ => False) w a w2 := hS.pick rfl
 refine nx1 ?_
 refine cond_f (hS.get 49 rfl) ?_
 refine wp_skip ?_
 show Code.wp _ _ _ _ _
 refine wp_seq ?_
 refine wp_seq ?_
 refine wp_region_lit ?_
 refine sv_r (v := .bool true) hS (ex_ldg lt_bool (hG.below hS.toBelow).opt) fun a hS => ?_
 refine wpList_nil ?_
 replace hS := hS.cut [64, 49, 46, 3, 11, 10, 9, 8, 32, 6, 5, 4, 2, 0]
 show Code.wp _ _ _ _ _
 refine cond_t (hS.get 64 rfl) ?_
 refine wp_seq ?_
 refine wp_region_lit ?_
 refine sv_r (v := .bool false) hS (ex_mv (hS.get 10 rfl)) fun a hS => ?_
 refine sv_callv (v := .int .u64 0) hS rfl rfl (by decide) (ex_call1 cf_istrconv_bool2_uint64 (hS.get 65 rfl)) (bool2_f _) ?_
 intro a w3 hbw3 hS
 refine sv_r (v := .int .u64 0) hS (sh0 (hS.get 66 rfl)) fun a hS => ?_
 refine sv_r (v := .int .u64 0) hS (ex_as (hS.get 67 rfl)) fun a hS => ?_
 refine wpList_nil ?_
 replace hS := hS.cut [16, 64, 49, 46, 3, 11, 10, 9, 8, 32, 6, 5, 4, 2, 0]
 show Code.wp _ _ _ _ _
 refine wp_seq ?_
 refine wp_seq ?_
 refine wp_region_lit ?_
 refine sv_r (v := .int .u64 (((Rf.of s.data.toList).m : Nat) : Int)) hS (ex_mv (hS.get 8 rfl)) fun a hS => ?_
 refine sv_r (v := .bool false) hS (ei_eql (hS.get 68 rfl) rfl (by rw [decide_eq_false_iff_not]; omega)) fun a hS => ?_
 replace hS : Sv 143 ((69, .bool false) :: (16, .int .u64 0) :: (64, .bool true) :: (49, .bool false) :: (46, .bool false) :: (3, .int .i64 ((s.size : Nat) : Int)) :: (11, .bool false) :: (10, .bool false) :: (9, .int .i64 (-(k : Int))) :: (8, .int .u64 (((Rf.of s.data.toList).m : Nat) : Int)) :: (32, .bool false) :: (6, .int .i64 0) :: (5, .float .f64 0) :: (4, .nilIface) :: (2, .float .f64 0) :: (0, .string s) :: []) [] (fun _ => False) w a w3 := hS.pick rfl
 refine nx1 ?_
 refine cond_f (hS.get 69 rfl) ?_
 refine wp_skip ?_
 show Code.wp _ _ _ _ _
 refine wp_seq ?_
 refine wp_seq ?_
 refine wp_region_lit ?_
 refine sv_r (v := .int .i64 (-(k : Int))) hS (ex_mv (hS.get 9 rfl)) fun a hS => ?_
 refine sv_r (v := .bool false) hS (ei_gtr (hS.get 74 rfl) rfl (by rw [decide_eq_false_iff_not]; omega)) fun a hS => ?_
 refine wpList_nil ?_
 replace hS := hS.cut [75, 69, 16, 64, 49, 46, 3, 11, 10, 9, 8, 32, 6, 5, 4, 2, 0]
 show Code.wp _ _ _ _ _
 refine cond_f (hS.get 75 rfl) ?_
 refine wp_skip ?_
 show Code.wp _ _ _ _ _
 refine wp_seq ?_
 refine wp_seq ?_
 refine wp_region_lit ?_
 refine sv_r (v := .int .i64 (-(k : Int))) hS (ex_mv (hS.get 9 rfl)) fun a hS => ?_
 refine sv_r (v := .bool false) hS (ei_lss (hS.get 81 rfl) rfl (by rw [decide_eq_false_iff_not]; omega)) fun a hS => ?_
 refine wpList_nil ?_
 replace hS := hS.cut [82, 75, 69, 16, 64, 49, 46, 3, 11, 10, 9, 8, 32, 6, 5, 4, 2, 0]
 show Code.wp _ _ _ _ _
 refine cond_f (hS.get 82 rfl) ?_
 refine wp_skip ?_
 show Code.wp _ _ _ _ _
 refine wp_seq ?_
 refine wp_seq ?_
 refine wp_region_lit ?_
 refine sv_r (v := .bool false) hS (ex_mv (hS.get 11 rfl)) fun a hS => ?_
 refine sv_r (v := .bool true) hS (ex_not (hS.get 87 rfl)) fun a hS => ?_
 replace hS : Sv 143 ((88, .bool true) :: (82, .bool false) :: (75, .bool false) :: (69, .bool false) :: (16, .int .u64 0) :: (64, .bool true) :: (49, .bool false) :: (46, .bool false) :: (3, .int .i64 ((s.size : Nat) : Int)) :: (11, .bool false) :: (10, .bool false) :: (9, .int .i64 (-(k : Int))) :: (8, .int .u64 (((Rf.of s.data.toList).m : Nat) : Int)) :: (32, .bool false) :: (6, .int .i64 0) :: (5, .float .f64 0) :: (4, .nilIface) :: (2, .float .f64 0) :: (0, .string s) :: []) [] (fun _ => False) w a w3 := hS.pick rfl
 refine nx1 ?_
 refine cond_t (hS.get 88 rfl) ?_
 refine wp_seq ?_
 refine wp_region_lit ?_
 refine sv_r (v := .int .u64 (((Rf.of s.data.toList).m : Nat) : Int)) hS (ex_mv (hS.get 8 rfl)) fun a hS => ?_
 refine sv_r (v := .int .i64 (-(k : Int))) hS (ex_mv (hS.get 9 rfl)) fun a hS => ?_
 refine sv_r (v := .bool false) hS (ex_mv (hS.get 10 rfl)) fun a hS => ?_
 refine sv_callv (v := .tuple #[.float .f64 z, .bool true]) hS rfl rfl (by decide) (ex_call3 cf_istrconv_atof64exact (hS.get 90 rfl) (hS.get 91 rfl) (hS.get 92 rfl)) (atofexact_any _ k z hm hq _ (hG.below hS.toBelow)) ?_
 intro a w4 hbw4 hS
 refine sv_r (v := .tuple #[.float .f64 z, .bool true]) hS (ex_mv (hS.get 93 rfl)) fun a hS => ?_
 refine sv_r (v := .float .f64 (z)) hS (ei_ext (hS.get 89 rfl) rfl) fun a hS => ?_
 refine sv_r (v := .bool true) hS (ei_ext (hS.get 89 rfl) rfl) fun a hS => ?_
 refine sv_r (v := .float .f64 (z)) hS (ex_as (hS.get 94 rfl)) fun a hS => ?_
 refine sv_r (v := .bool true) hS (ex_as (hS.get 95 rfl)) fun a hS => ?_
 refine wpList_nil ?_
 replace hS := hS.cut [18, 17, 88, 82, 75, 69, 16, 64, 49, 46, 3, 11, 10, 9, 8, 32, 6, 5, 4, 2, 0]
 show Code.wp _ _ _ _ _
 refine wp_seq ?_
 refine wp_region_lit ?_
 refine sv_r (v := .bool true) hS (ex_mv (hS.get 18 rfl)) fun a hS => ?_
 refine wpList_nil ?_
 replace hS := hS.cut [96, 17, 88, 82, 75, 69, 16, 64, 49, 46, 3, 11, 10, 9, 8, 32, 6, 5, 4, 2, 0]
 show Code.wp _ _ _ _ _
 refine cond_t (hS.get 96 rfl) ?_
 refine wp_seq ?_
 refine wp_region_lit ?_
 refine sv_r (v := .float .f64 (z)) hS (ex_mv (hS.get 17 rfl)) fun a hS => ?_
 refine sv_r (v := .int .i64 ((s.size : Nat) : Int)) hS (ex_mv (hS.get 3 rfl)) fun a hS => ?_
 refine sv_r (v := .float .f64 (z)) hS (ex_as (hS.get 97 rfl)) fun a hS => ?_
 refine sv_r (v := .int .i64 ((s.size : Nat) : Int)) hS (ex_as (hS.get 98 rfl)) fun a hS => ?_
 refine sv_r (v := .nilIface) hS ex_ac fun a hS => ?_
 replace hS : Sv 143 ((4, .nilIface) :: (3, .int .i64 ((s.size : Nat) : Int)) :: (2, .float .f64 (z)) :: (96, .bool true) :: (88, .bool true) :: (82, .bool false) :: (75, .bool false) :: (69, .bool false) :: (16, .int .u64 0) :: (64, .bool true) :: (49, .bool false) :: (46, .bool false) :: (11, .bool false) :: (10, .bool false) :: (9, .int .i64 (-(k : Int))) :: (8, .int .u64 (((Rf.of s.data.toList).m : Nat) : Int)) :: (32, .bool false) :: (6, .int .i64 0) :: (5, .float .f64 0) :: (0, .string s) :: []) [] (fun _ => False) w a w4 := hS.pick rfl
 refine nx1 ?_
 refine wp_ret ?_
 try simp only [Exit.inBlock, Exit.then]
 exact ret3_of_ev hS.ev rfl (hS.get 2 rfl) (hS.get 3 rfl) (hS.get 4 rfl) ⟨rfl, hS.toBelow⟩
theorem atof64_nil (w : World) : Calls Tryz.prog 119 #[.string ⟨#[]⟩] w fun e w' => e = .returned (.tuple #[.float .f64 0, .int .i64 0, synE]) ∧ Below w.heap.size w w' := by
 refine calls_of_ev Tryz.func119 rfl (show 1 ≤ 143 from by decide) ?_
 intro a hE
 have hE : Ev 143 ((0, .string (⟨#[]⟩)) :: []) a := hE
 have hS : Sv 143 ((0, .string (⟨#[]⟩)) :: []) [] (fun _ => False) w a w := Sv.start hE _ _
 clear hE
 refine wp_seq ?_
 refine wp_region_lit ?_
 refine sv_r (v := .float .f64 0) hS ex_ac fun a hS => ?_
 refine sv_r (v := .int .i64 0) hS ex_ac fun a hS => ?_
 refine sv_r (v := .nilIface) hS ex_ac fun a hS => ?_
 refine wpList_nil ?_
 replace hS := hS.cut [4, 3, 2, 0]
 show Code.wp _ _ _ _ _
 refine wp_seq ?_
 refine wp_seq ?_
 refine wp_region_lit ?_
 refine sv_r (v := .string (⟨#[]⟩)) hS (ex_mv (hS.get 0 rfl)) fun a hS => ?_
 refine sv_callv (v := .tuple #[.float .f64 0, .int .i64 0, .bool false]) hS rfl rfl (by decide) (ex_call1 cf_istrconv_special (hS.get 27 rfl)) (special_nil _) ?_
 intro a w1 hbw1 hS
 refine sv_r (v := .tuple #[.float .f64 0, .int .i64 0, .bool false]) hS (ex_mv (hS.get 28 rfl)) fun a hS => ?_
 refine sv_r (v := .float .f64 0) hS (ei_ext (hS.get 26 rfl) rfl) fun a hS => ?_
 refine sv_r (v := .int .i64 0) hS (ei_ext (hS.get 26 rfl) rfl) fun a hS => ?_
 refine sv_r (v := .bool false) hS (ei_ext (hS.get 26 rfl) rfl) fun a hS => ?_
 refine sv_r (v := .float .f64 0) hS (ex_as (hS.get 29 rfl)) fun a hS => ?_
 refine sv_r (v := .int .i64 0) hS (ex_as (hS.get 30 rfl)) fun a hS => ?_
 refine sv_r (v := .bool false) hS (ex_as (hS.get 31 rfl)) fun a hS => ?_
 refine wpList_nil ?_
 replace hS := hS.cut [7, 6, 5, 4, 3, 2, 0]
 show Code.wp _ _ _ _ _
 refine wp_seq ?_
 refine wp_region_lit ?_
 refine sv_r (v := .bool false) hS (ex_mv (hS.get 7 rfl)) fun a hS => ?_
 replace hS : Sv 143 ((32, .bool false) :: (6, .int .i64 0) :: (5, .float .f64 0) :: (4, .nilIface) :: (3, .int .i64 0) :: (2, .float .f64 0) :: (0, .string (⟨#[]⟩)) :: []) [] (fun _ => False) w a w1 := hS.pick rfl
 refine nx1 ?_
 refine cond_f (hS.get 32 rfl) ?_
 refine wp_skip ?_
 show Code.wp _ _ _ _ _
 refine wp_seq ?_
 refine wp_region_lit ?_
 refine sv_r (v := .string (⟨#[]⟩)) hS (ex_mv (hS.get 0 rfl)) fun a hS => ?_
 refine sv_callv (v := .tuple #[.int .u64 0, .int .i64 0, .bool false, .bool false, .bool false, .int .i64 0, .bool false]) hS rfl rfl (by decide) (ex_call1 cf_istrconv_readFloat (hS.get 36 rfl)) (readFloat_nil _) ?_
 intro a w2 hbw2 hS
 refine sv_r (v := .tuple #[.int .u64 0, .int .i64 0, .bool false, .bool false, .bool false, .int .i64 0, .bool false]) hS (ex_mv (hS.get 37 rfl)) fun a hS => ?_
 refine sv_r (v := .int .u64 0) hS (ei_ext (hS.get 35 rfl) rfl) fun a hS => ?_
 refine sv_r (v := .int .i64 0) hS (ei_ext (hS.get 35 rfl) rfl) fun a hS => ?_
 refine sv_r (v := .bool false) hS (ei_ext (hS.get 35 rfl) rfl) fun a hS => ?_
 refine sv_r (v := .bool false) hS (ei_ext (hS.get 35 rfl) rfl) fun a hS => ?_
 refine sv_r (v := .bool false) hS (ei_ext (hS.get 35 rfl) rfl) fun a hS => ?_
 refine sv_r (v := .int .i64 0) hS (ei_ext (hS.get 35 rfl) rfl) fun a hS => ?_
 refine sv_r (v := .bool false) hS (ei_ext (hS.get 35 rfl) rfl) fun a hS => ?_
 refine sv_r (v := .int .u64 0) hS (ex_as (hS.get 38 rfl)) fun a hS => ?_
 refine sv_r (v := .int .i64 0) hS (ex_as (hS.get 39 rfl)) fun a hS => ?_
 refine sv_r (v := .bool false) hS (ex_as (hS.get 40 rfl)) fun a hS => ?_
 refine sv_r (v := .bool false) hS (ex_as (hS.get 41 rfl)) fun a hS => ?_
 refine sv_r (v := .bool false) hS (ex_as (hS.get 42 rfl)) fun a hS => ?_
 refine sv_r (v := .int .i64 0) hS (ex_as (hS.get 43 rfl)) fun a hS => ?_
 refine sv_r (v := .bool false) hS (ex_as (hS.get 44 rfl)) fun a hS => ?_
 refine wpList_nil ?_
 replace hS := hS.cut [13, 3, 12, 11, 10, 9, 8, 32, 6, 5, 4, 2, 0]
 show Code.wp _ _ _ _ _
 refine wp_seq ?_
 refine wp_seq ?_
 refine wp_region_lit ?_
 refine sv_r (v := .bool false) hS (ex_mv (hS.get 13 rfl)) fun a hS => ?_
 refine sv_r (v := .bool true) hS (ex_not (hS.get 45 rfl)) fun a hS => ?_
 refine wpList_nil ?_
 replace hS := hS.cut [46, 3, 12, 11, 10, 9, 8, 32, 6, 5, 4, 2, 0]
 show Code.wp _ _ _ _ _
 refine cond_t (hS.get 46 rfl) ?_
 refine wp_seq ?_
 refine wp_region_lit ?_
 refine sv_r (v := .int .i64 0) hS (ex_mv (hS.get 3 rfl)) fun a hS => ?_
 refine sv_r (v := .iface 208 (.int .i64 2)) hS (ex_mic (by kernel_rfl)) fun a hS => ?_
 refine sv_r (v := .float .f64 0) hS ex_ac fun a hS => ?_
 refine sv_r (v := .int .i64 0) hS (ex_as (hS.get 47 rfl)) fun a hS => ?_
 refine sv_r (v := .iface 208 (.int .i64 2)) hS (ex_as (hS.get 48 rfl)) fun a hS => ?_
 replace hS : Sv 143 ((4, .iface 208 (.int .i64 2)) :: (3, .int .i64 0) :: (2, .float .f64 0) :: (46, .bool true) :: (12, .bool false) :: (11, .bool false) :: (10, .bool false) :: (9, .int .i64 0) :: (8, .int .u64 0) :: (32, .bool false) :: (6, .int .i64 0) :: (5, .float .f64 0) :: (0, .string (⟨#[]⟩)) :: []) [] (fun _ => False) w a w2 := hS.pick rfl
 refine nx1 ?_
 refine wp_ret ?_
 try simp only [Exit.inBlock, Exit.then]
 exact ret3_of_ev hS.ev rfl (hS.get 2 rfl) (hS.get 3 rfl) (hS.get 4 rfl) ⟨rfl, hS.toBelow⟩
theorem atof64_word (s : ByteArray) (hw : WordB s) (h0 : 0 < s.size) (hz : s.size ≤ 1000) (w : World) : Calls Tryz.prog 119 #[.string s] w fun e w' => e = .returned (.tuple #[.float .f64 0, .int .i64 0, synE]) ∧ Below w.heap.size w w' := by
 refine calls_of_ev Tryz.func119 rfl (show 1 ≤ 143 from by decide) ?_
 intro a hE
 have hE : Ev 143 ((0, .string s) :: []) a := hE
 have hS : Sv 143 ((0, .string s) :: []) [] (fun _ => False) w a w := Sv.start hE _ _
 clear hE
 refine wp_seq ?_
 refine wp_region_lit ?_
 refine sv_r (v := .float .f64 0) hS ex_ac fun a hS => ?_
 refine sv_r (v := .int .i64 0) hS ex_ac fun a hS => ?_
 refine sv_r (v := .nilIface) hS ex_ac fun a hS => ?_
 refine wpList_nil ?_
 replace hS := hS.cut [4, 3, 2, 0]
 show Code.wp _ _ _ _ _
 refine wp_seq ?_
 refine wp_seq ?_
 refine wp_region_lit ?_
 refine sv_r (v := .string s) hS (ex_mv (hS.get 0 rfl)) fun a hS => ?_
 refine sv_callv (v := .tuple #[.float .f64 0, .int .i64 0, .bool false]) hS rfl rfl (by decide) (ex_call1 cf_istrconv_special (hS.get 27 rfl)) (special_word s hw h0 hz _) ?_
 intro a w1 hbw1 hS
 refine sv_r (v := .tuple #[.float .f64 0, .int .i64 0, .bool false]) hS (ex_mv (hS.get 28 rfl)) fun a hS => ?_
 refine sv_r (v := .float .f64 0) hS (ei_ext (hS.get 26 rfl) rfl) fun a hS => ?_
 refine sv_r (v := .int .i64 0) hS (ei_ext (hS.get 26 rfl) rfl) fun a hS => ?_
 refine sv_r (v := .bool false) hS (ei_ext (hS.get 26 rfl) rfl) fun a hS => ?_
 refine sv_r (v := .float .f64 0) hS (ex_as (hS.get 29 rfl)) fun a hS => ?_
 refine sv_r (v := .int .i64 0) hS (ex_as (hS.get 30 rfl)) fun a hS => ?_
 refine sv_r (v := .bool false) hS (ex_as (hS.get 31 rfl)) fun a hS => ?_
 refine wpList_nil ?_
 replace hS := hS.cut [7, 6, 5, 4, 3, 2, 0]
 show Code.wp _ _ _ _ _
 refine wp_seq ?_
 refine wp_region_lit ?_
 refine sv_r (v := .bool false) hS (ex_mv (hS.get 7 rfl)) fun a hS => ?_
 replace hS : Sv 143 ((32, .bool false) :: (6, .int .i64 0) :: (5, .float .f64 0) :: (4, .nilIface) :: (3, .int .i64 0) :: (2, .float .f64 0) :: (0, .string s) :: []) [] (fun _ => False) w a w1 := hS.pick rfl
 refine nx1 ?_
 refine cond_f (hS.get 32 rfl) ?_
 refine wp_skip ?_
 show Code.wp _ _ _ _ _
 refine wp_seq ?_
 refine wp_region_lit ?_
 refine sv_r (v := .string s) hS (ex_mv (hS.get 0 rfl)) fun a hS => ?_
 refine sv_callv (v := .tuple #[.int .u64 0, .int .i64 0, .bool false, .bool false, .bool false, .int .i64 0, .bool false]) hS rfl rfl (by decide) (ex_call1 cf_istrconv_readFloat (hS.get 36 rfl)) (readFloat_word s hw h0 hz _) ?_
 intro a w2 hbw2 hS
 refine sv_r (v := .tuple #[.int .u64 0, .int .i64 0, .bool false, .bool false, .bool false, .int .i64 0, .bool false]) hS (ex_mv (hS.get 37 rfl)) fun a hS => ?_
 refine sv_r (v := .int .u64 0) hS (ei_ext (hS.get 35 rfl) rfl) fun a hS => ?_
 refine sv_r (v := .int .i64 0) hS (ei_ext (hS.get 35 rfl) rfl) fun a hS => ?_
 refine sv_r (v := .bool false) hS (ei_ext (hS.get 35 rfl) rfl) fun a hS => ?_
 refine sv_r (v := .bool false) hS (ei_ext (hS.get 35 rfl) rfl) fun a hS => ?_
 refine sv_r (v := .bool false) hS (ei_ext (hS.get 35 rfl) rfl) fun a hS => ?_
 refine sv_r (v := .int .i64 0) hS (ei_ext (hS.get 35 rfl) rfl) fun a hS => ?_
 refine sv_r (v := .bool false) hS (ei_ext (hS.get 35 rfl) rfl) fun a hS => ?_
 refine sv_r (v := .int .u64 0) hS (ex_as (hS.get 38 rfl)) fun a hS => ?_
 refine sv_r (v := .int .i64 0) hS (ex_as (hS.get 39 rfl)) fun a hS => ?_
 refine sv_r (v := .bool false) hS (ex_as (hS.get 40 rfl)) fun a hS => ?_
 refine sv_r (v := .bool false) hS (ex_as (hS.get 41 rfl)) fun a hS => ?_
 refine sv_r (v := .bool false) hS (ex_as (hS.get 42 rfl)) fun a hS => ?_
 refine sv_r (v := .int .i64 0) hS (ex_as (hS.get 43 rfl)) fun a hS => ?_
 refine sv_r (v := .bool false) hS (ex_as (hS.get 44 rfl)) fun a hS => ?_
 refine wpList_nil ?_
 replace hS := hS.cut [13, 3, 12, 11, 10, 9, 8, 32, 6, 5, 4, 2, 0]
 show Code.wp _ _ _ _ _
 refine wp_seq ?_
 refine wp_seq ?_
 refine wp_region_lit ?_
 refine sv_r (v := .bool false) hS (ex_mv (hS.get 13 rfl)) fun a hS => ?_
 refine sv_r (v := .bool true) hS (ex_not (hS.get 45 rfl)) fun a hS => ?_
 refine wpList_nil ?_
 replace hS := hS.cut [46, 3, 12, 11, 10, 9, 8, 32, 6, 5, 4, 2, 0]
 show Code.wp _ _ _ _ _
 refine cond_t (hS.get 46 rfl) ?_
 refine wp_seq ?_
 refine wp_region_lit ?_
 refine sv_r (v := .int .i64 0) hS (ex_mv (hS.get 3 rfl)) fun a hS => ?_
 refine sv_r (v := .iface 208 (.int .i64 2)) hS (ex_mic (by kernel_rfl)) fun a hS => ?_
 refine sv_r (v := .float .f64 0) hS ex_ac fun a hS => ?_
 refine sv_r (v := .int .i64 0) hS (ex_as (hS.get 47 rfl)) fun a hS => ?_
 refine sv_r (v := .iface 208 (.int .i64 2)) hS (ex_as (hS.get 48 rfl)) fun a hS => ?_
 replace hS : Sv 143 ((4, .iface 208 (.int .i64 2)) :: (3, .int .i64 0) :: (2, .float .f64 0) :: (46, .bool true) :: (12, .bool false) :: (11, .bool false) :: (10, .bool false) :: (9, .int .i64 0) :: (8, .int .u64 0) :: (32, .bool false) :: (6, .int .i64 0) :: (5, .float .f64 0) :: (0, .string s) :: []) [] (fun _ => False) w a w2 := hS.pick rfl
 refine nx1 ?_
 refine wp_ret ?_
 try simp only [Exit.inBlock, Exit.then]
 exact ret3_of_ev hS.ev rfl (hS.get 2 rfl) (hS.get 3 rfl) (hS.get 4 rfl) ⟨rfl, hS.toBelow⟩
theorem pfPrefix_num (s : ByteArray) (z : Nat) (hz : FloatOf s z) {B : Nat} {G : Ge} (w : World) (hG : Env B G w) : Calls Tryz.prog 104 #[.string s, .int .i64 64] w fun e w' => e = .returned (.tuple #[.float .f64 (z), .int .i64 ((s.size : Nat) : Int), .nilIface]) ∧ Below w.heap.size w w' := by
 refine calls_of_ev Tryz.func104 rfl (show 2 ≤ 27 from by decide) ?_
 intro a hE
 have hE : Ev 27 ((0, .string s) :: (1, .int .i64 64) :: []) a := hE
 have hS : Sv 27 ((0, .string s) :: (1, .int .i64 64) :: []) [] (fun _ => False) w a w := Sv.start hE _ _
 clear hE
 refine wp_seq ?_
 refine wp_region_lit ?_
 refine sv_r (v := .float .f64 0) hS ex_ac fun a hS => ?_
 refine sv_r (v := .int .i64 0) hS ex_ac fun a hS => ?_
 refine sv_r (v := .nilIface) hS ex_ac fun a hS => ?_
 refine wpList_nil ?_
 replace hS := hS.cut [6, 5, 4, 0, 1]
 show Code.wp _ _ _ _ _
 refine wp_seq ?_
 refine wp_seq ?_
 refine wp_region_lit ?_
 refine sv_r (v := .int .i64 64) hS (ex_mv (hS.get 1 rfl)) fun a hS => ?_
 refine sv_r (v := .bool false) hS (ei_eql (hS.get 10 rfl) rfl (by decide)) fun a hS => ?_
 refine wpList_nil ?_
 replace hS := hS.cut [11, 6, 5, 4, 0]
 show Code.wp _ _ _ _ _
 refine cond_f (hS.get 11 rfl) ?_
 refine wp_skip ?_
 show Code.wp _ _ _ _ _
 refine wp_seq ?_
 refine wp_region_lit ?_
 refine sv_r (v := .string s) hS (ex_mv (hS.get 0 rfl)) fun a hS => ?_
 refine sv_callv (v := .tuple #[.float .f64 (z), .int .i64 ((s.size : Nat) : Int), .nilIface]) hS rfl rfl (by decide) (ex_call1 cf_istrconv_atof64 (hS.get 22 rfl)) (atof64_num s z hz _ (hG.below hS.toBelow)) ?_
 intro a w1 hbw1 hS
 refine sv_r (v := .float .f64 (z)) hS (ei_ext (hS.get 23 rfl) rfl) fun a hS => ?_
 refine sv_r (v := .int .i64 ((s.size : Nat) : Int)) hS (ei_ext (hS.get 23 rfl) rfl) fun a hS => ?_
 refine sv_r (v := .nilIface) hS (ei_ext (hS.get 23 rfl) rfl) fun a hS => ?_
 refine sv_r (v := .float .f64 (z)) hS (ex_as (hS.get 24 rfl)) fun a hS => ?_
 refine sv_r (v := .int .i64 ((s.size : Nat) : Int)) hS (ex_as (hS.get 25 rfl)) fun a hS => ?_
 refine sv_r (v := .nilIface) hS (ex_as (hS.get 26 rfl)) fun a hS => ?_
 replace hS : Sv 27 ((6, .nilIface) :: (5, .int .i64 ((s.size : Nat) : Int)) :: (4, .float .f64 (z)) :: (11, .bool false) :: (0, .string s) :: []) [] (fun _ => False) w a w1 := hS.pick rfl
 refine nx1 ?_
 refine wp_ret ?_
 try simp only [Exit.inBlock, Exit.then]
 exact ret3_of_ev hS.ev rfl (hS.get 4 rfl) (hS.get 5 rfl) (hS.get 6 rfl) ⟨rfl, hS.toBelow⟩
theorem pfPrefix_nil (w : World) : Calls Tryz.prog 104 #[.string (⟨#[]⟩), .int .i64 64] w fun e w' => e = .returned (.tuple #[.float .f64 0, .int .i64 0, .iface 208 (.int .i64 2)]) ∧ Below w.heap.size w w' := by
 refine calls_of_ev Tryz.func104 rfl (show 2 ≤ 27 from by decide) ?_
 intro a hE
 have hE : Ev 27 ((0, .string (⟨#[]⟩)) :: (1, .int .i64 64) :: []) a := hE
 have hS : Sv 27 ((0, .string (⟨#[]⟩)) :: (1, .int .i64 64) :: []) [] (fun _ => False) w a w := Sv.start hE _ _
 clear hE
 refine wp_seq ?_
 refine wp_region_lit ?_
 refine sv_r (v := .float .f64 0) hS ex_ac fun a hS => ?_
 refine sv_r (v := .int .i64 0) hS ex_ac fun a hS => ?_
 refine sv_r (v := .nilIface) hS ex_ac fun a hS => ?_
 refine wpList_nil ?_
 replace hS := hS.cut [6, 5, 4, 0, 1]
 show Code.wp _ _ _ _ _
 refine wp_seq ?_
 refine wp_seq ?_
 refine wp_region_lit ?_
 refine sv_r (v := .int .i64 64) hS (ex_mv (hS.get 1 rfl)) fun a hS => ?_
 refine sv_r (v := .bool false) hS (ei_eql (hS.get 10 rfl) rfl (by decide)) fun a hS => ?_
 refine wpList_nil ?_
 replace hS := hS.cut [11, 6, 5, 4, 0]
 show Code.wp _ _ _ _ _
 refine cond_f (hS.get 11 rfl) ?_
 refine wp_skip ?_
 show Code.wp _ _ _ _ _
 refine wp_seq ?_
 refine wp_region_lit ?_
 refine sv_r (v := .string (⟨#[]⟩)) hS (ex_mv (hS.get 0 rfl)) fun a hS => ?_
 refine sv_callv (v := .tuple #[.float .f64 0, .int .i64 0, .iface 208 (.int .i64 2)]) hS rfl rfl (by decide) (ex_call1 cf_istrconv_atof64 (hS.get 22 rfl)) (atof64_nil _) ?_
 intro a w1 hbw1 hS
 refine sv_r (v := .float .f64 0) hS (ei_ext (hS.get 23 rfl) rfl) fun a hS => ?_
 refine sv_r (v := .int .i64 0) hS (ei_ext (hS.get 23 rfl) rfl) fun a hS => ?_
 refine sv_r (v := .iface 208 (.int .i64 2)) hS (ei_ext (hS.get 23 rfl) rfl) fun a hS => ?_
 refine sv_r (v := .float .f64 0) hS (ex_as (hS.get 24 rfl)) fun a hS => ?_
 refine sv_r (v := .int .i64 0) hS (ex_as (hS.get 25 rfl)) fun a hS => ?_
 refine sv_r (v := .iface 208 (.int .i64 2)) hS (ex_as (hS.get 26 rfl)) fun a hS => ?_
 replace hS : Sv 27 ((6, .iface 208 (.int .i64 2)) :: (5, .int .i64 0) :: (4, .float .f64 0) :: (11, .bool false) :: (0, .string (⟨#[]⟩)) :: []) [] (fun _ => False) w a w1 := hS.pick rfl
 refine nx1 ?_
 refine wp_ret ?_
 try simp only [Exit.inBlock, Exit.then]
 exact ret3_of_ev hS.ev rfl (hS.get 4 rfl) (hS.get 5 rfl) (hS.get 6 rfl) ⟨rfl, hS.toBelow⟩
theorem pfPrefix_word (s : ByteArray) (hw : WordB s) (h0 : 0 < s.size) (hz : s.size ≤ 1000) (w : World) : Calls Tryz.prog 104 #[.string s, .int .i64 64] w fun e w' => e = .returned (.tuple #[.float .f64 0, .int .i64 0, .iface 208 (.int .i64 2)]) ∧ Below w.heap.size w w' := by
 refine calls_of_ev Tryz.func104 rfl (show 2 ≤ 27 from by decide) ?_
 intro a hE
 have hE : Ev 27 ((0, .string s) :: (1, .int .i64 64) :: []) a := hE
 have hS : Sv 27 ((0, .string s) :: (1, .int .i64 64) :: []) [] (fun _ => False) w a w := Sv.start hE _ _
 clear hE
 refine wp_seq ?_
 refine wp_region_lit ?_
 refine sv_r (v := .float .f64 0) hS ex_ac fun a hS => ?_
 refine sv_r (v := .int .i64 0) hS ex_ac fun a hS => ?_
 refine sv_r (v := .nilIface) hS ex_ac fun a hS => ?_
 refine wpList_nil ?_
 replace hS := hS.cut [6, 5, 4, 0, 1]
 show Code.wp _ _ _ _ _
 refine wp_seq ?_
 refine wp_seq ?_
 refine wp_region_lit ?_
 refine sv_r (v := .int .i64 64) hS (ex_mv (hS.get 1 rfl)) fun a hS => ?_
 refine sv_r (v := .bool false) hS (ei_eql (hS.get 10 rfl) rfl (by decide)) fun a hS => ?_
 refine wpList_nil ?_
 replace hS := hS.cut [11, 6, 5, 4, 0]
 show Code.wp _ _ _ _ _
 refine cond_f (hS.get 11 rfl) ?_
 refine wp_skip ?_
 show Code.wp _ _ _ _ _
 refine wp_seq ?_
 refine wp_region_lit ?_
 refine sv_r (v := .string s) hS (ex_mv (hS.get 0 rfl)) fun a hS => ?_
 refine sv_callv (v := .tuple #[.float .f64 0, .int .i64 0, .iface 208 (.int .i64 2)]) hS rfl rfl (by decide) (ex_call1 cf_istrconv_atof64 (hS.get 22 rfl)) (atof64_word s hw h0 hz _) ?_
 intro a w1 hbw1 hS
 refine sv_r (v := .float .f64 0) hS (ei_ext (hS.get 23 rfl) rfl) fun a hS => ?_
 refine sv_r (v := .int .i64 0) hS (ei_ext (hS.get 23 rfl) rfl) fun a hS => ?_
 refine sv_r (v := .iface 208 (.int .i64 2)) hS (ei_ext (hS.get 23 rfl) rfl) fun a hS => ?_
 refine sv_r (v := .float .f64 0) hS (ex_as (hS.get 24 rfl)) fun a hS => ?_
 refine sv_r (v := .int .i64 0) hS (ex_as (hS.get 25 rfl)) fun a hS => ?_
 refine sv_r (v := .iface 208 (.int .i64 2)) hS (ex_as (hS.get 26 rfl)) fun a hS => ?_
 replace hS : Sv 27 ((6, .iface 208 (.int .i64 2)) :: (5, .int .i64 0) :: (4, .float .f64 0) :: (11, .bool false) :: (0, .string s) :: []) [] (fun _ => False) w a w1 := hS.pick rfl
 refine nx1 ?_
 refine wp_ret ?_
 try simp only [Exit.inBlock, Exit.then]
 exact ret3_of_ev hS.ev rfl (hS.get 4 rfl) (hS.get 5 rfl) (hS.get 6 rfl) ⟨rfl, hS.toBelow⟩
theorem iParseFloat_num (s : ByteArray) (z : Nat) (hz : FloatOf s z) {B : Nat} {G : Ge} (w : World) (hG : Env B G w) : Calls Tryz.prog 84 #[.string s, .int .i64 64] w fun e w' => e = .returned (.tuple #[.float .f64 (z), .nilIface]) ∧ Below w.heap.size w w' := by
 refine calls_of_ev Tryz.func84 rfl (show 2 ≤ 23 from by decide) ?_
 intro a hE
 have hE : Ev 23 ((0, .string s) :: (1, .int .i64 64) :: []) a := hE
 have hS : Sv 23 ((0, .string s) :: (1, .int .i64 64) :: []) [] (fun _ => False) w a w := Sv.start hE _ _
 clear hE
 refine wp_seq ?_
 refine wp_region_lit ?_
 refine sv_r (v := .float .f64 0) hS ex_ac fun a hS => ?_
 refine sv_r (v := .nilIface) hS ex_ac fun a hS => ?_
 refine wpList_nil ?_
 replace hS := hS.cut [5, 4, 0, 1]
 show Code.wp _ _ _ _ _
 refine wp_seq ?_
 refine wp_region_lit ?_
 refine sv_r (v := .string s) hS (ex_mv (hS.get 0 rfl)) fun a hS => ?_
 refine sv_r (v := .int .i64 64) hS (ex_mv (hS.get 1 rfl)) fun a hS => ?_
 refine sv_callv (v := .tuple #[.float .f64 (z), .int .i64 ((s.size : Nat) : Int), .nilIface]) hS rfl rfl (by decide) (ex_call2 cf_istrconv_parseFloatPrefix (hS.get 10 rfl) (hS.get 11 rfl)) (pfPrefix_num s z hz _ (hG.below hS.toBelow)) ?_
 intro a w1 hbw1 hS
 refine sv_r (v := .tuple #[.float .f64 (z), .int .i64 ((s.size : Nat) : Int), .nilIface]) hS (ex_mv (hS.get 12 rfl)) fun a hS => ?_
 refine sv_r (v := .float .f64 (z)) hS (ei_ext (hS.get 9 rfl) rfl) fun a hS => ?_
 refine sv_r (v := .int .i64 ((s.size : Nat) : Int)) hS (ei_ext (hS.get 9 rfl) rfl) fun a hS => ?_
 refine sv_r (v := .nilIface) hS (ei_ext (hS.get 9 rfl) rfl) fun a hS => ?_
 refine sv_r (v := .float .f64 (z)) hS (ex_as (hS.get 13 rfl)) fun a hS => ?_
 refine sv_r (v := .int .i64 ((s.size : Nat) : Int)) hS (ex_as (hS.get 14 rfl)) fun a hS => ?_
 refine sv_r (v := .nilIface) hS (ex_as (hS.get 15 rfl)) fun a hS => ?_
 refine wpList_nil ?_
 replace hS := hS.cut [8, 7, 6, 5, 4, 0]
 show Code.wp _ _ _ _ _
 refine wp_seq ?_
 refine wp_seq ?_
 refine wp_region_lit ?_
 refine sv_r (v := .int .i64 ((s.size : Nat) : Int)) hS (ex_mv (hS.get 7 rfl)) fun a hS => ?_
 refine sv_r (v := .string s) hS (ex_mv (hS.get 0 rfl)) fun a hS => ?_
 refine sv_r (v := .int .i64 ((s.size : Nat) : Int)) hS (ex_slen (ats := #[]) (hS.get 17 rfl)) fun a hS => ?_
 refine sv_r (v := .bool false) hS (ei_neq (hS.get 16 rfl) (hS.get 18 rfl) (by simp)) fun a hS => ?_
 replace hS : Sv 23 ((19, .bool false) :: (8, .nilIface) :: (6, .float .f64 (z)) :: (5, .nilIface) :: (4, .float .f64 0) :: (0, .string s) :: []) [] (fun _ => False) w a w1 := hS.pick rfl
 refine nx1 ?_
 refine cond_f (hS.get 19 rfl) ?_
 refine wp_skip ?_
 show Code.wp _ _ _ _ _
 refine wp_seq ?_
 refine wp_region_lit ?_
 refine sv_r (v := .float .f64 (z)) hS (ex_mv (hS.get 6 rfl)) fun a hS => ?_
 refine sv_r (v := .nilIface) hS (ex_mv (hS.get 8 rfl)) fun a hS => ?_
 refine sv_r (v := .float .f64 (z)) hS (ex_as (hS.get 21 rfl)) fun a hS => ?_
 refine sv_r (v := .nilIface) hS (ex_as (hS.get 22 rfl)) fun a hS => ?_
 refine wpList_nil ?_
 replace hS := hS.cut [5, 4, 19, 0]
 show Code.wp _ _ _ _ _
 refine wp_ret ?_
 try simp only [Exit.inBlock, Exit.then]
 exact ret2_of_ev hS.ev rfl (hS.get 4 rfl) (hS.get 5 rfl) ⟨rfl, hS.toBelow⟩
theorem iParseFloat_nil (w : World) : Calls Tryz.prog 84 #[.string (⟨#[]⟩), .int .i64 64] w fun e w' => e = .returned (.tuple #[.float .f64 0, .iface 208 (.int .i64 2)]) ∧ Below w.heap.size w w' := by
 refine calls_of_ev Tryz.func84 rfl (show 2 ≤ 23 from by decide) ?_
 intro a hE
 have hE : Ev 23 ((0, .string (⟨#[]⟩)) :: (1, .int .i64 64) :: []) a := hE
 have hS : Sv 23 ((0, .string (⟨#[]⟩)) :: (1, .int .i64 64) :: []) [] (fun _ => False) w a w := Sv.start hE _ _
 clear hE
 refine wp_seq ?_
 refine wp_region_lit ?_
 refine sv_r (v := .float .f64 0) hS ex_ac fun a hS => ?_
 refine sv_r (v := .nilIface) hS ex_ac fun a hS => ?_
 refine wpList_nil ?_
 replace hS := hS.cut [5, 4, 0, 1]
 show Code.wp _ _ _ _ _
 refine wp_seq ?_
 refine wp_region_lit ?_
 refine sv_r (v := .string (⟨#[]⟩)) hS (ex_mv (hS.get 0 rfl)) fun a hS => ?_
 refine sv_r (v := .int .i64 64) hS (ex_mv (hS.get 1 rfl)) fun a hS => ?_
 refine sv_callv (v := .tuple #[.float .f64 0, .int .i64 0, .iface 208 (.int .i64 2)]) hS rfl rfl (by decide) (ex_call2 cf_istrconv_parseFloatPrefix (hS.get 10 rfl) (hS.get 11 rfl)) (pfPrefix_nil _) ?_
 intro a w1 hbw1 hS
 refine sv_r (v := .tuple #[.float .f64 0, .int .i64 0, .iface 208 (.int .i64 2)]) hS (ex_mv (hS.get 12 rfl)) fun a hS => ?_
 refine sv_r (v := .float .f64 0) hS (ei_ext (hS.get 9 rfl) rfl) fun a hS => ?_
 refine sv_r (v := .int .i64 0) hS (ei_ext (hS.get 9 rfl) rfl) fun a hS => ?_
 refine sv_r (v := .iface 208 (.int .i64 2)) hS (ei_ext (hS.get 9 rfl) rfl) fun a hS => ?_
 refine sv_r (v := .float .f64 0) hS (ex_as (hS.get 13 rfl)) fun a hS => ?_
 refine sv_r (v := .int .i64 0) hS (ex_as (hS.get 14 rfl)) fun a hS => ?_
 refine sv_r (v := .iface 208 (.int .i64 2)) hS (ex_as (hS.get 15 rfl)) fun a hS => ?_
 refine wpList_nil ?_
 replace hS := hS.cut [8, 7, 6, 5, 4, 0]
 show Code.wp _ _ _ _ _
 refine wp_seq ?_
 refine wp_seq ?_
 refine wp_region_lit ?_
 refine sv_r (v := .int .i64 0) hS (ex_mv (hS.get 7 rfl)) fun a hS => ?_
 refine sv_r (v := .string (⟨#[]⟩)) hS (ex_mv (hS.get 0 rfl)) fun a hS => ?_
 refine sv_r (v := .int .i64 0) hS (ex_slen (ats := #[]) (hS.get 17 rfl)) fun a hS => ?_
 refine sv_r (v := .bool false) hS (ei_neq (hS.get 16 rfl) (hS.get 18 rfl) (by decide)) fun a hS => ?_
 replace hS : Sv 23 ((19, .bool false) :: (8, .iface 208 (.int .i64 2)) :: (6, .float .f64 0) :: (5, .nilIface) :: (4, .float .f64 0) :: (0, .string (⟨#[]⟩)) :: []) [] (fun _ => False) w a w1 := hS.pick rfl
 refine nx1 ?_
 refine cond_f (hS.get 19 rfl) ?_
 refine wp_skip ?_
 show Code.wp _ _ _ _ _
 refine wp_seq ?_
 refine wp_region_lit ?_
 refine sv_r (v := .float .f64 0) hS (ex_mv (hS.get 6 rfl)) fun a hS => ?_
 refine sv_r (v := .iface 208 (.int .i64 2)) hS (ex_mv (hS.get 8 rfl)) fun a hS => ?_
 refine sv_r (v := .float .f64 0) hS (ex_as (hS.get 21 rfl)) fun a hS => ?_
 refine sv_r (v := .iface 208 (.int .i64 2)) hS (ex_as (hS.get 22 rfl)) fun a hS => ?_
 refine wpList_nil ?_
 replace hS := hS.cut [5, 4, 19, 0]
 show Code.wp _ _ _ _ _
 refine wp_ret ?_
 try simp only [Exit.inBlock, Exit.then]
 exact ret2_of_ev hS.ev rfl (hS.get 4 rfl) (hS.get 5 rfl) ⟨rfl, hS.toBelow⟩
theorem iParseFloat_word (s : ByteArray) (hw : WordB s) (h0 : 0 < s.size) (hz : s.size ≤ 1000) (w : World) : Calls Tryz.prog 84 #[.string s, .int .i64 64] w fun e w' => e = .returned (.tuple #[.float .f64 0, .iface 208 (.int .i64 2)]) ∧ Below w.heap.size w w' := by
 refine calls_of_ev Tryz.func84 rfl (show 2 ≤ 23 from by decide) ?_
 intro a hE
 have hE : Ev 23 ((0, .string s) :: (1, .int .i64 64) :: []) a := hE
 have hS : Sv 23 ((0, .string s) :: (1, .int .i64 64) :: []) [] (fun _ => False) w a w := Sv.start hE _ _
 clear hE
 refine wp_seq ?_
 refine wp_region_lit ?_
 refine sv_r (v := .float .f64 0) hS ex_ac fun a hS => ?_
 refine sv_r (v := .nilIface) hS ex_ac fun a hS => ?_
 refine wpList_nil ?_
 replace hS := hS.cut [5, 4, 0, 1]
 show Code.wp _ _ _ _ _
 refine wp_seq ?_
 refine wp_region_lit ?_
 refine sv_r (v := .string s) hS (ex_mv (hS.get 0 rfl)) fun a hS => ?_
 refine sv_r (v := .int .i64 64) hS (ex_mv (hS.get 1 rfl)) fun a hS => ?_
 refine sv_callv (v := .tuple #[.float .f64 0, .int .i64 0, .iface 208 (.int .i64 2)]) hS rfl rfl (by decide) (ex_call2 cf_istrconv_parseFloatPrefix (hS.get 10 rfl) (hS.get 11 rfl)) (pfPrefix_word s hw h0 hz _) ?_
 intro a w1 hbw1 hS
 refine sv_r (v := .tuple #[.float .f64 0, .int .i64 0, .iface 208 (.int .i64 2)]) hS (ex_mv (hS.get 12 rfl)) fun a hS => ?_
 refine sv_r (v := .float .f64 0) hS (ei_ext (hS.get 9 rfl) rfl) fun a hS => ?_
 refine sv_r (v := .int .i64 0) hS (ei_ext (hS.get 9 rfl) rfl) fun a hS => ?_
 refine sv_r (v := .iface 208 (.int .i64 2)) hS (ei_ext (hS.get 9 rfl) rfl) fun a hS => ?_
 refine sv_r (v := .float .f64 0) hS (ex_as (hS.get 13 rfl)) fun a hS => ?_
 refine sv_r (v := .int .i64 0) hS (ex_as (hS.get 14 rfl)) fun a hS => ?_
 refine sv_r (v := .iface 208 (.int .i64 2)) hS (ex_as (hS.get 15 rfl)) fun a hS => ?_
 refine wpList_nil ?_
 replace hS := hS.cut [8, 7, 6, 5, 4, 0]
 show Code.wp _ _ _ _ _
 refine wp_seq ?_
 refine wp_seq ?_
 refine wp_region_lit ?_
 refine sv_r (v := .int .i64 0) hS (ex_mv (hS.get 7 rfl)) fun a hS => ?_
 refine sv_r (v := .string s) hS (ex_mv (hS.get 0 rfl)) fun a hS => ?_
 refine sv_r (v := .int .i64 ((s.size : Nat) : Int)) hS (ex_slen (ats := #[]) (hS.get 17 rfl)) fun a hS => ?_
 refine sv_r (v := .bool true) hS (ei_neq (hS.get 16 rfl) (hS.get 18 rfl) (by rw [decide_eq_true_iff]; omega)) fun a hS => ?_
 replace hS : Sv 23 ((19, .bool true) :: (8, .iface 208 (.int .i64 2)) :: (6, .float .f64 0) :: (5, .nilIface) :: (4, .float .f64 0) :: (0, .string s) :: []) [] (fun _ => False) w a w1 := hS.pick rfl
 refine nx1 ?_
 refine cond_t (hS.get 19 rfl) ?_
 refine wp_seq ?_
 refine wp_region_lit ?_
 refine sv_r (v := .iface 208 (.int .i64 2)) hS (ex_mic (by kernel_rfl)) fun a hS => ?_
 refine sv_r (v := .float .f64 0) hS ex_ac fun a hS => ?_
 refine sv_r (v := .iface 208 (.int .i64 2)) hS (ex_as (hS.get 20 rfl)) fun a hS => ?_
 refine wpList_nil ?_
 replace hS := hS.cut [5, 4, 19, 8, 6, 0]
 show Code.wp _ _ _ _ _
 refine wp_ret ?_
 try simp only [Exit.inBlock, Exit.then]
 exact ret2_of_ev hS.ev rfl (hS.get 4 rfl) (hS.get 5 rfl) ⟨rfl, hS.toBelow⟩
theorem parseFloat_num (s : ByteArray) (z : Nat) (hz : FloatOf s z) {B : Nat} {G : Ge} (w : World) (hG : Env B G w) : Calls Tryz.prog 60 #[.string s, .int .i64 64] w fun e w' => e = .returned (.tuple #[.float .f64 z, .nilIface]) ∧ Below w.heap.size w w' := by
 refine calls_of_ev Tryz.func60 rfl (show 2 ≤ 22 from by decide) ?_
 intro a hE
 have hE : Ev 22 ((0, .string s) :: (1, .int .i64 64) :: []) a := hE
 have hS : Sv 22 ((0, .string s) :: (1, .int .i64 64) :: []) [] (fun _ => False) w a w := Sv.start hE _ _
 clear hE
 refine wp_seq ?_
 refine wp_region_lit ?_
 refine sv_r (v := .float .f64 0) hS ex_ac fun a hS => ?_
 refine sv_r (v := .nilIface) hS ex_ac fun a hS => ?_
 refine wpList_nil ?_
 replace hS := hS.cut [5, 4, 0, 1]
 show Code.wp _ _ _ _ _
 refine wp_seq ?_
 refine wp_region_lit ?_
 refine sv_r (v := .string s) hS (ex_mv (hS.get 0 rfl)) fun a hS => ?_
 refine sv_r (v := .int .i64 64) hS (ex_mv (hS.get 1 rfl)) fun a hS => ?_
 refine sv_callv (v := .tuple #[.float .f64 z, .nilIface]) hS rfl rfl (by decide) (ex_call2 cf_istrconv_ParseFloat (hS.get 9 rfl) (hS.get 10 rfl)) (iParseFloat_num s z hz _ (hG.below hS.toBelow)) ?_
 intro a w1 hbw1 hS
 refine sv_r (v := .tuple #[.float .f64 z, .nilIface]) hS (ex_mv (hS.get 11 rfl)) fun a hS => ?_
 refine sv_r (v := .float .f64 (z)) hS (ei_ext (hS.get 8 rfl) rfl) fun a hS => ?_
 refine sv_r (v := .nilIface) hS (ei_ext (hS.get 8 rfl) rfl) fun a hS => ?_
 refine sv_r (v := .float .f64 (z)) hS (ex_as (hS.get 12 rfl)) fun a hS => ?_
 refine sv_r (v := .nilIface) hS (ex_as (hS.get 13 rfl)) fun a hS => ?_
 refine wpList_nil ?_
 replace hS := hS.cut [7, 6, 5, 4, 0, 1]
 show Code.wp _ _ _ _ _
 refine wp_seq ?_
 refine wp_seq ?_
 refine wp_region_lit ?_
 refine sv_r (v := .nilIface) hS (ex_mv (hS.get 7 rfl)) fun a hS => ?_
 refine sv_r (v := .bool false) hS (ex_ine eqi_error (hS.get 14 rfl)) fun a hS => ?_
 replace hS : Sv 22 ((15, .bool false) :: (7, .nilIface) :: (6, .float .f64 (z)) :: (5, .nilIface) :: (4, .float .f64 0) :: (0, .string s) :: (1, .int .i64 64) :: []) [] (fun _ => False) w a w1 := hS.pick rfl
 refine nx1 ?_
 refine cond_f (hS.get 15 rfl) ?_
 refine wp_skip ?_
 show Code.wp _ _ _ _ _
 refine wp_seq ?_
 refine wp_region_lit ?_
 refine sv_r (v := .float .f64 (z)) hS (ex_mv (hS.get 6 rfl)) fun a hS => ?_
 refine sv_r (v := .float .f64 (z)) hS (ex_as (hS.get 21 rfl)) fun a hS => ?_
 refine sv_r (v := .nilIface) hS ex_ac fun a hS => ?_
 refine wpList_nil ?_
 replace hS := hS.cut [5, 4, 15, 7, 6, 0, 1]
 show Code.wp _ _ _ _ _
 refine wp_ret ?_
 try simp only [Exit.inBlock, Exit.then]
 exact ret2_of_ev hS.ev rfl (hS.get 4 rfl) (hS.get 5 rfl) ⟨rfl, hS.toBelow⟩
theorem parseFloat_bad (s : ByteArray) (hn : NoNum s) {B : Nat} {G : Ge} (w : World) (hG : Env B G w) : Calls Tryz.prog 60 #[.string s, .int .i64 64] w fun e w' => ∃ v, e = .returned v ∧ Below w.heap.size w w' ∧ ∃ ev, v = .tuple #[.float .f64 0, ev] ∧ IsErr ev := by
 have hsz : s.size ≤ 1000 := by rcases hn with rfl | ⟨_, _, h⟩; (· exact Nat.zero_le _); (· exact h)
 have hcl : ∀ w : World, Calls Tryz.prog 84 #[.string s, .int .i64 64] w fun e w' => e = .returned (.tuple #[.float .f64 0, synE]) ∧ Below w.heap.size w w' := by
  intro w
  rcases hn with rfl | ⟨h1, h2, h3⟩
  ·exact iParseFloat_nil w
  ·exact iParseFloat_word s h1 h2 h3 w
 refine calls_of_ev Tryz.func60 rfl (show 2 ≤ 22 from by decide) ?_
 intro a hE
 have hE : Ev 22 ((0, .string s) :: (1, .int .i64 64) :: []) a := hE
 have hS : Sv 22 ((0, .string s) :: (1, .int .i64 64) :: []) [] (fun _ => False) w a w := Sv.start hE _ _
 clear hE
 refine wp_seq ?_
 refine wp_region_lit ?_
 refine sv_r (v := .float .f64 0) hS ex_ac fun a hS => ?_
 refine sv_r (v := .nilIface) hS ex_ac fun a hS => ?_
 refine wpList_nil ?_
 replace hS := hS.cut [5, 4, 0, 1]
 show Code.wp _ _ _ _ _
 refine wp_seq ?_
 refine wp_region_lit ?_
 refine sv_r (v := .string s) hS (ex_mv (hS.get 0 rfl)) fun a hS => ?_
 refine sv_r (v := .int .i64 64) hS (ex_mv (hS.get 1 rfl)) fun a hS => ?_
 refine sv_callv (v := .tuple #[.float .f64 0, .iface 208 (.int .i64 2)]) hS rfl rfl (by decide) (ex_call2 cf_istrconv_ParseFloat (hS.get 9 rfl) (hS.get 10 rfl)) (hcl _) ?_
 intro a w1 hbw1 hS
 refine sv_r (v := .tuple #[.float .f64 0, .iface 208 (.int .i64 2)]) hS (ex_mv (hS.get 11 rfl)) fun a hS => ?_
 refine sv_r (v := .float .f64 0) hS (ei_ext (hS.get 8 rfl) rfl) fun a hS => ?_
 refine sv_r (v := .iface 208 (.int .i64 2)) hS (ei_ext (hS.get 8 rfl) rfl) fun a hS => ?_
 refine sv_r (v := .float .f64 0) hS (ex_as (hS.get 12 rfl)) fun a hS => ?_
 refine sv_r (v := .iface 208 (.int .i64 2)) hS (ex_as (hS.get 13 rfl)) fun a hS => ?_
 refine wpList_nil ?_
 replace hS := hS.cut [7, 6, 5, 4, 0, 1]
 show Code.wp _ _ _ _ _
 refine wp_seq ?_
 refine wp_seq ?_
 refine wp_region_lit ?_
 refine sv_r (v := .iface 208 (.int .i64 2)) hS (ex_mv (hS.get 7 rfl)) fun a hS => ?_
 refine sv_r (v := .bool true) hS (ex_ifne (hS.get 14 rfl)) fun a hS => ?_
 replace hS : Sv 22 ((15, .bool true) :: (7, .iface 208 (.int .i64 2)) :: (6, .float .f64 0) :: (5, .nilIface) :: (4, .float .f64 0) :: (0, .string s) :: (1, .int .i64 64) :: []) [] (fun _ => False) w a w1 := hS.pick rfl
 refine nx1 ?_
 refine cond_t (hS.get 15 rfl) ?_
 refine wp_seq ?_
 refine wp_region_lit ?_
 refine sv_r (v := .float .f64 0) hS (ex_mv (hS.get 6 rfl)) fun a hS => ?_
 refine sv_r (v := .string s) hS (ex_mv (hS.get 0 rfl)) fun a hS => ?_
 refine sv_r (v := .int .i64 64) hS (ex_mv (hS.get 1 rfl)) fun a hS => ?_
 refine sv_r (v := .iface 208 (.int .i64 2)) hS (ex_mv (hS.get 7 rfl)) fun a hS => ?_
 have hlt := hS.lt
 have hsz := hS.size
 refine sv_call (S := fun v w' => ∃ (t : TypeId) (N : Nat), v = .iface t (pt N 0)) hS rfl rfl (by decide) (ex_call5 cf_strconv_toError rfl (hS.get 17 rfl) rfl (hS.get 18 rfl) (hS.get 19 rfl)) (toErr_any _ _ _ _ (by omega) _ (hG.below hS.toBelow)) ?_
 rintro a _ w2 ⟨et, eN, rfl⟩ hbw2 hS
 refine sv_r (v := .float .f64 0) hS (ex_as (hS.get 16 rfl)) fun a hS => ?_
 refine sv_r (v := .iface et (pt eN 0)) hS (ex_as (hS.get 20 rfl)) fun a hS => ?_
 refine wpList_nil ?_
 replace hS := hS.cut [5, 4, 15, 7, 6, 0, 1]
 show Code.wp _ _ _ _ _
 refine wp_ret ?_
 try simp only [Exit.inBlock, Exit.then]
 exact ret2_of_ev hS.ev rfl (hS.get 4 rfl) (hS.get 5 rfl) ⟨_, rfl, hS.toBelow, _, rfl, _, _, rfl⟩
end Go.Proofs.YtflppablgdegcaaGreatDoor
