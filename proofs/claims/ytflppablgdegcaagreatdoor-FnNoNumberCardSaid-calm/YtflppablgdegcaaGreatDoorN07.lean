/- Joined: Zu. -/
import Derived.Test.YtflppablgdegcaaGreatDoorN06
/- The walks of errors.New, strconv.ParseUint, zzUint64, zzUint8. -/
set_option maxRecDepth 100000
set_option maxHeartbeats 8000000
namespace Go.Proofs.YtflppablgdegcaaGreatDoor
open Go.RowKit
theorem cv_uint64_uint8 (n : Int) {z : Int} (h : IntKind.u8.wrap n = z) : Cv 24 5 (.int .u64 n) (.int .u8 z) := by subst h; intro w; go_simp
def digs : ByteArray := ⟨#[48, 49, 50, 51, 52, 53, 54, 55, 56, 57]⟩
/-- An error that is not nil: a pointer in a box. -/
def IsErr (v : Value) : Prop := ∃ (t : TypeId) (N : Nat), v = .iface t (pt N 0)

theorem errNew_any (s : ByteArray) (w : World) : Calls Tryz.prog 44 #[.string s] w fun e w' => ∃ v, e = .returned v ∧ Below w.heap.size w w' ∧ ∃ N, v = .iface errES (pt N 0) := by
 refine calls_of_ev Tryz.func44 rfl (show 1 ≤ 7 from by decide) ?_
 intro a hE
 have hE : Ev 7 ((0, .string s) :: []) a := hE
 have hS : Sv 7 ((0, .string s) :: []) [] (fun _ => False) w a w := Sv.start hE _ _
 clear hE
 refine wp_seq ?_
 refine wp_region_lit ?_
 refine sv_r (v := .nilIface) hS ex_ac fun a hS => ?_
 refine wpList_nil ?_
 replace hS := hS.cut [2, 0]
 show Code.wp _ _ _ _ _
 refine wp_seq ?_
 refine wp_region_lit ?_
 refine sv_r (v := .string s) hS (ex_mv (hS.get 0 rfl)) fun a hS => ?_
 refine sv_r (v := .agg #[.string s]) hS (by simp only [execOp, List.map_toArray, List.map_cons, List.map_nil, hS.get 3 rfl]; go_simp) fun a hS => ?_
 refine sv_box hS (hS.get 4 rfl) (bx_errors_errorString _) (by decide) ?_
 intro g1 a w2 hg1 hbw2 hwg1 hS
 refine sv_r (v := .iface 137 (pt g1 0)) hS (ex_mi (hS.get 5 rfl) (by kernel_rfl)) fun a hS => ?_
 refine sv_r (v := .iface 137 (pt g1 0)) hS (ex_as (hS.get 6 rfl)) fun a hS => ?_
 refine wpList_nil ?_
 replace hS := hS.cut [2]
 show Code.wp _ _ _ _ _
 refine wp_ret ?_
 try simp only [Exit.inBlock, Exit.then]
 exact ret_of_ev hS.ev rfl (hS.get 2 rfl) ⟨_, rfl, hS.toBelow, _, rfl⟩
theorem parseUint_ok (t : ByteArray) (n : Nat) (hne : t.size ≠ 0) (hs : t.size ≤ 1000000000) (h : Lib.parseUint10 0 t.data.toList = .ok n) (w : World) : Calls Tryz.prog 90 #[.string t, .int .i64 10, .int .i64 64] w fun e w' => e = .returned (.tuple #[.int .u64 n, .nilIface]) ∧ Below w.heap.size w w' := by
 refine calls_of_ev Tryz.func90 rfl (show 3 ≤ 26 from by decide) ?_
 intro a hE
 have hE : Ev 26 ((0, .string t) :: (1, .int .i64 10) :: (2, .int .i64 64) :: []) a := hE
 have hS : Sv 26 ((0, .string t) :: (1, .int .i64 10) :: (2, .int .i64 64) :: []) [] (fun _ => False) w a w := Sv.start hE _ _
 clear hE
 refine wp_seq ?_
 refine wp_region_lit ?_
 refine sv_r (v := .int .u64 0) hS ex_ac fun a hS => ?_
 refine sv_r (v := .nilIface) hS ex_ac fun a hS => ?_
 refine wpList_nil ?_
 replace hS := hS.cut [7, 6, 0, 1, 2]
 show Code.wp _ _ _ _ _
 refine wp_seq ?_
 refine wp_region_lit ?_
 refine sv_r (v := .string t) hS (ex_mv (hS.get 0 rfl)) fun a hS => ?_
 refine sv_r (v := .int .i64 10) hS (ex_mv (hS.get 1 rfl)) fun a hS => ?_
 refine sv_r (v := .int .i64 64) hS (ex_mv (hS.get 2 rfl)) fun a hS => ?_
 refine sv_callv (v := .tuple #[.int .u64 ((n : Nat) : Int), .nilIface]) hS rfl rfl (by decide) (ex_call3 cf_istrconv_ParseUint (hS.get 11 rfl) (hS.get 12 rfl) (hS.get 13 rfl)) (parseU_ok t n hne hs h _) ?_
 intro a w1 hbw1 hS
 refine sv_r (v := .tuple #[.int .u64 ((n : Nat) : Int), .nilIface]) hS (ex_mv (hS.get 14 rfl)) fun a hS => ?_
 refine sv_r (v := .int .u64 ((n : Nat) : Int)) hS (ei_ext (hS.get 10 rfl) rfl) fun a hS => ?_
 refine sv_r (v := .nilIface) hS (ei_ext (hS.get 10 rfl) rfl) fun a hS => ?_
 refine sv_r (v := .int .u64 ((n : Nat) : Int)) hS (ex_as (hS.get 15 rfl)) fun a hS => ?_
 refine sv_r (v := .nilIface) hS (ex_as (hS.get 16 rfl)) fun a hS => ?_
 refine wpList_nil ?_
 replace hS := hS.cut [9, 8, 7, 6, 0, 1, 2]
 show Code.wp _ _ _ _ _
 refine wp_seq ?_
 refine wp_seq ?_
 refine wp_region_lit ?_
 refine sv_r (v := .nilIface) hS (ex_mv (hS.get 9 rfl)) fun a hS => ?_
 refine sv_r (v := .bool false) hS (ex_ine eqi_error (hS.get 17 rfl)) fun a hS => ?_
 refine wpList_nil ?_
 replace hS := hS.cut [18, 9, 8, 7, 6, 0, 1, 2]
 show Code.wp _ _ _ _ _
 refine cond_f (hS.get 18 rfl) ?_
 refine wp_skip ?_
 show Code.wp _ _ _ _ _
 refine wp_seq ?_
 refine wp_region_lit ?_
 refine sv_r (v := .int .u64 ((n : Nat) : Int)) hS (ex_mv (hS.get 8 rfl)) fun a hS => ?_
 refine sv_r (v := .int .u64 ((n : Nat) : Int)) hS (ex_as (hS.get 25 rfl)) fun a hS => ?_
 refine sv_r (v := .nilIface) hS ex_ac fun a hS => ?_
 refine wpList_nil ?_
 replace hS := hS.cut [7, 6, 18, 9, 8, 0, 1, 2]
 show Code.wp _ _ _ _ _
 refine wp_ret ?_
 try simp only [Exit.inBlock, Exit.then]
 exact ret2_of_ev hS.ev rfl (hS.get 6 rfl) (hS.get 7 rfl) ⟨rfl, hS.toBelow⟩
theorem parseUint_nil {B : Nat} {G : Ge} (w : World) (hG : Env B G w) : Calls Tryz.prog 90 #[.string (⟨#[]⟩), .int .i64 10, .int .i64 64] w fun e w' => ∃ v, e = .returned v ∧ Below w.heap.size w w' ∧ ∃ ev, v = .tuple #[.int .u64 0, ev] ∧ IsErr ev := by
 refine calls_of_ev Tryz.func90 rfl (show 3 ≤ 26 from by decide) ?_
 intro a hE
 have hE : Ev 26 ((0, .string (⟨#[]⟩)) :: (1, .int .i64 10) :: (2, .int .i64 64) :: []) a := hE
 have hS : Sv 26 ((0, .string (⟨#[]⟩)) :: (1, .int .i64 10) :: (2, .int .i64 64) :: []) [] (fun _ => False) w a w := Sv.start hE _ _
 clear hE
 refine wp_seq ?_
 refine wp_region_lit ?_
 refine sv_r (v := .int .u64 0) hS ex_ac fun a hS => ?_
 refine sv_r (v := .nilIface) hS ex_ac fun a hS => ?_
 refine wpList_nil ?_
 replace hS := hS.cut [7, 6, 0, 1, 2]
 show Code.wp _ _ _ _ _
 refine wp_seq ?_
 refine wp_region_lit ?_
 refine sv_r (v := .string (⟨#[]⟩)) hS (ex_mv (hS.get 0 rfl)) fun a hS => ?_
 refine sv_r (v := .int .i64 10) hS (ex_mv (hS.get 1 rfl)) fun a hS => ?_
 refine sv_r (v := .int .i64 64) hS (ex_mv (hS.get 2 rfl)) fun a hS => ?_
 refine sv_callq (v := .tuple #[.int .u64 0, .iface 208 (.int .i64 2)]) hS rfl rfl (by decide) (ex_call3 cf_istrconv_ParseUint (hS.get 11 rfl) (hS.get 12 rfl) (hS.get 13 rfl)) (parseU_nil _) ?_
 intro a hS
 refine sv_r (v := .tuple #[.int .u64 0, .iface 208 (.int .i64 2)]) hS (ex_mv (hS.get 14 rfl)) fun a hS => ?_
 refine sv_r (v := .int .u64 0) hS (ei_ext (hS.get 10 rfl) rfl) fun a hS => ?_
 refine sv_r (v := .iface 208 (.int .i64 2)) hS (ei_ext (hS.get 10 rfl) rfl) fun a hS => ?_
 refine sv_r (v := .int .u64 0) hS (ex_as (hS.get 15 rfl)) fun a hS => ?_
 refine sv_r (v := .iface 208 (.int .i64 2)) hS (ex_as (hS.get 16 rfl)) fun a hS => ?_
 refine wpList_nil ?_
 replace hS := hS.cut [9, 8, 7, 6, 0, 1, 2]
 show Code.wp _ _ _ _ _
 refine wp_seq ?_
 refine wp_seq ?_
 refine wp_region_lit ?_
 refine sv_r (v := .iface 208 (.int .i64 2)) hS (ex_mv (hS.get 9 rfl)) fun a hS => ?_
 refine sv_r (v := .bool true) hS (ex_ifne (hS.get 17 rfl)) fun a hS => ?_
 refine wpList_nil ?_
 replace hS := hS.cut [18, 9, 8, 7, 6, 0, 1, 2]
 show Code.wp _ _ _ _ _
 refine cond_t (hS.get 18 rfl) ?_
 refine wp_seq ?_
 refine wp_region_lit ?_
 refine sv_r (v := .int .u64 0) hS (ex_mv (hS.get 8 rfl)) fun a hS => ?_
 refine sv_r (v := .string (⟨#[]⟩)) hS (ex_mv (hS.get 0 rfl)) fun a hS => ?_
 refine sv_r (v := .int .i64 10) hS (ex_mv (hS.get 1 rfl)) fun a hS => ?_
 refine sv_r (v := .int .i64 64) hS (ex_mv (hS.get 2 rfl)) fun a hS => ?_
 refine sv_r (v := .iface 208 (.int .i64 2)) hS (ex_mv (hS.get 9 rfl)) fun a hS => ?_
 have hlt := hS.lt
 have hsz := hS.size
 refine sv_call (S := fun v w' => ∃ (t : TypeId) (N : Nat), v = .iface t (pt N 0)) hS rfl rfl (by decide) (ex_call5 cf_strconv_toError rfl (hS.get 20 rfl) (hS.get 21 rfl) (hS.get 22 rfl) (hS.get 23 rfl)) (toErr_any _ _ _ _ (by decide) _ (hG.below hS.toBelow)) ?_
 rintro a _ w1 ⟨et, eN, rfl⟩ hbw1 hS
 refine sv_r (v := .int .u64 0) hS (ex_as (hS.get 19 rfl)) fun a hS => ?_
 refine sv_r (v := .iface et (pt eN 0)) hS (ex_as (hS.get 24 rfl)) fun a hS => ?_
 refine wpList_nil ?_
 replace hS := hS.cut [7, 6, 18, 9, 8, 0, 1, 2]
 show Code.wp _ _ _ _ _
 refine wp_ret ?_
 try simp only [Exit.inBlock, Exit.then]
 exact ret2_of_ev hS.ev rfl (hS.get 6 rfl) (hS.get 7 rfl) ⟨_, rfl, hS.toBelow, _, rfl, _, _, rfl⟩
theorem zzUint64_ok (s : ByteArray) (old n : Nat) (hs : s.size ≤ 1000000000) (hb : ∀ h : 0 < s.size, (s[0]'h).toNat ≠ 32 ∧ (s[0]'h).toNat ≠ 9) (hne : (s.extract 0 (runN (inS digs) s)).size ≠ 0) (h : Lib.parseUint10 0 (s.extract 0 (runN (inS digs) s)).data.toList = .ok n) (w : World) : Calls Tryz.prog 70 #[.string s, .int .u64 ((old : Nat) : Int)] w fun e w' => e = .returned (.tuple #[.int .u64 n, .nilIface]) ∧ Below w.heap.size w w' := by
 have htz : (s.extract 0 (runN (inS digs) s)).size ≤ 1000000000 := by rw [ByteArray.size_extract]; omega
 refine calls_of_ev Tryz.func70 rfl (show 2 ≤ 25 from by decide) ?_
 intro a hE
 have hE : Ev 25 ((0, .string s) :: (1, .int .u64 ((old : Nat) : Int)) :: []) a := hE
 have hS : Sv 25 ((0, .string s) :: (1, .int .u64 ((old : Nat) : Int)) :: []) [] (fun _ => False) w a w := Sv.start hE _ _
 clear hE
 refine wp_seq ?_
 refine wp_region_lit ?_
 refine sv_r (v := .int .u64 0) hS ex_ac fun a hS => ?_
 refine sv_r (v := .nilIface) hS ex_ac fun a hS => ?_
 refine wpList_nil ?_
 replace hS := hS.cut [5, 4, 0, 1]
 show Code.wp _ _ _ _ _
 refine wp_seq ?_
 refine wp_region_lit ?_
 refine sv_r (v := .string s) hS (ex_mv (hS.get 0 rfl)) fun a hS => ?_
 refine sv_callv (v := .tuple #[.string (s.extract 0 (runN (inS digs) s)), .string (s.extract (runN (inS digs) s) s.size)]) hS rfl rfl (by decide) (ex_call2 cf_m3u8_zzToken (hS.get 11 rfl) rfl) (zzToken_any s digs hs (by decide) hb _) ?_
 intro a w1 hbw1 hS
 refine sv_r (v := .tuple #[.string (s.extract 0 (runN (inS digs) s)), .string (s.extract (runN (inS digs) s) s.size)]) hS (ex_mv (hS.get 12 rfl)) fun a hS => ?_
 refine sv_r (v := .string (s.extract 0 (runN (inS digs) s))) hS (ei_ext (hS.get 10 rfl) rfl) fun a hS => ?_
 refine sv_r (v := .string (s.extract (runN (inS digs) s) s.size)) hS (ei_ext (hS.get 10 rfl) rfl) fun a hS => ?_
 refine sv_r (v := .string (s.extract 0 (runN (inS digs) s))) hS (ex_as (hS.get 13 rfl)) fun a hS => ?_
 refine sv_r (v := .string (s.extract (runN (inS digs) s) s.size)) hS (ex_as (hS.get 14 rfl)) fun a hS => ?_
 refine wpList_nil ?_
 replace hS := hS.cut [6, 5, 4, 1]
 show Code.wp _ _ _ _ _
 refine wp_seq ?_
 refine wp_region_lit ?_
 refine sv_r (v := .string (s.extract 0 (runN (inS digs) s))) hS (ex_mv (hS.get 6 rfl)) fun a hS => ?_
 refine sv_callv (v := .tuple #[.int .u64 ((n : Nat) : Int), .nilIface]) hS rfl rfl (by decide) (ex_call3 cf_strconv_ParseUint (hS.get 16 rfl) rfl rfl) (parseUint_ok _ n hne htz h _) ?_
 intro a w2 hbw2 hS
 refine sv_r (v := .tuple #[.int .u64 ((n : Nat) : Int), .nilIface]) hS (ex_mv (hS.get 17 rfl)) fun a hS => ?_
 refine sv_r (v := .int .u64 ((n : Nat) : Int)) hS (ei_ext (hS.get 15 rfl) rfl) fun a hS => ?_
 refine sv_r (v := .nilIface) hS (ei_ext (hS.get 15 rfl) rfl) fun a hS => ?_
 refine sv_r (v := .int .u64 ((n : Nat) : Int)) hS (ex_as (hS.get 18 rfl)) fun a hS => ?_
 refine sv_r (v := .nilIface) hS (ex_as (hS.get 19 rfl)) fun a hS => ?_
 refine wpList_nil ?_
 replace hS := hS.cut [9, 8, 5, 4, 1]
 show Code.wp _ _ _ _ _
 refine wp_seq ?_
 refine wp_seq ?_
 refine wp_region_lit ?_
 refine sv_r (v := .nilIface) hS (ex_mv (hS.get 9 rfl)) fun a hS => ?_
 refine sv_r (v := .bool false) hS (ex_ine eqi_error (hS.get 20 rfl)) fun a hS => ?_
 refine wpList_nil ?_
 replace hS := hS.cut [21, 9, 8, 5, 4, 1]
 show Code.wp _ _ _ _ _
 refine cond_f (hS.get 21 rfl) ?_
 refine wp_skip ?_
 show Code.wp _ _ _ _ _
 refine wp_seq ?_
 refine wp_region_lit ?_
 refine sv_r (v := .int .u64 ((n : Nat) : Int)) hS (ex_mv (hS.get 8 rfl)) fun a hS => ?_
 refine sv_r (v := .int .u64 ((n : Nat) : Int)) hS (ex_as (hS.get 24 rfl)) fun a hS => ?_
 refine sv_r (v := .nilIface) hS ex_ac fun a hS => ?_
 refine wpList_nil ?_
 replace hS := hS.cut [5, 4, 21, 9, 1]
 show Code.wp _ _ _ _ _
 refine wp_ret ?_
 try simp only [Exit.inBlock, Exit.then]
 exact ret2_of_ev hS.ev rfl (hS.get 4 rfl) (hS.get 5 rfl) ⟨rfl, hS.toBelow⟩
theorem zzUint64_bad (s : ByteArray) (old : Nat) (hs : s.size ≤ 1000000000) (hb : ∀ h : 0 < s.size, (s[0]'h).toNat ≠ 32 ∧ (s[0]'h).toNat ≠ 9) (h : s.extract 0 (runN (inS digs) s) = (⟨#[]⟩ : ByteArray)) {B : Nat} {G : Ge} (w : World) (hG : Env B G w) : Calls Tryz.prog 70 #[.string s, .int .u64 ((old : Nat) : Int)] w fun e w' => ∃ v, e = .returned v ∧ Below w.heap.size w w' ∧ ∃ ev, v = .tuple #[.int .u64 old, ev] ∧ IsErr ev := by
 refine calls_of_ev Tryz.func70 rfl (show 2 ≤ 25 from by decide) ?_
 intro a hE
 have hE : Ev 25 ((0, .string s) :: (1, .int .u64 ((old : Nat) : Int)) :: []) a := hE
 have hS : Sv 25 ((0, .string s) :: (1, .int .u64 ((old : Nat) : Int)) :: []) [] (fun _ => False) w a w := Sv.start hE _ _
 clear hE
 refine wp_seq ?_
 refine wp_region_lit ?_
 refine sv_r (v := .int .u64 0) hS ex_ac fun a hS => ?_
 refine sv_r (v := .nilIface) hS ex_ac fun a hS => ?_
 refine wpList_nil ?_
 replace hS := hS.cut [5, 4, 0, 1]
 show Code.wp _ _ _ _ _
 refine wp_seq ?_
 refine wp_region_lit ?_
 refine sv_r (v := .string s) hS (ex_mv (hS.get 0 rfl)) fun a hS => ?_
 refine sv_callv (v := .tuple #[.string (s.extract 0 (runN (inS digs) s)), .string (s.extract (runN (inS digs) s) s.size)]) hS rfl rfl (by decide) (ex_call2 cf_m3u8_zzToken (hS.get 11 rfl) rfl) (zzToken_any s digs hs (by decide) hb _) ?_
 intro a w1 hbw1 hS
 refine sv_r (v := .tuple #[.string (s.extract 0 (runN (inS digs) s)), .string (s.extract (runN (inS digs) s) s.size)]) hS (ex_mv (hS.get 12 rfl)) fun a hS => ?_
 refine sv_r (v := .string (s.extract 0 (runN (inS digs) s))) hS (ei_ext (hS.get 10 rfl) rfl) fun a hS => ?_
 refine sv_r (v := .string (s.extract (runN (inS digs) s) s.size)) hS (ei_ext (hS.get 10 rfl) rfl) fun a hS => ?_
 refine sv_r (v := .string (s.extract 0 (runN (inS digs) s))) hS (ex_as (hS.get 13 rfl)) fun a hS => ?_
 refine sv_r (v := .string (s.extract (runN (inS digs) s) s.size)) hS (ex_as (hS.get 14 rfl)) fun a hS => ?_
 refine wpList_nil ?_
 replace hS := hS.cut [6, 5, 4, 1]
 show Code.wp _ _ _ _ _
 refine wp_seq ?_
 refine wp_region_lit ?_
 refine sv_r (v := .string (s.extract 0 (runN (inS digs) s))) hS (ex_mv (hS.get 6 rfl)) fun a hS => ?_
 have hlt := hS.lt
 have hsz := hS.size
 refine sv_call (S := fun v w' => ∃ ev, v = .tuple #[.int .u64 0, ev] ∧ IsErr ev) hS rfl rfl (by decide) (ex_call3 cf_strconv_ParseUint (hS.get 16 rfl) rfl rfl) (by rw [h]; exact parseUint_nil _ (hG.below hS.toBelow)) ?_
 rintro a _ w2 ⟨_, rfl, et, eN, rfl⟩ hbw2 hS
 refine sv_r (v := .tuple #[.int .u64 0, .iface et (pt eN 0)]) hS (ex_mv (hS.get 17 rfl)) fun a hS => ?_
 refine sv_r (v := .int .u64 0) hS (ei_ext (hS.get 15 rfl) rfl) fun a hS => ?_
 refine sv_r (v := .iface et (pt eN 0)) hS (ei_ext (hS.get 15 rfl) rfl) fun a hS => ?_
 refine sv_r (v := .int .u64 0) hS (ex_as (hS.get 18 rfl)) fun a hS => ?_
 refine sv_r (v := .iface et (pt eN 0)) hS (ex_as (hS.get 19 rfl)) fun a hS => ?_
 refine wpList_nil ?_
 replace hS := hS.cut [9, 8, 5, 4, 1]
 show Code.wp _ _ _ _ _
 refine wp_seq ?_
 refine wp_seq ?_
 refine wp_region_lit ?_
 refine sv_r (v := .iface et (pt eN 0)) hS (ex_mv (hS.get 9 rfl)) fun a hS => ?_
 refine sv_r (v := .bool true) hS (ex_ifne (hS.get 20 rfl)) fun a hS => ?_
 refine wpList_nil ?_
 replace hS := hS.cut [21, 9, 8, 5, 4, 1]
 show Code.wp _ _ _ _ _
 refine cond_t (hS.get 21 rfl) ?_
 refine wp_seq ?_
 refine wp_region_lit ?_
 refine sv_r (v := .int .u64 ((old : Nat) : Int)) hS (ex_mv (hS.get 1 rfl)) fun a hS => ?_
 refine sv_r (v := .iface et (pt eN 0)) hS (ex_mv (hS.get 9 rfl)) fun a hS => ?_
 refine sv_r (v := .int .u64 ((old : Nat) : Int)) hS (ex_as (hS.get 22 rfl)) fun a hS => ?_
 refine sv_r (v := .iface et (pt eN 0)) hS (ex_as (hS.get 23 rfl)) fun a hS => ?_
 refine wpList_nil ?_
 replace hS := hS.cut [5, 4, 21, 9, 8]
 show Code.wp _ _ _ _ _
 refine wp_ret ?_
 try simp only [Exit.inBlock, Exit.then]
 exact ret2_of_ev hS.ev rfl (hS.get 4 rfl) (hS.get 5 rfl) ⟨_, rfl, hS.toBelow, _, rfl, _, _, rfl⟩
theorem zzUint8_ok (s : ByteArray) (old n : Nat) (hn : n ≤ 255) (hs : s.size ≤ 1000000000) (hb : ∀ h : 0 < s.size, (s[0]'h).toNat ≠ 32 ∧ (s[0]'h).toNat ≠ 9) (hne : (s.extract 0 (runN (inS digs) s)).size ≠ 0) (h : Lib.parseUint10 0 (s.extract 0 (runN (inS digs) s)).data.toList = .ok n) (w : World) : Calls Tryz.prog 68 #[.string s, .int .u8 ((old : Nat) : Int)] w fun e w' => e = .returned (.tuple #[.int .u8 n, .nilIface]) ∧ Below w.heap.size w w' := by
 refine calls_of_ev Tryz.func68 rfl (show 2 ≤ 23 from by decide) ?_
 intro a hE
 have hE : Ev 23 ((0, .string s) :: (1, .int .u8 ((old : Nat) : Int)) :: []) a := hE
 have hS : Sv 23 ((0, .string s) :: (1, .int .u8 ((old : Nat) : Int)) :: []) [] (fun _ => False) w a w := Sv.start hE _ _
 clear hE
 refine wp_seq ?_
 refine wp_region_lit ?_
 refine sv_r (v := .int .u8 0) hS ex_ac fun a hS => ?_
 refine sv_r (v := .nilIface) hS ex_ac fun a hS => ?_
 refine wpList_nil ?_
 replace hS := hS.cut [5, 4, 0, 1]
 show Code.wp _ _ _ _ _
 refine wp_seq ?_
 refine wp_region_lit ?_
 refine sv_r (v := .string s) hS (ex_mv (hS.get 0 rfl)) fun a hS => ?_
 refine sv_callv (v := .tuple #[.int .u64 ((n : Nat) : Int), .nilIface]) hS rfl rfl (by decide) (ex_call2 cf_m3u8_zzUint64 (hS.get 9 rfl) rfl) (zzUint64_ok s 0 n hs hb hne h _) ?_
 intro a w1 hbw1 hS
 refine sv_r (v := .tuple #[.int .u64 ((n : Nat) : Int), .nilIface]) hS (ex_mv (hS.get 10 rfl)) fun a hS => ?_
 refine sv_r (v := .int .u64 ((n : Nat) : Int)) hS (ei_ext (hS.get 8 rfl) rfl) fun a hS => ?_
 refine sv_r (v := .nilIface) hS (ei_ext (hS.get 8 rfl) rfl) fun a hS => ?_
 refine sv_r (v := .int .u64 ((n : Nat) : Int)) hS (ex_as (hS.get 11 rfl)) fun a hS => ?_
 refine sv_r (v := .nilIface) hS (ex_as (hS.get 12 rfl)) fun a hS => ?_
 refine wpList_nil ?_
 replace hS := hS.cut [7, 6, 5, 4, 1]
 show Code.wp _ _ _ _ _
 refine wp_seq ?_
 refine wp_seq ?_
 refine wp_region_lit ?_
 refine sv_r (v := .nilIface) hS (ex_mv (hS.get 7 rfl)) fun a hS => ?_
 refine sv_r (v := .bool false) hS (ex_ine eqi_error (hS.get 13 rfl)) fun a hS => ?_
 refine sv_r (v := .bool false) hS (ex_mv (hS.get 14 rfl)) fun a hS => ?_
 refine sv_g (v := .int .u64 ((n : Nat) : Int)) hS (hS.get 15 rfl) (ex_mv (hS.get 6 rfl)) fun a hS => ?_
 refine sv_g (v := .bool false) hS (hS.get 15 rfl) (ei_gtr (hS.get 16 rfl) rfl (by rw [decide_eq_false_iff_not]; omega)) fun a hS => ?_
 refine sv_r (v := .bool false) hS (ex_pickF (hS.get 15 rfl) (hS.get 17 rfl)) fun a hS => ?_
 refine wpList_nil ?_
 replace hS := hS.cut [18, 6, 5, 4, 1]
 show Code.wp _ _ _ _ _
 refine cond_f (hS.get 18 rfl) ?_
 refine wp_skip ?_
 show Code.wp _ _ _ _ _
 refine wp_seq ?_
 refine wp_region_lit ?_
 refine sv_r (v := .int .u64 ((n : Nat) : Int)) hS (ex_mv (hS.get 6 rfl)) fun a hS => ?_
 refine sv_r (v := .int .u8 ((n : Nat) : Int)) hS (ex_cv (hS.get 21 rfl) (cv_uint64_uint8 _ (by rw [IntKind.wrap_u8]; omega))) fun a hS => ?_
 refine sv_r (v := .int .u8 ((n : Nat) : Int)) hS (ex_as (hS.get 22 rfl)) fun a hS => ?_
 refine sv_r (v := .nilIface) hS ex_ac fun a hS => ?_
 refine wpList_nil ?_
 replace hS := hS.cut [5, 4, 18, 6, 1]
 show Code.wp _ _ _ _ _
 refine wp_ret ?_
 try simp only [Exit.inBlock, Exit.then]
 exact ret2_of_ev hS.ev rfl (hS.get 4 rfl) (hS.get 5 rfl) ⟨rfl, hS.toBelow⟩
theorem zzUint8_bad (s : ByteArray) (old : Nat) (hs : s.size ≤ 1000000000) (hb : ∀ h : 0 < s.size, (s[0]'h).toNat ≠ 32 ∧ (s[0]'h).toNat ≠ 9) (h : s.extract 0 (runN (inS digs) s) = (⟨#[]⟩ : ByteArray)) {B : Nat} {G : Ge} (w : World) (hG : Env B G w) : Calls Tryz.prog 68 #[.string s, .int .u8 ((old : Nat) : Int)] w fun e w' => ∃ v, e = .returned v ∧ Below w.heap.size w w' ∧ ∃ ev, v = .tuple #[.int .u8 old, ev] ∧ IsErr ev := by
 refine calls_of_ev Tryz.func68 rfl (show 2 ≤ 23 from by decide) ?_
 intro a hE
 have hE : Ev 23 ((0, .string s) :: (1, .int .u8 ((old : Nat) : Int)) :: []) a := hE
 have hS : Sv 23 ((0, .string s) :: (1, .int .u8 ((old : Nat) : Int)) :: []) [] (fun _ => False) w a w := Sv.start hE _ _
 clear hE
 refine wp_seq ?_
 refine wp_region_lit ?_
 refine sv_r (v := .int .u8 0) hS ex_ac fun a hS => ?_
 refine sv_r (v := .nilIface) hS ex_ac fun a hS => ?_
 refine wpList_nil ?_
 replace hS := hS.cut [5, 4, 0, 1]
 show Code.wp _ _ _ _ _
 refine wp_seq ?_
 refine wp_region_lit ?_
 refine sv_r (v := .string s) hS (ex_mv (hS.get 0 rfl)) fun a hS => ?_
 have hlt := hS.lt
 have hsz := hS.size
 refine sv_call (S := fun v w' => ∃ ev, v = .tuple #[.int .u64 0, ev] ∧ IsErr ev) hS rfl rfl (by decide) (ex_call2 cf_m3u8_zzUint64 (hS.get 9 rfl) rfl) (zzUint64_bad s 0 hs hb h _ (hG.below hS.toBelow)) ?_
 rintro a _ w1 ⟨_, rfl, et, eN, rfl⟩ hbw1 hS
 refine sv_r (v := .tuple #[.int .u64 0, .iface et (pt eN 0)]) hS (ex_mv (hS.get 10 rfl)) fun a hS => ?_
 refine sv_r (v := .int .u64 0) hS (ei_ext (hS.get 8 rfl) rfl) fun a hS => ?_
 refine sv_r (v := .iface et (pt eN 0)) hS (ei_ext (hS.get 8 rfl) rfl) fun a hS => ?_
 refine sv_r (v := .int .u64 0) hS (ex_as (hS.get 11 rfl)) fun a hS => ?_
 refine sv_r (v := .iface et (pt eN 0)) hS (ex_as (hS.get 12 rfl)) fun a hS => ?_
 refine wpList_nil ?_
 replace hS := hS.cut [7, 6, 5, 4, 1]
 show Code.wp _ _ _ _ _
 refine wp_seq ?_
 refine wp_seq ?_
 refine wp_region_lit ?_
 refine sv_r (v := .iface et (pt eN 0)) hS (ex_mv (hS.get 7 rfl)) fun a hS => ?_
 refine sv_r (v := .bool true) hS (ex_ifne (hS.get 13 rfl)) fun a hS => ?_
 refine sv_r (v := .bool true) hS (ex_mv (hS.get 14 rfl)) fun a hS => ?_
 refine sv_goff hS rfl rfl (hS.get 15 rfl) rfl rfl (by decide) ?_
 intro a hS
 refine sv_goff hS rfl rfl (hS.get 15 rfl) rfl rfl (by decide) ?_
 intro a hS
 refine sv_r (v := .bool true) hS (ex_pickT (hS.get 15 rfl) rfl) fun a hS => ?_
 refine wpList_nil ?_
 replace hS := hS.cut [18, 6, 5, 4, 1]
 show Code.wp _ _ _ _ _
 refine cond_t (hS.get 18 rfl) ?_
 refine wp_seq ?_
 refine wp_region_lit ?_
 refine sv_r (v := .int .u8 ((old : Nat) : Int)) hS (ex_mv (hS.get 1 rfl)) fun a hS => ?_
 have hlt := hS.lt
 have hsz := hS.size
 refine sv_call (S := fun v w' => ∃ N, v = .iface errES (pt N 0)) hS rfl rfl (by decide) (ex_call1 cf_errors_New rfl) (errNew_any _ _) ?_
 rintro a _ w2 ⟨eM, rfl⟩ hbw2 hS
 refine sv_r (v := .int .u8 ((old : Nat) : Int)) hS (ex_as (hS.get 19 rfl)) fun a hS => ?_
 refine sv_r (v := .iface errES (pt eM 0)) hS (ex_as (hS.get 20 rfl)) fun a hS => ?_
 refine wpList_nil ?_
 replace hS := hS.cut [5, 4, 18, 6]
 show Code.wp _ _ _ _ _
 refine wp_ret ?_
 try simp only [Exit.inBlock, Exit.then]
 exact ret2_of_ev hS.ev rfl (hS.get 4 rfl) (hS.get 5 rfl) ⟨_, rfl, hS.toBelow, _, rfl, _, _, rfl⟩
end Go.Proofs.YtflppablgdegcaaGreatDoor
