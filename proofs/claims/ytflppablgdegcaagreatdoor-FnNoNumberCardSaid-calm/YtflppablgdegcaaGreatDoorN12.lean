/- Joined: Zf, Bd, Rb. -/
import Derived.Test.YtflppablgdegcaaGreatDoorN11
import Derived.Test.YtflppablgdegcaaGreatDoorN05
import Derived.Laws.CopyRow
import Derived.Lib.ConvBytes
import Derived.Lib.BufferWrite
import Derived.Lib.BufferRead
/- The walk of zzFloat: of digits alone, of a word. -/
set_option maxRecDepth 100000
set_option maxHeartbeats 8000000
namespace Go.Proofs.YtflppablgdegcaaGreatDoor
open Go.RowKit
/-- The signs + and -. -/
def pms : ByteArray := ⟨#[43, 45]⟩
theorem ext_self (s : ByteArray) : s.extract 0 s.size = s := ba_eq (by simp [ByteArray.data_extract])
theorem ext_zero (s : ByteArray) : s.extract 0 0 = (⟨#[]⟩ : ByteArray) := ba_eq (by simp [ByteArray.data_extract])
theorem ext_end (s : ByteArray) : s.extract s.size s.size = (⟨#[]⟩ : ByteArray) := ba_eq (by simp [ByteArray.data_extract])
theorem nil_app (s : ByteArray) : (⟨#[]⟩ : ByteArray) ++ s = s := ba_eq (by simp)
theorem token_none (s chars : ByteArray) (hs : s.size ≤ 1000000000) (hc : chars.size ≤ 1000000000) (hb : ∀ h : 0 < s.size, (s[0]'h).toNat ≠ 32 ∧ (s[0]'h).toNat ≠ 9) (hr : runN (inS chars) s = 0) (w : World) : Calls Tryz.prog 88 #[.string s, .string chars] w fun e w' => e = .returned (.tuple #[.string ⟨#[]⟩, .string s]) ∧ Below w.heap.size w w' := by
 have h := zzToken_any s chars hs hc hb w
 rw [hr, ext_zero, ext_self] at h; exact h
theorem digits_all (s : ByteArray) (hs : s.size ≤ 1000000000) (hr : runN isD s = s.size) (w : World) : Calls Tryz.prog 89 #[.string s] w fun e w' => e = .returned (.tuple #[.string s, .string ⟨#[]⟩]) ∧ Below w.heap.size w w' := by
 have h := zzDigitsOf_any s hs w
 rw [hr, ext_end, ext_self] at h; exact h
theorem digits_none (s : ByteArray) (hs : s.size ≤ 1000000000) (hr : runN isD s = 0) (w : World) : Calls Tryz.prog 89 #[.string s] w fun e w' => e = .returned (.tuple #[.string ⟨#[]⟩, .string s]) ∧ Below w.heap.size w w' := by
 have h := zzDigitsOf_any s hs w
 rw [hr, ext_zero, ext_self] at h; exact h
theorem zzFloat_ok (s : ByteArray) (z old : Nat) (hs : s.size ≤ 1000000000) (hb : ∀ h : 0 < s.size, (s[0]'h).toNat ≠ 32 ∧ (s[0]'h).toNat ≠ 9) (hr : runN (inS pms) s = 0) (hd : runN isD s = s.size) (hz : FloatOf s z) {B : Nat} {G : Ge} (w : World) (hG : Env B G w) : Calls Tryz.prog 69 #[.string s, .float .f64 old] w fun e w' => e = .returned (.tuple #[.float .f64 z, .nilIface]) ∧ Below w.heap.size w w' := by
 refine calls_of_ev Tryz.func69 rfl (show 2 ≤ 105 from by decide) ?_
 intro a hE
 have hE : Ev 105 ((0, .string s) :: (1, .float .f64 (old)) :: []) a := hE
 have hS : Sv 105 ((0, .string s) :: (1, .float .f64 (old)) :: []) [] (fun _ => False) w a w := Sv.start hE _ _
 clear hE
 refine wp_seq ?_
 refine wp_region_lit ?_
 refine sv_r (v := .float .f64 0) hS ex_ac fun a hS => ?_
 refine sv_r (v := .nilIface) hS ex_ac fun a hS => ?_
 refine wpList_nil ?_
 replace hS := hS.cut [5, 4, 0, 1]
 show Code.wp _ _ _ _ _
 refine wp_seq ?_
 refine wp_region_lit ?_
 refine sv_r (v := .string s) hS (ex_mv (hS.get 0 rfl)) fun a hS => ?_
 refine sv_callv (v := .tuple #[.string (⟨#[]⟩), .string s]) hS rfl rfl (by decide) (ex_call2 cf_m3u8_zzToken (hS.get 12 rfl) rfl) (token_none s pms hs (by decide) hb hr _) ?_
 intro a w1 hbw1 hS
 refine sv_r (v := .tuple #[.string (⟨#[]⟩), .string s]) hS (ex_mv (hS.get 13 rfl)) fun a hS => ?_
 refine sv_r (v := .string (⟨#[]⟩)) hS (ei_ext (hS.get 11 rfl) rfl) fun a hS => ?_
 refine sv_r (v := .string s) hS (ei_ext (hS.get 11 rfl) rfl) fun a hS => ?_
 refine sv_r (v := .string (⟨#[]⟩)) hS (ex_as (hS.get 14 rfl)) fun a hS => ?_
 refine sv_r (v := .string s) hS (ex_as (hS.get 15 rfl)) fun a hS => ?_
 refine wpList_nil ?_
 replace hS := hS.cut [7, 6, 5, 4, 1]
 show Code.wp _ _ _ _ _
 refine wp_seq ?_
 refine wp_seq ?_
 refine wp_region_lit ?_
 refine sv_r (v := .string (⟨#[]⟩)) hS (ex_mv (hS.get 6 rfl)) fun a hS => ?_
 refine sv_r (v := .int .i64 0) hS (ex_slen (ats := #[]) (hS.get 16 rfl)) fun a hS => ?_
 refine sv_r (v := .bool false) hS (ei_gtr (hS.get 17 rfl) rfl (by decide)) fun a hS => ?_
 replace hS : Sv 105 ((18, .bool false) :: (7, .string s) :: (6, .string (⟨#[]⟩)) :: (5, .nilIface) :: (4, .float .f64 0) :: (1, .float .f64 (old)) :: []) [] (fun _ => False) w a w1 := hS.pick rfl
 refine nx1 ?_
 refine cond_f (hS.get 18 rfl) ?_
 refine wp_skip ?_
 show Code.wp _ _ _ _ _
 refine wp_seq ?_
 refine wp_region_lit ?_
 refine sv_r (v := .string s) hS (ex_mv (hS.get 7 rfl)) fun a hS => ?_
 refine sv_callv (v := .tuple #[.string s, .string (⟨#[]⟩)]) hS rfl rfl (by decide) (ex_call1 cf_m3u8_zzDigitsOf (hS.get 26 rfl)) (digits_all s hs hd _) ?_
 intro a w2 hbw2 hS
 refine sv_r (v := .tuple #[.string s, .string (⟨#[]⟩)]) hS (ex_mv (hS.get 27 rfl)) fun a hS => ?_
 refine sv_r (v := .string s) hS (ei_ext (hS.get 25 rfl) rfl) fun a hS => ?_
 refine sv_r (v := .string (⟨#[]⟩)) hS (ei_ext (hS.get 25 rfl) rfl) fun a hS => ?_
 refine sv_r (v := .string s) hS (ex_as (hS.get 28 rfl)) fun a hS => ?_
 refine sv_r (v := .string (⟨#[]⟩)) hS (ex_as (hS.get 29 rfl)) fun a hS => ?_
 refine wpList_nil ?_
 replace hS := hS.cut [7, 8, 18, 6, 5, 4, 1]
 show Code.wp _ _ _ _ _
 refine wp_seq ?_
 refine wp_region_lit ?_
 refine sv_r (v := .string (⟨#[]⟩)) hS (ex_mv (hS.get 6 rfl)) fun a hS => ?_
 refine sv_r (v := .string s) hS (ex_mv (hS.get 8 rfl)) fun a hS => ?_
 refine sv_r (v := .string ((⟨#[]⟩ : ByteArray) ++ s)) hS (ex_add (hS.get 30 rfl) (hS.get 31 rfl) (by have h0 : (⟨#[]⟩ : ByteArray).size = 0 := rfl; omega)) fun a hS => ?_
 refine sv_r (v := .string ((⟨#[]⟩ : ByteArray) ++ s)) hS (ex_as (hS.get 32 rfl)) fun a hS => ?_
 refine wpList_nil ?_
 replace hS := hS.cut [6, 7, 8, 18, 5, 4, 1]
 show Code.wp _ _ _ _ _
 refine wp_seq ?_
 refine wp_seq ?_
 refine wp_region_lit ?_
 refine sv_r (v := .string (⟨#[]⟩)) hS (ex_mv (hS.get 7 rfl)) fun a hS => ?_
 refine sv_r (v := .int .i64 0) hS (ex_slen (ats := #[]) (hS.get 33 rfl)) fun a hS => ?_
 refine sv_r (v := .bool false) hS (ei_gtr (hS.get 34 rfl) rfl (by decide)) fun a hS => ?_
 refine sv_r (v := .bool false) hS (ex_mv (hS.get 35 rfl)) fun a hS => ?_
 refine sv_goff hS rfl rfl (hS.get 36 rfl) rfl rfl (by decide) ?_
 intro a hS
 refine sv_goff hS rfl rfl (hS.get 36 rfl) rfl rfl (by decide) ?_
 intro a hS
 refine sv_goff hS rfl rfl (hS.get 36 rfl) rfl rfl (by decide) ?_
 intro a hS
 refine sv_r (v := .bool false) hS (ex_pickF (hS.get 36 rfl) rfl) fun a hS => ?_
 replace hS : Sv 105 ((40, .bool false) :: (6, .string ((⟨#[]⟩ : ByteArray) ++ s)) :: (7, .string (⟨#[]⟩)) :: (8, .string s) :: (18, .bool false) :: (5, .nilIface) :: (4, .float .f64 0) :: (1, .float .f64 (old)) :: []) [] (fun _ => False) w a w2 := hS.pick rfl
 refine nx1 ?_
 refine cond_f (hS.get 40 rfl) ?_
 refine wp_skip ?_
 show Code.wp _ _ _ _ _
 refine wp_seq ?_
 refine wp_seq ?_
 refine wp_region_lit ?_
 refine sv_r (v := .string (⟨#[]⟩)) hS (ex_mv (hS.get 7 rfl)) fun a hS => ?_
 refine sv_r (v := .int .i64 0) hS (ex_slen (ats := #[]) (hS.get 51 rfl)) fun a hS => ?_
 refine sv_r (v := .bool false) hS (ei_gtr (hS.get 52 rfl) rfl (by decide)) fun a hS => ?_
 refine sv_r (v := .bool false) hS (ex_mv (hS.get 53 rfl)) fun a hS => ?_
 refine sv_goff hS rfl rfl (hS.get 54 rfl) rfl rfl (by decide) ?_
 intro a hS
 refine sv_goff hS rfl rfl (hS.get 54 rfl) rfl rfl (by decide) ?_
 intro a hS
 refine sv_goff hS rfl rfl (hS.get 54 rfl) rfl rfl (by decide) ?_
 intro a hS
 refine sv_goff hS rfl rfl (hS.get 54 rfl) rfl rfl (by decide) ?_
 intro a hS
 refine sv_goffu hS rfl rfl (hS.get 58 rfl) rfl (by decide) ?_
 intro a hS
 refine sv_goffu hS rfl rfl (hS.get 58 rfl) rfl (by decide) ?_
 intro a hS
 refine sv_goffu hS rfl rfl (hS.get 58 rfl) rfl (by decide) ?_
 intro a hS
 refine sv_goff hS rfl rfl (hS.get 54 rfl) rfl rfl (by decide) ?_
 intro a hS
 refine sv_r (v := .bool false) hS (ex_pickF (hS.get 54 rfl) rfl) fun a hS => ?_
 refine wpList_nil ?_
 replace hS := hS.cut [63, 40, 6, 7, 8, 18, 5, 4, 1]
 show Code.wp _ _ _ _ _
 refine cond_f (hS.get 63 rfl) ?_
 refine wp_skip ?_
 show Code.wp _ _ _ _ _
 refine wp_seq ?_
 refine wp_region_lit ?_
 refine sv_r (v := .string ((⟨#[]⟩ : ByteArray) ++ s)) hS (ex_mv (hS.get 6 rfl)) fun a hS => ?_
 refine sv_callv (v := .tuple #[.float .f64 (z), .nilIface]) hS rfl rfl (by decide) (ex_call2 cf_strconv_ParseFloat (hS.get 96 rfl) rfl) (by rw [nil_app]; exact parseFloat_num s z hz _ (hG.below hS.toBelow)) ?_
 intro a w3 hbw3 hS
 refine sv_r (v := .tuple #[.float .f64 (z), .nilIface]) hS (ex_mv (hS.get 97 rfl)) fun a hS => ?_
 refine sv_r (v := .float .f64 (z)) hS (ei_ext (hS.get 95 rfl) rfl) fun a hS => ?_
 refine sv_r (v := .nilIface) hS (ei_ext (hS.get 95 rfl) rfl) fun a hS => ?_
 refine sv_r (v := .float .f64 (z)) hS (ex_as (hS.get 98 rfl)) fun a hS => ?_
 refine sv_r (v := .nilIface) hS (ex_as (hS.get 99 rfl)) fun a hS => ?_
 refine wpList_nil ?_
 replace hS := hS.cut [10, 9, 63, 40, 6, 7, 8, 18, 5, 4, 1]
 show Code.wp _ _ _ _ _
 refine wp_seq ?_
 refine wp_seq ?_
 refine wp_region_lit ?_
 refine sv_r (v := .nilIface) hS (ex_mv (hS.get 10 rfl)) fun a hS => ?_
 refine sv_r (v := .bool false) hS (ex_ine eqi_error (hS.get 100 rfl)) fun a hS => ?_
 replace hS : Sv 105 ((101, .bool false) :: (10, .nilIface) :: (9, .float .f64 (z)) :: (63, .bool false) :: (40, .bool false) :: (6, .string ((⟨#[]⟩ : ByteArray) ++ s)) :: (7, .string (⟨#[]⟩)) :: (8, .string s) :: (18, .bool false) :: (5, .nilIface) :: (4, .float .f64 0) :: (1, .float .f64 (old)) :: []) [] (fun _ => False) w a w3 := hS.pick rfl
 refine nx1 ?_
 refine cond_f (hS.get 101 rfl) ?_
 refine wp_skip ?_
 show Code.wp _ _ _ _ _
 refine wp_seq ?_
 refine wp_region_lit ?_
 refine sv_r (v := .float .f64 (z)) hS (ex_mv (hS.get 9 rfl)) fun a hS => ?_
 refine sv_r (v := .float .f64 (z)) hS (ex_as (hS.get 104 rfl)) fun a hS => ?_
 refine sv_r (v := .nilIface) hS ex_ac fun a hS => ?_
 refine wpList_nil ?_
 replace hS := hS.cut [5, 4, 101, 10, 63, 40, 6, 7, 8, 18, 1]
 show Code.wp _ _ _ _ _
 refine wp_ret ?_
 try simp only [Exit.inBlock, Exit.then]
 exact ret2_of_ev hS.ev rfl (hS.get 4 rfl) (hS.get 5 rfl) ⟨rfl, hS.toBelow⟩
theorem zzFloat_bad (s : ByteArray) (old : Nat) (hs : s.size ≤ 1000000000) (hb : ∀ h : 0 < s.size, (s[0]'h).toNat ≠ 32 ∧ (s[0]'h).toNat ≠ 9) (hr : runN (inS pms) s = 0) (hd : runN isD s = 0) (h0 : 0 < s.size) (hp : (s[0]'h0).toNat ≠ 46) (hp1 : (s[0]'h0).toNat ≠ 101) (hp2 : (s[0]'h0).toNat ≠ 69) {B : Nat} {G : Ge} (w : World) (hG : Env B G w) : Calls Tryz.prog 69 #[.string s, .float .f64 old] w fun e w' => ∃ v, e = .returned v ∧ Below w.heap.size w w' ∧ ∃ ev, v = .tuple #[.float .f64 old, ev] ∧ IsErr ev := by
 refine calls_of_ev Tryz.func69 rfl (show 2 ≤ 105 from by decide) ?_
 intro a hE
 have hE : Ev 105 ((0, .string s) :: (1, .float .f64 (old)) :: []) a := hE
 have hS : Sv 105 ((0, .string s) :: (1, .float .f64 (old)) :: []) [] (fun _ => False) w a w := Sv.start hE _ _
 clear hE
 refine wp_seq ?_
 refine wp_region_lit ?_
 refine sv_r (v := .float .f64 0) hS ex_ac fun a hS => ?_
 refine sv_r (v := .nilIface) hS ex_ac fun a hS => ?_
 refine wpList_nil ?_
 replace hS := hS.cut [5, 4, 0, 1]
 show Code.wp _ _ _ _ _
 refine wp_seq ?_
 refine wp_region_lit ?_
 refine sv_r (v := .string s) hS (ex_mv (hS.get 0 rfl)) fun a hS => ?_
 refine sv_callv (v := .tuple #[.string (⟨#[]⟩), .string s]) hS rfl rfl (by decide) (ex_call2 cf_m3u8_zzToken (hS.get 12 rfl) rfl) (token_none s pms hs (by decide) hb hr _) ?_
 intro a w1 hbw1 hS
 refine sv_r (v := .tuple #[.string (⟨#[]⟩), .string s]) hS (ex_mv (hS.get 13 rfl)) fun a hS => ?_
 refine sv_r (v := .string (⟨#[]⟩)) hS (ei_ext (hS.get 11 rfl) rfl) fun a hS => ?_
 refine sv_r (v := .string s) hS (ei_ext (hS.get 11 rfl) rfl) fun a hS => ?_
 refine sv_r (v := .string (⟨#[]⟩)) hS (ex_as (hS.get 14 rfl)) fun a hS => ?_
 refine sv_r (v := .string s) hS (ex_as (hS.get 15 rfl)) fun a hS => ?_
 refine wpList_nil ?_
 replace hS := hS.cut [7, 6, 5, 4, 1]
 show Code.wp _ _ _ _ _
 refine wp_seq ?_
 refine wp_seq ?_
 refine wp_region_lit ?_
 refine sv_r (v := .string (⟨#[]⟩)) hS (ex_mv (hS.get 6 rfl)) fun a hS => ?_
 refine sv_r (v := .int .i64 0) hS (ex_slen (ats := #[]) (hS.get 16 rfl)) fun a hS => ?_
 refine sv_r (v := .bool false) hS (ei_gtr (hS.get 17 rfl) rfl (by decide)) fun a hS => ?_
 replace hS : Sv 105 ((18, .bool false) :: (7, .string s) :: (6, .string (⟨#[]⟩)) :: (5, .nilIface) :: (4, .float .f64 0) :: (1, .float .f64 (old)) :: []) [] (fun _ => False) w a w1 := hS.pick rfl
 refine nx1 ?_
 refine cond_f (hS.get 18 rfl) ?_
 refine wp_skip ?_
 show Code.wp _ _ _ _ _
 refine wp_seq ?_
 refine wp_region_lit ?_
 refine sv_r (v := .string s) hS (ex_mv (hS.get 7 rfl)) fun a hS => ?_
 refine sv_callv (v := .tuple #[.string (⟨#[]⟩), .string s]) hS rfl rfl (by decide) (ex_call1 cf_m3u8_zzDigitsOf (hS.get 26 rfl)) (digits_none s hs hd _) ?_
 intro a w2 hbw2 hS
 refine sv_r (v := .tuple #[.string (⟨#[]⟩), .string s]) hS (ex_mv (hS.get 27 rfl)) fun a hS => ?_
 refine sv_r (v := .string (⟨#[]⟩)) hS (ei_ext (hS.get 25 rfl) rfl) fun a hS => ?_
 refine sv_r (v := .string s) hS (ei_ext (hS.get 25 rfl) rfl) fun a hS => ?_
 refine sv_r (v := .string (⟨#[]⟩)) hS (ex_as (hS.get 28 rfl)) fun a hS => ?_
 refine sv_r (v := .string s) hS (ex_as (hS.get 29 rfl)) fun a hS => ?_
 refine wpList_nil ?_
 replace hS := hS.cut [7, 8, 18, 6, 5, 4, 1]
 show Code.wp _ _ _ _ _
 refine wp_seq ?_
 refine wp_region_lit ?_
 refine sv_r (v := .string (⟨#[]⟩)) hS (ex_mv (hS.get 6 rfl)) fun a hS => ?_
 refine sv_r (v := .string (⟨#[]⟩)) hS (ex_mv (hS.get 8 rfl)) fun a hS => ?_
 refine sv_r (v := .string ((⟨#[]⟩ : ByteArray) ++ (⟨#[]⟩ : ByteArray))) hS (ex_add (hS.get 30 rfl) (hS.get 31 rfl) (by decide)) fun a hS => ?_
 refine sv_r (v := .string ((⟨#[]⟩ : ByteArray) ++ (⟨#[]⟩ : ByteArray))) hS (ex_as (hS.get 32 rfl)) fun a hS => ?_
 refine wpList_nil ?_
 replace hS := hS.cut [6, 7, 8, 18, 5, 4, 1]
 show Code.wp _ _ _ _ _
 refine wp_seq ?_
 refine wp_seq ?_
 refine wp_region_lit ?_
 refine sv_r (v := .string s) hS (ex_mv (hS.get 7 rfl)) fun a hS => ?_
 refine sv_r (v := .int .i64 ((s.size : Nat) : Int)) hS (ex_slen (ats := #[]) (hS.get 33 rfl)) fun a hS => ?_
 refine sv_r (v := .bool true) hS (ei_gtr (hS.get 34 rfl) rfl (by rw [decide_eq_true_iff]; omega)) fun a hS => ?_
 refine sv_r (v := .bool true) hS (ex_mv (hS.get 35 rfl)) fun a hS => ?_
 refine sv_g (v := .string s) hS (hS.get 36 rfl) (ex_mv (hS.get 7 rfl)) fun a hS => ?_
 refine sv_g (v := .int .u8 (((s[0]'h0).toNat : Nat) : Int)) hS (hS.get 36 rfl) (ex_sidx (i := 0) (hS.get 37 rfl) rfl h0) fun a hS => ?_
 refine sv_g (v := .bool false) hS (hS.get 36 rfl) (ei_eql (hS.get 38 rfl) rfl (by rw [decide_eq_false_iff_not]; omega)) fun a hS => ?_
 refine sv_r (v := .bool false) hS (ex_pickT (hS.get 36 rfl) (hS.get 39 rfl)) fun a hS => ?_
 replace hS : Sv 105 ((40, .bool false) :: (6, .string ((⟨#[]⟩ : ByteArray) ++ (⟨#[]⟩ : ByteArray))) :: (7, .string s) :: (8, .string (⟨#[]⟩)) :: (18, .bool false) :: (5, .nilIface) :: (4, .float .f64 0) :: (1, .float .f64 (old)) :: []) [] (fun _ => False) w a w2 := hS.pick rfl
 refine nx1 ?_
 refine cond_f (hS.get 40 rfl) ?_
 refine wp_skip ?_
 show Code.wp _ _ _ _ _
 refine wp_seq ?_
 refine wp_seq ?_
 refine wp_region_lit ?_
 refine sv_r (v := .string s) hS (ex_mv (hS.get 7 rfl)) fun a hS => ?_
 refine sv_r (v := .int .i64 ((s.size : Nat) : Int)) hS (ex_slen (ats := #[]) (hS.get 51 rfl)) fun a hS => ?_
 refine sv_r (v := .bool true) hS (ei_gtr (hS.get 52 rfl) rfl (by rw [decide_eq_true_iff]; omega)) fun a hS => ?_
 refine sv_r (v := .bool true) hS (ex_mv (hS.get 53 rfl)) fun a hS => ?_
 refine sv_g (v := .string s) hS (hS.get 54 rfl) (ex_mv (hS.get 7 rfl)) fun a hS => ?_
 refine sv_g (v := .int .u8 (((s[0]'h0).toNat : Nat) : Int)) hS (hS.get 54 rfl) (ex_sidx (i := 0) (hS.get 55 rfl) rfl h0) fun a hS => ?_
 refine sv_g (v := .bool false) hS (hS.get 54 rfl) (ei_eql (hS.get 56 rfl) rfl (by rw [decide_eq_false_iff_not]; omega)) fun a hS => ?_
 refine sv_g (v := .bool false) hS (hS.get 54 rfl) (ex_mv (hS.get 57 rfl)) fun a hS => ?_
 refine sv_g (v := .string s) hS (hS.get 58 rfl) (ex_mv (hS.get 7 rfl)) fun a hS => ?_
 refine sv_g (v := .int .u8 (((s[0]'h0).toNat : Nat) : Int)) hS (hS.get 58 rfl) (ex_sidx (i := 0) (hS.get 59 rfl) rfl h0) fun a hS => ?_
 refine sv_g (v := .bool false) hS (hS.get 58 rfl) (ei_eql (hS.get 60 rfl) rfl (by rw [decide_eq_false_iff_not]; omega)) fun a hS => ?_
 refine sv_g (v := .bool false) hS (hS.get 54 rfl) (ex_pickF (hS.get 58 rfl) (hS.get 61 rfl)) fun a hS => ?_
 refine sv_r (v := .bool false) hS (ex_pickT (hS.get 54 rfl) (hS.get 62 rfl)) fun a hS => ?_
 refine wpList_nil ?_
 replace hS := hS.cut [63, 40, 6, 7, 8, 18, 5, 4, 1]
 show Code.wp _ _ _ _ _
 refine cond_f (hS.get 63 rfl) ?_
 refine wp_skip ?_
 show Code.wp _ _ _ _ _
 refine wp_seq ?_
 refine wp_region_lit ?_
 refine sv_r (v := .string ((⟨#[]⟩ : ByteArray) ++ (⟨#[]⟩ : ByteArray))) hS (ex_mv (hS.get 6 rfl)) fun a hS => ?_
 have hlt := hS.lt
 have hsz := hS.size
 refine sv_call (S := fun v w' => ∃ ev, v = .tuple #[.float .f64 0, ev] ∧ IsErr ev) hS rfl rfl (by decide) (ex_call2 cf_strconv_ParseFloat (hS.get 96 rfl) rfl) (by rw [nil_app]; exact parseFloat_bad _ (.inl rfl) _ (hG.below hS.toBelow)) ?_
 rintro a _ w3 ⟨_, rfl, et, eN, rfl⟩ hbw3 hS
 refine sv_r (v := .tuple #[.float .f64 0, .iface et (pt eN 0)]) hS (ex_mv (hS.get 97 rfl)) fun a hS => ?_
 refine sv_r (v := .float .f64 0) hS (ei_ext (hS.get 95 rfl) rfl) fun a hS => ?_
 refine sv_r (v := .iface et (pt eN 0)) hS (ei_ext (hS.get 95 rfl) rfl) fun a hS => ?_
 refine sv_r (v := .float .f64 0) hS (ex_as (hS.get 98 rfl)) fun a hS => ?_
 refine sv_r (v := .iface et (pt eN 0)) hS (ex_as (hS.get 99 rfl)) fun a hS => ?_
 refine wpList_nil ?_
 replace hS := hS.cut [10, 9, 63, 40, 6, 7, 8, 18, 5, 4, 1]
 show Code.wp _ _ _ _ _
 refine wp_seq ?_
 refine wp_seq ?_
 refine wp_region_lit ?_
 refine sv_r (v := .iface et (pt eN 0)) hS (ex_mv (hS.get 10 rfl)) fun a hS => ?_
 refine sv_r (v := .bool true) hS (ex_ifne (hS.get 100 rfl)) fun a hS => ?_
 replace hS : Sv 105 ((101, .bool true) :: (10, .iface et (pt eN 0)) :: (9, .float .f64 0) :: (63, .bool false) :: (40, .bool false) :: (6, .string ((⟨#[]⟩ : ByteArray) ++ (⟨#[]⟩ : ByteArray))) :: (7, .string s) :: (8, .string (⟨#[]⟩)) :: (18, .bool false) :: (5, .nilIface) :: (4, .float .f64 0) :: (1, .float .f64 (old)) :: []) [] (fun _ => False) w a w3 := hS.pick rfl
 refine nx1 ?_
 refine cond_t (hS.get 101 rfl) ?_
 refine wp_seq ?_
 refine wp_region_lit ?_
 refine sv_r (v := .float .f64 (old)) hS (ex_mv (hS.get 1 rfl)) fun a hS => ?_
 refine sv_r (v := .iface et (pt eN 0)) hS (ex_mv (hS.get 10 rfl)) fun a hS => ?_
 refine sv_r (v := .float .f64 (old)) hS (ex_as (hS.get 102 rfl)) fun a hS => ?_
 refine sv_r (v := .iface et (pt eN 0)) hS (ex_as (hS.get 103 rfl)) fun a hS => ?_
 refine wpList_nil ?_
 replace hS := hS.cut [5, 4, 101, 10, 9, 63, 40, 6, 7, 8, 18]
 show Code.wp _ _ _ _ _
 refine wp_ret ?_
 try simp only [Exit.inBlock, Exit.then]
 exact ret2_of_ev hS.ev rfl (hS.get 4 rfl) (hS.get 5 rfl) ⟨_, rfl, hS.toBelow, _, rfl, _, _, rfl⟩
end Go.Proofs.YtflppablgdegcaaGreatDoor
/- Slices of bytes, copies, calls that turn old blocks. -/
namespace Go.Proofs.YtflppablgdegcaaGreatDoor
open Go.RowKit
/-- A slice of bytes of the block g. -/
def bsl (g l h c : Nat) : Value := .slice (some (if c = l then ⟨g, 0, none⟩ else ⟨g, l, none⟩)) (h - l) (c - l)
theorem bsl_ne {g l h c : Nat} (hc : c ≠ l) : bsl g l h c = .slice (some ⟨g, l, none⟩) (h - l) (c - l) := by unfold bsl; rw [if_neg hc]
theorem addr_add (g i : Nat) : (⟨g, 0, none⟩ : Addr).add i = ⟨g, i, none⟩ := by unfold Addr.add; split <;> simp_all
theorem sliced_bsl (g l h c : Nat) : sliced (some ⟨g, 0, none⟩) l h c 1 = bsl g l h c := by
 unfold sliced bsl
 split
 ·rfl
 ·simp only [Option.map_some, Nat.mul_one, addr_add]
section
variable {N : Nat} {l : List (Nat × Value)} {m : List Bk} {M : Nat → Prop} {w0 w w' : World} {a : Act} {ops : Array Oper} {rest : List Oper} {o : Oper} {Q : Exit → Act → World → Prop} {d : Nat} {v u : Value} {x y z : Operand} {dst : Option Nat} {T ty : TypeId} {ps : String} {af : Array Edge} {gd : Option (Nat × Bool)}
theorem ex_bl {E g n c i : Nat} {k : IntKind} (hu : Tryz.prog.underlying T = some (.slice E)) (hz : ∀ w, (sizeOf E).run Tryz.prog w = .ok 1 w) (hx : a.eval x = .slice (some ⟨g, 0, none⟩) n c) (hy : a.eval y = .int k i) (hc : i ≤ n) :
  (execOp a.eval ⟨dst, .slice T x (some y) none none, ty, ps, af, gd⟩).run Tryz.prog w = .ok (.value (bsl g i n c)) w := by
 have he : Tryz.prog.elem T = E := by simp [Program.elem, hu]
 have hu' : Tryz.prog.underlying T = some (.slice (Tryz.prog.elem T)) := by rw [he]; exact hu
 have h1 := run_slice_l (P := Tryz.prog) w T (some ⟨g, 0, none⟩) n c hu' k (i : Int) (by omega) (by omega)
 rw [he, hz] at h1
 have h2 : (Instr.sliceAt T (.slice (some ⟨g, 0, none⟩) n c) (some (.int k (i : Int))) none none).run Tryz.prog w = .ok (bsl g i n c) w := by
  rw [run_sliceAt_slice (h := hu'), h1]
  simp only [Result.andThen, Int.toNat_natCast, sliced_bsl]
 simp only [execOp, hx, hy, Option.map_some, Option.map_none]
 exact run_andValue h2
theorem ex_blh {E g n c i j : Nat} {k k' : IntKind} (hu : Tryz.prog.underlying T = some (.slice E)) (hz : ∀ w, (sizeOf E).run Tryz.prog w = .ok 1 w) (hx : a.eval x = .slice (some ⟨g, 0, none⟩) n c) (hy : a.eval y = .int k i) (hy2 : a.eval z = .int k' j) (hi : i ≤ j) (hc : j ≤ c) :
  (execOp a.eval ⟨dst, .slice T x (some y) (some z) none, ty, ps, af, gd⟩).run Tryz.prog w = .ok (.value (bsl g i j c)) w := by
 have he : Tryz.prog.elem T = E := by simp [Program.elem, hu]
 have hu' : Tryz.prog.underlying T = some (.slice (Tryz.prog.elem T)) := by rw [he]; exact hu
 have h1 := run_slice_lh (P := Tryz.prog) w T (some ⟨g, 0, none⟩) n c hu' k k' (i : Int) (j : Int) (by omega) (by omega) (by omega)
 rw [he, hz] at h1
 have h2 : (Instr.sliceAt T (.slice (some ⟨g, 0, none⟩) n c) (some (.int k (i : Int))) (some (.int k' (j : Int))) none).run Tryz.prog w = .ok (bsl g i j c) w := by
  rw [run_sliceAt_slice (h := hu'), h1]
  simp only [Result.andThen, Int.toNat_natCast, sliced_bsl]
 simp only [execOp, hx, hy, hy2, Option.map_some, Option.map_none]
 exact run_andValue h2
theorem ex_cap {A : Option Addr} {E n c : Nat} (hu : Tryz.prog.underlying T = some (.slice E)) (hx : a.eval x = .slice A n c) : (execOp a.eval ⟨dst, .call { callee := .builtin .cap, args := #[x], argTypes := #[T] }, ty, ps, af, gd⟩).run Tryz.prog w = .ok (.value (.int .i64 c)) w := by
 simp only [execOp, resolve, List.map_toArray, List.map_cons, List.map_nil, hx]
 go_simp
theorem ex_lenS {A : Option Addr} {E n c : Nat} (hu : Tryz.prog.underlying T = some (.slice E)) (hx : a.eval x = .slice A n c) : (execOp a.eval ⟨dst, .call { callee := .builtin .len, args := #[x], argTypes := #[T] }, ty, ps, af, gd⟩).run Tryz.prog w = .ok (.value (.int .i64 n)) w := by
 simp only [execOp, resolve, List.map_toArray, List.map_cons, List.map_nil, hx]
 go_simp
/-- A call that may turn old blocks, none of those known. -/
theorem sv_callo {X : Nat → Prop} {f : FuncId} {args : Array Value} {S : Value → World → Prop} (h : Sv N l m M w0 a w) (hg : o.guard = none) (hd : o.dst = some d) (hdN : d < N) (hr : (execOp a.eval o).run Tryz.prog w = .ok (.enter f args) w) (hc : Calls Tryz.prog f args w fun e w' => ∃ v, e = .returned v ∧ Only X w w' ∧ S v w')
  (hX : ∀ b ∈ m, ¬ X b.g) (hM : ∀ g, X g → g < w0.heap.size → M g)
  (hK : ∀ a' v w', S v w' → Only X w w' → Sv N ((d, v) :: l) m M w0 a' w' → wpList Tryz.prog ops Q rest a' w') : wpList Tryz.prog ops Q (o :: rest) a w :=
 ev_call (S := fun v w' => Only X w w' ∧ S v w') h.ev hg hd hdN hr hc fun a' v w' hS h' => hK a' v w' hS.2 hS.1 ((h.slot h').go hS.1 hX hM)
theorem only_setRow (w : World) (g : Nat) (arr : Array Value) : Only (fun x => x = g) w (w.setRow g arr) := ⟨rfl, rfl, rfl, by simp, fun k _ hk => setRow_other _ _ _ _ hk⟩
/-- 'copy' into a known block. -/
theorem sv_copy {g i k L C n c : Nat} {p : Addr} {E e : TypeId} {cur new : Array Value} {cs : List Value} {m' : List Bk} (h : Sv N l m M w0 a w) (hg : o.guard = none) (hd : o.dst = some d) (hdN : d < N) (ho : o.op = .call { callee := .builtin .copy, args := #[x, y], argTypes := #[T, T] })
  (hx : a.eval x = .slice (some ⟨g, k, none⟩) L C) (hy : a.eval y = .slice (some p) n c) (hu : Tryz.prog.underlying T = some (.slice E)) (hs : (Tryz.prog.info? E).map (·.size) = some 1) (hb : m[i]? = some ⟨g, cur, e, true⟩)
  (hn : cs.length = min n L) (hsrc : ∀ j v, cs[j]? = some v → w.cell? (p.add j) = some v) (hfit : k + cs.length ≤ cur.size) (h1 : ∀ v ∈ cs, v.oneCell' = true) (hnew : (cur.toList.take k ++ cs ++ cur.toList.drop (k + cs.length)).toArray = new) (hm : m.set i ⟨g, new, e, true⟩ = m')
  (hK : ∀ a' w', Only (fun q => q = g) w w' → Sv N ((d, .int .i64 (cs.length : Nat)) :: l) m' M w0 a' w' → wpList Tryz.prog ops Q rest a' w') : wpList Tryz.prog ops Q (o :: rest) a w := by
 subst hnew
 have hgc := h.at i hb
 have hr := run_copy_row (P := Tryz.prog) (ty := o.type) w T T E g k L C p n c cur e cs hu hs hgc hn hsrc hfit h1
 have hO := only_setRow w g (cur.toList.take k ++ cs ++ cur.toList.drop (k + cs.length)).toArray
 have hS : Sv N l m' M w0 a _ := h.put hb hm (setRow_heap w g cur _ e (0, 0) hgc) hO (fun b _ hne hX => hne hX) (fun g' hX hlt => by
  subst hX
  rcases h.wr _ (List.mem_of_getElem? hb) rfl with h2 | h2
  ·exact h2
  ·exact absurd hlt (Nat.not_lt.2 h2))
 have hrun : (execOp a.eval o).run Tryz.prog w = .ok (.value (.int .i64 (cs.length : Nat))) (w.setRow g (cur.toList.take k ++ cs ++ cur.toList.drop (k + cs.length)).toArray) := by
  unfold execOp
  simp only [ho, resolve, invoke, builtin, Sem.run_bind, Sem.run_pure, Result.andThen_ok, List.map_toArray, List.map_cons, List.map_nil, hx, hy, hr]
  rfl
 exact ev_run h.ev hg hd hdN hrun fun a' h' => hK _ _ hO (hS.slot h')
end
namespace G2
section
variable {ops : Array Oper} {a0 a : Act} {w w0 w1 : World} {Φ : Nat → Value → World → Prop} {N i : Nat} {l : List (Nat × Value)} {m : List Bk} {M : Nat → Prop}
theorem sv_ogc (h : Sv N l m M w0 a0 w) (c : OgCtx ops a0 w.drew (fun _ _ => False) Φ i a w1) : Sv N [] m M w0 a w1 := (h.empty c.size c.defers).below (drew_below c.only)
theorem sv_oge (h : Sv N l m M w0 a0 w) (c : OgEnd ops a0 w.drew (fun _ _ => False) Φ a w1) : Sv N [] m M w0 a w1 := (h.empty c.size c.defers).below (drew_below c.only)
theorem OgEnd.outG {E : Nat → Nat → Prop} (c : OgEnd ops a0 w E Φ a w1) {t : Nat} {v : Value} (h : (ops.toList.all fun o => o.dst != some t) = true) (hv : a0.eval (.tmp t) = v) : a.eval (.tmp t) = v := by
 have := c.out t (fun j o ho hd => by
  rw [List.all_eq_true] at h
  have h1 := h o (by have := Array.mem_of_getElem? ho; simpa using this)
  simp [hd] at h1)
 rw [← hv]
 simp only [Act.eval, Array.getD_eq_getD_getElem?, this]
end
end G2
theorem lt_error : Ld 58 := by intro w p v h; go_simp
end Go.Proofs.YtflppablgdegcaaGreatDoor
/- The walks of (*bytes.Buffer).grow and (*bytes.Reader).Read. -/
set_option maxRecDepth 100000
set_option maxHeartbeats 8000000
namespace Go.Proofs.YtflppablgdegcaaGreatDoor
open Go.RowKit
abbrev BufIs (B b : Nat) (bs : List Value) (w : World) : Prop := Lib.IsBuffer 84 5 B b bs w
theorem only_ge {B : Nat} {w w' : World} (h : Below B w w') : Only (fun g => B ≤ g) w w' := ⟨h.os, h.tape, h.output, h.size, fun g _ hg => h.block g (Nat.lt_of_not_le hg)⟩
theorem u8size : (Tryz.prog.info? 5).map (·.size) = some 1 := by kernel_rfl
theorem bufLen {B b : Nat} {bs : List Value} {w : World} (h : BufIs B b bs w) : Calls Tryz.prog 52 #[pt b 0] w fun e w' => ∃ v, e = .returned v ∧ Below w.heap.size w w' ∧ v = .int .i64 (bs.length : Nat) ∧ ∃ k, w' = w.drewN k :=
 Calls.mono (Any.Buffer_Len Tryz.lays181 B b bs w h) fun e w' ⟨h1, k, h2⟩ => ⟨_, h1, by rw [h2]; exact ⟨rfl, rfl, rfl, Nat.le_refl _, fun _ _ => rfl⟩, rfl, k, h2⟩
theorem bufTry {B b n : Nat} {bs : List Value} {w : World} (h : BufIs B b bs w) (hr : ¬ Lib.NoRoom b n w) : Calls Tryz.prog 54 #[pt b 0, .int .i64 n] w fun e w' => ∃ v, e = .returned v ∧ Only (fun g => B ≤ g) w w' ∧ v = .tuple #[.int .i64 (bs.length : Nat), .bool true] ∧ ∃ xs, xs.length = n ∧ BufIs B b (bs ++ xs) w' ∧ Below B w w' :=
 Calls.mono (Any.Buffer_tryGrow Tryz.lays251 B b n bs w h) fun e w' hd => by
  rcases hd with ⟨h1, xs, h2, h3, h4⟩ | ⟨_, _, h3⟩
  ·exact ⟨_, h1, only_ge h4, rfl, xs, h2, h3, h4⟩
  ·exact absurd h3 hr
theorem grow_any {B b n : Nat} {bs : List Value} {w : World} (h : BufIs B b bs w) (hBw : B ≤ w.heap.size) (h1 : ∀ v ∈ bs, v.oneCell' = true) (hlim : bs.length + n ≤ 1000000000) : Calls Tryz.prog 45 #[pt b 0, .int .i64 (n : Nat)] w fun e w' => e = .returned (.int .i64 (bs.length : Nat)) ∧ ∃ xs, xs.length = n ∧ BufIs B b (bs ++ xs) w' ∧ Below B w w' := by
 by_cases hr : Lib.NoRoom b n w
 ·exact Any.Buffer_grow Tryz.lays252 B b n bs w h hr hBw h1 (by omega)
 have h0 := h
 obtain ⟨hB, v, lr, hbk, hown, hne⟩ := h0
 have hz : bs.length = 0 ∨ bs.length ≠ 0 := Nat.eq_zero_or_pos _ |>.imp id (fun h => by omega)
 rcases hz with hz | hz
 ·refine calls_of_ev Tryz.func45 rfl (show 2 ≤ 110 from by decide) ?_
  intro a hE
  have hE : Ev 110 ((0, pt b 0) :: (1, .int .i64 ((n : Nat) : Int)) :: []) a := hE
  have hS : Sv 110 ((0, pt b 0) :: (1, .int .i64 ((n : Nat) : Int)) :: []) [] (fun g => B ≤ g) w a w := Sv.start hE _ _
  clear hE
  replace hS : Sv 110 ((0, pt b 0) :: (1, .int .i64 ((n : Nat) : Int)) :: []) [⟨b, #[v, .int .i64 0, .int .i8 lr], 84, false⟩] (fun g => B ≤ g) w a w := (hS.addR hbk (by intro b hb; cases hb)).pick rfl
  refine wp_seq ?_
  refine wp_region_lit ?_
  refine sv_r (v := .int .i64 0) hS ex_ac fun a hS => ?_
  refine wpList_nil ?_
  replace hS := hS.cut [4, 0, 1]
  show Code.wp _ _ _ _ _
  refine wp_seq ?_
  refine wp_region_lit ?_
  refine sv_r (v := pt b 0) hS (ex_mv (hS.get 0 rfl)) fun a hS => ?_
  have hlt := hS.lt
  have hsz := hS.size
  refine sv_call (S := fun v w' => v = .int .i64 (bs.length : Nat) ∧ ∃ k, w' = w.drewN k) hS rfl rfl (by decide) (ex_call1 cf_bytes_Buffer_Len (hS.get 9 rfl)) (bufLen h) ?_
  rintro a _ w1 ⟨rfl, kk, rfl⟩ hbw1 hS
  refine sv_r (v := .int .i64 ((bs.length : Nat) : Int)) hS (ex_as (hS.get 10 rfl)) fun a hS => ?_
  refine wpList_nil ?_
  replace hS := hS.cut [5, 4, 0, 1]
  show Code.wp _ _ _ _ _
  refine wp_seq ?_
  refine wp_seq ?_
  refine wp_region_lit ?_
  refine sv_r (v := .int .i64 ((bs.length : Nat) : Int)) hS (ex_mv (hS.get 5 rfl)) fun a hS => ?_
  refine sv_r (v := .bool true) hS (ei_eql (hS.get 11 rfl) rfl (by rw [decide_eq_true_iff]; omega)) fun a hS => ?_
  refine sv_r (v := .bool true) hS (ex_mv (hS.get 12 rfl)) fun a hS => ?_
  refine sv_g (v := pt b 0) hS (hS.get 13 rfl) (ex_mv (hS.get 0 rfl)) fun a hS => ?_
  refine sv_g (v := pt b 0) hS (hS.get 13 rfl) (ex_nc (hS.get 14 rfl)) fun a hS => ?_
  refine sv_g (v := pt b 1) hS (hS.get 13 rfl) (ex_fo (hS.get 15 rfl) fo_bytes_Buffer_1 rfl) fun a hS => ?_
  refine sv_g (v := .int .i64 0) hS (hS.get 13 rfl) (ex_ld (hS.get 16 rfl) lt_int (cell_of_heap (v := .int .i64 0) (hS.at 0 rfl) rfl)) fun a hS => ?_
  refine sv_g (v := .bool false) hS (hS.get 13 rfl) (ei_neq (hS.get 17 rfl) rfl (by decide)) fun a hS => ?_
  refine sv_r (v := .bool false) hS (ex_pickT (hS.get 13 rfl) (hS.get 18 rfl)) fun a hS => ?_
  replace hS : Sv 110 ((19, .bool false) :: (5, .int .i64 ((bs.length : Nat) : Int)) :: (4, .int .i64 0) :: (0, pt b 0) :: (1, .int .i64 ((n : Nat) : Int)) :: []) [⟨b, #[v, .int .i64 0, .int .i8 lr], 84, false⟩] (fun g => B ≤ g) w a (w.drewN kk) := hS.pick rfl
  refine nx1 ?_
  refine cond_f (hS.get 19 rfl) ?_
  refine wp_skip ?_
  show Code.wp _ _ _ _ _
  refine wp_seq ?_
  refine wp_seq ?_
  refine wp_region_lit ?_
  refine sv_r (v := pt b 0) hS (ex_mv (hS.get 0 rfl)) fun a hS => ?_
  refine sv_r (v := .int .i64 ((n : Nat) : Int)) hS (ex_mv (hS.get 1 rfl)) fun a hS => ?_
  replace hS : Sv 110 ((24, .int .i64 ((n : Nat) : Int)) :: (23, pt b 0) :: (19, .bool false) :: (5, .int .i64 ((bs.length : Nat) : Int)) :: (4, .int .i64 0) :: (0, pt b 0) :: (1, .int .i64 ((n : Nat) : Int)) :: []) [] (fun g => B ≤ g) w a (w.drewN kk) := (hS.mask [false]).pick rfl
  refine sv_callo (X := fun g => B ≤ g) hS rfl rfl (by decide) (ex_call2 cf_bytes_Buffer_tryGrowByReslice (hS.get 23 rfl) (hS.get 24 rfl)) (bufTry (w := w.drewN kk) h hr) (by intro b hb; cases hb) (fun g hg _ => hg) ?_
  rintro a _ w1 ⟨rfl, xs, hx, hI, hbl⟩ hO hS
  refine sv_r (v := .tuple #[.int .i64 (bs.length : Nat), .bool true]) hS (ex_mv (hS.get 25 rfl)) fun a hS => ?_
  refine sv_r (v := .int .i64 ((bs.length : Nat) : Int)) hS (ei_ext (hS.get 22 rfl) rfl) fun a hS => ?_
  refine sv_r (v := .bool true) hS (ei_ext (hS.get 22 rfl) rfl) fun a hS => ?_
  refine sv_r (v := .int .i64 ((bs.length : Nat) : Int)) hS (ex_as (hS.get 26 rfl)) fun a hS => ?_
  refine sv_r (v := .bool true) hS (ex_as (hS.get 27 rfl)) fun a hS => ?_
  refine wpList_nil ?_
  replace hS := hS.cut [7, 6, 19, 5, 4, 0, 1]
  show Code.wp _ _ _ _ _
  refine wp_seq ?_
  refine wp_region_lit ?_
  refine sv_r (v := .bool true) hS (ex_mv (hS.get 7 rfl)) fun a hS => ?_
  refine wpList_nil ?_
  replace hS := hS.cut [28, 6, 19, 5, 4, 0, 1]
  show Code.wp _ _ _ _ _
  refine cond_t (hS.get 28 rfl) ?_
  refine wp_seq ?_
  refine wp_region_lit ?_
  refine sv_r (v := .int .i64 ((bs.length : Nat) : Int)) hS (ex_mv (hS.get 6 rfl)) fun a hS => ?_
  refine sv_r (v := .int .i64 ((bs.length : Nat) : Int)) hS (ex_as (hS.get 29 rfl)) fun a hS => ?_
  replace hS : Sv 110 ((4, .int .i64 ((bs.length : Nat) : Int)) :: (28, .bool true) :: (19, .bool false) :: (5, .int .i64 ((bs.length : Nat) : Int)) :: (0, pt b 0) :: (1, .int .i64 ((n : Nat) : Int)) :: []) [] (fun g => B ≤ g) w a w1 := hS.pick rfl
  refine nx1 ?_
  refine wp_ret ?_
  try simp only [Exit.inBlock, Exit.then]
  exact ret_of_ev hS.ev rfl (hS.get 4 rfl) ⟨rfl, xs, hx, hI, ⟨hbl.os, hbl.tape, hbl.output, hbl.size, hbl.block⟩⟩
 ·refine calls_of_ev Tryz.func45 rfl (show 2 ≤ 110 from by decide) ?_
  intro a hE
  have hE : Ev 110 ((0, pt b 0) :: (1, .int .i64 ((n : Nat) : Int)) :: []) a := hE
  have hS : Sv 110 ((0, pt b 0) :: (1, .int .i64 ((n : Nat) : Int)) :: []) [] (fun g => B ≤ g) w a w := Sv.start hE _ _
  clear hE
  replace hS : Sv 110 ((0, pt b 0) :: (1, .int .i64 ((n : Nat) : Int)) :: []) [⟨b, #[v, .int .i64 0, .int .i8 lr], 84, false⟩] (fun g => B ≤ g) w a w := (hS.addR hbk (by intro b hb; cases hb)).pick rfl
  refine wp_seq ?_
  refine wp_region_lit ?_
  refine sv_r (v := .int .i64 0) hS ex_ac fun a hS => ?_
  refine wpList_nil ?_
  replace hS := hS.cut [4, 0, 1]
  show Code.wp _ _ _ _ _
  refine wp_seq ?_
  refine wp_region_lit ?_
  refine sv_r (v := pt b 0) hS (ex_mv (hS.get 0 rfl)) fun a hS => ?_
  have hlt := hS.lt
  have hsz := hS.size
  refine sv_call (S := fun v w' => v = .int .i64 (bs.length : Nat) ∧ ∃ k, w' = w.drewN k) hS rfl rfl (by decide) (ex_call1 cf_bytes_Buffer_Len (hS.get 9 rfl)) (bufLen h) ?_
  rintro a _ w1 ⟨rfl, kk, rfl⟩ hbw1 hS
  refine sv_r (v := .int .i64 ((bs.length : Nat) : Int)) hS (ex_as (hS.get 10 rfl)) fun a hS => ?_
  refine wpList_nil ?_
  replace hS := hS.cut [5, 4, 0, 1]
  show Code.wp _ _ _ _ _
  refine wp_seq ?_
  refine wp_seq ?_
  refine wp_region_lit ?_
  refine sv_r (v := .int .i64 ((bs.length : Nat) : Int)) hS (ex_mv (hS.get 5 rfl)) fun a hS => ?_
  refine sv_r (v := .bool false) hS (ei_eql (hS.get 11 rfl) rfl (by rw [decide_eq_false_iff_not]; omega)) fun a hS => ?_
  refine sv_r (v := .bool false) hS (ex_mv (hS.get 12 rfl)) fun a hS => ?_
  refine sv_goff hS rfl rfl (hS.get 13 rfl) rfl rfl (by decide) ?_
  intro a hS
  refine sv_goff hS rfl rfl (hS.get 13 rfl) rfl rfl (by decide) ?_
  intro a hS
  refine sv_goff hS rfl rfl (hS.get 13 rfl) rfl rfl (by decide) ?_
  intro a hS
  refine sv_goff hS rfl rfl (hS.get 13 rfl) rfl rfl (by decide) ?_
  intro a hS
  refine sv_goff hS rfl rfl (hS.get 13 rfl) rfl rfl (by decide) ?_
  intro a hS
  refine sv_r (v := .bool false) hS (ex_pickF (hS.get 13 rfl) rfl) fun a hS => ?_
  replace hS : Sv 110 ((19, .bool false) :: (5, .int .i64 ((bs.length : Nat) : Int)) :: (4, .int .i64 0) :: (0, pt b 0) :: (1, .int .i64 ((n : Nat) : Int)) :: []) [⟨b, #[v, .int .i64 0, .int .i8 lr], 84, false⟩] (fun g => B ≤ g) w a (w.drewN kk) := hS.pick rfl
  refine nx1 ?_
  refine cond_f (hS.get 19 rfl) ?_
  refine wp_skip ?_
  show Code.wp _ _ _ _ _
  refine wp_seq ?_
  refine wp_seq ?_
  refine wp_region_lit ?_
  refine sv_r (v := pt b 0) hS (ex_mv (hS.get 0 rfl)) fun a hS => ?_
  refine sv_r (v := .int .i64 ((n : Nat) : Int)) hS (ex_mv (hS.get 1 rfl)) fun a hS => ?_
  replace hS : Sv 110 ((24, .int .i64 ((n : Nat) : Int)) :: (23, pt b 0) :: (19, .bool false) :: (5, .int .i64 ((bs.length : Nat) : Int)) :: (4, .int .i64 0) :: (0, pt b 0) :: (1, .int .i64 ((n : Nat) : Int)) :: []) [] (fun g => B ≤ g) w a (w.drewN kk) := (hS.mask [false]).pick rfl
  refine sv_callo (X := fun g => B ≤ g) hS rfl rfl (by decide) (ex_call2 cf_bytes_Buffer_tryGrowByReslice (hS.get 23 rfl) (hS.get 24 rfl)) (bufTry (w := w.drewN kk) h hr) (by intro b hb; cases hb) (fun g hg _ => hg) ?_
  rintro a _ w1 ⟨rfl, xs, hx, hI, hbl⟩ hO hS
  refine sv_r (v := .tuple #[.int .i64 (bs.length : Nat), .bool true]) hS (ex_mv (hS.get 25 rfl)) fun a hS => ?_
  refine sv_r (v := .int .i64 ((bs.length : Nat) : Int)) hS (ei_ext (hS.get 22 rfl) rfl) fun a hS => ?_
  refine sv_r (v := .bool true) hS (ei_ext (hS.get 22 rfl) rfl) fun a hS => ?_
  refine sv_r (v := .int .i64 ((bs.length : Nat) : Int)) hS (ex_as (hS.get 26 rfl)) fun a hS => ?_
  refine sv_r (v := .bool true) hS (ex_as (hS.get 27 rfl)) fun a hS => ?_
  refine wpList_nil ?_
  replace hS := hS.cut [7, 6, 19, 5, 4, 0, 1]
  show Code.wp _ _ _ _ _
  refine wp_seq ?_
  refine wp_region_lit ?_
  refine sv_r (v := .bool true) hS (ex_mv (hS.get 7 rfl)) fun a hS => ?_
  refine wpList_nil ?_
  replace hS := hS.cut [28, 6, 19, 5, 4, 0, 1]
  show Code.wp _ _ _ _ _
  refine cond_t (hS.get 28 rfl) ?_
  refine wp_seq ?_
  refine wp_region_lit ?_
  refine sv_r (v := .int .i64 ((bs.length : Nat) : Int)) hS (ex_mv (hS.get 6 rfl)) fun a hS => ?_
  refine sv_r (v := .int .i64 ((bs.length : Nat) : Int)) hS (ex_as (hS.get 29 rfl)) fun a hS => ?_
  replace hS : Sv 110 ((4, .int .i64 ((bs.length : Nat) : Int)) :: (28, .bool true) :: (19, .bool false) :: (5, .int .i64 ((bs.length : Nat) : Int)) :: (0, pt b 0) :: (1, .int .i64 ((n : Nat) : Int)) :: []) [] (fun g => B ≤ g) w a w1 := hS.pick rfl
  refine nx1 ?_
  refine wp_ret ?_
  try simp only [Exit.inBlock, Exit.then]
  exact ret_of_ev hS.ev rfl (hS.get 4 rfl) ⟨rfl, xs, hx, hI, ⟨hbl.os, hbl.tape, hbl.output, hbl.size, hbl.block⟩⟩
theorem rdRead_end {r g n cc pos : Nat} {prev : Int} {p : Value} {w : World} (hr : w.heap[r]? = some (.cells #[.slice (some ⟨g, 0, none⟩) n cc, .int .i64 ((pos : Nat) : Int), .int .i64 prev] 97 (0, 0))) (hp : n ≤ pos) (hn : pos ≤ 1000000000) {B : Nat} {G : Ge} (hG : Env B G w) : Calls Tryz.prog 202 #[pt r 0, p] w fun e w' => e = .returned (.tuple #[.int .i64 0, eofV G]) ∧ Below w.heap.size w w' := by
 refine calls_of_ev Tryz.func202 rfl (show 2 ≤ 39 from by decide) ?_
 intro a hE
 have hE : Ev 39 ((0, pt r 0) :: (1, p) :: []) a := hE
 have hS : Sv 39 ((0, pt r 0) :: (1, p) :: []) [] (fun _ => False) w a w := Sv.start hE _ _
 clear hE
 replace hS : Sv 39 ((0, pt r 0) :: (1, p) :: []) [⟨r, #[.slice (some ⟨g, 0, none⟩) n cc, .int .i64 ((pos : Nat) : Int), .int .i64 prev], 97, false⟩] (fun _ => False) w a w := (hS.addR hr (by intro b hb; cases hb)).pick rfl
 refine wp_seq ?_
 refine wp_region_lit ?_
 refine sv_r (v := .int .i64 0) hS ex_ac fun a hS => ?_
 refine sv_r (v := .nilIface) hS ex_ac fun a hS => ?_
 refine wpList_nil ?_
 replace hS := hS.cut [5, 4, 0, 1]
 show Code.wp _ _ _ _ _
 refine wp_seq ?_
 refine wp_seq ?_
 refine wp_region_og1 (n := 39) 9 [Asr.eq (pt r 0), Asr.eq (pt r 0), Asr.eq (pt r 1), Asr.eq (.int .i64 ((pos : Nat) : Int)), Asr.eq (pt r 0), Asr.eq (pt r 0), Asr.eq (pt r 0), Asr.eq (.slice (some ⟨g, 0, none⟩) n cc), Asr.eq (.int .i64 ((n : Nat) : Int))] (by kernel_rfl) (by kernel_rfl) (by kernel_rfl) (by simp) (by kernel_rfl) hS.ev.size ⟨⟩ ?_ ?_
 ·simp only [List.take_succ_cons, List.take_zero]
  refine ⟨?_, ?_, ?_, ?_, ?_, ?_, ?_, ?_, ?_, trivial⟩
  ·intro a wx c
   have e_0 : a.eval (.tmp 0) = pt r 0 := c.outE (by decide +kernel) (hS.get 0 rfl)
   clear c
   exact og_val (ex_mv e_0) rfl
  ·intro a wx c
   have e_6 : a.eval (.tmp 6) = pt r 0 := c.slot 0 _ (by decide +kernel) rfl
   clear c
   exact og_val (ex_nc e_6) rfl
  ·intro a wx c
   have e_7 : a.eval (.tmp 7) = pt r 0 := c.slot 1 _ (by decide +kernel) rfl
   clear c
   exact og_val (ex_fo e_7 fo_bytes_Reader_1 rfl) rfl
  ·intro a wx c
   have e_8 : a.eval (.tmp 8) = pt r 1 := c.slot 2 _ (by decide +kernel) rfl
   have hO := hS.ogc c
   clear c
   exact og_val (ex_ld e_8 lt_int64 (cell_of_heap (v := .int .i64 ((pos : Nat) : Int)) (hO.at 0 rfl) rfl)) rfl
  ·intro a wx c
   have e_0 : a.eval (.tmp 0) = pt r 0 := c.outE (by decide +kernel) (hS.get 0 rfl)
   clear c
   exact og_val (ex_mv e_0) rfl
  ·intro a wx c
   have e_10 : a.eval (.tmp 10) = pt r 0 := c.slot 4 _ (by decide +kernel) rfl
   clear c
   exact og_val (ex_nc e_10) rfl
  ·intro a wx c
   have e_11 : a.eval (.tmp 11) = pt r 0 := c.slot 5 _ (by decide +kernel) rfl
   clear c
   exact og_val (ex_fo e_11 fo_bytes_Reader_0 rfl) rfl
  ·intro a wx c
   have e_12 : a.eval (.tmp 12) = pt r 0 := c.slot 6 _ (by decide +kernel) rfl
   have hO := hS.ogc c
   clear c
   exact og_val (ex_ld e_12 lt_sl_uint8 (cell_of_heap (v := .slice (some ⟨g, 0, none⟩) n cc) (hO.at 0 rfl) rfl)) rfl
  ·intro a wx c
   have e_13 : a.eval (.tmp 13) = .slice (some ⟨g, 0, none⟩) n cc := c.slot 7 _ (by decide +kernel) rfl
   clear c
   exact og_val (ex_len Tryz.underlying45 e_13) rfl
 ·intro a w1 c hbw1
  replace hS : Sv 39 ((14, .int .i64 ((n : Nat) : Int)) :: (9, .int .i64 ((pos : Nat) : Int)) :: (1, p) :: (0, pt r 0) :: (4, .int .i64 0) :: (5, .nilIface) :: []) [⟨r, #[.slice (some ⟨g, 0, none⟩) n cc, .int .i64 ((pos : Nat) : Int), .int .i64 prev], 97, false⟩] (fun _ => False) w a w1 := (((((((hS.ogh c).know (c.outE (by decide +kernel) (hS.get 5 rfl))).know (c.outE (by decide +kernel) (hS.get 4 rfl))).know (c.outE (by decide +kernel) (hS.get 0 rfl))).know (c.outE (by decide +kernel) (hS.get 1 rfl))).know (c.slot 3 _ (by decide +kernel) rfl)).know (c.slot 8 _ (by decide +kernel) rfl))
  clear c
  simp only [List.drop_succ_cons, List.drop_zero]
  refine sv_r (v := .bool true) hS (ei_geq (hS.get 9 rfl) (hS.get 14 rfl) (by rw [decide_eq_true_iff]; omega)) fun a hS => ?_
  refine wpList_nil ?_
  replace hS := hS.cut [15, 1, 0, 4, 5]
  show Code.wp _ _ _ _ _
  refine cond_t (hS.get 15 rfl) ?_
  refine wp_seq ?_
  refine G2.wp_region_og0 (n := 39) [G2.Asr.eq (eofV G), G2.Asr.eq (.int .i64 0), G2.Asr.eq (eofV G)] (by kernel_rfl) (by kernel_rfl) (by kernel_rfl) hS.ev.size ⟨⟩ ?_ ?_
  ·refine ⟨?_, ?_, ?_, trivial⟩
   ·intro a wx c
    have hO := G2.sv_ogc hS c
    have hO := G2.sv_ogc hS c
    clear c
    exact G2.og_val (ex_ldg lt_error (hG.below hO.toBelow).eof) rfl
   ·intro a wx c
    clear c
    exact G2.og_val ex_ac rfl
   ·intro a wx c
    have e_16 : a.eval (.tmp 16) = eofV G := c.slot 0 _ (by decide +kernel) rfl
    clear c
    exact G2.og_val (ex_as e_16) rfl
  ·intro a w2 c hbw2
   replace hS : Sv 39 ((5, eofV G) :: (4, .int .i64 0) :: (0, pt r 0) :: (1, p) :: (15, .bool true) :: []) [⟨r, #[.slice (some ⟨g, 0, none⟩) n cc, .int .i64 ((pos : Nat) : Int), .int .i64 prev], 97, false⟩] (fun _ => False) w a w2 := ((((((G2.sv_oge hS c).know (c.outG (by decide +kernel) (hS.get 15 rfl))).know (c.outG (by decide +kernel) (hS.get 1 rfl))).know (c.outG (by decide +kernel) (hS.get 0 rfl))).know (c.slot 1 _ rfl)).know (c.slot 2 _ rfl))
   clear c
   replace hS : Sv 39 ((5, eofV G) :: (4, .int .i64 0) :: (0, pt r 0) :: (1, p) :: (15, .bool true) :: []) [⟨r, #[.slice (some ⟨g, 0, none⟩) n cc, .int .i64 ((pos : Nat) : Int), .int .i64 prev], 97, false⟩] (fun _ => False) w a w2 := hS.pick rfl
   show Code.wp _ _ _ _ _
   refine wp_ret ?_
   try simp only [Exit.inBlock, Exit.then]
   exact ret2_of_ev hS.ev rfl (hS.get 4 rfl) (hS.get 5 rfl) ⟨rfl, hS.toBelow⟩
theorem rdRead_some {r g n cc pos H k L C : Nat} {prev : Int} {cur : Array Value} {s : ByteArray} {w : World} (hr : w.heap[r]? = some (.cells #[.slice (some ⟨g, 0, none⟩) n cc, .int .i64 ((pos : Nat) : Int), .int .i64 prev] 97 (0, 0))) (hD : Lib.Bytes w g 0 s) (hs : s.size = n) (hc : n ≤ cc) (hH : w.heap[H]? = some (.cells cur 5 (0, 0))) (hHr : H ≠ r) (hHg : H ≠ g) (hp : pos < n) (hn : n ≤ 1000000000) (hfit : k + L ≤ cur.size) :
  Calls Tryz.prog 202 #[pt r 0, .slice (some ⟨H, k, none⟩) L C] w fun e w' => e = .returned (.tuple #[.int .i64 ((min (n - pos) L : Nat) : Int), .nilIface]) ∧ Only (fun q => q = r ∨ q = H) w w' ∧ w'.heap[r]? = some (.cells #[.slice (some ⟨g, 0, none⟩) n cc, .int .i64 ((pos + min (n - pos) L : Nat) : Int), .int .i64 (-1)] 97 (0, 0)) ∧
   w'.heap[H]? = some (.cells (cur.toList.take k ++ Lib.byteCells ((s.data.toList.drop pos).take (min (n - pos) L)) ++ cur.toList.drop (k + min (n - pos) L)).toArray 5 (0, 0)) := by
 have hcl : (Lib.byteCells ((s.data.toList.drop pos).take (min (n - pos) L))).length = min (n - pos) L := by
  simp only [Lib.byteCells, List.length_map, List.length_take, List.length_drop, len_list, hs]; omega
 have hgr : g ≠ r := by
  rintro rfl
  have h1 := hD 0 (by omega)
  simp [World.cell?, hr] at h1
 have hsrc : ∀ w' : World, Only (fun q => q = r ∨ q = H) w w' → ∀ j v, (Lib.byteCells ((s.data.toList.drop pos).take (min (n - pos) L)))[j]? = some v → w'.cell? ((⟨g, pos, none⟩ : Addr).add j) = some v := by
  intro w' ho j v hj
  have hjl := (List.getElem?_eq_some_iff.1 hj).1
  rw [hcl] at hjl
  have h1 := hD (pos + j) (by omega)
  have hgl : g < w.heap.size := by
   by_cases hgl : g < w.heap.size
   ·exact hgl
   ·rw [World.cell?, Array.getElem?_eq_none (show w.heap.size ≤ g by omega)] at h1; cases h1
  have e1 : (⟨g, pos, none⟩ : Addr).add j = ⟨g, 0 + (pos + j), none⟩ := by unfold Addr.add; split <;> simp_all
  rw [e1, World.cell?_of_block (w := w) (ho.block g hgl (fun e => e.elim hgr (fun e => hHg e.symm))), h1, ← hj]
  simp only [Lib.byteCells, List.getElem?_map, List.getElem?_take, List.getElem?_drop]
  rw [if_pos (by omega), at_list (by omega)]
  rfl
 refine calls_of_ev Tryz.func202 rfl (show 2 ≤ 39 from by decide) ?_
 intro a hE
 have hE : Ev 39 ((0, pt r 0) :: (1, .slice (some ⟨H, k, none⟩) L C) :: []) a := hE
 have hS : Sv 39 ((0, pt r 0) :: (1, .slice (some ⟨H, k, none⟩) L C) :: []) [] (fun q => q = r ∨ q = H) w a w := Sv.start hE _ _
 clear hE
 replace hS : Sv 39 ((0, pt r 0) :: (1, .slice (some ⟨H, k, none⟩) L C) :: []) [⟨H, cur, 5, true⟩, ⟨r, #[.slice (some ⟨g, 0, none⟩) n cc, .int .i64 ((pos : Nat) : Int), .int .i64 prev], 97, true⟩] (fun q => q = r ∨ q = H) w a w := ((hS.addB hr (by intro b hb; cases hb) (fun _ => .inl (.inl rfl))).addB hH (by intro b hb; cases List.mem_singleton.1 hb; exact hHr.symm) (fun _ => .inl (.inr rfl))).pick rfl
 refine wp_seq ?_
 refine wp_region_lit ?_
 refine sv_r (v := .int .i64 0) hS ex_ac fun a hS => ?_
 refine sv_r (v := .nilIface) hS ex_ac fun a hS => ?_
 refine wpList_nil ?_
 replace hS := hS.cut [5, 4, 0, 1]
 show Code.wp _ _ _ _ _
 refine wp_seq ?_
 refine wp_seq ?_
 refine wp_region_og1 (n := 39) 9 [Asr.eq (pt r 0), Asr.eq (pt r 0), Asr.eq (pt r 1), Asr.eq (.int .i64 ((pos : Nat) : Int)), Asr.eq (pt r 0), Asr.eq (pt r 0), Asr.eq (pt r 0), Asr.eq (.slice (some ⟨g, 0, none⟩) n cc), Asr.eq (.int .i64 ((n : Nat) : Int))] (by kernel_rfl) (by kernel_rfl) (by kernel_rfl) (by simp) (by kernel_rfl) hS.ev.size ⟨⟩ ?_ ?_
 ·simp only [List.take_succ_cons, List.take_zero]
  refine ⟨?_, ?_, ?_, ?_, ?_, ?_, ?_, ?_, ?_, trivial⟩
  ·intro a wx c
   have e_0 : a.eval (.tmp 0) = pt r 0 := c.outE (by decide +kernel) (hS.get 0 rfl)
   clear c
   exact og_val (ex_mv e_0) rfl
  ·intro a wx c
   have e_6 : a.eval (.tmp 6) = pt r 0 := c.slot 0 _ (by decide +kernel) rfl
   clear c
   exact og_val (ex_nc e_6) rfl
  ·intro a wx c
   have e_7 : a.eval (.tmp 7) = pt r 0 := c.slot 1 _ (by decide +kernel) rfl
   clear c
   exact og_val (ex_fo e_7 fo_bytes_Reader_1 rfl) rfl
  ·intro a wx c
   have e_8 : a.eval (.tmp 8) = pt r 1 := c.slot 2 _ (by decide +kernel) rfl
   have hO := hS.ogc c
   clear c
   exact og_val (ex_ld e_8 lt_int64 (cell_of_heap (v := .int .i64 ((pos : Nat) : Int)) (hO.at 1 rfl) rfl)) rfl
  ·intro a wx c
   have e_0 : a.eval (.tmp 0) = pt r 0 := c.outE (by decide +kernel) (hS.get 0 rfl)
   clear c
   exact og_val (ex_mv e_0) rfl
  ·intro a wx c
   have e_10 : a.eval (.tmp 10) = pt r 0 := c.slot 4 _ (by decide +kernel) rfl
   clear c
   exact og_val (ex_nc e_10) rfl
  ·intro a wx c
   have e_11 : a.eval (.tmp 11) = pt r 0 := c.slot 5 _ (by decide +kernel) rfl
   clear c
   exact og_val (ex_fo e_11 fo_bytes_Reader_0 rfl) rfl
  ·intro a wx c
   have e_12 : a.eval (.tmp 12) = pt r 0 := c.slot 6 _ (by decide +kernel) rfl
   have hO := hS.ogc c
   clear c
   exact og_val (ex_ld e_12 lt_sl_uint8 (cell_of_heap (v := .slice (some ⟨g, 0, none⟩) n cc) (hO.at 1 rfl) rfl)) rfl
  ·intro a wx c
   have e_13 : a.eval (.tmp 13) = .slice (some ⟨g, 0, none⟩) n cc := c.slot 7 _ (by decide +kernel) rfl
   clear c
   exact og_val (ex_len Tryz.underlying45 e_13) rfl
 ·intro a w1 c hbw1
  replace hS : Sv 39 ((14, .int .i64 ((n : Nat) : Int)) :: (9, .int .i64 ((pos : Nat) : Int)) :: (1, .slice (some ⟨H, k, none⟩) L C) :: (0, pt r 0) :: (4, .int .i64 0) :: (5, .nilIface) :: []) [⟨H, cur, 5, true⟩, ⟨r, #[.slice (some ⟨g, 0, none⟩) n cc, .int .i64 ((pos : Nat) : Int), .int .i64 prev], 97, true⟩] (fun q => q = r ∨ q = H) w a w1 := (((((((hS.ogh c).know (c.outE (by decide +kernel) (hS.get 5 rfl))).know (c.outE (by decide +kernel) (hS.get 4 rfl))).know (c.outE (by decide +kernel) (hS.get 0 rfl))).know (c.outE (by decide +kernel) (hS.get 1 rfl))).know (c.slot 3 _ (by decide +kernel) rfl)).know (c.slot 8 _ (by decide +kernel) rfl))
  clear c
  simp only [List.drop_succ_cons, List.drop_zero]
  refine sv_r (v := .bool false) hS (ei_geq (hS.get 9 rfl) (hS.get 14 rfl) (by rw [decide_eq_false_iff_not]; omega)) fun a hS => ?_
  refine wpList_nil ?_
  replace hS := hS.cut [15, 1, 0, 4, 5]
  show Code.wp _ _ _ _ _
  refine cond_f (hS.get 15 rfl) ?_
  refine wp_skip ?_
  show Code.wp _ _ _ _ _
  refine wp_seq ?_
  refine wp_region_lit ?_
  refine sv_r (v := pt r 0) hS (ex_mv (hS.get 0 rfl)) fun a hS => ?_
  refine sv_r (v := pt r 0) hS (ex_nc (hS.get 17 rfl)) fun a hS => ?_
  refine sv_r (v := pt r 2) hS (ex_fo (hS.get 18 rfl) fo_bytes_Reader_2 rfl) fun a hS => ?_
  refine sv_st (i := 1) (v := .int .i64 (-1)) (cs' := #[.slice (some ⟨g, 0, none⟩) n cc, .int .i64 ((pos : Nat) : Int), .int .i64 (-1)]) (m' := [⟨H, cur, 5, true⟩, ⟨r, #[.slice (some ⟨g, 0, none⟩) n cc, .int .i64 ((pos : Nat) : Int), .int .i64 (-1)], 97, true⟩]) hS (su_int _) (hS.get 19 rfl) rfl rfl (show 2 < 3 from by decide) rfl rfl ?_
  intro w2 hty hS
  replace hS : Sv 39 ((15, .bool false) :: (1, .slice (some ⟨H, k, none⟩) L C) :: (0, pt r 0) :: (4, .int .i64 0) :: (5, .nilIface) :: []) [⟨H, cur, 5, true⟩, ⟨r, #[.slice (some ⟨g, 0, none⟩) n cc, .int .i64 ((pos : Nat) : Int), .int .i64 (-1)], 97, true⟩] (fun q => q = r ∨ q = H) w a w2 := hS.pick rfl
  refine nx1 ?_
  refine wp_seq ?_
  refine wp_region_og1 (n := 39) 10 [Asr.eq (.slice (some ⟨H, k, none⟩) L C), Asr.eq (pt r 0), Asr.eq (pt r 0), Asr.eq (pt r 0), Asr.eq (.slice (some ⟨g, 0, none⟩) n cc), Asr.eq (pt r 0), Asr.eq (pt r 0), Asr.eq (pt r 1), Asr.eq (.int .i64 ((pos : Nat) : Int)), Asr.eq (bsl g pos n cc)] (by kernel_rfl) (by kernel_rfl) (by kernel_rfl) (by simp) (by kernel_rfl) hS.ev.size ⟨⟩ ?_ ?_
  ·simp only [List.take_succ_cons, List.take_zero]
   refine ⟨?_, ?_, ?_, ?_, ?_, ?_, ?_, ?_, ?_, ?_, trivial⟩
   ·intro a wx c
    have e_1 : a.eval (.tmp 1) = .slice (some ⟨H, k, none⟩) L C := c.outE (by decide +kernel) (hS.get 1 rfl)
    clear c
    exact og_val (ex_mv e_1) rfl
   ·intro a wx c
    have e_0 : a.eval (.tmp 0) = pt r 0 := c.outE (by decide +kernel) (hS.get 0 rfl)
    clear c
    exact og_val (ex_mv e_0) rfl
   ·intro a wx c
    have e_21 : a.eval (.tmp 21) = pt r 0 := c.slot 1 _ (by decide +kernel) rfl
    clear c
    exact og_val (ex_nc e_21) rfl
   ·intro a wx c
    have e_22 : a.eval (.tmp 22) = pt r 0 := c.slot 2 _ (by decide +kernel) rfl
    clear c
    exact og_val (ex_fo e_22 fo_bytes_Reader_0 rfl) rfl
   ·intro a wx c
    have e_23 : a.eval (.tmp 23) = pt r 0 := c.slot 3 _ (by decide +kernel) rfl
    have hO := hS.ogc c
    clear c
    exact og_val (ex_ld e_23 lt_sl_uint8 (cell_of_heap (v := .slice (some ⟨g, 0, none⟩) n cc) (hO.at 1 rfl) rfl)) rfl
   ·intro a wx c
    have e_0 : a.eval (.tmp 0) = pt r 0 := c.outE (by decide +kernel) (hS.get 0 rfl)
    clear c
    exact og_val (ex_mv e_0) rfl
   ·intro a wx c
    have e_25 : a.eval (.tmp 25) = pt r 0 := c.slot 5 _ (by decide +kernel) rfl
    clear c
    exact og_val (ex_nc e_25) rfl
   ·intro a wx c
    have e_26 : a.eval (.tmp 26) = pt r 0 := c.slot 6 _ (by decide +kernel) rfl
    clear c
    exact og_val (ex_fo e_26 fo_bytes_Reader_1 rfl) rfl
   ·intro a wx c
    have e_27 : a.eval (.tmp 27) = pt r 1 := c.slot 7 _ (by decide +kernel) rfl
    have hO := hS.ogc c
    clear c
    exact og_val (ex_ld e_27 lt_int64 (cell_of_heap (v := .int .i64 ((pos : Nat) : Int)) (hO.at 1 rfl) rfl)) rfl
   ·intro a wx c
    have e_24 : a.eval (.tmp 24) = .slice (some ⟨g, 0, none⟩) n cc := c.slot 4 _ (by decide +kernel) rfl
    have e_28 : a.eval (.tmp 28) = .int .i64 ((pos : Nat) : Int) := c.slot 8 _ (by decide +kernel) rfl
    clear c
    exact og_val (ex_bl Tryz.underlying45 Tryz.sizeOf5 e_24 e_28 (by omega)) rfl
  ·intro a w3 c hbw3
   replace hS : Sv 39 ((29, bsl g pos n cc) :: (20, .slice (some ⟨H, k, none⟩) L C) :: (5, .nilIface) :: (4, .int .i64 0) :: (0, pt r 0) :: (1, .slice (some ⟨H, k, none⟩) L C) :: (15, .bool false) :: []) [⟨H, cur, 5, true⟩, ⟨r, #[.slice (some ⟨g, 0, none⟩) n cc, .int .i64 ((pos : Nat) : Int), .int .i64 (-1)], 97, true⟩] (fun q => q = r ∨ q = H) w a w3 := ((((((((hS.ogh c).know (c.outE (by decide +kernel) (hS.get 15 rfl))).know (c.outE (by decide +kernel) (hS.get 1 rfl))).know (c.outE (by decide +kernel) (hS.get 0 rfl))).know (c.outE (by decide +kernel) (hS.get 4 rfl))).know (c.outE (by decide +kernel) (hS.get 5 rfl))).know (c.slot 0 _ (by decide +kernel) rfl)).know (c.slot 9 _ (by decide +kernel) rfl))
   clear c
   simp only [List.drop_succ_cons, List.drop_zero]
   refine sv_copy (i := 0) (cs := Lib.byteCells ((s.data.toList.drop pos).take (min (n - pos) L))) (m' := [⟨H, (cur.toList.take k ++ Lib.byteCells ((s.data.toList.drop pos).take (min (n - pos) L)) ++ cur.toList.drop (k + min (n - pos) L)).toArray, 5, true⟩, ⟨r, #[.slice (some ⟨g, 0, none⟩) n cc, .int .i64 ((pos : Nat) : Int), .int .i64 (-1)], 97, true⟩]) hS rfl rfl (by decide) rfl (hS.get 20 rfl) (by rw [hS.get 29 rfl, bsl_ne (by omega)]) Tryz.underlying45 u8size rfl (by rw [hcl]) (hsrc _ hS.only) (by rw [hcl]; omega) (Lib.byteCells_one _) (by rw [hcl]) rfl ?_
   intro a w4 hO hS
   rw [hcl] at hS
   refine sv_r (v := .int .i64 ((min (n - pos) L : Nat) : Int)) hS (ex_as (hS.get 30 rfl)) fun a hS => ?_
   refine wpList_nil ?_
   replace hS := hS.cut [4, 5, 0, 15]
   show Code.wp _ _ _ _ _
   refine wp_seq ?_
   refine wp_region_lit ?_
   refine sv_r (v := pt r 0) hS (ex_mv (hS.get 0 rfl)) fun a hS => ?_
   refine sv_r (v := pt r 0) hS (ex_nc (hS.get 31 rfl)) fun a hS => ?_
   refine sv_r (v := pt r 1) hS (ex_fo (hS.get 32 rfl) fo_bytes_Reader_1 rfl) fun a hS => ?_
   refine sv_r (v := .int .i64 ((pos : Nat) : Int)) hS (ex_ld (hS.get 33 rfl) lt_int64 (cell_of_heap (v := .int .i64 ((pos : Nat) : Int)) (hS.at 1 rfl) rfl)) fun a hS => ?_
   refine sv_r (v := .int .i64 ((min (n - pos) L : Nat) : Int)) hS (ex_mv (hS.get 4 rfl)) fun a hS => ?_
   refine sv_r (v := .int .i64 ((pos + (min (n - pos) L) : Nat) : Int)) hS (ei_add (hS.get 34 rfl) (hS.get 35 rfl) (by rw [IntKind.wrap_i64]; omega)) fun a hS => ?_
   refine sv_r (v := pt r 0) hS (ex_nc (hS.get 31 rfl)) fun a hS => ?_
   refine sv_r (v := pt r 1) hS (ex_fo (hS.get 37 rfl) fo_bytes_Reader_1 rfl) fun a hS => ?_
   refine sv_st (i := 1) (v := .int .i64 ((pos + (min (n - pos) L) : Nat) : Int)) (cs' := #[.slice (some ⟨g, 0, none⟩) n cc, .int .i64 ((pos + (min (n - pos) L) : Nat) : Int), .int .i64 (-1)]) (m' := [⟨H, (cur.toList.take k ++ Lib.byteCells ((s.data.toList.drop pos).take (min (n - pos) L)) ++ cur.toList.drop (k + min (n - pos) L)).toArray, 5, true⟩, ⟨r, #[.slice (some ⟨g, 0, none⟩) n cc, .int .i64 ((pos + (min (n - pos) L) : Nat) : Int), .int .i64 (-1)], 97, true⟩]) hS (su_int64 _) (hS.get 38 rfl) (hS.get 36 rfl) rfl (show 1 < 3 from by decide) rfl rfl ?_
   intro w5 hty hS
   refine wpList_nil ?_
   replace hS := hS.cut [4, 5, 0, 15]
   show Code.wp _ _ _ _ _
   refine wp_ret ?_
   try simp only [Exit.inBlock, Exit.then]
   exact ret2_of_ev hS.ev rfl (hS.get 4 rfl) (hS.get 5 rfl) ⟨rfl, hS.only, hS.at 1 rfl, hS.at 0 rfl⟩
end Go.Proofs.YtflppablgdegcaaGreatDoor
