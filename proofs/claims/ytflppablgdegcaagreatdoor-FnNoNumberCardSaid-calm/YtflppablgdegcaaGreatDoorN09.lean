/- Joined: Rg. -/
import Derived.Test.YtflppablgdegcaaGreatDoorN08
/- readFloat at texts that are no numbers; special. -/
set_option maxRecDepth 100000
set_option maxHeartbeats 8000000
namespace Go.Proofs.YtflppablgdegcaaGreatDoor
open Go.RowKit
/-- A text of letters from g to x. -/
def WordB (s : ByteArray) : Prop := ∀ (i : Nat) (h : i < s.size), 103 ≤ (s[i]'h).toNat ∧ (s[i]'h).toNat ≤ 120
theorem readFloat_nil (w : World) : Calls Tryz.prog 128 #[.string ⟨#[]⟩] w fun e w' => e = .returned (.tuple #[.int .u64 0, .int .i64 0, .bool false, .bool false, .bool false, .int .i64 0, .bool false]) ∧ Below w.heap.size w w' := by
 refine calls_of_ev Tryz.func128 rfl (show 1 ≤ 253 from by decide) ?_
 intro a hE
 have hE : Ev 253 ((0, .string (⟨#[]⟩)) :: []) a := hE
 have hS : Sv 253 ((0, .string (⟨#[]⟩)) :: []) [] (fun _ => False) w a w := Sv.start hE _ _
 clear hE
 refine wp_seq ?_
 refine wp_region_lit ?_
 refine sv_r (v := .int .u64 0) hS ex_ac fun a hS => ?_
 refine sv_r (v := .int .i64 0) hS ex_ac fun a hS => ?_
 refine sv_r (v := .bool false) hS ex_ac fun a hS => ?_
 refine sv_r (v := .bool false) hS ex_ac fun a hS => ?_
 refine sv_r (v := .bool false) hS ex_ac fun a hS => ?_
 refine sv_r (v := .int .i64 0) hS ex_ac fun a hS => ?_
 refine sv_r (v := .bool false) hS ex_ac fun a hS => ?_
 refine wpList_nil ?_
 replace hS := hS.cut [8, 7, 6, 5, 4, 3, 2, 0]
 show Code.wp _ _ _ _ _
 refine wp_scope_straight ?_
 refine wp_seq ?_
 refine wp_region_lit ?_
 refine sv_r (v := .bool false) hS ex_ac fun a hS => ?_
 refine wpList_nil ?_
 replace hS := hS.cut [9, 8, 7, 6, 5, 4, 3, 2, 0]
 show Code.wp _ _ _ _ _
 refine wp_seq ?_
 refine wp_seq ?_
 refine wp_region_lit ?_
 refine sv_r (v := .int .i64 0) hS (ex_mv (hS.get 7 rfl)) fun a hS => ?_
 refine sv_r (v := .string (⟨#[]⟩)) hS (ex_mv (hS.get 0 rfl)) fun a hS => ?_
 refine sv_r (v := .int .i64 0) hS (ex_slen (ats := #[]) (hS.get 22 rfl)) fun a hS => ?_
 refine sv_r (v := .bool true) hS (ei_geq (hS.get 21 rfl) (hS.get 23 rfl) (by decide)) fun a hS => ?_
 replace hS : Sv 253 ((24, .bool true) :: (9, .bool false) :: (8, .bool false) :: (7, .int .i64 0) :: (6, .bool false) :: (5, .bool false) :: (4, .bool false) :: (3, .int .i64 0) :: (2, .int .u64 0) :: (0, .string (⟨#[]⟩)) :: []) [] (fun _ => False) w a w := hS.pick rfl
 refine nx1 ?_
 refine cond_t (hS.get 24 rfl) ?_
 refine wp_ret ?_
 try simp only [Exit.inBlock, Exit.then]
 simp only [Exit.noGoto]
 exact ret7_of_ev hS.ev rfl (hS.get 2 rfl) (hS.get 3 rfl) (hS.get 4 rfl) (hS.get 5 rfl) (hS.get 6 rfl) (hS.get 7 rfl) (hS.get 8 rfl) ⟨rfl, hS.toBelow⟩
theorem readFloat_word (s : ByteArray) (hw : WordB s) (h0 : 0 < s.size) (hz : s.size ≤ 1000) (w : World) : Calls Tryz.prog 128 #[.string s] w fun e w' => e = .returned (.tuple #[.int .u64 0, .int .i64 0, .bool false, .bool false, .bool false, .int .i64 0, .bool false]) ∧ Below w.heap.size w w' := by
 have hq := hw 0 h0
 refine calls_of_ev Tryz.func128 rfl (show 1 ≤ 253 from by decide) ?_
 intro a hE
 have hE : Ev 253 ((0, .string s) :: []) a := hE
 have hS : Sv 253 ((0, .string s) :: []) [] (fun _ => False) w a w := Sv.start hE _ _
 clear hE
 refine wp_seq ?_
 refine wp_region_lit ?_
 refine sv_r (v := .int .u64 0) hS ex_ac fun a hS => ?_
 refine sv_r (v := .int .i64 0) hS ex_ac fun a hS => ?_
 refine sv_r (v := .bool false) hS ex_ac fun a hS => ?_
 refine sv_r (v := .bool false) hS ex_ac fun a hS => ?_
 refine sv_r (v := .bool false) hS ex_ac fun a hS => ?_
 refine sv_r (v := .int .i64 0) hS ex_ac fun a hS => ?_
 refine sv_r (v := .bool false) hS ex_ac fun a hS => ?_
 refine wpList_nil ?_
 replace hS := hS.cut [8, 7, 6, 5, 4, 3, 2, 0]
 show Code.wp _ _ _ _ _
 refine wp_scope_straight ?_
 refine wp_seq ?_
 refine wp_region_lit ?_
 refine sv_r (v := .bool false) hS ex_ac fun a hS => ?_
 refine wpList_nil ?_
 replace hS := hS.cut [9, 8, 7, 6, 5, 4, 3, 2, 0]
 show Code.wp _ _ _ _ _
 refine wp_seq ?_
 refine wp_seq ?_
 refine wp_region_lit ?_
 refine sv_r (v := .int .i64 0) hS (ex_mv (hS.get 7 rfl)) fun a hS => ?_
 refine sv_r (v := .string s) hS (ex_mv (hS.get 0 rfl)) fun a hS => ?_
 refine sv_r (v := .int .i64 ((s.size : Nat) : Int)) hS (ex_slen (ats := #[]) (hS.get 22 rfl)) fun a hS => ?_
 refine sv_r (v := .bool false) hS (ei_geq (hS.get 21 rfl) (hS.get 23 rfl) (by rw [decide_eq_false_iff_not]; omega)) fun a hS => ?_
 replace hS : Sv 253 ((24, .bool false) :: (9, .bool false) :: (8, .bool false) :: (7, .int .i64 0) :: (6, .bool false) :: (5, .bool false) :: (4, .bool false) :: (3, .int .i64 0) :: (2, .int .u64 0) :: (0, .string s) :: []) [] (fun _ => False) w a w := hS.pick rfl
 refine nx1 ?_
 refine cond_f (hS.get 24 rfl) ?_
 refine wp_skip ?_
 show Code.wp _ _ _ _ _
 refine wp_seq ?_
 refine wp_seq ?_
 refine wp_region_lit ?_
 refine sv_r (v := .string s) hS (ex_mv (hS.get 0 rfl)) fun a hS => ?_
 refine sv_r (v := .int .i64 0) hS (ex_mv (hS.get 7 rfl)) fun a hS => ?_
 refine sv_r (v := .int .u8 (((s[0]'h0).toNat : Nat) : Int)) hS (ex_sidx (hS.get 25 rfl) (hS.get 26 rfl) h0) fun a hS => ?_
 refine wpList_nil ?_
 replace hS := hS.cut [27, 24, 9, 8, 7, 6, 5, 4, 3, 2, 0]
 show Code.wp _ _ _ _ _
 refine wp_block ?_
 refine wp_seq ?_
 refine wp_region_lit ?_
 refine sv_r (v := .bool false) hS (ei_eql (hS.get 27 rfl) rfl (by rw [decide_eq_false_iff_not]; omega)) fun a hS => ?_
 refine sv_r (v := .bool false) hS (ex_as (hS.get 29 rfl)) fun a hS => ?_
 refine wpList_nil ?_
 replace hS := hS.cut [28, 27, 24, 9, 8, 7, 6, 5, 4, 3, 2, 0]
 show Code.wp _ _ _ _ _
 refine cond_f (hS.get 28 rfl) ?_
 refine wp_seq ?_
 refine wp_region_lit ?_
 refine sv_r (v := .bool false) hS (ei_eql (hS.get 27 rfl) rfl (by rw [decide_eq_false_iff_not]; omega)) fun a hS => ?_
 refine sv_r (v := .bool false) hS (ex_as (hS.get 33 rfl)) fun a hS => ?_
 replace hS : Sv 253 ((32, .bool false) :: (28, .bool false) :: (27, .int .u8 (((s[0]'h0).toNat : Nat) : Int)) :: (24, .bool false) :: (9, .bool false) :: (8, .bool false) :: (7, .int .i64 0) :: (6, .bool false) :: (5, .bool false) :: (4, .bool false) :: (3, .int .i64 0) :: (2, .int .u64 0) :: (0, .string s) :: []) [] (fun _ => False) w a w := hS.pick rfl
 refine nx1 ?_
 refine cond_f (hS.get 32 rfl) ?_
 refine wp_skip ?_
 show Code.wp _ _ _ _ _
 refine wp_seq ?_
 refine wp_region_lit ?_
 refine sv_r (v := .int .u64 10) hS ex_ac fun a hS => ?_
 refine wpList_nil ?_
 replace hS := hS.cut [10, 32, 28, 27, 24, 9, 8, 7, 6, 5, 4, 3, 2, 0]
 show Code.wp _ _ _ _ _
 refine wp_seq ?_
 refine wp_region_lit ?_
 refine sv_r (v := .int .i64 19) hS ex_ac fun a hS => ?_
 refine wpList_nil ?_
 replace hS := hS.cut [11, 10, 32, 28, 27, 24, 9, 8, 7, 6, 5, 4, 3, 2, 0]
 show Code.wp _ _ _ _ _
 refine wp_seq ?_
 refine wp_region_lit ?_
 refine sv_r (v := .int .u8 101) hS ex_ac fun a hS => ?_
 replace hS : Sv 253 ((12, .int .u8 101) :: (11, .int .i64 19) :: (10, .int .u64 10) :: (32, .bool false) :: (28, .bool false) :: (27, .int .u8 (((s[0]'h0).toNat : Nat) : Int)) :: (24, .bool false) :: (9, .bool false) :: (8, .bool false) :: (7, .int .i64 0) :: (6, .bool false) :: (5, .bool false) :: (4, .bool false) :: (3, .int .i64 0) :: (2, .int .u64 0) :: (0, .string s) :: []) [] (fun _ => False) w a w := hS.pick rfl
 refine nx1 ?_
 refine wp_seq ?_
 refine wp_seq ?_
 refine wp_mono (Q := fun e a' w' => e = .normal ∧ Sv 253 ((54, .bool false) :: (12, .int .u8 101) :: (11, .int .i64 19) :: (10, .int .u64 10) :: (32, .bool false) :: (28, .bool false) :: (27, .int .u8 (((s[0]'h0).toNat : Nat) : Int)) :: (24, .bool false) :: (9, .bool false) :: (8, .bool false) :: (7, .int .i64 0) :: (6, .bool false) :: (5, .bool false) :: (4, .bool false) :: (3, .int .i64 0) :: (2, .int .u64 0) :: (0, .string s) :: []) [] (fun _ => False) w a' w') ?_ ?_
 ·rcases Nat.lt_or_ge 2 s.size with hq2 | hq2
  rotate_left
  ·refine wp_region_lit ?_
   refine sv_r (v := .int .i64 0) hS (ex_mv (hS.get 7 rfl)) fun a hS => ?_
   refine sv_r (v := .int .i64 ((0 + 2 : Nat) : Int)) hS (ei_add (hS.get 36 rfl) rfl (by rw [IntKind.wrap_i64]; omega)) fun a hS => ?_
   refine sv_r (v := .string s) hS (ex_mv (hS.get 0 rfl)) fun a hS => ?_
   refine sv_r (v := .int .i64 ((s.size : Nat) : Int)) hS (ex_slen (ats := #[]) (hS.get 38 rfl)) fun a hS => ?_
   refine sv_r (v := .bool false) hS (ei_lss (hS.get 37 rfl) (hS.get 39 rfl) (by rw [decide_eq_false_iff_not]; omega)) fun a hS => ?_
   refine sv_r (v := .bool false) hS (ex_mv (hS.get 40 rfl)) fun a hS => ?_
   refine sv_goff hS rfl rfl (hS.get 41 rfl) rfl rfl (by decide) ?_
   intro a hS
   refine sv_goff hS rfl rfl (hS.get 41 rfl) rfl rfl (by decide) ?_
   intro a hS
   refine sv_goff hS rfl rfl (hS.get 41 rfl) rfl rfl (by decide) ?_
   intro a hS
   refine sv_goff hS rfl rfl (hS.get 41 rfl) rfl rfl (by decide) ?_
   intro a hS
   refine sv_r (v := .bool false) hS (ex_pickF (hS.get 41 rfl) rfl) fun a hS => ?_
   refine sv_r (v := .bool false) hS (ex_mv (hS.get 46 rfl)) fun a hS => ?_
   refine sv_goff hS rfl rfl (hS.get 47 rfl) rfl rfl (by decide) ?_
   intro a hS
   refine sv_goff hS rfl rfl (hS.get 47 rfl) rfl rfl (by decide) ?_
   intro a hS
   refine sv_goff hS rfl rfl (hS.get 47 rfl) rfl rfl (by decide) ?_
   intro a hS
   refine sv_goff hS rfl rfl (hS.get 47 rfl) rfl rfl (by decide) ?_
   intro a hS
   refine sv_goff hS rfl rfl (hS.get 47 rfl) rfl rfl (by decide) ?_
   intro a hS
   refine sv_goff hS rfl rfl (hS.get 47 rfl) rfl rfl (by decide) ?_
   intro a hS
   refine sv_r (v := .bool false) hS (ex_pickF (hS.get 47 rfl) rfl) fun a hS => ?_
   refine wpList_nil ?_
   exact ⟨rfl, hS.pick rfl⟩
  ·have hq3 : ¬ ((s[0]'h0).toNat = 48) := by omega
   refine wp_region_lit ?_
   refine sv_r (v := .int .i64 0) hS (ex_mv (hS.get 7 rfl)) fun a hS => ?_
   refine sv_r (v := .int .i64 ((0 + 2 : Nat) : Int)) hS (ei_add (hS.get 36 rfl) rfl (by rw [IntKind.wrap_i64]; omega)) fun a hS => ?_
   refine sv_r (v := .string s) hS (ex_mv (hS.get 0 rfl)) fun a hS => ?_
   refine sv_r (v := .int .i64 ((s.size : Nat) : Int)) hS (ex_slen (ats := #[]) (hS.get 38 rfl)) fun a hS => ?_
   refine sv_r (v := .bool true) hS (ei_lss (hS.get 37 rfl) (hS.get 39 rfl) (by rw [decide_eq_true_iff]; omega)) fun a hS => ?_
   refine sv_r (v := .bool true) hS (ex_mv (hS.get 40 rfl)) fun a hS => ?_
   refine sv_g (v := .string s) hS (hS.get 41 rfl) (ex_mv (hS.get 0 rfl)) fun a hS => ?_
   refine sv_g (v := .int .i64 0) hS (hS.get 41 rfl) (ex_mv (hS.get 7 rfl)) fun a hS => ?_
   refine sv_g (v := .int .u8 (((s[0]'h0).toNat : Nat) : Int)) hS (hS.get 41 rfl) (ex_sidx (hS.get 42 rfl) (hS.get 43 rfl) h0) fun a hS => ?_
   refine sv_g (v := .bool false) hS (hS.get 41 rfl) (ei_eql (hS.get 44 rfl) rfl (by rw [decide_eq_false_iff_not]; omega)) fun a hS => ?_
   refine sv_r (v := .bool false) hS (ex_pickT (hS.get 41 rfl) (hS.get 45 rfl)) fun a hS => ?_
   refine sv_r (v := .bool false) hS (ex_mv (hS.get 46 rfl)) fun a hS => ?_
   refine sv_goff hS rfl rfl (hS.get 47 rfl) rfl rfl (by decide) ?_
   intro a hS
   refine sv_goff hS rfl rfl (hS.get 47 rfl) rfl rfl (by decide) ?_
   intro a hS
   refine sv_goff hS rfl rfl (hS.get 47 rfl) rfl rfl (by decide) ?_
   intro a hS
   refine sv_goff hS rfl rfl (hS.get 47 rfl) rfl rfl (by decide) ?_
   intro a hS
   refine sv_goff hS rfl rfl (hS.get 47 rfl) rfl rfl (by decide) ?_
   intro a hS
   refine sv_goff hS rfl rfl (hS.get 47 rfl) rfl rfl (by decide) ?_
   intro a hS
   refine sv_r (v := .bool false) hS (ex_pickF (hS.get 47 rfl) rfl) fun a hS => ?_
   refine wpList_nil ?_
   exact ⟨rfl, hS.pick rfl⟩
 ·rintro _ a w1 ⟨rfl, hS⟩
  show Code.wp _ _ _ _ _
  refine cond_f (hS.get 54 rfl) ?_
  refine wp_skip ?_
  show Code.wp _ _ _ _ _
  refine wp_seq ?_
  refine wp_region_lit ?_
  refine sv_r (v := .bool false) hS ex_ac fun a hS => ?_
  refine wpList_nil ?_
  replace hS := hS.cut [13, 54, 12, 11, 10, 32, 28, 27, 24, 9, 8, 7, 6, 5, 4, 3, 2, 0]
  show Code.wp _ _ _ _ _
  refine wp_seq ?_
  refine wp_region_lit ?_
  refine sv_r (v := .bool false) hS ex_ac fun a hS => ?_
  refine wpList_nil ?_
  replace hS := hS.cut [14, 13, 54, 12, 11, 10, 32, 28, 27, 24, 9, 8, 7, 6, 5, 4, 3, 2, 0]
  show Code.wp _ _ _ _ _
  refine wp_seq ?_
  refine wp_region_lit ?_
  refine sv_r (v := .int .i64 0) hS ex_ac fun a hS => ?_
  replace hS : Sv 253 ((15, .int .i64 0) :: (14, .bool false) :: (13, .bool false) :: (54, .bool false) :: (12, .int .u8 101) :: (11, .int .i64 19) :: (10, .int .u64 10) :: (32, .bool false) :: (28, .bool false) :: (27, .int .u8 (((s[0]'h0).toNat : Nat) : Int)) :: (24, .bool false) :: (9, .bool false) :: (8, .bool false) :: (7, .int .i64 0) :: (6, .bool false) :: (5, .bool false) :: (4, .bool false) :: (3, .int .i64 0) :: (2, .int .u64 0) :: (0, .string s) :: []) [] (fun _ => False) w a w1 := hS.pick rfl
  refine nx3 ?_
  refine sv_r (v := .int .i64 0) hS ex_ac fun a hS => ?_
  refine wpList_nil ?_
  replace hS := hS.cut [16, 15, 14, 13, 54, 12, 11, 10, 32, 28, 27, 24, 9, 8, 7, 6, 5, 4, 3, 2, 0]
  show Code.wp _ _ _ _ _
  refine wp_seq ?_
  refine wp_region_lit ?_
  refine sv_r (v := .int .i64 0) hS ex_ac fun a hS => ?_
  refine wpList_nil ?_
  replace hS := hS.cut [17, 16, 15, 14, 13, 54, 12, 11, 10, 32, 28, 27, 24, 9, 8, 7, 6, 5, 4, 3, 2, 0]
  show Code.wp _ _ _ _ _
  refine wp_seq ?_
  refine wp_label ?_
  show Code.wp _ _ _ _ _
  refine wp_seq ?_
  refine wp_block ?_
  refine wp_loop (fun a w' => ∃ u : Unit, u = u ∧ Sv 253 ((7, .int .i64 0) :: (2, .int .u64 0) :: (17, .int .i64 0) :: (15, .int .i64 0) :: (16, .int .i64 0) :: (13, .bool false) :: (14, .bool false) :: (5, .bool false) :: (9, .bool false) :: (10, .int .u64 10) :: (11, .int .i64 19) :: (0, .string s) :: (3, .int .i64 0) :: (4, .bool false) :: (6, .bool false) :: (8, .bool false) :: (12, .int .u8 101) :: []) [] (fun _ => False) w a w') (fun a _ => 0) ⟨(), rfl, hS.pick rfl⟩ ?_
  clear hS
  rintro a w2 ⟨u, hu, hS⟩
  have hc9 : True := trivial
  cases hc9
  ·refine wp_seq ?_
   refine wp_seq ?_
   refine wp_region_lit ?_
   refine sv_r (v := .int .i64 0) hS (ex_mv (hS.get 7 rfl)) fun a hS => ?_
   refine sv_r (v := .string s) hS (ex_mv (hS.get 0 rfl)) fun a hS => ?_
   refine sv_r (v := .int .i64 ((s.size : Nat) : Int)) hS (ex_slen (ats := #[]) (hS.get 58 rfl)) fun a hS => ?_
   refine sv_r (v := .bool true) hS (ei_lss (hS.get 57 rfl) (hS.get 59 rfl) (by rw [decide_eq_true_iff]; omega)) fun a hS => ?_
   replace hS : Sv 253 ((60, .bool true) :: (7, .int .i64 0) :: (2, .int .u64 0) :: (17, .int .i64 0) :: (15, .int .i64 0) :: (16, .int .i64 0) :: (13, .bool false) :: (14, .bool false) :: (5, .bool false) :: (9, .bool false) :: (10, .int .u64 10) :: (11, .int .i64 19) :: (0, .string s) :: (3, .int .i64 0) :: (4, .bool false) :: (6, .bool false) :: (8, .bool false) :: (12, .int .u8 101) :: []) [] (fun _ => False) w a w2 := hS.pick rfl
   refine nx1 ?_
   refine cond_t (hS.get 60 rfl) ?_
   refine wp_skip ?_
   show Code.wp _ _ _ _ _
   refine wp_seq ?_
   refine wp_block ?_
   refine wp_seq ?_
   refine wp_seq ?_
   refine wp_region_lit ?_
   refine sv_r (v := .string s) hS (ex_mv (hS.get 0 rfl)) fun a hS => ?_
   refine sv_r (v := .int .i64 0) hS (ex_mv (hS.get 7 rfl)) fun a hS => ?_
   refine sv_r (v := .int .u8 (((s[0]'h0).toNat : Nat) : Int)) hS (ex_sidx (hS.get 63 rfl) (hS.get 64 rfl) h0) fun a hS => ?_
   refine sv_r (v := .int .u8 (((s[0]'h0).toNat : Nat) : Int)) hS (ex_as (hS.get 65 rfl)) fun a hS => ?_
   refine wpList_nil ?_
   replace hS := hS.cut [18, 60, 7, 2, 17, 15, 16, 13, 14, 5, 9, 10, 11, 0, 3, 4, 6, 8, 12]
   show Code.wp _ _ _ _ _
   refine wp_block ?_
   refine wp_seq ?_
   refine wp_region_lit ?_
   refine sv_r (v := .int .u8 (((s[0]'h0).toNat : Nat) : Int)) hS (ex_mv (hS.get 18 rfl)) fun a hS => ?_
   refine sv_r (v := .bool false) hS (ei_eql (hS.get 67 rfl) rfl (by rw [decide_eq_false_iff_not]; omega)) fun a hS => ?_
   refine sv_r (v := .bool false) hS (eb_true (hS.get 68 rfl)) fun a hS => ?_
   refine sv_r (v := .bool false) hS (ex_as (hS.get 69 rfl)) fun a hS => ?_
   refine wpList_nil ?_
   replace hS := hS.cut [66, 18, 60, 7, 2, 17, 15, 16, 13, 14, 5, 9, 10, 11, 0, 3, 4, 6, 8, 12]
   show Code.wp _ _ _ _ _
   refine cond_f (hS.get 66 rfl) ?_
   refine wp_seq ?_
   refine wp_region_lit ?_
   refine sv_r (v := .int .u8 (((s[0]'h0).toNat : Nat) : Int)) hS (ex_mv (hS.get 18 rfl)) fun a hS => ?_
   refine sv_r (v := .bool false) hS (ei_eql (hS.get 71 rfl) rfl (by rw [decide_eq_false_iff_not]; omega)) fun a hS => ?_
   refine sv_r (v := .bool false) hS (eb_true (hS.get 72 rfl)) fun a hS => ?_
   refine sv_r (v := .bool false) hS (ex_as (hS.get 73 rfl)) fun a hS => ?_
   replace hS : Sv 253 ((70, .bool false) :: (66, .bool false) :: (18, .int .u8 (((s[0]'h0).toNat : Nat) : Int)) :: (60, .bool true) :: (7, .int .i64 0) :: (2, .int .u64 0) :: (17, .int .i64 0) :: (15, .int .i64 0) :: (16, .int .i64 0) :: (13, .bool false) :: (14, .bool false) :: (5, .bool false) :: (9, .bool false) :: (10, .int .u64 10) :: (11, .int .i64 19) :: (0, .string s) :: (3, .int .i64 0) :: (4, .bool false) :: (6, .bool false) :: (8, .bool false) :: (12, .int .u8 101) :: []) [] (fun _ => False) w a w2 := hS.pick rfl
   refine nx1 ?_
   refine cond_f (hS.get 70 rfl) ?_
   refine wp_seq ?_
   refine wp_region_lit ?_
   refine sv_r (v := .int .u8 (((s[0]'h0).toNat : Nat) : Int)) hS (ex_mv (hS.get 18 rfl)) fun a hS => ?_
   refine sv_r (v := .bool true) hS (ei_leq rfl (hS.get 77 rfl) (by rw [decide_eq_true_iff]; omega)) fun a hS => ?_
   refine sv_r (v := .bool true) hS (ex_mv (hS.get 78 rfl)) fun a hS => ?_
   refine sv_g (v := .int .u8 (((s[0]'h0).toNat : Nat) : Int)) hS (hS.get 79 rfl) (ex_mv (hS.get 18 rfl)) fun a hS => ?_
   refine sv_g (v := .bool false) hS (hS.get 79 rfl) (ei_leq (hS.get 80 rfl) rfl (by rw [decide_eq_false_iff_not]; omega)) fun a hS => ?_
   refine sv_r (v := .bool false) hS (ex_pickT (hS.get 79 rfl) (hS.get 81 rfl)) fun a hS => ?_
   refine sv_r (v := .bool false) hS (eb_true (hS.get 82 rfl)) fun a hS => ?_
   refine sv_r (v := .bool false) hS (ex_as (hS.get 83 rfl)) fun a hS => ?_
   refine wpList_nil ?_
   replace hS := hS.cut [76, 70, 66, 18, 60, 7, 2, 17, 15, 16, 13, 14, 5, 9, 10, 11, 0, 3, 4, 6, 8, 12]
   show Code.wp _ _ _ _ _
   refine cond_f (hS.get 76 rfl) ?_
   refine wp_seq ?_
   refine wp_region_lit ?_
   refine sv_r (v := .int .u64 10) hS (ex_mv (hS.get 10 rfl)) fun a hS => ?_
   refine sv_r (v := .bool false) hS (ei_eql (hS.get 110 rfl) rfl (by rw [decide_eq_false_iff_not]; omega)) fun a hS => ?_
   refine sv_r (v := .bool false) hS (ex_mv (hS.get 111 rfl)) fun a hS => ?_
   refine sv_goff hS rfl rfl (hS.get 112 rfl) rfl rfl (by decide) ?_
   intro a hS
   refine sv_goff hS rfl rfl (hS.get 112 rfl) rfl rfl (by decide) ?_
   intro a hS
   refine sv_goff hS rfl rfl (hS.get 112 rfl) rfl rfl (by decide) ?_
   intro a hS
   refine sv_r (v := .bool false) hS (ex_pickF (hS.get 112 rfl) rfl) fun a hS => ?_
   refine sv_r (v := .bool false) hS (ex_mv (hS.get 116 rfl)) fun a hS => ?_
   refine sv_goff hS rfl rfl (hS.get 117 rfl) rfl rfl (by decide) ?_
   intro a hS
   refine sv_goff hS rfl rfl (hS.get 117 rfl) rfl rfl (by decide) ?_
   intro a hS
   refine sv_goff hS rfl rfl (hS.get 117 rfl) rfl rfl (by decide) ?_
   intro a hS
   refine sv_r (v := .bool false) hS (ex_pickF (hS.get 117 rfl) rfl) fun a hS => ?_
   refine sv_r (v := .bool false) hS (eb_true (hS.get 121 rfl)) fun a hS => ?_
   refine sv_r (v := .bool false) hS (ex_as (hS.get 122 rfl)) fun a hS => ?_
   refine wpList_nil ?_
   replace hS := hS.cut [109, 76, 70, 66, 18, 60, 7, 2, 17, 15, 16, 13, 14, 5, 9, 10, 11, 0, 3, 4, 6, 8, 12]
   show Code.wp _ _ _ _ _
   refine cond_f (hS.get 109 rfl) ?_
   refine wp_skip ?_
   show Code.wp _ _ _ _ _
   refine wp_exit ?_
   show Code.wp _ _ _ _ _
   refine wp_seq ?_
   refine wp_seq ?_
   refine wp_region_lit ?_
   refine sv_r (v := .bool false) hS (ex_mv (hS.get 14 rfl)) fun a hS => ?_
   refine sv_r (v := .bool true) hS (ex_not (hS.get 139 rfl)) fun a hS => ?_
   replace hS : Sv 253 ((140, .bool true) :: (109, .bool false) :: (76, .bool false) :: (70, .bool false) :: (66, .bool false) :: (18, .int .u8 (((s[0]'h0).toNat : Nat) : Int)) :: (60, .bool true) :: (7, .int .i64 0) :: (2, .int .u64 0) :: (17, .int .i64 0) :: (15, .int .i64 0) :: (16, .int .i64 0) :: (13, .bool false) :: (5, .bool false) :: (9, .bool false) :: (10, .int .u64 10) :: (11, .int .i64 19) :: (0, .string s) :: (3, .int .i64 0) :: (4, .bool false) :: (6, .bool false) :: (8, .bool false) :: (12, .int .u8 101) :: []) [] (fun _ => False) w a w2 := hS.pick rfl
   refine nx1 ?_
   refine cond_t (hS.get 140 rfl) ?_
   refine wp_ret ?_
   try simp only [Exit.inBlock, Exit.then]
   simp only [Exit.noGoto]
   exact ret7_of_ev hS.ev rfl (hS.get 2 rfl) (hS.get 3 rfl) (hS.get 4 rfl) (hS.get 5 rfl) (hS.get 6 rfl) (hS.get 7 rfl) (hS.get 8 rfl) ⟨rfl, hS.toBelow⟩
end Go.Proofs.YtflppablgdegcaaGreatDoor
