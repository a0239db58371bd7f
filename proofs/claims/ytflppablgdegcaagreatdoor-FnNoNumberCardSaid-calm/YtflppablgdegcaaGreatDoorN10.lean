/- Joined: Spc, At. -/
import Derived.Test.YtflppablgdegcaaGreatDoorN09
/- commonPrefixLenIgnoreCase at words, special. -/
set_option maxRecDepth 100000
set_option maxHeartbeats 8000000
namespace Go.Proofs.YtflppablgdegcaaGreatDoor
open Go.RowKit
theorem ret3_of_ev {N t1 t2 t3 : Nat} {l : List (Nat × Value)} {fn : Func} {R : Ending → World → Prop} {a : Act} {w : World} {v1 v2 v3 : Value} (h : Ev N l a) (hr : fn.results = #[.tmp t1, .tmp t2, .tmp t3])
  (h1 : a.eval (.tmp t1) = v1) (h2 : a.eval (.tmp t2) = v2) (h3 : a.eval (.tmp t3) = v3) (hR : R (.returned (.tuple #[v1, v2, v3])) w) : bodyPost Tryz.prog fn R .ret a w := by
 refine bodyPost_ret (v := .tuple #[v1, v2, v3]) ?_ h.defers hR
 have e1 : a.tmps.getD t1 undef = v1 := h1
 have e2 : a.tmps.getD t2 undef = v2 := h2
 have e3 : a.tmps.getD t3 undef = v3 := h3
 rw [Array.getD_eq_getD_getElem?] at e1 e2 e3
 simp [results, hr, e1, e2, e3]
theorem cpl_cases (s p : ByteArray) (hw : WordB s) (j i : Nat) (hj : j < p.size) (hp : (p[j]'hj).toNat < 103) (hi : i ≤ j) (hm : i ≤ min p.size s.size) : (i = min p.size s.size) ∨ (∃ (h : i < s.size) (hb9 : i < p.size), i < min p.size s.size ∧ 103 ≤ (s[i]'h).toNat ∧ (s[i]'h).toNat ≠ (p[i]'hb9).toNat) ∨ (∃ (h : i < s.size) (hb9 : i < p.size), i < min p.size s.size ∧ 103 ≤ (s[i]'h).toNat ∧ (s[i]'h).toNat = (p[i]'hb9).toNat ∧ i < j) := by
 rcases Nat.lt_or_ge i (min p.size s.size) with h | h
 ·have h1 : i < s.size := by omega
  have h2 : i < p.size := by omega
  have hc := (hw i h1).1
  by_cases e : (s[i]'h1).toNat = (p[i]'h2).toNat
  ·refine .inr (.inr ⟨h1, h2, h, hc, e, ?_⟩)
   rcases Nat.lt_or_ge i j with h3 | h3
   ·exact h3
   ·have : i = j := by omega
    subst this
    omega
  ·exact .inr (.inl ⟨h1, h2, h, hc, e⟩)
 ·exact .inl (by omega)
theorem cpl_any (s p : ByteArray) (hw : WordB s) (hsz : s.size ≤ 1000) (hpz : p.size ≤ 1000) (j : Nat) (hj : j < p.size) (hp : (p[j]'hj).toNat < 103) (w : World) : Calls Tryz.prog 142 #[.string s, .string p] w fun e w' => ∃ v, e = .returned v ∧ Below w.heap.size w w' ∧ ∃ k : Nat, v = .int .i64 (k : Int) ∧ k ≤ j := by
 refine calls_of_ev Tryz.func142 rfl (show 2 ≤ 36 from by decide) ?_
 intro a hE
 have hE : Ev 36 ((0, .string s) :: (1, .string p) :: []) a := hE
 have hS : Sv 36 ((0, .string s) :: (1, .string p) :: []) [] (fun _ => False) w a w := Sv.start hE _ _
 clear hE
 refine wp_seq ?_
 refine wp_region_lit ?_
 refine sv_r (v := .int .i64 0) hS ex_ac fun a hS => ?_
 refine wpList_nil ?_
 replace hS := hS.cut [4, 0, 1]
 show Code.wp _ _ _ _ _
 refine wp_seq ?_
 refine wp_region_lit ?_
 refine sv_r (v := .string p) hS (ex_mv (hS.get 1 rfl)) fun a hS => ?_
 refine sv_r (v := .int .i64 ((p.size : Nat) : Int)) hS (ex_slen (ats := #[]) (hS.get 8 rfl)) fun a hS => ?_
 refine sv_r (v := .string s) hS (ex_mv (hS.get 0 rfl)) fun a hS => ?_
 refine sv_r (v := .int .i64 ((s.size : Nat) : Int)) hS (ex_slen (ats := #[]) (hS.get 10 rfl)) fun a hS => ?_
 refine sv_r (v := .int .i64 ((min p.size s.size : Nat) : Int)) hS (ex_min (hS.get 9 rfl) (hS.get 11 rfl)) fun a hS => ?_
 refine sv_r (v := .int .i64 ((min p.size s.size : Nat) : Int)) hS (ex_as (hS.get 12 rfl)) fun a hS => ?_
 refine wpList_nil ?_
 replace hS := hS.cut [5, 4, 0, 1]
 show Code.wp _ _ _ _ _
 refine wp_seq ?_
 refine wp_seq ?_
 refine wp_region_lit ?_
 refine sv_r (v := .int .i64 0) hS ex_ac fun a hS => ?_
 replace hS : Sv 36 ((6, .int .i64 0) :: (5, .int .i64 ((min p.size s.size : Nat) : Int)) :: (4, .int .i64 0) :: (0, .string s) :: (1, .string p) :: []) [] (fun _ => False) w a w := hS.pick rfl
 refine nx1 ?_
 refine wp_block ?_
 refine wp_loop (fun a w' => ∃ i : Nat, i ≤ j ∧ i ≤ min p.size s.size ∧ Sv 36 ((6, .int .i64 ((i : Nat) : Int)) :: (5, .int .i64 ((min p.size s.size : Nat) : Int)) :: (0, .string s) :: (1, .string p) :: []) [] (fun _ => False) w a w') (fun a _ => (s.size + 1 - (intOf (a.eval (.tmp 6))).toNat)) ⟨0, Nat.zero_le _, Nat.zero_le _, hS.pick rfl⟩ ?_
 clear hS
 rintro a w1 ⟨i, hi, hm, hS⟩
 have hS0 := hS.get 6 rfl
 obtain hq | ⟨h1, h2, hq, hq1, hq2⟩ | ⟨h1, h2, hq, hq1, hq2, hq3⟩ := cpl_cases s p hw j i hj hp hi hm
 ·refine wp_seq ?_
  refine wp_seq ?_
  refine wp_region_lit ?_
  refine sv_r (v := .int .i64 ((i : Nat) : Int)) hS (ex_mv (hS.get 6 rfl)) fun a hS => ?_
  refine sv_r (v := .int .i64 ((min p.size s.size : Nat) : Int)) hS (ex_mv (hS.get 5 rfl)) fun a hS => ?_
  refine sv_r (v := .bool false) hS (ei_lss (hS.get 13 rfl) (hS.get 14 rfl) (by rw [decide_eq_false_iff_not]; omega)) fun a hS => ?_
  refine wpList_nil ?_
  replace hS := hS.cut [15, 6, 5, 0, 1]
  show Code.wp _ _ _ _ _
  refine cond_f (hS.get 15 rfl) ?_
  refine wp_exit ?_
  simp only [Exit.inBlock, Exit.then, if_true]
  show Code.wp _ _ _ _ _
  refine wp_seq ?_
  refine wp_region_lit ?_
  refine sv_r (v := .int .i64 ((min p.size s.size : Nat) : Int)) hS (ex_mv (hS.get 5 rfl)) fun a hS => ?_
  refine sv_r (v := .int .i64 ((min p.size s.size : Nat) : Int)) hS (ex_as (hS.get 35 rfl)) fun a hS => ?_
  refine wpList_nil ?_
  replace hS := hS.cut [4, 15, 6, 5, 0, 1]
  show Code.wp _ _ _ _ _
  refine wp_ret ?_
  try simp only [Exit.inBlock, Exit.then]
  exact ret_of_ev hS.ev rfl (hS.get 4 rfl) ⟨_, rfl, hS.toBelow, _, rfl, by omega⟩
 ·have hs8 : (s[i]'h1).toNat < 256 := UInt8.toNat_lt _
  refine wp_seq ?_
  refine wp_seq ?_
  refine wp_region_lit ?_
  refine sv_r (v := .int .i64 ((i : Nat) : Int)) hS (ex_mv (hS.get 6 rfl)) fun a hS => ?_
  refine sv_r (v := .int .i64 ((min p.size s.size : Nat) : Int)) hS (ex_mv (hS.get 5 rfl)) fun a hS => ?_
  refine sv_r (v := .bool true) hS (ei_lss (hS.get 13 rfl) (hS.get 14 rfl) (by rw [decide_eq_true_iff]; omega)) fun a hS => ?_
  refine wpList_nil ?_
  replace hS := hS.cut [15, 6, 5, 0, 1]
  show Code.wp _ _ _ _ _
  refine cond_t (hS.get 15 rfl) ?_
  refine wp_skip ?_
  show Code.wp _ _ _ _ _
  refine wp_seq ?_
  refine wp_block ?_
  refine wp_seq ?_
  refine wp_region_lit ?_
  refine sv_r (v := .string s) hS (ex_mv (hS.get 0 rfl)) fun a hS => ?_
  refine sv_r (v := .int .i64 ((i : Nat) : Int)) hS (ex_mv (hS.get 6 rfl)) fun a hS => ?_
  refine sv_r (v := .int .u8 (((s[i]'h1).toNat : Nat) : Int)) hS (ex_sidx (hS.get 18 rfl) (hS.get 19 rfl) h1) fun a hS => ?_
  refine sv_r (v := .int .u8 (((s[i]'h1).toNat : Nat) : Int)) hS (ex_as (hS.get 20 rfl)) fun a hS => ?_
  refine wpList_nil ?_
  replace hS := hS.cut [7, 15, 6, 5, 0, 1]
  show Code.wp _ _ _ _ _
  refine wp_seq ?_
  refine wp_seq ?_
  refine wp_region_lit ?_
  refine sv_r (v := .int .u8 (((s[i]'h1).toNat : Nat) : Int)) hS (ex_mv (hS.get 7 rfl)) fun a hS => ?_
  refine sv_r (v := .bool true) hS (ei_leq rfl (hS.get 21 rfl) (by rw [decide_eq_true_iff]; omega)) fun a hS => ?_
  refine sv_r (v := .bool true) hS (ex_mv (hS.get 22 rfl)) fun a hS => ?_
  refine sv_g (v := .int .u8 (((s[i]'h1).toNat : Nat) : Int)) hS (hS.get 23 rfl) (ex_mv (hS.get 7 rfl)) fun a hS => ?_
  refine sv_g (v := .bool false) hS (hS.get 23 rfl) (ei_leq (hS.get 24 rfl) rfl (by rw [decide_eq_false_iff_not]; omega)) fun a hS => ?_
  refine sv_r (v := .bool false) hS (ex_pickT (hS.get 23 rfl) (hS.get 25 rfl)) fun a hS => ?_
  replace hS : Sv 36 ((26, .bool false) :: (7, .int .u8 (((s[i]'h1).toNat : Nat) : Int)) :: (15, .bool true) :: (6, .int .i64 ((i : Nat) : Int)) :: (5, .int .i64 ((min p.size s.size : Nat) : Int)) :: (0, .string s) :: (1, .string p) :: []) [] (fun _ => False) w a w1 := hS.pick rfl
  refine nx1 ?_
  refine cond_f (hS.get 26 rfl) ?_
  refine wp_skip ?_
  show Code.wp _ _ _ _ _
  refine wp_seq ?_
  refine wp_region_lit ?_
  refine sv_r (v := .int .u8 (((s[i]'h1).toNat : Nat) : Int)) hS (ex_mv (hS.get 7 rfl)) fun a hS => ?_
  refine sv_r (v := .string p) hS (ex_mv (hS.get 1 rfl)) fun a hS => ?_
  refine sv_r (v := .int .i64 ((i : Nat) : Int)) hS (ex_mv (hS.get 6 rfl)) fun a hS => ?_
  refine sv_r (v := .int .u8 (((p[i]'h2).toNat : Nat) : Int)) hS (ex_sidx (hS.get 30 rfl) (hS.get 31 rfl) h2) fun a hS => ?_
  refine sv_r (v := .bool true) hS (ei_neq (hS.get 29 rfl) (hS.get 32 rfl) (by rw [decide_eq_true_iff]; omega)) fun a hS => ?_
  refine wpList_nil ?_
  replace hS := hS.cut [33, 26, 7, 15, 6, 5, 0, 1]
  show Code.wp _ _ _ _ _
  refine cond_t (hS.get 33 rfl) ?_
  refine wp_seq ?_
  refine wp_region_lit ?_
  refine sv_r (v := .int .i64 ((i : Nat) : Int)) hS (ex_mv (hS.get 6 rfl)) fun a hS => ?_
  refine sv_r (v := .int .i64 ((i : Nat) : Int)) hS (ex_as (hS.get 34 rfl)) fun a hS => ?_
  refine wpList_nil ?_
  replace hS := hS.cut [4, 33, 26, 7, 15, 6, 5, 0, 1]
  show Code.wp _ _ _ _ _
  refine wp_ret ?_
  try simp only [Exit.inBlock, Exit.then]
  exact ret_of_ev hS.ev rfl (hS.get 4 rfl) ⟨_, rfl, hS.toBelow, _, rfl, hi⟩
 ·have hs8 : (s[i]'h1).toNat < 256 := UInt8.toNat_lt _
  refine wp_seq ?_
  refine wp_seq ?_
  refine wp_region_lit ?_
  refine sv_r (v := .int .i64 ((i : Nat) : Int)) hS (ex_mv (hS.get 6 rfl)) fun a hS => ?_
  refine sv_r (v := .int .i64 ((min p.size s.size : Nat) : Int)) hS (ex_mv (hS.get 5 rfl)) fun a hS => ?_
  refine sv_r (v := .bool true) hS (ei_lss (hS.get 13 rfl) (hS.get 14 rfl) (by rw [decide_eq_true_iff]; omega)) fun a hS => ?_
  refine wpList_nil ?_
  replace hS := hS.cut [15, 6, 5, 0, 1]
  show Code.wp _ _ _ _ _
  refine cond_t (hS.get 15 rfl) ?_
  refine wp_skip ?_
  show Code.wp _ _ _ _ _
  refine wp_seq ?_
  refine wp_block ?_
  refine wp_seq ?_
  refine wp_region_lit ?_
  refine sv_r (v := .string s) hS (ex_mv (hS.get 0 rfl)) fun a hS => ?_
  refine sv_r (v := .int .i64 ((i : Nat) : Int)) hS (ex_mv (hS.get 6 rfl)) fun a hS => ?_
  refine sv_r (v := .int .u8 (((s[i]'h1).toNat : Nat) : Int)) hS (ex_sidx (hS.get 18 rfl) (hS.get 19 rfl) h1) fun a hS => ?_
  refine sv_r (v := .int .u8 (((s[i]'h1).toNat : Nat) : Int)) hS (ex_as (hS.get 20 rfl)) fun a hS => ?_
  refine wpList_nil ?_
  replace hS := hS.cut [7, 15, 6, 5, 0, 1]
  show Code.wp _ _ _ _ _
  refine wp_seq ?_
  refine wp_seq ?_
  refine wp_region_lit ?_
  refine sv_r (v := .int .u8 (((s[i]'h1).toNat : Nat) : Int)) hS (ex_mv (hS.get 7 rfl)) fun a hS => ?_
  refine sv_r (v := .bool true) hS (ei_leq rfl (hS.get 21 rfl) (by rw [decide_eq_true_iff]; omega)) fun a hS => ?_
  refine sv_r (v := .bool true) hS (ex_mv (hS.get 22 rfl)) fun a hS => ?_
  refine sv_g (v := .int .u8 (((s[i]'h1).toNat : Nat) : Int)) hS (hS.get 23 rfl) (ex_mv (hS.get 7 rfl)) fun a hS => ?_
  refine sv_g (v := .bool false) hS (hS.get 23 rfl) (ei_leq (hS.get 24 rfl) rfl (by rw [decide_eq_false_iff_not]; omega)) fun a hS => ?_
  refine sv_r (v := .bool false) hS (ex_pickT (hS.get 23 rfl) (hS.get 25 rfl)) fun a hS => ?_
  replace hS : Sv 36 ((26, .bool false) :: (7, .int .u8 (((s[i]'h1).toNat : Nat) : Int)) :: (15, .bool true) :: (6, .int .i64 ((i : Nat) : Int)) :: (5, .int .i64 ((min p.size s.size : Nat) : Int)) :: (0, .string s) :: (1, .string p) :: []) [] (fun _ => False) w a w1 := hS.pick rfl
  refine nx1 ?_
  refine cond_f (hS.get 26 rfl) ?_
  refine wp_skip ?_
  show Code.wp _ _ _ _ _
  refine wp_seq ?_
  refine wp_region_lit ?_
  refine sv_r (v := .int .u8 (((s[i]'h1).toNat : Nat) : Int)) hS (ex_mv (hS.get 7 rfl)) fun a hS => ?_
  refine sv_r (v := .string p) hS (ex_mv (hS.get 1 rfl)) fun a hS => ?_
  refine sv_r (v := .int .i64 ((i : Nat) : Int)) hS (ex_mv (hS.get 6 rfl)) fun a hS => ?_
  refine sv_r (v := .int .u8 (((p[i]'h2).toNat : Nat) : Int)) hS (ex_sidx (hS.get 30 rfl) (hS.get 31 rfl) h2) fun a hS => ?_
  refine sv_r (v := .bool false) hS (ei_neq (hS.get 29 rfl) (hS.get 32 rfl) (by rw [decide_eq_false_iff_not]; omega)) fun a hS => ?_
  refine wpList_nil ?_
  replace hS := hS.cut [33, 26, 7, 15, 6, 5, 0, 1]
  show Code.wp _ _ _ _ _
  refine cond_f (hS.get 33 rfl) ?_
  refine wp_skip ?_
  show Code.wp _ _ _ _ _
  refine wp_region_lit ?_
  refine sv_r (v := .int .i64 ((i : Nat) : Int)) hS (ex_mv (hS.get 6 rfl)) fun a hS => ?_
  refine sv_r (v := .int .i64 ((i + 1 : Nat) : Int)) hS (ei_add (hS.get 16 rfl) rfl (by rw [IntKind.wrap_i64]; omega)) fun a hS => ?_
  refine sv_r (v := .int .i64 ((i + 1 : Nat) : Int)) hS (ex_as (hS.get 17 rfl)) fun a hS => ?_
  refine wpList_nil ?_
  replace hS := hS.cut [6, 33, 26, 7, 15, 5, 0, 1]
  refine ⟨⟨i + 1, by omega, by omega, hS.pick rfl⟩, ?_⟩
  have h1 := hS.get 6 rfl; rw [h1]; rw [hS0]; simp only [intOf]; omega
theorem special_nil (w : World) : Calls Tryz.prog 127 #[.string ⟨#[]⟩] w fun e w' => e = .returned (.tuple #[.float .f64 0, .int .i64 0, .bool false]) ∧ Below w.heap.size w w' := by
 refine calls_of_ev Tryz.func127 rfl (show 1 ≤ 50 from by decide) ?_
 intro a hE
 have hE : Ev 50 ((0, .string (⟨#[]⟩)) :: []) a := hE
 have hS : Sv 50 ((0, .string (⟨#[]⟩)) :: []) [] (fun _ => False) w a w := Sv.start hE _ _
 clear hE
 refine wp_seq ?_
 refine wp_region_lit ?_
 refine sv_r (v := .float .f64 0) hS ex_ac fun a hS => ?_
 refine sv_r (v := .int .i64 0) hS ex_ac fun a hS => ?_
 refine sv_r (v := .bool false) hS ex_ac fun a hS => ?_
 refine wpList_nil ?_
 replace hS := hS.cut [4, 3, 2, 0]
 show Code.wp _ _ _ _ _
 refine wp_seq ?_
 refine wp_seq ?_
 refine wp_region_lit ?_
 refine sv_r (v := .string (⟨#[]⟩)) hS (ex_mv (hS.get 0 rfl)) fun a hS => ?_
 refine sv_r (v := .int .i64 0) hS (ex_slen (ats := #[]) (hS.get 8 rfl)) fun a hS => ?_
 refine sv_r (v := .bool true) hS (ei_eql (hS.get 9 rfl) rfl (by decide)) fun a hS => ?_
 refine wpList_nil ?_
 replace hS := hS.cut [10, 4, 3, 2, 0]
 show Code.wp _ _ _ _ _
 refine cond_t (hS.get 10 rfl) ?_
 refine wp_seq ?_
 refine wp_region_lit ?_
 refine sv_r (v := .float .f64 0) hS ex_ac fun a hS => ?_
 refine sv_r (v := .int .i64 0) hS ex_ac fun a hS => ?_
 refine sv_r (v := .bool false) hS ex_ac fun a hS => ?_
 replace hS : Sv 50 ((4, .bool false) :: (3, .int .i64 0) :: (2, .float .f64 0) :: (10, .bool true) :: (0, .string (⟨#[]⟩)) :: []) [] (fun _ => False) w a w := hS.pick rfl
 refine nx1 ?_
 refine wp_ret ?_
 try simp only [Exit.inBlock, Exit.then]
 exact ret3_of_ev hS.ev rfl (hS.get 2 rfl) (hS.get 3 rfl) (hS.get 4 rfl) ⟨rfl, hS.toBelow⟩
theorem special_num (s : ByteArray) (hN : numB s = true) (w : World) : Calls Tryz.prog 127 #[.string s] w fun e w' => e = .returned (.tuple #[.float .f64 0, .int .i64 0, .bool false]) ∧ Below w.heap.size w w' := by
 have hN0 := hN
 unfold numB at hN0
 rw [Bool.and_eq_true] at hN0
 have h0 : 0 < s.size := by
  have := List.length_pos_iff.2 (go_pos hN0.1)
  rw [len_list] at this; exact this
 have n43 := num_ne hN h0 43 (by decide) (by decide)
 have n45 := num_ne hN h0 45 (by decide) (by decide)
 have n105 := num_ne hN h0 105 (by decide) (by decide)
 have n73 := num_ne hN h0 73 (by decide) (by decide)
 have n110 := num_ne hN h0 110 (by decide) (by decide)
 have n78 := num_ne hN h0 78 (by decide) (by decide)
 refine calls_of_ev Tryz.func127 rfl (show 1 ≤ 50 from by decide) ?_
 intro a hE
 have hE : Ev 50 ((0, .string s) :: []) a := hE
 have hS : Sv 50 ((0, .string s) :: []) [] (fun _ => False) w a w := Sv.start hE _ _
 clear hE
 refine wp_seq ?_
 refine wp_region_lit ?_
 refine sv_r (v := .float .f64 0) hS ex_ac fun a hS => ?_
 refine sv_r (v := .int .i64 0) hS ex_ac fun a hS => ?_
 refine sv_r (v := .bool false) hS ex_ac fun a hS => ?_
 refine wpList_nil ?_
 replace hS := hS.cut [4, 3, 2, 0]
 show Code.wp _ _ _ _ _
 refine wp_seq ?_
 refine wp_seq ?_
 refine wp_region_lit ?_
 refine sv_r (v := .string s) hS (ex_mv (hS.get 0 rfl)) fun a hS => ?_
 refine sv_r (v := .int .i64 ((s.size : Nat) : Int)) hS (ex_slen (ats := #[]) (hS.get 8 rfl)) fun a hS => ?_
 refine sv_r (v := .bool false) hS (ei_eql (hS.get 9 rfl) rfl (by rw [decide_eq_false_iff_not]; omega)) fun a hS => ?_
 refine wpList_nil ?_
 replace hS := hS.cut [10, 4, 3, 2, 0]
 show Code.wp _ _ _ _ _
 refine cond_f (hS.get 10 rfl) ?_
 refine wp_skip ?_
 show Code.wp _ _ _ _ _
 refine wp_seq ?_
 refine wp_region_lit ?_
 refine sv_r (v := .int .i64 1) hS ex_ac fun a hS => ?_
 replace hS : Sv 50 ((5, .int .i64 1) :: (10, .bool false) :: (4, .bool false) :: (3, .int .i64 0) :: (2, .float .f64 0) :: (0, .string s) :: []) [] (fun _ => False) w a w := hS.pick rfl
 refine nx3 ?_
 refine sv_r (v := .int .i64 0) hS ex_ac fun a hS => ?_
 refine wpList_nil ?_
 replace hS := hS.cut [6, 5, 10, 4, 3, 2, 0]
 show Code.wp _ _ _ _ _
 refine wp_seq ?_
 refine wp_seq ?_
 refine wp_region_lit ?_
 refine sv_r (v := .string s) hS (ex_mv (hS.get 0 rfl)) fun a hS => ?_
 refine sv_r (v := .int .u8 (((s[0]'h0).toNat : Nat) : Int)) hS (ex_sidx (i := 0) (hS.get 11 rfl) rfl h0) fun a hS => ?_
 refine wpList_nil ?_
 replace hS := hS.cut [12, 6, 5, 10, 4, 3, 2, 0]
 show Code.wp _ _ _ _ _
 refine wp_block ?_
 refine wp_seq ?_
 refine wp_block ?_
 refine wp_seq ?_
 refine wp_block ?_
 refine wp_seq ?_
 refine wp_block ?_
 refine wp_seq ?_
 refine wp_seq ?_
 refine wp_seq ?_
 refine wp_seq ?_
 refine wp_region_lit ?_
 refine sv_r (v := .bool false) hS (ei_eql (hS.get 12 rfl) rfl (by rw [decide_eq_false_iff_not]; omega)) fun a hS => ?_
 refine sv_r (v := .bool false) hS (ex_as (hS.get 14 rfl)) fun a hS => ?_
 replace hS : Sv 50 ((13, .bool false) :: (12, .int .u8 (((s[0]'h0).toNat : Nat) : Int)) :: (6, .int .i64 0) :: (5, .int .i64 1) :: (10, .bool false) :: (4, .bool false) :: (3, .int .i64 0) :: (2, .float .f64 0) :: (0, .string s) :: []) [] (fun _ => False) w a w := hS.pick rfl
 refine nx1 ?_
 refine cond_f (hS.get 13 rfl) ?_
 refine wp_region_lit ?_
 refine sv_r (v := .bool false) hS (ei_eql (hS.get 12 rfl) rfl (by rw [decide_eq_false_iff_not]; omega)) fun a hS => ?_
 refine sv_r (v := .bool false) hS (ex_as (hS.get 15 rfl)) fun a hS => ?_
 refine wpList_nil ?_
 replace hS := hS.cut [13, 12, 6, 5, 10, 4, 3, 2, 0]
 show Code.wp _ _ _ _ _
 refine cond_f (hS.get 13 rfl) ?_
 refine wp_skip ?_
 show Code.wp _ _ _ _ _
 refine wp_seq ?_
 refine wp_seq ?_
 refine wp_seq ?_
 refine wp_region_lit ?_
 refine sv_r (v := .bool false) hS (ei_eql (hS.get 12 rfl) rfl (by rw [decide_eq_false_iff_not]; omega)) fun a hS => ?_
 refine sv_r (v := .bool false) hS (ex_as (hS.get 17 rfl)) fun a hS => ?_
 refine wpList_nil ?_
 replace hS := hS.cut [16, 13, 12, 6, 5, 10, 4, 3, 2, 0]
 show Code.wp _ _ _ _ _
 refine cond_f (hS.get 16 rfl) ?_
 refine wp_region_lit ?_
 refine sv_r (v := .bool false) hS (ei_eql (hS.get 12 rfl) rfl (by rw [decide_eq_false_iff_not]; omega)) fun a hS => ?_
 refine sv_r (v := .bool false) hS (ex_as (hS.get 18 rfl)) fun a hS => ?_
 replace hS : Sv 50 ((16, .bool false) :: (13, .bool false) :: (12, .int .u8 (((s[0]'h0).toNat : Nat) : Int)) :: (6, .int .i64 0) :: (5, .int .i64 1) :: (10, .bool false) :: (4, .bool false) :: (3, .int .i64 0) :: (2, .float .f64 0) :: (0, .string s) :: []) [] (fun _ => False) w a w := hS.pick rfl
 refine nx1 ?_
 refine cond_f (hS.get 16 rfl) ?_
 refine wp_skip ?_
 show Code.wp _ _ _ _ _
 refine wp_seq ?_
 refine wp_seq ?_
 refine wp_region_lit ?_
 refine sv_r (v := .bool false) hS (ei_eql (hS.get 12 rfl) rfl (by rw [decide_eq_false_iff_not]; omega)) fun a hS => ?_
 refine sv_r (v := .bool false) hS (ex_as (hS.get 20 rfl)) fun a hS => ?_
 refine wpList_nil ?_
 replace hS := hS.cut [19, 16, 13, 12, 6, 5, 10, 4, 3, 2, 0]
 show Code.wp _ _ _ _ _
 refine cond_f (hS.get 19 rfl) ?_
 refine wp_region_lit ?_
 refine sv_r (v := .bool false) hS (ei_eql (hS.get 12 rfl) rfl (by rw [decide_eq_false_iff_not]; omega)) fun a hS => ?_
 refine sv_r (v := .bool false) hS (ex_as (hS.get 21 rfl)) fun a hS => ?_
 refine wpList_nil ?_
 replace hS := hS.cut [19, 16, 13, 12, 6, 5, 10, 4, 3, 2, 0]
 show Code.wp _ _ _ _ _
 refine cond_f (hS.get 19 rfl) ?_
 refine wp_skip ?_
 show Code.wp _ _ _ _ _
 refine wp_exit ?_
 show Code.wp _ _ _ _ _
 refine wp_seq ?_
 refine wp_region_lit ?_
 refine sv_r (v := .float .f64 0) hS ex_ac fun a hS => ?_
 refine sv_r (v := .int .i64 0) hS ex_ac fun a hS => ?_
 refine sv_r (v := .bool false) hS ex_ac fun a hS => ?_
 replace hS : Sv 50 ((4, .bool false) :: (3, .int .i64 0) :: (2, .float .f64 0) :: (19, .bool false) :: (16, .bool false) :: (13, .bool false) :: (12, .int .u8 (((s[0]'h0).toNat : Nat) : Int)) :: (6, .int .i64 0) :: (5, .int .i64 1) :: (10, .bool false) :: (0, .string s) :: []) [] (fun _ => False) w a w := hS.pick rfl
 refine nx1 ?_
 refine wp_ret ?_
 try simp only [Exit.inBlock, Exit.then]
 exact ret3_of_ev hS.ev rfl (hS.get 2 rfl) (hS.get 3 rfl) (hS.get 4 rfl) ⟨rfl, hS.toBelow⟩
theorem special_word (s : ByteArray) (hw : WordB s) (h0 : 0 < s.size) (hz : s.size ≤ 1000) (w : World) : Calls Tryz.prog 127 #[.string s] w fun e w' => e = .returned (.tuple #[.float .f64 0, .int .i64 0, .bool false]) ∧ Below w.heap.size w w' := by
 have hq := hw 0 h0
 obtain hc | hc | ⟨hc1, hc2⟩ : (s[0]'h0).toNat = 105 ∨ (s[0]'h0).toNat = 110 ∨ ((s[0]'h0).toNat ≠ 105 ∧ (s[0]'h0).toNat ≠ 110) := by omega
 ·refine calls_of_ev Tryz.func127 rfl (show 1 ≤ 50 from by decide) ?_
  intro a hE
  have hE : Ev 50 ((0, .string s) :: []) a := hE
  have hS : Sv 50 ((0, .string s) :: []) [] (fun _ => False) w a w := Sv.start hE _ _
  clear hE
  refine wp_seq ?_
  refine wp_region_lit ?_
  refine sv_r (v := .float .f64 0) hS ex_ac fun a hS => ?_
  refine sv_r (v := .int .i64 0) hS ex_ac fun a hS => ?_
  refine sv_r (v := .bool false) hS ex_ac fun a hS => ?_
  refine wpList_nil ?_
  replace hS := hS.cut [4, 3, 2, 0]
  show Code.wp _ _ _ _ _
  refine wp_seq ?_
  refine wp_seq ?_
  refine wp_region_lit ?_
  refine sv_r (v := .string s) hS (ex_mv (hS.get 0 rfl)) fun a hS => ?_
  refine sv_r (v := .int .i64 ((s.size : Nat) : Int)) hS (ex_slen (ats := #[]) (hS.get 8 rfl)) fun a hS => ?_
  refine sv_r (v := .bool false) hS (ei_eql (hS.get 9 rfl) rfl (by rw [decide_eq_false_iff_not]; omega)) fun a hS => ?_
  refine wpList_nil ?_
  replace hS := hS.cut [10, 4, 3, 2, 0]
  show Code.wp _ _ _ _ _
  refine cond_f (hS.get 10 rfl) ?_
  refine wp_skip ?_
  show Code.wp _ _ _ _ _
  refine wp_seq ?_
  refine wp_region_lit ?_
  refine sv_r (v := .int .i64 1) hS ex_ac fun a hS => ?_
  replace hS : Sv 50 ((5, .int .i64 1) :: (10, .bool false) :: (4, .bool false) :: (3, .int .i64 0) :: (2, .float .f64 0) :: (0, .string s) :: []) [] (fun _ => False) w a w := hS.pick rfl
  refine nx3 ?_
  refine sv_r (v := .int .i64 0) hS ex_ac fun a hS => ?_
  refine wpList_nil ?_
  replace hS := hS.cut [6, 5, 10, 4, 3, 2, 0]
  show Code.wp _ _ _ _ _
  refine wp_seq ?_
  refine wp_seq ?_
  refine wp_region_lit ?_
  refine sv_r (v := .string s) hS (ex_mv (hS.get 0 rfl)) fun a hS => ?_
  refine sv_r (v := .int .u8 (((s[0]'h0).toNat : Nat) : Int)) hS (ex_sidx (i := 0) (hS.get 11 rfl) rfl h0) fun a hS => ?_
  refine wpList_nil ?_
  replace hS := hS.cut [12, 6, 5, 10, 4, 3, 2, 0]
  show Code.wp _ _ _ _ _
  refine wp_block ?_
  refine wp_seq ?_
  refine wp_block ?_
  refine wp_seq ?_
  refine wp_block ?_
  refine wp_seq ?_
  refine wp_block ?_
  refine wp_seq ?_
  refine wp_seq ?_
  refine wp_seq ?_
  refine wp_seq ?_
  refine wp_region_lit ?_
  refine sv_r (v := .bool false) hS (ei_eql (hS.get 12 rfl) rfl (by rw [decide_eq_false_iff_not]; omega)) fun a hS => ?_
  refine sv_r (v := .bool false) hS (ex_as (hS.get 14 rfl)) fun a hS => ?_
  replace hS : Sv 50 ((13, .bool false) :: (12, .int .u8 (((s[0]'h0).toNat : Nat) : Int)) :: (6, .int .i64 0) :: (5, .int .i64 1) :: (10, .bool false) :: (4, .bool false) :: (3, .int .i64 0) :: (2, .float .f64 0) :: (0, .string s) :: []) [] (fun _ => False) w a w := hS.pick rfl
  refine nx1 ?_
  refine cond_f (hS.get 13 rfl) ?_
  refine wp_region_lit ?_
  refine sv_r (v := .bool false) hS (ei_eql (hS.get 12 rfl) rfl (by rw [decide_eq_false_iff_not]; omega)) fun a hS => ?_
  refine sv_r (v := .bool false) hS (ex_as (hS.get 15 rfl)) fun a hS => ?_
  refine wpList_nil ?_
  replace hS := hS.cut [13, 12, 6, 5, 10, 4, 3, 2, 0]
  show Code.wp _ _ _ _ _
  refine cond_f (hS.get 13 rfl) ?_
  refine wp_skip ?_
  show Code.wp _ _ _ _ _
  refine wp_seq ?_
  refine wp_seq ?_
  refine wp_seq ?_
  refine wp_region_lit ?_
  refine sv_r (v := .bool true) hS (ei_eql (hS.get 12 rfl) rfl (by rw [decide_eq_true_iff]; omega)) fun a hS => ?_
  refine sv_r (v := .bool true) hS (ex_as (hS.get 17 rfl)) fun a hS => ?_
  refine wpList_nil ?_
  replace hS := hS.cut [16, 13, 12, 6, 5, 10, 4, 3, 2, 0]
  show Code.wp _ _ _ _ _
  refine cond_t (hS.get 16 rfl) ?_
  refine wp_skip ?_
  show Code.wp _ _ _ _ _
  refine cond_t (hS.get 16 rfl) ?_
  refine wp_exit ?_
  show Code.wp _ _ _ _ _
  refine wp_seq ?_
  refine wp_seq ?_
  refine wp_region_lit ?_
  refine sv_r (v := .string s) hS (ex_mv (hS.get 0 rfl)) fun a hS => ?_
  have hlt := hS.lt
  have hsz := hS.size
  refine sv_call (S := fun v w' => ∃ k : Nat, v = .int .i64 (k : Int) ∧ k ≤ 2) hS rfl rfl (by decide) (ex_call2 cf_istrconv_commonPrefixLenIgnoreCase (hS.get 27 rfl) rfl) (cpl_any s (⟨#[105, 110, 102, 105, 110, 105, 116, 121]⟩ : ByteArray) hw hz (by decide) 2 (by decide) (by decide) _) ?_
  rintro a _ w1 ⟨kk, rfl, hkk⟩ hbw1 hS
  refine sv_r (v := .int .i64 ((kk : Nat) : Int)) hS (ex_as (hS.get 28 rfl)) fun a hS => ?_
  replace hS : Sv 50 ((7, .int .i64 ((kk : Nat) : Int)) :: (16, .bool true) :: (13, .bool false) :: (12, .int .u8 (((s[0]'h0).toNat : Nat) : Int)) :: (6, .int .i64 0) :: (5, .int .i64 1) :: (10, .bool false) :: (4, .bool false) :: (3, .int .i64 0) :: (2, .float .f64 0) :: (0, .string s) :: []) [] (fun _ => False) w a w1 := hS.pick rfl
  refine nx1 ?_
  refine wp_seq ?_
  refine wp_seq ?_
  refine wp_region_lit ?_
  refine sv_r (v := .int .i64 ((kk : Nat) : Int)) hS (ex_mv (hS.get 7 rfl)) fun a hS => ?_
  refine sv_r (v := .bool false) hS (ei_lss rfl (hS.get 29 rfl) (by rw [decide_eq_false_iff_not]; omega)) fun a hS => ?_
  refine sv_r (v := .bool false) hS (ex_mv (hS.get 30 rfl)) fun a hS => ?_
  refine sv_goff hS rfl rfl (hS.get 31 rfl) rfl rfl (by decide) ?_
  intro a hS
  refine sv_goff hS rfl rfl (hS.get 31 rfl) rfl rfl (by decide) ?_
  intro a hS
  refine sv_r (v := .bool false) hS (ex_pickF (hS.get 31 rfl) rfl) fun a hS => ?_
  refine wpList_nil ?_
  replace hS := hS.cut [34, 7, 16, 13, 12, 6, 5, 10, 4, 3, 2, 0]
  show Code.wp _ _ _ _ _
  refine cond_f (hS.get 34 rfl) ?_
  refine wp_skip ?_
  show Code.wp _ _ _ _ _
  refine wp_seq ?_
  refine wp_region_lit ?_
  refine sv_r (v := .int .i64 ((kk : Nat) : Int)) hS (ex_mv (hS.get 7 rfl)) fun a hS => ?_
  refine sv_r (v := .bool false) hS (ei_eql (hS.get 35 rfl) rfl (by rw [decide_eq_false_iff_not]; omega)) fun a hS => ?_
  refine sv_r (v := .bool false) hS (ex_mv (hS.get 36 rfl)) fun a hS => ?_
  refine sv_g (v := .int .i64 ((kk : Nat) : Int)) hS (hS.get 37 rfl) (ex_mv (hS.get 7 rfl)) fun a hS => ?_
  refine sv_g (v := .bool false) hS (hS.get 37 rfl) (ei_eql (hS.get 38 rfl) rfl (by rw [decide_eq_false_iff_not]; omega)) fun a hS => ?_
  refine sv_r (v := .bool false) hS (ex_pickF (hS.get 37 rfl) (hS.get 39 rfl)) fun a hS => ?_
  refine wpList_nil ?_
  replace hS := hS.cut [40, 34, 7, 16, 13, 12, 6, 5, 10, 4, 3, 2, 0]
  show Code.wp _ _ _ _ _
  refine cond_f (hS.get 40 rfl) ?_
  refine wp_skip ?_
  show Code.wp _ _ _ _ _
  refine wp_exit ?_
  show Code.wp _ _ _ _ _
  refine wp_seq ?_
  refine wp_region_lit ?_
  refine sv_r (v := .float .f64 0) hS ex_ac fun a hS => ?_
  refine sv_r (v := .int .i64 0) hS ex_ac fun a hS => ?_
  refine sv_r (v := .bool false) hS ex_ac fun a hS => ?_
  replace hS : Sv 50 ((4, .bool false) :: (3, .int .i64 0) :: (2, .float .f64 0) :: (40, .bool false) :: (34, .bool false) :: (7, .int .i64 ((kk : Nat) : Int)) :: (16, .bool true) :: (13, .bool false) :: (12, .int .u8 (((s[0]'h0).toNat : Nat) : Int)) :: (6, .int .i64 0) :: (5, .int .i64 1) :: (10, .bool false) :: (0, .string s) :: []) [] (fun _ => False) w a w1 := hS.pick rfl
  refine nx1 ?_
  refine wp_ret ?_
  try simp only [Exit.inBlock, Exit.then]
  exact ret3_of_ev hS.ev rfl (hS.get 2 rfl) (hS.get 3 rfl) (hS.get 4 rfl) ⟨rfl, hS.toBelow⟩
 ·refine calls_of_ev Tryz.func127 rfl (show 1 ≤ 50 from by decide) ?_
  intro a hE
  have hE : Ev 50 ((0, .string s) :: []) a := hE
  have hS : Sv 50 ((0, .string s) :: []) [] (fun _ => False) w a w := Sv.start hE _ _
  clear hE
  refine wp_seq ?_
  refine wp_region_lit ?_
  refine sv_r (v := .float .f64 0) hS ex_ac fun a hS => ?_
  refine sv_r (v := .int .i64 0) hS ex_ac fun a hS => ?_
  refine sv_r (v := .bool false) hS ex_ac fun a hS => ?_
  refine wpList_nil ?_
  replace hS := hS.cut [4, 3, 2, 0]
  show Code.wp _ _ _ _ _
  refine wp_seq ?_
  refine wp_seq ?_
  refine wp_region_lit ?_
  refine sv_r (v := .string s) hS (ex_mv (hS.get 0 rfl)) fun a hS => ?_
  refine sv_r (v := .int .i64 ((s.size : Nat) : Int)) hS (ex_slen (ats := #[]) (hS.get 8 rfl)) fun a hS => ?_
  refine sv_r (v := .bool false) hS (ei_eql (hS.get 9 rfl) rfl (by rw [decide_eq_false_iff_not]; omega)) fun a hS => ?_
  refine wpList_nil ?_
  replace hS := hS.cut [10, 4, 3, 2, 0]
  show Code.wp _ _ _ _ _
  refine cond_f (hS.get 10 rfl) ?_
  refine wp_skip ?_
  show Code.wp _ _ _ _ _
  refine wp_seq ?_
  refine wp_region_lit ?_
  refine sv_r (v := .int .i64 1) hS ex_ac fun a hS => ?_
  replace hS : Sv 50 ((5, .int .i64 1) :: (10, .bool false) :: (4, .bool false) :: (3, .int .i64 0) :: (2, .float .f64 0) :: (0, .string s) :: []) [] (fun _ => False) w a w := hS.pick rfl
  refine nx3 ?_
  refine sv_r (v := .int .i64 0) hS ex_ac fun a hS => ?_
  refine wpList_nil ?_
  replace hS := hS.cut [6, 5, 10, 4, 3, 2, 0]
  show Code.wp _ _ _ _ _
  refine wp_seq ?_
  refine wp_seq ?_
  refine wp_region_lit ?_
  refine sv_r (v := .string s) hS (ex_mv (hS.get 0 rfl)) fun a hS => ?_
  refine sv_r (v := .int .u8 (((s[0]'h0).toNat : Nat) : Int)) hS (ex_sidx (i := 0) (hS.get 11 rfl) rfl h0) fun a hS => ?_
  refine wpList_nil ?_
  replace hS := hS.cut [12, 6, 5, 10, 4, 3, 2, 0]
  show Code.wp _ _ _ _ _
  refine wp_block ?_
  refine wp_seq ?_
  refine wp_block ?_
  refine wp_seq ?_
  refine wp_block ?_
  refine wp_seq ?_
  refine wp_block ?_
  refine wp_seq ?_
  refine wp_seq ?_
  refine wp_seq ?_
  refine wp_seq ?_
  refine wp_region_lit ?_
  refine sv_r (v := .bool false) hS (ei_eql (hS.get 12 rfl) rfl (by rw [decide_eq_false_iff_not]; omega)) fun a hS => ?_
  refine sv_r (v := .bool false) hS (ex_as (hS.get 14 rfl)) fun a hS => ?_
  replace hS : Sv 50 ((13, .bool false) :: (12, .int .u8 (((s[0]'h0).toNat : Nat) : Int)) :: (6, .int .i64 0) :: (5, .int .i64 1) :: (10, .bool false) :: (4, .bool false) :: (3, .int .i64 0) :: (2, .float .f64 0) :: (0, .string s) :: []) [] (fun _ => False) w a w := hS.pick rfl
  refine nx1 ?_
  refine cond_f (hS.get 13 rfl) ?_
  refine wp_region_lit ?_
  refine sv_r (v := .bool false) hS (ei_eql (hS.get 12 rfl) rfl (by rw [decide_eq_false_iff_not]; omega)) fun a hS => ?_
  refine sv_r (v := .bool false) hS (ex_as (hS.get 15 rfl)) fun a hS => ?_
  refine wpList_nil ?_
  replace hS := hS.cut [13, 12, 6, 5, 10, 4, 3, 2, 0]
  show Code.wp _ _ _ _ _
  refine cond_f (hS.get 13 rfl) ?_
  refine wp_skip ?_
  show Code.wp _ _ _ _ _
  refine wp_seq ?_
  refine wp_seq ?_
  refine wp_seq ?_
  refine wp_region_lit ?_
  refine sv_r (v := .bool false) hS (ei_eql (hS.get 12 rfl) rfl (by rw [decide_eq_false_iff_not]; omega)) fun a hS => ?_
  refine sv_r (v := .bool false) hS (ex_as (hS.get 17 rfl)) fun a hS => ?_
  refine wpList_nil ?_
  replace hS := hS.cut [16, 13, 12, 6, 5, 10, 4, 3, 2, 0]
  show Code.wp _ _ _ _ _
  refine cond_f (hS.get 16 rfl) ?_
  refine wp_region_lit ?_
  refine sv_r (v := .bool false) hS (ei_eql (hS.get 12 rfl) rfl (by rw [decide_eq_false_iff_not]; omega)) fun a hS => ?_
  refine sv_r (v := .bool false) hS (ex_as (hS.get 18 rfl)) fun a hS => ?_
  replace hS : Sv 50 ((16, .bool false) :: (13, .bool false) :: (12, .int .u8 (((s[0]'h0).toNat : Nat) : Int)) :: (6, .int .i64 0) :: (5, .int .i64 1) :: (10, .bool false) :: (4, .bool false) :: (3, .int .i64 0) :: (2, .float .f64 0) :: (0, .string s) :: []) [] (fun _ => False) w a w := hS.pick rfl
  refine nx1 ?_
  refine cond_f (hS.get 16 rfl) ?_
  refine wp_skip ?_
  show Code.wp _ _ _ _ _
  refine wp_seq ?_
  refine wp_seq ?_
  refine wp_region_lit ?_
  refine sv_r (v := .bool true) hS (ei_eql (hS.get 12 rfl) rfl (by rw [decide_eq_true_iff]; omega)) fun a hS => ?_
  refine sv_r (v := .bool true) hS (ex_as (hS.get 20 rfl)) fun a hS => ?_
  refine wpList_nil ?_
  replace hS := hS.cut [19, 16, 13, 12, 6, 5, 10, 4, 3, 2, 0]
  show Code.wp _ _ _ _ _
  refine cond_t (hS.get 19 rfl) ?_
  refine wp_skip ?_
  show Code.wp _ _ _ _ _
  refine cond_t (hS.get 19 rfl) ?_
  refine wp_exit ?_
  show Code.wp _ _ _ _ _
  refine wp_seq ?_
  refine wp_seq ?_
  refine wp_region_lit ?_
  refine sv_r (v := .string s) hS (ex_mv (hS.get 0 rfl)) fun a hS => ?_
  have hlt := hS.lt
  have hsz := hS.size
  refine sv_call (S := fun v w' => ∃ k : Nat, v = .int .i64 (k : Int) ∧ k ≤ 1) hS rfl rfl (by decide) (ex_call2 cf_istrconv_commonPrefixLenIgnoreCase (hS.get 46 rfl) rfl) (cpl_any s (⟨#[110, 97, 110]⟩ : ByteArray) hw hz (by decide) 1 (by decide) (by decide) _) ?_
  rintro a _ w1 ⟨kk, rfl, hkk⟩ hbw1 hS
  refine sv_r (v := .bool false) hS (ei_eql (hS.get 47 rfl) rfl (by rw [decide_eq_false_iff_not]; omega)) fun a hS => ?_
  refine wpList_nil ?_
  replace hS := hS.cut [48, 19, 16, 13, 12, 6, 5, 10, 4, 3, 2, 0]
  show Code.wp _ _ _ _ _
  refine cond_f (hS.get 48 rfl) ?_
  refine wp_skip ?_
  show Code.wp _ _ _ _ _
  refine wp_exit ?_
  show Code.wp _ _ _ _ _
  refine wp_seq ?_
  refine wp_region_lit ?_
  refine sv_r (v := .float .f64 0) hS ex_ac fun a hS => ?_
  refine sv_r (v := .int .i64 0) hS ex_ac fun a hS => ?_
  refine sv_r (v := .bool false) hS ex_ac fun a hS => ?_
  replace hS : Sv 50 ((4, .bool false) :: (3, .int .i64 0) :: (2, .float .f64 0) :: (48, .bool false) :: (19, .bool true) :: (16, .bool false) :: (13, .bool false) :: (12, .int .u8 (((s[0]'h0).toNat : Nat) : Int)) :: (6, .int .i64 0) :: (5, .int .i64 1) :: (10, .bool false) :: (0, .string s) :: []) [] (fun _ => False) w a w1 := hS.pick rfl
  refine nx1 ?_
  refine wp_ret ?_
  try simp only [Exit.inBlock, Exit.then]
  exact ret3_of_ev hS.ev rfl (hS.get 2 rfl) (hS.get 3 rfl) (hS.get 4 rfl) ⟨rfl, hS.toBelow⟩
 ·refine calls_of_ev Tryz.func127 rfl (show 1 ≤ 50 from by decide) ?_
  intro a hE
  have hE : Ev 50 ((0, .string s) :: []) a := hE
  have hS : Sv 50 ((0, .string s) :: []) [] (fun _ => False) w a w := Sv.start hE _ _
  clear hE
  refine wp_seq ?_
  refine wp_region_lit ?_
  refine sv_r (v := .float .f64 0) hS ex_ac fun a hS => ?_
  refine sv_r (v := .int .i64 0) hS ex_ac fun a hS => ?_
  refine sv_r (v := .bool false) hS ex_ac fun a hS => ?_
  refine wpList_nil ?_
  replace hS := hS.cut [4, 3, 2, 0]
  show Code.wp _ _ _ _ _
  refine wp_seq ?_
  refine wp_seq ?_
  refine wp_region_lit ?_
  refine sv_r (v := .string s) hS (ex_mv (hS.get 0 rfl)) fun a hS => ?_
  refine sv_r (v := .int .i64 ((s.size : Nat) : Int)) hS (ex_slen (ats := #[]) (hS.get 8 rfl)) fun a hS => ?_
  refine sv_r (v := .bool false) hS (ei_eql (hS.get 9 rfl) rfl (by rw [decide_eq_false_iff_not]; omega)) fun a hS => ?_
  refine wpList_nil ?_
  replace hS := hS.cut [10, 4, 3, 2, 0]
  show Code.wp _ _ _ _ _
  refine cond_f (hS.get 10 rfl) ?_
  refine wp_skip ?_
  show Code.wp _ _ _ _ _
  refine wp_seq ?_
  refine wp_region_lit ?_
  refine sv_r (v := .int .i64 1) hS ex_ac fun a hS => ?_
  replace hS : Sv 50 ((5, .int .i64 1) :: (10, .bool false) :: (4, .bool false) :: (3, .int .i64 0) :: (2, .float .f64 0) :: (0, .string s) :: []) [] (fun _ => False) w a w := hS.pick rfl
  refine nx3 ?_
  refine sv_r (v := .int .i64 0) hS ex_ac fun a hS => ?_
  refine wpList_nil ?_
  replace hS := hS.cut [6, 5, 10, 4, 3, 2, 0]
  show Code.wp _ _ _ _ _
  refine wp_seq ?_
  refine wp_seq ?_
  refine wp_region_lit ?_
  refine sv_r (v := .string s) hS (ex_mv (hS.get 0 rfl)) fun a hS => ?_
  refine sv_r (v := .int .u8 (((s[0]'h0).toNat : Nat) : Int)) hS (ex_sidx (i := 0) (hS.get 11 rfl) rfl h0) fun a hS => ?_
  refine wpList_nil ?_
  replace hS := hS.cut [12, 6, 5, 10, 4, 3, 2, 0]
  show Code.wp _ _ _ _ _
  refine wp_block ?_
  refine wp_seq ?_
  refine wp_block ?_
  refine wp_seq ?_
  refine wp_block ?_
  refine wp_seq ?_
  refine wp_block ?_
  refine wp_seq ?_
  refine wp_seq ?_
  refine wp_seq ?_
  refine wp_seq ?_
  refine wp_region_lit ?_
  refine sv_r (v := .bool false) hS (ei_eql (hS.get 12 rfl) rfl (by rw [decide_eq_false_iff_not]; omega)) fun a hS => ?_
  refine sv_r (v := .bool false) hS (ex_as (hS.get 14 rfl)) fun a hS => ?_
  replace hS : Sv 50 ((13, .bool false) :: (12, .int .u8 (((s[0]'h0).toNat : Nat) : Int)) :: (6, .int .i64 0) :: (5, .int .i64 1) :: (10, .bool false) :: (4, .bool false) :: (3, .int .i64 0) :: (2, .float .f64 0) :: (0, .string s) :: []) [] (fun _ => False) w a w := hS.pick rfl
  refine nx1 ?_
  refine cond_f (hS.get 13 rfl) ?_
  refine wp_region_lit ?_
  refine sv_r (v := .bool false) hS (ei_eql (hS.get 12 rfl) rfl (by rw [decide_eq_false_iff_not]; omega)) fun a hS => ?_
  refine sv_r (v := .bool false) hS (ex_as (hS.get 15 rfl)) fun a hS => ?_
  refine wpList_nil ?_
  replace hS := hS.cut [13, 12, 6, 5, 10, 4, 3, 2, 0]
  show Code.wp _ _ _ _ _
  refine cond_f (hS.get 13 rfl) ?_
  refine wp_skip ?_
  show Code.wp _ _ _ _ _
  refine wp_seq ?_
  refine wp_seq ?_
  refine wp_seq ?_
  refine wp_region_lit ?_
  refine sv_r (v := .bool false) hS (ei_eql (hS.get 12 rfl) rfl (by rw [decide_eq_false_iff_not]; omega)) fun a hS => ?_
  refine sv_r (v := .bool false) hS (ex_as (hS.get 17 rfl)) fun a hS => ?_
  refine wpList_nil ?_
  replace hS := hS.cut [16, 13, 12, 6, 5, 10, 4, 3, 2, 0]
  show Code.wp _ _ _ _ _
  refine cond_f (hS.get 16 rfl) ?_
  refine wp_region_lit ?_
  refine sv_r (v := .bool false) hS (ei_eql (hS.get 12 rfl) rfl (by rw [decide_eq_false_iff_not]; omega)) fun a hS => ?_
  refine sv_r (v := .bool false) hS (ex_as (hS.get 18 rfl)) fun a hS => ?_
  replace hS : Sv 50 ((16, .bool false) :: (13, .bool false) :: (12, .int .u8 (((s[0]'h0).toNat : Nat) : Int)) :: (6, .int .i64 0) :: (5, .int .i64 1) :: (10, .bool false) :: (4, .bool false) :: (3, .int .i64 0) :: (2, .float .f64 0) :: (0, .string s) :: []) [] (fun _ => False) w a w := hS.pick rfl
  refine nx1 ?_
  refine cond_f (hS.get 16 rfl) ?_
  refine wp_skip ?_
  show Code.wp _ _ _ _ _
  refine wp_seq ?_
  refine wp_seq ?_
  refine wp_region_lit ?_
  refine sv_r (v := .bool false) hS (ei_eql (hS.get 12 rfl) rfl (by rw [decide_eq_false_iff_not]; omega)) fun a hS => ?_
  refine sv_r (v := .bool false) hS (ex_as (hS.get 20 rfl)) fun a hS => ?_
  refine wpList_nil ?_
  replace hS := hS.cut [19, 16, 13, 12, 6, 5, 10, 4, 3, 2, 0]
  show Code.wp _ _ _ _ _
  refine cond_f (hS.get 19 rfl) ?_
  refine wp_region_lit ?_
  refine sv_r (v := .bool false) hS (ei_eql (hS.get 12 rfl) rfl (by rw [decide_eq_false_iff_not]; omega)) fun a hS => ?_
  refine sv_r (v := .bool false) hS (ex_as (hS.get 21 rfl)) fun a hS => ?_
  refine wpList_nil ?_
  replace hS := hS.cut [19, 16, 13, 12, 6, 5, 10, 4, 3, 2, 0]
  show Code.wp _ _ _ _ _
  refine cond_f (hS.get 19 rfl) ?_
  refine wp_skip ?_
  show Code.wp _ _ _ _ _
  refine wp_exit ?_
  show Code.wp _ _ _ _ _
  refine wp_seq ?_
  refine wp_region_lit ?_
  refine sv_r (v := .float .f64 0) hS ex_ac fun a hS => ?_
  refine sv_r (v := .int .i64 0) hS ex_ac fun a hS => ?_
  refine sv_r (v := .bool false) hS ex_ac fun a hS => ?_
  replace hS : Sv 50 ((4, .bool false) :: (3, .int .i64 0) :: (2, .float .f64 0) :: (19, .bool false) :: (16, .bool false) :: (13, .bool false) :: (12, .int .u8 (((s[0]'h0).toNat : Nat) : Int)) :: (6, .int .i64 0) :: (5, .int .i64 1) :: (10, .bool false) :: (0, .string s) :: []) [] (fun _ => False) w a w := hS.pick rfl
  refine nx1 ?_
  refine wp_ret ?_
  try simp only [Exit.inBlock, Exit.then]
  exact ret3_of_ev hS.ev rfl (hS.get 2 rfl) (hS.get 3 rfl) (hS.get 4 rfl) ⟨rfl, hS.toBelow⟩
end Go.Proofs.YtflppablgdegcaaGreatDoor
/- strconv.ParseFloat at numbers with few digits and at words. -/
set_option maxRecDepth 100000
set_option maxHeartbeats 8000000
namespace Go.Proofs.YtflppablgdegcaaGreatDoor
open Go.RowKit
theorem cv_uint64_float64 (n : Int) : Cv 24 35 (.int .u64 n) (.float .f64 (floatOfInt .f64 n)) := by intro w; go_simp
theorem fo_finfo_0 : Fo 234 0 0 := by intro g i w; go_simp
theorem lt_sl_float64 : Ld 268 := by intro w p v h; go_simp
section
variable {a : Act} {w : World} {v : Value} {x y : Operand} {ty : TypeId} {ps : String} {af : Array Edge} {dst : Option Nat} {gd : Option (Nat × Bool)} {T T' : TypeId}
theorem ex_fog {T k o n : Nat} (hf : Fo T k o) : (execOp a.eval ⟨dst, .fieldAddr T (.global n) k, ty, ps, af, gd⟩).run Tryz.prog w = .ok (.value (pt n o)) w := by
 have h := hf n 0 w
 rw [Nat.zero_add] at h
 have hx : a.eval (.global n) = pt n 0 := rfl
 simp only [execOp, hx]; exact run_andValue h
theorem ex_ldg {T n : Nat} (hL : Ld T) (hc : w.cell? ⟨n, 0, none⟩ = some v) : (execOp a.eval ⟨dst, .load T (.global n), ty, ps, af, gd⟩).run Tryz.prog w = .ok (.value v) w := by
 have hx : a.eval (.global n) = pt n 0 := rfl
 simp only [execOp, hx]; exact run_andValue (hL w _ _ hc)
theorem ex_quof {u z p : Nat} (hx : a.eval x = .float .f64 u) (hy : a.eval y = .float .f64 p) (h : floatBits .quo .f64 u p = some z) : (execOp a.eval ⟨dst, .binOp .quo T x y T', ty, ps, af, gd⟩).run Tryz.prog w = .ok (.value (.float .f64 z)) w := by
 have hr := run_float_arith (P := Tryz.prog) w .quo T .f64 _ _ z h
 simp only [execOp, hx, hy]
 simp [eqGuard, hr, Result.andThen]
theorem ex_neg {t : Nat} {i : Int} (hx : a.eval (.tmp t) = .int .i64 (-i)) (hw : IntKind.i64.wrap i = i) : (execOp a.eval ⟨dst, .unOp .neg T (.tmp t), ty, ps, af, gd⟩).run Tryz.prog w = .ok (.value (.int .i64 i)) w := by
 have hw2 : IntKind.i64.wrap (- -i) = i := by rw [Int.neg_neg]; exact hw
 simp only [execOp, hx]
 generalize hj : -i = j at hw2 ⊢
 go_simp
 try rw [hw2]
end
/-- m by ten to the k. -/
def Qb (m k z : Nat) : Prop := (k = 0 ∧ z = floatOfInt .f64 (m : Int)) ∨ (0 < k ∧ k ≤ 22 ∧ ∃ p, p10bits[k]? = some p ∧ floatBits .quo .f64 (floatOfInt .f64 (m : Int)) p = some z)
theorem shr52 {m : Nat} (hm : m < 4503599627370496) : (m : Int) / 2 ^ (52 : Int).toNat = 0 := by
 have : (2 : Int) ^ (52 : Int).toNat = 4503599627370496 := by decide
 rw [this]; omega
theorem atofexact_any (m k z : Nat) (hm : m < 4503599627370496) (hz : Qb m k z) {B : Nat} {G : Ge} (w : World) (hG : Env B G w) : Calls Tryz.prog 138 #[.int .u64 m, .int .i64 (-(k : Int)), .bool false] w fun e w' => e = .returned (.tuple #[.float .f64 z, .bool true]) ∧ Below w.heap.size w w' := by
 obtain ⟨rfl, rfl⟩ | ⟨hk0, hk, p, hp, hq⟩ := hz
 ·refine calls_of_ev Tryz.func138 rfl (show 3 ≤ 64 from by decide) ?_
  intro a hE
  have hE : Ev 64 ((0, .int .u64 ((m : Nat) : Int)) :: (1, .int .i64 0) :: (2, .bool false) :: []) a := hE
  have hS : Sv 64 ((0, .int .u64 ((m : Nat) : Int)) :: (1, .int .i64 0) :: (2, .bool false) :: []) [] (fun _ => False) w a w := Sv.start hE _ _
  clear hE
  have hS : Sv 64 ((0, .int .u64 ((m : Nat) : Int)) :: (1, .int .i64 0) :: (2, .bool false) :: []) [] (fun _ => False) w a w := hS
  refine wp_seq ?_
  refine wp_region_lit ?_
  refine sv_r (v := .float .f64 0) hS ex_ac fun a hS => ?_
  refine sv_r (v := .bool false) hS ex_ac fun a hS => ?_
  refine wpList_nil ?_
  replace hS := hS.cut [7, 6, 0, 1, 2]
  show Code.wp _ _ _ _ _
  refine wp_seq ?_
  refine wp_seq ?_
  refine wp_region_lit ?_
  refine sv_r (v := .int .u64 ((m : Nat) : Int)) hS (ex_mv (hS.get 0 rfl)) fun a hS => ?_
  refine sv_r (v := pt 15 0) hS (ex_fog fo_finfo_0) fun a hS => ?_
  refine sv_r (v := .int .u64 52) hS (ex_ld (hS.get 9 rfl) lt_uint (hG.below hS.toBelow).bits) fun a hS => ?_
  refine sv_r (v := .int .u64 0) hS (ei_shr (hS.get 8 rfl) (hS.get 10 rfl) (by decide) (by decide) (shr52 hm)) fun a hS => ?_
  refine sv_r (v := .bool false) hS (ei_neq (hS.get 11 rfl) rfl (by decide)) fun a hS => ?_
  refine wpList_nil ?_
  replace hS := hS.cut [12, 7, 6, 0, 1, 2]
  show Code.wp _ _ _ _ _
  refine cond_f (hS.get 12 rfl) ?_
  refine wp_skip ?_
  show Code.wp _ _ _ _ _
  refine wp_seq ?_
  refine wp_region_lit ?_
  refine sv_r (v := .int .u64 ((m : Nat) : Int)) hS (ex_mv (hS.get 0 rfl)) fun a hS => ?_
  refine sv_r (v := .float .f64 (floatOfInt .f64 (m : Int))) hS (ex_cv (hS.get 13 rfl) (cv_uint64_float64 _)) fun a hS => ?_
  refine sv_r (v := .float .f64 (floatOfInt .f64 (m : Int))) hS (ex_as (hS.get 14 rfl)) fun a hS => ?_
  replace hS : Sv 64 ((6, .float .f64 (floatOfInt .f64 (m : Int))) :: (12, .bool false) :: (7, .bool false) :: (0, .int .u64 ((m : Nat) : Int)) :: (1, .int .i64 0) :: (2, .bool false) :: []) [] (fun _ => False) w a w := hS.pick rfl
  refine nx1 ?_
  refine wp_seq ?_
  refine wp_seq ?_
  refine wp_region_lit ?_
  refine sv_r (v := .bool false) hS (ex_mv (hS.get 2 rfl)) fun a hS => ?_
  refine wpList_nil ?_
  replace hS := hS.cut [15, 6, 12, 7, 0, 1]
  show Code.wp _ _ _ _ _
  refine cond_f (hS.get 15 rfl) ?_
  refine wp_skip ?_
  show Code.wp _ _ _ _ _
  refine wp_seq ?_
  refine wp_block ?_
  refine wp_seq ?_
  refine wp_region_lit ?_
  refine sv_r (v := .int .i64 0) hS (ex_mv (hS.get 1 rfl)) fun a hS => ?_
  refine sv_r (v := .bool true) hS (ei_eql (hS.get 19 rfl) rfl (by decide)) fun a hS => ?_
  refine sv_r (v := .bool true) hS (ex_as (hS.get 20 rfl)) fun a hS => ?_
  refine wpList_nil ?_
  replace hS := hS.cut [18, 15, 6, 12, 7, 0, 1]
  show Code.wp _ _ _ _ _
  refine cond_t (hS.get 18 rfl) ?_
  refine wp_seq ?_
  refine wp_region_lit ?_
  refine sv_r (v := .float .f64 (floatOfInt .f64 (m : Int))) hS (ex_mv (hS.get 6 rfl)) fun a hS => ?_
  refine sv_r (v := .float .f64 (floatOfInt .f64 (m : Int))) hS (ex_as (hS.get 21 rfl)) fun a hS => ?_
  refine sv_r (v := .bool true) hS ex_ac fun a hS => ?_
  replace hS : Sv 64 ((7, .bool true) :: (6, .float .f64 (floatOfInt .f64 (m : Int))) :: (18, .bool true) :: (15, .bool false) :: (12, .bool false) :: (0, .int .u64 ((m : Nat) : Int)) :: (1, .int .i64 0) :: []) [] (fun _ => False) w a w := hS.pick rfl
  refine nx1 ?_
  refine wp_ret ?_
  try simp only [Exit.inBlock, Exit.then]
  exact ret2_of_ev hS.ev rfl (hS.get 6 rfl) (hS.get 7 rfl) ⟨rfl, hS.toBelow⟩
 ·refine calls_of_ev Tryz.func138 rfl (show 3 ≤ 64 from by decide) ?_
  intro a hE
  have hE : Ev 64 ((0, .int .u64 ((m : Nat) : Int)) :: (1, .int .i64 (-(k : Int))) :: (2, .bool false) :: []) a := hE
  have hS : Sv 64 ((0, .int .u64 ((m : Nat) : Int)) :: (1, .int .i64 (-(k : Int))) :: (2, .bool false) :: []) [] (fun _ => False) w a w := Sv.start hE _ _
  clear hE
  refine wp_seq ?_
  refine wp_region_lit ?_
  refine sv_r (v := .float .f64 0) hS ex_ac fun a hS => ?_
  refine sv_r (v := .bool false) hS ex_ac fun a hS => ?_
  refine wpList_nil ?_
  replace hS := hS.cut [7, 6, 0, 1, 2]
  show Code.wp _ _ _ _ _
  refine wp_seq ?_
  refine wp_seq ?_
  refine wp_region_lit ?_
  refine sv_r (v := .int .u64 ((m : Nat) : Int)) hS (ex_mv (hS.get 0 rfl)) fun a hS => ?_
  refine sv_r (v := pt 15 0) hS (ex_fog fo_finfo_0) fun a hS => ?_
  refine sv_r (v := .int .u64 52) hS (ex_ld (hS.get 9 rfl) lt_uint (hG.below hS.toBelow).bits) fun a hS => ?_
  refine sv_r (v := .int .u64 0) hS (ei_shr (hS.get 8 rfl) (hS.get 10 rfl) (by decide) (by decide) (shr52 hm)) fun a hS => ?_
  refine sv_r (v := .bool false) hS (ei_neq (hS.get 11 rfl) rfl (by decide)) fun a hS => ?_
  refine wpList_nil ?_
  replace hS := hS.cut [12, 7, 6, 0, 1, 2]
  show Code.wp _ _ _ _ _
  refine cond_f (hS.get 12 rfl) ?_
  refine wp_skip ?_
  show Code.wp _ _ _ _ _
  refine wp_seq ?_
  refine wp_region_lit ?_
  refine sv_r (v := .int .u64 ((m : Nat) : Int)) hS (ex_mv (hS.get 0 rfl)) fun a hS => ?_
  refine sv_r (v := .float .f64 (floatOfInt .f64 (m : Int))) hS (ex_cv (hS.get 13 rfl) (cv_uint64_float64 _)) fun a hS => ?_
  refine sv_r (v := .float .f64 (floatOfInt .f64 (m : Int))) hS (ex_as (hS.get 14 rfl)) fun a hS => ?_
  replace hS : Sv 64 ((6, .float .f64 (floatOfInt .f64 (m : Int))) :: (12, .bool false) :: (7, .bool false) :: (0, .int .u64 ((m : Nat) : Int)) :: (1, .int .i64 (-(k : Int))) :: (2, .bool false) :: []) [] (fun _ => False) w a w := hS.pick rfl
  refine nx1 ?_
  refine wp_seq ?_
  refine wp_seq ?_
  refine wp_region_lit ?_
  refine sv_r (v := .bool false) hS (ex_mv (hS.get 2 rfl)) fun a hS => ?_
  refine wpList_nil ?_
  replace hS := hS.cut [15, 6, 12, 7, 0, 1]
  show Code.wp _ _ _ _ _
  refine cond_f (hS.get 15 rfl) ?_
  refine wp_skip ?_
  show Code.wp _ _ _ _ _
  refine wp_seq ?_
  refine wp_block ?_
  refine wp_seq ?_
  refine wp_region_lit ?_
  refine sv_r (v := .int .i64 (-(k : Int))) hS (ex_mv (hS.get 1 rfl)) fun a hS => ?_
  refine sv_r (v := .bool false) hS (ei_eql (hS.get 19 rfl) rfl (by rw [decide_eq_false_iff_not]; omega)) fun a hS => ?_
  refine sv_r (v := .bool false) hS (ex_as (hS.get 20 rfl)) fun a hS => ?_
  refine wpList_nil ?_
  replace hS := hS.cut [18, 15, 6, 12, 7, 0, 1]
  show Code.wp _ _ _ _ _
  refine cond_f (hS.get 18 rfl) ?_
  refine wp_seq ?_
  refine wp_region_lit ?_
  refine sv_r (v := .int .i64 (-(k : Int))) hS (ex_mv (hS.get 1 rfl)) fun a hS => ?_
  refine sv_r (v := .bool false) hS (ei_gtr (hS.get 23 rfl) rfl (by rw [decide_eq_false_iff_not]; omega)) fun a hS => ?_
  refine sv_r (v := .bool false) hS (ex_mv (hS.get 24 rfl)) fun a hS => ?_
  refine sv_goff hS rfl rfl (hS.get 25 rfl) rfl rfl (by decide) ?_
  intro a hS
  refine sv_goff hS rfl rfl (hS.get 25 rfl) rfl rfl (by decide) ?_
  intro a hS
  refine sv_r (v := .bool false) hS (ex_pickF (hS.get 25 rfl) rfl) fun a hS => ?_
  refine sv_r (v := .bool false) hS (ex_as (hS.get 28 rfl)) fun a hS => ?_
  replace hS : Sv 64 ((22, .bool false) :: (18, .bool false) :: (15, .bool false) :: (6, .float .f64 (floatOfInt .f64 (m : Int))) :: (12, .bool false) :: (7, .bool false) :: (0, .int .u64 ((m : Nat) : Int)) :: (1, .int .i64 (-(k : Int))) :: []) [] (fun _ => False) w a w := hS.pick rfl
  refine nx1 ?_
  refine cond_f (hS.get 22 rfl) ?_
  refine wp_seq ?_
  refine wp_region_lit ?_
  refine sv_r (v := .int .i64 (-(k : Int))) hS (ex_mv (hS.get 1 rfl)) fun a hS => ?_
  refine sv_r (v := .bool true) hS (ei_lss (hS.get 51 rfl) rfl (by rw [decide_eq_true_iff]; omega)) fun a hS => ?_
  refine sv_r (v := .bool true) hS (ex_mv (hS.get 52 rfl)) fun a hS => ?_
  refine sv_g (v := .int .i64 (-(k : Int))) hS (hS.get 53 rfl) (ex_mv (hS.get 1 rfl)) fun a hS => ?_
  refine sv_g (v := .bool true) hS (hS.get 53 rfl) (ei_geq (hS.get 54 rfl) rfl (by rw [decide_eq_true_iff]; omega)) fun a hS => ?_
  refine sv_r (v := .bool true) hS (ex_pickT (hS.get 53 rfl) (hS.get 55 rfl)) fun a hS => ?_
  refine sv_r (v := .bool true) hS (ex_as (hS.get 56 rfl)) fun a hS => ?_
  refine wpList_nil ?_
  replace hS := hS.cut [50, 22, 18, 15, 6, 12, 7, 0, 1]
  show Code.wp _ _ _ _ _
  refine cond_t (hS.get 50 rfl) ?_
  refine wp_seq ?_
  refine wp_region_lit ?_
  refine sv_r (v := .float .f64 (floatOfInt .f64 (m : Int))) hS (ex_mv (hS.get 6 rfl)) fun a hS => ?_
  refine sv_r (v := .slice (some G.pow) G.pn G.pc) hS (ex_ldg lt_sl_float64 (hG.below hS.toBelow).pow) fun a hS => ?_
  refine sv_r (v := .int .i64 (-(k : Int))) hS (ex_mv (hS.get 1 rfl)) fun a hS => ?_
  refine sv_r (v := .int .i64 (k : Int)) hS (ex_neg (hS.get 59 rfl) (by rw [IntKind.wrap_i64]; omega)) fun a hS => ?_
  refine sv_r (v := .pointer (some (G.pow.add (k * 1)))) hS (ex_ia (E := 35) Tryz.underlying268 Tryz.sizeOf35 (hS.get 58 rfl) (hS.get 60 rfl) (by have := hG.powN; omega)) fun a hS => ?_
  refine sv_r (v := .float .f64 p) hS (ex_ld (hS.get 61 rfl) lt_float64 (by rw [Nat.mul_one]; exact (hG.below hS.toBelow).pows k p hp)) fun a hS => ?_
  refine sv_r (v := .float .f64 z) hS (ex_quof (hS.get 57 rfl) (hS.get 62 rfl) hq) fun a hS => ?_
  refine sv_r (v := .float .f64 (z)) hS (ex_as (hS.get 63 rfl)) fun a hS => ?_
  refine sv_r (v := .bool true) hS ex_ac fun a hS => ?_
  refine wpList_nil ?_
  replace hS := hS.cut [7, 6, 50, 22, 18, 15, 12, 0, 1]
  show Code.wp _ _ _ _ _
  refine wp_ret ?_
  try simp only [Exit.inBlock, Exit.then]
  exact ret2_of_ev hS.ev rfl (hS.get 6 rfl) (hS.get 7 rfl) ⟨rfl, hS.toBelow⟩
end Go.Proofs.YtflppablgdegcaaGreatDoor
