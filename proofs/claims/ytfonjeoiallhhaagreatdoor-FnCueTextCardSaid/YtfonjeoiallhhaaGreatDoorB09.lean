/- Joined: Ffw, Fsf. -/
import Derived.Test.YtfonjeoiallhhaaGreatDoorB08
/- uscale in general, prescale at 15 to 17, the small callees of shortFloat. Printed by wip/tools/gen_ffw.py. -/
set_option maxRecDepth 100000
set_option maxHeartbeats 4000000
namespace Go.Proofs.YtfonjeoiallhhaaGreatDoor
open Go.RowKit
/-- What uscale computes where the table's low word is 0. -/
def us (x hi s : Nat) : Nat := if x * hi / 18446744073709551616 / 2 ^ s * 2 ^ s = x * hi / 18446744073709551616 then x * hi / 18446744073709551616 / 2 ^ s ||| (if 1 < x * hi % 18446744073709551616 then 1 else 0) else x * hi / 18446744073709551616 / 2 ^ s ||| 1
theorem uscale_gen (x hi sh g : Nat) (hx : x < 18446744073709551616) (hhi : hi < 18446744073709551616) (hsh : sh < 64) (w : World)
  (hg : w.heap[g]? = some (.cells #[.int .u64 hi, .int .u64 (0 : Nat), .int .i64 sh] 179 (0, 0))) :
  Calls Tryz.prog 107 #[.int .u64 x, .pointer (some ⟨g, 0, none⟩)] w fun e w' => e = .returned (.int .u64 (us x hi sh : Nat)) ∧ ∃ n, w' = w.drewN n := by
 have m1 := fun w => mul64_any x hi hx hhi w
 have m2 := fun w => mul64_any x 0 hx (by omega) w
 simp only [Nat.mul_zero, Nat.zero_div, Nat.zero_mod] at m2
 have hHb : x * hi / 18446744073709551616 < 18446744073709551616 := by
  have : x * hi < 18446744073709551616 * 18446744073709551616 := Nat.mul_lt_mul'' hx hhi
  omega
 have hMb : x * hi % 18446744073709551616 < 18446744073709551616 := Nat.mod_lt _ (by decide)
 obtain ⟨u, hus⟩ : ∃ u, u = us x hi sh := ⟨_, rfl⟩
 rw [← hus]
 unfold us at hus
 generalize x * hi / 18446744073709551616 = H at *
 generalize x * hi % 18446744073709551616 = M at *
 have hp : 0 < 2 ^ sh := Nat.two_pow_pos sh
 obtain ⟨q, hq⟩ : ∃ q, q = H / 2 ^ sh := ⟨_, rfl⟩
 have hqH : q * 2 ^ sh ≤ H := by rw [hq]; exact Nat.div_mul_le_self _ _
 have hqb : q < 18446744073709551616 := Nat.lt_of_le_of_lt (Nat.le_trans (Nat.le_mul_of_pos_right _ hp) hqH) hHb
 rw [← hq] at hus
 have s0 : bits BinOp.and IntKind.i64 (sh : Int) 63 = sh := by
  have hall : (List.range 64).all (fun n => bits BinOp.and IntKind.i64 (n : Int) 63 == (n : Int)) = true := by decide +kernel
  have := List.all_eq_true.1 hall sh (List.mem_range.2 hsh)
  simpa using this
 have s1 : (H : Int) / 2 ^ ((sh : Int)).toNat = q := by rw [Int.toNat_natCast, hq]; push_cast; rfl
 have s2 : IntKind.u64.wrap ((q : Int) * 2 ^ ((sh : Int)).toNat) = ((q * 2 ^ sh : Nat) : Int) := by
  have : ((q : Int) * 2 ^ ((sh : Int)).toNat) = ((q * 2 ^ sh : Nat) : Int) := by rw [Int.toNat_natCast]; push_cast; rfl
  rw [this, IntKind.wrap_u64]; omega
 have s3 : bits BinOp.or IntKind.u64 (q : Int) 1 = ((q ||| 1 : Nat) : Int) := or_u64 q 1 hqb (by omega)
 have s6 : bits BinOp.or IntKind.u64 (q : Int) 0 = ((q ||| 0 : Nat) : Int) := or_u64 q 0 hqb (by omega)
 have s7 : IntKind.u64.wrap ((H : Int) - 0) = (H : Int) := by rw [IntKind.wrap_u64]; omega
 have s8 : IntKind.u64.wrap ((M : Int) - 0) = (M : Int) := by rw [IntKind.wrap_u64]; omega
 clear hq
 generalize q * 2 ^ sh = h at *
 refine calls_of_ev Tryz.func107 rfl (show 2 ≤ 59 from by decide) ?_
 intro a hE
 have hE : Ev 59 ((0, .int .u64 x) :: (1, pt g 0) :: []) a := hE
 refine wp_seq ?_
 refine wp_region_lit ?_
 refine ev_ac hE (by decide) ?_
 intro a hE
 refine nx3 ?_
 refine ev_r (w' := w) hE (ex_mv (hE.get 0 rfl)) fun a hE => ?_
 refine ev_r (w' := w) hE (ex_mv (hE.get 1 rfl)) fun a hE => ?_
 refine ev_nc hE (hE.get 12 rfl) (by decide) ?_
 intro a hE
 refine ev_r (w' := w) hE (ex_fa (hE.get 13 rfl) (fa_sc_0 _)) fun a hE => ?_
 refine ev_r (v := .int .u64 hi) (w' := w) hE (ex_ld (hE.get 14 rfl) ld_u64 (cell_of_heap (v := .int .u64 hi) hg rfl)) fun a hE => ?_
 refine ev_call (S := fun u w' => u = .tuple #[.int .u64 H, .int .u64 M] ∧ w = w') hE rfl rfl (by decide) (f := 124) (args := #[.int .u64 x, .int .u64 hi]) (by simp only [execOp, resolve, List.map_toArray, List.map_cons, List.map_nil, hE.get 11 rfl, hE.get 15 rfl]; go_simp) (Calls.mono (m1 w) (by rintro e w' ⟨rfl, h⟩; exact ⟨_, rfl, rfl, h.symm⟩)) ?_
 rintro a u wx ⟨rfl, rfl⟩ hE
 refine ev_r (w' := w) hE (ex_mv (hE.get 16 rfl)) fun a hE => ?_
 refine ev_r (w' := w) hE (ei_ext (hE.get 10 rfl) rfl) fun a hE => ?_
 refine ev_r (w' := w) hE (ei_ext (hE.get 10 rfl) rfl) fun a hE => ?_
 refine ev_r (w' := w) hE (ex_as (hE.get 17 rfl)) fun a hE => ?_
 refine ev_r (w' := w) hE (ex_as (hE.get 18 rfl)) fun a hE => ?_
 refine nx3 ?_
 refine ev_r (w' := w) hE (ex_mv (hE.get 1 rfl)) fun a hE => ?_
 refine ev_nc hE (hE.get 19 rfl) (by decide) ?_
 intro a hE
 refine ev_r (w' := w) hE (ex_fa (hE.get 20 rfl) (fa_sc_2 _)) fun a hE => ?_
 refine ev_r (v := .int .i64 sh) (w' := w) hE (ex_ld (hE.get 21 rfl) ld_i64 (cell_of_heap (v := .int .i64 sh) hg rfl)) fun a hE => ?_
 refine ev_r (v := .int .i64 sh) (w' := w) hE (ei_and (hE.get 22 rfl) rfl s0) fun a hE => ?_
 refine ev_r (w' := w) hE (ex_as (hE.get 23 rfl)) fun a hE => ?_
 refine nx1 ?_
 refine wp_seq ?_
 refine wp_seq ?_
 refine wp_region_lit ?_
 refine ev_r (w' := w) hE (ex_mv (hE.get 5 rfl)) fun a hE => ?_
 refine ev_r (w' := w) hE (ex_mv (hE.get 7 rfl)) fun a hE => ?_
 refine ev_r (v := .int .u64 q) (w' := w) hE (ei_shr (hE.get 24 rfl) (hE.get 25 rfl) (by omega) (by simp only [IntKind.bits]; omega) s1) fun a hE => ?_
 refine ev_r (w' := w) hE (ex_mv (hE.get 7 rfl)) fun a hE => ?_
 refine ev_r (v := .int .u64 h) (w' := w) hE (ei_shl (hE.get 26 rfl) (hE.get 27 rfl) (by omega) (by simp only [IntKind.bits]; omega) s2) fun a hE => ?_
 refine ev_r (w' := w) hE (ex_mv (hE.get 5 rfl)) fun a hE => ?_
 refine ev_r (v := .bool (decide (h ≠ H))) (w' := w) hE (ei_neq (hE.get 28 rfl) (hE.get 29 rfl) (by rw [decide_eq_decide]; omega)) fun a hE => ?_
 refine nx1 ?_
 refine wp_cond_split (hE.get 30 rfl) (fun hb => ?_) (fun hb => ?_)
 ·have hb := of_decide_eq_true hb
  rw [if_neg hb] at hus
  refine wp_seq ?_
  refine wp_region_lit ?_
  refine ev_r (w' := w) hE (ex_mv (hE.get 5 rfl)) fun a hE => ?_
  refine ev_r (w' := w) hE (ex_mv (hE.get 7 rfl)) fun a hE => ?_
  refine ev_r (v := .int .u64 q) (w' := w) hE (ei_shr (hE.get 31 rfl) (hE.get 32 rfl) (by omega) (by simp only [IntKind.bits]; omega) s1) fun a hE => ?_
  refine ev_r (v := .int .u64 ((q ||| 1 : Nat) : Int)) (w' := w) hE (ei_or (hE.get 33 rfl) rfl s3) fun a hE => ?_
  refine ev_r (w' := w) hE (ex_as (hE.get 34 rfl)) fun a hE => ?_
  refine nx1 ?_
  refine wp_ret ?_
  try simp only [Exit.inBlock, Exit.then]
  exact ret_of_ev hE rfl (hE.get 4 rfl) ⟨(by rw [hus]), 0, rfl⟩
 ·have hb : h = H := by have := of_decide_eq_false hb; omega
  rw [if_pos hb] at hus
  refine wp_skip ?_
  show Code.wp _ _ _ _ _
  refine wp_seq ?_
  refine wp_region_lit ?_
  refine ev_r (w' := w) hE (ex_mv (hE.get 0 rfl)) fun a hE => ?_
  refine ev_r (w' := w) hE (ex_mv (hE.get 1 rfl)) fun a hE => ?_
  refine ev_nc hE (hE.get 37 rfl) (by decide) ?_
  intro a hE
  refine ev_r (w' := w) hE (ex_fa (hE.get 38 rfl) (fa_sc_1 _)) fun a hE => ?_
  refine ev_r (v := .int .u64 (0 : Nat)) (w' := w) hE (ex_ld (hE.get 39 rfl) ld_u64 (cell_of_heap (v := .int .u64 (0 : Nat)) hg rfl)) fun a hE => ?_
  refine ev_call (S := fun u w' => u = .tuple #[.int .u64 (0 : Nat), .int .u64 (0 : Nat)] ∧ w = w') hE rfl rfl (by decide) (f := 124) (args := #[.int .u64 x, .int .u64 (0 : Nat)]) (by simp only [execOp, resolve, List.map_toArray, List.map_cons, List.map_nil, hE.get 36 rfl, hE.get 40 rfl]; go_simp) (Calls.mono (m2 w) (by rintro e w' ⟨rfl, h⟩; exact ⟨_, rfl, rfl, h.symm⟩)) ?_
  rintro a u wx ⟨rfl, rfl⟩ hE
  refine ev_r (w' := w) hE (ex_mv (hE.get 41 rfl)) fun a hE => ?_
  refine ev_r (w' := w) hE (ei_ext (hE.get 35 rfl) rfl) fun a hE => ?_
  refine ev_r (w' := w) hE (ei_ext (hE.get 35 rfl) rfl) fun a hE => ?_
  refine ev_r (w' := w) hE (ex_as (hE.get 42 rfl)) fun a hE => ?_
  refine ev_r (w' := w) hE (ex_as (hE.get 43 rfl)) fun a hE => ?_
  refine nx3 ?_
  refine ev_r (w' := w) hE (ex_mv (hE.get 5 rfl)) fun a hE => ?_
  refine ev_r (w' := w) hE (ex_mv (hE.get 6 rfl)) fun a hE => ?_
  refine ev_r (w' := w) hE (ex_mv (hE.get 8 rfl)) fun a hE => ?_
  refine ev_r (v := .bool false) (w' := w) hE (ei_lss (hE.get 45 rfl) (hE.get 46 rfl) (decide_eq_false (by omega))) fun a hE => ?_
  refine ev_call (S := fun u w' => u = .int .u64 0 ∧ w = w') hE rfl rfl (by decide) (f := 125) (args := #[.bool false]) (by simp only [execOp, resolve, List.map_toArray, List.map_cons, List.map_nil, hE.get 47 rfl]; go_simp) (Calls.mono (bool2w_any false w) (by rintro e w' ⟨rfl, h⟩; exact ⟨_, rfl, rfl, h.symm⟩)) ?_
  rintro a u wx ⟨rfl, rfl⟩ hE
  refine ev_r (v := .int .u64 H) (w' := w) hE (ei_sub (hE.get 44 rfl) (hE.get 48 rfl) s7) fun a hE => ?_
  refine ev_r (w' := w) hE (ex_as (hE.get 49 rfl)) fun a hE => ?_
  refine nx1 ?_
  refine wp_seq ?_
  refine wp_region_quiet_lit (by kernel_rfl) (by kernel_rfl) ?_
  obtain ⟨b, hbM⟩ : ∃ b, b = decide (1 < M) := ⟨_, rfl⟩
  have s9 : bits BinOp.or IntKind.u64 (q : Int) (if b then 1 else 0) = (u : Int) := by
   rw [hus, hbM]
   by_cases h1 : 1 < M
   ·simp only [h1, decide_true, if_true]; exact s3
   ·simp only [h1, decide_false, Bool.false_eq_true, if_false]; exact s6
  refine qv_run hE rfl rfl (by decide) (fun w hC => (ex_mv (hE.get 5 rfl))) ?_
  intro a hE
  refine qv_run hE rfl rfl (by decide) (fun w hC => (ex_mv (hE.get 7 rfl))) ?_
  intro a hE
  refine qv_run (v := .int .u64 q) hE rfl rfl (by decide) (fun w hC => (ei_shr (hE.get 50 rfl) (hE.get 51 rfl) (by omega) (by simp only [IntKind.bits]; omega) s1)) ?_
  intro a hE
  refine qv_run hE rfl rfl (by decide) (fun w hC => (ex_mv (hE.get 6 rfl))) ?_
  intro a hE
  refine qv_run hE rfl rfl (by decide) (fun w hC => (ex_mv (hE.get 8 rfl))) ?_
  intro a hE
  refine qv_run (v := .int .u64 M) hE rfl rfl (by decide) (fun w hC => (ei_sub (hE.get 53 rfl) (hE.get 54 rfl) s8)) ?_
  intro a hE
  refine qv_run (v := .bool b) hE rfl rfl (by decide) (fun w hC => (ei_gtr (hE.get 55 rfl) rfl (by rw [hbM, decide_eq_decide]; omega))) ?_
  intro a hE
  refine qv_call (v := .int .u64 (if b then 1 else 0)) hE rfl rfl (by decide) (f := 125) (args := #[.bool b]) (fun w hC => (by simp only [execOp, resolve, List.map_toArray, List.map_cons, List.map_nil, hE.get 56 rfl]; go_simp)) (fun w hC => (by obtain ⟨n, rfl⟩ := hC; exact Calls.quiet_of_same (bool2w_any b _))) ?_
  intro a hE
  refine qv_run (v := .int .u64 u) hE rfl rfl (by decide) (fun w hC => (ei_or (hE.get 52 rfl) (hE.get 57 rfl) s9)) ?_
  intro a hE
  refine qv_run hE rfl rfl (by decide) (fun w hC => (ex_as (hE.get 58 rfl))) ?_
  intro a hE
  refine wpQuiet_nil ?_
  intro w' hw
  show Code.wp _ _ _ _ _
  refine wp_ret ?_
  exact ret_of_ev hE rfl (hE.get 4 rfl) ⟨rfl, hw⟩
structure PmTab2 (w : World) : Prop where
 h15 : w.cell? ⟨7, 726, none⟩ = some (.int .u64 (16384000000000000000 : Nat))
 l15 : w.cell? ⟨7, 727, none⟩ = some (.int .u64 (0 : Nat))
 h16 : w.cell? ⟨7, 728, none⟩ = some (.int .u64 (10240000000000000000 : Nat))
 l16 : w.cell? ⟨7, 729, none⟩ = some (.int .u64 (0 : Nat))
 h17 : w.cell? ⟨7, 730, none⟩ = some (.int .u64 (12800000000000000000 : Nat))
 l17 : w.cell? ⟨7, 731, none⟩ = some (.int .u64 (0 : Nat))
theorem fa_pm15_0 : Fa 193 0 7 726 726 := by intro w; go_simp
theorem fa_pm15_1 : Fa 193 1 7 726 727 := by intro w; go_simp
theorem fa_pm16_0 : Fa 193 0 7 728 728 := by intro w; go_simp
theorem fa_pm16_1 : Fa 193 1 7 728 729 := by intro w; go_simp
theorem fa_pm17_0 : Fa 193 0 7 730 730 := by intro w; go_simp
theorem fa_pm17_1 : Fa 193 1 7 730 731 := by intro w; go_simp
theorem prescale15 (g : Nat) (e lp : Int) (he : -100 ≤ e ∧ e ≤ 100) (hlp : 0 ≤ lp ∧ lp ≤ 100) (w : World) (hT : ∀ w', Only (fun x => x = g) w w' → PmTab2 w') (hg : w.heap[g]? = some (.cells #[.int .u64 0, .int .u64 0, .int .i64 0] 179 (0, 0))) :
  Calls Tryz.prog 105 #[pt g 0, .int .i64 e, .int .i64 15, .int .i64 lp] w fun x w' => x = .returned (.tuple #[]) ∧ w'.heap[g]? = some (.cells #[.int .u64 (16384000000000000000 : Nat), .int .u64 (0 : Nat), .int .i64 (-(e + lp + 3))] 179 (0, 0)) ∧ Only (fun x => x = g) w w' := by
 have hP := hT w (Only.refl _ _)
 refine calls_of_ev Tryz.func105 rfl (show 4 ≤ 32 from by decide) ?_
 intro a hE
 have hE : Ev 32 ((0, pt g 0) :: (1, .int .i64 e) :: (2, .int .i64 15) :: (3, .int .i64 lp) :: []) a := hE
 refine wp_seq ?_
 refine wp_region_lit ?_
 refine ev_r (w' := w) hE (ex_mv (hE.get 0 rfl)) fun a hE => ?_
 refine ev_r (w' := w) hE (ex_mv (hE.get 2 rfl)) fun a hE => ?_
 refine ev_r (v := .int .i64 363) (w' := w) hE (ei_sub (hE.get 9 rfl) rfl (by decide)) fun a hE => ?_
 refine ev_r (v := pt 7 726) (w' := w) hE (by simp only [execOp, hE.get 10 rfl]; go_simp) fun a hE => ?_
 refine ev_fa hE (hE.get 11 rfl) fa_pm15_0 (by decide) ?_
 intro a hE
 refine ev_ld hE (hE.get 12 rfl) ld_u64 hP.h15 (by decide) ?_
 intro a hE
 refine ev_nc hE (hE.get 8 rfl) (by decide) ?_
 intro a hE
 refine ev_r (w' := w) hE (ex_fa (hE.get 14 rfl) (fa_sc_0 _)) fun a hE => ?_
 refine ev_sc (v := .int .u64 (16384000000000000000 : Nat)) hE (st_u64 _) (hE.get 15 rfl) (hE.get 13 rfl) hg (show 0 < 3 from by decide) ?_
 intro w1 hg ho1
 have hg : w1.heap[g]? = some (.cells #[.int .u64 (16384000000000000000 : Nat), .int .u64 0, .int .i64 0] 179 (0, 0)) := hg
 have hP := hT w1 ho1
 refine nx3 ?_
 refine ev_r (w' := w1) hE (ex_mv (hE.get 0 rfl)) fun a hE => ?_
 refine ev_r (w' := w1) hE (ex_mv (hE.get 2 rfl)) fun a hE => ?_
 refine ev_r (v := .int .i64 363) (w' := w1) hE (ei_sub (hE.get 17 rfl) rfl (by decide)) fun a hE => ?_
 refine ev_r (v := pt 7 726) (w' := w1) hE (by simp only [execOp, hE.get 18 rfl]; go_simp) fun a hE => ?_
 refine ev_fa hE (hE.get 19 rfl) fa_pm15_1 (by decide) ?_
 intro a hE
 refine ev_ld hE (hE.get 20 rfl) ld_u64 hP.l15 (by decide) ?_
 intro a hE
 refine ev_nc hE (hE.get 16 rfl) (by decide) ?_
 intro a hE
 refine ev_r (w' := w1) hE (ex_fa (hE.get 22 rfl) (fa_sc_1 _)) fun a hE => ?_
 refine ev_sc (v := .int .u64 (0 : Nat)) hE (st_u64 _) (hE.get 23 rfl) (hE.get 21 rfl) hg (show 1 < 3 from by decide) ?_
 intro w2 hg ho2
 have hg : w2.heap[g]? = some (.cells #[.int .u64 (16384000000000000000 : Nat), .int .u64 (0 : Nat), .int .i64 0] 179 (0, 0)) := hg
 refine nx1 ?_
 refine wp_region_lit ?_
 refine ev_r (w' := w2) hE (ex_mv (hE.get 0 rfl)) fun a hE => ?_
 refine ev_r (w' := w2) hE (ex_mv (hE.get 1 rfl)) fun a hE => ?_
 refine ev_r (w' := w2) hE (ex_mv (hE.get 3 rfl)) fun a hE => ?_
 refine ev_r (v := .int .i64 (e + lp)) (w' := w2) hE (ei_add (hE.get 25 rfl) (hE.get 26 rfl) (by rw [IntKind.wrap_i64]; omega)) fun a hE => ?_
 refine ev_r (v := .int .i64 (e + lp + 3)) (w' := w2) hE (ei_add (hE.get 27 rfl) rfl (by rw [IntKind.wrap_i64]; omega)) fun a hE => ?_
 refine ev_r (v := .int .i64 (-(e + lp + 3))) (w' := w2) hE (ei_neg (hE.get 28 rfl) (by rw [IntKind.wrap_i64]; omega)) fun a hE => ?_
 refine ev_nc hE (hE.get 24 rfl) (by decide) ?_
 intro a hE
 refine ev_r (w' := w2) hE (ex_fa (hE.get 30 rfl) (fa_sc_2 _)) fun a hE => ?_
 refine ev_sc (v := .int .i64 (-(e + lp + 3))) hE (st_int _) (hE.get 31 rfl) (hE.get 29 rfl) hg (show 2 < 3 from by decide) ?_
 intro w3 hg ho3
 refine wpList_nil ?_
 exact end_ev hE rfl ⟨rfl, hg, ((ho1.trans ho2).trans ho3).mono fun x _ h => by rcases h with (h | h) | h <;> exact h⟩
theorem prescale16 (g : Nat) (e lp : Int) (he : -100 ≤ e ∧ e ≤ 100) (hlp : 0 ≤ lp ∧ lp ≤ 100) (w : World) (hT : ∀ w', Only (fun x => x = g) w w' → PmTab2 w') (hg : w.heap[g]? = some (.cells #[.int .u64 0, .int .u64 0, .int .i64 0] 179 (0, 0))) :
  Calls Tryz.prog 105 #[pt g 0, .int .i64 e, .int .i64 16, .int .i64 lp] w fun x w' => x = .returned (.tuple #[]) ∧ w'.heap[g]? = some (.cells #[.int .u64 (10240000000000000000 : Nat), .int .u64 (0 : Nat), .int .i64 (-(e + lp + 3))] 179 (0, 0)) ∧ Only (fun x => x = g) w w' := by
 have hP := hT w (Only.refl _ _)
 refine calls_of_ev Tryz.func105 rfl (show 4 ≤ 32 from by decide) ?_
 intro a hE
 have hE : Ev 32 ((0, pt g 0) :: (1, .int .i64 e) :: (2, .int .i64 16) :: (3, .int .i64 lp) :: []) a := hE
 refine wp_seq ?_
 refine wp_region_lit ?_
 refine ev_r (w' := w) hE (ex_mv (hE.get 0 rfl)) fun a hE => ?_
 refine ev_r (w' := w) hE (ex_mv (hE.get 2 rfl)) fun a hE => ?_
 refine ev_r (v := .int .i64 364) (w' := w) hE (ei_sub (hE.get 9 rfl) rfl (by decide)) fun a hE => ?_
 refine ev_r (v := pt 7 728) (w' := w) hE (by simp only [execOp, hE.get 10 rfl]; go_simp) fun a hE => ?_
 refine ev_fa hE (hE.get 11 rfl) fa_pm16_0 (by decide) ?_
 intro a hE
 refine ev_ld hE (hE.get 12 rfl) ld_u64 hP.h16 (by decide) ?_
 intro a hE
 refine ev_nc hE (hE.get 8 rfl) (by decide) ?_
 intro a hE
 refine ev_r (w' := w) hE (ex_fa (hE.get 14 rfl) (fa_sc_0 _)) fun a hE => ?_
 refine ev_sc (v := .int .u64 (10240000000000000000 : Nat)) hE (st_u64 _) (hE.get 15 rfl) (hE.get 13 rfl) hg (show 0 < 3 from by decide) ?_
 intro w1 hg ho1
 have hg : w1.heap[g]? = some (.cells #[.int .u64 (10240000000000000000 : Nat), .int .u64 0, .int .i64 0] 179 (0, 0)) := hg
 have hP := hT w1 ho1
 refine nx3 ?_
 refine ev_r (w' := w1) hE (ex_mv (hE.get 0 rfl)) fun a hE => ?_
 refine ev_r (w' := w1) hE (ex_mv (hE.get 2 rfl)) fun a hE => ?_
 refine ev_r (v := .int .i64 364) (w' := w1) hE (ei_sub (hE.get 17 rfl) rfl (by decide)) fun a hE => ?_
 refine ev_r (v := pt 7 728) (w' := w1) hE (by simp only [execOp, hE.get 18 rfl]; go_simp) fun a hE => ?_
 refine ev_fa hE (hE.get 19 rfl) fa_pm16_1 (by decide) ?_
 intro a hE
 refine ev_ld hE (hE.get 20 rfl) ld_u64 hP.l16 (by decide) ?_
 intro a hE
 refine ev_nc hE (hE.get 16 rfl) (by decide) ?_
 intro a hE
 refine ev_r (w' := w1) hE (ex_fa (hE.get 22 rfl) (fa_sc_1 _)) fun a hE => ?_
 refine ev_sc (v := .int .u64 (0 : Nat)) hE (st_u64 _) (hE.get 23 rfl) (hE.get 21 rfl) hg (show 1 < 3 from by decide) ?_
 intro w2 hg ho2
 have hg : w2.heap[g]? = some (.cells #[.int .u64 (10240000000000000000 : Nat), .int .u64 (0 : Nat), .int .i64 0] 179 (0, 0)) := hg
 refine nx1 ?_
 refine wp_region_lit ?_
 refine ev_r (w' := w2) hE (ex_mv (hE.get 0 rfl)) fun a hE => ?_
 refine ev_r (w' := w2) hE (ex_mv (hE.get 1 rfl)) fun a hE => ?_
 refine ev_r (w' := w2) hE (ex_mv (hE.get 3 rfl)) fun a hE => ?_
 refine ev_r (v := .int .i64 (e + lp)) (w' := w2) hE (ei_add (hE.get 25 rfl) (hE.get 26 rfl) (by rw [IntKind.wrap_i64]; omega)) fun a hE => ?_
 refine ev_r (v := .int .i64 (e + lp + 3)) (w' := w2) hE (ei_add (hE.get 27 rfl) rfl (by rw [IntKind.wrap_i64]; omega)) fun a hE => ?_
 refine ev_r (v := .int .i64 (-(e + lp + 3))) (w' := w2) hE (ei_neg (hE.get 28 rfl) (by rw [IntKind.wrap_i64]; omega)) fun a hE => ?_
 refine ev_nc hE (hE.get 24 rfl) (by decide) ?_
 intro a hE
 refine ev_r (w' := w2) hE (ex_fa (hE.get 30 rfl) (fa_sc_2 _)) fun a hE => ?_
 refine ev_sc (v := .int .i64 (-(e + lp + 3))) hE (st_int _) (hE.get 31 rfl) (hE.get 29 rfl) hg (show 2 < 3 from by decide) ?_
 intro w3 hg ho3
 refine wpList_nil ?_
 exact end_ev hE rfl ⟨rfl, hg, ((ho1.trans ho2).trans ho3).mono fun x _ h => by rcases h with (h | h) | h <;> exact h⟩
theorem prescale17 (g : Nat) (e lp : Int) (he : -100 ≤ e ∧ e ≤ 100) (hlp : 0 ≤ lp ∧ lp ≤ 100) (w : World) (hT : ∀ w', Only (fun x => x = g) w w' → PmTab2 w') (hg : w.heap[g]? = some (.cells #[.int .u64 0, .int .u64 0, .int .i64 0] 179 (0, 0))) :
  Calls Tryz.prog 105 #[pt g 0, .int .i64 e, .int .i64 17, .int .i64 lp] w fun x w' => x = .returned (.tuple #[]) ∧ w'.heap[g]? = some (.cells #[.int .u64 (12800000000000000000 : Nat), .int .u64 (0 : Nat), .int .i64 (-(e + lp + 3))] 179 (0, 0)) ∧ Only (fun x => x = g) w w' := by
 have hP := hT w (Only.refl _ _)
 refine calls_of_ev Tryz.func105 rfl (show 4 ≤ 32 from by decide) ?_
 intro a hE
 have hE : Ev 32 ((0, pt g 0) :: (1, .int .i64 e) :: (2, .int .i64 17) :: (3, .int .i64 lp) :: []) a := hE
 refine wp_seq ?_
 refine wp_region_lit ?_
 refine ev_r (w' := w) hE (ex_mv (hE.get 0 rfl)) fun a hE => ?_
 refine ev_r (w' := w) hE (ex_mv (hE.get 2 rfl)) fun a hE => ?_
 refine ev_r (v := .int .i64 365) (w' := w) hE (ei_sub (hE.get 9 rfl) rfl (by decide)) fun a hE => ?_
 refine ev_r (v := pt 7 730) (w' := w) hE (by simp only [execOp, hE.get 10 rfl]; go_simp) fun a hE => ?_
 refine ev_fa hE (hE.get 11 rfl) fa_pm17_0 (by decide) ?_
 intro a hE
 refine ev_ld hE (hE.get 12 rfl) ld_u64 hP.h17 (by decide) ?_
 intro a hE
 refine ev_nc hE (hE.get 8 rfl) (by decide) ?_
 intro a hE
 refine ev_r (w' := w) hE (ex_fa (hE.get 14 rfl) (fa_sc_0 _)) fun a hE => ?_
 refine ev_sc (v := .int .u64 (12800000000000000000 : Nat)) hE (st_u64 _) (hE.get 15 rfl) (hE.get 13 rfl) hg (show 0 < 3 from by decide) ?_
 intro w1 hg ho1
 have hg : w1.heap[g]? = some (.cells #[.int .u64 (12800000000000000000 : Nat), .int .u64 0, .int .i64 0] 179 (0, 0)) := hg
 have hP := hT w1 ho1
 refine nx3 ?_
 refine ev_r (w' := w1) hE (ex_mv (hE.get 0 rfl)) fun a hE => ?_
 refine ev_r (w' := w1) hE (ex_mv (hE.get 2 rfl)) fun a hE => ?_
 refine ev_r (v := .int .i64 365) (w' := w1) hE (ei_sub (hE.get 17 rfl) rfl (by decide)) fun a hE => ?_
 refine ev_r (v := pt 7 730) (w' := w1) hE (by simp only [execOp, hE.get 18 rfl]; go_simp) fun a hE => ?_
 refine ev_fa hE (hE.get 19 rfl) fa_pm17_1 (by decide) ?_
 intro a hE
 refine ev_ld hE (hE.get 20 rfl) ld_u64 hP.l17 (by decide) ?_
 intro a hE
 refine ev_nc hE (hE.get 16 rfl) (by decide) ?_
 intro a hE
 refine ev_r (w' := w1) hE (ex_fa (hE.get 22 rfl) (fa_sc_1 _)) fun a hE => ?_
 refine ev_sc (v := .int .u64 (0 : Nat)) hE (st_u64 _) (hE.get 23 rfl) (hE.get 21 rfl) hg (show 1 < 3 from by decide) ?_
 intro w2 hg ho2
 have hg : w2.heap[g]? = some (.cells #[.int .u64 (12800000000000000000 : Nat), .int .u64 (0 : Nat), .int .i64 0] 179 (0, 0)) := hg
 refine nx1 ?_
 refine wp_region_lit ?_
 refine ev_r (w' := w2) hE (ex_mv (hE.get 0 rfl)) fun a hE => ?_
 refine ev_r (w' := w2) hE (ex_mv (hE.get 1 rfl)) fun a hE => ?_
 refine ev_r (w' := w2) hE (ex_mv (hE.get 3 rfl)) fun a hE => ?_
 refine ev_r (v := .int .i64 (e + lp)) (w' := w2) hE (ei_add (hE.get 25 rfl) (hE.get 26 rfl) (by rw [IntKind.wrap_i64]; omega)) fun a hE => ?_
 refine ev_r (v := .int .i64 (e + lp + 3)) (w' := w2) hE (ei_add (hE.get 27 rfl) rfl (by rw [IntKind.wrap_i64]; omega)) fun a hE => ?_
 refine ev_r (v := .int .i64 (-(e + lp + 3))) (w' := w2) hE (ei_neg (hE.get 28 rfl) (by rw [IntKind.wrap_i64]; omega)) fun a hE => ?_
 refine ev_nc hE (hE.get 24 rfl) (by decide) ?_
 intro a hE
 refine ev_r (w' := w2) hE (ex_fa (hE.get 30 rfl) (fa_sc_2 _)) fun a hE => ?_
 refine ev_sc (v := .int .i64 (-(e + lp + 3))) hE (st_int _) (hE.get 31 rfl) (hE.get 29 rfl) hg (show 2 < 3 from by decide) ?_
 intro w3 hg ho3
 refine wpList_nil ?_
 exact end_ev hE rfl ⟨rfl, hg, ((ho1.trans ho2).trans ho3).mono fun x _ h => by rcases h with (h | h) | h <;> exact h⟩
/-- The exponents of ten: floor and skewed floor. -/
theorem l10m (x : Int) (hx : -60 ≤ x ∧ x ≤ 60) (w : World) : Calls Tryz.prog 79 #[.int .i64 x] w fun e w' => e = .returned (.int .i64 (x * 78913 / 262144)) ∧ w' = w := by
 refine calls_of_ev Tryz.func79 rfl (show 1 ≤ 6 from by decide) ?_
 intro a hE
 have hE : Ev 6 ((0, .int .i64 x) :: []) a := hE
 refine wp_seq ?_
 refine wp_region_lit ?_
 refine ev_ac hE (by decide) ?_
 intro a hE
 refine nx3 ?_
 refine ev_r (w' := w) hE (ex_mv (hE.get 0 rfl)) fun a hE => ?_
 refine ev_r (v := .int .i64 (x * 78913)) (w' := w) hE (ei_mul (hE.get 3 rfl) rfl (by rw [IntKind.wrap_i64]; omega)) fun a hE => ?_
 refine ev_r (v := .int .i64 (x * 78913 / 262144)) (w' := w) hE (ei_shr (hE.get 4 rfl) rfl (by omega) (by simp only [IntKind.bits]; omega) (by rfl)) fun a hE => ?_
 refine ev_r (w' := w) hE (ex_as (hE.get 5 rfl)) fun a hE => ?_
 refine nx1 ?_
 refine wp_ret ?_
 exact ret_of_ev hE rfl (hE.get 2 rfl) ⟨rfl, rfl⟩
theorem l2m (x : Int) (hx : -60 ≤ x ∧ x ≤ 60) (w : World) : Calls Tryz.prog 106 #[.int .i64 x] w fun e w' => e = .returned (.int .i64 (x * 108853 / 32768)) ∧ w' = w := by
 refine calls_of_ev Tryz.func106 rfl (show 1 ≤ 6 from by decide) ?_
 intro a hE
 have hE : Ev 6 ((0, .int .i64 x) :: []) a := hE
 refine wp_seq ?_
 refine wp_region_lit ?_
 refine ev_ac hE (by decide) ?_
 intro a hE
 refine nx3 ?_
 refine ev_r (w' := w) hE (ex_mv (hE.get 0 rfl)) fun a hE => ?_
 refine ev_r (v := .int .i64 (x * 108853)) (w' := w) hE (ei_mul (hE.get 3 rfl) rfl (by rw [IntKind.wrap_i64]; omega)) fun a hE => ?_
 refine ev_r (v := .int .i64 (x * 108853 / 32768)) (w' := w) hE (ei_shr (hE.get 4 rfl) rfl (by omega) (by simp only [IntKind.bits]; omega) (by rfl)) fun a hE => ?_
 refine ev_r (w' := w) hE (ex_as (hE.get 5 rfl)) fun a hE => ?_
 refine nx1 ?_
 refine wp_ret ?_
 exact ret_of_ev hE rfl (hE.get 2 rfl) ⟨rfl, rfl⟩
theorem skewed_any (x : Int) (hx : -60 ≤ x ∧ x ≤ 60) (w : World) : Calls Tryz.prog 104 #[.int .i64 x] w fun e w' => e = .returned (.int .i64 ((x * 631305 - 261663) / 2097152)) ∧ w' = w := by
 refine calls_of_ev Tryz.func104 rfl (show 1 ≤ 7 from by decide) ?_
 intro a hE
 have hE : Ev 7 ((0, .int .i64 x) :: []) a := hE
 refine wp_seq ?_
 refine wp_region_lit ?_
 refine ev_ac hE (by decide) ?_
 intro a hE
 refine nx3 ?_
 refine ev_r (w' := w) hE (ex_mv (hE.get 0 rfl)) fun a hE => ?_
 refine ev_r (v := .int .i64 (x * 631305)) (w' := w) hE (ei_mul (hE.get 3 rfl) rfl (by rw [IntKind.wrap_i64]; omega)) fun a hE => ?_
 refine ev_r (v := .int .i64 (x * 631305 - 261663)) (w' := w) hE (ei_sub (hE.get 4 rfl) rfl (by rw [IntKind.wrap_i64]; omega)) fun a hE => ?_
 refine ev_r (v := .int .i64 ((x * 631305 - 261663) / 2097152)) (w' := w) hE (ei_shr (hE.get 5 rfl) rfl (by omega) (by simp only [IntKind.bits]; omega) (by rfl)) fun a hE => ?_
 refine ev_r (w' := w) hE (ex_as (hE.get 6 rfl)) fun a hE => ?_
 refine nx1 ?_
 refine wp_ret ?_
 exact ret_of_ev hE rfl (hE.get 2 rfl) ⟨rfl, rfl⟩
theorem nudge_any (u v : Nat) (k : Int) (hu : u < 4611686018427387904) (hk : -1 ≤ k ∧ k ≤ 1) (hv : (u : Int) + k = v) (w : World) : Calls Tryz.prog 108 #[.int .u64 u, .int .i64 k] w fun e w' => e = .returned (.int .u64 v) ∧ w' = w := by
 refine calls_of_ev Tryz.func108 rfl (show 2 ≤ 9 from by decide) ?_
 intro a hE
 have hE : Ev 9 ((0, .int .u64 u) :: (1, .int .i64 k) :: []) a := hE
 refine wp_seq ?_
 refine wp_region_lit ?_
 refine ev_ac hE (by decide) ?_
 intro a hE
 refine nx3 ?_
 refine ev_r (w' := w) hE (ex_mv (hE.get 0 rfl)) fun a hE => ?_
 refine ev_r (w' := w) hE (ex_mv (hE.get 1 rfl)) fun a hE => ?_
 refine ev_r (v := .int .u64 (IntKind.u64.wrap k)) (w' := w) hE (ex_cv (hE.get 6 rfl) (by intro w; go_simp)) fun a hE => ?_
 refine ev_r (v := .int .u64 v) (w' := w) hE (ei_add (hE.get 5 rfl) (hE.get 7 rfl) (by rw [IntKind.wrap_u64, IntKind.wrap_u64]; omega)) fun a hE => ?_
 refine ev_r (w' := w) hE (ex_as (hE.get 8 rfl)) fun a hE => ?_
 refine nx1 ?_
 refine wp_ret ?_
 exact ret_of_ev hE rfl (hE.get 4 rfl) ⟨rfl, rfl⟩
theorem uceil_any (u : Nat) (hu : u < 4611686018427387904) (w : World) : Calls Tryz.prog 109 #[.int .u64 u] w fun e w' => e = .returned (.int .u64 ((u + 3) / 4 : Nat)) ∧ w' = w := by
 refine calls_of_ev Tryz.func109 rfl (show 1 ≤ 6 from by decide) ?_
 intro a hE
 have hE : Ev 6 ((0, .int .u64 u) :: []) a := hE
 refine wp_seq ?_
 refine wp_region_lit ?_
 refine ev_ac hE (by decide) ?_
 intro a hE
 refine nx3 ?_
 refine ev_r (w' := w) hE (ex_mv (hE.get 0 rfl)) fun a hE => ?_
 refine ev_r (v := .int .u64 ((u + 3 : Nat) : Int)) (w' := w) hE (ei_add (hE.get 3 rfl) rfl (by rw [IntKind.wrap_u64]; omega)) fun a hE => ?_
 refine ev_r (v := .int .u64 (((u + 3) / 4 : Nat) : Int)) (w' := w) hE (ei_shr (hE.get 4 rfl) rfl (by omega) (by simp only [IntKind.bits]; omega) (by show (((u + 3 : Nat) : Int)) / 4 = _; omega)) fun a hE => ?_
 refine ev_r (w' := w) hE (ex_as (hE.get 5 rfl)) fun a hE => ?_
 refine nx1 ?_
 refine wp_ret ?_
 exact ret_of_ev hE rfl (hE.get 2 rfl) ⟨rfl, rfl⟩
theorem ufloor_any (u : Nat) (hu : u < 4611686018427387904) (w : World) : Calls Tryz.prog 110 #[.int .u64 u] w fun e w' => e = .returned (.int .u64 (u / 4 : Nat)) ∧ w' = w := by
 refine calls_of_ev Tryz.func110 rfl (show 1 ≤ 6 from by decide) ?_
 intro a hE
 have hE : Ev 6 ((0, .int .u64 u) :: []) a := hE
 refine wp_seq ?_
 refine wp_region_lit ?_
 refine ev_ac hE (by decide) ?_
 intro a hE
 refine nx3 ?_
 refine ev_r (w' := w) hE (ex_mv (hE.get 0 rfl)) fun a hE => ?_
 refine ev_r (v := .int .u64 ((u : Nat) : Int)) (w' := w) hE (ei_add (hE.get 3 rfl) rfl (by rw [IntKind.wrap_u64]; omega)) fun a hE => ?_
 refine ev_r (v := .int .u64 ((u / 4 : Nat) : Int)) (w' := w) hE (ei_shr (hE.get 4 rfl) rfl (by omega) (by simp only [IntKind.bits]; omega) (by show (((u : Nat) : Int)) / 4 = _; omega)) fun a hE => ?_
 refine ev_r (w' := w) hE (ex_as (hE.get 5 rfl)) fun a hE => ?_
 refine nx1 ?_
 refine wp_ret ?_
 exact ret_of_ev hE rfl (hE.get 2 rfl) ⟨rfl, rfl⟩
end Go.Proofs.YtfonjeoiallhhaaGreatDoor
/- strconv.shortFloat[float64]. Printed by wip/tools/gen_fsf.py. -/
set_option maxRecDepth 100000
set_option maxHeartbeats 4000000
namespace Go.Proofs.YtfonjeoiallhhaaGreatDoor
open Go.RowKit
def hiP (p : Int) : Nat := if p = 15 then 16384000000000000000 else if p = 16 then 10240000000000000000 else 12800000000000000000
theorem hiP_lt (p : Int) : hiP p < 18446744073709551616 := by unfold hiP; split; (· decide); split <;> decide
theorem cvN {n : Int} (h : IntKind.i64.wrap n = n) : Cv 25 3 (.int .u64 n) (.int .i64 n) := by intro w; go_simp
theorem prescaleP (p : Int) (h : p = 15 ∨ p = 16 ∨ p = 17) (g : Nat) (e lp : Int) (he : -100 ≤ e ∧ e ≤ 100) (hlp : 0 ≤ lp ∧ lp ≤ 100) (w : World) (hT : ∀ w', Only (fun x => x = g) w w' → PmTab2 w') (hg : w.heap[g]? = some (.cells #[.int .u64 0, .int .u64 0, .int .i64 0] 179 (0, 0))) :
  Calls Tryz.prog 105 #[pt g 0, .int .i64 e, .int .i64 p, .int .i64 lp] w fun x w' => x = .returned (.tuple #[]) ∧ w'.heap[g]? = some (.cells #[.int .u64 (hiP p : Nat), .int .u64 (0 : Nat), .int .i64 (-(e + lp + 3))] 179 (0, 0)) ∧ Only (fun x => x = g) w w' := by
 rcases h with rfl | rfl | rfl
 ·exact prescale15 g e lp he hlp w hT hg
 ·exact prescale16 g e lp he hlp w hT hg
 ·exact prescale17 g e lp he hlp w hT hg
theorem shortFloat_any (m : Nat) (e p : Int) (pw : Bool) (sh a b umin umax d : Nat) (hm0 : 4096 ≤ m) (hm1 : m < 18446744073709500000) (hod : bits BinOp.and IntKind.i64 ((m / 2048 : Nat) : Int) 1 = 0) (hpw : pw = decide (m = 9223372036854775808)) (he : -70 ≤ e ∧ e ≤ -50) (hp : p = 15 ∨ p = 16 ∨ p = 17) (hpe : (if pw = true then -(((e + 11) * 631305 - 261663) / 2097152) else -((e + 11) * 78913 / 262144)) = p)
  (hsh : -(e + p * 108853 / 32768 + 3) = (sh : Int)) (hs : sh < 64) (ha : a + (if pw = true then 512 else 1024) = m) (hb : b = m + 1024) (hu1 : umin = us a (hiP p) sh) (hu2 : umax = us b (hiP p) sh) (hz1 : umin < 4611686018427387000) (hz2 : umax < 4611686018427387000) (hd : d = umax / 4 / 10) (hge : (umin + 3) / 4 ≤ d * 10)
  (w : World) (hT : ∀ w', Below w.heap.size w w' → PmTab2 w') :
  Calls Tryz.prog 95 #[.int .u64 m, .int .i64 e] w fun x w' => x = .returned (.tuple #[.int .u64 d, .int .i64 (-(p - 1))]) ∧ Below w.heap.size w w' := by
 have hmw : IntKind.i64.wrap ((m / 2048 : Nat) : Int) = ((m / 2048 : Nat) : Int) := by rw [IntKind.wrap_i64]; omega
 have hlp : 0 ≤ p * 108853 / 32768 ∧ p * 108853 / 32768 ≤ 100 := by rcases hp with rfl | rfl | rfl <;> decide
 have hpb : 15 ≤ p ∧ p ≤ 17 := by omega
 have hq10 : IntKind.u64.wrap (Int.tdiv ((umax / 4 : Nat) : Int) 10) = ((d : Nat) : Int) := by rw [Int.tdiv_eq_ediv_of_nonneg (by omega), IntKind.wrap_u64]; omega
 refine calls_of_ev Tryz.func95 rfl (show 2 ≤ 133 from by decide) ?_
 intro ac hE
 have hE : Ev 133 ((0, .int .u64 m) :: (1, .int .i64 e) :: []) ac := hE
 refine wp_seq ?_
 refine wp_region_lit ?_
 refine ev_ac hE (by decide) ?_
 intro ac hE
 refine ev_ac hE (by decide) ?_
 intro ac hE
 refine wpList_nil ?_
 show Code.wp _ _ _ _ _
 refine wp_seq ?_
 refine wp_region_lit ?_
 refine ev_ac hE (by decide) ?_
 intro ac hE
 refine ev_ac hE (by decide) ?_
 intro ac hE
 refine wpList_nil ?_
 show Code.wp _ _ _ _ _
 refine wp_seq ?_
 refine wp_seq ?_
 refine wp_region_lit ?_
 refine ev_r (v := .int .u64 64) (w' := w) hE (ei_mul rfl rfl (by decide)) fun ac hE => ?_
 refine wpList_nil ?_
 show Code.wp _ _ _ _ _
 refine wp_block ?_
 refine wp_seq ?_
 refine wp_region_lit ?_
 refine ev_r (v := .bool false) (w' := w) hE (by simp only [execOp, hE.get 15 rfl]; go_simp) fun ac hE => ?_
 refine ev_r (w' := w) hE (ex_as (hE.get 17 rfl)) fun ac hE => ?_
 refine wpList_nil ?_
 show Code.wp _ _ _ _ _
 refine wp_cond_split (hE.get 16 rfl) (fun h => by cases h) (fun _ => ?_)
 refine wp_seq ?_
 refine wp_region_lit ?_
 refine ev_r (v := .bool true) (w' := w) hE (by simp only [execOp, hE.get 15 rfl]; go_simp) fun ac hE => ?_
 refine ev_r (w' := w) hE (ex_as (hE.get 19 rfl)) fun ac hE => ?_
 refine wpList_nil ?_
 show Code.wp _ _ _ _ _
 refine wp_cond_split (hE.get 18 rfl) (fun _ => ?_) (fun h => by cases h)
 refine wp_seq ?_
 refine wp_region_lit ?_
 refine ev_ac hE (by decide) ?_
 intro ac hE
 refine wpList_nil ?_
 show Code.wp _ _ _ _ _
 refine wp_region_lit ?_
 refine ev_ac hE (by decide) ?_
 intro ac hE
 refine wpList_nil ?_
 show Code.wp _ _ _ _ _
 refine wp_seq ?_
 refine wp_region_lit ?_
 refine ev_ac hE (by decide) ?_
 intro ac hE
 refine ev_ac hE (by decide) ?_
 intro ac hE
 refine wpList_nil ?_
 show Code.wp _ _ _ _ _
 refine wp_seq ?_
 refine wp_region_lit ?_
 refine ev_ac hE (by decide) ?_
 intro ac hE
 refine wpList_nil ?_
 show Code.wp _ _ _ _ _
 refine wp_seq ?_
 refine wp_region_lit ?_
 refine ev_r (w' := w) hE (ex_mv (hE.get 6 rfl)) fun ac hE => ?_
 refine ev_r (v := .int .i64 11) (w' := w) hE (ei_sub rfl (hE.get 20 rfl) (by decide)) fun ac hE => ?_
 refine ev_r (w' := w) hE (ex_as (hE.get 21 rfl)) fun ac hE => ?_
 refine wpList_nil ?_
 show Code.wp _ _ _ _ _
 refine wp_seq ?_
 refine wp_seq ?_
 refine wp_region_lit ?_
 cases pw
 ·simp only [Bool.false_eq_true, if_false, if_true] at ha hpe
  refine ev_r (w' := w) hE (ex_mv (hE.get 0 rfl)) fun ac hE => ?_
  refine ev_r (v := .bool false) (w' := w) hE (ei_eql (hE.get 22 rfl) rfl (by rw [hpw, decide_eq_decide]; omega)) fun ac hE => ?_
  refine ev_r (w' := w) hE (ex_mv (hE.get 23 rfl)) fun ac hE => ?_
  refine ev_goff hE rfl rfl (hE.get 24 rfl) rfl rfl (by decide) ?_
  intro ac hE
  refine ev_goff hE rfl rfl (hE.get 24 rfl) rfl rfl (by decide) ?_
  intro ac hE
  refine ev_goff hE rfl rfl (hE.get 24 rfl) rfl rfl (by decide) ?_
  intro ac hE
  refine ev_r (v := .bool false) (w' := w) hE (by rw [ex_pick (b := false) (hE.get 24 rfl)]; have e1 := hE.get 27 rfl; simp only [e1]; rfl) fun ac hE => ?_
  refine wpList_nil ?_
  show Code.wp _ _ _ _ _
  refine wp_cond_split (hE.get 28 rfl) (fun h => by cases h) (fun _ => ?_)
  refine wp_seq ?_
  refine wp_region_lit ?_
  refine ev_r (w' := w) hE (ex_mv (hE.get 1 rfl)) fun ac hE => ?_
  refine ev_r (w' := w) hE (ex_mv (hE.get 7 rfl)) fun ac hE => ?_
  refine ev_r (v := .bool true) (w' := w) hE (ei_geq (hE.get 49 rfl) (hE.get 50 rfl) (decide_eq_true (by omega))) fun ac hE => ?_
  refine wpList_nil ?_
  show Code.wp _ _ _ _ _
  refine wp_cond_split (hE.get 51 rfl) (fun _ => ?_) (fun h => by cases h)
  refine wp_seq ?_
  refine wp_region_lit ?_
  refine ev_r (w' := w) hE (ex_mv (hE.get 1 rfl)) fun ac hE => ?_
  refine ev_r (w' := w) hE (ex_mv (hE.get 11 rfl)) fun ac hE => ?_
  refine ev_r (v := .int .i64 (e + 11)) (w' := w) hE (ei_add (hE.get 52 rfl) (hE.get 53 rfl) (by rw [IntKind.wrap_i64]; omega)) fun ac hE => ?_
  refine ev_call (S := fun u w' => u = .int .i64 ((e + 11) * 78913 / 262144) ∧ w = w') hE rfl rfl (by decide) (f := 79) (args := #[.int .i64 (e + 11)]) (by simp only [execOp, resolve, List.map_toArray, List.map_cons, List.map_nil, hE.get 54 rfl]; go_simp) (Calls.mono (l10m (e + 11) (by omega) w) (by rintro e w' ⟨rfl, h⟩; exact ⟨_, rfl, rfl, h.symm⟩)) ?_
  rintro ac u wx ⟨rfl, rfl⟩ hE
  refine ev_r (v := .int .i64 p) (w' := w) hE (ei_neg (hE.get 55 rfl) (by rw [IntKind.wrap_i64]; omega)) fun ac hE => ?_
  refine ev_r (w' := w) hE (ex_as (hE.get 56 rfl)) fun ac hE => ?_
  refine wpList_nil ?_
  show Code.wp _ _ _ _ _
  refine wp_seq ?_
  refine wp_region_lit ?_
  refine ev_r (w' := w) hE (ex_mv (hE.get 0 rfl)) fun ac hE => ?_
  refine ev_r (w' := w) hE (ex_mv (hE.get 11 rfl)) fun ac hE => ?_
  refine ev_r (v := .int .i64 10) (w' := w) hE (ei_sub (hE.get 58 rfl) rfl (by decide)) fun ac hE => ?_
  refine ev_r (v := .int .u64 1024) (w' := w) hE (ei_shl rfl (hE.get 59 rfl) (by omega) (by simp only [IntKind.bits]; omega) (by decide)) fun ac hE => ?_
  refine ev_r (v := .int .u64 ((a : Nat) : Int)) (w' := w) hE (ei_sub (hE.get 57 rfl) (hE.get 60 rfl) (by rw [IntKind.wrap_u64]; omega)) fun ac hE => ?_
  refine ev_r (w' := w) hE (ex_as (hE.get 61 rfl)) fun ac hE => ?_
  refine wpList_nil ?_
  show Code.wp _ _ _ _ _
  refine wp_seq ?_
  refine wp_region_lit ?_
  refine ev_r (w' := w) hE (ex_mv (hE.get 0 rfl)) fun ac hE => ?_
  refine ev_r (w' := w) hE (ex_mv (hE.get 11 rfl)) fun ac hE => ?_
  refine ev_r (v := .int .i64 10) (w' := w) hE (ei_sub (hE.get 63 rfl) rfl (by decide)) fun ac hE => ?_
  refine ev_r (v := .int .u64 1024) (w' := w) hE (ei_shl rfl (hE.get 64 rfl) (by omega) (by simp only [IntKind.bits]; omega) (by decide)) fun ac hE => ?_
  refine ev_r (v := .int .u64 ((b : Nat) : Int)) (w' := w) hE (ei_add (hE.get 62 rfl) (hE.get 65 rfl) (by rw [IntKind.wrap_u64]; omega)) fun ac hE => ?_
  refine ev_r (w' := w) hE (ex_as (hE.get 66 rfl)) fun ac hE => ?_
  refine wpList_nil ?_
  show Code.wp _ _ _ _ _
  refine wp_region_lit ?_
  refine ev_r (w' := w) hE (ex_mv (hE.get 0 rfl)) fun ac hE => ?_
  refine ev_r (w' := w) hE (ex_mv (hE.get 11 rfl)) fun ac hE => ?_
  refine ev_r (v := .int .u64 ((m / 2048 : Nat) : Int)) (w' := w) hE (ei_shr (hE.get 67 rfl) (hE.get 68 rfl) (by omega) (by simp only [IntKind.bits]; omega) (by show (m : Int) / 2048 = _; omega)) fun ac hE => ?_
  refine ev_r (v := .int .i64 ((m / 2048 : Nat) : Int)) (w' := w) hE (ex_cv (hE.get 69 rfl) (cvN hmw)) fun ac hE => ?_
  refine ev_r (v := .int .i64 0) (w' := w) hE (ei_and (hE.get 70 rfl) rfl hod) fun ac hE => ?_
  refine ev_r (w' := w) hE (ex_as (hE.get 71 rfl)) fun ac hE => ?_
  refine wpList_nil ?_
  show Code.wp _ _ _ _ _
  have hE : Ev 133 ((0, .int .u64 m) :: (1, .int .i64 e) :: (5, .int .i64 p) :: (8, .int .u64 ((a : Nat) : Int)) :: (9, .int .u64 ((b : Nat) : Int)) :: (10, .int .i64 0) :: []) ac := hE.pick rfl
  refine wp_seq ?_
  refine wp_region_lit ?_
  refine ev_al hE al_sc (by decide) ?_
  intro ac w1 hE hg hbl1 hsz1
  generalize hgg : w.heap.size = g at hE hg
  refine wpList_nil ?_
  show Code.wp _ _ _ _ _
  refine wp_seq ?_
  refine wp_region_lit ?_
  refine ev_r (w' := w1) hE (ex_mv (hE.get 1 rfl)) fun ac hE => ?_
  refine ev_r (w' := w1) hE (ex_mv (hE.get 5 rfl)) fun ac hE => ?_
  refine ev_r (w' := w1) hE (ex_mv (hE.get 5 rfl)) fun ac hE => ?_
  refine ev_call (S := fun u w' => u = .int .i64 (p * 108853 / 32768) ∧ w1 = w') hE rfl rfl (by decide) (f := 106) (args := #[.int .i64 p]) (by simp only [execOp, resolve, List.map_toArray, List.map_cons, List.map_nil, hE.get 99 rfl]; go_simp) (Calls.mono (l2m p (by omega) w1) (by rintro e w' ⟨rfl, h⟩; exact ⟨_, rfl, rfl, h.symm⟩)) ?_
  rintro ac u wx ⟨rfl, rfl⟩ hE
  refine ev_call (S := fun u w' => u = .tuple #[] ∧ w'.heap[g]? = some (.cells #[.int .u64 (hiP p : Nat), .int .u64 (0 : Nat), .int .i64 sh] 179 (0, 0)) ∧ Only (fun x => x = g) w1 w') hE rfl rfl (by decide) (f := 105) (args := #[pt g 0, .int .i64 e, .int .i64 p, .int .i64 (p * 108853 / 32768)]) (by simp only [execOp, resolve, List.map_toArray, List.map_cons, List.map_nil, hE.get 12 rfl, hE.get 97 rfl, hE.get 98 rfl, hE.get 100 rfl]; go_simp) (Calls.mono (prescaleP p hp g e (p * 108853 / 32768) (by omega) hlp w1 (fun w' ho => hT w' (hbl1.trans (only_bel ho (by rw [hgg]; omega) (by omega)))) hg) (by rintro x w' ⟨rfl, h1, h2⟩; rw [hsh] at h1; exact ⟨_, rfl, rfl, h1, h2⟩)) ?_
  rintro ac u w2 ⟨rfl, hg, ho2⟩ hE
  have hbl2 : Below w.heap.size w w2 := hbl1.trans (only_bel ho2 (by rw [hgg]; omega) (by omega))
  refine wpList_nil ?_
  show Code.wp _ _ _ _ _
  refine wp_seq ?_
  refine wp_region_lit ?_
  refine ev_r (w' := w2) hE (ex_mv (hE.get 8 rfl)) fun ac hE => ?_
  refine ev_call (S := fun u w' => u = .int .u64 (umin : Nat) ∧ ∃ n, w' = w2.drewN n) hE rfl rfl (by decide) (f := 107) (args := #[.int .u64 a, pt g 0]) (by simp only [execOp, resolve, List.map_toArray, List.map_cons, List.map_nil, hE.get 102 rfl, hE.get 12 rfl]; go_simp) (Calls.mono (uscale_gen a (hiP p) sh g (by omega) (hiP_lt p) hs w2 hg) (by rintro x w' ⟨rfl, h⟩; exact ⟨_, rfl, by rw [hu1], h⟩)) ?_
  rintro ac u _ ⟨rfl, n29, rfl⟩ hE
  have hg : (w2.drewN n29).heap[g]? = some (.cells #[.int .u64 (hiP p : Nat), .int .u64 (0 : Nat), .int .i64 sh] 179 (0, 0)) := hg
  have hbl2 : Below w.heap.size w (w2.drewN n29) := below_drewN hbl2 n29
  generalize w2.drewN n29 = w3 at *
  refine ev_r (w' := w3) hE (ex_mv (hE.get 10 rfl)) fun ac hE => ?_
  refine ev_call (S := fun u w' => u = .int .u64 umin ∧ w3 = w') hE rfl rfl (by decide) (f := 108) (args := #[.int .u64 umin, .int .i64 0]) (by simp only [execOp, resolve, List.map_toArray, List.map_cons, List.map_nil, hE.get 103 rfl, hE.get 104 rfl]; go_simp) (Calls.mono (nudge_any umin umin 0 (by omega) (by omega) (by omega) w3) (by rintro e w' ⟨rfl, h⟩; exact ⟨_, rfl, rfl, h.symm⟩)) ?_
  rintro ac u wx ⟨rfl, rfl⟩ hE
  refine ev_call (S := fun u w' => u = .int .u64 ((umin + 3) / 4 : Nat) ∧ w3 = w') hE rfl rfl (by decide) (f := 109) (args := #[.int .u64 umin]) (by simp only [execOp, resolve, List.map_toArray, List.map_cons, List.map_nil, hE.get 105 rfl]; go_simp) (Calls.mono (uceil_any umin (by omega) w3) (by rintro e w' ⟨rfl, h⟩; exact ⟨_, rfl, rfl, h.symm⟩)) ?_
  rintro ac u wx ⟨rfl, rfl⟩ hE
  refine ev_r (w' := w3) hE (ex_as (hE.get 106 rfl)) fun ac hE => ?_
  refine wpList_nil ?_
  show Code.wp _ _ _ _ _
  refine wp_seq ?_
  refine wp_region_lit ?_
  refine ev_r (w' := w3) hE (ex_mv (hE.get 9 rfl)) fun ac hE => ?_
  refine ev_call (S := fun u w' => u = .int .u64 (umax : Nat) ∧ ∃ n, w' = w3.drewN n) hE rfl rfl (by decide) (f := 107) (args := #[.int .u64 b, pt g 0]) (by simp only [execOp, resolve, List.map_toArray, List.map_cons, List.map_nil, hE.get 107 rfl, hE.get 12 rfl]; go_simp) (Calls.mono (uscale_gen b (hiP p) sh g (by omega) (hiP_lt p) hs w3 hg) (by rintro x w' ⟨rfl, h⟩; exact ⟨_, rfl, by rw [hu2], h⟩)) ?_
  rintro ac u _ ⟨rfl, n30, rfl⟩ hE
  have hg : (w3.drewN n30).heap[g]? = some (.cells #[.int .u64 (hiP p : Nat), .int .u64 (0 : Nat), .int .i64 sh] 179 (0, 0)) := hg
  have hbl2 : Below w.heap.size w (w3.drewN n30) := below_drewN hbl2 n30
  generalize w3.drewN n30 = w4 at *
  refine ev_r (w' := w4) hE (ex_mv (hE.get 10 rfl)) fun ac hE => ?_
  refine ev_r (v := .int .i64 0) (w' := w4) hE (ei_neg (hE.get 109 rfl) (by decide)) fun ac hE => ?_
  refine ev_call (S := fun u w' => u = .int .u64 umax ∧ w4 = w') hE rfl rfl (by decide) (f := 108) (args := #[.int .u64 umax, .int .i64 0]) (by simp only [execOp, resolve, List.map_toArray, List.map_cons, List.map_nil, hE.get 108 rfl, hE.get 110 rfl]; go_simp) (Calls.mono (nudge_any umax umax 0 (by omega) (by omega) (by omega) w4) (by rintro e w' ⟨rfl, h⟩; exact ⟨_, rfl, rfl, h.symm⟩)) ?_
  rintro ac u wx ⟨rfl, rfl⟩ hE
  refine ev_call (S := fun u w' => u = .int .u64 (umax / 4 : Nat) ∧ w4 = w') hE rfl rfl (by decide) (f := 110) (args := #[.int .u64 umax]) (by simp only [execOp, resolve, List.map_toArray, List.map_cons, List.map_nil, hE.get 111 rfl]; go_simp) (Calls.mono (ufloor_any umax (by omega) w4) (by rintro e w' ⟨rfl, h⟩; exact ⟨_, rfl, rfl, h.symm⟩)) ?_
  rintro ac u wx ⟨rfl, rfl⟩ hE
  refine ev_r (w' := w4) hE (ex_as (hE.get 112 rfl)) fun ac hE => ?_
  refine wpList_nil ?_
  show Code.wp _ _ _ _ _
  refine wp_seq ?_
  refine wp_seq ?_
  refine wp_region_lit ?_
  refine ev_r (w' := w4) hE (ex_mv (hE.get 14 rfl)) fun ac hE => ?_
  refine ev_r (v := .int .u64 ((d : Nat) : Int)) (w' := w4) hE (ei_quo (hE.get 113 rfl) rfl (by decide) hq10) fun ac hE => ?_
  refine ev_r (w' := w4) hE (ex_as (hE.get 114 rfl)) fun ac hE => ?_
  refine wpList_nil ?_
  show Code.wp _ _ _ _ _
  refine wp_seq ?_
  refine wp_region_lit ?_
  refine ev_r (w' := w4) hE (ex_mv (hE.get 4 rfl)) fun ac hE => ?_
  refine ev_r (v := .int .u64 ((d * 10 : Nat) : Int)) (w' := w4) hE (ei_mul (hE.get 115 rfl) rfl (by rw [IntKind.wrap_u64]; omega)) fun ac hE => ?_
  refine ev_r (w' := w4) hE (ex_mv (hE.get 13 rfl)) fun ac hE => ?_
  refine ev_r (v := .bool true) (w' := w4) hE (ei_geq (hE.get 116 rfl) (hE.get 117 rfl) (decide_eq_true (by omega))) fun ac hE => ?_
  refine wpList_nil ?_
  show Code.wp _ _ _ _ _
  refine wp_cond_split (hE.get 118 rfl) (fun _ => ?_) (fun h => by cases h)
  refine wp_seq ?_
  refine wp_region_lit ?_
  refine ev_r (w' := w4) hE (ex_mv (hE.get 4 rfl)) fun ac hE => ?_
  refine ev_r (w' := w4) hE (ex_mv (hE.get 5 rfl)) fun ac hE => ?_
  refine ev_r (v := .int .i64 (p - 1)) (w' := w4) hE (ei_sub (hE.get 120 rfl) rfl (by rw [IntKind.wrap_i64]; omega)) fun ac hE => ?_
  refine ev_r (v := .int .i64 (-(p - 1))) (w' := w4) hE (ei_neg (hE.get 121 rfl) (by rw [IntKind.wrap_i64]; omega)) fun ac hE => ?_
  refine ev_r (w' := w4) hE (ex_as (hE.get 119 rfl)) fun ac hE => ?_
  refine ev_r (w' := w4) hE (ex_as (hE.get 122 rfl)) fun ac hE => ?_
  refine wpList_nil ?_
  show Code.wp _ _ _ _ _
  refine wp_ret ?_
  try simp only [Exit.inBlock, Exit.then]
  exact ret2_of_ev hE rfl (hE.get 4 rfl) (hE.get 5 rfl) ⟨rfl, by rw [← hgg]; exact hbl2⟩
 ·simp only [Bool.false_eq_true, if_false, if_true] at ha hpe
  refine ev_r (w' := w) hE (ex_mv (hE.get 0 rfl)) fun ac hE => ?_
  refine ev_r (v := .bool true) (w' := w) hE (ei_eql (hE.get 22 rfl) rfl (by rw [hpw, decide_eq_decide]; omega)) fun ac hE => ?_
  refine ev_r (w' := w) hE (ex_mv (hE.get 23 rfl)) fun ac hE => ?_
  refine ev_gon (w' := w) hE rfl rfl (hE.get 24 rfl) rfl (by decide) (ex_mv (hE.get 1 rfl)) ?_
  intro ac hE
  refine ev_gon (w' := w) hE rfl rfl (hE.get 24 rfl) rfl (by decide) (ex_mv (hE.get 7 rfl)) ?_
  intro ac hE
  refine ev_gon (v := .bool true) (w' := w) hE rfl rfl (hE.get 24 rfl) rfl (by decide) (ei_gtr (hE.get 25 rfl) (hE.get 26 rfl) (decide_eq_true (by omega))) ?_
  intro ac hE
  refine ev_r (v := .bool true) (w' := w) hE (by rw [ex_pick (b := true) (hE.get 24 rfl)]; have e1 := hE.get 27 rfl; simp only [e1]; rfl) fun ac hE => ?_
  refine wpList_nil ?_
  show Code.wp _ _ _ _ _
  refine wp_cond_split (hE.get 28 rfl) (fun _ => ?_) (fun h => by cases h)
  refine wp_seq ?_
  refine wp_region_lit ?_
  refine ev_r (w' := w) hE (ex_mv (hE.get 1 rfl)) fun ac hE => ?_
  refine ev_r (w' := w) hE (ex_mv (hE.get 11 rfl)) fun ac hE => ?_
  refine ev_r (v := .int .i64 (e + 11)) (w' := w) hE (ei_add (hE.get 29 rfl) (hE.get 30 rfl) (by rw [IntKind.wrap_i64]; omega)) fun ac hE => ?_
  refine ev_call (S := fun u w' => u = .int .i64 (((e + 11) * 631305 - 261663) / 2097152) ∧ w = w') hE rfl rfl (by decide) (f := 104) (args := #[.int .i64 (e + 11)]) (by simp only [execOp, resolve, List.map_toArray, List.map_cons, List.map_nil, hE.get 31 rfl]; go_simp) (Calls.mono (skewed_any (e + 11) (by omega) w) (by rintro e w' ⟨rfl, h⟩; exact ⟨_, rfl, rfl, h.symm⟩)) ?_
  rintro ac u wx ⟨rfl, rfl⟩ hE
  refine ev_r (v := .int .i64 p) (w' := w) hE (ei_neg (hE.get 32 rfl) (by rw [IntKind.wrap_i64]; omega)) fun ac hE => ?_
  refine ev_r (w' := w) hE (ex_as (hE.get 33 rfl)) fun ac hE => ?_
  refine wpList_nil ?_
  show Code.wp _ _ _ _ _
  refine wp_seq ?_
  refine wp_region_lit ?_
  refine ev_r (w' := w) hE (ex_mv (hE.get 0 rfl)) fun ac hE => ?_
  refine ev_r (w' := w) hE (ex_mv (hE.get 11 rfl)) fun ac hE => ?_
  refine ev_r (v := .int .i64 9) (w' := w) hE (ei_sub (hE.get 35 rfl) rfl (by decide)) fun ac hE => ?_
  refine ev_r (v := .int .u64 512) (w' := w) hE (ei_shl rfl (hE.get 36 rfl) (by omega) (by simp only [IntKind.bits]; omega) (by decide)) fun ac hE => ?_
  refine ev_r (v := .int .u64 ((a : Nat) : Int)) (w' := w) hE (ei_sub (hE.get 34 rfl) (hE.get 37 rfl) (by rw [IntKind.wrap_u64]; omega)) fun ac hE => ?_
  refine ev_r (w' := w) hE (ex_as (hE.get 38 rfl)) fun ac hE => ?_
  refine wpList_nil ?_
  show Code.wp _ _ _ _ _
  refine wp_seq ?_
  refine wp_region_lit ?_
  refine ev_r (w' := w) hE (ex_mv (hE.get 0 rfl)) fun ac hE => ?_
  refine ev_r (w' := w) hE (ex_mv (hE.get 11 rfl)) fun ac hE => ?_
  refine ev_r (v := .int .i64 10) (w' := w) hE (ei_sub (hE.get 40 rfl) rfl (by decide)) fun ac hE => ?_
  refine ev_r (v := .int .u64 1024) (w' := w) hE (ei_shl rfl (hE.get 41 rfl) (by omega) (by simp only [IntKind.bits]; omega) (by decide)) fun ac hE => ?_
  refine ev_r (v := .int .u64 ((b : Nat) : Int)) (w' := w) hE (ei_add (hE.get 39 rfl) (hE.get 42 rfl) (by rw [IntKind.wrap_u64]; omega)) fun ac hE => ?_
  refine ev_r (w' := w) hE (ex_as (hE.get 43 rfl)) fun ac hE => ?_
  refine wpList_nil ?_
  show Code.wp _ _ _ _ _
  refine wp_region_lit ?_
  refine ev_r (w' := w) hE (ex_mv (hE.get 0 rfl)) fun ac hE => ?_
  refine ev_r (w' := w) hE (ex_mv (hE.get 11 rfl)) fun ac hE => ?_
  refine ev_r (v := .int .u64 ((m / 2048 : Nat) : Int)) (w' := w) hE (ei_shr (hE.get 44 rfl) (hE.get 45 rfl) (by omega) (by simp only [IntKind.bits]; omega) (by show (m : Int) / 2048 = _; omega)) fun ac hE => ?_
  refine ev_r (v := .int .i64 ((m / 2048 : Nat) : Int)) (w' := w) hE (ex_cv (hE.get 46 rfl) (cvN hmw)) fun ac hE => ?_
  refine ev_r (v := .int .i64 0) (w' := w) hE (ei_and (hE.get 47 rfl) rfl hod) fun ac hE => ?_
  refine ev_r (w' := w) hE (ex_as (hE.get 48 rfl)) fun ac hE => ?_
  refine wpList_nil ?_
  show Code.wp _ _ _ _ _
  have hE : Ev 133 ((0, .int .u64 m) :: (1, .int .i64 e) :: (5, .int .i64 p) :: (8, .int .u64 ((a : Nat) : Int)) :: (9, .int .u64 ((b : Nat) : Int)) :: (10, .int .i64 0) :: []) ac := hE.pick rfl
  refine wp_seq ?_
  refine wp_region_lit ?_
  refine ev_al hE al_sc (by decide) ?_
  intro ac w1 hE hg hbl1 hsz1
  generalize hgg : w.heap.size = g at hE hg
  refine wpList_nil ?_
  show Code.wp _ _ _ _ _
  refine wp_seq ?_
  refine wp_region_lit ?_
  refine ev_r (w' := w1) hE (ex_mv (hE.get 1 rfl)) fun ac hE => ?_
  refine ev_r (w' := w1) hE (ex_mv (hE.get 5 rfl)) fun ac hE => ?_
  refine ev_r (w' := w1) hE (ex_mv (hE.get 5 rfl)) fun ac hE => ?_
  refine ev_call (S := fun u w' => u = .int .i64 (p * 108853 / 32768) ∧ w1 = w') hE rfl rfl (by decide) (f := 106) (args := #[.int .i64 p]) (by simp only [execOp, resolve, List.map_toArray, List.map_cons, List.map_nil, hE.get 99 rfl]; go_simp) (Calls.mono (l2m p (by omega) w1) (by rintro e w' ⟨rfl, h⟩; exact ⟨_, rfl, rfl, h.symm⟩)) ?_
  rintro ac u wx ⟨rfl, rfl⟩ hE
  refine ev_call (S := fun u w' => u = .tuple #[] ∧ w'.heap[g]? = some (.cells #[.int .u64 (hiP p : Nat), .int .u64 (0 : Nat), .int .i64 sh] 179 (0, 0)) ∧ Only (fun x => x = g) w1 w') hE rfl rfl (by decide) (f := 105) (args := #[pt g 0, .int .i64 e, .int .i64 p, .int .i64 (p * 108853 / 32768)]) (by simp only [execOp, resolve, List.map_toArray, List.map_cons, List.map_nil, hE.get 12 rfl, hE.get 97 rfl, hE.get 98 rfl, hE.get 100 rfl]; go_simp) (Calls.mono (prescaleP p hp g e (p * 108853 / 32768) (by omega) hlp w1 (fun w' ho => hT w' (hbl1.trans (only_bel ho (by rw [hgg]; omega) (by omega)))) hg) (by rintro x w' ⟨rfl, h1, h2⟩; rw [hsh] at h1; exact ⟨_, rfl, rfl, h1, h2⟩)) ?_
  rintro ac u w2 ⟨rfl, hg, ho2⟩ hE
  have hbl2 : Below w.heap.size w w2 := hbl1.trans (only_bel ho2 (by rw [hgg]; omega) (by omega))
  refine wpList_nil ?_
  show Code.wp _ _ _ _ _
  refine wp_seq ?_
  refine wp_region_lit ?_
  refine ev_r (w' := w2) hE (ex_mv (hE.get 8 rfl)) fun ac hE => ?_
  refine ev_call (S := fun u w' => u = .int .u64 (umin : Nat) ∧ ∃ n, w' = w2.drewN n) hE rfl rfl (by decide) (f := 107) (args := #[.int .u64 a, pt g 0]) (by simp only [execOp, resolve, List.map_toArray, List.map_cons, List.map_nil, hE.get 102 rfl, hE.get 12 rfl]; go_simp) (Calls.mono (uscale_gen a (hiP p) sh g (by omega) (hiP_lt p) hs w2 hg) (by rintro x w' ⟨rfl, h⟩; exact ⟨_, rfl, by rw [hu1], h⟩)) ?_
  rintro ac u _ ⟨rfl, n29, rfl⟩ hE
  have hg : (w2.drewN n29).heap[g]? = some (.cells #[.int .u64 (hiP p : Nat), .int .u64 (0 : Nat), .int .i64 sh] 179 (0, 0)) := hg
  have hbl2 : Below w.heap.size w (w2.drewN n29) := below_drewN hbl2 n29
  generalize w2.drewN n29 = w3 at *
  refine ev_r (w' := w3) hE (ex_mv (hE.get 10 rfl)) fun ac hE => ?_
  refine ev_call (S := fun u w' => u = .int .u64 umin ∧ w3 = w') hE rfl rfl (by decide) (f := 108) (args := #[.int .u64 umin, .int .i64 0]) (by simp only [execOp, resolve, List.map_toArray, List.map_cons, List.map_nil, hE.get 103 rfl, hE.get 104 rfl]; go_simp) (Calls.mono (nudge_any umin umin 0 (by omega) (by omega) (by omega) w3) (by rintro e w' ⟨rfl, h⟩; exact ⟨_, rfl, rfl, h.symm⟩)) ?_
  rintro ac u wx ⟨rfl, rfl⟩ hE
  refine ev_call (S := fun u w' => u = .int .u64 ((umin + 3) / 4 : Nat) ∧ w3 = w') hE rfl rfl (by decide) (f := 109) (args := #[.int .u64 umin]) (by simp only [execOp, resolve, List.map_toArray, List.map_cons, List.map_nil, hE.get 105 rfl]; go_simp) (Calls.mono (uceil_any umin (by omega) w3) (by rintro e w' ⟨rfl, h⟩; exact ⟨_, rfl, rfl, h.symm⟩)) ?_
  rintro ac u wx ⟨rfl, rfl⟩ hE
  refine ev_r (w' := w3) hE (ex_as (hE.get 106 rfl)) fun ac hE => ?_
  refine wpList_nil ?_
  show Code.wp _ _ _ _ _
  refine wp_seq ?_
  refine wp_region_lit ?_
  refine ev_r (w' := w3) hE (ex_mv (hE.get 9 rfl)) fun ac hE => ?_
  refine ev_call (S := fun u w' => u = .int .u64 (umax : Nat) ∧ ∃ n, w' = w3.drewN n) hE rfl rfl (by decide) (f := 107) (args := #[.int .u64 b, pt g 0]) (by simp only [execOp, resolve, List.map_toArray, List.map_cons, List.map_nil, hE.get 107 rfl, hE.get 12 rfl]; go_simp) (Calls.mono (uscale_gen b (hiP p) sh g (by omega) (hiP_lt p) hs w3 hg) (by rintro x w' ⟨rfl, h⟩; exact ⟨_, rfl, by rw [hu2], h⟩)) ?_
  rintro ac u _ ⟨rfl, n30, rfl⟩ hE
  have hg : (w3.drewN n30).heap[g]? = some (.cells #[.int .u64 (hiP p : Nat), .int .u64 (0 : Nat), .int .i64 sh] 179 (0, 0)) := hg
  have hbl2 : Below w.heap.size w (w3.drewN n30) := below_drewN hbl2 n30
  generalize w3.drewN n30 = w4 at *
  refine ev_r (w' := w4) hE (ex_mv (hE.get 10 rfl)) fun ac hE => ?_
  refine ev_r (v := .int .i64 0) (w' := w4) hE (ei_neg (hE.get 109 rfl) (by decide)) fun ac hE => ?_
  refine ev_call (S := fun u w' => u = .int .u64 umax ∧ w4 = w') hE rfl rfl (by decide) (f := 108) (args := #[.int .u64 umax, .int .i64 0]) (by simp only [execOp, resolve, List.map_toArray, List.map_cons, List.map_nil, hE.get 108 rfl, hE.get 110 rfl]; go_simp) (Calls.mono (nudge_any umax umax 0 (by omega) (by omega) (by omega) w4) (by rintro e w' ⟨rfl, h⟩; exact ⟨_, rfl, rfl, h.symm⟩)) ?_
  rintro ac u wx ⟨rfl, rfl⟩ hE
  refine ev_call (S := fun u w' => u = .int .u64 (umax / 4 : Nat) ∧ w4 = w') hE rfl rfl (by decide) (f := 110) (args := #[.int .u64 umax]) (by simp only [execOp, resolve, List.map_toArray, List.map_cons, List.map_nil, hE.get 111 rfl]; go_simp) (Calls.mono (ufloor_any umax (by omega) w4) (by rintro e w' ⟨rfl, h⟩; exact ⟨_, rfl, rfl, h.symm⟩)) ?_
  rintro ac u wx ⟨rfl, rfl⟩ hE
  refine ev_r (w' := w4) hE (ex_as (hE.get 112 rfl)) fun ac hE => ?_
  refine wpList_nil ?_
  show Code.wp _ _ _ _ _
  refine wp_seq ?_
  refine wp_seq ?_
  refine wp_region_lit ?_
  refine ev_r (w' := w4) hE (ex_mv (hE.get 14 rfl)) fun ac hE => ?_
  refine ev_r (v := .int .u64 ((d : Nat) : Int)) (w' := w4) hE (ei_quo (hE.get 113 rfl) rfl (by decide) hq10) fun ac hE => ?_
  refine ev_r (w' := w4) hE (ex_as (hE.get 114 rfl)) fun ac hE => ?_
  refine wpList_nil ?_
  show Code.wp _ _ _ _ _
  refine wp_seq ?_
  refine wp_region_lit ?_
  refine ev_r (w' := w4) hE (ex_mv (hE.get 4 rfl)) fun ac hE => ?_
  refine ev_r (v := .int .u64 ((d * 10 : Nat) : Int)) (w' := w4) hE (ei_mul (hE.get 115 rfl) rfl (by rw [IntKind.wrap_u64]; omega)) fun ac hE => ?_
  refine ev_r (w' := w4) hE (ex_mv (hE.get 13 rfl)) fun ac hE => ?_
  refine ev_r (v := .bool true) (w' := w4) hE (ei_geq (hE.get 116 rfl) (hE.get 117 rfl) (decide_eq_true (by omega))) fun ac hE => ?_
  refine wpList_nil ?_
  show Code.wp _ _ _ _ _
  refine wp_cond_split (hE.get 118 rfl) (fun _ => ?_) (fun h => by cases h)
  refine wp_seq ?_
  refine wp_region_lit ?_
  refine ev_r (w' := w4) hE (ex_mv (hE.get 4 rfl)) fun ac hE => ?_
  refine ev_r (w' := w4) hE (ex_mv (hE.get 5 rfl)) fun ac hE => ?_
  refine ev_r (v := .int .i64 (p - 1)) (w' := w4) hE (ei_sub (hE.get 120 rfl) rfl (by rw [IntKind.wrap_i64]; omega)) fun ac hE => ?_
  refine ev_r (v := .int .i64 (-(p - 1))) (w' := w4) hE (ei_neg (hE.get 121 rfl) (by rw [IntKind.wrap_i64]; omega)) fun ac hE => ?_
  refine ev_r (w' := w4) hE (ex_as (hE.get 119 rfl)) fun ac hE => ?_
  refine ev_r (w' := w4) hE (ex_as (hE.get 122 rfl)) fun ac hE => ?_
  refine wpList_nil ?_
  show Code.wp _ _ _ _ _
  refine wp_ret ?_
  try simp only [Exit.inBlock, Exit.then]
  exact ret2_of_ev hE rfl (hE.get 4 rfl) (hE.get 5 rfl) ⟨rfl, by rw [← hgg]; exact hbl2⟩
end Go.Proofs.YtfonjeoiallhhaaGreatDoor
