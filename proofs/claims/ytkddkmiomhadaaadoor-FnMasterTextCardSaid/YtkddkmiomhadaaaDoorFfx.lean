/- Joined: Ffb, Ffc, Ffd, Ffe. -/
import Derived.Test.YtkddkmiomhadaaaDoorQv
import Derived.Test.YtkddkmiomhadaaaDoorFfa
/-! strconv's uscale, prescale, fixedWidthFloat, as far as eighths need them. -/
namespace Go.Proofs.YtkddkmiomhadaaaDoor
open Go.RowKit
theorem fa_sc_0 (g : Nat) : Fa 144 0 g 0 0 := by intro w; go_simp
theorem fa_sc_1 (g : Nat) : Fa 144 1 g 0 1 := by intro w; go_simp
theorem fa_sc_2 (g : Nat) : Fa 144 2 g 0 2 := by intro w; go_simp
theorem ld_u64 : Ld 36 := by intro w p v h; go_simp
set_option maxRecDepth 100000 in
theorem uscale_any (x hi q sh g : Nat) (hx : x < 18446744073709551616) (hhi : hi < 18446744073709551616) (h0 : x * hi % 18446744073709551616 = 0) (hh : x * hi / 18446744073709551616 = q * 2 ^ sh) (hsh : sh < 64) (w : World)
    (hg : w.heap[g]? = some (.cells #[.int .u64 hi, .int .u64 (0 : Nat), .int .i64 sh] 144 (0, 0))) :
    Calls Tryd.prog 80 #[.int .u64 x, .pointer (some ⟨g, 0, none⟩)] w fun e w' => e = .returned (.int .u64 q) ∧ ∃ n, w' = w.drewN n := by
  have hhb : q * 2 ^ sh < 18446744073709551616 := by
    rw [← hh]
    have : x * hi < 18446744073709551616 * 18446744073709551616 := Nat.mul_lt_mul'' hx hhi
    omega
  have m1 := fun w => mul64_any x hi hx hhi w
  have m2 := fun w => mul64_any x 0 hx (by omega) w
  rw [h0, hh] at m1
  simp only [Nat.mul_zero, Nat.zero_div, Nat.zero_mod] at m2
  have hp : 0 < 2 ^ sh := Nat.two_pow_pos sh
  have s0 : bits BinOp.and IntKind.i64 (sh : Int) 63 = sh := by
    have hall : (List.range 64).all (fun n => bits BinOp.and IntKind.i64 (n : Int) 63 == (n : Int)) = true := by decide +kernel
    have := List.all_eq_true.1 hall sh (List.mem_range.2 hsh)
    simpa using this
  have s1 : ((q * 2 ^ sh : Nat) : Int) / 2 ^ ((sh : Int)).toNat = q := by
    rw [Int.toNat_natCast]
    push_cast
    exact Int.mul_ediv_cancel _ (by exact_mod_cast Nat.pos_iff_ne_zero.1 hp)
  have s2 : IntKind.u64.wrap ((q : Int) * 2 ^ ((sh : Int)).toNat) = ((q * 2 ^ sh : Nat) : Int) := by
    have : ((q : Int) * 2 ^ ((sh : Int)).toNat) = ((q * 2 ^ sh : Nat) : Int) := by rw [Int.toNat_natCast]; push_cast; rfl
    rw [this, IntKind.wrap_u64]; omega
  have hqb : q < 18446744073709551616 := Nat.lt_of_le_of_lt (Nat.le_mul_of_pos_right _ hp) hhb
  have s6 : bits BinOp.or IntKind.u64 (q : Int) 0 = q := by
    have := or_u64 q 0 hqb (by omega)
    rw [Nat.or_zero] at this
    exact this
  have s7 : IntKind.u64.wrap (((q * 2 ^ sh : Nat) : Int) - 0) = ((q * 2 ^ sh : Nat) : Int) := by rw [IntKind.wrap_u64]; omega
  generalize q * 2 ^ sh = h at *
  refine calls_of_ev Tryd.func80 rfl (show 2 ≤ 59 from by decide) ?_
  intro a hE
  have hE : Ev 59 ((0, .int .u64 x) :: (1, pt g 0) :: []) a := hE
  refine wp_seq ?_
  refine wp_region_lit ?_
  refine ev_ac hE (by decide) ?_
  intro a hE
  refine wpList_nil ?_
  show Code.wp _ _ _ _ _
  refine wp_seq ?_
  refine wp_region_lit ?_
  refine ev_run (w' := w) hE rfl rfl (by decide) (ex_mv (hE.get 0 rfl)) ?_
  intro a hE
  refine ev_run (w' := w) hE rfl rfl (by decide) (ex_mv (hE.get 1 rfl)) ?_
  intro a hE
  refine ev_nc hE (hE.get 12 rfl) (by decide) ?_
  intro a hE
  refine ev_run (w' := w) hE rfl rfl (by decide) (ex_fa (hE.get 13 rfl) (fa_sc_0 _)) ?_
  intro a hE
  refine ev_run (v := .int .u64 hi) (w' := w) hE rfl rfl (by decide) (ex_ld (hE.get 14 rfl) ld_u64 (cell_of_heap (v := .int .u64 hi) hg rfl)) ?_
  intro a hE
  refine ev_call (S := fun u w' => u = .tuple #[.int .u64 h, .int .u64 (0 : Nat)] ∧ w = w') hE rfl rfl (by decide) (f := 93) (args := #[.int .u64 x, .int .u64 hi]) (by simp only [execOp, resolve, List.map_toArray, List.map_cons, List.map_nil, hE.get 11 rfl, hE.get 15 rfl]; go_simp) (Calls.mono (m1 w) (by rintro e w' ⟨rfl, h⟩; exact ⟨_, rfl, rfl, h.symm⟩)) ?_
  rintro a u wx ⟨rfl, rfl⟩ hE
  refine ev_run (w' := w) hE rfl rfl (by decide) (ex_mv (hE.get 16 rfl)) ?_
  intro a hE
  refine ev_run (w' := w) hE rfl rfl (by decide) (ei_ext (hE.get 10 rfl) rfl) ?_
  intro a hE
  refine ev_run (w' := w) hE rfl rfl (by decide) (ei_ext (hE.get 10 rfl) rfl) ?_
  intro a hE
  refine ev_run (w' := w) hE rfl rfl (by decide) (ex_as (hE.get 17 rfl)) ?_
  intro a hE
  refine ev_run (w' := w) hE rfl rfl (by decide) (ex_as (hE.get 18 rfl)) ?_
  intro a hE
  refine wpList_nil ?_
  show Code.wp _ _ _ _ _
  refine wp_seq ?_
  refine wp_region_lit ?_
  refine ev_run (w' := w) hE rfl rfl (by decide) (ex_mv (hE.get 1 rfl)) ?_
  intro a hE
  refine ev_nc hE (hE.get 19 rfl) (by decide) ?_
  intro a hE
  refine ev_run (w' := w) hE rfl rfl (by decide) (ex_fa (hE.get 20 rfl) (fa_sc_2 _)) ?_
  intro a hE
  refine ev_run (v := .int .i64 sh) (w' := w) hE rfl rfl (by decide) (ex_ld (hE.get 21 rfl) ld_i64 (cell_of_heap (v := .int .i64 sh) hg rfl)) ?_
  intro a hE
  refine ev_run (v := .int .i64 sh) (w' := w) hE rfl rfl (by decide) (ei_and (hE.get 22 rfl) rfl s0) ?_
  intro a hE
  refine ev_run (w' := w) hE rfl rfl (by decide) (ex_as (hE.get 23 rfl)) ?_
  intro a hE
  refine wpList_nil ?_
  show Code.wp _ _ _ _ _
  refine wp_seq ?_
  refine wp_seq ?_
  refine wp_region_lit ?_
  refine ev_run (w' := w) hE rfl rfl (by decide) (ex_mv (hE.get 5 rfl)) ?_
  intro a hE
  refine ev_run (w' := w) hE rfl rfl (by decide) (ex_mv (hE.get 7 rfl)) ?_
  intro a hE
  refine ev_run (v := .int .u64 q) (w' := w) hE rfl rfl (by decide) (ei_shr (hE.get 24 rfl) (hE.get 25 rfl) (by omega) (by simp only [IntKind.bits]; omega) s1) ?_
  intro a hE
  refine ev_run (w' := w) hE rfl rfl (by decide) (ex_mv (hE.get 7 rfl)) ?_
  intro a hE
  refine ev_run (v := .int .u64 h) (w' := w) hE rfl rfl (by decide) (ei_shl (hE.get 26 rfl) (hE.get 27 rfl) (by omega) (by simp only [IntKind.bits]; omega) s2) ?_
  intro a hE
  refine ev_run (w' := w) hE rfl rfl (by decide) (ex_mv (hE.get 5 rfl)) ?_
  intro a hE
  refine ev_run (v := .bool false) (w' := w) hE rfl rfl (by decide) (by simp only [execOp, hE.get 28 rfl, hE.get 29 rfl]; go_simp) ?_
  intro a hE
  refine wpList_nil ?_
  show Code.wp _ _ _ _ _
  refine wp_cond_split (hE.get 30 rfl) (fun h => by cases h) (fun _ => ?_)
  refine wp_skip ?_
  show Code.wp _ _ _ _ _
  refine wp_seq ?_
  refine wp_region_lit ?_
  refine ev_run (w' := w) hE rfl rfl (by decide) (ex_mv (hE.get 0 rfl)) ?_
  intro a hE
  refine ev_run (w' := w) hE rfl rfl (by decide) (ex_mv (hE.get 1 rfl)) ?_
  intro a hE
  refine ev_nc hE (hE.get 37 rfl) (by decide) ?_
  intro a hE
  refine ev_run (w' := w) hE rfl rfl (by decide) (ex_fa (hE.get 38 rfl) (fa_sc_1 _)) ?_
  intro a hE
  refine ev_run (v := .int .u64 (0 : Nat)) (w' := w) hE rfl rfl (by decide) (ex_ld (hE.get 39 rfl) ld_u64 (cell_of_heap (v := .int .u64 (0 : Nat)) hg rfl)) ?_
  intro a hE
  refine ev_call (S := fun u w' => u = .tuple #[.int .u64 (0 : Nat), .int .u64 (0 : Nat)] ∧ w = w') hE rfl rfl (by decide) (f := 93) (args := #[.int .u64 x, .int .u64 (0 : Nat)]) (by simp only [execOp, resolve, List.map_toArray, List.map_cons, List.map_nil, hE.get 36 rfl, hE.get 40 rfl]; go_simp) (Calls.mono (m2 w) (by rintro e w' ⟨rfl, h⟩; exact ⟨_, rfl, rfl, h.symm⟩)) ?_
  rintro a u wx ⟨rfl, rfl⟩ hE
  refine ev_run (w' := w) hE rfl rfl (by decide) (ex_mv (hE.get 41 rfl)) ?_
  intro a hE
  refine ev_run (w' := w) hE rfl rfl (by decide) (ei_ext (hE.get 35 rfl) rfl) ?_
  intro a hE
  refine ev_run (w' := w) hE rfl rfl (by decide) (ei_ext (hE.get 35 rfl) rfl) ?_
  intro a hE
  refine ev_run (w' := w) hE rfl rfl (by decide) (ex_as (hE.get 42 rfl)) ?_
  intro a hE
  refine ev_run (w' := w) hE rfl rfl (by decide) (ex_as (hE.get 43 rfl)) ?_
  intro a hE
  refine wpList_nil ?_
  show Code.wp _ _ _ _ _
  refine wp_seq ?_
  refine wp_region_lit ?_
  refine ev_run (w' := w) hE rfl rfl (by decide) (ex_mv (hE.get 5 rfl)) ?_
  intro a hE
  refine ev_run (w' := w) hE rfl rfl (by decide) (ex_mv (hE.get 6 rfl)) ?_
  intro a hE
  refine ev_run (w' := w) hE rfl rfl (by decide) (ex_mv (hE.get 8 rfl)) ?_
  intro a hE
  refine ev_run (v := .bool false) (w' := w) hE rfl rfl (by decide) (ei_lss (hE.get 45 rfl) (hE.get 46 rfl) (by decide)) ?_
  intro a hE
  refine ev_call (S := fun u w' => u = .int .u64 0 ∧ w = w') hE rfl rfl (by decide) (f := 94) (args := #[.bool false]) (by simp only [execOp, resolve, List.map_toArray, List.map_cons, List.map_nil, hE.get 47 rfl]; go_simp) (Calls.mono (bool2w_any false w) (by rintro e w' ⟨rfl, h⟩; exact ⟨_, rfl, rfl, h.symm⟩)) ?_
  rintro a u wx ⟨rfl, rfl⟩ hE
  refine ev_run (v := .int .u64 h) (w' := w) hE rfl rfl (by decide) (ei_sub (hE.get 44 rfl) (hE.get 48 rfl) s7) ?_
  intro a hE
  refine ev_run (w' := w) hE rfl rfl (by decide) (ex_as (hE.get 49 rfl)) ?_
  intro a hE
  refine wpList_nil ?_
  show Code.wp _ _ _ _ _
  refine wp_seq ?_
  refine wp_region_quiet_lit (by kernel_rfl) (by kernel_rfl) ?_
  refine qv_run hE rfl rfl (by decide) (fun w hC => (ex_mv (hE.get 5 rfl))) ?_
  intro a hE
  refine qv_run hE rfl rfl (by decide) (fun w hC => (ex_mv (hE.get 7 rfl))) ?_
  intro a hE
  refine qv_run (v := .int .u64 q) hE rfl rfl (by decide) (fun w hC => (ei_shr (hE.get 50 rfl) (hE.get 51 rfl) (by omega) (by simp only [IntKind.bits]; omega) s1)) ?_
  intro a hE
  refine qv_run hE rfl rfl (by decide) (fun w hC => (ex_mv (hE.get 6 rfl))) ?_
  intro a hE
  refine qv_run hE rfl rfl (by decide) (fun w hC => (ex_mv (hE.get 8 rfl))) ?_
  intro a hE
  refine qv_run (v := .int .u64 0) hE rfl rfl (by decide) (fun w hC => (ei_sub (hE.get 53 rfl) (hE.get 54 rfl) (by decide))) ?_
  intro a hE
  refine qv_run (v := .bool false) hE rfl rfl (by decide) (fun w hC => (ei_gtr (hE.get 55 rfl) rfl (by decide))) ?_
  intro a hE
  refine qv_call (v := .int .u64 0) hE rfl rfl (by decide) (f := 94) (args := #[.bool false]) (fun w hC => (by simp only [execOp, resolve, List.map_toArray, List.map_cons, List.map_nil, hE.get 56 rfl]; go_simp)) (fun w hC => (by obtain ⟨n, rfl⟩ := hC; exact Calls.quiet_of_same (bool2w_any false _))) ?_
  intro a hE
  refine qv_run (v := .int .u64 q) hE rfl rfl (by decide) (fun w hC => (ei_or (hE.get 52 rfl) (hE.get 57 rfl) s6)) ?_
  intro a hE
  refine qv_run hE rfl rfl (by decide) (fun w hC => (ex_as (hE.get 58 rfl))) ?_
  intro a hE
  refine wpQuiet_nil ?_
  intro w' hw
  show Code.wp _ _ _ _ _
  refine wp_ret ?_
  exact ret_of_ev hE rfl (hE.get 4 rfl) ⟨rfl, hw⟩
end Go.Proofs.YtkddkmiomhadaaaDoor
/-! strconv.prescale at 3 and 4. -/
namespace Go.Proofs.YtkddkmiomhadaaaDoor
open Go.RowKit
theorem st_u64 (n : Int) : St 36 (.int .u64 n) := by intro w q u hc hf; simp only [Instr.storeAt, Instr.sureAddr]; go_simp
theorem al_sc : Al 144 #[.int .u64 0, .int .u64 0, .int .i64 0] := by intro w; go_simp
theorem fa_pm3_0 : Fa 157 0 5 702 702 := by intro w; go_simp
theorem fa_pm3_1 : Fa 157 1 5 702 703 := by intro w; go_simp
theorem fa_pm4_0 : Fa 157 0 5 704 704 := by intro w; go_simp
theorem fa_pm4_1 : Fa 157 1 5 704 705 := by intro w; go_simp
/-- The tables' entries. -/
structure PmTab (w : World) : Prop where
  h3 : w.cell? ⟨5, 702, none⟩ = some (.int .u64 (18014398509481984000 : Nat))
  l3 : w.cell? ⟨5, 703, none⟩ = some (.int .u64 (0 : Nat))
  h4 : w.cell? ⟨5, 704, none⟩ = some (.int .u64 (11258999068426240000 : Nat))
  l4 : w.cell? ⟨5, 705, none⟩ = some (.int .u64 (0 : Nat))
set_option maxRecDepth 100000 in
theorem prescale3 (g : Nat) (e lp : Int) (he : -100 ≤ e ∧ e ≤ 100) (hlp : 0 ≤ lp ∧ lp ≤ 100) (w : World) (hT : ∀ w', Only (fun x => x = g) w w' → PmTab w') (hg : w.heap[g]? = some (.cells #[.int .u64 0, .int .u64 0, .int .i64 0] 144 (0, 0))) :
    Calls Tryd.prog 78 #[pt g 0, .int .i64 e, .int .i64 3, .int .i64 lp] w fun x w' => x = .returned (.tuple #[]) ∧ w'.heap[g]? = some (.cells #[.int .u64 (18014398509481984000 : Nat), .int .u64 (0 : Nat), .int .i64 (-(e + lp + 3))] 144 (0, 0)) ∧ Only (fun x => x = g) w w' := by
  have hP := hT w (Only.refl _ _)
  refine calls_of_ev Tryd.func78 rfl (show 4 ≤ 32 from by decide) ?_
  intro a hE
  have hE : Ev 32 ((0, pt g 0) :: (1, .int .i64 e) :: (2, .int .i64 3) :: (3, .int .i64 lp) :: []) a := hE
  refine wp_seq ?_
  refine wp_region_lit ?_
  refine ev_run (w' := w) hE rfl rfl (by decide) (ex_mv (hE.get 0 rfl)) ?_
  intro a hE
  refine ev_run (w' := w) hE rfl rfl (by decide) (ex_mv (hE.get 2 rfl)) ?_
  intro a hE
  refine ev_run (v := .int .i64 351) (w' := w) hE rfl rfl (by decide) (ei_sub (hE.get 9 rfl) rfl (by decide)) ?_
  intro a hE
  refine ev_run (v := pt 5 702) (w' := w) hE rfl rfl (by decide) (by simp only [execOp, hE.get 10 rfl]; go_simp) ?_
  intro a hE
  refine ev_fa hE (hE.get 11 rfl) fa_pm3_0 (by decide) ?_
  intro a hE
  refine ev_ld hE (hE.get 12 rfl) ld_u64 hP.h3 (by decide) ?_
  intro a hE
  refine ev_nc hE (hE.get 8 rfl) (by decide) ?_
  intro a hE
  refine ev_run (w' := w) hE rfl rfl (by decide) (ex_fa (hE.get 14 rfl) (fa_sc_0 _)) ?_
  intro a hE
  refine ev_sc (v := .int .u64 (18014398509481984000 : Nat)) hE (st_u64 _) (hE.get 15 rfl) (hE.get 13 rfl) hg (show 0 < 3 from by decide) ?_
  intro w1 hg ho1
  have hg : w1.heap[g]? = some (.cells #[.int .u64 (18014398509481984000 : Nat), .int .u64 0, .int .i64 0] 144 (0, 0)) := hg
  have hP := hT w1 ho1
  refine wpList_nil ?_
  show Code.wp _ _ _ _ _
  refine wp_seq ?_
  refine wp_region_lit ?_
  refine ev_run (w' := w1) hE rfl rfl (by decide) (ex_mv (hE.get 0 rfl)) ?_
  intro a hE
  refine ev_run (w' := w1) hE rfl rfl (by decide) (ex_mv (hE.get 2 rfl)) ?_
  intro a hE
  refine ev_run (v := .int .i64 351) (w' := w1) hE rfl rfl (by decide) (ei_sub (hE.get 17 rfl) rfl (by decide)) ?_
  intro a hE
  refine ev_run (v := pt 5 702) (w' := w1) hE rfl rfl (by decide) (by simp only [execOp, hE.get 18 rfl]; go_simp) ?_
  intro a hE
  refine ev_fa hE (hE.get 19 rfl) fa_pm3_1 (by decide) ?_
  intro a hE
  refine ev_ld hE (hE.get 20 rfl) ld_u64 hP.l3 (by decide) ?_
  intro a hE
  refine ev_nc hE (hE.get 16 rfl) (by decide) ?_
  intro a hE
  refine ev_run (w' := w1) hE rfl rfl (by decide) (ex_fa (hE.get 22 rfl) (fa_sc_1 _)) ?_
  intro a hE
  refine ev_sc (v := .int .u64 (0 : Nat)) hE (st_u64 _) (hE.get 23 rfl) (hE.get 21 rfl) hg (show 1 < 3 from by decide) ?_
  intro w2 hg ho2
  have hg : w2.heap[g]? = some (.cells #[.int .u64 (18014398509481984000 : Nat), .int .u64 (0 : Nat), .int .i64 0] 144 (0, 0)) := hg
  refine wpList_nil ?_
  show Code.wp _ _ _ _ _
  refine wp_region_lit ?_
  refine ev_run (w' := w2) hE rfl rfl (by decide) (ex_mv (hE.get 0 rfl)) ?_
  intro a hE
  refine ev_run (w' := w2) hE rfl rfl (by decide) (ex_mv (hE.get 1 rfl)) ?_
  intro a hE
  refine ev_run (w' := w2) hE rfl rfl (by decide) (ex_mv (hE.get 3 rfl)) ?_
  intro a hE
  refine ev_run (v := .int .i64 (e + lp)) (w' := w2) hE rfl rfl (by decide) (ei_add (hE.get 25 rfl) (hE.get 26 rfl) (by rw [IntKind.wrap_i64]; omega)) ?_
  intro a hE
  refine ev_run (v := .int .i64 (e + lp + 3)) (w' := w2) hE rfl rfl (by decide) (ei_add (hE.get 27 rfl) rfl (by rw [IntKind.wrap_i64]; omega)) ?_
  intro a hE
  refine ev_run (v := .int .i64 (-(e + lp + 3))) (w' := w2) hE rfl rfl (by decide) (ei_neg (hE.get 28 rfl) (by rw [IntKind.wrap_i64]; omega)) ?_
  intro a hE
  refine ev_nc hE (hE.get 24 rfl) (by decide) ?_
  intro a hE
  refine ev_run (w' := w2) hE rfl rfl (by decide) (ex_fa (hE.get 30 rfl) (fa_sc_2 _)) ?_
  intro a hE
  refine ev_sc (v := .int .i64 (-(e + lp + 3))) hE (st_int _) (hE.get 31 rfl) (hE.get 29 rfl) hg (show 2 < 3 from by decide) ?_
  intro w3 hg ho3
  refine wpList_nil ?_
  exact end_ev hE rfl ⟨rfl, hg, ((ho1.trans ho2).trans ho3).mono fun x _ h => by rcases h with (h | h) | h <;> exact h⟩
set_option maxRecDepth 100000 in
theorem prescale4 (g : Nat) (e lp : Int) (he : -100 ≤ e ∧ e ≤ 100) (hlp : 0 ≤ lp ∧ lp ≤ 100) (w : World) (hT : ∀ w', Only (fun x => x = g) w w' → PmTab w') (hg : w.heap[g]? = some (.cells #[.int .u64 0, .int .u64 0, .int .i64 0] 144 (0, 0))) :
    Calls Tryd.prog 78 #[pt g 0, .int .i64 e, .int .i64 4, .int .i64 lp] w fun x w' => x = .returned (.tuple #[]) ∧ w'.heap[g]? = some (.cells #[.int .u64 (11258999068426240000 : Nat), .int .u64 (0 : Nat), .int .i64 (-(e + lp + 3))] 144 (0, 0)) ∧ Only (fun x => x = g) w w' := by
  have hP := hT w (Only.refl _ _)
  refine calls_of_ev Tryd.func78 rfl (show 4 ≤ 32 from by decide) ?_
  intro a hE
  have hE : Ev 32 ((0, pt g 0) :: (1, .int .i64 e) :: (2, .int .i64 4) :: (3, .int .i64 lp) :: []) a := hE
  refine wp_seq ?_
  refine wp_region_lit ?_
  refine ev_run (w' := w) hE rfl rfl (by decide) (ex_mv (hE.get 0 rfl)) ?_
  intro a hE
  refine ev_run (w' := w) hE rfl rfl (by decide) (ex_mv (hE.get 2 rfl)) ?_
  intro a hE
  refine ev_run (v := .int .i64 352) (w' := w) hE rfl rfl (by decide) (ei_sub (hE.get 9 rfl) rfl (by decide)) ?_
  intro a hE
  refine ev_run (v := pt 5 704) (w' := w) hE rfl rfl (by decide) (by simp only [execOp, hE.get 10 rfl]; go_simp) ?_
  intro a hE
  refine ev_fa hE (hE.get 11 rfl) fa_pm4_0 (by decide) ?_
  intro a hE
  refine ev_ld hE (hE.get 12 rfl) ld_u64 hP.h4 (by decide) ?_
  intro a hE
  refine ev_nc hE (hE.get 8 rfl) (by decide) ?_
  intro a hE
  refine ev_run (w' := w) hE rfl rfl (by decide) (ex_fa (hE.get 14 rfl) (fa_sc_0 _)) ?_
  intro a hE
  refine ev_sc (v := .int .u64 (11258999068426240000 : Nat)) hE (st_u64 _) (hE.get 15 rfl) (hE.get 13 rfl) hg (show 0 < 3 from by decide) ?_
  intro w1 hg ho1
  have hg : w1.heap[g]? = some (.cells #[.int .u64 (11258999068426240000 : Nat), .int .u64 0, .int .i64 0] 144 (0, 0)) := hg
  have hP := hT w1 ho1
  refine wpList_nil ?_
  show Code.wp _ _ _ _ _
  refine wp_seq ?_
  refine wp_region_lit ?_
  refine ev_run (w' := w1) hE rfl rfl (by decide) (ex_mv (hE.get 0 rfl)) ?_
  intro a hE
  refine ev_run (w' := w1) hE rfl rfl (by decide) (ex_mv (hE.get 2 rfl)) ?_
  intro a hE
  refine ev_run (v := .int .i64 352) (w' := w1) hE rfl rfl (by decide) (ei_sub (hE.get 17 rfl) rfl (by decide)) ?_
  intro a hE
  refine ev_run (v := pt 5 704) (w' := w1) hE rfl rfl (by decide) (by simp only [execOp, hE.get 18 rfl]; go_simp) ?_
  intro a hE
  refine ev_fa hE (hE.get 19 rfl) fa_pm4_1 (by decide) ?_
  intro a hE
  refine ev_ld hE (hE.get 20 rfl) ld_u64 hP.l4 (by decide) ?_
  intro a hE
  refine ev_nc hE (hE.get 16 rfl) (by decide) ?_
  intro a hE
  refine ev_run (w' := w1) hE rfl rfl (by decide) (ex_fa (hE.get 22 rfl) (fa_sc_1 _)) ?_
  intro a hE
  refine ev_sc (v := .int .u64 (0 : Nat)) hE (st_u64 _) (hE.get 23 rfl) (hE.get 21 rfl) hg (show 1 < 3 from by decide) ?_
  intro w2 hg ho2
  have hg : w2.heap[g]? = some (.cells #[.int .u64 (11258999068426240000 : Nat), .int .u64 (0 : Nat), .int .i64 0] 144 (0, 0)) := hg
  refine wpList_nil ?_
  show Code.wp _ _ _ _ _
  refine wp_region_lit ?_
  refine ev_run (w' := w2) hE rfl rfl (by decide) (ex_mv (hE.get 0 rfl)) ?_
  intro a hE
  refine ev_run (w' := w2) hE rfl rfl (by decide) (ex_mv (hE.get 1 rfl)) ?_
  intro a hE
  refine ev_run (w' := w2) hE rfl rfl (by decide) (ex_mv (hE.get 3 rfl)) ?_
  intro a hE
  refine ev_run (v := .int .i64 (e + lp)) (w' := w2) hE rfl rfl (by decide) (ei_add (hE.get 25 rfl) (hE.get 26 rfl) (by rw [IntKind.wrap_i64]; omega)) ?_
  intro a hE
  refine ev_run (v := .int .i64 (e + lp + 3)) (w' := w2) hE rfl rfl (by decide) (ei_add (hE.get 27 rfl) rfl (by rw [IntKind.wrap_i64]; omega)) ?_
  intro a hE
  refine ev_run (v := .int .i64 (-(e + lp + 3))) (w' := w2) hE rfl rfl (by decide) (ei_neg (hE.get 28 rfl) (by rw [IntKind.wrap_i64]; omega)) ?_
  intro a hE
  refine ev_nc hE (hE.get 24 rfl) (by decide) ?_
  intro a hE
  refine ev_run (w' := w2) hE rfl rfl (by decide) (ex_fa (hE.get 30 rfl) (fa_sc_2 _)) ?_
  intro a hE
  refine ev_sc (v := .int .i64 (-(e + lp + 3))) hE (st_int _) (hE.get 31 rfl) (hE.get 29 rfl) hg (show 2 < 3 from by decide) ?_
  intro w3 hg ho3
  refine wpList_nil ?_
  exact end_ev hE rfl ⟨rfl, hg, ((ho1.trans ho2).trans ho3).mono fun x _ h => by rcases h with (h | h) | h <;> exact h⟩
end Go.Proofs.YtkddkmiomhadaaaDoor
/-! strconv.fixedWidthFloat, as far as eighths need it. -/
namespace Go.Proofs.YtkddkmiomhadaaaDoor
open Go.RowKit
noncomputable def fxBody : Code := Tryd.f67.body.getD .skip
theorem div40 (d : Nat) (hd : d ≤ 130000) (w : World) : Calls Tryd.prog 86 #[.int .u64 ((40 * d : Nat) : Int), .int .u64 10] w fun e w' => e = .returned (.int .u64 ((4 * d : Nat) : Int)) ∧ ∃ n, w' = w.drewN n := by
  have := div_any (40 * d) (by omega) (by omega) w
  rw [show 40 * d / 10 = 4 * d by omega] at this
  exact this
set_option maxRecDepth 100000 in
theorem fixed_tail {R : Ending → World → Prop} (d : Nat) (hd : d ≤ 130000) (k : Nat) (hk : k ≤ 1) (a : Act) (w : World) (hE : Ev 50 ((13, .int .u64 ((4 * d * 10 ^ k : Nat) : Int)) :: (11, .int .i64 ((3 + k : Nat) : Int)) :: (3, .int .i64 3) :: (4, .int .u8 102) :: []) a) (hR : ∀ n, R (.returned (.tuple #[.int .u64 d, .int .i64 (-3)])) (w.drewN n)) :
    Code.wp Tryd.prog (cB (cB (cB (cB (cB (cB fxBody)))))) (bodyPost Tryd.prog Tryd.f67 R) a w := by
  have fin : ∀ (n : Nat) (a : Act), Ev 50 ((13, .int .u64 ((4 * d * 10 ^ 0 : Nat) : Int)) :: (11, .int .i64 ((3 + 0 : Nat) : Int)) :: (3, .int .i64 3) :: (4, .int .u8 102) :: []) a → Code.wp Tryd.prog (cB (cB (cB (cB (cB (cB (cB fxBody))))))) (bodyPost Tryd.prog Tryd.f67 R) a (w.drewN n) := by
    intro n a hE
    refine wp_seq ?_
    refine wp_region_lit ?_
    rw [show 4 * d * 10 ^ 0 = 4 * d by omega] at hE
    have hE : Ev 50 ((13, .int .u64 ((4 * d : Nat) : Int)) :: (11, .int .i64 3) :: (3, .int .i64 3) :: (4, .int .u8 102) :: []) a := hE
    refine ev_run (w' := (w.drewN n)) hE rfl rfl (by decide) (ex_mv (hE.get 13 rfl)) ?_
    intro a hE
    refine ev_call (S := fun u w' => u = .int .u64 d ∧ (w.drewN n) = w') hE rfl rfl (by decide) (f := 84) (args := #[.int .u64 ((4 * d : Nat) : Int)]) (by simp only [execOp, resolve, List.map_toArray, List.map_cons, List.map_nil, hE.get 46 rfl]; go_simp) (Calls.mono (round_any d (by omega) (w.drewN n)) (by rintro e w' ⟨rfl, h⟩; exact ⟨_, rfl, rfl, h.symm⟩)) ?_
    rintro a u wx ⟨rfl, rfl⟩ hE
    refine ev_run (w' := (w.drewN n)) hE rfl rfl (by decide) (ex_mv (hE.get 11 rfl)) ?_
    intro a hE
    refine ev_run (v := .int .i64 (-3)) (w' := (w.drewN n)) hE rfl rfl (by decide) (ei_neg (hE.get 48 rfl) (by decide)) ?_
    intro a hE
    refine ev_run (w' := (w.drewN n)) hE rfl rfl (by decide) (ex_as (hE.get 47 rfl)) ?_
    intro a hE
    refine ev_run (w' := (w.drewN n)) hE rfl rfl (by decide) (ex_as (hE.get 49 rfl)) ?_
    intro a hE
    refine wpList_nil ?_
    show Code.wp _ _ _ _ _
    refine wp_ret ?_
    exact ret2_of_ev hE rfl (hE.get 10 rfl) (hE.get 11 rfl) (hR n)
  refine wp_seq ?_
  refine wp_seq ?_
  refine wp_region_lit ?_
  refine ev_run (w' := w) hE rfl rfl (by decide) (ex_mv (hE.get 4 rfl)) ?_
  intro a hE
  refine ev_run (v := .bool true) (w' := w) hE rfl rfl (by decide) (by simp only [execOp, hE.get 37 rfl]; go_simp) ?_
  intro a hE
  refine wpList_nil ?_
  show Code.wp _ _ _ _ _
  refine wp_cond_split (hE.get 38 rfl) (fun _ => ?_) (fun h => by cases h)
  refine wp_block ?_
  refine wp_loop (fun a wr => ∃ (k n : Nat), k ≤ 1 ∧ wr = w.drewN n ∧ Ev 50 ((13, .int .u64 ((4 * d * 10 ^ k : Nat) : Int)) :: (11, .int .i64 ((3 + k : Nat) : Int)) :: (3, .int .i64 3) :: (4, .int .u8 102) :: []) a) (fun a _ => (RowKit.intOf (a.eval (.tmp 11))).toNat) ⟨k, 0, hk, rfl, hE.pick rfl⟩ ?_
  rintro a wr ⟨k, n, hk, rfl, hE⟩
  have e11 : a.eval (.tmp 11) = .int .i64 ((3 + k : Nat) : Int) := hE.get 11 rfl
  refine wp_seq ?_
  refine wp_seq ?_
  refine wp_region_lit ?_
  refine ev_run (w' := (w.drewN n)) hE rfl rfl (by decide) (ex_mv (hE.get 11 rfl)) ?_
  intro a hE
  refine ev_run (w' := (w.drewN n)) hE rfl rfl (by decide) (ex_mv (hE.get 3 rfl)) ?_
  intro a hE
  refine ev_run (v := .bool (decide (k = 1))) (w' := (w.drewN n)) hE rfl rfl (by decide) (ei_gtr (hE.get 39 rfl) (hE.get 40 rfl) (by rw [decide_eq_decide]; omega)) ?_
  intro a hE
  refine wpList_nil ?_
  show Code.wp _ _ _ _ _
  refine wp_cond_split (hE.get 41 rfl) (fun hb => ?_) (fun hb => ?_)
  · have hk1 : k = 1 := of_decide_eq_true hb
    subst hk1
    refine wp_skip ?_
    show Code.wp _ _ _ _ _
    have hE : Ev 50 ((13, .int .u64 ((4 * d * 10 ^ 1 : Nat) : Int)) :: (11, .int .i64 ((3 + 1 : Nat) : Int)) :: (3, .int .i64 3) :: (4, .int .u8 102) :: []) a := hE.pick rfl
    refine wp_block ?_
    refine wp_seq ?_
    refine wp_region_lit ?_
    rw [show 4 * d * 10 ^ 1 = 40 * d by omega] at hE
    refine ev_run (w' := (w.drewN n)) hE rfl rfl (by decide) (ex_mv (hE.get 13 rfl)) ?_
    intro a hE
    refine ev_call (S := fun u w' => u = .int .u64 ((4 * d : Nat) : Int) ∧ ∃ nz, w' = World.drewN (w.drewN n) nz) hE rfl rfl (by decide) (f := 86) (args := #[.int .u64 ((40 * d : Nat) : Int), .int .u64 10]) (by simp only [execOp, resolve, List.map_toArray, List.map_cons, List.map_nil, hE.get 42 rfl]; go_simp) ((div40 d hd (w.drewN n)).mono (by rintro e w' ⟨rfl, h⟩; exact ⟨_, rfl, rfl, h⟩)) ?_
    rintro a u wd ⟨rfl, ⟨m, rfl⟩⟩ hE
    refine ev_as hE (hE.get 43 rfl) (by decide) ?_
    intro a hE
    rw [World.drewN_drewN]
    refine wpList_nil ?_
    show Code.wp _ _ _ _ _
    refine wp_region_lit ?_
    refine ev_run (w' := (w.drewN (n + m))) hE rfl rfl (by decide) (ex_mv (hE.get 11 rfl)) ?_
    intro a hE
    refine ev_run (v := .int .i64 3) (w' := (w.drewN (n + m))) hE rfl rfl (by decide) (ei_sub (hE.get 44 rfl) rfl (by decide)) ?_
    intro a hE
    refine ev_run (w' := (w.drewN (n + m))) hE rfl rfl (by decide) (ex_as (hE.get 45 rfl)) ?_
    intro a hE
    refine wpList_nil ?_
    have hE : Ev 50 ((13, .int .u64 ((4 * d * 10 ^ 0 : Nat) : Int)) :: (11, .int .i64 ((3 + 0 : Nat) : Int)) :: (3, .int .i64 3) :: (4, .int .u8 102) :: []) a := by rw [show 4 * d * 10 ^ 0 = 4 * d by omega]; exact hE.pick rfl
    refine ⟨⟨0, n + m, by decide, rfl, hE⟩, ?_⟩
    have h5 : a.eval (.tmp 11) = .int .i64 ((3 + 0 : Nat) : Int) := hE.get 11 rfl
    rw [h5, e11]
    decide
  · have hk0 : k = 0 := by have := of_decide_eq_false hb; omega
    subst hk0
    refine wp_exit ?_
    simp only [Exit.then, Exit.inBlock, if_true]
    exact fin n a (hE.pick rfl)
end Go.Proofs.YtkddkmiomhadaaaDoor
/-! strconv.fixedWidthFloat at three and four digits behind the point. -/
namespace Go.Proofs.YtkddkmiomhadaaaDoor
open Go.RowKit
theorem ix_pow {a : Act} {w : World} {dst : Option Nat} {ty : TypeId} {ps : String} {af : Array Edge} {gd : Option (Nat × Bool)} {t : Nat} (dg : Nat) (h : dg = 4 ∨ dg = 5 ∨ dg = 6) (hx : a.eval (.tmp t) = .int .i64 dg) : (execOp a.eval ⟨dst, .indexAddr 118 (.global 1) (.tmp t), ty, ps, af, gd⟩).run Tryd.prog w = .ok (.value (pt 1 dg)) w := by
  rcases h with rfl | rfl | rfl <;> (simp only [execOp, hx]; go_simp)
set_option maxRecDepth 100000 in
theorem fixed3 (m dg sh d : Nat) (E L y : Int) (hL : ∀ w, Calls Tryd.prog 55 #[.int .i64 E] w fun e w' => e = .returned (.int .i64 L) ∧ w' = w) (hEb : -10 ≤ E ∧ E ≤ 10) (hp : (dg : Int) - 1 - L = 3) (hdg : (dg = 4 ∧ y = 10000) ∨ (dg = 5 ∧ y = 100000) ∨ (dg = 6 ∧ y = 1000000))
    (hsh : -(E - 63 + 9 + 3) = (sh : Int)) (hshb : sh < 64) (hm : m < 18446744073709551616) (h0 : m * 18014398509481984000 % 18446744073709551616 = 0) (hh : m * 18014398509481984000 / 18446744073709551616 = (4 * d : Nat) * 2 ^ sh) (hd : d ≤ 130000) (hc : ((4 * d : Nat) : Int) < y * 4 - 2) (w : World) (hT : ∀ w', Below w.heap.size w w' → PmTab w' ∧ w'.cell? ⟨1, dg, none⟩ = some (.int .u64 y)) :
    Calls Tryd.prog 67 #[.int .u64 m, .int .i64 (E - 63), .int .i64 dg, .int .i64 3, .int .u8 102] w fun e w' => e = .returned (.tuple #[.int .u64 d, .int .i64 (-3)]) ∧ Below w.heap.size w w' := by
  have hdg' : dg = 4 ∨ dg = 5 ∨ dg = 6 := by omega
  have hy : y = 10000 ∨ y = 100000 ∨ y = 1000000 := by omega
  refine calls_of_ev Tryd.func67 rfl (show 5 ≤ 50 from by decide) ?_
  intro a hE
  have hE : Ev 50 ((0, .int .u64 m) :: (1, .int .i64 (E - 63)) :: (2, .int .i64 dg) :: (3, .int .i64 3) :: (4, .int .u8 102) :: []) a := hE
  refine wp_seq ?_
  refine wp_region_lit ?_
  refine ev_ac hE (by decide) ?_
  intro a hE
  refine ev_ac hE (by decide) ?_
  intro a hE
  refine wpList_nil ?_
  show Code.wp _ _ _ _ _
  refine wp_seq ?_
  refine wp_region_lit ?_
  refine ev_run (w' := w) hE rfl rfl (by decide) (ex_mv (hE.get 2 rfl)) ?_
  intro a hE
  refine ev_run (v := .int .i64 ((dg : Int) - 1)) (w' := w) hE rfl rfl (by decide) (ei_sub (hE.get 14 rfl) rfl (by rw [IntKind.wrap_i64]; omega)) ?_
  intro a hE
  refine ev_run (w' := w) hE rfl rfl (by decide) (ex_mv (hE.get 1 rfl)) ?_
  intro a hE
  refine ev_run (v := .int .i64 E) (w' := w) hE rfl rfl (by decide) (ei_add (hE.get 16 rfl) rfl (by rw [IntKind.wrap_i64]; omega)) ?_
  intro a hE
  refine ev_call (S := fun u w' => u = .int .i64 L ∧ w = w') hE rfl rfl (by decide) (f := 55) (args := #[.int .i64 E]) (by simp only [execOp, resolve, List.map_toArray, List.map_cons, List.map_nil, hE.get 17 rfl]; go_simp) (Calls.mono (hL w) (by rintro e w' ⟨rfl, h⟩; exact ⟨_, rfl, rfl, h.symm⟩)) ?_
  rintro a u wx ⟨rfl, rfl⟩ hE
  refine ev_run (v := .int .i64 3) (w' := w) hE rfl rfl (by decide) (ei_sub (hE.get 15 rfl) (hE.get 18 rfl) (by rw [hp]; decide)) ?_
  intro a hE
  refine ev_run (w' := w) hE rfl rfl (by decide) (ex_as (hE.get 19 rfl)) ?_
  intro a hE
  refine wpList_nil ?_
  show Code.wp _ _ _ _ _
  refine wp_seq ?_
  refine wp_region_lit ?_
  refine ev_al hE al_sc (by decide) ?_
  intro a w1 hE hg hbl1 hs1
  refine wpList_nil ?_
  show Code.wp _ _ _ _ _
  refine wp_seq ?_
  refine wp_region_lit ?_
  refine ev_run (w' := w1) hE rfl rfl (by decide) (ex_mv (hE.get 1 rfl)) ?_
  intro a hE
  refine ev_run (w' := w1) hE rfl rfl (by decide) (ex_mv (hE.get 11 rfl)) ?_
  intro a hE
  refine ev_run (w' := w1) hE rfl rfl (by decide) (ex_mv (hE.get 11 rfl)) ?_
  intro a hE
  refine ev_call (S := fun u w' => u = .int .i64 9 ∧ w1 = w') hE rfl rfl (by decide) (f := 79) (args := #[.int .i64 3]) (by simp only [execOp, resolve, List.map_toArray, List.map_cons, List.map_nil, hE.get 22 rfl]; go_simp) (Calls.mono (l2_any 3 (by decide) w1) (by rintro e w' ⟨rfl, h⟩; exact ⟨_, rfl, rfl, h.symm⟩)) ?_
  rintro a u wx ⟨rfl, rfl⟩ hE
  refine ev_call (S := fun u w' => w'.heap[w.heap.size]? = some (.cells #[.int .u64 (18014398509481984000 : Nat), .int .u64 (0 : Nat), .int .i64 (-(E - 63 + 9 + 3))] 144 (0, 0)) ∧ Only (fun x => x = w.heap.size) w1 w') hE rfl rfl (by decide) (f := 78) (args := #[pt w.heap.size 0, .int .i64 (E - 63), .int .i64 3, .int .i64 9]) (by simp only [execOp, resolve, List.map_toArray, List.map_cons, List.map_nil, hE.get 12 rfl, hE.get 20 rfl, hE.get 21 rfl, hE.get 23 rfl]; go_simp)
    ((prescale3 w.heap.size (E - 63) 9 (by omega) (by decide) w1 (fun w' ho => (hT w' (hbl1.trans (only_bel ho hbl1.size (Nat.le_refl _)))).1) hg).mono (by rintro e w' ⟨rfl, h1, h2⟩; exact ⟨_, rfl, h1, h2⟩)) ?_
  rintro a u w2 ⟨hg, ho2⟩ hE
  rw [hsh] at hg
  have hb2 : Below w.heap.size w w2 := hbl1.trans (only_bel ho2 hbl1.size (Nat.le_refl _))
  refine wpList_nil ?_
  show Code.wp _ _ _ _ _
  refine wp_seq ?_
  refine wp_region_lit ?_
  refine ev_run (w' := w2) hE rfl rfl (by decide) (ex_mv (hE.get 0 rfl)) ?_
  intro a hE
  refine ev_call (S := fun u w' => u = .int .u64 (4 * d : Nat) ∧ ∃ n, w' = w2.drewN n) hE rfl rfl (by decide) (f := 80) (args := #[.int .u64 m, pt w.heap.size 0]) (by simp only [execOp, resolve, List.map_toArray, List.map_cons, List.map_nil, hE.get 25 rfl, hE.get 12 rfl]; go_simp)
    ((uscale_any m 18014398509481984000 (4 * d : Nat) sh w.heap.size hm (by decide) h0 hh hshb w2 hg).mono (by rintro e w' ⟨rfl, h⟩; exact ⟨_, rfl, rfl, h⟩)) ?_
  rintro a u w3 ⟨rfl, n, rfl⟩ hE
  refine ev_as hE (hE.get 26 rfl) (by decide) ?_
  intro a hE
  refine wpList_nil ?_
  show Code.wp _ _ _ _ _
  refine wp_seq ?_
  refine wp_seq ?_
  refine wp_region_lit ?_
  have hpw : (w2.drewN n).cell? ⟨1, dg, none⟩ = some (.int .u64 y) := (hT _ (hb2.trans (drewN_below w2 n _))).2
  refine ev_run (w' := (w2.drewN n)) hE rfl rfl (by decide) (ex_mv (hE.get 13 rfl)) ?_
  intro a hE
  refine ev_run (w' := (w2.drewN n)) hE rfl rfl (by decide) (ex_mv (hE.get 2 rfl)) ?_
  intro a hE
  refine ev_run (v := pt 1 dg) (w' := w2.drewN n) hE rfl rfl (by decide) (ix_pow dg hdg' (hE.get 28 rfl)) ?_
  intro a hE
  refine ev_run (v := .int .u64 y) (w' := (w2.drewN n)) hE rfl rfl (by decide) (ex_ld (hE.get 29 rfl) ld_u64 hpw) ?_
  intro a hE
  refine ev_call (S := fun u w' => u = .int .u64 (y * 4 - 2) ∧ (w2.drewN n) = w') hE rfl rfl (by decide) (f := 85) (args := #[.int .u64 y]) (by simp only [execOp, resolve, List.map_toArray, List.map_cons, List.map_nil, hE.get 30 rfl]; go_simp) (Calls.mono (unmin_any y hy (w2.drewN n)) (by rintro e w' ⟨rfl, h⟩; exact ⟨_, rfl, rfl, h.symm⟩)) ?_
  rintro a u wx ⟨rfl, rfl⟩ hE
  refine ev_run (v := .bool false) (w' := (w2.drewN n)) hE rfl rfl (by decide) (ei_geq (hE.get 27 rfl) (hE.get 31 rfl) (decide_eq_false (by omega))) ?_
  intro a hE
  refine wpList_nil ?_
  show Code.wp _ _ _ _ _
  refine wp_cond_split (hE.get 32 rfl) (fun h => by cases h) (fun _ => ?_)
  refine wp_skip ?_
  show Code.wp _ _ _ _ _
  exact fixed_tail d hd 0 (by decide) a _ (by rw [show 4 * d * 10 ^ 0 = 4 * d by omega]; exact hE.pick rfl) (fun n' => ⟨rfl, hb2.trans ((drewN_below w2 _ _).trans (drewN_below _ n' _))⟩)
set_option maxRecDepth 100000 in
theorem fixed4 (m dg sh d : Nat) (E L y : Int) (hL : ∀ w, Calls Tryd.prog 55 #[.int .i64 E] w fun e w' => e = .returned (.int .i64 L) ∧ w' = w) (hEb : -10 ≤ E ∧ E ≤ 10) (hp : (dg : Int) - 1 - L = 4) (hdg : (dg = 4 ∧ y = 10000) ∨ (dg = 5 ∧ y = 100000) ∨ (dg = 6 ∧ y = 1000000))
    (hsh : -(E - 63 + 13 + 3) = (sh : Int)) (hshb : sh < 64) (hm : m < 18446744073709551616) (h0 : m * 11258999068426240000 % 18446744073709551616 = 0) (hh : m * 11258999068426240000 / 18446744073709551616 = (40 * d : Nat) * 2 ^ sh) (hd : d ≤ 130000) (w : World) (hT : ∀ w', Below w.heap.size w w' → PmTab w' ∧ w'.cell? ⟨1, dg, none⟩ = some (.int .u64 y)) :
    Calls Tryd.prog 67 #[.int .u64 m, .int .i64 (E - 63), .int .i64 dg, .int .i64 3, .int .u8 102] w fun e w' => e = .returned (.tuple #[.int .u64 d, .int .i64 (-3)]) ∧ Below w.heap.size w w' := by
  have hdg' : dg = 4 ∨ dg = 5 ∨ dg = 6 := by omega
  have hy : y = 10000 ∨ y = 100000 ∨ y = 1000000 := by omega
  refine calls_of_ev Tryd.func67 rfl (show 5 ≤ 50 from by decide) ?_
  intro a hE
  have hE : Ev 50 ((0, .int .u64 m) :: (1, .int .i64 (E - 63)) :: (2, .int .i64 dg) :: (3, .int .i64 3) :: (4, .int .u8 102) :: []) a := hE
  refine wp_seq ?_
  refine wp_region_lit ?_
  refine ev_ac hE (by decide) ?_
  intro a hE
  refine ev_ac hE (by decide) ?_
  intro a hE
  refine wpList_nil ?_
  show Code.wp _ _ _ _ _
  refine wp_seq ?_
  refine wp_region_lit ?_
  refine ev_run (w' := w) hE rfl rfl (by decide) (ex_mv (hE.get 2 rfl)) ?_
  intro a hE
  refine ev_run (v := .int .i64 ((dg : Int) - 1)) (w' := w) hE rfl rfl (by decide) (ei_sub (hE.get 14 rfl) rfl (by rw [IntKind.wrap_i64]; omega)) ?_
  intro a hE
  refine ev_run (w' := w) hE rfl rfl (by decide) (ex_mv (hE.get 1 rfl)) ?_
  intro a hE
  refine ev_run (v := .int .i64 E) (w' := w) hE rfl rfl (by decide) (ei_add (hE.get 16 rfl) rfl (by rw [IntKind.wrap_i64]; omega)) ?_
  intro a hE
  refine ev_call (S := fun u w' => u = .int .i64 L ∧ w = w') hE rfl rfl (by decide) (f := 55) (args := #[.int .i64 E]) (by simp only [execOp, resolve, List.map_toArray, List.map_cons, List.map_nil, hE.get 17 rfl]; go_simp) (Calls.mono (hL w) (by rintro e w' ⟨rfl, h⟩; exact ⟨_, rfl, rfl, h.symm⟩)) ?_
  rintro a u wx ⟨rfl, rfl⟩ hE
  refine ev_run (v := .int .i64 4) (w' := w) hE rfl rfl (by decide) (ei_sub (hE.get 15 rfl) (hE.get 18 rfl) (by rw [hp]; decide)) ?_
  intro a hE
  refine ev_run (w' := w) hE rfl rfl (by decide) (ex_as (hE.get 19 rfl)) ?_
  intro a hE
  refine wpList_nil ?_
  show Code.wp _ _ _ _ _
  refine wp_seq ?_
  refine wp_region_lit ?_
  refine ev_al hE al_sc (by decide) ?_
  intro a w1 hE hg hbl1 hs1
  refine wpList_nil ?_
  show Code.wp _ _ _ _ _
  refine wp_seq ?_
  refine wp_region_lit ?_
  refine ev_run (w' := w1) hE rfl rfl (by decide) (ex_mv (hE.get 1 rfl)) ?_
  intro a hE
  refine ev_run (w' := w1) hE rfl rfl (by decide) (ex_mv (hE.get 11 rfl)) ?_
  intro a hE
  refine ev_run (w' := w1) hE rfl rfl (by decide) (ex_mv (hE.get 11 rfl)) ?_
  intro a hE
  refine ev_call (S := fun u w' => u = .int .i64 13 ∧ w1 = w') hE rfl rfl (by decide) (f := 79) (args := #[.int .i64 4]) (by simp only [execOp, resolve, List.map_toArray, List.map_cons, List.map_nil, hE.get 22 rfl]; go_simp) (Calls.mono (l2_any 4 (by decide) w1) (by rintro e w' ⟨rfl, h⟩; exact ⟨_, rfl, rfl, h.symm⟩)) ?_
  rintro a u wx ⟨rfl, rfl⟩ hE
  refine ev_call (S := fun u w' => w'.heap[w.heap.size]? = some (.cells #[.int .u64 (11258999068426240000 : Nat), .int .u64 (0 : Nat), .int .i64 (-(E - 63 + 13 + 3))] 144 (0, 0)) ∧ Only (fun x => x = w.heap.size) w1 w') hE rfl rfl (by decide) (f := 78) (args := #[pt w.heap.size 0, .int .i64 (E - 63), .int .i64 4, .int .i64 13]) (by simp only [execOp, resolve, List.map_toArray, List.map_cons, List.map_nil, hE.get 12 rfl, hE.get 20 rfl, hE.get 21 rfl, hE.get 23 rfl]; go_simp)
    ((prescale4 w.heap.size (E - 63) 13 (by omega) (by decide) w1 (fun w' ho => (hT w' (hbl1.trans (only_bel ho hbl1.size (Nat.le_refl _)))).1) hg).mono (by rintro e w' ⟨rfl, h1, h2⟩; exact ⟨_, rfl, h1, h2⟩)) ?_
  rintro a u w2 ⟨hg, ho2⟩ hE
  rw [hsh] at hg
  have hb2 : Below w.heap.size w w2 := hbl1.trans (only_bel ho2 hbl1.size (Nat.le_refl _))
  refine wpList_nil ?_
  show Code.wp _ _ _ _ _
  refine wp_seq ?_
  refine wp_region_lit ?_
  refine ev_run (w' := w2) hE rfl rfl (by decide) (ex_mv (hE.get 0 rfl)) ?_
  intro a hE
  refine ev_call (S := fun u w' => u = .int .u64 (40 * d : Nat) ∧ ∃ n, w' = w2.drewN n) hE rfl rfl (by decide) (f := 80) (args := #[.int .u64 m, pt w.heap.size 0]) (by simp only [execOp, resolve, List.map_toArray, List.map_cons, List.map_nil, hE.get 25 rfl, hE.get 12 rfl]; go_simp)
    ((uscale_any m 11258999068426240000 (40 * d : Nat) sh w.heap.size hm (by decide) h0 hh hshb w2 hg).mono (by rintro e w' ⟨rfl, h⟩; exact ⟨_, rfl, rfl, h⟩)) ?_
  rintro a u w3 ⟨rfl, n, rfl⟩ hE
  refine ev_as hE (hE.get 26 rfl) (by decide) ?_
  intro a hE
  refine wpList_nil ?_
  show Code.wp _ _ _ _ _
  refine wp_seq ?_
  refine wp_seq ?_
  refine wp_region_lit ?_
  have hpw : (w2.drewN n).cell? ⟨1, dg, none⟩ = some (.int .u64 y) := (hT _ (hb2.trans (drewN_below w2 n _))).2
  refine ev_run (w' := (w2.drewN n)) hE rfl rfl (by decide) (ex_mv (hE.get 13 rfl)) ?_
  intro a hE
  refine ev_run (w' := (w2.drewN n)) hE rfl rfl (by decide) (ex_mv (hE.get 2 rfl)) ?_
  intro a hE
  refine ev_run (v := pt 1 dg) (w' := w2.drewN n) hE rfl rfl (by decide) (ix_pow dg hdg' (hE.get 28 rfl)) ?_
  intro a hE
  refine ev_run (v := .int .u64 y) (w' := (w2.drewN n)) hE rfl rfl (by decide) (ex_ld (hE.get 29 rfl) ld_u64 hpw) ?_
  intro a hE
  refine ev_call (S := fun u w' => u = .int .u64 (y * 4 - 2) ∧ (w2.drewN n) = w') hE rfl rfl (by decide) (f := 85) (args := #[.int .u64 y]) (by simp only [execOp, resolve, List.map_toArray, List.map_cons, List.map_nil, hE.get 30 rfl]; go_simp) (Calls.mono (unmin_any y hy (w2.drewN n)) (by rintro e w' ⟨rfl, h⟩; exact ⟨_, rfl, rfl, h.symm⟩)) ?_
  rintro a u wx ⟨rfl, rfl⟩ hE
  refine ev_run (v := .bool (decide (y * 4 - 2 ≤ ((40 * d : Nat) : Int)))) (w' := (w2.drewN n)) hE rfl rfl (by decide) (ei_geq (hE.get 27 rfl) (hE.get 31 rfl) rfl) ?_
  intro a hE
  refine wpList_nil ?_
  show Code.wp _ _ _ _ _
  refine wp_cond_split (hE.get 32 rfl) (fun _ => ?_) (fun _ => ?_)
  · refine wp_seq ?_
    refine wp_region_lit ?_
    refine ev_mv hE (hE.get 13 rfl) (by decide) ?_
    intro a hE
    refine ev_call (S := fun u w' => u = .int .u64 ((4 * d : Nat) : Int) ∧ ∃ nz, w' = World.drewN (w2.drewN n) nz) hE rfl rfl (by decide) (f := 86) (args := #[.int .u64 ((40 * d : Nat) : Int), .int .u64 10]) (by simp only [execOp, resolve, List.map_toArray, List.map_cons, List.map_nil, hE.get 33 rfl]; go_simp) ((div40 d hd (w2.drewN n)).mono (by rintro e w' ⟨rfl, h⟩; exact ⟨_, rfl, rfl, h⟩)) ?_
    rintro a u w4 ⟨rfl, n2, rfl⟩ hE
    refine ev_as hE (hE.get 34 rfl) (by decide) ?_
    intro a hE
    refine wpList_nil ?_
    show Code.wp _ _ _ _ _
    refine wp_region_lit ?_
    refine ev_run (w' := _) hE rfl rfl (by decide) (ex_mv (hE.get 11 rfl)) ?_
    intro a hE
    refine ev_run (v := .int .i64 3) (w' := _) hE rfl rfl (by decide) (ei_sub (hE.get 35 rfl) rfl (by decide)) ?_
    intro a hE
    refine ev_run (w' := _) hE rfl rfl (by decide) (ex_as (hE.get 36 rfl)) ?_
    intro a hE
    refine wpList_nil ?_
    show Code.wp _ _ _ _ _
    exact fixed_tail d hd 0 (by decide) a _ (by rw [show 4 * d * 10 ^ 0 = 4 * d by omega]; exact hE.pick rfl) (fun n' => ⟨rfl, hb2.trans ((drewN_below w2 _ _).trans ((drewN_below _ n2 _).trans (drewN_below _ n' _)))⟩)
  · refine wp_skip ?_
    show Code.wp _ _ _ _ _
    exact fixed_tail d hd 1 (by decide) a _ (by rw [show 4 * d * 10 ^ 1 = 40 * d by omega]; exact hE.pick rfl) (fun n' => ⟨rfl, hb2.trans ((drewN_below w2 _ _).trans (drewN_below _ n' _))⟩)
end Go.Proofs.YtkddkmiomhadaaaDoor
