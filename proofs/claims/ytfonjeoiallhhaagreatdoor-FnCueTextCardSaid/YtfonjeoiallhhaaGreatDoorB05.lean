/- Joined: Ffd, Ffe, Ffg, Ffh, Ffi. -/
import Derived.Test.YtfonjeoiallhhaaGreatDoorB04
/- strconv.fixedWidthFloat, as far as eighths need it. -/
set_option maxRecDepth 100000
namespace Go.Proofs.YtfonjeoiallhhaaGreatDoor
open Go.RowKit
noncomputable def fxBody : Code := Tryz.f91.body.getD .skip
theorem div40 (d : Nat) (hd : d ≤ 130000) (w : World) : Calls Tryz.prog 113 #[.int .u64 ((40 * d : Nat) : Int), .int .u64 10] w fun e w' => e = .returned (.int .u64 ((4 * d : Nat) : Int)) ∧ ∃ n, w' = w.drewN n := by
 have := div_any (40 * d) (by omega) (by omega) w
 rw [show 40 * d / 10 = 4 * d by omega] at this
 exact this
theorem fixed_tail {R : Ending → World → Prop} (d : Nat) (hd : d ≤ 130000) (k : Nat) (hk : k ≤ 1) (a : Act) (w : World) (hE : Ev 50 ((13, .int .u64 ((4 * d * 10 ^ k : Nat) : Int)) :: (11, .int .i64 ((3 + k : Nat) : Int)) :: (3, .int .i64 3) :: (4, .int .u8 102) :: []) a) (hR : ∀ n, R (.returned (.tuple #[.int .u64 d, .int .i64 (-3)])) (w.drewN n)) :
  Code.wp Tryz.prog (cB (cB (cB (cB (cB (cB fxBody)))))) (bodyPost Tryz.prog Tryz.f91 R) a w := by
 have fin : ∀ (n : Nat) (a : Act), Ev 50 ((13, .int .u64 ((4 * d * 10 ^ 0 : Nat) : Int)) :: (11, .int .i64 ((3 + 0 : Nat) : Int)) :: (3, .int .i64 3) :: (4, .int .u8 102) :: []) a → Code.wp Tryz.prog (cB (cB (cB (cB (cB (cB (cB fxBody))))))) (bodyPost Tryz.prog Tryz.f91 R) a (w.drewN n) := by
  intro n a hE
  refine wp_seq ?_
  refine wp_region_lit ?_
  rw [show 4 * d * 10 ^ 0 = 4 * d by omega] at hE
  have hE : Ev 50 ((13, .int .u64 ((4 * d : Nat) : Int)) :: (11, .int .i64 3) :: (3, .int .i64 3) :: (4, .int .u8 102) :: []) a := hE
  refine ev_r (w' := (w.drewN n)) hE (ex_mv (hE.get 13 rfl)) fun a hE => ?_
  refine ev_call (S := fun u w' => u = .int .u64 d ∧ (w.drewN n) = w') hE rfl rfl (by decide) (f := 111) (args := #[.int .u64 ((4 * d : Nat) : Int)]) (by simp only [execOp, resolve, List.map_toArray, List.map_cons, List.map_nil, hE.get 46 rfl]; go_simp) (Calls.mono (round_any d (by omega) (w.drewN n)) (by rintro e w' ⟨rfl, h⟩; exact ⟨_, rfl, rfl, h.symm⟩)) ?_
  rintro a u wx ⟨rfl, rfl⟩ hE
  refine ev_r (w' := (w.drewN n)) hE (ex_mv (hE.get 11 rfl)) fun a hE => ?_
  refine ev_r (v := .int .i64 (-3)) (w' := (w.drewN n)) hE (ei_neg (hE.get 48 rfl) (by decide)) fun a hE => ?_
  refine ev_r (w' := (w.drewN n)) hE (ex_as (hE.get 47 rfl)) fun a hE => ?_
  refine ev_r (w' := (w.drewN n)) hE (ex_as (hE.get 49 rfl)) fun a hE => ?_
  refine nx1 ?_
  refine wp_ret ?_
  exact ret2_of_ev hE rfl (hE.get 10 rfl) (hE.get 11 rfl) (hR n)
 refine wp_seq ?_
 refine wp_seq ?_
 refine wp_region_lit ?_
 refine ev_r (w' := w) hE (ex_mv (hE.get 4 rfl)) fun a hE => ?_
 refine ev_r (v := .bool true) (w' := w) hE (by simp only [execOp, hE.get 37 rfl]; go_simp) fun a hE => ?_
 refine nx1 ?_
 refine wp_cond_split (hE.get 38 rfl) (fun _ => ?_) (fun h => by cases h)
 refine wp_block ?_
 refine wp_loop (fun a wr => ∃ (k n : Nat), k ≤ 1 ∧ wr = w.drewN n ∧ Ev 50 ((13, .int .u64 ((4 * d * 10 ^ k : Nat) : Int)) :: (11, .int .i64 ((3 + k : Nat) : Int)) :: (3, .int .i64 3) :: (4, .int .u8 102) :: []) a) (fun a _ => (RowKit.intOf (a.eval (.tmp 11))).toNat) ⟨k, 0, hk, rfl, hE.pick rfl⟩ ?_
 rintro a wr ⟨k, n, hk, rfl, hE⟩
 have e11 : a.eval (.tmp 11) = .int .i64 ((3 + k : Nat) : Int) := hE.get 11 rfl
 refine wp_seq ?_
 refine wp_seq ?_
 refine wp_region_lit ?_
 refine ev_r (w' := (w.drewN n)) hE (ex_mv (hE.get 11 rfl)) fun a hE => ?_
 refine ev_r (w' := (w.drewN n)) hE (ex_mv (hE.get 3 rfl)) fun a hE => ?_
 refine ev_r (v := .bool (decide (k = 1))) (w' := (w.drewN n)) hE (ei_gtr (hE.get 39 rfl) (hE.get 40 rfl) (by rw [decide_eq_decide]; omega)) fun a hE => ?_
 refine nx1 ?_
 refine wp_cond_split (hE.get 41 rfl) (fun hb => ?_) (fun hb => ?_)
 ·have hk1 : k = 1 := of_decide_eq_true hb
  subst hk1
  refine wp_skip ?_
  show Code.wp _ _ _ _ _
  have hE : Ev 50 ((13, .int .u64 ((4 * d * 10 ^ 1 : Nat) : Int)) :: (11, .int .i64 ((3 + 1 : Nat) : Int)) :: (3, .int .i64 3) :: (4, .int .u8 102) :: []) a := hE.pick rfl
  refine wp_block ?_
  refine wp_seq ?_
  refine wp_region_lit ?_
  rw [show 4 * d * 10 ^ 1 = 40 * d by omega] at hE
  refine ev_r (w' := (w.drewN n)) hE (ex_mv (hE.get 13 rfl)) fun a hE => ?_
  refine ev_call (S := fun u w' => u = .int .u64 ((4 * d : Nat) : Int) ∧ ∃ nz, w' = World.drewN (w.drewN n) nz) hE rfl rfl (by decide) (f := 113) (args := #[.int .u64 ((40 * d : Nat) : Int), .int .u64 10]) (by simp only [execOp, resolve, List.map_toArray, List.map_cons, List.map_nil, hE.get 42 rfl]; go_simp) ((div40 d hd (w.drewN n)).mono (by rintro e w' ⟨rfl, h⟩; exact ⟨_, rfl, rfl, h⟩)) ?_
  rintro a u wd ⟨rfl, ⟨m, rfl⟩⟩ hE
  refine ev_as hE (hE.get 43 rfl) (by decide) ?_
  intro a hE
  rw [World.drewN_drewN]
  refine nx1 ?_
  refine wp_region_lit ?_
  refine ev_r (w' := (w.drewN (n + m))) hE (ex_mv (hE.get 11 rfl)) fun a hE => ?_
  refine ev_r (v := .int .i64 3) (w' := (w.drewN (n + m))) hE (ei_sub (hE.get 44 rfl) rfl (by decide)) fun a hE => ?_
  refine ev_r (w' := (w.drewN (n + m))) hE (ex_as (hE.get 45 rfl)) fun a hE => ?_
  refine wpList_nil ?_
  have hE : Ev 50 ((13, .int .u64 ((4 * d * 10 ^ 0 : Nat) : Int)) :: (11, .int .i64 ((3 + 0 : Nat) : Int)) :: (3, .int .i64 3) :: (4, .int .u8 102) :: []) a := by rw [show 4 * d * 10 ^ 0 = 4 * d by omega]; exact hE.pick rfl
  refine ⟨⟨0, n + m, by decide, rfl, hE⟩, ?_⟩
  have h5 : a.eval (.tmp 11) = .int .i64 ((3 + 0 : Nat) : Int) := hE.get 11 rfl
  rw [h5, e11]
  decide
 ·have hk0 : k = 0 := by have := of_decide_eq_false hb; omega
  subst hk0
  refine wp_exit ?_
  simp only [Exit.then, Exit.inBlock, if_true]
  exact fin n a (hE.pick rfl)
end Go.Proofs.YtfonjeoiallhhaaGreatDoor
/- strconv.fixedWidthFloat at three and four digits behind the point. -/
set_option maxRecDepth 100000
namespace Go.Proofs.YtfonjeoiallhhaaGreatDoor
open Go.RowKit
theorem ix_pow {a : Act} {w : World} {dst : Option Nat} {ty : TypeId} {ps : String} {af : Array Edge} {gd : Option (Nat × Bool)} {t : Nat} (dg : Nat) (h : dg = 4 ∨ dg = 5 ∨ dg = 6) (hx : a.eval (.tmp t) = .int .i64 dg) : (execOp a.eval ⟨dst, .indexAddr 152 (.global 3) (.tmp t), ty, ps, af, gd⟩).run Tryz.prog w = .ok (.value (pt 3 dg)) w := by
 rcases h with rfl | rfl | rfl <;> (simp only [execOp, hx]; go_simp)
theorem fixed3 (m dg sh d : Nat) (E L y : Int) (hL : ∀ w, Calls Tryz.prog 79 #[.int .i64 E] w fun e w' => e = .returned (.int .i64 L) ∧ w' = w) (hEb : -10 ≤ E ∧ E ≤ 10) (hp : (dg : Int) - 1 - L = 3) (hdg : (dg = 4 ∧ y = 10000) ∨ (dg = 5 ∧ y = 100000) ∨ (dg = 6 ∧ y = 1000000))
  (hsh : -(E - 63 + 9 + 3) = (sh : Int)) (hshb : sh < 64) (hm : m < 18446744073709551616) (h0 : m * 18014398509481984000 % 18446744073709551616 = 0) (hh : m * 18014398509481984000 / 18446744073709551616 = (4 * d : Nat) * 2 ^ sh) (hd : d ≤ 130000) (hc : ((4 * d : Nat) : Int) < y * 4 - 2) (w : World) (hT : ∀ w', Below w.heap.size w w' → PmTab w' ∧ w'.cell? ⟨3, dg, none⟩ = some (.int .u64 y)) :
  Calls Tryz.prog 91 #[.int .u64 m, .int .i64 (E - 63), .int .i64 dg, .int .i64 3, .int .u8 102] w fun e w' => e = .returned (.tuple #[.int .u64 d, .int .i64 (-3)]) ∧ Below w.heap.size w w' := by
 have hdg' : dg = 4 ∨ dg = 5 ∨ dg = 6 := by omega
 have hy : y = 10000 ∨ y = 100000 ∨ y = 1000000 := by omega
 refine calls_of_ev Tryz.func91 rfl (show 5 ≤ 50 from by decide) ?_
 intro a hE
 have hE : Ev 50 ((0, .int .u64 m) :: (1, .int .i64 (E - 63)) :: (2, .int .i64 dg) :: (3, .int .i64 3) :: (4, .int .u8 102) :: []) a := hE
 refine wp_seq ?_
 refine wp_region_lit ?_
 refine ev_ac hE (by decide) ?_
 intro a hE
 refine ev_ac hE (by decide) ?_
 intro a hE
 refine nx3 ?_
 refine ev_r (w' := w) hE (ex_mv (hE.get 2 rfl)) fun a hE => ?_
 refine ev_r (v := .int .i64 ((dg : Int) - 1)) (w' := w) hE (ei_sub (hE.get 14 rfl) rfl (by rw [IntKind.wrap_i64]; omega)) fun a hE => ?_
 refine ev_r (w' := w) hE (ex_mv (hE.get 1 rfl)) fun a hE => ?_
 refine ev_r (v := .int .i64 E) (w' := w) hE (ei_add (hE.get 16 rfl) rfl (by rw [IntKind.wrap_i64]; omega)) fun a hE => ?_
 refine ev_call (S := fun u w' => u = .int .i64 L ∧ w = w') hE rfl rfl (by decide) (f := 79) (args := #[.int .i64 E]) (by simp only [execOp, resolve, List.map_toArray, List.map_cons, List.map_nil, hE.get 17 rfl]; go_simp) (Calls.mono (hL w) (by rintro e w' ⟨rfl, h⟩; exact ⟨_, rfl, rfl, h.symm⟩)) ?_
 rintro a u wx ⟨rfl, rfl⟩ hE
 refine ev_r (v := .int .i64 3) (w' := w) hE (ei_sub (hE.get 15 rfl) (hE.get 18 rfl) (by rw [hp]; decide)) fun a hE => ?_
 refine ev_r (w' := w) hE (ex_as (hE.get 19 rfl)) fun a hE => ?_
 refine nx3 ?_
 refine ev_al hE al_sc (by decide) ?_
 intro a w1 hE hg hbl1 hs1
 refine nx3 ?_
 refine ev_r (w' := w1) hE (ex_mv (hE.get 1 rfl)) fun a hE => ?_
 refine ev_r (w' := w1) hE (ex_mv (hE.get 11 rfl)) fun a hE => ?_
 refine ev_r (w' := w1) hE (ex_mv (hE.get 11 rfl)) fun a hE => ?_
 refine ev_call (S := fun u w' => u = .int .i64 9 ∧ w1 = w') hE rfl rfl (by decide) (f := 106) (args := #[.int .i64 3]) (by simp only [execOp, resolve, List.map_toArray, List.map_cons, List.map_nil, hE.get 22 rfl]; go_simp) (Calls.mono (l2_any 3 (by decide) w1) (by rintro e w' ⟨rfl, h⟩; exact ⟨_, rfl, rfl, h.symm⟩)) ?_
 rintro a u wx ⟨rfl, rfl⟩ hE
 refine ev_call (S := fun u w' => w'.heap[w.heap.size]? = some (.cells #[.int .u64 (18014398509481984000 : Nat), .int .u64 (0 : Nat), .int .i64 (-(E - 63 + 9 + 3))] 179 (0, 0)) ∧ Only (fun x => x = w.heap.size) w1 w') hE rfl rfl (by decide) (f := 105) (args := #[pt w.heap.size 0, .int .i64 (E - 63), .int .i64 3, .int .i64 9]) (by simp only [execOp, resolve, List.map_toArray, List.map_cons, List.map_nil, hE.get 12 rfl, hE.get 20 rfl, hE.get 21 rfl, hE.get 23 rfl]; go_simp)
  ((prescale3 w.heap.size (E - 63) 9 (by omega) (by decide) w1 (fun w' ho => (hT w' (hbl1.trans (only_bel ho hbl1.size (Nat.le_refl _)))).1) hg).mono (by rintro e w' ⟨rfl, h1, h2⟩; exact ⟨_, rfl, h1, h2⟩)) ?_
 rintro a u w2 ⟨hg, ho2⟩ hE
 rw [hsh] at hg
 have hb2 : Below w.heap.size w w2 := hbl1.trans (only_bel ho2 hbl1.size (Nat.le_refl _))
 refine nx3 ?_
 refine ev_r (w' := w2) hE (ex_mv (hE.get 0 rfl)) fun a hE => ?_
 refine ev_call (S := fun u w' => u = .int .u64 (4 * d : Nat) ∧ ∃ n, w' = w2.drewN n) hE rfl rfl (by decide) (f := 107) (args := #[.int .u64 m, pt w.heap.size 0]) (by simp only [execOp, resolve, List.map_toArray, List.map_cons, List.map_nil, hE.get 25 rfl, hE.get 12 rfl]; go_simp)
  ((uscale_any m 18014398509481984000 (4 * d : Nat) sh w.heap.size hm (by decide) h0 hh hshb w2 hg).mono (by rintro e w' ⟨rfl, h⟩; exact ⟨_, rfl, rfl, h⟩)) ?_
 rintro a u w3 ⟨rfl, n, rfl⟩ hE
 refine ev_as hE (hE.get 26 rfl) (by decide) ?_
 intro a hE
 refine nx1 ?_
 refine wp_seq ?_
 refine wp_seq ?_
 refine wp_region_lit ?_
 have hpw : (w2.drewN n).cell? ⟨3, dg, none⟩ = some (.int .u64 y) := (hT _ (hb2.trans (drewN_below w2 n _))).2
 refine ev_r (w' := (w2.drewN n)) hE (ex_mv (hE.get 13 rfl)) fun a hE => ?_
 refine ev_r (w' := (w2.drewN n)) hE (ex_mv (hE.get 2 rfl)) fun a hE => ?_
 refine ev_r (v := pt 3 dg) (w' := w2.drewN n) hE (ix_pow dg hdg' (hE.get 28 rfl)) fun a hE => ?_
 refine ev_r (v := .int .u64 y) (w' := (w2.drewN n)) hE (ex_ld (hE.get 29 rfl) ld_u64 hpw) fun a hE => ?_
 refine ev_call (S := fun u w' => u = .int .u64 (y * 4 - 2) ∧ (w2.drewN n) = w') hE rfl rfl (by decide) (f := 112) (args := #[.int .u64 y]) (by simp only [execOp, resolve, List.map_toArray, List.map_cons, List.map_nil, hE.get 30 rfl]; go_simp) (Calls.mono (unmin_any y hy (w2.drewN n)) (by rintro e w' ⟨rfl, h⟩; exact ⟨_, rfl, rfl, h.symm⟩)) ?_
 rintro a u wx ⟨rfl, rfl⟩ hE
 refine ev_r (v := .bool false) (w' := (w2.drewN n)) hE (ei_geq (hE.get 27 rfl) (hE.get 31 rfl) (decide_eq_false (by omega))) fun a hE => ?_
 refine nx1 ?_
 refine wp_cond_split (hE.get 32 rfl) (fun h => by cases h) (fun _ => ?_)
 refine wp_skip ?_
 show Code.wp _ _ _ _ _
 exact fixed_tail d hd 0 (by decide) a _ (by rw [show 4 * d * 10 ^ 0 = 4 * d by omega]; exact hE.pick rfl) (fun n' => ⟨rfl, hb2.trans ((drewN_below w2 _ _).trans (drewN_below _ n' _))⟩)
theorem fixed4 (m dg sh d : Nat) (E L y : Int) (hL : ∀ w, Calls Tryz.prog 79 #[.int .i64 E] w fun e w' => e = .returned (.int .i64 L) ∧ w' = w) (hEb : -10 ≤ E ∧ E ≤ 10) (hp : (dg : Int) - 1 - L = 4) (hdg : (dg = 4 ∧ y = 10000) ∨ (dg = 5 ∧ y = 100000) ∨ (dg = 6 ∧ y = 1000000))
  (hsh : -(E - 63 + 13 + 3) = (sh : Int)) (hshb : sh < 64) (hm : m < 18446744073709551616) (h0 : m * 11258999068426240000 % 18446744073709551616 = 0) (hh : m * 11258999068426240000 / 18446744073709551616 = (40 * d : Nat) * 2 ^ sh) (hd : d ≤ 130000) (w : World) (hT : ∀ w', Below w.heap.size w w' → PmTab w' ∧ w'.cell? ⟨3, dg, none⟩ = some (.int .u64 y)) :
  Calls Tryz.prog 91 #[.int .u64 m, .int .i64 (E - 63), .int .i64 dg, .int .i64 3, .int .u8 102] w fun e w' => e = .returned (.tuple #[.int .u64 d, .int .i64 (-3)]) ∧ Below w.heap.size w w' := by
 have hdg' : dg = 4 ∨ dg = 5 ∨ dg = 6 := by omega
 have hy : y = 10000 ∨ y = 100000 ∨ y = 1000000 := by omega
 refine calls_of_ev Tryz.func91 rfl (show 5 ≤ 50 from by decide) ?_
 intro a hE
 have hE : Ev 50 ((0, .int .u64 m) :: (1, .int .i64 (E - 63)) :: (2, .int .i64 dg) :: (3, .int .i64 3) :: (4, .int .u8 102) :: []) a := hE
 refine wp_seq ?_
 refine wp_region_lit ?_
 refine ev_ac hE (by decide) ?_
 intro a hE
 refine ev_ac hE (by decide) ?_
 intro a hE
 refine nx3 ?_
 refine ev_r (w' := w) hE (ex_mv (hE.get 2 rfl)) fun a hE => ?_
 refine ev_r (v := .int .i64 ((dg : Int) - 1)) (w' := w) hE (ei_sub (hE.get 14 rfl) rfl (by rw [IntKind.wrap_i64]; omega)) fun a hE => ?_
 refine ev_r (w' := w) hE (ex_mv (hE.get 1 rfl)) fun a hE => ?_
 refine ev_r (v := .int .i64 E) (w' := w) hE (ei_add (hE.get 16 rfl) rfl (by rw [IntKind.wrap_i64]; omega)) fun a hE => ?_
 refine ev_call (S := fun u w' => u = .int .i64 L ∧ w = w') hE rfl rfl (by decide) (f := 79) (args := #[.int .i64 E]) (by simp only [execOp, resolve, List.map_toArray, List.map_cons, List.map_nil, hE.get 17 rfl]; go_simp) (Calls.mono (hL w) (by rintro e w' ⟨rfl, h⟩; exact ⟨_, rfl, rfl, h.symm⟩)) ?_
 rintro a u wx ⟨rfl, rfl⟩ hE
 refine ev_r (v := .int .i64 4) (w' := w) hE (ei_sub (hE.get 15 rfl) (hE.get 18 rfl) (by rw [hp]; decide)) fun a hE => ?_
 refine ev_r (w' := w) hE (ex_as (hE.get 19 rfl)) fun a hE => ?_
 refine nx3 ?_
 refine ev_al hE al_sc (by decide) ?_
 intro a w1 hE hg hbl1 hs1
 refine nx3 ?_
 refine ev_r (w' := w1) hE (ex_mv (hE.get 1 rfl)) fun a hE => ?_
 refine ev_r (w' := w1) hE (ex_mv (hE.get 11 rfl)) fun a hE => ?_
 refine ev_r (w' := w1) hE (ex_mv (hE.get 11 rfl)) fun a hE => ?_
 refine ev_call (S := fun u w' => u = .int .i64 13 ∧ w1 = w') hE rfl rfl (by decide) (f := 106) (args := #[.int .i64 4]) (by simp only [execOp, resolve, List.map_toArray, List.map_cons, List.map_nil, hE.get 22 rfl]; go_simp) (Calls.mono (l2_any 4 (by decide) w1) (by rintro e w' ⟨rfl, h⟩; exact ⟨_, rfl, rfl, h.symm⟩)) ?_
 rintro a u wx ⟨rfl, rfl⟩ hE
 refine ev_call (S := fun u w' => w'.heap[w.heap.size]? = some (.cells #[.int .u64 (11258999068426240000 : Nat), .int .u64 (0 : Nat), .int .i64 (-(E - 63 + 13 + 3))] 179 (0, 0)) ∧ Only (fun x => x = w.heap.size) w1 w') hE rfl rfl (by decide) (f := 105) (args := #[pt w.heap.size 0, .int .i64 (E - 63), .int .i64 4, .int .i64 13]) (by simp only [execOp, resolve, List.map_toArray, List.map_cons, List.map_nil, hE.get 12 rfl, hE.get 20 rfl, hE.get 21 rfl, hE.get 23 rfl]; go_simp)
  ((prescale4 w.heap.size (E - 63) 13 (by omega) (by decide) w1 (fun w' ho => (hT w' (hbl1.trans (only_bel ho hbl1.size (Nat.le_refl _)))).1) hg).mono (by rintro e w' ⟨rfl, h1, h2⟩; exact ⟨_, rfl, h1, h2⟩)) ?_
 rintro a u w2 ⟨hg, ho2⟩ hE
 rw [hsh] at hg
 have hb2 : Below w.heap.size w w2 := hbl1.trans (only_bel ho2 hbl1.size (Nat.le_refl _))
 refine nx3 ?_
 refine ev_r (w' := w2) hE (ex_mv (hE.get 0 rfl)) fun a hE => ?_
 refine ev_call (S := fun u w' => u = .int .u64 (40 * d : Nat) ∧ ∃ n, w' = w2.drewN n) hE rfl rfl (by decide) (f := 107) (args := #[.int .u64 m, pt w.heap.size 0]) (by simp only [execOp, resolve, List.map_toArray, List.map_cons, List.map_nil, hE.get 25 rfl, hE.get 12 rfl]; go_simp)
  ((uscale_any m 11258999068426240000 (40 * d : Nat) sh w.heap.size hm (by decide) h0 hh hshb w2 hg).mono (by rintro e w' ⟨rfl, h⟩; exact ⟨_, rfl, rfl, h⟩)) ?_
 rintro a u w3 ⟨rfl, n, rfl⟩ hE
 refine ev_as hE (hE.get 26 rfl) (by decide) ?_
 intro a hE
 refine nx1 ?_
 refine wp_seq ?_
 refine wp_seq ?_
 refine wp_region_lit ?_
 have hpw : (w2.drewN n).cell? ⟨3, dg, none⟩ = some (.int .u64 y) := (hT _ (hb2.trans (drewN_below w2 n _))).2
 refine ev_r (w' := (w2.drewN n)) hE (ex_mv (hE.get 13 rfl)) fun a hE => ?_
 refine ev_r (w' := (w2.drewN n)) hE (ex_mv (hE.get 2 rfl)) fun a hE => ?_
 refine ev_r (v := pt 3 dg) (w' := w2.drewN n) hE (ix_pow dg hdg' (hE.get 28 rfl)) fun a hE => ?_
 refine ev_r (v := .int .u64 y) (w' := (w2.drewN n)) hE (ex_ld (hE.get 29 rfl) ld_u64 hpw) fun a hE => ?_
 refine ev_call (S := fun u w' => u = .int .u64 (y * 4 - 2) ∧ (w2.drewN n) = w') hE rfl rfl (by decide) (f := 112) (args := #[.int .u64 y]) (by simp only [execOp, resolve, List.map_toArray, List.map_cons, List.map_nil, hE.get 30 rfl]; go_simp) (Calls.mono (unmin_any y hy (w2.drewN n)) (by rintro e w' ⟨rfl, h⟩; exact ⟨_, rfl, rfl, h.symm⟩)) ?_
 rintro a u wx ⟨rfl, rfl⟩ hE
 refine ev_r (v := .bool (decide (y * 4 - 2 ≤ ((40 * d : Nat) : Int)))) (w' := (w2.drewN n)) hE (ei_geq (hE.get 27 rfl) (hE.get 31 rfl) rfl) fun a hE => ?_
 refine nx1 ?_
 refine wp_cond_split (hE.get 32 rfl) (fun _ => ?_) (fun _ => ?_)
 ·refine wp_seq ?_
  refine wp_region_lit ?_
  refine ev_mv hE (hE.get 13 rfl) (by decide) ?_
  intro a hE
  refine ev_call (S := fun u w' => u = .int .u64 ((4 * d : Nat) : Int) ∧ ∃ nz, w' = World.drewN (w2.drewN n) nz) hE rfl rfl (by decide) (f := 113) (args := #[.int .u64 ((40 * d : Nat) : Int), .int .u64 10]) (by simp only [execOp, resolve, List.map_toArray, List.map_cons, List.map_nil, hE.get 33 rfl]; go_simp) ((div40 d hd (w2.drewN n)).mono (by rintro e w' ⟨rfl, h⟩; exact ⟨_, rfl, rfl, h⟩)) ?_
  rintro a u w4 ⟨rfl, n2, rfl⟩ hE
  refine ev_as hE (hE.get 34 rfl) (by decide) ?_
  intro a hE
  refine nx1 ?_
  refine wp_region_lit ?_
  refine ev_r (w' := _) hE (ex_mv (hE.get 11 rfl)) fun a hE => ?_
  refine ev_r (v := .int .i64 3) (w' := _) hE (ei_sub (hE.get 35 rfl) rfl (by decide)) fun a hE => ?_
  refine ev_r (w' := _) hE (ex_as (hE.get 36 rfl)) fun a hE => ?_
  refine nx1 ?_
  exact fixed_tail d hd 0 (by decide) a _ (by rw [show 4 * d * 10 ^ 0 = 4 * d by omega]; exact hE.pick rfl) (fun n' => ⟨rfl, hb2.trans ((drewN_below w2 _ _).trans ((drewN_below _ n2 _).trans (drewN_below _ n' _)))⟩)
 ·refine wp_skip ?_
  show Code.wp _ _ _ _ _
  exact fixed_tail d hd 1 (by decide) a _ (by rw [show 4 * d * 10 ^ 1 = 40 * d by omega]; exact hE.pick rfl) (fun n' => ⟨rfl, hb2.trans ((drewN_below w2 _ _).trans (drewN_below _ n' _))⟩)
end Go.Proofs.YtfonjeoiallhhaaGreatDoor
/- strconv.setDigits. -/
set_option maxRecDepth 100000
namespace Go.Proofs.YtfonjeoiallhhaaGreatDoor
open Go.Shelf Go.RowKit Go.Sort Go.Lib
section
variable {N : Nat} {l : List (Nat × Value)} {a : Act} {w : World} {ops : Array Oper} {rest : List Oper} {o : Oper} {Q : Act → Prop} {d : Nat} {v : Value}
end
theorem ix_u8 {a : Act} {w : World} {dst : Option Nat} {ty : TypeId} {ps : String} {af : Array Edge} {gd : Option (Nat × Bool)} {s : Nat} {g n len cap : Nat} {i : Operand} (hs : a.eval (.tmp s) = .slice (some ⟨g, 0, none⟩) len cap) (hi : a.eval i = .int .i64 n) (hlt : n < len) :
  (execOp a.eval ⟨dst, .indexAddr 24 (.tmp s) i, ty, ps, af, gd⟩).run Tryz.prog w = .ok (.value (pt g n)) w := by
 have hun := run_underlying (P := Tryz.prog) Tryz.underlying24
 have hz := Tryz.sizeOf5
 simp only [execOp, hs, hi]
 refine run_andValue ?_
 have hadd : (⟨g, 0, none⟩ : Addr).add n = ⟨g, n, none⟩ := by unfold Addr.add; split <;> simp_all
 simp [Instr.indexAt, asIntOf, hun, hlt, hz, hadd]
theorem sl_hi (g n : Nat) (h : n ≤ 24) (w : World) : (Instr.sliceAt 24 (.slice (some ⟨g, 0, none⟩) 24 24) none (some (.int .i64 n)) none).run Tryz.prog w = .ok (.slice (some ⟨g, 0, none⟩) n 24) w := by
 have h0 : (0 : Int) ≤ (n : Int) := by omega
 have h2 : (n : Int) ≤ 24 := by omega
 have h3 : (0 : Nat) ≠ 24 := by decide
 go_simp
theorem frozen_of_heap2 {w : World} {g i : Nat} {cs : Array Value} {t : TypeId} (h : w.heap[g]? = some (.cells cs t (0, 0))) : w.frozen? ⟨g, i, none⟩ = false := by simp [World.frozen?, h]
/-- The digits lie in block g. -/
def DgAt (g : Nat) (L : List UInt8) (w : World) : Prop := ∃ cs : Array Value, w.heap[g]? = some (.cells cs 140 (0, 0)) ∧ ∀ (j : Nat) (b : UInt8), L[j]? = some b → cs[j]? = some (.int .u8 (b.toNat : Int))
theorem DgAt.cell {g : Nat} {L : List UInt8} {w : World} (h : DgAt g L w) {j : Nat} {b : UInt8} (hb : L[j]? = some b) : w.cell? ⟨g, j, none⟩ = some (.int .u8 (b.toNat : Int)) := by
 obtain ⟨cs, h1, h2⟩ := h
 exact cell_of_heap h1 (h2 j b hb)
theorem putRow_only (w : World) (g : Nat) (dk : Array UInt8) (k : Nat) : Only (fun x => x = g) w ((putRow (fun (b : UInt8) => Value.int .u8 (b.toNat : Int)) w g 0 dk).drewN k) := by
 refine ⟨rfl, rfl, rfl, by simp [putRow, mapBlock, World.drewN], fun x _ hne => ?_⟩
 show (w.heap.modify g _)[x]? = _
 rw [Array.getElem?_modify, if_neg (fun h => hne h.symm)]
theorem putRow_dg (w : World) (g D : Nat) (v' : Nat) (dk : Array UInt8) (k : Nat) (hg : w.heap[g]? = some (.cells zeros24 140 (0, 0))) (hD : nDigits D ≤ 24) (h : FmtInv (nDigits D) D 0 v' dk) : DgAt g (decDigits D) ((putRow (fun (b : UInt8) => Value.int .u8 (b.toNat : Int)) w g 0 dk).drewN k) := by
 refine ⟨putCells (fun (b : UInt8) => Value.int .u8 (b.toNat : Int)) 0 dk zeros24, ?_, fun j b hj => ?_⟩
 ·show (w.heap.modify g _)[g]? = _
  rw [Array.getElem?_modify, if_pos rfl, hg]
  rfl
 ·obtain ⟨hlt, hjb⟩ := List.getElem?_eq_some_iff.1 hj
  have hr := row_is_numeral h j hlt
  have hl : j < nDigits D := by rw [decDigits_length] at hlt; exact hlt
  rw [hjb] at hr
  have hz : zeros24.size = 24 := rfl
  unfold putCells
  rw [Array.getElem?_mapIdx, Array.getElem?_eq_getElem (by omega)]
  simp [h.size, hl, hr]
/-- strconv.setDigits. -/
theorem setDigits_any (g D n : Nat) (hn : nDigits D = n) (h1 : 1 ≤ n) (h7 : n ≤ 7) (hD : D < 10 ^ n) (hD2 : D ≤ 10000000) (b0 : UInt8) (hb0 : (decDigits D)[0]? = some b0) (hb1 : b0 ≠ 48) (w : World) (hg : w.heap[g]? = some (.cells zeros24 140 (0, 0))) :
  Calls Tryz.prog 90 #[.slice (some ⟨g, 0, none⟩) 24 24, .int .u64 D, .int .i64 (-3), .int .i64 n] w fun e w' => ∃ nd : Nat, e = .returned (.tuple #[.int .i64 ((n : Int) - 3), .int .i64 nd]) ∧ 1 ≤ nd ∧ nd ≤ n ∧ (∀ (j : Nat) (b : UInt8), nd ≤ j → (decDigits D)[j]? = some b → b = 48) ∧ DgAt g (decDigits D) w' ∧ Only (fun x => x = g) w w' := by
 have hlen : (decDigits D).length = n := by rw [decDigits_length, hn]
 refine calls_of_ev Tryz.func90 rfl (show 4 ≤ 36 from by decide) ?_
 intro a hE
 have hE : Ev 36 ((0, .slice (some ⟨g, 0, none⟩) 24 24) :: (1, .int .u64 D) :: (2, .int .i64 (-3)) :: (3, .int .i64 n) :: []) a := hE

 refine wp_seq ?_
 refine wp_region_lit ?_
 refine ev_ac hE (by decide) ?_
 intro a hE
 refine ev_ac hE (by decide) ?_
 intro a hE
 refine nx1 ?_
 refine wp_seq ?_
 refine wp_seq ?_
 refine wp_region_lit ?_
 refine ev_r (w' := w) hE (ex_mv (hE.get 3 rfl)) fun a hE => ?_
 refine ev_r (w' := w) hE (ex_mv (hE.get 0 rfl)) fun a hE => ?_
 refine ev_r hE (ex_len Tryz.underlying24 (hE.get 11 rfl)) fun a hE => ?_
 refine ev_r (v := .bool true) (w' := w) hE (ei_leq (hE.get 10 rfl) (hE.get 12 rfl) (decide_eq_true (by omega))) fun a hE => ?_
 refine nx1 ?_
 refine wp_cond_split (hE.get 13 rfl) (fun _ => ?_) (fun h => by cases h)
 refine wp_seq ?_
 refine wp_region_lit ?_
 refine ev_r (w' := w) hE (ex_mv (hE.get 0 rfl)) fun a hE => ?_
 refine ev_r (w' := w) hE (ex_mv (hE.get 3 rfl)) fun a hE => ?_
 refine ev_run (v := .slice (some ⟨g, 0, none⟩) n 24) (w' := w) hE rfl rfl (by decide) ?_ ?_
 ·have hs := sl_hi g n (by omega) w
  simp only [execOp, hE.get 14 rfl, Option.map, hE.get 15 rfl]
  exact run_andValue hs
 intro a hE
 refine ev_r (w' := w) hE (ex_mv (hE.get 1 rfl)) fun a hE => ?_
 have hfm := formatBase10_any g 0 24 D (Array.replicate n 0) w (fun j hj => by
  have hj' : j < n := by simpa using hj
  have hz := zeros24_at j (by omega)
  rw [Nat.zero_add]
  refine ⟨?_, frozen_of_heap2 hg⟩
  rw [cell_of_heap hg hz]
  rw [getElem!_pos _ j hj]
  simp) (by rw [Array.size_replicate]; exact hD) (by omega) (by rw [Array.size_replicate]; omega)
 rw [Array.size_replicate] at hfm
 refine ev_call (S := fun u w' => DgAt g (decDigits D) w' ∧ Only (fun x => x = g) w w') hE rfl rfl (by decide) (f := 71) (args := #[.slice (some ⟨g, 0, none⟩) n 24, .int .u64 D]) (by simp only [execOp, resolve, List.map_toArray, List.map_cons, List.map_nil, hE.get 16 rfl, hE.get 17 rfl]; go_simp) (hfm.mono ?_) ?_
 ·rintro e w' ⟨rfl, k, v', dk, rfl, hF⟩
  subst hn
  exact ⟨_, rfl, putRow_dg w g D v' dk k hg (by omega) hF, putRow_only w g dk k⟩
 rintro a u w2 ⟨hdg, ho⟩ hE
 refine nx3 ?_
 refine ev_r (w' := w2) hE (ex_mv (hE.get 3 rfl)) fun a hE => ?_
 refine ev_r (w' := w2) hE (ex_mv (hE.get 2 rfl)) fun a hE => ?_
 refine ev_r (v := .int .i64 ((n : Int) - 3)) (w' := w2) hE (ei_add (hE.get 19 rfl) (hE.get 20 rfl) (by rw [IntKind.wrap_i64]; omega)) fun a hE => ?_
 refine ev_r (w' := w2) hE (ex_as (hE.get 21 rfl)) fun a hE => ?_
 refine nx1 ?_
 refine wp_block ?_
 refine wp_loop (fun a wr => wr = w2 ∧ ∃ k : Nat, 1 ≤ k ∧ k ≤ n ∧ (∀ (j : Nat) (b : UInt8), k ≤ j → (decDigits D)[j]? = some b → b = 48) ∧ Ev 36 ((0, .slice (some ⟨g, 0, none⟩) 24 24) :: (8, .int .i64 ((n : Int) - 3)) :: (3, .int .i64 k) :: []) a) (fun a _ => (RowKit.intOf (a.eval (.tmp 3))).toNat) ⟨rfl, n, h1, Nat.le_refl _, fun j b hj hb => by have := (List.getElem?_eq_some_iff.1 hb).1; omega, hE.pick rfl⟩ ?_
 rintro a wr ⟨rfl, k, hk1, hkn, hz, hE⟩
 obtain ⟨b, hb⟩ : ∃ b, (decDigits D)[k - 1]? = some b := ⟨_, List.getElem?_eq_getElem (by omega)⟩
 have e3 : a.eval (.tmp 3) = .int .i64 k := hE.get 3 rfl
 refine wp_seq ?_
 refine wp_seq ?_
 refine wp_region_lit ?_
 refine ev_r (w' := wr) hE (ex_mv (hE.get 3 rfl)) fun a hE => ?_
 refine ev_r (v := .bool true) (w' := wr) hE (ei_gtr (hE.get 22 rfl) rfl (decide_eq_true (by omega))) fun a hE => ?_
 refine ev_r (w' := wr) hE (ex_mv (hE.get 23 rfl)) fun a hE => ?_
 refine ev_gon (w' := wr) hE rfl rfl (hE.get 24 rfl) rfl (by decide) (ex_mv (hE.get 0 rfl)) ?_
 intro a hE
 refine ev_gon (w' := wr) hE rfl rfl (hE.get 24 rfl) rfl (by decide) (ex_mv (hE.get 3 rfl)) ?_
 intro a hE
 refine ev_gon (v := .int .i64 ((k - 1 : Nat) : Int)) (w' := wr) hE rfl rfl (hE.get 24 rfl) rfl (by decide) (ei_sub (hE.get 26 rfl) rfl (by rw [IntKind.wrap_i64]; omega)) ?_
 intro a hE
 refine ev_gon (v := pt g (k - 1)) (w' := wr) hE rfl rfl (hE.get 24 rfl) rfl (by decide) (ix_u8 (hE.get 25 rfl) (hE.get 27 rfl) (by omega)) ?_
 intro a hE
 refine ev_gon (v := .int .u8 (b.toNat : Int)) (w' := wr) hE rfl rfl (hE.get 24 rfl) rfl (by decide) (ex_ld (hE.get 28 rfl) ld_u8 (hdg.cell hb)) ?_
 intro a hE
 refine ev_gon (v := .bool ((b.toNat : Int) == 48)) (w' := wr) hE rfl rfl (hE.get 24 rfl) rfl (by decide) (by simp only [execOp, hE.get 29 rfl]; go_simp) ?_
 intro a hE
 refine ev_r (v := .bool ((b.toNat : Int) == 48)) (w' := wr) hE (by rw [ex_pick (b := true) (hE.get 24 rfl)]; have e1 := hE.get 30 rfl; simp only [e1]; rfl) fun a hE => ?_
 refine nx1 ?_
 refine wp_cond_split (hE.get 31 rfl) (fun h => ?_) (fun h => ?_)
 ·have hb48 : b = 48 := by
   have : (b.toNat : Int) = 48 := by simpa using h
   apply UInt8.toNat_inj.1
   show b.toNat = 48
   omega
  have hk2 : 2 ≤ k := by
   by_cases hk : k = 1
   ·subst hk
    rw [show 1 - 1 = 0 from rfl, hb0] at hb
    exact absurd ((Option.some.inj hb).trans hb48) hb1
   ·omega
  refine wp_skip ?_
  show Code.wp _ _ _ _ _
  refine wp_block ?_
  refine wp_region_lit ?_
  refine ev_r (w' := wr) hE (ex_mv (hE.get 3 rfl)) fun a hE => ?_
  refine ev_r (v := .int .i64 ((k - 1 : Nat) : Int)) (w' := wr) hE (ei_sub (hE.get 32 rfl) rfl (by rw [IntKind.wrap_i64]; omega)) fun a hE => ?_
  refine ev_r (w' := wr) hE (ex_as (hE.get 33 rfl)) fun a hE => ?_
  refine wpList_nil ?_
  refine ⟨⟨rfl, k - 1, by omega, by omega, fun j b' hj hb' => ?_, hE.pick rfl⟩, ?_⟩
  ·by_cases hjk : j = k - 1
   ·subst hjk
    rw [hb] at hb'
    rw [← Option.some.inj hb']
    exact hb48
   ·exact hz j b' (by omega) hb'
  ·have h5 := hE.get 3 rfl
   rw [h5, e3]
   simp only [RowKit.intOf]
   omega
 ·refine wp_exit ?_
  simp only [Exit.then, Exit.inBlock, if_true]
  show Code.wp _ _ _ _ _
  refine wp_seq ?_
  refine wp_region_lit ?_
  refine ev_r (w' := wr) hE (ex_mv (hE.get 8 rfl)) fun a hE => ?_
  refine ev_r (w' := wr) hE (ex_mv (hE.get 3 rfl)) fun a hE => ?_
  refine ev_r (w' := wr) hE (ex_as (hE.get 34 rfl)) fun a hE => ?_
  refine ev_r (w' := wr) hE (ex_as (hE.get 35 rfl)) fun a hE => ?_
  refine nx1 ?_
  refine wp_ret ?_
  exact ret2_of_ev hE rfl (hE.get 8 rfl) (hE.get 9 rfl) ⟨k, rfl, hk1, hkn, hz, hdg, ho⟩
end Go.Proofs.YtfonjeoiallhhaaGreatDoor
/- strconv.fmtEFG at 'f', precision 3. -/
set_option maxRecDepth 100000
set_option maxHeartbeats 4000000
namespace Go.Proofs.YtfonjeoiallhhaaGreatDoor
open Go.RowKit
theorem take_app {α : Type} {l : List α} {k : Nat} {x : α} (h : l[k]? = some x) : l.take (k + 1) = l.take k ++ [x] := by
 rw [List.take_add_one, h]; rfl
noncomputable def egBody : Code := Tryz.f88.body.getD .skip
abbrev ul (b : UInt8) : List Value := [.int .u8 (b.toNat : Int)]
theorem info_u8 : (Tryz.prog.info? 5).map (fun i => (i.zero, i.size, i.bytes)) = some (some (.int .u8 0), 1, 1) := by kernel_rfl
/-- The text so far, behind the digits. -/
structure Fx (g : Nat) (L : List UInt8) (B : Nat) (w0 : World) (X : List UInt8) (s : Value) (w : World) : Prop where
 own : Own ul 5 1 w B s X
 dg : DgAt g L w
 below : Below B w0 w
 le : B ≤ w.heap.size
theorem ev_fx {N : Nat} {l : List (Nat × Value)} {a : Act} {w w0 : World} {ops : Array Oper} {rest : List Oper} {Q : Exit → Act → World → Prop} {d1 d2 ts : Nat} {ty1 ty2 : TypeId} {ps1 ps2 : String} {af1 af2 : Array Edge} {x : Operand} {b : UInt8} {g B : Nat} {L X : List UInt8} {s : Value} (h : Ev N l a) (hx : a.eval x = .int .u8 (b.toNat : Int)) (hs : a.eval (.tmp ts) = s) (hne : ts ≠ d1) (hd1 : d1 < N) (hd2 : d2 < N) (hF : Fx g L B w0 X s w) (hX : X.length ≤ 1000)
  (hK : ∀ a' s' w', Fx g L B w0 (X ++ [b]) s' w' → Ev N ((d2, s') :: (d1, .slice (some ⟨w.heap.size, 0, none⟩) 1 1) :: l) a' → wpList Tryz.prog ops Q rest a' w') :
  wpList Tryz.prog ops Q (⟨some d1, .buildSlice 24 1 #[(0, x)], ty1, ps1, af1, none⟩ :: ⟨some d2, .call { callee := .builtin .append, args := #[.tmp ts, .tmp d1], argTypes := #[24, 24] }, ty2, ps2, af2, none⟩ :: rest) a w := by
 obtain ⟨i0, hi, hz0, hz1, hz2⟩ := info_parts info_u8
 refine arm_push (f := ul) 24 Tryz.underlying24 i0 _ 1 hi hz0 hz1 hz2 (by rfl) (by decide) (fun _ => rfl) (by intro x u hu; obtain rfl := List.mem_singleton.1 hu; rfl) b ?_ hs (fun e => hne (by injection e)) (by rw [h.size]; exact hd1) hF.own hF.le (by omega) (by omega) ?_
 ·simp only [execOp, List.map_toArray, List.map_cons, List.map_nil, hx]
  go_simp
 ·intro v' w' ho hon hb
  refine hK _ v' w' ⟨ho, ?_, hF.below.trans (hon.below hF.le fun k hk hv => by have := (hF.own.block_lt k hv).1; omega), Nat.le_trans hF.le hon.size⟩ ((h.set hd1).set hd2)
  obtain ⟨cs, hg, hc⟩ := hF.dg
  exact ⟨cs, by rw [hon.block g (Array.getElem?_eq_some_iff.1 hg).1 (hF.own.ne_blk hg (by decide))]; exact hg, hc⟩
theorem fx_min {a : Act} {w : World} {dst : Option Nat} {ty : TypeId} {ps : String} {af : Array Edge} {gd : Option (Nat × Bool)} {x y : Operand} {i j z : Int} (hx : a.eval x = .int .i64 i) (hy : a.eval y = .int .i64 j) (hz : min i j = z) : (execOp a.eval ⟨dst, .call { callee := .builtin .min, args := #[x, y], argTypes := #[3, 3] }, ty, ps, af, gd⟩).run Tryz.prog w = .ok (.value (.int .i64 z)) w := by
 rw [← hz]
 simp only [execOp, resolve, List.map_toArray, List.map_cons, List.map_nil, hx, hy]
 go_simp
theorem fx_max {a : Act} {w : World} {dst : Option Nat} {ty : TypeId} {ps : String} {af : Array Edge} {gd : Option (Nat × Bool)} {x y : Operand} {i j z : Int} (hx : a.eval x = .int .i64 i) (hy : a.eval y = .int .i64 j) (hz : max i j = z) : (execOp a.eval ⟨dst, .call { callee := .builtin .max, args := #[x, y], argTypes := #[3, 3] }, ty, ps, af, gd⟩).run Tryz.prog w = .ok (.value (.int .i64 z)) w := by
 rw [← hz]
 simp only [execOp, resolve, List.map_toArray, List.map_cons, List.map_nil, hx, hy]
 go_simp
/-- The point and what stands behind it. -/
def efgTail (L : List UInt8) (dp nd : Nat) : List UInt8 := [46] ++ (L.drop dp).take (min 3 (nd - dp)) ++ List.replicate (3 - min 3 (nd - dp)) 48
def efg (L : List UInt8) (dp nd : Nat) : List UInt8 := (if 0 < dp then L.take (min nd dp) ++ List.replicate (dp - min nd dp) 48 else [48]) ++ efgTail L dp nd
theorem efg_tail {Q : Exit → Act → World → Prop} (g : Nat) (L : List UInt8) (B : Nat) (w0 : World) (X : List UInt8) (s : Value) (dp nd : Nat) (hX : X.length ≤ 100) (hdp : dp ≤ 10) (hnd : nd ≤ L.length) (hLl : L.length ≤ 20) (a : Act) (w : World) (hE : Ev 272 ((0, s) :: (2, .slice (some ⟨g, 0, none⟩) 24 24) :: (3, .int .i64 dp) :: (4, .int .i64 nd) :: (5, .int .i64 3) :: []) a) (hF : Fx g L B w0 X s w) (hR : ∀ s a w, Fx g L B w0 (X ++ efgTail L dp nd) s w → Ev 272 ((16, s) :: []) a → Q .ret a w) :
  Code.wp Tryz.prog (cB (cB (cA (cB (cB (cB (cA (cB (cA (cB (cB egBody))))))))))) Q a w := by
 refine wp_seq ?_
 refine wp_seq ?_
 refine wp_region_lit ?_
 refine ev_r (w' := w) hE (ex_mv (hE.get 5 rfl)) fun a hE => ?_
 refine ev_r (v := .bool true) (w' := w) hE (ei_gtr (hE.get 212 rfl) rfl (by decide)) fun a hE => ?_
 refine nx1 ?_
 refine wp_cond_split (hE.get 213 rfl) (fun _ => ?_) (fun h => by cases h)
 refine wp_seq ?_
 refine wp_region_lit ?_
 refine ev_mv hE (hE.get 0 rfl) (by decide) ?_
 intro a hE
 refine ev_fx (b := 46) hE (by first | rfl | exact rfl) (hE.get 214 rfl) (by decide) (by decide) (by decide) hF (by omega) ?_
 intro a s w hF hE
 refine ev_as hE (hE.get 216 rfl) (by decide) ?_
 intro a hE
 refine nx1 ?_
 have hX1 : (X ++ [(46 : UInt8)]).length ≤ 101 := by rw [List.length_append]; simpa using hX
 refine wp_seq ?_
 refine wp_region_lit ?_
 refine ev_r (w' := w) hE (ex_mv (hE.get 5 rfl)) fun a hE => ?_
 refine ev_r (w' := w) hE (ex_mv (hE.get 3 rfl)) fun a hE => ?_
 refine ev_r (v := .int .i64 (-(dp : Int))) (w' := w) hE (ei_neg (hE.get 218 rfl) (by rw [IntKind.wrap_i64]; omega)) fun a hE => ?_
 refine ev_r (v := .int .i64 0) (w' := w) hE (fx_max rfl (hE.get 219 rfl) (by omega)) fun a hE => ?_
 refine ev_r (v := .int .i64 (0 : Nat)) (w' := w) hE (fx_min (hE.get 217 rfl) (hE.get 220 rfl) (by decide)) fun a hE => ?_
 refine ev_r (w' := w) hE (ex_as (hE.get 221 rfl)) fun a hE => ?_
 refine nx3 ?_
 refine ev_r (w' := w) hE (ex_mv (hE.get 3 rfl)) fun a hE => ?_
 refine ev_r (w' := w) hE (ex_mv (hE.get 26 rfl)) fun a hE => ?_
 refine ev_r (v := .int .i64 dp) (w' := w) hE (ei_add (hE.get 222 rfl) (hE.get 223 rfl) (by rw [IntKind.wrap_i64]; omega)) fun a hE => ?_
 refine ev_r (w' := w) hE (ex_as (hE.get 224 rfl)) fun a hE => ?_
 refine nx3 ?_
 refine ev_r (w' := w) hE (ex_mv (hE.get 5 rfl)) fun a hE => ?_
 refine ev_r (w' := w) hE (ex_mv (hE.get 26 rfl)) fun a hE => ?_
 refine ev_r (v := .int .i64 3) (w' := w) hE (ei_sub (hE.get 225 rfl) (hE.get 226 rfl) (by decide)) fun a hE => ?_
 refine ev_r (w' := w) hE (ex_mv (hE.get 4 rfl)) fun a hE => ?_
 refine ev_r (w' := w) hE (ex_mv (hE.get 27 rfl)) fun a hE => ?_
 refine ev_r (v := .int .i64 ((nd : Int) - dp)) (w' := w) hE (ei_sub (hE.get 228 rfl) (hE.get 229 rfl) (by rw [IntKind.wrap_i64]; omega)) fun a hE => ?_
 refine ev_r (v := .int .i64 ((nd - dp : Nat) : Int)) (w' := w) hE (fx_max rfl (hE.get 230 rfl) (by omega)) fun a hE => ?_
 refine ev_r (v := .int .i64 ((min 3 (nd - dp) : Nat) : Int)) (w' := w) hE (fx_min (hE.get 227 rfl) (hE.get 231 rfl) (by omega)) fun a hE => ?_
 refine ev_r (w' := w) hE (ex_as (hE.get 232 rfl)) fun a hE => ?_
 refine nx3 ?_
 refine ev_r (w' := w) hE (ex_mv (hE.get 5 rfl)) fun a hE => ?_
 refine ev_r (w' := w) hE (ex_mv (hE.get 26 rfl)) fun a hE => ?_
 refine ev_r (v := .int .i64 3) (w' := w) hE (ei_sub (hE.get 233 rfl) (hE.get 234 rfl) (by decide)) fun a hE => ?_
 refine ev_r (w' := w) hE (ex_mv (hE.get 28 rfl)) fun a hE => ?_
 refine ev_r (v := .int .i64 (3 - ((min 3 (nd - dp) : Nat) : Int))) (w' := w) hE (ei_sub (hE.get 235 rfl) (hE.get 236 rfl) (by rw [IntKind.wrap_i64]; omega)) fun a hE => ?_
 refine ev_r (v := .int .i64 ((3 - min 3 (nd - dp) : Nat) : Int)) (w' := w) hE (fx_max rfl (hE.get 237 rfl) (by omega)) fun a hE => ?_
 refine ev_r (w' := w) hE (ex_as (hE.get 238 rfl)) fun a hE => ?_
 refine nx1 ?_
 refine wp_seq ?_
 refine wp_seq ?_
 refine wp_region_lit ?_
 refine ev_r (w' := w) hE (ex_mv (hE.get 26 rfl)) fun a hE => ?_
 refine ev_r (v := .int .i64 (0 : Nat)) (w' := w) hE (by simp only [execOp]; rfl) fun a hE => ?_
 refine nx1 ?_
 generalize hXe : X ++ [(46 : UInt8)] = Y at *
 refine range_wp2 (N := 272) (n := 0) [0, 2, 3, 4, 5, 27, 28, 29] (l0 := ((0, s) :: (2, .slice (some ⟨g, 0, none⟩) 24 24) :: (3, .int .i64 dp) :: (4, .int .i64 nd) :: (5, .int .i64 3) :: (27, .int .i64 dp) :: (28, .int .i64 (min 3 (nd - dp) : Nat)) :: (29, .int .i64 ((3 - min 3 (nd - dp) : Nat) : Int)) :: [])) (fun k l w => ∃ s, l = ((0, s) :: (2, .slice (some ⟨g, 0, none⟩) 24 24) :: (3, .int .i64 dp) :: (4, .int .i64 nd) :: (5, .int .i64 3) :: (27, .int .i64 dp) :: (28, .int .i64 (min 3 (nd - dp) : Nat)) :: (29, .int .i64 ((3 - min 3 (nd - dp) : Nat) : Int)) :: []) ∧ Fx g L B w0 (Y ++ List.replicate k 48) s w) (by omega) (hE.pick rfl) rfl ⟨_, rfl, by rw [List.replicate_zero, List.append_nil]; exact hF⟩ (by decide) (by decide) (by decide) ?_ ?_
 ·rintro k l a w hk hE ⟨s, rfl, hF⟩ Q' hQ'
  refine wp_block ?_
  refine wp_region_lit ?_
  have hXk : (Y ++ List.replicate k (48 : UInt8)).length ≤ 300 := by rw [List.length_append, List.length_replicate]; omega
  refine ev_mv hE (hE.get 0 rfl) (by decide) ?_
  intro a hE
  refine ev_fx (b := 48) hE (by first | rfl | exact rfl) (hE.get 242 rfl) (by decide) (by decide) (by decide) hF (by omega) ?_
  intro a s w hF hE
  refine ev_as hE (hE.get 244 rfl) (by decide) ?_
  intro a hE
  refine wpList_nil ?_
  refine hQ' _ a w ?_ (hE.pick ?_) ⟨s, rfl, ?_⟩
  ·rfl
  ·rfl
  ·rw [List.replicate_succ', ← List.append_assoc]; exact hF
 rintro l a w hE ⟨s, rfl, hF⟩
 rw [List.replicate_zero, List.append_nil] at hF
 show Code.wp _ _ _ _ _
 refine wp_seq ?_
 refine wp_seq ?_
 refine wp_region_lit ?_
 refine ev_r (w' := w) hE (ex_mv (hE.get 28 rfl)) fun a hE => ?_
 refine ev_r (v := .int .i64 (0 : Nat)) (w' := w) hE (by simp only [execOp]; rfl) fun a hE => ?_
 refine nx1 ?_
 generalize hq : min 3 (nd - dp) = q at *
 refine range_wp2 (N := 272) (n := q) [0, 2, 3, 4, 5, 27, 28, 29] (l0 := ((0, s) :: (2, .slice (some ⟨g, 0, none⟩) 24 24) :: (3, .int .i64 dp) :: (4, .int .i64 nd) :: (5, .int .i64 3) :: (27, .int .i64 dp) :: (28, .int .i64 q) :: (29, .int .i64 ((3 - q : Nat) : Int)) :: [])) (fun k l w => ∃ s, l = ((0, s) :: (2, .slice (some ⟨g, 0, none⟩) 24 24) :: (3, .int .i64 dp) :: (4, .int .i64 nd) :: (5, .int .i64 3) :: (27, .int .i64 dp) :: (28, .int .i64 q) :: (29, .int .i64 ((3 - q : Nat) : Int)) :: []) ∧ Fx g L B w0 (Y ++ (L.drop dp).take k) s w) (by omega) (hE.pick rfl) rfl ⟨_, rfl, by rw [List.take_zero, List.append_nil]; exact hF⟩ (by decide) (by decide) (by decide) ?_ ?_
 ·rintro k l a w hk hE ⟨s, rfl, hF⟩ Q' hQ'
  obtain ⟨b, hb⟩ : ∃ b, L[dp + k]? = some b := ⟨_, List.getElem?_eq_getElem (by omega)⟩
  have hb2 : (L.drop dp)[k]? = some b := by rw [List.getElem?_drop]; exact hb
  have hYk : (Y ++ (L.drop dp).take k).length ≤ 300 := by rw [List.length_append, List.length_take]; omega
  refine wp_block ?_
  refine wp_seq ?_
  refine wp_region_lit ?_
  refine ev_r (w' := w) hE (ex_mv (hE.get 247 rfl)) fun a hE => ?_
  refine ev_r (w' := w) hE (ex_as (hE.get 249 rfl)) fun a hE => ?_
  refine nx1 ?_
  refine wp_region_lit ?_
  refine ev_r (w' := w) hE (ex_mv (hE.get 0 rfl)) fun a hE => ?_
  refine ev_r (w' := w) hE (ex_mv (hE.get 2 rfl)) fun a hE => ?_
  refine ev_r (w' := w) hE (ex_mv (hE.get 27 rfl)) fun a hE => ?_
  refine ev_r (w' := w) hE (ex_mv (hE.get 30 rfl)) fun a hE => ?_
  refine ev_r (v := .int .i64 ((dp + k : Nat) : Int)) (w' := w) hE (ei_add (hE.get 252 rfl) (hE.get 253 rfl) (by rw [IntKind.wrap_i64]; omega)) fun a hE => ?_
  refine ev_r (v := pt g (dp + k)) (w' := w) hE (ix_u8 (hE.get 251 rfl) (hE.get 254 rfl) (by omega)) fun a hE => ?_
  refine ev_r (v := .int .u8 (b.toNat : Int)) (w' := w) hE (ex_ld (hE.get 255 rfl) ld_u8 (hF.dg.cell hb)) fun a hE => ?_
  refine ev_fx (b := b) hE (by first | rfl | exact (hE.get 256 rfl)) (hE.get 250 rfl) (by decide) (by decide) (by decide) hF (by omega) ?_
  intro a s w hF hE
  refine ev_as hE (hE.get 258 rfl) (by decide) ?_
  intro a hE
  refine wpList_nil ?_
  refine hQ' _ a w ?_ (hE.pick ?_) ⟨s, rfl, ?_⟩
  ·rfl
  ·rfl
  ·rw [take_app hb2, ← List.append_assoc]; exact hF
 rintro l a w hE ⟨s, rfl, hF⟩
 show Code.wp _ _ _ _ _
 refine wp_seq ?_
 refine wp_region_lit ?_
 refine ev_r (w' := w) hE (ex_mv (hE.get 29 rfl)) fun a hE => ?_
 refine ev_r (v := .int .i64 (0 : Nat)) (w' := w) hE (by simp only [execOp]; rfl) fun a hE => ?_
 refine nx1 ?_
 have hZl : (Y ++ (L.drop dp).take q).length ≤ 200 := by rw [List.length_append, List.length_take]; omega
 generalize hZe : Y ++ (L.drop dp).take q = Z at *
 refine range_wp2 (N := 272) (n := 3 - q) [0, 2, 3, 4, 5] (l0 := ((0, s) :: (2, .slice (some ⟨g, 0, none⟩) 24 24) :: (3, .int .i64 dp) :: (4, .int .i64 nd) :: (5, .int .i64 3) :: [])) (fun k l w => ∃ s, l = ((0, s) :: (2, .slice (some ⟨g, 0, none⟩) 24 24) :: (3, .int .i64 dp) :: (4, .int .i64 nd) :: (5, .int .i64 3) :: []) ∧ Fx g L B w0 (Z ++ List.replicate k 48) s w) (by omega) (hE.pick rfl) rfl ⟨_, rfl, by rw [List.replicate_zero, List.append_nil]; exact hF⟩ (by decide) (by decide) (by decide) ?_ ?_
 ·rintro k l a w hk hE ⟨s, rfl, hF⟩ Q' hQ'
  refine wp_block ?_
  refine wp_region_lit ?_
  have hXk : (Z ++ List.replicate k (48 : UInt8)).length ≤ 300 := by rw [List.length_append, List.length_replicate]; omega
  refine ev_mv hE (hE.get 0 rfl) (by decide) ?_
  intro a hE
  refine ev_fx (b := 48) hE (by first | rfl | exact rfl) (hE.get 263 rfl) (by decide) (by decide) (by decide) hF (by omega) ?_
  intro a s w hF hE
  refine ev_as hE (hE.get 265 rfl) (by decide) ?_
  intro a hE
  refine wpList_nil ?_
  refine hQ' _ a w ?_ (hE.pick ?_) ⟨s, rfl, ?_⟩
  ·rfl
  ·rfl
  ·rw [List.replicate_succ', ← List.append_assoc]; exact hF
 rintro l a w hE ⟨s, rfl, hF⟩
 show Code.wp _ _ _ _ _
 refine wp_seq ?_
 refine wp_region_lit ?_
 refine ev_r (w' := w) hE (ex_mv (hE.get 0 rfl)) fun a hE => ?_
 refine ev_r (w' := w) hE (ex_as (hE.get 267 rfl)) fun a hE => ?_
 refine nx1 ?_
 refine wp_ret ?_
 refine hR s a w ?_ (hE.pick rfl)
 unfold efgTail
 rw [hq]
 rw [← hZe, ← hXe] at hF
 simpa [List.append_assoc] using hF
end Go.Proofs.YtfonjeoiallhhaaGreatDoor
/- strconv.fmtEFG at 'f', precision 3: the whole. -/
set_option maxRecDepth 100000
set_option maxHeartbeats 4000000
namespace Go.Proofs.YtfonjeoiallhhaaGreatDoor
open Go.RowKit
theorem fmtEFG_any (g : Nat) (L : List UInt8) (B : Nat) (w0 : World) (s : Value) (dp nd : Nat) (hdp : dp ≤ 10) (hnd : nd ≤ L.length) (hLl : L.length ≤ 20) (w : World) (hF : Fx g L B w0 [] s w) :
  Calls Tryz.prog 88 #[s, .bool false, .slice (some ⟨g, 0, none⟩) 24 24, .int .i64 dp, .int .i64 nd, .int .i64 3, .int .u8 102, .bool false] w fun e w' => ∃ s, e = .returned s ∧ Fx g L B w0 (efg L dp nd) s w' := by
 refine calls_of_ev Tryz.func88 rfl (show 8 ≤ 272 from by decide) ?_
 intro a hE
 have hE : Ev 272 ((0, s) :: (1, .bool false) :: (2, .slice (some ⟨g, 0, none⟩) 24 24) :: (3, .int .i64 dp) :: (4, .int .i64 nd) :: (5, .int .i64 3) :: (6, .int .u8 102) :: (7, .bool false) :: []) a := hE
 refine wp_seq ?_
 refine wp_region_lit ?_
 refine ev_ac hE (by decide) ?_
 intro a hE
 refine nx1 ?_
 refine wp_seq ?_
 refine wp_seq ?_
 refine wp_region_lit ?_
 refine ev_r (w' := w) hE (ex_mv (hE.get 6 rfl)) fun a hE => ?_
 refine ev_r (v := .bool false) (w' := w) hE (by simp only [execOp, hE.get 31 rfl]; go_simp) fun a hE => ?_
 refine ev_r (w' := w) hE (ex_mv (hE.get 32 rfl)) fun a hE => ?_
 refine ev_gon (w' := w) hE rfl rfl (hE.get 33 rfl) rfl (by decide) (ex_mv (hE.get 6 rfl)) ?_
 intro a hE
 refine ev_gon (v := .bool false) (w' := w) hE rfl rfl (hE.get 33 rfl) rfl (by decide) (by simp only [execOp, hE.get 34 rfl]; go_simp) ?_
 intro a hE
 refine ev_r (v := .bool false) (w' := w) hE (by rw [ex_pick (b := false) (hE.get 33 rfl)]; have e1 := hE.get 35 rfl; simp only [e1]; rfl) fun a hE => ?_
 refine nx1 ?_
 refine wp_cond_split (hE.get 36 rfl) (fun h => by cases h) (fun _ => ?_)
 refine wp_skip ?_
 show Code.wp _ _ _ _ _
 refine wp_seq ?_
 refine wp_seq ?_
 refine wp_region_lit ?_
 refine ev_r (w' := w) hE (ex_mv (hE.get 6 rfl)) fun a hE => ?_
 refine nx1 ?_
 refine wp_block ?_
 refine wp_seq ?_
 refine wp_seq ?_
 refine wp_region_lit ?_
 refine ev_r (v := .bool false) (w' := w) hE (by simp only [execOp, hE.get 74 rfl]; go_simp) fun a hE => ?_
 refine ev_r (w' := w) hE (ex_as (hE.get 76 rfl)) fun a hE => ?_
 refine nx1 ?_
 refine wp_cond_split (hE.get 75 rfl) (fun h => by cases h) (fun _ => ?_)
 refine wp_region_lit ?_
 refine ev_r (v := .bool false) (w' := w) hE (by simp only [execOp, hE.get 74 rfl]; go_simp) fun a hE => ?_
 refine ev_r (w' := w) hE (ex_as (hE.get 77 rfl)) fun a hE => ?_
 refine nx1 ?_
 refine wp_cond_split (hE.get 75 rfl) (fun h => by cases h) (fun _ => ?_)
 refine wp_seq ?_
 refine wp_region_lit ?_
 refine ev_r (v := .bool true) (w' := w) hE (by simp only [execOp, hE.get 74 rfl]; go_simp) fun a hE => ?_
 refine ev_r (w' := w) hE (ex_as (hE.get 177 rfl)) fun a hE => ?_
 refine nx1 ?_
 refine wp_cond_split (hE.get 176 rfl) (fun _ => ?_) (fun h => by cases h)
 refine wp_seq ?_
 refine wp_seq ?_
 refine wp_region_lit ?_
 refine ev_r (w' := w) hE (ex_mv (hE.get 1 rfl)) fun a hE => ?_
 refine nx1 ?_
 refine wp_cond_split (hE.get 178 rfl) (fun h => by cases h) (fun _ => ?_)
 refine wp_skip ?_
 show Code.wp _ _ _ _ _
 refine wp_seq ?_
 refine wp_seq ?_
 refine wp_region_lit ?_
 refine ev_r (w' := w) hE (ex_mv (hE.get 3 rfl)) fun a hE => ?_
 refine ev_r (v := .bool (decide (0 < dp))) (w' := w) hE (ei_gtr (hE.get 182 rfl) rfl (by rw [decide_eq_decide]; omega)) fun a hE => ?_
 refine nx1 ?_
 refine wp_cond_split (hE.get 183 rfl) (fun hb => ?_) (fun hb => ?_)
 ·have hp := of_decide_eq_true hb
  have hE : Ev 272 ((0, s) :: (2, .slice (some ⟨g, 0, none⟩) 24 24) :: (3, .int .i64 dp) :: (4, .int .i64 nd) :: (5, .int .i64 3) :: []) a := hE.pick rfl
  refine wp_seq ?_
  refine wp_region_lit ?_
  refine ev_r (w' := w) hE (ex_mv (hE.get 4 rfl)) fun a hE => ?_
  refine ev_r (w' := w) hE (ex_mv (hE.get 3 rfl)) fun a hE => ?_
  refine ev_r (v := .int .i64 ((min nd dp : Nat) : Int)) (w' := w) hE (fx_min (hE.get 184 rfl) (hE.get 185 rfl) (by omega)) fun a hE => ?_
  refine ev_r (w' := w) hE (ex_as (hE.get 186 rfl)) fun a hE => ?_
  refine nx1 ?_
  generalize hm : min nd dp = m at *
  have hmb : m ≤ 10 := by omega
  refine wp_seq ?_
  refine wp_seq ?_
  refine wp_region_lit ?_
  refine ev_r (w' := w) hE (ex_mv (hE.get 2 rfl)) fun a hE => ?_
  refine ev_r (w' := w) hE (ex_mv (hE.get 23 rfl)) fun a hE => ?_
  refine ev_run (v := .slice (some ⟨g, 0, none⟩) m 24) (w' := w) hE rfl rfl (by decide) ?_ ?_
  ·have hs := sl_hi g m (by omega) w
   simp only [execOp, hE.get 187 rfl, Option.map, hE.get 188 rfl]
   exact run_andValue hs
  intro a hE
  refine ev_r hE (ex_len Tryz.underlying24 (hE.get 189 rfl)) fun a hE => ?_
  refine ev_r (v := .int .i64 (0 : Nat)) (w' := w) hE (by simp only [execOp]; rfl) fun a hE => ?_
  refine nx1 ?_
  refine range_wp2 (N := 272) (n := m) [0, 2, 3, 4, 5, 23, 189] (l0 := ((0, s) :: (2, .slice (some ⟨g, 0, none⟩) 24 24) :: (3, .int .i64 dp) :: (4, .int .i64 nd) :: (5, .int .i64 3) :: (23, .int .i64 m) :: (189, .slice (some ⟨g, 0, none⟩) m 24) :: [])) (fun k l w => ∃ s, l = ((0, s) :: (2, .slice (some ⟨g, 0, none⟩) 24 24) :: (3, .int .i64 dp) :: (4, .int .i64 nd) :: (5, .int .i64 3) :: (23, .int .i64 m) :: (189, .slice (some ⟨g, 0, none⟩) m 24) :: []) ∧ Fx g L B w0 (L.take k) s w) (by omega) (hE.pick rfl) rfl ⟨_, rfl, by rw [List.take_zero]; exact hF⟩ (by decide) (by decide) (by decide) ?_ ?_
  ·rintro k l a w hk hE ⟨s, rfl, hF⟩ Q' hQ'
   obtain ⟨b, hb⟩ : ∃ b, L[k]? = some b := ⟨_, List.getElem?_eq_getElem (by omega)⟩
   have hYk : (L.take k).length ≤ 300 := by rw [List.length_take]; omega
   refine wp_block ?_
   refine wp_seq ?_
   refine wp_region_lit ?_
   refine ev_r (v := pt g k) (w' := w) hE (ix_u8 (hE.get 189 rfl) (hE.get 191 rfl) (by omega)) fun a hE => ?_
   refine ev_r (v := .int .u8 (b.toNat : Int)) (w' := w) hE (ex_ld (hE.get 193 rfl) ld_u8 (hF.dg.cell hb)) fun a hE => ?_
   refine ev_r (w' := w) hE (ex_as (hE.get 194 rfl)) fun a hE => ?_
   refine nx1 ?_
   refine wp_region_lit ?_
   refine ev_mv hE (hE.get 0 rfl) (by decide) ?_
   intro a hE
   refine ev_mv hE (hE.get 25 rfl) (by decide) ?_
   intro a hE
   refine ev_fx (b := b) hE (by first | rfl | exact (hE.get 196 rfl)) (hE.get 195 rfl) (by decide) (by decide) (by decide) hF (by omega) ?_
   intro a s w hF hE
   refine ev_as hE (hE.get 198 rfl) (by decide) ?_
   intro a hE
   refine wpList_nil ?_
   refine hQ' _ a w ?_ (hE.pick ?_) ⟨s, rfl, ?_⟩
   ·rfl
   ·rfl
   ·rw [take_app hb]; exact hF
  rintro l a w hE ⟨s, rfl, hF⟩
  show Code.wp _ _ _ _ _
  refine wp_seq ?_
  refine wp_region_lit ?_
  refine ev_r (w' := w) hE (ex_mv (hE.get 3 rfl)) fun a hE => ?_
  refine ev_r (w' := w) hE (ex_mv (hE.get 23 rfl)) fun a hE => ?_
  refine ev_r (v := .int .i64 ((dp - m : Nat) : Int)) (w' := w) hE (ei_sub (hE.get 200 rfl) (hE.get 201 rfl) (by rw [IntKind.wrap_i64]; omega)) fun a hE => ?_
  refine ev_r (v := .int .i64 (0 : Nat)) (w' := w) hE (by simp only [execOp]; rfl) fun a hE => ?_
  refine nx1 ?_
  have hXl : (L.take m).length ≤ 20 := by rw [List.length_take]; omega
  generalize hXe : L.take m = X at *
  refine range_wp2 (N := 272) (n := dp - m) [0, 2, 3, 4, 5] (l0 := ((0, s) :: (2, .slice (some ⟨g, 0, none⟩) 24 24) :: (3, .int .i64 dp) :: (4, .int .i64 nd) :: (5, .int .i64 3) :: [])) (fun k l w => ∃ s, l = ((0, s) :: (2, .slice (some ⟨g, 0, none⟩) 24 24) :: (3, .int .i64 dp) :: (4, .int .i64 nd) :: (5, .int .i64 3) :: []) ∧ Fx g L B w0 (X ++ List.replicate k 48) s w) (by omega) (hE.pick rfl) rfl ⟨_, rfl, by rw [List.replicate_zero, List.append_nil]; exact hF⟩ (by decide) (by decide) (by decide) ?_ ?_
  ·rintro k l a w hk hE ⟨s, rfl, hF⟩ Q' hQ'
   refine wp_block ?_
   refine wp_region_lit ?_
   have hXk : (X ++ List.replicate k (48 : UInt8)).length ≤ 300 := by rw [List.length_append, List.length_replicate]; omega
   refine ev_mv hE (hE.get 0 rfl) (by decide) ?_
   intro a hE
   refine ev_fx (b := 48) hE (by first | rfl | exact rfl) (hE.get 205 rfl) (by decide) (by decide) (by decide) hF (by omega) ?_
   intro a s w hF hE
   refine ev_as hE (hE.get 207 rfl) (by decide) ?_
   intro a hE
   refine wpList_nil ?_
   refine hQ' _ a w ?_ (hE.pick ?_) ⟨s, rfl, ?_⟩
   ·rfl
   ·rfl
   ·rw [List.replicate_succ', ← List.append_assoc]; exact hF
  rintro l a w hE ⟨s, rfl, hF⟩
  show Code.wp _ _ _ _ _
  refine efg_tail g L B w0 _ s dp nd (by rw [List.length_append, List.length_replicate]; omega) hdp hnd hLl a w (hE.pick rfl) hF (fun s a w hF hE => ?_)
  simp only [Exit.inBlock, Exit.then]
  refine ret_of_ev hE rfl (hE.get 16 rfl) ⟨s, rfl, ?_⟩
  unfold efg
  rw [if_pos hp, hm, hXe]
  exact hF
 ·have hp := of_decide_eq_false hb
  refine wp_region_lit ?_
  refine ev_mv hE (hE.get 0 rfl) (by decide) ?_
  intro a hE
  refine ev_fx (b := 48) hE (by first | rfl | exact rfl) (hE.get 209 rfl) (by decide) (by decide) (by decide) hF (by decide) ?_
  intro a s w hF hE
  refine ev_as hE (hE.get 211 rfl) (by decide) ?_
  intro a hE
  refine nx1 ?_
  refine efg_tail g L B w0 _ s dp nd (by decide) hdp hnd hLl a w (hE.pick rfl) hF (fun s a w hF hE => ?_)
  simp only [Exit.inBlock, Exit.then]
  refine ret_of_ev hE rfl (hE.get 16 rfl) ⟨s, rfl, ?_⟩
  unfold efg
  rw [if_neg hp]
  exact hF
end Go.Proofs.YtfonjeoiallhhaaGreatDoor
