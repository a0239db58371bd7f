/- Small walks about a master playlist: new, its version, its buffer reset, its marks; plainNumber. -/
import Derived.Test.YtkddkmiomhadaaaDoorTow
namespace Go.Proofs.YtkddkmiomhadaaaDoor
open Go.RowKit
def mpc (slv : Value) (args : ByteArray) (lr : Int) (ver : Nat) (ind : Bool) : Array Value := #[slv, .string args, .string ⟨#[]⟩, .slice none 0 0, .int .i64 0, .int .i8 lr, .int .u8 ver, .bool ind]
theorem end_ev {N : Nat} {l : List (Nat × Value)} {fn : Func} {R : Ending → World → Prop} {a : Act} {w : World} (h : Ev N l a) (hr : fn.results = #[]) (hR : R (.returned (.tuple #[])) w) : bodyPost Tryd.prog fn R .normal a w :=
  ⟨h.defers, _, results_none hr _ _ _, hR⟩
theorem st_u8 (n : Int) : St 5 (.int .u8 n) := by intro w q u hc hf; simp only [Instr.storeAt, Instr.sureAddr]; go_simp
theorem st_bool (b : Bool) : St 4 (.bool b) := by intro w q u hc hf; simp only [Instr.storeAt, Instr.sureAddr]; go_simp
theorem st_int (n : Int) : St 3 (.int .i64 n) := by intro w q u hc hf; simp only [Instr.storeAt, Instr.sureAddr]; go_simp
theorem st_op (n : Int) : St 70 (.int .i8 n) := by intro w q u hc hf; simp only [Instr.storeAt, Instr.sureAddr]; go_simp
theorem st_str (s : ByteArray) : St 9 (.string s) := by intro w q u hc hf; simp only [Instr.storeAt, Instr.sureAddr]; go_simp
theorem st_nil : St 81 (.pointer none) := by intro w q u hc hf; simp only [Instr.storeAt, Instr.sureAddr]; go_simp
set_option maxRecDepth 100000 in
theorem al_mp : Al MP (mpc (.slice none 0 0) ⟨#[]⟩ 0 0 false) := by intro w; unfold mpc; go_simp
theorem fa_mp_3 (g : Nat) : Fa MP 3 g 0 3 := fa_buf g
set_option maxRecDepth 100000 in
theorem fb_0 (g : Nat) : Fa 72 0 g 3 3 := by intro w; go_simp
set_option maxRecDepth 100000 in
theorem fb_1 (g : Nat) : Fa 72 1 g 3 4 := by intro w; go_simp
set_option maxRecDepth 100000 in
theorem fb_2 (g : Nat) : Fa 72 2 g 3 5 := by intro w; go_simp
set_option maxRecDepth 100000 in
theorem ld_bytes : Ld 68 := by intro w p v h; go_simp
set_option maxRecDepth 100000 in
theorem newMaster_any (w : World) : Calls Tryd.prog 14 #[] w fun e w' => e = .returned (pt w.heap.size 0) ∧ w'.heap[w.heap.size]? = some (.cells (mpc (.slice none 0 0) ⟨#[]⟩ 0 3 false) MP (0, 0)) ∧ Below w.heap.size w w' := by
  refine calls_of_ev Tryd.func14 rfl (show 0 ≤ 7 from by decide) ?_
  intro a hE
  have hE : Ev 7 ([]) a := hE
  refine wp_seq ?_
  refine wp_region_lit ?_
  refine ev_ac hE (by decide) ?_
  intro a hE
  refine wpList_nil ?_
  show Code.wp _ _ _ _ _
  refine wp_seq ?_
  refine wp_region_lit ?_
  refine ev_al hE al_mp (by decide) ?_
  intro a w1 hE hp hb1 _
  refine ev_as hE (hE.get 2 rfl) (by decide) ?_
  intro a hE
  refine wpList_nil ?_
  show Code.wp _ _ _ _ _
  refine wp_seq ?_
  refine wp_region_lit ?_
  refine ev_mv hE (hE.get 1 rfl) (by decide) ?_
  intro a hE
  refine ev_nc hE (hE.get 3 rfl) (by decide) ?_
  intro a hE
  refine ev_fa hE (hE.get 4 rfl) (fa_mp_4 _) (by decide) ?_
  intro a hE
  refine ev_sc (v := .int .u8 3) hE (st_u8 3) (hE.get 5 rfl) rfl hp (show 6 < 8 from by decide) ?_
  intro w2 hp ho
  refine wpList_nil ?_
  show Code.wp _ _ _ _ _
  refine wp_seq ?_
  refine wp_region_lit ?_
  refine ev_mv hE (hE.get 1 rfl) (by decide) ?_
  intro a hE
  refine ev_as hE (hE.get 6 rfl) (by decide) ?_
  intro a hE
  refine wpList_nil ?_
  show Code.wp _ _ _ _ _
  refine wp_ret ?_
  exact ret_of_ev hE rfl (hE.get 0 rfl) ⟨rfl, hp, hb1.trans (only_bel ho hb1.size (Nat.le_refl _))⟩
set_option maxRecDepth 100000 in
theorem version_any (g n : Nat) (slv : Value) (args : ByteArray) (lr : Int) (ver : Nat) (ind : Bool) (w : World) (hp : w.heap[g]? = some (.cells (mpc slv args lr ver ind) MP (0, 0))) :
    Calls Tryd.prog 26 #[pt g 6, .int .u8 n] w (fun e w' => e = .returned (.tuple #[]) ∧ w'.heap[g]? = some (.cells (mpc slv args lr (if ver < n then n else ver) ind) MP (0, 0)) ∧ Only (fun x => x = g) w w') := by
  refine calls_of_ev Tryd.func26 rfl (show 2 ≤ 12 from by decide) ?_
  intro a hE
  have hE : Ev 12 ((0, pt g 6) :: (1, .int .u8 n) :: []) a := hE
  refine wp_seq ?_
  refine wp_region_lit ?_
  refine ev_mv hE (hE.get 0 rfl) (by decide) ?_
  intro a hE
  refine ev_nc hE (hE.get 4 rfl) (by decide) ?_
  intro a hE
  refine ev_ld hE (hE.get 5 rfl) ld_u8 (cell_of_heap (v := .int .u8 ver) hp rfl) (by decide) ?_
  intro a hE
  refine ev_mv hE (hE.get 1 rfl) (by decide) ?_
  intro a hE
  refine ev_run (v := .bool (decide (ver < n))) (w' := w) hE rfl rfl (by decide) ?_ ?_
  · simp only [execOp, hE.get 6 rfl, hE.get 7 rfl]
    simp [eqGuard, binOp, Op.intCmp, Result.andThen]
  intro a hE
  refine wpList_nil ?_
  show Code.wp _ _ _ _ _
  refine wp_cond_split (hE.get 8 rfl) (fun h => ?_) (fun h => ?_)
  · have h := of_decide_eq_true h
    refine wp_region_lit ?_
    refine ev_mv hE (hE.get 0 rfl) (by decide) ?_
    intro a hE
    refine ev_mv hE (hE.get 1 rfl) (by decide) ?_
    intro a hE
    refine ev_nc hE (hE.get 9 rfl) (by decide) ?_
    intro a hE
    refine ev_sc (v := .int .u8 n) hE (st_u8 n) (hE.get 11 rfl) (hE.get 10 rfl) hp (show 6 < 8 from by decide) ?_
    intro w2 hp ho
    refine wpList_nil ?_
    exact end_ev hE rfl ⟨rfl, by rw [if_pos h]; exact hp, ho⟩
  · have h := of_decide_eq_false h
    refine wp_skip ?_
    exact end_ev hE rfl ⟨rfl, by rw [if_neg h]; exact hp, Only.refl _ _⟩
set_option maxRecDepth 100000 in
theorem reset_any (g : Nat) (slv : Value) (args : ByteArray) (lr : Int) (ver : Nat) (ind : Bool) (w : World) (hp : w.heap[g]? = some (.cells (mpc slv args lr ver ind) MP (0, 0))) :
    Calls Tryd.prog 27 #[pt g 3] w (fun e w' => e = .returned (.tuple #[]) ∧ w'.heap[g]? = some (.cells (mpc slv args 0 ver ind) MP (0, 0)) ∧ Only (fun x => x = g) w w') := by
  refine calls_of_ev Tryd.func27 rfl (show 1 ≤ 16 from by decide) ?_
  intro a hE
  have hE : Ev 16 ((0, pt g 3) :: []) a := hE
  refine wp_seq ?_
  refine wp_region_lit ?_
  refine ev_mv hE (hE.get 0 rfl) (by decide) ?_
  intro a hE
  refine ev_mv hE (hE.get 0 rfl) (by decide) ?_
  intro a hE
  refine ev_nc hE (hE.get 3 rfl) (by decide) ?_
  intro a hE
  refine ev_fa hE (hE.get 4 rfl) (fb_0 _) (by decide) ?_
  intro a hE
  refine ev_ld hE (hE.get 5 rfl) ld_bytes (cell_of_heap (v := .slice none 0 0) hp rfl) (by decide) ?_
  intro a hE
  refine ev_run (v := .slice none 0 0) (w' := w) hE rfl rfl (by decide) ?_ ?_
  · simp only [execOp, hE.get 6 rfl]
    go_simp
  intro a hE
  refine ev_nc hE (hE.get 2 rfl) (by decide) ?_
  intro a hE
  refine ev_fa hE (hE.get 8 rfl) (fb_0 _) (by decide) ?_
  intro a hE
  refine ev_sc (v := .slice none 0 0) hE (st_slice _ Tryd.sizeOf68 _ _ _) (hE.get 9 rfl) (hE.get 7 rfl) hp (show 3 < 8 from by decide) ?_
  intro w1 hp ho1
  refine wpList_nil ?_
  show Code.wp _ _ _ _ _
  refine wp_seq ?_
  refine wp_region_lit ?_
  refine ev_mv hE (hE.get 0 rfl) (by decide) ?_
  intro a hE
  refine ev_nc hE (hE.get 10 rfl) (by decide) ?_
  intro a hE
  refine ev_fa hE (hE.get 11 rfl) (fb_1 _) (by decide) ?_
  intro a hE
  refine ev_sc (v := .int .i64 0) hE (st_int 0) (hE.get 12 rfl) rfl hp (show 4 < 8 from by decide) ?_
  intro w2 hp ho2
  refine wpList_nil ?_
  show Code.wp _ _ _ _ _
  refine wp_region_lit ?_
  refine ev_mv hE (hE.get 0 rfl) (by decide) ?_
  intro a hE
  refine ev_nc hE (hE.get 13 rfl) (by decide) ?_
  intro a hE
  refine ev_fa hE (hE.get 14 rfl) (fb_2 _) (by decide) ?_
  intro a hE
  refine ev_sc (v := .int .i8 0) hE (st_op 0) (hE.get 15 rfl) rfl hp (show 5 < 8 from by decide) ?_
  intro w3 hp ho3
  refine wpList_nil ?_
  exact end_ev hE rfl ⟨rfl, hp, ((ho1.trans ho2).trans ho3).mono fun x _ h => by rcases h with (h | h) | h <;> exact h⟩
set_option maxRecDepth 100000 in
theorem setVersion_any (g : Nat) (n : Nat) (slv : Value) (args : ByteArray) (lr : Int) (ver : Nat) (ind : Bool) (w : World) (hp : w.heap[g]? = some (.cells (mpc slv args lr ver ind) MP (0, 0))) :
    Calls Tryd.prog 17 #[pt g 0, .int .u8 n] w (fun e w' => e = .returned (.tuple #[]) ∧ w'.heap[g]? = some (.cells (mpc slv args lr n ind) MP (0, 0)) ∧ Only (fun x => x = g) w w') := by
  refine calls_of_ev Tryd.func17 rfl (show 2 ≤ 8 from by decide) ?_
  intro a hE
  have hE : Ev 8 ((0, pt g 0) :: (1, .int .u8 n) :: []) a := hE
  refine wp_region_lit ?_
  refine ev_mv hE (hE.get 0 rfl) (by decide) ?_
  intro a hE
  refine ev_mv hE (hE.get 1 rfl) (by decide) ?_
  intro a hE
  refine ev_nc hE (hE.get 4 rfl) (by decide) ?_
  intro a hE
  refine ev_fa hE (hE.get 6 rfl) (fa_mp_4 _) (by decide) ?_
  intro a hE
  refine ev_sc (v := .int .u8 n) hE (st_u8 n) (hE.get 7 rfl) (hE.get 5 rfl) hp (show 6 < 8 from by decide) ?_
  intro w1 hp ho
  refine wpList_nil ?_
  exact end_ev hE rfl ⟨rfl, hp, ho⟩
set_option maxRecDepth 100000 in
theorem setIndependent_any (g : Nat) (b : Bool) (slv : Value) (args : ByteArray) (lr : Int) (ver : Nat) (ind : Bool) (w : World) (hp : w.heap[g]? = some (.cells (mpc slv args lr ver ind) MP (0, 0))) :
    Calls Tryd.prog 18 #[pt g 0, .bool b] w (fun e w' => e = .returned (.tuple #[]) ∧ w'.heap[g]? = some (.cells (mpc slv args lr ver b) MP (0, 0)) ∧ Only (fun x => x = g) w w') := by
  refine calls_of_ev Tryd.func18 rfl (show 2 ≤ 8 from by decide) ?_
  intro a hE
  have hE : Ev 8 ((0, pt g 0) :: (1, .bool b) :: []) a := hE
  refine wp_region_lit ?_
  refine ev_mv hE (hE.get 0 rfl) (by decide) ?_
  intro a hE
  refine ev_mv hE (hE.get 1 rfl) (by decide) ?_
  intro a hE
  refine ev_nc hE (hE.get 4 rfl) (by decide) ?_
  intro a hE
  refine ev_fa hE (hE.get 6 rfl) (fa_mp_5 _) (by decide) ?_
  intro a hE
  refine ev_sc (v := .bool b) hE (st_bool b) (hE.get 7 rfl) (hE.get 5 rfl) hp (show 7 < 8 from by decide) ?_
  intro w1 hp ho
  refine wpList_nil ?_
  exact end_ev hE rfl ⟨rfl, hp, ho⟩
def plainB (x : Nat) : Bool := (FloatKind.f64.format.order x 14054727237768577024 == some .gt || FloatKind.f64.format.order x 14054727237768577024 == some .eq) && (FloatKind.f64.format.order x 4831355200913801216 == some .lt || FloatKind.f64.format.order x 4831355200913801216 == some .eq)
theorem rate_plain_all : (List.range 1001).all (fun t => plainB (e8 t)) = true := by decide +kernel
theorem rate_plain {t : Nat} (h : t ≤ 1000) : plainB (e8 t) = true := List.all_eq_true.1 rate_plain_all t (List.mem_range.2 (by omega))
theorem rate_neq_all : (List.range 1001).all (fun t => (FloatKind.f64.format.order (e8 t) 0 != some .eq) == decide (t ≠ 0)) = true := by decide +kernel
theorem rate_neq (r : Nat) (h : r ≤ 1000) (w : World) : (binOp .neq 50 (.float .f64 (e8 r)) (.float .f64 0)).run Tryd.prog w = .ok (.bool (decide (r ≠ 0))) w := by
  have h1 := List.all_eq_true.1 rate_neq_all r (List.mem_range.2 (by omega))
  have h2 : (FloatKind.f64.format.order (e8 r) 0 != some .eq) = decide (r ≠ 0) := by simpa using h1
  rw [← h2]
  rfl
set_option maxRecDepth 100000 in
theorem plain_any (x : Nat) (hx : plainB x = true) (w : World) : Calls Tryd.prog 15 #[.float .f64 x] w fun e w' => e = .returned (.bool true) ∧ w' = w := by
  unfold plainB at hx
  rw [Bool.and_eq_true] at hx
  refine calls_of_ev Tryd.func15 rfl (show 1 ≤ 9 from by decide) ?_
  intro a hE
  have hE : Ev 9 ((0, .float .f64 x) :: []) a := hE
  refine wp_seq ?_
  refine wp_region_lit ?_
  refine ev_ac hE (by decide) ?_
  intro a hE
  refine wpList_nil ?_
  show Code.wp _ _ _ _ _
  refine wp_seq ?_
  refine wp_region_lit ?_
  refine ev_mv hE (hE.get 0 rfl) (by decide) ?_
  intro a hE
  refine ev_run (v := .bool true) (w' := w) hE rfl rfl (by decide) ?_ ?_
  · simp only [execOp, hE.get 3 rfl]
    rw [← hx.1]
    rfl
  intro a hE
  refine ev_mv hE (hE.get 4 rfl) (by decide) ?_
  intro a hE
  refine ev_gon hE rfl rfl (hE.get 5 rfl) rfl (by decide) (ex_mv (hE.get 0 rfl)) ?_
  intro a hE
  refine ev_gon (v := .bool true) (w' := w) hE rfl rfl (hE.get 5 rfl) rfl (by decide) ?_ ?_
  · simp only [execOp, hE.get 6 rfl]
    rw [← hx.2]
    rfl
  intro a hE
  refine ev_run (v := .bool true) (w' := w) hE rfl rfl (by decide) ?_ ?_
  · rw [ex_pick (b := true) (hE.get 5 rfl)]
    have e1 := hE.get 7 rfl
    simp only [if_true, e1]
  intro a hE
  refine ev_as hE (hE.get 8 rfl) (by decide) ?_
  intro a hE
  refine wpList_nil ?_
  show Code.wp _ _ _ _ _
  refine wp_ret ?_
  exact ret_of_ev hE rfl (hE.get 2 rfl) ⟨rfl, rfl⟩
end Go.Proofs.YtkddkmiomhadaaaDoor
