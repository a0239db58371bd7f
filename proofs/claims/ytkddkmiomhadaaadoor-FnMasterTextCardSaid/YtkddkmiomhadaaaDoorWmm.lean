/- The walk of impl.WriteMaster, the whole. -/
import Derived.Test.YtkddkmiomhadaaaDoorWma
namespace Go.Proofs.YtkddkmiomhadaaaDoor
open Go.RowKit
theorem drewN_below (w : World) (n : Nat) (B : Nat) : Below B w (w.drewN n) := ⟨rfl, rfl, rfl, Nat.le_refl _, fun _ _ => rfl⟩
/-- The result lies in two slots. -/
theorem ret2_of_ev {N t u : Nat} {l : List (Nat × Value)} {fn : Func} {R : Ending → World → Prop} {a : Act} {w : World} {x y : Value} (h : Ev N l a) (hr : fn.results = #[.tmp t, .tmp u]) (hx : a.eval (.tmp t) = x) (hy : a.eval (.tmp u) = y) (hR : R (.returned (.tuple #[x, y])) w) : bodyPost Tryd.prog fn R .ret a w :=
  bodyPost_ret (results_tmp2 hr _ _ _) h.defers (by have e1 : a.tmps.getD t undef = x := hx; have e2 : a.tmps.getD u undef = y := hy; rw [e1, e2]; exact hR)
set_option maxRecDepth 100000 in
/-- MasterPlaylist.String. -/
theorem pstring_any {Tb : World → Prop} (L : Lb Tb) (ver : Nat) (hver : ver < 256) (ind : Bool) (args : ByteArray) (ds : List Vd) (hds : ds.length ≤ 1000) (hok : ∀ d ∈ ds, d.v.Ok ∧ d.v.rate ≤ 1000 ∧ d.ys.length ≤ 1000 ∧ ∀ y ∈ d.ys, y.Ok)
    {w : World} {R : Nat → Option Value} {B pb : Nat} {slv : Value} (h0 : LibA.IsBuffer MP R U8 B pb 3 (Lib.byteCells []) w) (hTB : ∀ w', Below B w w' → Tb w') (hR0 : R 0 = some slv) (hR1 : R 1 = some (.string args)) (hR6 : R 6 = some (.int .u8 ver)) (hR7 : R 7 = some (.bool ind))
    (hV : VarsAt w slv ds) (hlim : (encText ver ind args ds).length ≤ 140737488355328) :
    Calls Tryd.prog 19 #[pt pb 0] w fun e w' => e = .returned (.string ⟨(encText ver ind args ds).toArray⟩) ∧ Below B w w' := by
  refine calls_of_ev Tryd.func19 rfl (show 1 ≤ 6 from by decide) ?_
  intro a hE
  have hE : Ev 6 ((0, pt pb 0) :: []) a := hE
  refine wp_seq ?_
  refine wp_region_lit ?_
  refine ev_ac hE (by decide) ?_
  intro a hE
  refine wpList_nil ?_
  show Code.wp _ _ _ _ _
  refine wp_seq ?_
  refine wp_region_lit ?_
  refine ev_mv hE (hE.get 0 rfl) (by decide) ?_
  intro a hE
  refine ev_call (S := fun u w' => u = pt pb 3 ∧ EW MP R B pb 3 w (encText ver ind args ds) w') hE rfl rfl (by decide) (f := 28) (args := #[pt pb 0]) ?_ ((encode_any L ver hver ind args ds hds hok h0 hTB hR0 hR1 hR6 hR7 hV hlim).mono ?_) ?_
  · simp only [execOp, resolve, List.map_toArray, List.map_cons, List.map_nil, hE.get 3 rfl]
    go_simp
  · rintro e w' ⟨rfl, h⟩
    exact ⟨_, rfl, rfl, h⟩
  rintro a u w1 ⟨rfl, hW⟩ hE
  refine ev_call (S := fun u w' => u = .string ⟨(encText ver ind args ds).toArray⟩ ∧ Below B w1 w') hE rfl rfl (by decide) (f := 29) (args := #[pt pb 3]) ?_ ((string_any MP R B pb 3 _ w1 hW.1).mono ?_) ?_
  · simp only [execOp, resolve, List.map_toArray, List.map_cons, List.map_nil, hE.get 4 rfl]
    go_simp
  · rintro e w' ⟨rfl, n, rfl⟩
    exact ⟨_, rfl, rfl, drewN_below _ _ _⟩
  rintro a u w2 ⟨rfl, hb⟩ hE
  refine ev_as hE (hE.get 5 rfl) (by decide) ?_
  intro a hE
  refine wpList_nil ?_
  show Code.wp _ _ _ _ _
  refine wp_ret ?_
  exact ret_of_ev hE rfl (hE.get 2 rfl) ⟨rfl, hW.2.1.trans hb⟩
theorem AltsAt.keep {w w' : World} {sl : Value} {ys : List At} (hk : ∀ (g : Nat) (cs : Array Value) (t : TypeId), w.heap[g]? = some (.cells cs t (0, 0)) → t = 63 ∨ t = 65 → w'.heap[g]? = some (.cells cs t (0, 0))) (h : AltsAt w sl ys) : AltsAt w' sl ys := by
  rcases h with h | ⟨gs, hl, ⟨g, cap, cs, hs, hg, hx⟩, hb⟩
  · exact .inl h
  · exact .inr ⟨gs, hl, ⟨g, cap, cs, hs, hk _ _ _ hg (.inl rfl), hx⟩, fun i ga y h1 h2 => hk _ _ _ (hb i ga y h1 h2) (.inr rfl)⟩
theorem AltsAt.below {w w' : World} {sl : Value} {ys : List At} (h : AltsAt w sl ys) (hb : Below w.heap.size w w') : AltsAt w' sl ys := h.keep fun _ _ _ hg _ => hp_below hg hb
theorem bx_im (sO : Value) (args : ByteArray) (ver : Nat) (ind : Bool) (h : sO.oneCell' = true) (w : World) : (Instr.box 33 (.agg #[sO, .string args, .int .i64 ver, .bool ind])).run Tryd.prog w = .ok (pt w.heap.size 0) (w.alloc (.cells #[sO, .string args, .int .i64 ver, .bool ind] 33)) := by
  cases sO <;> first | rfl | (simp [Value.oneCell'] at h)
set_option maxRecDepth 100000 in
theorem al_vq : Al 62 #[.int .u32 0, .int .u32 0, .int .u32 0, .string ⟨#[]⟩, .string ⟨#[]⟩, .string ⟨#[]⟩, .string ⟨#[]⟩, .string ⟨#[]⟩, .string ⟨#[]⟩, .string ⟨#[]⟩, .bool false, .string ⟨#[]⟩, .string ⟨#[]⟩, .float .f64 0, .slice none 0 0] := by intro w; go_simp
/-- Between two rounds. -/
structure Wm (B pb : Nat) (yf : Vt → List At) (xs : List Xv) (b1v : Array Value) (w0 : World) (k : Nat) (slv : Value) (gs : List Nat) (w : World) : Prop where
  len : gs.length = k
  nil : gs = [] → slv = .slice none 0 0
  own : Own vptr 82 1 w B slv gs
  pl : ∃ ver : Nat, ver < 256 ∧ w.heap[pb]? = some (.cells (mpc slv ⟨#[]⟩ 0 ver false) MP (0, 0))
  b1 : w.heap[B]? = some (.cells b1v 33 (0, 0))
  vs : ∀ (i gv : Nat) (x : Xv), gs[i]? = some gv → xs[i]? = some x → ∃ sa, w.heap[gv]? = some (.cells (x.1.mcells x.2.1 sa) 84 (0, 0)) ∧ AltsAt w sa (yf x.1)
  below : Below B w0 w
  le : B ≤ w.heap.size
theorem Wm.next {B pb : Nat} {yf : Vt → List At} {xs : List Xv} {b1v : Array Value} {w0 w w' : World} {k : Nat} {slv : Value} {gs : List Nat} (h : Wm B pb yf xs b1v w0 k slv gs w) (hb : Below w.heap.size w w') : Wm B pb yf xs b1v w0 k slv gs w' :=
  ⟨h.len, h.nil, h.own.below hb, (by obtain ⟨v, h1, h2⟩ := h.pl; exact ⟨v, h1, hp_below h2 hb⟩), hp_below h.b1 hb, (fun i gv x h1 h2 => by obtain ⟨sa, h3, h4⟩ := h.vs i gv x h1 h2; exact ⟨sa, hp_below h3 hb, h4.below hb⟩), h.below.trans (hb.mono h.le), Nat.le_trans h.le hb.size⟩
set_option maxRecDepth 100000 in
set_option maxHeartbeats 8000000 in
/-- impl.WriteMaster. -/
theorem writeMaster_any {Tb : World → Prop} (L : Lb Tb) (ver : Nat) (hver : ver < 256) (ind : Bool) (args : ByteArray) (hargs : args.size ≤ 100) (yf : Vt → List At) (xs : List Xv) (hxl : xs.length ≤ 10) (hok : ∀ x ∈ xs, x.1.Ok ∧ x.1.rate ≤ 1000 ∧ (yf x.1).length ≤ 10 ∧ ∀ y ∈ yf x.1, y.Ok) (sO : Value) (B0 : Nat) (w : World)
    (hO : Own ivl 53 16 w B0 sO xs) (hA : ∀ x ∈ xs, Own At.mlist 56 10 w B0 x.2.2 (yf x.1)) (hTB : ∀ w', Below w.heap.size w w' → Tb w') :
    Calls Tryd.prog 7 #[.agg #[sO, .string args, .int .i64 ver, .bool ind]] w fun e w' => e = .returned (.tuple #[.string ⟨(encText ver ind args (xs.map fun x => (⟨x.1, x.2.1, yf x.1⟩ : Vd))).toArray⟩, .bool true]) ∧ Below w.heap.size w w' := by
  obtain ⟨AO, capO, hsO, _⟩ := hO.shape
  have hO1 := hO.one
  refine calls_of_ev Tryd.func7 rfl (show 1 ≤ 122 from by decide) ?_
  intro a hE
  have hE : Ev 122 ((0, .agg #[sO, .string args, .int .i64 ver, .bool ind]) :: []) a := hE
  refine wp_seq ?_
  refine wp_region_lit ?_
  refine ev_box hE (hE.get 0 rfl) (bx_im _ _ _ _ hO1) (by decide) ?_
  intro a w1 hE hb1 hbl1 hs1
  refine ev_ac hE (by decide) ?_
  intro a hE
  refine ev_ac hE (by decide) ?_
  intro a hE
  refine wpList_nil ?_
  show Code.wp _ _ _ _ _
  refine wp_seq ?_
  refine wp_seq ?_
  refine wp_region_lit ?_
  refine ev_run hE rfl rfl (by decide) (ex_fa (hE.get 1 rfl) (fa_im_0 _)) ?_
  intro a hE
  refine ev_run hE rfl rfl (by decide) (ex_ld (hE.get 10 rfl) ld_ivars (cell_of_heap (v := sO) hb1 rfl)) ?_
  intro a hE
  have e11 : a.eval (.tmp 11) = .slice AO xs.length capO := by rw [← hsO]; exact hE.get 11 rfl
  refine ev_run hE rfl rfl (by decide) (ex_len Tryd.underlying31 e11) ?_
  intro a hE
  refine ev_run (v := .bool false) (w' := w1) hE rfl rfl (by decide) ?_ ?_
  · simp only [execOp, hE.get 12 rfl]
    simp [eqGuard, binOp, Op.intCmp, Act.eval, Result.andThen]
    try omega
  intro a hE
  refine ev_mv hE (hE.get 13 rfl) (by decide) ?_
  intro a hE
  refine ev_gon hE rfl rfl (hE.get 14 rfl) rfl (by decide) (ex_fa (hE.get 1 rfl) (fa_im_2 _)) ?_
  intro a hE
  refine ev_gon hE rfl rfl (hE.get 14 rfl) rfl (by decide) (ex_ld (hE.get 15 rfl) ld_i64 (cell_of_heap (v := .int .i64 ver) hb1 rfl)) ?_
  intro a hE
  refine ev_gon (v := .bool false) (w' := w1) hE rfl rfl (hE.get 14 rfl) rfl (by decide) ?_ ?_
  · simp only [execOp, hE.get 16 rfl]
    simp [eqGuard, binOp, Op.intCmp, Act.eval, Result.andThen]
    try omega
  intro a hE
  refine ev_run (v := .bool false) (w' := w1) hE rfl rfl (by decide) ?_ ?_
  · rw [ex_pick (b := false) (hE.get 14 rfl)]
    have e1 := hE.get 17 rfl
    simp only [e1]
    rfl
  intro a hE
  refine ev_mv hE (hE.get 18 rfl) (by decide) ?_
  intro a hE
  refine ev_gon hE rfl rfl (hE.get 19 rfl) rfl (by decide) (ex_fa (hE.get 1 rfl) (fa_im_2 _)) ?_
  intro a hE
  refine ev_gon hE rfl rfl (hE.get 19 rfl) rfl (by decide) (ex_ld (hE.get 20 rfl) ld_i64 (cell_of_heap (v := .int .i64 ver) hb1 rfl)) ?_
  intro a hE
  refine ev_gon (v := .bool false) (w' := w1) hE rfl rfl (hE.get 19 rfl) rfl (by decide) ?_ ?_
  · simp only [execOp, hE.get 21 rfl]
    simp [eqGuard, binOp, Op.intCmp, Act.eval, Result.andThen]
    try omega
  intro a hE
  refine ev_run (v := .bool false) (w' := w1) hE rfl rfl (by decide) ?_ ?_
  · rw [ex_pick (b := false) (hE.get 19 rfl)]
    have e1 := hE.get 22 rfl
    simp only [e1]
    rfl
  intro a hE
  refine wpList_nil ?_
  show Code.wp _ _ _ _ _
  refine wp_cond_split (hE.get 23 rfl) (fun h => by cases h) (fun _ => ?_)
  refine wp_skip ?_
  show Code.wp _ _ _ _ _
  have hE : Ev 122 ((1, pt w.heap.size 0) :: (2, .string ⟨#[]⟩) :: (3, .bool false) :: []) a := hE.pick rfl
  refine wp_seq ?_
  refine wp_region_lit ?_
  refine ev_call (S := fun u w' => u = pt w1.heap.size 0 ∧ w'.heap[w1.heap.size]? = some (.cells (mpc (.slice none 0 0) ⟨#[]⟩ 0 3 false) MP (0, 0)) ∧ Below w1.heap.size w1 w') hE rfl rfl (by decide) (f := 14) (args := #[]) ?_ ((newMaster_any w1).mono ?_) ?_
  · simp only [execOp, resolve]
    go_simp
  · rintro e w' ⟨rfl, h1, h2⟩
    exact ⟨_, rfl, rfl, h1, h2⟩
  rintro a u w2 ⟨rfl, hpl, hbl2⟩ hE
  refine ev_as hE (hE.get 24 rfl) (by decide) ?_
  intro a hE
  have hb1 := hp_below hb1 hbl2
  refine wpList_nil ?_
  show Code.wp _ _ _ _ _
  have hE : Ev 122 ((1, pt w.heap.size 0) :: (4, pt w1.heap.size 0) :: []) a := hE.pick rfl
  have hpB : w.heap.size ≤ w1.heap.size := hbl1.size
  have hbl := hbl1.trans (hbl2.mono hbl1.size)
  generalize w1.heap.size = pb at hE hpl hpB hbl2
  clear hs1
  refine wp_seq ?_
  refine wp_seq ?_
  refine wp_region_lit ?_
  refine ev_run hE rfl rfl (by decide) (ex_fa (hE.get 1 rfl) (fa_im_0 _)) ?_
  intro a hE
  refine ev_run hE rfl rfl (by decide) (ex_ld (hE.get 25 rfl) ld_ivars (cell_of_heap (v := sO) hb1 rfl)) ?_
  intro a hE
  have e26 : a.eval (.tmp 26) = .slice AO xs.length capO := by rw [← hsO]; exact hE.get 26 rfl
  refine ev_run hE rfl rfl (by decide) (ex_len Tryd.underlying31 e26) ?_
  intro a hE
  refine ev_run (v := .int .i64 (0 : Nat)) (w' := w2) hE rfl rfl (by decide) (by simp only [execOp]; rfl) ?_
  intro a hE
  refine wpList_nil ?_
  show Code.wp _ _ _ _ _
  have hW0 : Wm w.heap.size pb yf xs #[sO, .string args, .int .i64 ver, .bool ind] w 0 (.slice none 0 0) [] w2 := ⟨rfl, fun _ => rfl, Own.nil _ _ _ _ _, ⟨3, by decide, hpl⟩, hb1, fun i gv x h1 => (by simp at h1), hbl, hbl.size⟩
  refine range_wp2 (N := 122) (n := xs.length) [1, 4, 26] (l0 := ((1, pt w.heap.size 0) :: (4, pt pb 0) :: (26, sO) :: [])) (fun k l wr => l = ((1, pt w.heap.size 0) :: (4, pt pb 0) :: (26, sO) :: []) ∧ ∃ slv gs, Wm w.heap.size pb yf xs #[sO, .string args, .int .i64 ver, .bool ind] w k slv gs wr) (by omega) (hE.pick rfl) rfl ⟨rfl, _, _, hW0⟩ (by decide) (by decide) (by decide) ?_ ?_
  · rintro k l a wr hk hE ⟨rfl, slv, gs, hT⟩ Q' hQ'
    obtain ⟨x, hx⟩ : ∃ x, xs[k]? = some x := ⟨_, List.getElem?_eq_getElem hk⟩
    have hxm := List.mem_of_getElem? hx
    obtain ⟨hvok, hvr, hyl, hyok⟩ := hok x hxm
    have hAx := hA x hxm
    obtain ⟨v, fr, sa⟩ := x
    have hvok : v.Ok := hvok
    have hvr : v.rate ≤ 1000 := hvr
    have hyl : (yf v).length ≤ 10 := hyl
    have hAx : Own At.mlist 56 10 w B0 sa (yf v) := hAx
    have hiv : (ivl (v, fr, sa)).toArray = v.icells fr sa := by
      unfold ivl
      simp only
      rw [if_pos hAx.one]
    obtain ⟨Aa, capa, hsa, _⟩ := hAx.shape
    have hgl := hT.len
    refine wp_block ?_
    refine wp_seq ?_
    refine wp_region_lit ?_
    refine ev_elem ag_iv Tryd.underlying31 (fun _ => rfl) (by decide) hE (hO.below hT.below) hx (hE.get 26 rfl) (hE.get 28 rfl) (by decide) (by decide) ?_ rfl (by decide)
    rw [hiv]
    intro a hE
    refine ev_al hE al_iv (by decide) ?_
    intro a w4 hE hga hbl4 _
    refine ev_sb (cs := v.icells fr sa) hE ag_iv (hE.get 6 rfl) (hE.get 31 rfl) hga rfl rfl (by rw [← hiv]; exact ivl_one (v, fr, sa)) ?_
    intro w5 hbox ho5
    refine wpList_nil ?_
    have hb5 : Below wr.heap.size wr w5 := hbl4.trans (only_bel ho5 hbl4.size (Nat.le_refl _))
    have hT5 := hT.next hb5
    have hgb : wr.heap.size < w5.heap.size := (Array.getElem?_eq_some_iff.1 hbox).1
    have hE : Ev 122 ((6, pt wr.heap.size 0) :: (28, .int .i64 k) :: (27, .int .i64 xs.length) :: (1, pt w.heap.size 0) :: (4, pt pb 0) :: (26, sO) :: []) a := hE.pick rfl
    generalize wr.heap.size = g6 at *
    clear hga hbl4 ho5
    show Code.wp _ _ _ _ _
    refine wp_seq ?_
    refine wp_seq ?_
    refine wp_region_lit ?_
    refine ev_fa hE (hE.get 6 rfl) (fa_iv_14 _) (by decide) ?_
    intro a hE
    refine ev_ld hE (hE.get 32 rfl) ld_f64 (cell_of_heap (v := .float .f64 (e8 v.rate)) hbox rfl) (by decide) ?_
    intro a hE
    refine ev_call (S := fun u w' => u = .bool true ∧ w' = w5) hE rfl rfl (by decide) (f := 15) (args := #[.float .f64 (e8 v.rate)]) ?_ ((plain_any _ (rate_plain hvr) w5).mono ?_) ?_
    · simp only [execOp, resolve, List.map_toArray, List.map_cons, List.map_nil, hE.get 33 rfl]
      go_simp
    · rintro e w' ⟨rfl, h⟩
      exact ⟨_, rfl, rfl, h⟩
    rintro a u w6 ⟨rfl, rfl⟩ hE
    refine ev_run hE rfl rfl (by decide) (ex_not (hE.get 34 rfl)) ?_
    intro a hE
    refine wpList_nil ?_
    show Code.wp _ _ _ _ _
    refine wp_cond_split (hE.get 35 rfl) (fun h => by cases h) (fun _ => ?_)
    refine wp_skip ?_
    show Code.wp _ _ _ _ _
    have hE : Ev 122 ((6, pt g6 0) :: (28, .int .i64 k) :: (27, .int .i64 xs.length) :: (1, pt w.heap.size 0) :: (4, pt pb 0) :: (26, sO) :: []) a := hE.pick rfl
    refine wp_seq ?_
    refine wp_region_lit ?_
    refine ev_run hE rfl rfl (by decide) (ex_fa (hE.get 6 rfl) (fa_iv_1 _)) ?_
    intro a hE
    refine ev_run hE rfl rfl (by decide) (ex_ld (hE.get 36 rfl) ld_u32 (cell_of_heap (v := .int .u32 v.program) hbox rfl)) ?_
    intro a hE
    refine ev_run hE rfl rfl (by decide) (ex_fa (hE.get 6 rfl) (fa_iv_2 _)) ?_
    intro a hE
    refine ev_run hE rfl rfl (by decide) (ex_ld (hE.get 38 rfl) ld_u32 (cell_of_heap (v := .int .u32 v.bandwidth) hbox rfl)) ?_
    intro a hE
    refine ev_run hE rfl rfl (by decide) (ex_fa (hE.get 6 rfl) (fa_iv_3 _)) ?_
    intro a hE
    refine ev_run hE rfl rfl (by decide) (ex_ld (hE.get 40 rfl) ld_u32 (cell_of_heap (v := .int .u32 v.average) hbox rfl)) ?_
    intro a hE
    refine ev_run hE rfl rfl (by decide) (ex_fa (hE.get 6 rfl) (fa_iv_4 _)) ?_
    intro a hE
    refine ev_run hE rfl rfl (by decide) (ex_ld (hE.get 42 rfl) ld_string (cell_of_heap (v := .string v.codecs) hbox rfl)) ?_
    intro a hE
    refine ev_run hE rfl rfl (by decide) (ex_fa (hE.get 6 rfl) (fa_iv_5 _)) ?_
    intro a hE
    refine ev_run hE rfl rfl (by decide) (ex_ld (hE.get 44 rfl) ld_string (cell_of_heap (v := .string v.resolution) hbox rfl)) ?_
    intro a hE
    refine ev_run hE rfl rfl (by decide) (ex_fa (hE.get 6 rfl) (fa_iv_6 _)) ?_
    intro a hE
    refine ev_run hE rfl rfl (by decide) (ex_ld (hE.get 46 rfl) ld_string (cell_of_heap (v := .string v.audio) hbox rfl)) ?_
    intro a hE
    refine ev_run hE rfl rfl (by decide) (ex_fa (hE.get 6 rfl) (fa_iv_7 _)) ?_
    intro a hE
    refine ev_run hE rfl rfl (by decide) (ex_ld (hE.get 48 rfl) ld_string (cell_of_heap (v := .string v.video) hbox rfl)) ?_
    intro a hE
    refine ev_run hE rfl rfl (by decide) (ex_fa (hE.get 6 rfl) (fa_iv_8 _)) ?_
    intro a hE
    refine ev_run hE rfl rfl (by decide) (ex_ld (hE.get 50 rfl) ld_string (cell_of_heap (v := .string v.subtitles) hbox rfl)) ?_
    intro a hE
    refine ev_run hE rfl rfl (by decide) (ex_fa (hE.get 6 rfl) (fa_iv_9 _)) ?_
    intro a hE
    refine ev_run hE rfl rfl (by decide) (ex_ld (hE.get 52 rfl) ld_string (cell_of_heap (v := .string v.captions) hbox rfl)) ?_
    intro a hE
    refine ev_run hE rfl rfl (by decide) (ex_fa (hE.get 6 rfl) (fa_iv_10 _)) ?_
    intro a hE
    refine ev_run hE rfl rfl (by decide) (ex_ld (hE.get 54 rfl) ld_string (cell_of_heap (v := .string v.name) hbox rfl)) ?_
    intro a hE
    refine ev_run hE rfl rfl (by decide) (ex_fa (hE.get 6 rfl) (fa_iv_11 _)) ?_
    intro a hE
    refine ev_run hE rfl rfl (by decide) (ex_ld (hE.get 56 rfl) ld_bool (cell_of_heap (v := .bool fr) hbox rfl)) ?_
    intro a hE
    refine ev_run hE rfl rfl (by decide) (ex_fa (hE.get 6 rfl) (fa_iv_12 _)) ?_
    intro a hE
    refine ev_run hE rfl rfl (by decide) (ex_ld (hE.get 58 rfl) ld_string (cell_of_heap (v := .string ⟨#[]⟩) hbox rfl)) ?_
    intro a hE
    refine ev_run hE rfl rfl (by decide) (ex_fa (hE.get 6 rfl) (fa_iv_13 _)) ?_
    intro a hE
    refine ev_run hE rfl rfl (by decide) (ex_ld (hE.get 60 rfl) ld_string (cell_of_heap (v := .string ⟨#[]⟩) hbox rfl)) ?_
    intro a hE
    refine ev_run hE rfl rfl (by decide) (ex_fa (hE.get 6 rfl) (fa_iv_14 _)) ?_
    intro a hE
    refine ev_run hE rfl rfl (by decide) (ex_ld (hE.get 62 rfl) ld_f64 (cell_of_heap (v := .float .f64 (e8 v.rate)) hbox rfl)) ?_
    intro a hE
    refine ev_run (v := .agg (v.pcells fr (.slice none 0 0))) (w' := w6) hE rfl rfl (by decide) ?_ ?_
    · simp only [execOp, List.map_toArray, List.map_cons, List.map_nil, hE.get 37 rfl, hE.get 39 rfl, hE.get 41 rfl, hE.get 43 rfl, hE.get 45 rfl, hE.get 47 rfl, hE.get 49 rfl, hE.get 51 rfl, hE.get 53 rfl, hE.get 55 rfl, hE.get 57 rfl, hE.get 59 rfl, hE.get 61 rfl, hE.get 63 rfl]
      unfold Vt.pcells
      go_simp
    intro a hE
    refine ev_al hE al_vq (by decide) ?_
    intro a w7 hE hg7 hbl7 _
    refine ev_sb (cs := v.pcells fr (.slice none 0 0)) hE ag_vq (hE.get 7 rfl) (hE.get 64 rfl) hg7 rfl rfl (pcells_one v fr _ rfl) ?_
    intro w8 hg7 ho8
    refine wpList_nil ?_
    show Code.wp _ _ _ _ _
    have hb8 : Below w6.heap.size w6 w8 := hbl7.trans (only_bel ho8 hbl7.size (Nat.le_refl _))
    have hbox8 := hp_below hbox hb8
    have hT8 := hT5.next hb8
    have hE : Ev 122 ((7, pt w6.heap.size 0) :: (6, pt g6 0) :: (28, .int .i64 k) :: (27, .int .i64 xs.length) :: (1, pt w.heap.size 0) :: (4, pt pb 0) :: (26, sO) :: []) a := hE.pick rfl
    have h68 : w6.heap.size ≤ w8.heap.size := hb8.size
    generalize hgg : w6.heap.size = g7 at *
    clear hbl7 ho8
    refine wp_seq ?_
    refine wp_seq ?_
    refine wp_region_lit ?_
    refine ev_fa hE (hE.get 6 rfl) (fa_iv_15 _) (by decide) ?_
    intro a hE
    refine ev_ld hE (hE.get 65 rfl) ld_ialts (cell_of_heap (v := sa) hbox8 rfl) (by decide) ?_
    intro a hE
    have e66 : a.eval (.tmp 66) = .slice Aa (yf v).length capa := by rw [← hsa]; exact hE.get 66 rfl
    refine ev_run hE rfl rfl (by decide) (ex_len Tryd.underlying51 e66) ?_
    intro a hE
    refine ev_run (v := .int .i64 (0 : Nat)) (w' := w8) hE rfl rfl (by decide) (by simp only [execOp]; rfl) ?_
    intro a hE
    refine wpList_nil ?_
    show Code.wp _ _ _ _ _
    have hWa : Wa B0 g7 g7 v fr sa (yf v) w8 0 (.slice none 0 0) [] w8 := ⟨rfl, fun _ => rfl, Own.nil _ _ _ _ _, hg7, hAx.below hT8.below, fun i ga y h1 => (by simp at h1), Below.refl _ _, h68⟩
    refine wma_alts (yf v) (by omega) hWa (Nat.le_refl _) (hE.pick rfl) ?_
    intro a w9 s9 gs9 hE hW9
    show Code.wp _ _ _ _ _
    have hal9 := hW9.alts
    have hT9 := hT5.next (w' := w9) (by rw [hgg]; exact hb8.trans hW9.below)
    have hbox9 : w9.heap[g6]? = some (.cells (v.icells fr sa) 53 (0, 0)) := by
      rw [hW9.below.block g6 hgb]; exact hbox8
    obtain ⟨A9, c9, hs9, _⟩ := hW9.own.shape
    obtain ⟨ve, hve, hpl9⟩ := hT9.pl
    refine wp_region_lit ?_
    refine ev_mv hE (hE.get 4 rfl) (by decide) ?_
    intro a hE
    refine ev_fa hE (hE.get 6 rfl) (fa_iv_0 _) (by decide) ?_
    intro a hE
    refine ev_ld hE (hE.get 101 rfl) ld_string (cell_of_heap (v := .string v.uri) hbox9 rfl) (by decide) ?_
    intro a hE
    refine ev_lb hE ag_vq (hE.get 7 rfl) hW9.box rfl (by decide) ?_
    intro a hE
    refine ev_call (S := fun u w' => ∃ (slv' : Value) (gv ver' : Nat), ver' < 256 ∧ w9.heap.size ≤ gv ∧ w'.heap[pb]? = some (.cells (mpc slv' ⟨#[]⟩ 0 ver' false) MP (0, 0)) ∧ Own vptr 82 1 w' w.heap.size slv' (gs ++ [gv]) ∧ w'.heap[gv]? = some (.cells (v.mcells fr s9) 84 (0, 0)) ∧ Only (fun g => g = pb ∨ slv.ownBlock = some g) w9 w') hE rfl rfl (by decide) (f := 16) (args := #[pt pb 0, .string v.uri, .pointer none, .agg (v.pcells fr s9)]) ?_ ((append_any pb w.heap.size ve hve slv gs (by omega) 0 v fr s9 _ c9 A9 hs9 w9 hpl9 hT9.own hT9.le hpB).mono ?_) ?_
    · simp only [execOp, resolve, List.map_toArray, List.map_cons, List.map_nil, hE.get 100 rfl, hE.get 102 rfl, hE.get 103 rfl]
      go_simp
    · rintro e w' ⟨slv', gv, ver', rfl, h⟩
      exact ⟨_, rfl, slv', gv, ver', h⟩
    rintro a u w10 ⟨slv', gv, ver', hver', hgv, hpl10, hown10, hv10, hon10⟩ hE
    refine wpList_nil ?_
    have kp : ∀ (g : Nat) (cs : Array Value) (t : TypeId), w9.heap[g]? = some (.cells cs t (0, 0)) → t ≠ MP → t ≠ 82 → w10.heap[g]? = some (.cells cs t (0, 0)) := fun g cs t h h1 h2 => by
      rw [hon10.block g (Array.getElem?_eq_some_iff.1 h).1 ?_]
      · exact h
      · rintro (e | e)
        · subst e
          rw [hpl9] at h
          injection h with h
          injection h with _ h3 _
          exact h1 h3.symm
        · exact hT9.own.ne_blk h (fun e => h2 e.symm) e
    have hka : ∀ {sl : Value} {ys : List At}, AltsAt w9 sl ys → AltsAt w10 sl ys := fun h => h.keep fun g cs t hg ht => kp g cs t hg (by rcases ht with rfl | rfl <;> decide) (by rcases ht with rfl | rfl <;> decide)
    have hb10 : Below w.heap.size w9 w10 := hon10.below hT9.le fun g hg h => by
      rcases h with h | h
      · omega
      · have := (hT9.own.block_lt g h).1
        omega
    show Q' .normal a w10
    refine hQ' _ a w10 ?_ (hE.pick ?_) ⟨rfl, slv', gs ++ [gv], ?_⟩
    · rfl
    · rfl
    · refine ⟨by simp [hgl], fun h => by simp at h, hown10, ⟨ver', hver', hpl10⟩, kp _ _ _ hT9.b1 (by decide) (by decide), ?_, hT9.below.trans hb10, Nat.le_trans hT9.le hb10.size⟩
      intro i g x' h1 h2
      by_cases hik : i < k
      · rw [List.getElem?_append_left (by omega)] at h1
        obtain ⟨s', h3, h4⟩ := hT9.vs i g x' h1 h2
        exact ⟨s', kp _ _ _ h3 (by decide) (by decide), hka h4⟩
      · have hik2 : i = k := by
          have := (List.getElem?_eq_some_iff.1 h1).1
          simp at this
          omega
        subst hik2
        rw [hx] at h2
        obtain rfl := Option.some.inj h2
        rw [List.getElem?_append_right (by omega), hgl, Nat.sub_self] at h1
        obtain rfl := Option.some.inj h1
        exact ⟨s9, hv10, hka hal9⟩
  · rintro l a wr hE ⟨rfl, slv, gs, hT⟩
    obtain ⟨ve, hve, hpl⟩ := hT.pl
    have hb1 := hT.b1
    have hgl := hT.len
    obtain ⟨As, cs, hss, _⟩ := hT.own.shape
    have hneb : w.heap.size ≠ pb := fun e => by
      rw [← e, hb1] at hpl
      injection hpl with h
      injection h with _ h3 _
      exact absurd h3 (by decide)
    show Code.wp _ _ _ _ _
    refine wp_seq ?_
    refine wp_region_lit ?_
    refine ev_mv hE (hE.get 4 rfl) (by decide) ?_
    intro a hE
    refine ev_fa hE (hE.get 1 rfl) (fa_im_1 _) (by decide) ?_
    intro a hE
    refine ev_ld hE (hE.get 107 rfl) ld_string (cell_of_heap (v := .string args) hb1 rfl) (by decide) ?_
    intro a hE
    refine ev_nc hE (hE.get 106 rfl) (by decide) ?_
    intro a hE
    refine ev_fa hE (hE.get 109 rfl) (fa_mp_1 _) (by decide) ?_
    intro a hE
    refine ev_sc (v := .string args) hE (st_str _) (hE.get 110 rfl) (hE.get 108 rfl) hpl (show 1 < 8 from by decide) ?_
    intro w3 hp3 ho3
    refine wpList_nil ?_
    have hp3 : w3.heap[pb]? = some (.cells (mpc slv args 0 ve false) MP (0, 0)) := hp3
    have hb13 := hp_only hb1 ho3 hneb
    show Code.wp _ _ _ _ _
    refine wp_seq ?_
    refine wp_region_lit ?_
    refine ev_mv hE (hE.get 4 rfl) (by decide) ?_
    intro a hE
    refine ev_fa hE (hE.get 1 rfl) (fa_im_2 _) (by decide) ?_
    intro a hE
    refine ev_ld hE (hE.get 112 rfl) ld_i64 (cell_of_heap (v := .int .i64 ver) hb13 rfl) (by decide) ?_
    intro a hE
    refine ev_run (v := .int .u8 ver) (w' := w3) hE rfl rfl (by decide) ?_ ?_
    · have hw8 : IntKind.u8.wrap (ver : Int) = ver := by rw [IntKind.wrap_u8]; omega
      simp only [execOp, hE.get 113 rfl]
      go_simp
    intro a hE
    refine ev_call (S := fun u w' => w'.heap[pb]? = some (.cells (mpc slv args 0 ver false) MP (0, 0)) ∧ Only (fun x => x = pb) w3 w') hE rfl rfl (by decide) (f := 17) (args := #[pt pb 0, .int .u8 ver]) ?_ ((setVersion_any pb ver slv args 0 ve false w3 hp3).mono ?_) ?_
    · simp only [execOp, resolve, List.map_toArray, List.map_cons, List.map_nil, hE.get 111 rfl, hE.get 114 rfl]
      go_simp
    · rintro e w' ⟨rfl, h1, h2⟩
      exact ⟨_, rfl, h1, h2⟩
    rintro a u w4 ⟨hp4, ho4⟩ hE
    refine wpList_nil ?_
    have hb14 := hp_only hb13 ho4 hneb
    show Code.wp _ _ _ _ _
    refine wp_seq ?_
    refine wp_region_lit ?_
    refine ev_mv hE (hE.get 4 rfl) (by decide) ?_
    intro a hE
    refine ev_fa hE (hE.get 1 rfl) (fa_im_3 _) (by decide) ?_
    intro a hE
    refine ev_ld hE (hE.get 117 rfl) ld_bool (cell_of_heap (v := .bool ind) hb14 rfl) (by decide) ?_
    intro a hE
    refine ev_call (S := fun u w' => w'.heap[pb]? = some (.cells (mpc slv args 0 ver ind) MP (0, 0)) ∧ Only (fun x => x = pb) w4 w') hE rfl rfl (by decide) (f := 18) (args := #[pt pb 0, .bool ind]) ?_ ((setIndependent_any pb ind slv args 0 ver false w4 hp4).mono ?_) ?_
    · simp only [execOp, resolve, List.map_toArray, List.map_cons, List.map_nil, hE.get 116 rfl, hE.get 118 rfl]
      go_simp
    · rintro e w' ⟨rfl, h1, h2⟩
      exact ⟨_, rfl, h1, h2⟩
    rintro a u w5 ⟨hp5, ho5⟩ hE
    refine wpList_nil ?_
    have hon5 : Only (fun x => x = pb) wr w5 := ((ho3.trans ho4).trans ho5).mono fun x _ h => by rcases h with (h | h) | h <;> exact h
    have hb5 : Below w.heap.size wr w5 := only_bel hon5 hT.le hpB
    have hbw5 := hT.below.trans hb5
    have kp5 : ∀ (g : Nat) (cs : Array Value) (t : TypeId), wr.heap[g]? = some (.cells cs t (0, 0)) → t ≠ MP → w5.heap[g]? = some (.cells cs t (0, 0)) := fun g cs t h h1 => hp_only h hon5 (fun e => by
      subst e
      rw [hpl] at h
      injection h with h
      injection h with _ h3 _
      exact h1 h3.symm)
    have hV : VarsAt w5 slv (xs.map fun x => (⟨x.1, x.2.1, yf x.1⟩ : Vd)) := by
      by_cases hg : gs = []
      · have hl := hT.len
        rw [hg] at hl
        have hx0 : xs = [] := List.eq_nil_of_length_eq_zero hl.symm
        subst hx0
        exact .inl ⟨rfl, hT.nil hg⟩
      · obtain ⟨g, cap, cur, hs, _, hh, _, ht⟩ := hT.own.form hg
        refine .inr ⟨gs, by rw [hgl, List.length_map], ⟨g, cap, cur, hs, kp5 _ _ _ hh (by decide), fun i x hx => ?_⟩, ?_⟩
        · have h2 : (cur.toList.take (gs.length * 1))[i]? = some (pt x 0) := by
            rw [ht]
            have := flat_get (f := vptr) (k := 1) (fun _ => rfl) Nat.one_pos gs i
            rw [this, Nat.div_one, hx, Nat.mod_one]
            rfl
          have hlt := (List.getElem?_eq_some_iff.1 hx).1
          rw [List.getElem?_take_of_lt (by omega)] at h2
          simpa using h2
        · intro i gv d h1 h2
          rw [List.getElem?_map] at h2
          cases hx : xs[i]? with
          | none => rw [hx] at h2; cases h2
          | some x =>
            rw [hx] at h2
            obtain rfl := Option.some.inj h2
            obtain ⟨sa, h3, h4⟩ := hT.vs i gv x h1 hx
            exact ⟨sa, kp5 _ _ _ h3 (by decide), h4.keep fun g cs t hg ht => kp5 g cs t hg (by rcases ht with rfl | rfl <;> decide)⟩
    have hdl : (xs.map fun x => (⟨x.1, x.2.1, yf x.1⟩ : Vd)).length ≤ 10 := by rw [List.length_map]; exact hxl
    have hdok : ∀ d ∈ (xs.map fun x => (⟨x.1, x.2.1, yf x.1⟩ : Vd)), d.v.Ok ∧ d.v.rate ≤ 1000 ∧ d.ys.length ≤ 10 ∧ ∀ y ∈ d.ys, y.Ok := by
      intro d hd
      obtain ⟨x, hx, rfl⟩ := List.mem_map.1 hd
      exact hok x hx
    show Code.wp _ _ _ _ _
    refine wp_seq ?_
    refine wp_region_lit ?_
    refine ev_mv hE (hE.get 4 rfl) (by decide) ?_
    intro a hE
    have hbuf : LibA.IsBuffer MP (fun i => (mpc slv args 0 ver ind)[i]?) U8 w.heap.size pb 3 (Lib.byteCells []) w5 := LibA.zero_isBuffer (lr := 0) hpB ⟨_, hp5, rfl, rfl, rfl, fun i _ => rfl⟩
    refine ev_call (S := fun u w' => u = .string ⟨(encText ver ind args (xs.map fun x => (⟨x.1, x.2.1, yf x.1⟩ : Vd))).toArray⟩ ∧ Below w.heap.size w5 w') hE rfl rfl (by decide) (f := 19) (args := #[pt pb 0]) ?_ ((pstring_any L ver hver ind args (xs.map fun x => (⟨x.1, x.2.1, yf x.1⟩ : Vd)) (by omega) (fun d hd => ⟨(hdok d hd).1, (hdok d hd).2.1, Nat.le_trans (hdok d hd).2.2.1 (by decide), (hdok d hd).2.2.2⟩) hbuf (fun w' hb' => hTB w' (hbw5.trans hb')) (slv := slv) rfl rfl rfl rfl hV (encText_len hver hargs (fun d hd => ⟨(hdok d hd).1, (hdok d hd).2.2⟩) hdl)).mono ?_) ?_
    · simp only [execOp, resolve, List.map_toArray, List.map_cons, List.map_nil, hE.get 120 rfl]
      go_simp
    · rintro e w' ⟨rfl, h⟩
      exact ⟨_, rfl, rfl, h⟩
    rintro a u w6 ⟨rfl, hb6⟩ hE
    refine ev_as hE (hE.get 121 rfl) (by decide) ?_
    intro a hE
    refine ev_ac hE (by decide) ?_
    intro a hE
    refine wpList_nil ?_
    show Code.wp _ _ _ _ _
    refine wp_ret ?_
    exact ret2_of_ev hE rfl (hE.get 2 rfl) (hE.get 3 rfl) ⟨rfl, hbw5.trans hb6⟩

end Go.Proofs.YtkddkmiomhadaaaDoor
