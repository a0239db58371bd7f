/- The walk of MasterPlaylist.Append. -/
import Derived.Test.YtkddkmiomhadaaaDoorMpw
namespace Go.Proofs.YtkddkmiomhadaaaDoor
open Go.RowKit
noncomputable def apdBody : Code := Tryd.f16.body.getD .skip
/-- A variant's parameters. -/
def Vt.pcells (v : Vt) (fr : Bool) (sl : Value) : Array Value := #[.int .u32 v.program, .int .u32 v.bandwidth, .int .u32 v.average, .string v.codecs, .string v.resolution, .string v.audio, .string v.video, .string v.subtitles, .string v.captions, .string v.name, .bool fr, .string ⟨#[]⟩, .string ⟨#[]⟩, .float .f64 (e8 v.rate), sl]
theorem bx_vq (v : Vt) (fr : Bool) (sl : Value) (w : World) : (Instr.box 62 (.agg (v.pcells fr sl))).run Tryd.prog w = .ok (pt w.heap.size 0) (w.alloc (.cells (v.pcells fr sl) 62)) := by
  rfl
set_option maxRecDepth 100000 in
theorem al_mv : Al 84 #[.string ⟨#[]⟩, .pointer none, .int .u32 0, .int .u32 0, .int .u32 0, .string ⟨#[]⟩, .string ⟨#[]⟩, .string ⟨#[]⟩, .string ⟨#[]⟩, .string ⟨#[]⟩, .string ⟨#[]⟩, .string ⟨#[]⟩, .bool false, .string ⟨#[]⟩, .string ⟨#[]⟩, .float .f64 0, .slice none 0 0] := by intro w; go_simp
theorem pcells_one (v : Vt) (fr : Bool) (sl : Value) (h : sl.oneCell' = true) : ∀ u ∈ (v.pcells fr sl).toList, u.oneCell' = true := by
  intro u hu
  unfold Vt.pcells at hu
  simp only [List.mem_cons, List.not_mem_nil, or_false] at hu
  rcases hu with rfl | rfl | rfl | rfl | rfl | rfl | rfl | rfl | rfl | rfl | rfl | rfl | rfl | rfl | rfl
  all_goals first | rfl | exact h
set_option maxRecDepth 100000 in
theorem fa_chunk (g : Nat) : Fa 84 1 g 0 1 := by intro w; go_simp
theorem info_vp : (Tryd.prog.info? 82).map (fun i => (i.zero, i.size, i.bytes)) = some (some (.pointer none), 1, 8) := by kernel_rfl
/-- A struct stored into a part of a block. -/
theorem ev_so {N : Nat} {l : List (Nat × Value)} {a : Act} {w : World} {ops : Array Oper} {rest : List Oper} {Q : Exit → Act → World → Prop} {ty : TypeId} {ps : String} {af : Array Edge} {T k t s g o : Nat} {cs old : Array Value} {e : TypeId} (h : Ev N l a) (hA : Ag T k) (hx : a.eval (.tmp t) = pt g o) (hy : a.eval (.tmp s) = .agg cs) (hg : w.heap[g]? = some (.cells old e (0, 0))) (hsz : cs.size = k) (hso : o + k ≤ old.size) (h1 : ∀ u ∈ cs.toList, u.oneCell' = true)
    (hK : ∀ w', w'.heap[g]? = some (.cells (old.toList.take o ++ cs.toList ++ old.toList.drop (o + k)).toArray e (0, 0)) → Only (fun g' => g' = g) w w' → wpList Tryd.prog ops Q rest a w') :
    wpList Tryd.prog ops Q (⟨none, .store T (.tmp t) (.tmp s), ty, ps, af, none⟩ :: rest) a w := by
  have hr := run_storeCells_at (P := Tryd.prog) g o e cs.toList 0 old w hg (by simp; omega) h1
  have hl : cs.toList.length = k := by simpa using hsz
  rw [Nat.add_zero, hl] at hr
  refine arm_skip (w' := w.setRow g (old.toList.take o ++ cs.toList ++ old.toList.drop (o + k)).toArray) rfl rfl ?_ (hK _ (setRow_heap w g old _ e (0, 0) hg) ⟨rfl, rfl, rfl, by simp [World.setRow], fun g' hg' hne => ?_⟩)
  · simp only [execOp, hx, hy, Instr.storeAt, Instr.sureAddr]
    simp [storeVar, hA.size, Value.cells, hsz, hr, Result.andThen]
  · simp only [World.setRow, Array.getElem?_modify]
    rw [if_neg (fun h => hne h.symm)]
/-- The variants of a playlist, as pointers. -/
abbrev vptr (g : Nat) : List Value := [pt g 0]
set_option maxRecDepth 100000 in
set_option maxHeartbeats 4000000 in
/-- MasterPlaylist.Append. -/
theorem append_any (pb B ver : Nat) (hver : ver < 256) (slv : Value) (gs : List Nat) (hgs : gs.length ≤ 1000) (lr : Int) (v : Vt) (fr : Bool) (sl : Value) (n c : Nat) (A : Option Addr) (hsl : sl = .slice A n c) (w : World) (hp : w.heap[pb]? = some (.cells (mpc slv ⟨#[]⟩ lr ver false) MP (0, 0))) (hown : Own vptr 82 1 w B slv gs) (hB : B ≤ w.heap.size) (hpB : B ≤ pb) :
    Calls Tryd.prog 16 #[pt pb 0, .string v.uri, .pointer none, .agg (v.pcells fr sl)] w fun e w' => ∃ (slv' : Value) (gv ver' : Nat), e = .returned (.tuple #[]) ∧ ver' < 256 ∧ w.heap.size ≤ gv ∧ w'.heap[pb]? = some (.cells (mpc slv' ⟨#[]⟩ 0 ver' false) MP (0, 0)) ∧ Own vptr 82 1 w' B slv' (gs ++ [gv]) ∧
      w'.heap[gv]? = some (.cells (v.mcells fr sl) 84 (0, 0)) ∧ Only (fun g => g = pb ∨ slv.ownBlock = some g) w w' := by
  obtain ⟨i0, hi, hz0, hz1, hz2⟩ := info_parts info_vp
  have hs1 : sl.oneCell' = true := by rw [hsl]; rfl
  refine calls_of_ev Tryd.func16 rfl (show 4 ≤ 47 from by decide) ?_
  intro a hE
  have hE : Ev 47 ((0, pt pb 0) :: (1, .string v.uri) :: (2, .pointer none) :: (3, .agg (v.pcells fr sl)) :: []) a := hE
  refine wp_seq ?_
  refine wp_region_lit ?_
  refine ev_box hE (hE.get 3 rfl) (bx_vq v fr sl) (by decide) ?_
  intro a w1 hE h7 hbl1 hs1z
  refine wpList_nil ?_
  show Code.wp _ _ _ _ _
  refine wp_seq ?_
  refine wp_region_lit ?_
  refine ev_al hE al_mv (by decide) ?_
  intro a w2 hE hv hbl2 hs2z
  refine ev_as hE (hE.get 9 rfl) (by decide) ?_
  intro a hE
  have h7 := hp_below h7 hbl2
  have hp := hp_below hp (hbl1.trans (hbl2.mono hbl1.size))
  have hpl : pb < w.heap.size := (Array.getElem?_eq_some_iff.1 (by assumption : w.heap[pb]? = _)).1
  refine wpList_nil ?_
  show Code.wp _ _ _ _ _
  refine wp_seq ?_
  refine wp_region_lit ?_
  refine ev_mv hE (hE.get 8 rfl) (by decide) ?_
  intro a hE
  refine ev_mv hE (hE.get 1 rfl) (by decide) ?_
  intro a hE
  refine ev_nc hE (hE.get 10 rfl) (by decide) ?_
  intro a hE
  refine ev_fa hE (hE.get 12 rfl) (fa_uri _) (by decide) ?_
  intro a hE
  refine ev_sc (v := .string v.uri) hE (st_str _) (hE.get 13 rfl) (hE.get 11 rfl) hv (show 0 < 17 from by decide) ?_
  intro w3 hv ho3
  refine wpList_nil ?_
  show Code.wp _ _ _ _ _
  refine wp_seq ?_
  refine wp_region_lit ?_
  refine ev_mv hE (hE.get 8 rfl) (by decide) ?_
  intro a hE
  refine ev_mv hE (hE.get 2 rfl) (by decide) ?_
  intro a hE
  refine ev_nc hE (hE.get 14 rfl) (by decide) ?_
  intro a hE
  refine ev_fa hE (hE.get 16 rfl) (fa_chunk _) (by decide) ?_
  intro a hE
  refine ev_sc (v := .pointer none) hE st_nil (hE.get 17 rfl) (hE.get 15 rfl) hv (show 1 < 17 from by decide) ?_
  intro w4 hv ho4
  have h7 := hp_only (hp_only h7 ho3 (by omega)) ho4 (by omega)
  refine wpList_nil ?_
  show Code.wp _ _ _ _ _
  refine wp_seq ?_
  refine wp_region_lit ?_
  refine ev_mv hE (hE.get 8 rfl) (by decide) ?_
  intro a hE
  refine ev_lb hE ag_vq (hE.get 7 rfl) h7 rfl (by decide) ?_
  intro a hE
  refine ev_nc hE (hE.get 18 rfl) (by decide) ?_
  intro a hE
  refine ev_fa hE (hE.get 20 rfl) (fa_va _) (by decide) ?_
  intro a hE
  refine ev_so (cs := v.pcells fr sl) hE ag_vq (hE.get 21 rfl) (hE.get 19 rfl) hv rfl (show 2 + 15 ≤ 17 from by decide) (pcells_one v fr sl hs1) ?_
  intro w5 hv ho5
  have hv : w5.heap[w1.heap.size]? = some (.cells (v.mcells fr sl) 84 (0, 0)) := hv
  have hon5 : Only (fun g => g = w1.heap.size) w2 w5 := ((ho3.trans ho4).trans ho5).mono fun x _ h => by rcases h with (h | h) | h <;> exact h
  have hb5 : Below w.heap.size w w5 := (hbl1.trans (hbl2.mono hbl1.size)).trans (only_bel hon5 (by omega) hbl1.size)
  have hp := hp_only hp hon5 (by omega)
  have hown5 := hown.below hb5
  have hE : Ev 47 ((0, pt pb 0) :: (8, pt w1.heap.size 0) :: []) a := hE.pick rfl
  have hgv : w.heap.size ≤ w1.heap.size := hbl1.size
  generalize w1.heap.size = gv at hE hv hgv
  clear hbl1 hbl2 hs1z hs2z h7 ho3 ho4 ho5 hon5
  refine wpList_nil ?_
  show Code.wp _ _ _ _ _
  refine wp_seq ?_
  refine wp_region_lit ?_
  refine ev_mv hE (hE.get 0 rfl) (by decide) ?_
  intro a hE
  refine ev_mv hE (hE.get 0 rfl) (by decide) ?_
  intro a hE
  refine ev_nc hE (hE.get 23 rfl) (by decide) ?_
  intro a hE
  refine ev_fa hE (hE.get 24 rfl) (fa_mp_0 _) (by decide) ?_
  intro a hE
  refine ev_ld hE (hE.get 25 rfl) ld_vars (cell_of_heap (v := slv) hp rfl) (by decide) ?_
  intro a hE
  refine ev_mv hE (hE.get 8 rfl) (by decide) ?_
  intro a hE
  refine ev_push (fl := vptr) (y := gv) 67 Tryd.underlying67 i0 _ 8 hi hz0 hz1 hz2 (by rfl) (by decide) (fun _ => rfl) (by intro x u hu; obtain rfl := List.mem_singleton.1 hu; rfl) hE ?_ (hE.get 26 rfl) (by decide) (by decide) (by decide) hown5 (Nat.le_trans hB hb5.size) (by omega) (by omega) ?_
  · simp only [execOp, List.map_toArray, List.map_cons, List.map_nil, hE.get 27 rfl]
    go_simp
  intro a slv' w6 hown6 hon6 hob6 hE
  have hlt : ∀ {g : Nat} {ob : Obj}, w5.heap[g]? = some ob → g < w5.heap.size := fun h => (Array.getElem?_eq_some_iff.1 h).1
  have hp6 : w6.heap[pb]? = _ := (hon6.block _ (hlt hp) (fun hv2 => hown5.ne_blk hp (by decide) hv2)).trans hp
  have hv6 : w6.heap[gv]? = _ := (hon6.block _ (hlt hv) (fun hv2 => hown5.ne_blk hv (by decide) hv2)).trans hv
  obtain ⟨A6, c6, hs6, _⟩ := hown6.shape
  refine ev_nc hE (hE.get 22 rfl) (by decide) ?_
  intro a hE
  refine ev_fa hE (hE.get 30 rfl) (fa_mp_0 _) (by decide) ?_
  intro a hE
  refine ev_sc (v := slv') hE (by rw [hs6]; exact st_slice _ Tryd.sizeOf67 _ _ _) (hE.get 31 rfl) (hE.get 29 rfl) hp6 (show 0 < 8 from by decide) ?_
  intro w7 hp7 ho7
  have hp7 : w7.heap[pb]? = some (.cells (mpc slv' ⟨#[]⟩ lr ver false) MP (0, 0)) := hp7
  have hnepv : gv ≠ pb := by omega
  have hv7 := hp_only hv6 ho7 hnepv
  have hown7 := hown6.only ho7 (fun g hg e => by subst e; exact hown6.ne_blk hp6 (by decide) hg)
  have hon7 : Only (fun g => g = pb ∨ slv.ownBlock = some g) w w7 := ((Only.of_below (M := fun _ => False) hb5).trans (hon6.trans ho7)).mono fun x _ h => by
    rcases h with h | h | h
    · exact h.elim
    · exact .inr h
    · exact .inl h
  have hE : Ev 47 ((0, pt pb 0) :: (8, pt gv 0) :: []) a := hE.pick rfl
  refine wpList_nil ?_
  show Code.wp _ _ _ _ _
  refine wp_seq ?_
  refine wp_seq ?_
  refine wp_region_lit ?_
  refine ev_mv hE (hE.get 8 rfl) (by decide) ?_
  intro a hE
  refine ev_nc hE (hE.get 32 rfl) (by decide) ?_
  intro a hE
  refine ev_fa hE (hE.get 33 rfl) (fa_va _) (by decide) ?_
  intro a hE
  refine ev_fa hE (hE.get 34 rfl) (fa_vp_14 _) (by decide) ?_
  intro a hE
  refine ev_ld hE (hE.get 35 rfl) ld_alts (cell_of_heap (v := .slice A n c) (by rw [hsl] at hv7; exact hv7) rfl) (by decide) ?_
  intro a hE
  refine ev_run hE rfl rfl (by decide) (ex_len Tryd.underlying60 (hE.get 36 rfl)) ?_
  intro a hE
  refine ev_run (v := .bool (decide ((0 : Int) < n))) (w' := w7) hE rfl rfl (by decide) ?_ ?_
  · simp only [execOp, hE.get 37 rfl]
    simp [eqGuard, binOp, Op.intCmp, Act.eval, Result.andThen]
  intro a hE
  refine wpList_nil ?_
  show Code.wp _ _ _ _ _
  have e38 := hE.get 38 rfl
  have hE : Ev 47 ((0, pt pb 0) :: (8, pt gv 0) :: []) a := hE.pick rfl
  -- the cache is reset
  have cont : ∀ a w8 ver', ver' < 256 → Ev 47 ((0, pt pb 0) :: (8, pt gv 0) :: []) a → w8.heap[pb]? = some (.cells (mpc slv' ⟨#[]⟩ lr ver' false) MP (0, 0)) → Only (fun x => x = pb) w7 w8 → Code.wp Tryd.prog (cB (cB (cB (cB (cB (cB (cB apdBody))))))) (bodyPost Tryd.prog Tryd.f16 fun e w' => ∃ (slv' : Value) (gv ver' : Nat), e = .returned (.tuple #[]) ∧ ver' < 256 ∧ w.heap.size ≤ gv ∧ w'.heap[pb]? = some (.cells (mpc slv' ⟨#[]⟩ 0 ver' false) MP (0, 0)) ∧ Own vptr 82 1 w' B slv' (gs ++ [gv]) ∧
      w'.heap[gv]? = some (.cells (v.mcells fr sl) 84 (0, 0)) ∧ Only (fun g => g = pb ∨ slv.ownBlock = some g) w w') a w8 := by
    intro a w8 ver' hver' hE hp8 ho8
    refine wp_region_lit ?_
    refine ev_mv hE (hE.get 0 rfl) (by decide) ?_
    intro a hE
    refine ev_nc hE (hE.get 43 rfl) (by decide) ?_
    intro a hE
    refine ev_fa hE (hE.get 44 rfl) (fa_mp_3 _) (by decide) ?_
    intro a hE
    refine ev_call (S := fun u w' => u = .tuple #[] ∧ w'.heap[pb]? = some (.cells (mpc slv' ⟨#[]⟩ 0 ver' false) MP (0, 0)) ∧ Only (fun x => x = pb) w8 w') hE rfl rfl (by decide) (f := 27) (args := #[pt pb 3]) ?_ ((reset_any pb slv' ⟨#[]⟩ lr ver' false w8 hp8).mono ?_) ?_
    · simp only [execOp, resolve, List.map_toArray, List.map_cons, List.map_nil, hE.get 45 rfl]
      go_simp
    · rintro e w' ⟨rfl, h1, h2⟩
      exact ⟨_, rfl, rfl, h1, h2⟩
    rintro a u w9 ⟨rfl, hp9, ho9⟩ hE
    refine wpList_nil ?_
    have ho79 : Only (fun x => x = pb) w7 w9 := (ho8.trans ho9).mono fun x _ h => by rcases h with h | h <;> exact h
    refine end_ev hE rfl ⟨slv', gv, ver', rfl, hver', hgv, hp9, hown7.only ho79 (fun g hg e => by subst e; exact hown7.ne_blk hp7 (by decide) hg), hp_only hv7 ho79 hnepv, (hon7.trans ho79).mono fun x _ h => ?_⟩
    rcases h with h | h
    · exact h
    · exact .inl h
  refine wp_cond_split e38 (fun h => ?_) (fun h => ?_)
  · refine wp_region_lit ?_
    refine ev_mv hE (hE.get 0 rfl) (by decide) ?_
    intro a hE
    refine ev_nc hE (hE.get 39 rfl) (by decide) ?_
    intro a hE
    refine ev_fa hE (hE.get 40 rfl) (fa_mp_4 _) (by decide) ?_
    intro a hE
    refine ev_call (S := fun u w' => u = .tuple #[] ∧ w'.heap[pb]? = some (.cells (mpc slv' ⟨#[]⟩ lr (if ver < 4 then 4 else ver) false) MP (0, 0)) ∧ Only (fun x => x = pb) w7 w') hE rfl rfl (by decide) (f := 26) (args := #[pt pb 6, .int .u8 (4 : Nat)]) ?_ ((version_any pb 4 slv' ⟨#[]⟩ lr ver false w7 hp7).mono ?_) ?_
    · simp only [execOp, resolve, List.map_toArray, List.map_cons, List.map_nil, hE.get 41 rfl]
      go_simp
    · rintro e w' ⟨rfl, h1, h2⟩
      exact ⟨_, rfl, rfl, h1, h2⟩
    rintro a u w8 ⟨rfl, hp8, ho8⟩ hE
    refine wpList_nil ?_
    show Code.wp _ _ _ _ _
    exact cont a w8 _ (by split <;> omega) (hE.pick rfl) hp8 ho8
  · refine wp_skip ?_
    show Code.wp _ _ _ _ _
    exact cont a w7 ver hver hE hp7 (Only.refl _ _)
end Go.Proofs.YtkddkmiomhadaaaDoor
