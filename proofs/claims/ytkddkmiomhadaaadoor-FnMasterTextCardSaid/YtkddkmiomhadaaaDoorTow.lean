/- The walk of laws.toMaster: a master playlist as data. -/
import Derived.Test.YtkddkmiomhadaaaDoorToa
namespace Go.Proofs.YtkddkmiomhadaaaDoor
open Go.RowKit
/-- The result lies in a cell's block. -/
theorem ret_cell {N t k g : Nat} {T : TypeId} {l : List (Nat × Value)} {fn : Func} {R : Ending → World → Prop} {a : Act} {w : World} {cs : Array Value} {e : TypeId} {fr : Nat × Nat} (h : Ev N l a) (hr : fn.results = #[.cell t T]) (hA : Ag T k) (hv : a.eval (.tmp t) = pt g 0) (hg : w.heap[g]? = some (.cells cs e fr)) (hsz : cs.size = k) (hR : R (.returned (.agg cs)) w) : bodyPost Tryd.prog fn R .ret a w := by
  refine bodyPost_ret (v := .agg cs) ?_ h.defers hR
  have hl := run_load_blk (P := Tryd.prog) (w := w) T hA.agg hA.size hg hsz
  have hv' : a.tmps.getD t undef = pt g 0 := hv
  rw [Array.getD_eq_getD_getElem?] at hv'
  simp [results, hr, hv', asAddr, hl]
/-- Between two rounds. -/
structure Tq (b B : Nat) (ver : Nat) (ind : Bool) (sA sV : Value) (As : List At) (dk : List (Vt × Bool)) (w0 : World) (sO : Value) (xs : List Xv) (w : World) : Prop where
  own : Own ivl 53 16 w B sO xs
  eq : xs.map (fun x => (x.1, x.2.1)) = dk
  alts : ∀ x ∈ xs, Own At.mlist 56 10 w B x.2.2 (ofL As x.1)
  b5 : w.heap[b + 2]? = some (.cells #[sO, .string ⟨#[]⟩, .int .i64 ver, .bool ind] 33 (0, 0))
  b4 : w.heap[b + 1]? = some (.cells #[.slice none 0 0, .string ⟨#[]⟩, .int .i64 0, .bool false] 33 (0, 0))
  b2 : w.heap[b]? = some (.cells #[.int .i64 ver, .bool ind, sA, sV] 27 (0, 0))
  below : Below B w0 w
  le : B ≤ w.heap.size
theorem Tq.next {b B ver : Nat} {ind : Bool} {sA sV : Value} {As : List At} {dk : List (Vt × Bool)} {w0 w w' : World} {sO : Value} {xs : List Xv} (h : Tq b B ver ind sA sV As dk w0 sO xs w) (hb : Below w.heap.size w w') : Tq b B ver ind sA sV As dk w0 sO xs w' :=
  ⟨h.own.below hb, h.eq, fun x hx => (h.alts x hx).below hb, hp_below h.b5 hb, hp_below h.b4 hb, hp_below h.b2 hb, h.below.trans (hb.mono h.le), Nat.le_trans h.le hb.size⟩
set_option maxRecDepth 100000 in
set_option maxHeartbeats 8000000 in
/-- laws.toMaster. -/
theorem toMaster_any (ver : Nat) (ind : Bool) (As : List At) (ds : List (Vt × Bool)) (sA sV sF : Value) (w : World) (B0 : Nat) (hAl : As.length ≤ 10) (hdl : ds.length ≤ 10) (hdok : ∀ d ∈ ds, d.1.Ok ∧ d.1.rate ≤ 1000)
    (hA : Own At.list 46 7 w B0 sA As) (hV : Own Vt.list 48 13 w B0 sV (ds.map Prod.fst)) (hF : Own (fun b => [Value.bool b]) 4 1 w B0 sF (ds.map Prod.snd)) :
    Calls Tryd.prog 5 #[.agg #[.int .i64 ver, .bool ind, sA, sV], sF] w fun e w' => ∃ (sO : Value) (xs : List Xv), e = .returned (.agg #[sO, .string ⟨#[]⟩, .int .i64 ver, .bool ind]) ∧ Own ivl 53 16 w' w.heap.size sO xs ∧ xs.map (fun x => (x.1, x.2.1)) = ds ∧ (∀ x ∈ xs, Own At.mlist 56 10 w' w.heap.size x.2.2 (ofL As x.1)) ∧ Below w.heap.size w w' := by
  obtain ⟨i0, hi, hz0, hz1, hz2⟩ := info_parts info_iv
  obtain ⟨AV, capV, hsV, _⟩ := hV.shape
  obtain ⟨AF, capF, hsF, hsF0⟩ := hF.shape
  have hA1 := hA.one
  have hV1 := hV.one
  refine calls_of_ev Tryd.func5 rfl (show 2 ≤ 92 from by decide) ?_
  intro a hE
  have hE : Ev 92 ((0, .agg #[.int .i64 ver, .bool ind, sA, sV]) :: (1, sF) :: []) a := hE
  refine wp_seq ?_
  refine wp_region_lit ?_
  refine ev_box hE (hE.get 0 rfl) (bx_ms _ _ _ _ rfl rfl hA1 hV1) (by decide) ?_
  intro a w1 hE hb2 hbl1 hs1
  refine ev_al hE al_im (by decide) ?_
  intro a w2 hE hb4 hbl2 hs2
  refine wpList_nil ?_
  have hb2 := hp_below hb2 hbl2
  have hbl := hbl1.trans (hbl2.mono hbl1.size)
  rw [hs1] at hE hb4
  show Code.wp _ _ _ _ _
  refine wp_seq ?_
  refine wp_region_lit ?_
  refine ev_run hE rfl rfl (by decide) (ex_fa (hE.get 2 rfl) (fa_ms_0 _)) ?_
  intro a hE
  refine ev_run hE rfl rfl (by decide) (ex_ld (hE.get 11 rfl) ld_i64 (cell_of_heap (v := .int .i64 ver) hb2 rfl)) ?_
  intro a hE
  refine ev_run hE rfl rfl (by decide) (ex_fa (hE.get 2 rfl) (fa_ms_1 _)) ?_
  intro a hE
  refine ev_run hE rfl rfl (by decide) (ex_ld (hE.get 13 rfl) ld_bool (cell_of_heap (v := .bool ind) hb2 rfl)) ?_
  intro a hE
  refine ev_run (v := .agg #[.slice none 0 0, .string ⟨#[]⟩, .int .i64 ver, .bool ind]) (w' := w2) hE rfl rfl (by decide) ?_ ?_
  · simp only [execOp, List.map_toArray, List.map_cons, List.map_nil, hE.get 12 rfl, hE.get 14 rfl]
    go_simp
  intro a hE
  refine ev_al hE al_im (by decide) ?_
  intro a w3 hE hb5 hbl3 hs3
  rw [hs2, hs1] at hE hb5
  refine ev_sb (cs := #[.slice none 0 0, .string ⟨#[]⟩, .int .i64 ver, .bool ind]) hE ag_im (hE.get 5 rfl) (hE.get 15 rfl) hb5 rfl rfl ?_ ?_
  · intro u hu
    simp only [List.mem_cons, List.not_mem_nil, or_false] at hu
    rcases hu with rfl | rfl | rfl | rfl <;> rfl
  intro w4 hb5 ho4
  refine wpList_nil ?_
  have hb2 := hp_only (hp_below hb2 hbl3) ho4 (by omega)
  have hb4 := hp_only (hp_below hb4 hbl3) ho4 (by omega)
  have hbl := hbl.trans (hbl3.mono (by omega))
  have hbl := hbl.trans (only_bel ho4 (by omega) (by omega))
  have hle4 : w.heap.size ≤ w4.heap.size := hbl.size
  have hE : Ev 92 ((1, sF) :: (2, pt w.heap.size 0) :: (4, pt (w.heap.size + 1) 0) :: (5, pt (w.heap.size + 2) 0) :: []) a := hE.pick rfl
  clear hbl1 hbl2 hbl3 hs1 hs2 hs3 ho4
  generalize hbb : w.heap.size = b at hE hb2 hb4 hb5
  show Code.wp _ _ _ _ _
  refine wp_seq ?_
  refine wp_seq ?_
  refine wp_region_lit ?_
  refine ev_run hE rfl rfl (by decide) (ex_fa (hE.get 2 rfl) (fa_ms_3 _)) ?_
  intro a hE
  refine ev_run hE rfl rfl (by decide) (ex_ld (hE.get 16 rfl) ld_svars (cell_of_heap (v := sV) hb2 rfl)) ?_
  intro a hE
  have e17 : a.eval (.tmp 17) = .slice AV (ds.map Prod.fst).length capV := by rw [← hsV]; exact hE.get 17 rfl
  refine ev_run hE rfl rfl (by decide) (ex_len Tryd.underlying25 e17) ?_
  intro a hE
  refine ev_run (v := .int .i64 (0 : Nat)) (w' := w4) hE rfl rfl (by decide) (by simp only [execOp]; rfl) ?_
  intro a hE
  refine wpList_nil ?_
  show Code.wp _ _ _ _ _
  rw [List.length_map] at hE
  have hTq0 : Tq b w.heap.size ver ind sA sV As [] w (.slice none 0 0) [] w4 := ⟨Own.nil _ _ _ _ _, rfl, fun x hx => (by cases hx), hb5, hb4, hb2, hbl, hle4⟩
  refine range_wp2 (N := 92) (n := ds.length) [1, 2, 4, 5, 17] (l0 := ((1, sF) :: (2, pt b 0) :: (4, pt (b + 1) 0) :: (5, pt (b + 2) 0) :: (17, sV) :: [])) (fun k l wr => l = ((1, sF) :: (2, pt b 0) :: (4, pt (b + 1) 0) :: (5, pt (b + 2) 0) :: (17, sV) :: []) ∧ ∃ sO xs, Tq b w.heap.size ver ind sA sV As (ds.take k) w sO xs wr) (by omega) (hE.pick rfl) rfl ⟨rfl, _, _, hTq0⟩ (by decide) (by decide) (by decide) ?_ ?_
  · rintro k l a wr hk hE ⟨rfl, sO, xs, hT⟩ Q' hQ'
    obtain ⟨d, hd⟩ : ∃ d, ds[k]? = some d := ⟨_, List.getElem?_eq_getElem hk⟩
    obtain ⟨v, fr⟩ := d
    obtain ⟨hvok, hvr⟩ := hdok _ (List.mem_of_getElem? hd)
    have hdv : (ds.map Prod.fst)[k]? = some v := by rw [List.getElem?_map, hd]; rfl
    have hdf : (ds.map Prod.snd)[k]? = some fr := by rw [List.getElem?_map, hd]; rfl
    have hol := ofL_len As v
    have hxl : xs.length ≤ 10 := by
      have := congrArg List.length hT.eq
      rw [List.length_map, List.length_take] at this
      omega
    refine wp_block ?_
    refine wp_seq ?_
    refine wp_region_lit ?_
    refine ev_mv hE (hE.get 19 rfl) (by decide) ?_
    intro a hE
    refine ev_elem ag_sv Tryd.underlying25 (fun _ => rfl) (by decide) hE (hV.below hT.below) hdv (hE.get 17 rfl) (hE.get 19 rfl) (by decide) (by decide) ?_ rfl (by decide)
    intro a hE
    refine ev_al hE al_sv (by decide) ?_
    intro a w5 hE hgv hbl5 _
    refine ev_as hE (hE.get 21 rfl) (by decide) ?_
    intro a hE
    refine ev_sb (cs := v.cells) hE ag_sv (hE.get 7 rfl) (hE.get 23 rfl) hgv rfl rfl (vt_one v) ?_
    intro w6 hy ho6
    refine wpList_nil ?_
    have hb6 : Below wr.heap.size wr w6 := hbl5.trans (only_bel ho6 hbl5.size (Nat.le_refl _))
    have hT6 := hT.next hb6
    have hE : Ev 92 ((6, .int .i64 k) :: (7, pt wr.heap.size 0) :: (19, .int .i64 k) :: (18, .int .i64 ds.length) :: (1, sF) :: (2, pt b 0) :: (4, pt (b + 1) 0) :: (5, pt (b + 2) 0) :: (17, sV) :: []) a := hE.pick rfl
    clear hgv hbl5 ho6
    generalize hgvd : wr.heap.size = gv at hE hy
    -- the frames' mark
    have hF6 := hF.below hT6.below
    have hFne : (ds.map Prod.snd) ≠ [] := by
      intro e; rw [e] at hdf; cases hdf
    obtain ⟨gF, rfl⟩ := hsF0 hFne
    rw [hsF] at hF6
    have hcf : w6.cell? ⟨gF, k, none⟩ = some (.bool fr) := by
      have hlt : k < (ds.map Prod.snd).length := (List.getElem?_eq_some_iff.1 hdf).1
      have := Own.cells_at (f := fun b => [Value.bool b]) (k := 1) (fun _ => rfl) Nat.one_pos hF6 hlt (j := 0) Nat.one_pos
      rw [Nat.mul_one, Nat.add_zero] at this
      rw [this]
      rw [List.getElem?_eq_getElem hlt] at hdf
      rw [Option.some.inj hdf]
      rfl
    show Code.wp _ _ _ _ _
    refine wp_seq ?_
    refine tom_rgn hvok hvr (show k < (ds.map Prod.snd).length from by rw [List.length_map]; exact hk) hE.size (hE.get 7 rfl) (by rw [← hsF]; exact hE.get 1 rfl) (hE.get 6 rfl) hy hcf ?_
    intro a1 w7 g8 hs1 hd1 hlow h8 hg8 hbox hb7
    have hE := hE.from hs1 hd1 hlow h8 rfl
    have hT7 := hT6.next hb7
    have hy := hp_below hy hb7
    clear hs1 hd1 hlow h8 hcf hF6
    show Code.wp _ _ _ _ _
    refine wp_seq ?_
    refine wp_seq ?_
    refine wp_region_lit ?_
    refine ev_lb hE ag_ms (hE.get 2 rfl) hT7.b2 rfl (by decide) ?_
    intro a hE
    refine ev_lb hE ag_sv (hE.get 7 rfl) hy rfl (by decide) ?_
    intro a hE
    refine ev_call (S := fun s w' => Own At.list 46 7 w' w7.heap.size s (ofL As v) ∧ Below w7.heap.size w7 w') hE rfl rfl (by decide) (f := 13) (args := #[.agg #[.int .i64 ver, .bool ind, sA, sV], .agg v.cells]) ?_ ((of_any ver ind sA sV As v w7 B0 (hA.below hT7.below) (by omega) hV1).mono ?_) ?_
    · simp only [execOp, resolve, List.map_toArray, List.map_cons, List.map_nil, hE.get 55 rfl, hE.get 56 rfl]
      go_simp
    · rintro e w' ⟨u, rfl, h1, h2⟩
      exact ⟨u, rfl, h1, h2⟩
    rintro a s57 w8 ⟨hO, hb8⟩ hE
    obtain ⟨AO, capO, hsO, _⟩ := hO.shape
    have e57 : a.eval (.tmp 57) = .slice AO (ofL As v).length capO := by rw [← hsO]; exact hE.get 57 rfl
    refine ev_run hE rfl rfl (by decide) (ex_len Tryd.underlying24 e57) ?_
    intro a hE
    refine ev_run (v := .int .i64 (0 : Nat)) (w' := w8) hE rfl rfl (by decide) (by simp only [execOp]; rfl) ?_
    intro a hE
    refine wpList_nil ?_
    have hbox := hp_below hbox hb8
    have hb68 : Below wr.heap.size wr w8 := (hb6.trans (hb7.mono hb6.size)).trans (hb8.mono (Nat.le_trans hb6.size hb7.size))
    have hg8' : wr.heap.size ≤ g8 := Nat.le_trans hb6.size hg8
    show Code.wp _ _ _ _ _
    refine tom_alts (B := w7.heap.size) (Bk := wr.heap.size) (b2 := b) (g7 := gv) (ms := #[.int .i64 ver, .bool ind, sA, sV]) (ofL As v) (by omega) ⟨Own.nil _ _ _ _ _, hbox, hO, Below.refl _ _, hb68.size⟩ hg8' (hE.pick rfl) ?_
    intro a w9 s' hE hown9 hbox9 hb9
    have hb19 : Below wr.heap.size wr w9 := hb68.trans hb9
    have hT9 := hT.next hb19
    have hs1 := hown9.one
    show Code.wp _ _ _ _ _
    refine wp_region_lit ?_
    refine ev_fa hE (hE.get 5 rfl) (fa_im_0 _) (by decide) ?_
    intro a hE
    refine ev_ld hE (hE.get 84 rfl) ld_ivars (cell_of_heap (v := sO) hT9.b5 rfl) (by decide) ?_
    intro a hE
    refine ev_lb hE ag_iv (hE.get 8 rfl) hbox9 rfl (by decide) ?_
    intro a hE
    refine ev_push (y := ((v, fr, s') : Xv)) 31 Tryd.underlying31 i0 _ 216 hi hz0 hz1 hz2 (by rfl) (by decide) (fun _ => rfl) ivl_one hE ?_ (hE.get 85 rfl) (by decide) (by decide) (by decide) hT9.own hT9.le (by omega) (by omega) ?_
    · simp only [execOp, List.map_toArray, List.map_cons, List.map_nil, hE.get 86 rfl]
      unfold ivl
      rw [if_pos hs1]
      unfold Vt.icells
      go_simp
    intro a sO' w10 hown10 hon10 _ hE
    have hlt : ∀ {g : Nat} {ob : Obj}, w9.heap[g]? = some ob → g < w9.heap.size := fun h => (Array.getElem?_eq_some_iff.1 h).1
    have hb5 : w10.heap[b + 2]? = _ := (hon10.block _ (hlt hT9.b5) (fun hv => hT9.own.ne_blk hT9.b5 (by decide) hv)).trans hT9.b5
    have hb4 : w10.heap[b + 1]? = _ := (hon10.block _ (hlt hT9.b4) (fun hv => hT9.own.ne_blk hT9.b4 (by decide) hv)).trans hT9.b4
    have hb2 : w10.heap[b]? = _ := (hon10.block _ (hlt hT9.b2) (fun hv => hT9.own.ne_blk hT9.b2 (by decide) hv)).trans hT9.b2
    have halts : ∀ x ∈ xs ++ [((v, fr, s') : Xv)], Own At.mlist 56 10 w10 w.heap.size x.2.2 (ofL As x.1) := by
      intro x hx
      rcases List.mem_append.1 hx with hx | hx
      · exact (hT9.alts x hx).only hon10 fun g hg hg2 => (hT9.alts x hx).ne_ hT9.own (by decide) g hg hg2
      · obtain rfl := List.mem_singleton.1 hx
        exact (hown9.base hT.le).only hon10 fun g hg hg2 => hown9.ne_ hT9.own (by decide) g hg hg2
    have hb10 : Below w.heap.size w9 w10 := hon10.below hT9.le fun g hg hv => by have := (hT9.own.block_lt g hv).1; omega
    obtain ⟨AO', capO', hsO', _⟩ := hown10.shape
    refine ev_fa hE (hE.get 5 rfl) (fa_im_0 _) (by decide) ?_
    intro a hE
    refine ev_sc (v := sO') hE (by rw [hsO']; exact st_slice _ Tryd.sizeOf31 _ _ _) (hE.get 89 rfl) (hE.get 88 rfl) hb5 (show 0 < 4 from by decide) ?_
    intro w11 hb5 ho11
    refine wpList_nil ?_
    show Q' .normal a w11
    refine hQ' _ a w11 ?_ (hE.pick ?_) ⟨rfl, sO', xs ++ [((v, fr, s') : Xv)], ?_⟩
    · rfl
    · rfl
    · have hsz10 : w.heap.size ≤ w10.heap.size := Nat.le_trans hT9.le hb10.size
      refine ⟨hown10.only ho11 (fun g hg e => by subst e; exact hown10.ne_blk (by assumption) (by decide) hg), ?_, fun x hx => (halts x hx).only ho11 (fun g hg e => by subst e; exact (halts x hx).ne_blk (by assumption) (by decide) hg), hb5, hp_only hb4 ho11 (by omega), hp_only hb2 ho11 (by omega), (hT9.below.trans hb10).trans (only_bel ho11 hsz10 (by omega)), Nat.le_trans hsz10 ho11.size⟩
      rw [take_app hd, List.map_append, hT9.eq]
      rfl
  · rintro l a wr hE ⟨rfl, sO, xs, hT⟩
    rw [List.take_length] at hT
    subst hbb
    show Code.wp _ _ _ _ _
    refine wp_seq ?_
    refine wp_region_lit ?_
    refine ev_lb hE ag_im (hE.get 5 rfl) hT.b5 rfl (by decide) ?_
    intro a hE
    refine ev_sb (cs := #[sO, .string ⟨#[]⟩, .int .i64 ver, .bool ind]) hE ag_im (hE.get 4 rfl) (hE.get 91 rfl) hT.b4 rfl rfl ?_ ?_
    · intro u hu
      simp only [List.mem_cons, List.not_mem_nil, or_false] at hu
      rcases hu with rfl | rfl | rfl | rfl
      · exact hT.own.one
      all_goals rfl
    intro w12 hb4 ho12
    refine wpList_nil ?_
    show Code.wp _ _ _ _ _
    refine wp_ret ?_
    exact ret_cell hE rfl ag_im (hE.get 4 rfl) hb4 rfl ⟨sO, xs, rfl, hT.own.only ho12 (fun g hg e => by subst e; exact hT.own.ne_blk hT.b4 (by decide) hg), hT.eq, fun x hx => (hT.alts x hx).only ho12 (fun g hg e => by subst e; exact (hT.alts x hx).ne_blk hT.b4 (by decide) hg), hT.below.trans (only_bel ho12 hT.le (by omega))⟩
end Go.Proofs.YtkddkmiomhadaaaDoor
