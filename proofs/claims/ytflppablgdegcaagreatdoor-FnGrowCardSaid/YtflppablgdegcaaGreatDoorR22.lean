/- Joined: Dv. -/
import Derived.Test.YtflppablgdegcaaGreatDoorR21
set_option maxRecDepth 100000
set_option maxHeartbeats 8000000
namespace Go.Proofs.YtflppablgdegcaaGreatDoor
open Go.RowKit
theorem Sv.sub {N : Nat} {l : List (Nat × Value)} {m m' : List Bk} {M : Nat → Prop} {w0 w : World} {a : Act} (h : Sv N l m M w0 a w) (hs : m'.Sublist m) : Sv N l m' M w0 a w :=
 ⟨h.ev, fun b hb => h.hp b (hs.subset hb), h.nd.sublist hs, fun b hb => h.wr b (hs.subset hb), h.only⟩
theorem Sv.prm {N : Nat} {l : List (Nat × Value)} {m m' : List Bk} {M : Nat → Prop} {w0 w : World} {a : Act} (h : Sv N l m M w0 a w) (hs : m.Perm m') : Sv N l m' M w0 a w :=
 ⟨h.ev, fun b hb => h.hp b (hs.mem_iff.2 hb), (hs.pairwise_iff (fun h e => h e.symm)).1 h.nd, fun b hb => h.wr b (hs.mem_iff.2 hb), h.only⟩
theorem Sv.swap2 {N : Nat} {l : List (Nat × Value)} {b1 b2 b3 b4 : Bk} {M : Nat → Prop} {w0 w : World} {a : Act} (h : Sv N l [b1, b2, b3, b4] M w0 a w) : Sv N l [b1, b3, b2, b4] M w0 a w := h.prm (.cons _ (.swap _ _ _))
theorem Sv.rot {N : Nat} {l : List (Nat × Value)} {b x b1 b2 b3 b4 : Bk} {ex : List Bk} {M : Nat → Prop} {w0 w : World} {a : Act} (h : Sv N l (b :: x :: b1 :: b2 :: b3 :: b4 :: ex) M w0 a w) : Sv N l (b1 :: b2 :: b3 :: b4 :: b :: ex) M w0 a w := by
 refine (h.sub (m' := b :: b1 :: b2 :: b3 :: b4 :: ex) ?_).prm ?_
 ·exact .cons_cons _ (.cons _ (List.Sublist.refl _))
 ·exact (List.Perm.swap b1 b _).trans (.cons _ ((List.Perm.swap b2 b _).trans (.cons _ ((List.Perm.swap b3 b _).trans (.cons _ (List.Perm.swap b4 b _))))))
theorem du_range_t {gp gs gr gz gr0 cap c2 n : Nat} {L : ByteArray} {st : Bool} {p : Pz} {d : Dz} {z : Sz} {Rc : Array Value} {w0 w : World} {a : Act} {Q : Exit → Act → World → Prop} (h0 : 0 < n) (hc : n ≤ cap) (hcap : cap ≤ 100000) (hl1 : Rc[n - 1]? = some (pt gz 0)) (hf : d.range = true)  (Z : Sv 1040 (dl0 gp gs L st) [⟨gz, z.cells, 127, true⟩, ⟨gr, Rc, 125, true⟩, ⟨gp, p.cells (.slice (some ⟨gr, 0, none⟩) cap c2) cap (n % cap) n, 88, true⟩, ⟨gs, d.cells, 121, true⟩] (GR gp gs gr0) w0 a w) (hK : ∀ a' w', Sv 1040 (dl0 gp gs L st) [⟨gz, ({ z with limit := d.limit, offset := d.offset } : Sz).cells, 127, true⟩, ⟨gr, Rc, 125, true⟩, ⟨gp, ({ p with ver := max p.ver 4 } : Pz).cells (.slice (some ⟨gr, 0, none⟩) cap c2) cap (n % cap) n, 88, true⟩, ⟨gs, ({ d with range := false } : Dz).cells, 121, true⟩] (GR gp gs gr0) w0 a' w' → (du34).wp Tryz.prog Q a' w') : (du29).wp Tryz.prog Q a w := by
 have hfI : w.cell? ⟨gs, 5, none⟩ = some (.bool true) := by have h : w.cell? ⟨gs, 5, none⟩ = some (.bool d.range) := cell_of_heap (cs := d.cells) (v := .bool d.range) (Z.at 3 rfl) rfl; rw [hf] at h; exact h
 refine wp_seq (wr (sv_n 3 Z rfl fun a Z => sv_r (v := .bool true) Z (ex_ld (Z.g 154 rfl) lt_bool hfI) fun a Z => Z.nx [155, 2, 0, 1, 3, 8, 9] rfl fun Z => sh (cond_t (Z.g 155 rfl) (wp_seq (wp_seq ?_)))))
 refine qg 9 [pt gp 0, pt gs 0, pt gs 0, pt gs 11, .int .i64 ((d.limit : Nat) : Int), pt gs 0, pt gs 0, pt gs 12, .int .i64 ((d.offset : Nat) : Int)] Z ?_ ?_
 ·simp only [List.take_succ_cons, List.take_zero]
  exact ⟨qm (Z.g 0 rfl), qm (Z.g 1 rfl), qn 1, qf 2, ql 3 lt_int64 Z 3, qm (Z.g 1 rfl), qn 5, qf 6, ql 7 lt_int64 Z 3, trivial⟩
 ·intro a w1 c hbw1
  replace Z := (((Z.ogk c [9, 8, 3, 1, 0, 2, 155]).kS c 0 rfl rfl).kS c 4 rfl rfl).kS c 8 rfl rfl
  clear c
  simp only [List.drop_succ_cons, List.drop_zero]
  have hgpx := Z.at 2 rfl
  have hgrx := Z.at 1 rfl
  have hgzx := Z.at 0 rfl
  have e1 : gr ≠ gp := Z.neq 1 2 rfl rfl (by decide)
  have e2 : gr ≠ gz := Z.neq 1 0 rfl rfl (by decide)
  have e3 : gs ≠ gp := Z.neq 3 2 rfl rfl (by decide)
  have e4 : gs ≠ gz := Z.neq 3 0 rfl rfl (by decide)
  have m1 : GR gp gs gr0 gp ∨ w0.heap.size ≤ gp := Z.wr _ (List.mem_of_getElem? (i := 2) rfl) rfl
  have m2 : GR gp gs gr0 gz ∨ w0.heap.size ≤ gz := Z.wr _ (List.mem_of_getElem? (i := 0) rfl) rfl
  have hcall := setRange_any (lim := d.limit) (off := d.offset) gp gr gz h0 hc hcap hl1 w1 hgpx hgrx hgzx
  replace Z := (Z.mz [false, true, false, true] rfl).ct [164, 160, 156, 9, 8, 3, 1, 0, 2, 155] rfl
  refine sv_callo (X := fun q => q = gp ∨ q = gz) (S := fun v w' => v = .nilIface ∧ w'.heap[gp]? = some (.cells ((({ p with ver := max p.ver 4 } : Pz).cells ((.slice (some ⟨gr, 0, none⟩) cap c2)) cap (n % cap) n)) 88 (0, 0)) ∧ w'.heap[gz]? = some (.cells ((({ z with limit := d.limit, offset := d.offset } : Sz).cells)) 127 (0, 0))) Z rfl rfl (by decide) (ex_call3 cf_m3u8_MediaPlaylist_SetRange (Z.g 156 rfl) (Z.g 160 rfl) (Z.g 164 rfl)) (hcall.mono fun e w' ⟨h1, h2, h3, h4⟩ => ⟨_, h1, h2, rfl, h3, h4⟩) (by intro q hq; simp only [List.mem_cons, List.not_mem_nil, or_false] at hq; rcases hq with rfl | rfl; (· rintro (h | h); (· exact e1 h); (· exact e2 h)); (· rintro (h | h); (· exact e3 h); (· exact e4 h))) (fun q hq hlt => by rcases hq with rfl | rfl; (· exact m1.resolve_right (Nat.not_le.2 hlt)); (· exact m2.resolve_right (Nat.not_le.2 hlt))) ?_
  rintro a _ w2 ⟨rfl, hgp2, hgz2⟩ hO2 Z
  replace Z := (Z.addB (o := true) hgp2 (Z.neT hgp2 rfl) (fun _ => m1)).ct [165, 164, 160, 156, 9, 8, 3, 1, 0, 2, 155] rfl
  replace Z := (Z.addB (o := true) hgz2 (Z.neT hgz2 rfl) (fun _ => m2)).ct [165, 164, 160, 156, 9, 8, 3, 1, 0, 2, 155] rfl
  refine sv_n 1 Z rfl fun a Z => Z.nx [9, 8, 3, 1, 0, 2, 155] rfl fun Z => sh (wp_seq ?_)
  cases st with
  | true =>
   refine wp_region_lit (sv_n 3 Z rfl fun a Z => sv_g (v := .bool false) Z (Z.g 167 rfl) (ex_ine eqi_error (Z.g 168 rfl)) fun a Z => sv_n 1 Z rfl fun a Z => Z.nx [170, 9, 8, 3, 1, 0, 2, 155] rfl fun Z => sh (cond_f (Z.g 170 rfl) (wp_skip (sh (wp_region_lit (sv_n 3 Z rfl fun a Z => sv_st (i := 3) (v := .bool false) (cs' := (({ d with range := false } : Dz).cells)) Z (su_bool _) (Z.g 174 rfl) rfl rfl (show 5 < 20 from by decide) rfl rfl fun w3 hty Z => ?_))))))
   refine Z.nx [170, 9, 8, 3, 1, 0, 2, 155] rfl fun Z => sh ?_
   exact hK _ _ (Z.swap2.pick rfl)
  | false =>
   refine wp_region_lit (sv_n 5 Z rfl fun a Z => Z.nx [170, 9, 8, 3, 1, 0, 2, 155] rfl fun Z => sh (cond_f (Z.g 170 rfl) (wp_skip (sh (wp_region_lit (sv_n 3 Z rfl fun a Z => sv_st (i := 3) (v := .bool false) (cs' := (({ d with range := false } : Dz).cells)) Z (su_bool _) (Z.g 174 rfl) rfl rfl (show 5 < 20 from by decide) rfl rfl fun w4 hty Z => Z.nx [170, 9, 8, 3, 1, 0, 2, 155] rfl fun Z => sh ?_))))))
   exact hK _ _ (Z.swap2.pick rfl)
theorem du_range_f {gp gs gr gz gr0 cap c2 n : Nat} {L : ByteArray} {st : Bool} {p : Pz} {d : Dz} {z : Sz} {Rc : Array Value} {w0 w : World} {a : Act} {Q : Exit → Act → World → Prop} (h0 : 0 < n) (hc : n ≤ cap) (hcap : cap ≤ 100000) (hl1 : Rc[n - 1]? = some (pt gz 0)) (hf : d.range = false)  (Z : Sv 1040 (dl0 gp gs L st) [⟨gz, z.cells, 127, true⟩, ⟨gr, Rc, 125, true⟩, ⟨gp, p.cells (.slice (some ⟨gr, 0, none⟩) cap c2) cap (n % cap) n, 88, true⟩, ⟨gs, d.cells, 121, true⟩] (GR gp gs gr0) w0 a w) (hK : ∀ a' w', Sv 1040 (dl0 gp gs L st) [⟨gz, z.cells, 127, true⟩, ⟨gr, Rc, 125, true⟩, ⟨gp, p.cells (.slice (some ⟨gr, 0, none⟩) cap c2) cap (n % cap) n, 88, true⟩, ⟨gs, d.cells, 121, true⟩] (GR gp gs gr0) w0 a' w' → (du34).wp Tryz.prog Q a' w') : (du29).wp Tryz.prog Q a w := by
 have hfI : w.cell? ⟨gs, 5, none⟩ = some (.bool false) := by have h : w.cell? ⟨gs, 5, none⟩ = some (.bool d.range) := cell_of_heap (cs := d.cells) (v := .bool d.range) (Z.at 3 rfl) rfl; rw [hf] at h; exact h
 refine wp_seq (wr (sv_n 3 Z rfl fun a Z => sv_r (v := .bool false) Z (ex_ld (Z.g 154 rfl) lt_bool hfI) fun a Z => Z.nx [155, 2, 0, 1, 3, 8, 9] rfl fun Z => sh (cond_f (Z.g 155 rfl) (wp_skip (sh ?_)))))
 exact hK _ _ (Z.pick rfl)
theorem du_scte {gp gs gr gz gr0 cap c2 n : Nat} {L : ByteArray} {st : Bool} {p : Pz} {d : Dz} {z : Sz} {Rc : Array Value} {w0 w : World} {a : Act} {Q : Exit → Act → World → Prop} (h0 : 0 < n) (hc : n ≤ cap) (hcap : cap ≤ 100000) (hl1 : Rc[n - 1]? = some (pt gz 0))   (Z : Sv 1040 (dl0 gp gs L st) [⟨gz, z.cells, 127, true⟩, ⟨gr, Rc, 125, true⟩, ⟨gp, p.cells (.slice (some ⟨gr, 0, none⟩) cap c2) cap (n % cap) n, 88, true⟩, ⟨gs, d.cells, 121, true⟩] (GR gp gs gr0) w0 a w) (hK : ∀ a' w', Sv 1040 (dl0 gp gs L st) [⟨gz, z.cells, 127, true⟩, ⟨gr, Rc, 125, true⟩, ⟨gp, p.cells (.slice (some ⟨gr, 0, none⟩) cap c2) cap (n % cap) n, 88, true⟩, ⟨gs, d.cells, 121, true⟩] (GR gp gs gr0) w0 a' w' → (du39).wp Tryz.prog Q a' w') : (du34).wp Tryz.prog Q a w := by
 refine wp_seq (wr (sv_n 3 Z rfl fun a Z => sv_l (v := .bool false) 3 Z rfl (Z.g 177 rfl) lt_bool rfl fun a Z => Z.nx [178, 2, 0, 1, 3, 8, 9] rfl fun Z => sh (cond_f (Z.g 178 rfl) (wp_skip (sh ?_)))))
 exact hK _ _ (Z.pick rfl)
theorem du_disc_t {gp gs gr gz gr0 cap c2 n : Nat} {L : ByteArray} {st : Bool} {p : Pz} {d : Dz} {z : Sz} {Rc : Array Value} {w0 w : World} {a : Act} {Q : Exit → Act → World → Prop} (h0 : 0 < n) (hc : n ≤ cap) (hcap : cap ≤ 100000) (hl1 : Rc[n - 1]? = some (pt gz 0)) (hf : d.disc = true)  (Z : Sv 1040 (dl0 gp gs L st) [⟨gz, z.cells, 127, true⟩, ⟨gr, Rc, 125, true⟩, ⟨gp, p.cells (.slice (some ⟨gr, 0, none⟩) cap c2) cap (n % cap) n, 88, true⟩, ⟨gs, d.cells, 121, true⟩] (GR gp gs gr0) w0 a w) (hK : ∀ a' w', Sv 1040 (dl0 gp gs L st) [⟨gz, ({ z with disc := true } : Sz).cells, 127, true⟩, ⟨gr, Rc, 125, true⟩, ⟨gp, p.cells (.slice (some ⟨gr, 0, none⟩) cap c2) cap (n % cap) n, 88, true⟩, ⟨gs, ({ d with disc := false } : Dz).cells, 121, true⟩] (GR gp gs gr0) w0 a' w' → (du44).wp Tryz.prog Q a' w') : (du39).wp Tryz.prog Q a w := by
 have hfI : w.cell? ⟨gs, 6, none⟩ = some (.bool true) := by have h : w.cell? ⟨gs, 6, none⟩ = some (.bool d.disc) := cell_of_heap (cs := d.cells) (v := .bool d.disc) (Z.at 3 rfl) rfl; rw [hf] at h; exact h
 refine wp_seq (wr (sv_n 3 Z rfl fun a Z => sv_r (v := .bool true) Z (ex_ld (Z.g 196 rfl) lt_bool hfI) fun a Z => Z.nx [197, 2, 0, 1, 3, 8, 9] rfl fun Z => sh (cond_t (Z.g 197 rfl) (wr (sv_n 3 Z rfl fun a Z => sv_st (i := 3) (v := .bool false) (cs' := (({ d with disc := false } : Dz).cells)) Z (su_bool _) (Z.g 200 rfl) rfl rfl (show 6 < 20 from by decide) rfl rfl fun w1 hty Z => Z.nx [197, 2, 0, 1, 3, 8, 9] rfl fun Z => sh ?_)))))
 refine wr (sv_n 1 Z rfl fun a Z => ?_)
 have hgpx := Z.at 2 rfl
 have hgrx := Z.at 1 rfl
 have hgzx := Z.at 0 rfl
 have e1 : gr ≠ gp := Z.neq 1 2 rfl rfl (by decide)
 have e2 : gr ≠ gz := Z.neq 1 0 rfl rfl (by decide)
 have e3 : gs ≠ gp := Z.neq 3 2 rfl rfl (by decide)
 have e4 : gs ≠ gz := Z.neq 3 0 rfl rfl (by decide)
 have m1 : GR gp gs gr0 gp ∨ w0.heap.size ≤ gp := Z.wr _ (List.mem_of_getElem? (i := 2) rfl) rfl
 have m2 : GR gp gs gr0 gz ∨ w0.heap.size ≤ gz := Z.wr _ (List.mem_of_getElem? (i := 0) rfl) rfl
 have hcall := setDisc_any gp gr gz h0 hc hcap hl1 w1 hgpx hgrx hgzx
 replace Z := (Z.mz [false, true, false, true] rfl).ct [201, 197, 2, 0, 1, 3, 8, 9] rfl
 refine sv_callo (X := fun q => q = gp ∨ q = gz) (S := fun v w' => v = .nilIface ∧ w'.heap[gp]? = some (.cells ((p.cells (.slice (some ⟨gr, 0, none⟩) cap c2) cap (n % cap) n)) 88 (0, 0)) ∧ w'.heap[gz]? = some (.cells ((({ z with disc := true } : Sz).cells)) 127 (0, 0))) Z rfl rfl (by decide) (ex_call1 cf_m3u8_MediaPlaylist_SetDiscontinuity (Z.g 201 rfl)) (hcall.mono fun e w' ⟨h1, h2, h3, h4⟩ => ⟨_, h1, h2, rfl, h3, h4⟩) (by intro q hq; simp only [List.mem_cons, List.not_mem_nil, or_false] at hq; rcases hq with rfl | rfl; (· rintro (h | h); (· exact e1 h); (· exact e2 h)); (· rintro (h | h); (· exact e3 h); (· exact e4 h))) (fun q hq hlt => by rcases hq with rfl | rfl; (· exact m1.resolve_right (Nat.not_le.2 hlt)); (· exact m2.resolve_right (Nat.not_le.2 hlt))) ?_
 rintro a _ w2 ⟨rfl, hgp2, hgz2⟩ hO2 Z
 replace Z := (Z.addB (o := true) hgp2 (Z.neT hgp2 rfl) (fun _ => m1)).ct [202, 201, 197, 2, 0, 1, 3, 8, 9] rfl
 replace Z := (Z.addB (o := true) hgz2 (Z.neT hgz2 rfl) (fun _ => m2)).ct [202, 201, 197, 2, 0, 1, 3, 8, 9] rfl
 refine sv_n 1 Z rfl fun a Z => Z.nx [9, 197, 2, 0, 1, 3, 8] rfl fun Z => sh (wp_seq ?_)
 cases st with
 | true =>
  refine wp_region_lit (sv_n 3 Z rfl fun a Z => sv_g (v := .bool false) Z (Z.g 204 rfl) (ex_ine eqi_error (Z.g 205 rfl)) fun a Z => sv_n 1 Z rfl fun a Z => Z.nx [207, 9, 197, 2, 0, 1, 3, 8] rfl fun Z => sh (cond_f (Z.g 207 rfl) (wp_skip (sh ?_))))
  exact hK _ _ (Z.swap2.pick rfl)
 | false =>
  refine wp_region_lit (sv_n 5 Z rfl fun a Z => Z.nx [207, 9, 197, 2, 0, 1, 3, 8] rfl fun Z => sh (cond_f (Z.g 207 rfl) (wp_skip (sh ?_))))
  exact hK _ _ (Z.swap2.pick rfl)
theorem du_disc_f {gp gs gr gz gr0 cap c2 n : Nat} {L : ByteArray} {st : Bool} {p : Pz} {d : Dz} {z : Sz} {Rc : Array Value} {w0 w : World} {a : Act} {Q : Exit → Act → World → Prop} (h0 : 0 < n) (hc : n ≤ cap) (hcap : cap ≤ 100000) (hl1 : Rc[n - 1]? = some (pt gz 0)) (hf : d.disc = false)  (Z : Sv 1040 (dl0 gp gs L st) [⟨gz, z.cells, 127, true⟩, ⟨gr, Rc, 125, true⟩, ⟨gp, p.cells (.slice (some ⟨gr, 0, none⟩) cap c2) cap (n % cap) n, 88, true⟩, ⟨gs, d.cells, 121, true⟩] (GR gp gs gr0) w0 a w) (hK : ∀ a' w', Sv 1040 (dl0 gp gs L st) [⟨gz, z.cells, 127, true⟩, ⟨gr, Rc, 125, true⟩, ⟨gp, p.cells (.slice (some ⟨gr, 0, none⟩) cap c2) cap (n % cap) n, 88, true⟩, ⟨gs, d.cells, 121, true⟩] (GR gp gs gr0) w0 a' w' → (du44).wp Tryz.prog Q a' w') : (du39).wp Tryz.prog Q a w := by
 have hfI : w.cell? ⟨gs, 6, none⟩ = some (.bool false) := by have h : w.cell? ⟨gs, 6, none⟩ = some (.bool d.disc) := cell_of_heap (cs := d.cells) (v := .bool d.disc) (Z.at 3 rfl) rfl; rw [hf] at h; exact h
 refine wp_seq (wr (sv_n 3 Z rfl fun a Z => sv_r (v := .bool false) Z (ex_ld (Z.g 196 rfl) lt_bool hfI) fun a Z => Z.nx [197, 2, 0, 1, 3, 8, 9] rfl fun Z => sh (cond_f (Z.g 197 rfl) (wp_skip (sh ?_)))))
 exact hK _ _ (Z.pick rfl)
theorem du_date_t {gp gs gr gz gr0 cap c2 n : Nat} {L : ByteArray} {st : Bool} {p : Pz} {d : Dz} {z : Sz} {Rc : Array Value} {w0 w : World} {a : Act} {Q : Exit → Act → World → Prop} (h0 : 0 < n) (hc : n ≤ cap) (hcap : cap ≤ 100000) (hl1 : Rc[n - 1]? = some (pt gz 0)) (hf : d.date = true)  (Z : Sv 1040 (dl0 gp gs L st) [⟨gz, z.cells, 127, true⟩, ⟨gr, Rc, 125, true⟩, ⟨gp, p.cells (.slice (some ⟨gr, 0, none⟩) cap c2) cap (n % cap) n, 88, true⟩, ⟨gs, d.cells, 121, true⟩] (GR gp gs gr0) w0 a w) (hK : ∀ a' w', Sv 1040 (dl0 gp gs L st) [⟨gz, ({ z with date := d.dateV } : Sz).cells, 127, true⟩, ⟨gr, Rc, 125, true⟩, ⟨gp, p.cells (.slice (some ⟨gr, 0, none⟩) cap c2) cap (n % cap) n, 88, true⟩, ⟨gs, ({ d with date := false } : Dz).cells, 121, true⟩] (GR gp gs gr0) w0 a' w' → (du49).wp Tryz.prog Q a' w') : (du44).wp Tryz.prog Q a w := by
 have hfI : w.cell? ⟨gs, 7, none⟩ = some (.bool true) := by have h : w.cell? ⟨gs, 7, none⟩ = some (.bool d.date) := cell_of_heap (cs := d.cells) (v := .bool d.date) (Z.at 3 rfl) rfl; rw [hf] at h; exact h
 refine wp_seq (wr (sv_n 3 Z rfl fun a Z => sv_r (v := .bool true) Z (ex_ld (Z.g 211 rfl) lt_bool hfI) fun a Z => sv_n 2 Z rfl fun a Z => sv_gcallv (v := .int .u64 ((n : Nat) : Int)) Z rfl rfl (Z.g 213 rfl) rfl (by decide) (ex_call1 cf_m3u8_MediaPlaylist_Count (Z.g 214 rfl)) (count_any gp h0 hc hcap w (Z.at 2 rfl)) fun a w1 hbw1 Z => ?_))
 refine sv_g (v := .bool true) Z (Z.g 213 rfl) (ei_gtr (Z.g 215 rfl) rfl (by rw [decide_eq_true_iff]; omega)) fun a Z => sv_n 1 Z rfl fun a Z => Z.nx [217, 2, 0, 1, 3, 8, 9] rfl fun Z => sh (cond_t (Z.g 217 rfl) (wr (sv_n 3 Z rfl fun a Z => sv_st (i := 3) (v := .bool false) (cs' := (({ d with date := false } : Dz).cells)) Z (su_bool _) (Z.g 220 rfl) rfl rfl (show 7 < 20 from by decide) rfl rfl fun w2 hty Z => Z.nx [217, 2, 0, 1, 3, 8, 9] rfl fun Z => sh (wr (sv_n 4 Z rfl fun a Z => ?_)))))
 refine sv_l (v := .string d.dateV) 3 Z rfl (Z.g 224 rfl) lt_string rfl fun a Z => ?_
 have hgpx := Z.at 2 rfl
 have hgrx := Z.at 1 rfl
 have hgzx := Z.at 0 rfl
 have e1 : gr ≠ gp := Z.neq 1 2 rfl rfl (by decide)
 have e2 : gr ≠ gz := Z.neq 1 0 rfl rfl (by decide)
 have e3 : gs ≠ gp := Z.neq 3 2 rfl rfl (by decide)
 have e4 : gs ≠ gz := Z.neq 3 0 rfl rfl (by decide)
 have m1 : GR gp gs gr0 gp ∨ w0.heap.size ≤ gp := Z.wr _ (List.mem_of_getElem? (i := 2) rfl) rfl
 have m2 : GR gp gs gr0 gz ∨ w0.heap.size ≤ gz := Z.wr _ (List.mem_of_getElem? (i := 0) rfl) rfl
 have hcall := setDate_any (dv := d.dateV) gp gr gz h0 hc hcap hl1 w2 hgpx hgrx hgzx
 replace Z := (Z.mz [false, true, false, true] rfl).ct [225, 224, 223, 222, 221, 217, 2, 0, 1, 3, 8, 9] rfl
 refine sv_callo (X := fun q => q = gp ∨ q = gz) (S := fun v w' => v = .nilIface ∧ w'.heap[gp]? = some (.cells ((p.cells (.slice (some ⟨gr, 0, none⟩) cap c2) cap (n % cap) n)) 88 (0, 0)) ∧ w'.heap[gz]? = some (.cells ((({ z with date := d.dateV } : Sz).cells)) 127 (0, 0))) Z rfl rfl (by decide) (ex_call2 cf_m3u8_MediaPlaylist_SetProgramDateTime (Z.g 221 rfl) (Z.g 225 rfl)) (hcall.mono fun e w' ⟨h1, h2, h3, h4⟩ => ⟨_, h1, h2, rfl, h3, h4⟩) (by intro q hq; simp only [List.mem_cons, List.not_mem_nil, or_false] at hq; rcases hq with rfl | rfl; (· rintro (h | h); (· exact e1 h); (· exact e2 h)); (· rintro (h | h); (· exact e3 h); (· exact e4 h))) (fun q hq hlt => by rcases hq with rfl | rfl; (· exact m1.resolve_right (Nat.not_le.2 hlt)); (· exact m2.resolve_right (Nat.not_le.2 hlt))) ?_
 rintro a _ w3 ⟨rfl, hgp2, hgz2⟩ hO2 Z
 replace Z := (Z.addB (o := true) hgp2 (Z.neT hgp2 rfl) (fun _ => m1)).ct [226, 225, 224, 223, 222, 221, 217, 2, 0, 1, 3, 8, 9] rfl
 replace Z := (Z.addB (o := true) hgz2 (Z.neT hgz2 rfl) (fun _ => m2)).ct [226, 225, 224, 223, 222, 221, 217, 2, 0, 1, 3, 8, 9] rfl
 refine sv_n 1 Z rfl fun a Z => Z.nx [9, 217, 2, 0, 1, 3, 8] rfl fun Z => sh (wp_seq ?_)
 cases st with
 | true =>
  refine wp_region_lit (sv_n 3 Z rfl fun a Z => sv_g (v := .bool false) Z (Z.g 228 rfl) (ex_ine eqi_error (Z.g 229 rfl)) fun a Z => sv_n 1 Z rfl fun a Z => Z.nx [231, 9, 217, 2, 0, 1, 3, 8] rfl fun Z => sh (cond_f (Z.g 231 rfl) (wp_skip (sh ?_))))
  exact hK _ _ (Z.swap2.pick rfl)
 | false =>
  refine wp_region_lit (sv_n 5 Z rfl fun a Z => Z.nx [231, 9, 217, 2, 0, 1, 3, 8] rfl fun Z => sh (cond_f (Z.g 231 rfl) (wp_skip (sh ?_))))
  exact hK _ _ (Z.swap2.pick rfl)
theorem du_date_f {gp gs gr gz gr0 cap c2 n : Nat} {L : ByteArray} {st : Bool} {p : Pz} {d : Dz} {z : Sz} {Rc : Array Value} {w0 w : World} {a : Act} {Q : Exit → Act → World → Prop} (h0 : 0 < n) (hc : n ≤ cap) (hcap : cap ≤ 100000) (hl1 : Rc[n - 1]? = some (pt gz 0)) (hf : d.date = false)  (Z : Sv 1040 (dl0 gp gs L st) [⟨gz, z.cells, 127, true⟩, ⟨gr, Rc, 125, true⟩, ⟨gp, p.cells (.slice (some ⟨gr, 0, none⟩) cap c2) cap (n % cap) n, 88, true⟩, ⟨gs, d.cells, 121, true⟩] (GR gp gs gr0) w0 a w) (hK : ∀ a' w', Sv 1040 (dl0 gp gs L st) [⟨gz, z.cells, 127, true⟩, ⟨gr, Rc, 125, true⟩, ⟨gp, p.cells (.slice (some ⟨gr, 0, none⟩) cap c2) cap (n % cap) n, 88, true⟩, ⟨gs, d.cells, 121, true⟩] (GR gp gs gr0) w0 a' w' → (du49).wp Tryz.prog Q a' w') : (du44).wp Tryz.prog Q a w := by
 have hfI : w.cell? ⟨gs, 7, none⟩ = some (.bool false) := by have h : w.cell? ⟨gs, 7, none⟩ = some (.bool d.date) := cell_of_heap (cs := d.cells) (v := .bool d.date) (Z.at 3 rfl) rfl; rw [hf] at h; exact h
 refine wp_seq (wr (sv_n 3 Z rfl fun a Z => sv_r (v := .bool false) Z (ex_ld (Z.g 211 rfl) lt_bool hfI) fun a Z => sv_n 5 Z rfl fun a Z => Z.nx [217, 2, 0, 1, 3, 8, 9] rfl fun Z => sh (cond_f (Z.g 217 rfl) (wp_skip (sh ?_)))))
 exact hK _ _ (Z.pick rfl)
theorem du_key_t {gp gs gr gz gr0 cap c2 n : Nat} {L : ByteArray} {st : Bool} {p : Pz} {d : Dz} {z : Sz} {Rc : Array Value} {w0 w : World} {a : Act} {Q : Exit → Act → World → Prop} (h0 : 0 < n) (hc : n ≤ cap) (hcap : cap ≤ 100000) (hl1 : Rc[n - 1]? = some (pt gz 0)) (hf : d.key = true) {xk : Nat} {k0 k1 k2 k3 k4 : ByteArray} (hx : d.xkey = some ⟨xk, 0, none⟩) (hxk : w.heap[xk]? = some (.cells #[.string k0, .string k1, .string k2, .string k3, .string k4] 132 (0, 0))) (Z : Sv 1040 (dl0 gp gs L st) [⟨gz, z.cells, 127, true⟩, ⟨gr, Rc, 125, true⟩, ⟨gp, p.cells (.slice (some ⟨gr, 0, none⟩) cap c2) cap (n % cap) n, 88, true⟩, ⟨gs, d.cells, 121, true⟩] (GR gp gs gr0) w0 a w) (hK : ∀ a' w' gk kv, w0.heap.size ≤ gk → kv = (if p.key.isNone then d.xkey else p.key) → Sv 1040 (dl0 gp gs L st) [⟨gz, ({ z with key := some ⟨gk, 0, none⟩ } : Sz).cells, 127, true⟩, ⟨gr, Rc, 125, true⟩, ⟨gp, ({ p with key := kv } : Pz).cells (.slice (some ⟨gr, 0, none⟩) cap c2) cap (n % cap) n, 88, true⟩, ⟨gs, ({ d with key := false } : Dz).cells, 121, true⟩, ⟨gk, #[.string k0, .string k1, .string k2, .string k3, .string k4], 132, true⟩] (GR gp gs gr0) w0 a' w' → (du54).wp Tryz.prog Q a' w') : (du49).wp Tryz.prog Q a w := by
 have hfI : w.cell? ⟨gs, 8, none⟩ = some (.bool true) := by have h : w.cell? ⟨gs, 8, none⟩ = some (.bool d.key) := cell_of_heap (cs := d.cells) (v := .bool d.key) (Z.at 3 rfl) rfl; rw [hf] at h; exact h
 replace Z := (Z.addR hxk (Z.neT hxk rfl)).ct [2, 0, 1, 3, 8, 9] rfl
 refine wp_seq (wr (sv_n 3 Z rfl fun a Z => sv_r (v := .bool true) Z (ex_ld (Z.g 235 rfl) lt_bool hfI) fun a Z => Z.nx [236, 2, 0, 1, 3, 8, 9] rfl fun Z => sh (cond_t (Z.g 236 rfl) (wp_seq ?_))))
 have hltR := Z.lt
 have hszR := Z.size
 refine wp_region_og1 (n := 1040) 45 [Asr.eq (pt gp 0), Asr.eq (pt gp 0), Asr.eq (pt gp 2), Asr.eq (.slice (some ⟨gr, 0, none⟩) cap c2), Asr.eq (pt gp 0), Asr.eq (.int .u64 ((n - 1 : Nat) : Int)), Asr.eq (pt gr (n - 1)), Asr.eq (pt gz 0), Asr.eq (pt gs 0), Asr.eq (pt gs 0), Asr.eq (pt gs 17), Asr.eq (pt xk 0), Asr.eq (pt xk 0), Asr.eq (pt xk 0), Asr.eq (.string k0), Asr.eq (pt gs 0), Asr.eq (pt gs 0), Asr.eq (pt gs 17), Asr.eq (pt xk 0), Asr.eq (pt xk 0), Asr.eq (pt xk 1), Asr.eq (.string k1), Asr.eq (pt gs 0), Asr.eq (pt gs 0), Asr.eq (pt gs 17), Asr.eq (pt xk 0), Asr.eq (pt xk 0), Asr.eq (pt xk 2), Asr.eq (.string k2), Asr.eq (pt gs 0), Asr.eq (pt gs 0), Asr.eq (pt gs 17), Asr.eq (pt xk 0), Asr.eq (pt xk 0), Asr.eq (pt xk 3), Asr.eq (.string k3), Asr.eq (pt gs 0), Asr.eq (pt gs 0), Asr.eq (pt gs 17), Asr.eq (pt xk 0), Asr.eq (pt xk 0), Asr.eq (pt xk 4), Asr.eq (.string k4), Asr.eq (.agg #[.string k0, .string k1, .string k2, .string k3, .string k4]), Asr.any (fun v w' => ∃ g, w.heap.size ≤ g ∧ v = pt g 0 ∧ w'.heap[g]? = some (.cells #[.string k0, .string k1, .string k2, .string k3, .string k4] 132 (0, 0)))] (by kernel_rfl) (by kernel_rfl) (by kernel_rfl) (by simp) (by kernel_rfl) Z.ev.size ⟨(fun i _ _ v w w' _ ho hp => by obtain ⟨g, h1, h2, h3⟩ := hp; exact ⟨g, h1, h2, hp_below h3 (only_below0 ho)⟩), ⟨⟩⟩ ?_ ?_
 ·simp only [List.take_succ_cons, List.take_zero]
  refine ⟨?_, ?_, ?_, ?_, ?_, ?_, ?_, ?_, ?_, ?_, ?_, ?_, ?_, ?_, ?_, ?_, ?_, ?_, ?_, ?_, ?_, ?_, ?_, ?_, ?_, ?_, ?_, ?_, ?_, ?_, ?_, ?_, ?_, ?_, ?_, ?_, ?_, ?_, ?_, ?_, ?_, ?_, ?_, ?_, ?_, trivial⟩
  ·exact qm (Z.g 0 rfl)
  ·exact qn 0
  ·exact qf 1
  ·exact ql 2 lt_sl_p_m3u8_MediaSegment Z 3
  ·exact qm (Z.g 0 rfl)
  ·intro a wx c
   have e_241 : a.eval (.tmp 241) = pt gp 0 := c.s 4 rfl
   have hO := Z.ogc c
   have hbx := drew_below c.only
   clear c
   have hcl : Calls Tryz.prog _ _ wx (fun e w' => e = .returned (.int .u64 ((n - 1 : Nat) : Int)) ∧ Below wx.heap.size wx w') := (last_any gp h0 hc hcap wx (hO.at 3 rfl))
   refine og_call (ex_call1 cf_m3u8_MediaPlaylist_last e_241) (Calls.mono hcl ?_)
   rintro e w' ⟨rfl, hb⟩
   exact ⟨_, rfl, hb, rfl⟩
  ·exact fun _ _ c => og_val (v := pt gr (n - 1)) (ex_ia1 (E := 125) (i := n - 1) Tryz.underlying79 Tryz.sizeOf125 (c.s 3 rfl) (c.s 5 rfl) (by omega)) rfl
  ·exact fun _ _ c => og_val (v := pt gz 0) (ex_ld (c.s 6 rfl) lt_p_m3u8_MediaSegment (cell_of_heap (v := pt gz 0) ((Z.ogc c).at 2 rfl) hl1)) rfl
  ·exact qm (Z.g 1 rfl)
  ·exact qn 8
  ·exact qf 9
  ·exact fun _ _ c => og_val (ex_ld (c.s 10 rfl) lt_p_m3u8_Key (by have h := cell_of_heap (cs := d.cells) (v := .pointer d.xkey) ((Z.ogc c).at 4 rfl) (show d.cells[17]? = some (.pointer d.xkey) from rfl); rw [hx] at h; exact h)) rfl
  ·exact qn 11
  ·exact qf 12
  ·exact ql 13 lt_string Z 0
  ·exact qm (Z.g 1 rfl)
  ·exact qn 15
  ·exact qf 16
  ·exact fun _ _ c => og_val (ex_ld (c.s 17 rfl) lt_p_m3u8_Key (by have h := cell_of_heap (cs := d.cells) (v := .pointer d.xkey) ((Z.ogc c).at 4 rfl) (show d.cells[17]? = some (.pointer d.xkey) from rfl); rw [hx] at h; exact h)) rfl
  ·exact qn 18
  ·exact qf 19
  ·exact ql 20 lt_string Z 0
  ·exact qm (Z.g 1 rfl)
  ·exact qn 22
  ·exact qf 23
  ·exact fun _ _ c => og_val (ex_ld (c.s 24 rfl) lt_p_m3u8_Key (by have h := cell_of_heap (cs := d.cells) (v := .pointer d.xkey) ((Z.ogc c).at 4 rfl) (show d.cells[17]? = some (.pointer d.xkey) from rfl); rw [hx] at h; exact h)) rfl
  ·exact qn 25
  ·exact qf 26
  ·exact ql 27 lt_string Z 0
  ·exact qm (Z.g 1 rfl)
  ·exact qn 29
  ·exact qf 30
  ·exact fun _ _ c => og_val (ex_ld (c.s 31 rfl) lt_p_m3u8_Key (by have h := cell_of_heap (cs := d.cells) (v := .pointer d.xkey) ((Z.ogc c).at 4 rfl) (show d.cells[17]? = some (.pointer d.xkey) from rfl); rw [hx] at h; exact h)) rfl
  ·exact qn 32
  ·exact qf 33
  ·exact ql 34 lt_string Z 0
  ·exact qm (Z.g 1 rfl)
  ·exact qn 36
  ·exact qf 37
  ·exact fun _ _ c => og_val (ex_ld (c.s 38 rfl) lt_p_m3u8_Key (by have h := cell_of_heap (cs := d.cells) (v := .pointer d.xkey) ((Z.ogc c).at 4 rfl) (show d.cells[17]? = some (.pointer d.xkey) from rfl); rw [hx] at h; exact h)) rfl
  ·exact qn 39
  ·exact qf 40
  ·exact ql 41 lt_string Z 0
  ·intro a wx c
   have e_251 : a.eval (.tmp 251) = .string k0 := c.s 14 rfl
   have e_258 : a.eval (.tmp 258) = .string k1 := c.s 21 rfl
   have e_265 : a.eval (.tmp 265) = .string k2 := c.s 28 rfl
   have e_272 : a.eval (.tmp 272) = .string k3 := c.s 35 rfl
   have e_279 : a.eval (.tmp 279) = .string k4 := c.s 42 rfl
   clear c
   exact og_val (by simp only [execOp, List.map_toArray, List.map_cons, List.map_nil, e_251, e_258, e_265, e_272, e_279]; go_simp) rfl
  ·intro a wx c
   have e_280 : a.eval (.tmp 280) = .agg #[.string k0, .string k1, .string k2, .string k3, .string k4] := c.s 43 rfl
   have hszx := (drew_below c.only).size
   clear c
   refine og_ext (v := pt wx.heap.size 0) (w' := wx.alloc (.cells #[.string k0, .string k1, .string k2, .string k3, .string k4] 132)) (by simp only [execOp, e_280]; simp [bx_m3u8_Key _ wx, Result.andThen]) ((Below.refl _ _).alloc (Nat.le_refl _) _) ⟨_, hszx, rfl, heap_alloc_new _ _⟩
 ·intro a w2 c hbw2
  obtain ⟨g1, hwg1, e_281, hhg1⟩ : ∃ g, w.heap.size ≤ g ∧ (a.eval (.tmp 281)) = pt g 0 ∧ w2.heap[g]? = some (.cells #[.string k0, .string k1, .string k2, .string k3, .string k4] 132 (0, 0)) := c.s 44 rfl
  replace Z : Sv 1040 ((281, pt g1 0) :: (244, pt gz 0) :: (9, .nilIface) :: (8, .nilIface) :: (3, .bool st) :: (1, pt gs 0) :: (0, pt gp 0) :: (2, .string L) :: (236, .bool true) :: []) [⟨xk, #[.string k0, .string k1, .string k2, .string k3, .string k4], 132, false⟩, ⟨gz, z.cells, 127, true⟩, ⟨gr, Rc, 125, true⟩, ⟨gp, (p.cells (.slice (some ⟨gr, 0, none⟩) cap c2) cap (n % cap) n), 88, true⟩, ⟨gs, d.cells, 121, true⟩] (GR gp gs gr0) w0 a w2 := ((((((((((Z.ogh c).know (c.o (Z.g 236 rfl))).know (c.o (Z.g 2 rfl))).know (c.o (Z.g 0 rfl))).know (c.o (Z.g 1 rfl))).know (c.o (Z.g 3 rfl))).know (c.o (Z.g 8 rfl))).know (c.o (Z.g 9 rfl))).know (c.s 7 rfl)).know e_281)
  clear c
  replace Z := (Z.addN hhg1 hltR hwg1 hszR).ct [281, 244, 9, 8, 3, 1, 0, 2, 236] rfl
  simp only [List.drop_succ_cons, List.drop_zero]
  refine sv_n 2 Z rfl fun a Z => sv_st (i := 2) (v := pt g1 0) (cs' := (({ z with key := (some ⟨g1, 0, none⟩) } : Sz).cells)) Z (su_p_m3u8_Key _) (Z.g 283 rfl) (Z.g 281 rfl) rfl (show 6 < 11 from by decide) rfl rfl fun w3 hty Z => Z.nx [9, 8, 3, 1, 0, 2, 236] rfl fun Z => sh (wp_seq (wp_seq ?_))
  cases hpk : p.key with
  | none =>
   have hfP : w3.cell? ⟨gp, 21, none⟩ = some (.pointer (none)) := by have h := cell_of_heap (v := .pointer p.key) (Z.at 4 rfl) (show ((p.cells (.slice (some ⟨gr, 0, none⟩) cap c2) cap (n % cap) n))[21]? = some (.pointer p.key) from rfl); rw [hpk] at h; exact h
   refine wp_region_lit (sv_n 3 Z rfl fun a Z => sv_r (v := .pointer none) Z (ex_ld (Z.g 286 rfl) lt_p_m3u8_Key hfP) fun a Z => sv_r (v := .bool true) Z (ex_pe eqp_p_m3u8_Key (Z.g 287 rfl)) fun a Z => Z.nx [288, 9, 8, 3, 1, 0, 2, 236] rfl fun Z => sh (cond_t (Z.g 288 rfl) (wp_region_lit (sv_n 4 Z rfl fun a Z => ?_))))
   refine sv_r (v := pt xk 0) Z (ex_ld (Z.g 292 rfl) lt_p_m3u8_Key (by have h := cell_of_heap (cs := d.cells) (v := .pointer d.xkey) (Z.at 5 rfl) (show d.cells[17]? = some (.pointer d.xkey) from rfl); rw [hx] at h; exact h)) fun a Z => sv_n 2 Z rfl fun a Z => sv_st (i := 4) (v := pt xk 0) (cs' := (({ p with key := (some ⟨xk, 0, none⟩) } : Pz).cells ((.slice (some ⟨gr, 0, none⟩) cap c2)) cap (n % cap) n)) Z (su_p_m3u8_Key _) (Z.g 295 rfl) (Z.g 293 rfl) rfl (show 21 < 23 from by decide) rfl rfl fun w4 hty Z => Z.nx [288, 9, 8, 3, 1, 0, 2, 236] rfl fun Z => sh (wp_region_lit (sv_n 3 Z rfl fun a Z => ?_))
   refine sv_st (i := 5) (v := .bool false) (cs' := (({ d with key := false } : Dz).cells)) Z (su_bool _) (Z.g 298 rfl) rfl rfl (show 8 < 20 from by decide) rfl rfl fun w5 hty Z => Z.nx [288, 9, 8, 3, 1, 0, 2, 236] rfl fun Z => sh ?_
   exact hK _ _ g1 (some ⟨xk, 0, none⟩) (Nat.le_trans hszR hwg1) (by rw [hpk, hx]; rfl) (Z.rot.pick rfl)
  | some ad =>
   have hfP : w3.cell? ⟨gp, 21, none⟩ = some (.pointer (some ad)) := by have h := cell_of_heap (v := .pointer p.key) (Z.at 4 rfl) (show ((p.cells (.slice (some ⟨gr, 0, none⟩) cap c2) cap (n % cap) n))[21]? = some (.pointer p.key) from rfl); rw [hpk] at h; exact h
   refine wp_region_lit (sv_n 3 Z rfl fun a Z => sv_r (v := .pointer (some ad)) Z (ex_ld (Z.g 286 rfl) lt_p_m3u8_Key hfP) fun a Z => sv_r (v := .bool false) Z (ex_pe eqp_p_m3u8_Key (Z.g 287 rfl)) fun a Z => Z.nx [288, 9, 8, 3, 1, 0, 2, 236] rfl fun Z => sh (cond_f (Z.g 288 rfl) (wp_skip (sh (wp_region_lit (sv_n 3 Z rfl fun a Z => sv_st (i := 5) (v := .bool false) (cs' := (({ d with key := false } : Dz).cells)) Z (su_bool _) (Z.g 298 rfl) rfl rfl (show 8 < 20 from by decide) rfl rfl fun w6 hty Z => ?_))))))
   refine Z.nx [288, 9, 8, 3, 1, 0, 2, 236] rfl fun Z => sh ?_
   exact hK _ _ g1 (p.key) (Nat.le_trans hszR hwg1) (by rw [hpk]; rfl) (Z.rot.pick rfl)
theorem du_key_f {gp gs gr gz gr0 cap c2 n : Nat} {L : ByteArray} {st : Bool} {p : Pz} {d : Dz} {z : Sz} {Rc : Array Value} {w0 w : World} {a : Act} {Q : Exit → Act → World → Prop} (h0 : 0 < n) (hc : n ≤ cap) (hcap : cap ≤ 100000) (hl1 : Rc[n - 1]? = some (pt gz 0)) (hf : d.key = false)  (Z : Sv 1040 (dl0 gp gs L st) [⟨gz, z.cells, 127, true⟩, ⟨gr, Rc, 125, true⟩, ⟨gp, p.cells (.slice (some ⟨gr, 0, none⟩) cap c2) cap (n % cap) n, 88, true⟩, ⟨gs, d.cells, 121, true⟩] (GR gp gs gr0) w0 a w) (hK : ∀ a' w', Sv 1040 (dl0 gp gs L st) [⟨gz, z.cells, 127, true⟩, ⟨gr, Rc, 125, true⟩, ⟨gp, p.cells (.slice (some ⟨gr, 0, none⟩) cap c2) cap (n % cap) n, 88, true⟩, ⟨gs, d.cells, 121, true⟩] (GR gp gs gr0) w0 a' w' → (du54).wp Tryz.prog Q a' w') : (du49).wp Tryz.prog Q a w := by
 have hfI : w.cell? ⟨gs, 8, none⟩ = some (.bool false) := by have h : w.cell? ⟨gs, 8, none⟩ = some (.bool d.key) := cell_of_heap (cs := d.cells) (v := .bool d.key) (Z.at 3 rfl) rfl; rw [hf] at h; exact h
 refine wp_seq (wr (sv_n 3 Z rfl fun a Z => sv_r (v := .bool false) Z (ex_ld (Z.g 235 rfl) lt_bool hfI) fun a Z => Z.nx [236, 2, 0, 1, 3, 8, 9] rfl fun Z => sh (cond_f (Z.g 236 rfl) (wp_skip (sh ?_)))))
 exact hK _ _ (Z.pick rfl)
theorem du_map_t {gp gs gr gz gr0 cap c2 n : Nat} {L : ByteArray} {st : Bool} {p : Pz} {d : Dz} {z : Sz} {Rc : Array Value} {w0 w : World} {a : Act} {Q : Exit → Act → World → Prop} (h0 : 0 < n) (hc : n ≤ cap) (hcap : cap ≤ 100000) (hl1 : Rc[n - 1]? = some (pt gz 0)) (hf : d.map = true) {xk : Nat} {k0 : ByteArray} {k1 k2 : Nat} (hx : d.xmap = some ⟨xk, 0, none⟩) (hxk : w.heap[xk]? = some (.cells #[.string k0, .int .i64 ((k1 : Nat) : Int), .int .i64 ((k2 : Nat) : Int)] 133 (0, 0))) {ex : List Bk} (hex : ∀ b ∈ ex, b.g ≠ xk) (Z : Sv 1040 (dl0 gp gs L st) (⟨gz, z.cells, 127, true⟩ :: ⟨gr, Rc, 125, true⟩ :: ⟨gp, p.cells (.slice (some ⟨gr, 0, none⟩) cap c2) cap (n % cap) n, 88, true⟩ :: ⟨gs, d.cells, 121, true⟩ :: ex) (GR gp gs gr0) w0 a w) (hK : ∀ a' w' gk kv, w0.heap.size ≤ gk → kv = (if p.map.isNone then d.xmap else p.map) → Sv 1040 (dl0 gp gs L st) (⟨gz, ({ z with map := some ⟨gk, 0, none⟩ } : Sz).cells, 127, true⟩ :: ⟨gr, Rc, 125, true⟩ :: ⟨gp, ({ p with map := kv } : Pz).cells (.slice (some ⟨gr, 0, none⟩) cap c2) cap (n % cap) n, 88, true⟩ :: ⟨gs, ({ d with map := false } : Dz).cells, 121, true⟩ :: ⟨gk, #[.string k0, .int .i64 ((k1 : Nat) : Int), .int .i64 ((k2 : Nat) : Int)], 133, true⟩ :: ex) (GR gp gs gr0) w0 a' w' → Q .normal a' w') : (du54).wp Tryz.prog Q a w := by
 have hfI : w.cell? ⟨gs, 9, none⟩ = some (.bool true) := by have h : w.cell? ⟨gs, 9, none⟩ = some (.bool d.map) := cell_of_heap (cs := d.cells) (v := .bool d.map) (Z.at 3 rfl) rfl; rw [hf] at h; exact h
 have hneq : ∀ b ∈ (⟨gz, z.cells, 127, true⟩ :: ⟨gr, Rc, 125, true⟩ :: ⟨gp, p.cells (.slice (some ⟨gr, 0, none⟩) cap c2) cap (n % cap) n, 88, true⟩ :: ⟨gs, d.cells, 121, true⟩ :: ex), b.g ≠ xk := by intro b hb; rcases List.mem_append.1 (show b ∈ [⟨gz, z.cells, 127, true⟩, ⟨gr, Rc, 125, true⟩, ⟨gp, p.cells (.slice (some ⟨gr, 0, none⟩) cap c2) cap (n % cap) n, 88, true⟩, ⟨gs, d.cells, 121, true⟩] ++ ex from hb) with h | h; (· exact (Z.sub (m' := [⟨gz, z.cells, 127, true⟩, ⟨gr, Rc, 125, true⟩, ⟨gp, p.cells (.slice (some ⟨gr, 0, none⟩) cap c2) cap (n % cap) n, 88, true⟩, ⟨gs, d.cells, 121, true⟩]) (List.sublist_append_left _ _)).neT hxk rfl b h); (· exact hex b h)
 replace Z := (Z.addR hxk hneq).ct [2, 0, 1, 3, 8, 9] rfl
 refine wr (sv_n 3 Z rfl fun a Z => sv_r (v := .bool true) Z (ex_ld (Z.g 301 rfl) lt_bool hfI) fun a Z => Z.nx [302, 2, 0, 1, 3, 8, 9] rfl fun Z => sh (cond_t (Z.g 302 rfl) (wp_seq ?_)))
 have hltR := Z.lt
 have hszR := Z.size
 refine wp_region_og1 (n := 1040) 31 [Asr.eq (pt gp 0), Asr.eq (pt gp 0), Asr.eq (pt gp 2), Asr.eq (.slice (some ⟨gr, 0, none⟩) cap c2), Asr.eq (pt gp 0), Asr.eq (.int .u64 ((n - 1 : Nat) : Int)), Asr.eq (pt gr (n - 1)), Asr.eq (pt gz 0), Asr.eq (pt gs 0), Asr.eq (pt gs 0), Asr.eq (pt gs 18), Asr.eq (pt xk 0), Asr.eq (pt xk 0), Asr.eq (pt xk 0), Asr.eq (.string k0), Asr.eq (pt gs 0), Asr.eq (pt gs 0), Asr.eq (pt gs 18), Asr.eq (pt xk 0), Asr.eq (pt xk 0), Asr.eq (pt xk 1), Asr.eq (.int .i64 ((k1 : Nat) : Int)), Asr.eq (pt gs 0), Asr.eq (pt gs 0), Asr.eq (pt gs 18), Asr.eq (pt xk 0), Asr.eq (pt xk 0), Asr.eq (pt xk 2), Asr.eq (.int .i64 ((k2 : Nat) : Int)), Asr.eq (.agg #[.string k0, .int .i64 ((k1 : Nat) : Int), .int .i64 ((k2 : Nat) : Int)]), Asr.any (fun v w' => ∃ g, w.heap.size ≤ g ∧ v = pt g 0 ∧ w'.heap[g]? = some (.cells #[.string k0, .int .i64 ((k1 : Nat) : Int), .int .i64 ((k2 : Nat) : Int)] 133 (0, 0)))] (by kernel_rfl) (by kernel_rfl) (by kernel_rfl) (by simp) (by kernel_rfl) Z.ev.size ⟨(fun i _ _ v w w' _ ho hp => by obtain ⟨g, h1, h2, h3⟩ := hp; exact ⟨g, h1, h2, hp_below h3 (only_below0 ho)⟩), ⟨⟩⟩ ?_ ?_
 ·simp only [List.take_succ_cons, List.take_zero]
  refine ⟨?_, ?_, ?_, ?_, ?_, ?_, ?_, ?_, ?_, ?_, ?_, ?_, ?_, ?_, ?_, ?_, ?_, ?_, ?_, ?_, ?_, ?_, ?_, ?_, ?_, ?_, ?_, ?_, ?_, ?_, ?_, trivial⟩
  ·exact qm (Z.g 0 rfl)
  ·exact qn 0
  ·exact qf 1
  ·exact ql 2 lt_sl_p_m3u8_MediaSegment Z 3
  ·exact qm (Z.g 0 rfl)
  ·intro a wx c
   have e_307 : a.eval (.tmp 307) = pt gp 0 := c.s 4 rfl
   have hO := Z.ogc c
   have hbx := drew_below c.only
   clear c
   have hcl : Calls Tryz.prog _ _ wx (fun e w' => e = .returned (.int .u64 ((n - 1 : Nat) : Int)) ∧ Below wx.heap.size wx w') := (last_any gp h0 hc hcap wx (hO.at 3 rfl))
   refine og_call (ex_call1 cf_m3u8_MediaPlaylist_last e_307) (Calls.mono hcl ?_)
   rintro e w' ⟨rfl, hb⟩
   exact ⟨_, rfl, hb, rfl⟩
  ·exact fun _ _ c => og_val (v := pt gr (n - 1)) (ex_ia1 (E := 125) (i := n - 1) Tryz.underlying79 Tryz.sizeOf125 (c.s 3 rfl) (c.s 5 rfl) (by omega)) rfl
  ·exact fun _ _ c => og_val (v := pt gz 0) (ex_ld (c.s 6 rfl) lt_p_m3u8_MediaSegment (cell_of_heap (v := pt gz 0) ((Z.ogc c).at 2 rfl) hl1)) rfl
  ·exact qm (Z.g 1 rfl)
  ·exact qn 8
  ·exact qf 9
  ·exact fun _ _ c => og_val (ex_ld (c.s 10 rfl) lt_p_m3u8_Map (by have h := cell_of_heap (cs := d.cells) (v := .pointer d.xmap) ((Z.ogc c).at 4 rfl) (show d.cells[18]? = some (.pointer d.xmap) from rfl); rw [hx] at h; exact h)) rfl
  ·exact qn 11
  ·exact qf 12
  ·exact ql 13 lt_string Z 0
  ·exact qm (Z.g 1 rfl)
  ·exact qn 15
  ·exact qf 16
  ·exact fun _ _ c => og_val (ex_ld (c.s 17 rfl) lt_p_m3u8_Map (by have h := cell_of_heap (cs := d.cells) (v := .pointer d.xmap) ((Z.ogc c).at 4 rfl) (show d.cells[18]? = some (.pointer d.xmap) from rfl); rw [hx] at h; exact h)) rfl
  ·exact qn 18
  ·exact qf 19
  ·exact ql 20 lt_int64 Z 0
  ·exact qm (Z.g 1 rfl)
  ·exact qn 22
  ·exact qf 23
  ·exact fun _ _ c => og_val (ex_ld (c.s 24 rfl) lt_p_m3u8_Map (by have h := cell_of_heap (cs := d.cells) (v := .pointer d.xmap) ((Z.ogc c).at 4 rfl) (show d.cells[18]? = some (.pointer d.xmap) from rfl); rw [hx] at h; exact h)) rfl
  ·exact qn 25
  ·exact qf 26
  ·exact ql 27 lt_int64 Z 0
  ·intro a wx c
   have e_317 : a.eval (.tmp 317) = .string k0 := c.s 14 rfl
   have e_324 : a.eval (.tmp 324) = .int .i64 ((k1 : Nat) : Int) := c.s 21 rfl
   have e_331 : a.eval (.tmp 331) = .int .i64 ((k2 : Nat) : Int) := c.s 28 rfl
   clear c
   exact og_val (by simp only [execOp, List.map_toArray, List.map_cons, List.map_nil, e_317, e_324, e_331]; go_simp) rfl
  ·intro a wx c
   have e_332 : a.eval (.tmp 332) = .agg #[.string k0, .int .i64 ((k1 : Nat) : Int), .int .i64 ((k2 : Nat) : Int)] := c.s 29 rfl
   have hszx := (drew_below c.only).size
   clear c
   refine og_ext (v := pt wx.heap.size 0) (w' := wx.alloc (.cells #[.string k0, .int .i64 ((k1 : Nat) : Int), .int .i64 ((k2 : Nat) : Int)] 133)) (by simp only [execOp, e_332]; simp [bx_m3u8_Map _ wx, Result.andThen]) ((Below.refl _ _).alloc (Nat.le_refl _) _) ⟨_, hszx, rfl, heap_alloc_new _ _⟩
 ·intro a w2 c hbw2
  obtain ⟨g1, hwg1, e_333, hhg1⟩ : ∃ g, w.heap.size ≤ g ∧ (a.eval (.tmp 333)) = pt g 0 ∧ w2.heap[g]? = some (.cells #[.string k0, .int .i64 ((k1 : Nat) : Int), .int .i64 ((k2 : Nat) : Int)] 133 (0, 0)) := c.s 30 rfl
  replace Z : Sv 1040 ((333, pt g1 0) :: (310, pt gz 0) :: (9, .nilIface) :: (8, .nilIface) :: (3, .bool st) :: (1, pt gs 0) :: (0, pt gp 0) :: (2, .string L) :: (302, .bool true) :: []) (⟨xk, #[.string k0, .int .i64 ((k1 : Nat) : Int), .int .i64 ((k2 : Nat) : Int)], 133, false⟩ :: ⟨gz, z.cells, 127, true⟩ :: ⟨gr, Rc, 125, true⟩ :: ⟨gp, (p.cells (.slice (some ⟨gr, 0, none⟩) cap c2) cap (n % cap) n), 88, true⟩ :: ⟨gs, d.cells, 121, true⟩ :: ex) (GR gp gs gr0) w0 a w2 := ((((((((((Z.ogh c).know (c.o (Z.g 302 rfl))).know (c.o (Z.g 2 rfl))).know (c.o (Z.g 0 rfl))).know (c.o (Z.g 1 rfl))).know (c.o (Z.g 3 rfl))).know (c.o (Z.g 8 rfl))).know (c.o (Z.g 9 rfl))).know (c.s 7 rfl)).know e_333)
  clear c
  replace Z := (Z.addN hhg1 hltR hwg1 hszR).ct [333, 310, 9, 8, 3, 1, 0, 2, 302] rfl
  simp only [List.drop_succ_cons, List.drop_zero]
  refine sv_n 2 Z rfl fun a Z => sv_st (i := 2) (v := pt g1 0) (cs' := (({ z with map := (some ⟨g1, 0, none⟩) } : Sz).cells)) Z (su_p_m3u8_Map _) (Z.g 335 rfl) (Z.g 333 rfl) rfl (show 7 < 11 from by decide) rfl rfl fun w3 hty Z => Z.nx [9, 8, 3, 1, 0, 2, 302] rfl fun Z => sh (wp_seq (wp_seq ?_))
  cases hpk : p.map with
  | none =>
   have hfP : w3.cell? ⟨gp, 22, none⟩ = some (.pointer (none)) := by have h := cell_of_heap (v := .pointer p.map) (Z.at 4 rfl) (show ((p.cells (.slice (some ⟨gr, 0, none⟩) cap c2) cap (n % cap) n))[22]? = some (.pointer p.map) from rfl); rw [hpk] at h; exact h
   refine wp_region_lit (sv_n 3 Z rfl fun a Z => sv_r (v := .pointer none) Z (ex_ld (Z.g 338 rfl) lt_p_m3u8_Map hfP) fun a Z => sv_r (v := .bool true) Z (ex_pe eqp_p_m3u8_Map (Z.g 339 rfl)) fun a Z => Z.nx [340, 9, 8, 3, 1, 0, 2, 302] rfl fun Z => sh (cond_t (Z.g 340 rfl) (wp_region_lit (sv_n 4 Z rfl fun a Z => ?_))))
   refine sv_r (v := pt xk 0) Z (ex_ld (Z.g 344 rfl) lt_p_m3u8_Map (by have h := cell_of_heap (cs := d.cells) (v := .pointer d.xmap) (Z.at 5 rfl) (show d.cells[18]? = some (.pointer d.xmap) from rfl); rw [hx] at h; exact h)) fun a Z => sv_n 2 Z rfl fun a Z => sv_st (i := 4) (v := pt xk 0) (cs' := (({ p with map := (some ⟨xk, 0, none⟩) } : Pz).cells ((.slice (some ⟨gr, 0, none⟩) cap c2)) cap (n % cap) n)) Z (su_p_m3u8_Map _) (Z.g 347 rfl) (Z.g 345 rfl) rfl (show 22 < 23 from by decide) rfl rfl fun w4 hty Z => Z.nx [340, 9, 8, 3, 1, 0, 2, 302] rfl fun Z => sh (wp_region_lit (sv_n 3 Z rfl fun a Z => ?_))
   refine sv_st (i := 5) (v := .bool false) (cs' := (({ d with map := false } : Dz).cells)) Z (su_bool _) (Z.g 350 rfl) rfl rfl (show 9 < 20 from by decide) rfl rfl fun w5 hty Z => Z.nx [340, 9, 8, 3, 1, 0, 2, 302] rfl fun Z => ?_
   exact hK _ _ g1 (some ⟨xk, 0, none⟩) (Nat.le_trans hszR hwg1) (by rw [hpk, hx]; rfl) (Z.rot.pick rfl)
  | some ad =>
   have hfP : w3.cell? ⟨gp, 22, none⟩ = some (.pointer (some ad)) := by have h := cell_of_heap (v := .pointer p.map) (Z.at 4 rfl) (show ((p.cells (.slice (some ⟨gr, 0, none⟩) cap c2) cap (n % cap) n))[22]? = some (.pointer p.map) from rfl); rw [hpk] at h; exact h
   refine wp_region_lit (sv_n 3 Z rfl fun a Z => sv_r (v := .pointer (some ad)) Z (ex_ld (Z.g 338 rfl) lt_p_m3u8_Map hfP) fun a Z => sv_r (v := .bool false) Z (ex_pe eqp_p_m3u8_Map (Z.g 339 rfl)) fun a Z => Z.nx [340, 9, 8, 3, 1, 0, 2, 302] rfl fun Z => sh (cond_f (Z.g 340 rfl) (wp_skip (sh (wp_region_lit (sv_n 3 Z rfl fun a Z => sv_st (i := 5) (v := .bool false) (cs' := (({ d with map := false } : Dz).cells)) Z (su_bool _) (Z.g 350 rfl) rfl rfl (show 9 < 20 from by decide) rfl rfl fun w6 hty Z => ?_))))))
   refine Z.nx [340, 9, 8, 3, 1, 0, 2, 302] rfl fun Z => ?_
   exact hK _ _ g1 (p.map) (Nat.le_trans hszR hwg1) (by rw [hpk]; rfl) (Z.rot.pick rfl)
theorem du_map_f {gp gs gr gz gr0 cap c2 n : Nat} {L : ByteArray} {st : Bool} {p : Pz} {d : Dz} {z : Sz} {Rc : Array Value} {w0 w : World} {a : Act} {Q : Exit → Act → World → Prop} (h0 : 0 < n) (hc : n ≤ cap) (hcap : cap ≤ 100000) (hl1 : Rc[n - 1]? = some (pt gz 0)) (hf : d.map = false) {ex : List Bk} (Z : Sv 1040 (dl0 gp gs L st) (⟨gz, z.cells, 127, true⟩ :: ⟨gr, Rc, 125, true⟩ :: ⟨gp, p.cells (.slice (some ⟨gr, 0, none⟩) cap c2) cap (n % cap) n, 88, true⟩ :: ⟨gs, d.cells, 121, true⟩ :: ex) (GR gp gs gr0) w0 a w) (hK : ∀ a' w', Sv 1040 (dl0 gp gs L st) (⟨gz, z.cells, 127, true⟩ :: ⟨gr, Rc, 125, true⟩ :: ⟨gp, p.cells (.slice (some ⟨gr, 0, none⟩) cap c2) cap (n % cap) n, 88, true⟩ :: ⟨gs, d.cells, 121, true⟩ :: ex) (GR gp gs gr0) w0 a' w' → Q .normal a' w') : (du54).wp Tryz.prog Q a w := by
 have hfI : w.cell? ⟨gs, 9, none⟩ = some (.bool false) := by have h : w.cell? ⟨gs, 9, none⟩ = some (.bool d.map) := cell_of_heap (cs := d.cells) (v := .bool d.map) (Z.at 3 rfl) rfl; rw [hf] at h; exact h
 refine wr (sv_n 3 Z rfl fun a Z => sv_r (v := .bool false) Z (ex_ld (Z.g 301 rfl) lt_bool hfI) fun a Z => Z.nx [302, 2, 0, 1, 3, 8, 9] rfl fun Z => sh (cond_f (Z.g 302 rfl) (wp_skip ?_)))
 exact hK _ _ (Z.pick rfl)
end Go.Proofs.YtflppablgdegcaaGreatDoor
