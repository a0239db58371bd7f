/- WriteMaster's inner loop: a variant's renditions as pointers. -/
import Derived.Test.YtkddkmiomhadaaaDoorApd
import Derived.Test.YtkddkmiomhadaaaDoorLen
namespace Go.Proofs.YtkddkmiomhadaaaDoor
open Go.RowKit
noncomputable def wmaBody : Code := Tryd.f7.body.getD .skip
set_option maxRecDepth 100000 in
theorem al_ia : Al 56 #[.string ⟨#[]⟩, .string ⟨#[]⟩, .string ⟨#[]⟩, .string ⟨#[]⟩, .string ⟨#[]⟩, .bool false, .string ⟨#[]⟩, .string ⟨#[]⟩, .string ⟨#[]⟩, .string ⟨#[]⟩] := by intro w; go_simp
theorem bx_ma (y : At) (w : World) : (Instr.box 65 (.agg y.mcells)).run Tryd.prog w = .ok (pt w.heap.size 0) (w.alloc (.cells y.mcells 65)) := by
  rfl
theorem info_pa : (Tryd.prog.info? 63).map (fun i => (i.zero, i.size, i.bytes)) = some (some (.pointer none), 1, 8) := by kernel_rfl
theorem mcells_one (y : At) : ∀ u ∈ y.mcells.toList, u.oneCell' = true := mlist_one y
/-- Between two rounds. -/
structure Wa (B Bk g7 : Nat) (v : Vt) (fr : Bool) (sA : Value) (ys : List At) (w0 : World) (k : Nat) (s : Value) (gs : List Nat) (w : World) : Prop where
  len : gs.length = k
  nil : gs = [] → s = .slice none 0 0
  own : Own vptr 63 1 w Bk s gs
  box : w.heap[g7]? = some (.cells (v.pcells fr s) 62 (0, 0))
  src : Own At.mlist 56 10 w B sA ys
  al : ∀ (i ga : Nat) (y : At), gs[i]? = some ga → ys[i]? = some y → w.heap[ga]? = some (.cells y.mcells 65 (0, 0))
  below : Below Bk w0 w
  le : Bk ≤ w.heap.size
theorem Wa.next {B Bk g7 : Nat} {v : Vt} {fr : Bool} {sA : Value} {ys : List At} {w0 w w' : World} {k : Nat} {s : Value} {gs : List Nat} (h : Wa B Bk g7 v fr sA ys w0 k s gs w) (hb : Below w.heap.size w w') : Wa B Bk g7 v fr sA ys w0 k s gs w' :=
  ⟨h.len, h.nil, h.own.below hb, hp_below h.box hb, h.src.below hb, fun i ga y h1 h2 => hp_below (h.al i ga y h1 h2) hb, h.below.trans (hb.mono h.le), Nat.le_trans h.le hb.size⟩
set_option maxRecDepth 100000 in
set_option maxHeartbeats 8000000 in
theorem wma_alts {Q : Exit → Act → World → Prop} {a : Act} {w : World} {sO sA n27 i28 : Value} {b1 pb g6 g7 Bk B : Nat} {v : Vt} {fr : Bool} (ys : List At) (hys : ys.length ≤ 1000) (hT : Wa B Bk g7 v fr sA ys w 0 (.slice none 0 0) [] w) (h7 : Bk ≤ g7)
    (hE : Ev 122 ((68, .int .i64 (0 : Nat)) :: (67, .int .i64 ys.length) :: (1, pt b1 0) :: (4, pt pb 0) :: (6, pt g6 0) :: (7, pt g7 0) :: (26, sO) :: (27, n27) :: (28, i28) :: (66, sA) :: []) a) (hQ : ∀ a' w' s' gs, Ev 122 ((1, pt b1 0) :: (4, pt pb 0) :: (6, pt g6 0) :: (7, pt g7 0) :: (26, sO) :: (27, n27) :: (28, i28) :: (66, sA) :: []) a' → Wa B Bk g7 v fr sA ys w ys.length s' gs w' → Q .normal a' w') :
    Code.wp Tryd.prog (cB (cA (cB (cB (cB (cA (cA (cB (cB (cA (cA (cB (cA (cB (cB (cB wmaBody)))))))))))))))) Q a w := by
  obtain ⟨i0, hi, hz0, hz1, hz2⟩ := info_parts info_pa
  refine range_wp2 (N := 122) (n := ys.length) [1, 4, 6, 7, 26, 27, 28, 66] (l0 := ((1, pt b1 0) :: (4, pt pb 0) :: (6, pt g6 0) :: (7, pt g7 0) :: (26, sO) :: (27, n27) :: (28, i28) :: (66, sA) :: [])) (fun k l wr => l = ((1, pt b1 0) :: (4, pt pb 0) :: (6, pt g6 0) :: (7, pt g7 0) :: (26, sO) :: (27, n27) :: (28, i28) :: (66, sA) :: []) ∧ ∃ s gs, Wa B Bk g7 v fr sA ys w k s gs wr) (by omega) hE rfl ⟨rfl, _, _, hT⟩ (by decide) (by decide) (by decide) ?_ ?_
  · rintro k l a wr hk hE ⟨rfl, s, gs, hT⟩ Q' hQ'
    obtain ⟨y, hy⟩ : ∃ y, ys[k]? = some y := ⟨_, List.getElem?_eq_getElem hk⟩
    have hgl := hT.len
    refine wp_block ?_
    refine wp_seq ?_
    refine wp_region_lit ?_
    refine ev_elem ag_ia Tryd.underlying51 (fun _ => rfl) (by decide) hE hT.src hy (hE.get 66 rfl) (hE.get 68 rfl) (by decide) (by decide) ?_ rfl (by decide)
    intro a hE
    refine ev_al hE al_ia (by decide) ?_
    intro a w4 hE hga hbl4 _
    refine ev_sb (cs := y.mcells) hE ag_ia (hE.get 9 rfl) (hE.get 71 rfl) hga rfl rfl (mcells_one y) ?_
    intro w5 hya ho5
    refine wpList_nil ?_
    have hT5 := hT.next (hbl4.trans (only_bel ho5 hbl4.size (Nat.le_refl _)))
    have hE : Ev 122 ((9, pt wr.heap.size 0) :: (68, .int .i64 k) :: (67, .int .i64 ys.length) :: (1, pt b1 0) :: (4, pt pb 0) :: (6, pt g6 0) :: (7, pt g7 0) :: (26, sO) :: (27, n27) :: (28, i28) :: (66, sA) :: []) a := hE.pick rfl
    generalize wr.heap.size = ga at *
    clear hga hbl4 ho5
    have hbox5 := hT5.box
    show Code.wp _ _ _ _ _
    refine wp_region_lit ?_
    refine ev_run hE rfl rfl (by decide) (ex_fa (hE.get 7 rfl) (fa_vq_14 _)) ?_
    intro a hE
    refine ev_run hE rfl rfl (by decide) (ex_ld (hE.get 72 rfl) ld_alts (cell_of_heap (v := s) hbox5 rfl)) ?_
    intro a hE
    refine ev_run hE rfl rfl (by decide) (ex_fa (hE.get 9 rfl) (fa_ia_0 _)) ?_
    intro a hE
    refine ev_run hE rfl rfl (by decide) (ex_ld (hE.get 74 rfl) ld_string (cell_of_heap (v := .string y.grp) hya rfl)) ?_
    intro a hE
    refine ev_run hE rfl rfl (by decide) (ex_fa (hE.get 9 rfl) (fa_ia_1 _)) ?_
    intro a hE
    refine ev_run hE rfl rfl (by decide) (ex_ld (hE.get 76 rfl) ld_string (cell_of_heap (v := .string y.uri) hya rfl)) ?_
    intro a hE
    refine ev_run hE rfl rfl (by decide) (ex_fa (hE.get 9 rfl) (fa_ia_2 _)) ?_
    intro a hE
    refine ev_run hE rfl rfl (by decide) (ex_ld (hE.get 78 rfl) ld_string (cell_of_heap (v := .string y.typ) hya rfl)) ?_
    intro a hE
    refine ev_run hE rfl rfl (by decide) (ex_fa (hE.get 9 rfl) (fa_ia_3 _)) ?_
    intro a hE
    refine ev_run hE rfl rfl (by decide) (ex_ld (hE.get 80 rfl) ld_string (cell_of_heap (v := .string y.lang) hya rfl)) ?_
    intro a hE
    refine ev_run hE rfl rfl (by decide) (ex_fa (hE.get 9 rfl) (fa_ia_4 _)) ?_
    intro a hE
    refine ev_run hE rfl rfl (by decide) (ex_ld (hE.get 82 rfl) ld_string (cell_of_heap (v := .string y.name) hya rfl)) ?_
    intro a hE
    refine ev_run hE rfl rfl (by decide) (ex_fa (hE.get 9 rfl) (fa_ia_5 _)) ?_
    intro a hE
    refine ev_run hE rfl rfl (by decide) (ex_ld (hE.get 84 rfl) ld_bool (cell_of_heap (v := .bool y.dflt) hya rfl)) ?_
    intro a hE
    refine ev_run hE rfl rfl (by decide) (ex_fa (hE.get 9 rfl) (fa_ia_6 _)) ?_
    intro a hE
    refine ev_run hE rfl rfl (by decide) (ex_ld (hE.get 86 rfl) ld_string (cell_of_heap (v := .string y.auto) hya rfl)) ?_
    intro a hE
    refine ev_run hE rfl rfl (by decide) (ex_fa (hE.get 9 rfl) (fa_ia_7 _)) ?_
    intro a hE
    refine ev_run hE rfl rfl (by decide) (ex_ld (hE.get 88 rfl) ld_string (cell_of_heap (v := .string ⟨#[]⟩) hya rfl)) ?_
    intro a hE
    refine ev_run hE rfl rfl (by decide) (ex_fa (hE.get 9 rfl) (fa_ia_8 _)) ?_
    intro a hE
    refine ev_run hE rfl rfl (by decide) (ex_ld (hE.get 90 rfl) ld_string (cell_of_heap (v := .string ⟨#[]⟩) hya rfl)) ?_
    intro a hE
    refine ev_run hE rfl rfl (by decide) (ex_fa (hE.get 9 rfl) (fa_ia_9 _)) ?_
    intro a hE
    refine ev_run hE rfl rfl (by decide) (ex_ld (hE.get 92 rfl) ld_string (cell_of_heap (v := .string ⟨#[]⟩) hya rfl)) ?_
    intro a hE
    refine ev_run (v := .agg y.mcells) (w' := w5) hE rfl rfl (by decide) ?_ ?_
    · simp only [execOp, List.map_toArray, List.map_cons, List.map_nil, hE.get 75 rfl, hE.get 77 rfl, hE.get 79 rfl, hE.get 81 rfl, hE.get 83 rfl, hE.get 85 rfl, hE.get 87 rfl, hE.get 89 rfl, hE.get 91 rfl, hE.get 93 rfl]
      unfold At.mcells
      go_simp
    intro a hE
    refine ev_box hE (hE.get 94 rfl) (bx_ma y) (by decide) ?_
    intro a w6 hE hma hb6 _
    have hT6 := hT5.next hb6
    have hma2 : w6.heap[w5.heap.size]? = some (.cells y.mcells 65 (0, 0)) := hma
    have hgn : ∀ g, s.ownBlock = some g → g ≠ w5.heap.size := fun g hg e => by have := (hT5.own.block_lt g hg).2; omega
    generalize hgm : w5.heap.size = gm at hE hma hma2 hgn
    refine ev_push (fl := vptr) (y := gm) 60 Tryd.underlying60 i0 _ 8 hi hz0 hz1 hz2 (by rfl) (by decide) (fun _ => rfl) (by intro x u hu; obtain rfl := List.mem_singleton.1 hu; rfl) hE ?_ (hE.get 73 rfl) (by decide) (by decide) (by decide) hT6.own hT6.le (by omega) (by omega) ?_
    · simp only [execOp, List.map_toArray, List.map_cons, List.map_nil, hE.get 95 rfl]
      go_simp
    intro a s' w7 hown7 hon7 _ hE
    have hlt : ∀ {g : Nat} {ob : Obj}, w6.heap[g]? = some ob → g < w6.heap.size := fun h => (Array.getElem?_eq_some_iff.1 h).1
    have kp7 : ∀ {g : Nat} {cs : Array Value} {t : TypeId}, w6.heap[g]? = some (.cells cs t (0, 0)) → 63 ≠ t → w7.heap[g]? = some (.cells cs t (0, 0)) := fun h ht => (hon7.block _ (hlt h) (fun hv => hT6.own.ne_blk h ht hv)).trans h
    have hbox7 := kp7 hT6.box (by decide)
    have hsrc7 := hT6.src.only hon7 (fun g hg hg2 => hT6.own.ne_ hT6.src (by decide) g hg2 hg)
    have hb7 : Below Bk w6 w7 := hon7.below hT6.le fun g hg hv => by have := (hT6.own.block_lt g hv).1; omega
    obtain ⟨A7, c7, hs7, _⟩ := hown7.shape
    refine ev_fa hE (hE.get 7 rfl) (fa_vq_14 _) (by decide) ?_
    intro a hE
    refine ev_sc (v := s') hE (by rw [hs7]; exact st_slice _ Tryd.sizeOf60 _ _ _) (hE.get 98 rfl) (hE.get 97 rfl) hbox7 (show 14 < 15 from by decide) ?_
    intro w8 hbox8 ho8
    refine wpList_nil ?_
    have kp8 : ∀ {g : Nat} {cs : Array Value} {t : TypeId}, w7.heap[g]? = some (.cells cs t (0, 0)) → t ≠ 62 → w8.heap[g]? = some (.cells cs t (0, 0)) := fun {g cs t} h ht => hp_only h ho8 (fun e => by
      subst e
      rw [hbox7] at h
      injection h with h
      injection h with _ h2 _
      exact ht h2.symm)
    have hb8 : Below Bk w7 w8 := only_bel ho8 (Nat.le_trans hT6.le hb7.size) h7
    show Q' .normal a w8
    refine hQ' _ a w8 ?_ (hE.pick ?_) ⟨rfl, s', gs ++ [gm], ?_⟩
    · rfl
    · rfl
    · refine ⟨by simp [hgl], fun h => by simp at h, hown7.only ho8 (fun g hg e => by subst e; exact hown7.ne_blk hbox7 (by decide) hg), hbox8, hsrc7.only ho8 (fun g hg e => by subst e; exact hsrc7.ne_blk hbox7 (by decide) hg), ?_, hT6.below.trans (hb7.trans hb8), Nat.le_trans hT6.le (Nat.le_trans hb7.size hb8.size)⟩
      intro i ga y' h1 h2
      by_cases hik : i < k
      · rw [List.getElem?_append_left (by omega)] at h1
        exact kp8 (kp7 (hT6.al i ga y' h1 h2) (by decide)) (by decide)
      · have hik2 : i = k := by
          have := (List.getElem?_eq_some_iff.1 h1).1
          simp at this
          omega
        subst hik2
        rw [hy] at h2
        obtain rfl := Option.some.inj h2
        rw [List.getElem?_append_right (by omega), hgl, Nat.sub_self] at h1
        obtain rfl := Option.some.inj h1
        exact kp8 (kp7 hma2 (by decide)) (by decide)
  · rintro l a wr hE ⟨rfl, s, gs, hT⟩
    exact hQ a wr s gs (hE.pick rfl) hT
/-- The renditions behind the loop. -/
theorem Wa.alts {B Bk g7 : Nat} {v : Vt} {fr : Bool} {sA : Value} {ys : List At} {w0 w : World} {s : Value} {gs : List Nat} (h : Wa B Bk g7 v fr sA ys w0 ys.length s gs w) : AltsAt w s ys := by
  by_cases hg : gs = []
  · have hl := h.len
    rw [hg] at hl
    exact .inl ⟨List.eq_nil_of_length_eq_zero hl.symm, h.nil hg⟩
  · obtain ⟨g, cap, cur, hs, _, hh, _, ht⟩ := h.own.form hg
    refine .inr ⟨gs, h.len, ⟨g, cap, cur, hs, hh, fun i x hx => ?_⟩, h.al⟩
    have hlt := (List.getElem?_eq_some_iff.1 hx).1
    have h2 : (cur.toList.take (gs.length * 1))[i]? = some (pt x 0) := by
      rw [ht]
      have := flat_get (f := vptr) (k := 1) (fun _ => rfl) Nat.one_pos gs i
      rw [this, Nat.div_one, hx, Nat.mod_one]
      rfl
    rw [List.getElem?_take_of_lt (by omega)] at h2
    simpa using h2
end Go.Proofs.YtkddkmiomhadaaaDoor
