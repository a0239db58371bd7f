/- The walk of laws.toMaster, its inner loop. -/
import Derived.Test.YtkddkmiomhadaaaDoorTom
namespace Go.Proofs.YtkddkmiomhadaaaDoor
open Go.RowKit
theorem info_ia : (Tryd.prog.info? 56).map (fun i => (i.zero, i.size, i.bytes)) = some (some (.agg #[.string ⟨#[]⟩, .string ⟨#[]⟩, .string ⟨#[]⟩, .string ⟨#[]⟩, .string ⟨#[]⟩, .bool false, .string ⟨#[]⟩, .string ⟨#[]⟩, .string ⟨#[]⟩, .string ⟨#[]⟩]), 10, 152) := by kernel_rfl
theorem info_iv : (Tryd.prog.info? 53).map (fun i => (i.zero, i.size, i.bytes)) = some (some (.agg ivZero), 16, 216) := by kernel_rfl
def At.mlist (y : At) : List Value := y.mcells.toList
abbrev Xv := Vt × Bool × Value
/-- An impl.Variant's cells; the slice of renditions is told. -/
def ivl (x : Xv) : List Value := (x.1.icells x.2.1 (if x.2.2.oneCell' = true then x.2.2 else .slice none 0 0)).toList
theorem mlist_one : ∀ (y : At), ∀ u ∈ y.mlist, u.oneCell' = true := by
  intro y u hu
  unfold At.mlist At.mcells at hu
  simp only [List.mem_cons, List.not_mem_nil, or_false] at hu
  rcases hu with rfl | rfl | rfl | rfl | rfl | rfl | rfl | rfl | rfl | rfl <;> rfl
theorem ivl_one : ∀ (x : Xv), ∀ u ∈ ivl x, u.oneCell' = true := by
  intro x u hu
  unfold ivl Vt.icells at hu
  simp only [List.mem_cons, List.not_mem_nil, or_false] at hu
  rcases hu with rfl | rfl | rfl | rfl | rfl | rfl | rfl | rfl | rfl | rfl | rfl | rfl | rfl | rfl | rfl | rfl
  all_goals first | rfl | (split <;> first | assumption | rfl)
theorem icells_one (v : Vt) (fr : Bool) (sl : Value) (h : sl.oneCell' = true) : ∀ u ∈ (v.icells fr sl).toList, u.oneCell' = true := by
  intro u hu
  unfold Vt.icells at hu
  simp only [List.mem_cons, List.not_mem_nil, or_false] at hu
  rcases hu with rfl | rfl | rfl | rfl | rfl | rfl | rfl | rfl | rfl | rfl | rfl | rfl | rfl | rfl | rfl | rfl
  all_goals first | rfl | exact h
theorem Own.one {α : Type} {f : α → List Value} {e : TypeId} {k : Nat} {w : World} {B : Nat} {v : Value} {L : List α} (h : Own f e k w B v L) : v.oneCell' = true := by
  obtain ⟨A, cap, rfl, _⟩ := h.shape; rfl
theorem st_slice (T : Nat) (hz : ∀ w, (sizeOf T).run Tryd.prog w = .ok 1 w) (p : Option Addr) (n c : Nat) : St T (.slice p n c) := by
  intro w q u hc hf
  simp only [Instr.storeAt, Instr.sureAddr]
  go_simp
/-- Between two rounds of the renditions. -/
structure Tr2 (B Bk g7 g8 b2 : Nat) (ms : Array Value) (v : Vt) (fr : Bool) (sO : Value) (ys : List At) (w0 : World) (k : Nat) (s : Value) (w : World) : Prop where
  own : Own At.mlist 56 10 w Bk s (ys.take k)
  box : w.heap[g8]? = some (.cells (v.icells fr s) 53 (0, 0))
  of : Own At.list 46 7 w B sO ys
  below : Below Bk w0 w
  le : Bk ≤ w.heap.size
set_option maxRecDepth 100000 in
set_option maxHeartbeats 8000000 in
/-- A variant's renditions as data. -/
theorem tom_alts {Q : Exit → Act → World → Prop} {a : Act} {w : World} {s1 sO k6 i19 n18 sV : Value} {b2 b4 b5 g7 g8 Bk B : Nat} {ms : Array Value} {v : Vt} {fr : Bool} (ys : List At) (hys : ys.length ≤ 1000) (hT : Tr2 B Bk g7 g8 b2 ms v fr sO ys w 0 (.slice none 0 0) w) (h8 : Bk ≤ g8)
    (hE : Ev 92 ((59, .int .i64 (0 : Nat)) :: (58, .int .i64 ys.length) :: (1, s1) :: (2, pt b2 0) :: (4, pt b4 0) :: (5, pt b5 0) :: (6, k6) :: (7, pt g7 0) :: (8, pt g8 0) :: (17, sV) :: (18, n18) :: (19, i19) :: (57, sO) :: []) a) (hQ : ∀ a' w' s', Ev 92 ((1, s1) :: (2, pt b2 0) :: (4, pt b4 0) :: (5, pt b5 0) :: (7, pt g7 0) :: (8, pt g8 0) :: (17, sV) :: (18, n18) :: (19, i19) :: []) a' → Own At.mlist 56 10 w' Bk s' ys → w'.heap[g8]? = some (.cells (v.icells fr s') 53 (0, 0)) → Below Bk w w' → Q .normal a' w') :
    Code.wp Tryd.prog (cB (cA (cB (cB (cA (cA (cB (cB (cA (cA (cB (cA (cB (cB tomBody)))))))))))))) Q a w := by
  obtain ⟨i0, hi, hz0, hz1, hz2⟩ := info_parts info_ia
  refine range_wp2 (N := 92) (n := ys.length) [1, 2, 4, 5, 6, 7, 8, 17, 18, 19, 57] (l0 := ((1, s1) :: (2, pt b2 0) :: (4, pt b4 0) :: (5, pt b5 0) :: (6, k6) :: (7, pt g7 0) :: (8, pt g8 0) :: (17, sV) :: (18, n18) :: (19, i19) :: (57, sO) :: [])) (fun k l wr => l = ((1, s1) :: (2, pt b2 0) :: (4, pt b4 0) :: (5, pt b5 0) :: (6, k6) :: (7, pt g7 0) :: (8, pt g8 0) :: (17, sV) :: (18, n18) :: (19, i19) :: (57, sO) :: []) ∧ ∃ s, Tr2 B Bk g7 g8 b2 ms v fr sO ys w k s wr) (by omega) hE rfl ⟨rfl, _, hT⟩ (by decide) (by decide) (by decide) ?_ ?_
  · rintro k l a wr hk hE ⟨rfl, s, hT⟩ Q' hQ'
    obtain ⟨y, hy⟩ : ∃ y, ys[k]? = some y := ⟨_, List.getElem?_eq_getElem hk⟩
    have htk : (ys.take k).length ≤ k := by rw [List.length_take]; omega
    refine wp_block ?_
    refine wp_seq ?_
    refine wp_region_lit ?_
    refine ev_elem ag_sa Tryd.underlying24 (fun _ => rfl) (by decide) hE hT.of hy (hE.get 57 rfl) (hE.get 59 rfl) (by decide) (by decide) ?_ rfl (by decide)
    intro a hE
    refine ev_al hE al_sa (by decide) ?_
    intro a w4 hE hga hbl4 _
    refine ev_sb (cs := y.cells) hE ag_sa (hE.get 10 rfl) (hE.get 62 rfl) hga rfl rfl (at_one y) ?_
    intro w5 hya ho5
    refine wpList_nil ?_
    have hbr : Below wr.heap.size wr w5 := hbl4.trans (only_bel ho5 hbl4.size (Nat.le_refl _))
    have hle5 := Nat.le_trans hT.le hbr.size
    have hown5 := hT.own.below hbr
    have hbox5 := hp_below hT.box hbr
    have hof5 := hT.of.below hbr
    have hbw5 := hT.below.trans (hbr.mono hT.le)
    have hE : Ev 92 ((10, pt wr.heap.size 0) :: (59, .int .i64 k) :: (58, .int .i64 ys.length) :: (1, s1) :: (2, pt b2 0) :: (4, pt b4 0) :: (5, pt b5 0) :: (6, k6) :: (7, pt g7 0) :: (8, pt g8 0) :: (17, sV) :: (18, n18) :: (19, i19) :: (57, sO) :: []) a := hE.pick rfl
    generalize wr.heap.size = ga at *
    clear hga hbl4 ho5 hbr
    show Code.wp _ _ _ _ _
    refine wp_region_lit ?_
    refine ev_run hE rfl rfl (by decide) (ex_fa (hE.get 8 rfl) (fa_iv_15 _)) ?_
    intro a hE
    refine ev_run hE rfl rfl (by decide) (ex_ld (hE.get 63 rfl) ld_ialts (cell_of_heap (v := s) hbox5 rfl)) ?_
    intro a hE
    refine ev_run hE rfl rfl (by decide) (ex_fa (hE.get 10 rfl) (fa_sa_0 _)) ?_
    intro a hE
    refine ev_run hE rfl rfl (by decide) (ex_ld (hE.get 65 rfl) ld_string (cell_of_heap (v := .string y.typ) hya rfl)) ?_
    intro a hE
    refine ev_run hE rfl rfl (by decide) (ex_fa (hE.get 10 rfl) (fa_sa_1 _)) ?_
    intro a hE
    refine ev_run hE rfl rfl (by decide) (ex_ld (hE.get 67 rfl) ld_string (cell_of_heap (v := .string y.grp) hya rfl)) ?_
    intro a hE
    refine ev_run hE rfl rfl (by decide) (ex_fa (hE.get 10 rfl) (fa_sa_2 _)) ?_
    intro a hE
    refine ev_run hE rfl rfl (by decide) (ex_ld (hE.get 69 rfl) ld_string (cell_of_heap (v := .string y.name) hya rfl)) ?_
    intro a hE
    refine ev_run hE rfl rfl (by decide) (ex_fa (hE.get 10 rfl) (fa_sa_3 _)) ?_
    intro a hE
    refine ev_run hE rfl rfl (by decide) (ex_ld (hE.get 71 rfl) ld_bool (cell_of_heap (v := .bool y.dflt) hya rfl)) ?_
    intro a hE
    refine ev_run hE rfl rfl (by decide) (ex_fa (hE.get 10 rfl) (fa_sa_4 _)) ?_
    intro a hE
    refine ev_run hE rfl rfl (by decide) (ex_ld (hE.get 73 rfl) ld_string (cell_of_heap (v := .string y.auto) hya rfl)) ?_
    intro a hE
    refine ev_run hE rfl rfl (by decide) (ex_fa (hE.get 10 rfl) (fa_sa_5 _)) ?_
    intro a hE
    refine ev_run hE rfl rfl (by decide) (ex_ld (hE.get 75 rfl) ld_string (cell_of_heap (v := .string y.lang) hya rfl)) ?_
    intro a hE
    refine ev_run hE rfl rfl (by decide) (ex_fa (hE.get 10 rfl) (fa_sa_6 _)) ?_
    intro a hE
    refine ev_run hE rfl rfl (by decide) (ex_ld (hE.get 77 rfl) ld_string (cell_of_heap (v := .string y.uri) hya rfl)) ?_
    intro a hE
    have e64 := hE.get 64 rfl
    refine ev_run (v := .agg y.mcells) (w' := w5) hE rfl rfl (by decide) ?_ ?_
    · simp only [execOp, List.map_toArray, List.map_cons, List.map_nil, hE.get 66 rfl, hE.get 68 rfl, hE.get 70 rfl, hE.get 72 rfl, hE.get 74 rfl, hE.get 76 rfl, hE.get 78 rfl]
      unfold At.mcells
      go_simp
    intro a hE
    refine ev_push 51 Tryd.underlying51 i0 _ 152 hi hz0 hz1 hz2 (by rfl) (by decide) (fun _ => rfl) mlist_one y hE ?_ (hE.get 64 rfl) (by decide) (by decide) (by decide) hown5 hle5 (by omega) (by omega) ?_
    · simp only [execOp, List.map_toArray, List.map_cons, List.map_nil, hE.get 79 rfl]
      unfold At.mlist At.mcells
      go_simp
    intro a s' w6 hown6 hon6 _ hE
    have hbox6 : w6.heap[g8]? = some (.cells (v.icells fr s) 53 (0, 0)) := (hon6.block _ (Array.getElem?_eq_some_iff.1 hbox5).1 (fun hv => hown5.ne_blk hbox5 (by decide) hv)).trans hbox5
    have hof6 := hof5.only hon6 (fun g hg hg2 => hown5.ne_ hof5 (by decide) g hg2 hg)
    have hb6 : Below Bk w5 w6 := hon6.below hle5 fun g hg hv => by have := (hown5.block_lt g hv).1; omega
    obtain ⟨A6, c6, hs6, _⟩ := hown6.shape
    refine ev_fa hE (hE.get 8 rfl) (fa_iv_15 _) (by decide) ?_
    intro a hE
    refine ev_sc (v := s') hE (by rw [hs6]; exact st_slice _ Tryd.sizeOf51 _ _ _) (hE.get 82 rfl) (hE.get 81 rfl) hbox6 (show 15 < 16 from by decide) ?_
    intro w7 hbox7 ho7
    refine wpList_nil ?_
    have hne78 : ∀ g, s'.ownBlock = some g → g ≠ g8 := fun g hg e => by
      subst e
      exact hown6.ne_blk hbox6 (by decide) hg
    have hb7 : Below Bk w6 w7 := only_bel ho7 (Nat.le_trans hle5 hb6.size) h8
    show Q' .normal a w7
    refine hQ' _ a w7 ?_ (hE.pick ?_) ⟨rfl, s', ?_⟩
    · rfl
    · rfl
    · refine ⟨?_, hbox7, hof6.only ho7 (fun g hg e => by subst e; exact hof6.ne_blk hbox6 (by decide) hg), hbw5.trans (hb6.trans hb7), Nat.le_trans hle5 (Nat.le_trans hb6.size hb7.size)⟩
      rw [take_app hy]
      exact hown6.only ho7 (fun g hg e => hne78 g hg e)
  · rintro l a wr hE ⟨rfl, s, hT⟩
    have hown := hT.own
    rw [List.take_length] at hown
    exact hQ a wr s (hE.pick rfl) hown hT.box hT.below
end Go.Proofs.YtkddkmiomhadaaaDoor
