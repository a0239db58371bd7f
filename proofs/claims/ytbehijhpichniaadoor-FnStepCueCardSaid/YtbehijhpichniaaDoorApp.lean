/- The walk of (*MediaPlaylist).AppendSegment, where there is room. -/
import Derived.Test.YtbehijhpichniaaDoorPl
import Derived.StillTailTactics
namespace Go.Proofs.YtbehijhpichniaaDoor
open Go.RowKit
theorem slots_get {L : List Nat} {i : Nat} (h : i < L.length) : (slots L)[i]? = some (.pointer (some ⟨L[i]'h, 0, none⟩)) := by
  unfold slots
  rw [List.getElem?_toArray, List.getElem?_append_left (by simpa using h), List.getElem?_map, List.getElem?_eq_getElem h]
  rfl
theorem slots_none {L : List Nat} {i : Nat} (h : L.length ≤ i) (h2 : i < 12) : (slots L)[i]? = some (.pointer none) := by
  unfold slots
  rw [List.getElem?_toArray, List.getElem?_append_right (by simpa using h), List.getElem?_replicate]
  simp only [List.length_map]
  rw [if_pos (by omega)]
theorem slots_set {L : List Nat} {g : Nat} (h : L.length < 12) : (slots L).setIfInBounds L.length (.pointer (some ⟨g, 0, none⟩)) = slots (L ++ [g]) := by
  apply Array.toList_inj.1
  unfold slots
  simp only [Array.toList_setIfInBounds, List.map_append, List.map_cons, List.map_nil, List.length_append, List.length_cons, List.length_nil]
  rw [List.set_append_right _ _ (by simp)]
  simp only [List.length_map, Nat.sub_self]
  rw [show 12 - L.length = (12 - (L.length + 1)) + 1 by omega, List.replicate_succ, List.set_cons_zero]
  simp
/-- The three blocks that an append writes. -/
structure Ap (w0 : World) (P SB g : Nat) (cP cB cG : Array Value) (wx : World) : Prop where
  hp : wx.heap[P]? = some (.cells cP 74 (0, 0))
  hb : wx.heap[SB]? = some (.cells cB 60 (0, 0))
  hg : wx.heap[g]? = some (.cells cG 65 (0, 0))
  only : Only (fun i => i = P ∨ i = SB ∨ i = g) w0 wx
section
variable {w0 : World} {P SB g : Nat} {cP cB cG : Array Value} {wx : World}
theorem Ap.ne (h : Ap w0 P SB g cP cB cG wx) : P ≠ SB ∧ P ≠ g ∧ SB ≠ g := by
  refine ⟨?_, ?_, ?_⟩
  · intro e; have := h.hp; rw [e, h.hb] at this; injection this with this; injection this with _ h2 _; exact absurd h2 (by decide)
  · intro e; have := h.hp; rw [e, h.hg] at this; injection this with this; injection this with _ h2 _; exact absurd h2 (by decide)
  · intro e; have := h.hb; rw [e, h.hg] at this; injection this with this; injection this with _ h2 _; exact absurd h2 (by decide)
theorem Ap.step (h : Ap w0 P SB g cP cB cG wx) {p : Addr} (hp : p.block = P ∨ p.block = SB ∨ p.block = g) (v : Value) : Only (fun i => i = P ∨ i = SB ∨ i = g) w0 (wx.setCell p v) :=
  (h.only.trans (Only.of_setCell wx p v)).mono fun i _ hi => hi.elim (fun x => x) (fun e => by rw [e]; exact hp)
theorem Ap.setP (h : Ap w0 P SB g cP cB cG wx) (i : Nat) (v : Value) {cP' : Array Value} (e : cP.setIfInBounds i v = cP') : Ap w0 P SB g cP' cB cG (wx.setCell ⟨P, i, none⟩ v) := by
  obtain ⟨h1, h2, h3⟩ := h.ne
  exact ⟨by rw [heap_setCell_same h.hp, e], (Below.heap_setCell _ _ _ _ (fun e => h1 e.symm)).trans h.hb, (Below.heap_setCell _ _ _ _ (fun e => h2 e.symm)).trans h.hg, h.step (p := ⟨P, i, none⟩) (.inl rfl) v⟩
theorem Ap.setB (h : Ap w0 P SB g cP cB cG wx) (i : Nat) (v : Value) {cB' : Array Value} (e : cB.setIfInBounds i v = cB') : Ap w0 P SB g cP cB' cG (wx.setCell ⟨SB, i, none⟩ v) := by
  obtain ⟨h1, h2, h3⟩ := h.ne
  exact ⟨(Below.heap_setCell _ _ _ _ h1).trans h.hp, by rw [heap_setCell_same h.hb, e], (Below.heap_setCell _ _ _ _ (fun e => h3 e.symm)).trans h.hg, h.step (p := ⟨SB, i, none⟩) (.inr (.inl rfl)) v⟩
theorem Ap.setG (h : Ap w0 P SB g cP cB cG wx) (i : Nat) (v : Value) {cG' : Array Value} (e : cG.setIfInBounds i v = cG') : Ap w0 P SB g cP cB cG' (wx.setCell ⟨g, i, none⟩ v) := by
  obtain ⟨h1, h2, h3⟩ := h.ne
  exact ⟨(Below.heap_setCell _ _ _ _ h2).trans h.hp, (Below.heap_setCell _ _ _ _ h3).trans h.hb, by rw [heap_setCell_same h.hg, e], h.step (p := ⟨g, i, none⟩) (.inr (.inr rfl)) v⟩
theorem Ap.drewN (h : Ap w0 P SB g cP cB cG wx) (n : Nat) : Ap w0 P SB g cP cB cG (wx.drewN n) := ⟨h.hp, h.hb, h.hg, ⟨h.only.os, h.only.tape, h.only.output, h.only.size, h.only.block⟩⟩
theorem Ap.drew (h : Ap w0 P SB g cP cB cG wx) : Ap w0 P SB g cP cB cG wx.drew := ⟨h.hp, h.hb, h.hg, ⟨h.only.os, h.only.tape, h.only.output, h.only.size, h.only.block⟩⟩
end
def AppPost (B : Nat) (s : Pl) (x : Sg) (w : World) (e : Ending) (w' : World) : Prop := e = .returned .nilIface ∧ PlAt B ⟨s.P, s.SB, 4607182418800017408, s.ifr, s.ver, s.segs ++ [x]⟩ w' ∧ Only (fun i => i = s.P ∨ i = s.SB ∨ i = x.g) w w'
def AppEnd (w : World) (P SB ver : Nat) (ifr : Bool) (gs : List Nat) (x : Sg) (e : Ending) (w' : World) : Prop := e = .returned .nilIface ∧ Ap w P SB x.g (plc 4607182418800017408 SB ifr (gs.length + 1) (gs.length + 1) ver) (slots (gs ++ [x.g])) (x.cells gs.length) w'
set_option maxRecDepth 100000 in
set_option maxHeartbeats 8000000 in
theorem append_raw (w : World) (P SB tgt ver : Nat) (ifr : Bool) (gs : List Nat) (x : Sg) (hA : Ap w P SB x.g (plc tgt SB ifr gs.length gs.length ver) (slots gs) (x.cells 0) w) (hl : gs.length ≤ 10) (ht : tgt = 0 ∨ tgt = 4607182418800017408)
    (hprev : ∀ d, gs.length = d + 1 → ∃ g' cs, gs[d]? = some g' ∧ g' ≠ x.g ∧ w.heap[g']? = some (.cells cs 65 (0, 0)) ∧ cs[0]? = some (.int .u64 d)) :
    Calls Tryd.prog 16 #[.pointer (some ⟨P, 0, none⟩), .pointer (some ⟨x.g, 0, none⟩)] w (AppEnd w P SB ver ifr gs x) := by
  obtain ⟨n1, n2, n3⟩ := hA.ne
  have c14 : w.cell? ⟨P, 14, none⟩ = some (.int .u64 0) := cell_of_heap hA.hp rfl
  have c15 : w.cell? ⟨P, 15, none⟩ = some (.int .u64 gs.length) := cell_of_heap hA.hp rfl
  have c16 : w.cell? ⟨P, 16, none⟩ = some (.int .u64 gs.length) := cell_of_heap hA.hp rfl
  have c1 : w.cell? ⟨P, 1, none⟩ = some (.int .u64 0) := cell_of_heap hA.hp rfl
  have g0 : w.cell? ⟨x.g, 0, none⟩ = some (.int .u64 0) := cell_of_heap hA.hg rfl
  have gf : w.frozen? ⟨x.g, 0, none⟩ = false := frozen_of_heap hA.hg rfl
  rcases Nat.eq_zero_or_pos gs.length with hc | hc
  · clear hprev
    go_enter Tryd.func16, Tryd.ntmps16
    go_upto_region 1 with fail
    go_quiet (fail)
    go_upto_region 4 with fail
    have hA3 := (hA.drewN nq).setG 0 (.int .u64 0) (cG' := x.cells gs.length) (by rw [hc]; rfl)
    clear c14 c15 c16 c1 g0 gf
    generalize (w.drewN nq).setCell ⟨x.g, 0, none⟩ (.int .u64 0) = w5 at *
    rename Ap w P SB x.g _ _ (x.cells gs.length) w5 => hA5
    have c16 : w5.cell? ⟨P, 16, none⟩ = some (.int .u64 gs.length) := cell_of_heap hA5.hp rfl
    have d5 : ((0 : Int) < gs.length) = False := by rw [hc]; simp
    go_upto_region 6 with fail
    clear hc d5
    clear c16
    have c2 : w5.cell? ⟨P, 2, none⟩ = some (.slice (some ⟨SB, 0, none⟩) 12 12) := cell_of_heap hA5.hp rfl
    have c15 : w5.cell? ⟨P, 15, none⟩ = some (.int .u64 gs.length) := cell_of_heap hA5.hp rfl
    have b0 : w5.cell? ⟨SB, gs.length, none⟩ = some (.pointer none) := cell_of_heap hA5.hb (slots_none (Nat.le_refl _) (by omega))
    have bf : w5.frozen? ⟨SB, gs.length, none⟩ = false := frozen_of_heap hA5.hb (slots_none (Nat.le_refl _) (by omega))
    have hlt12 : (gs.length : Int) < 12 := by omega
    go_still_tail 10, (by kernel_rfl)
    change wpList _ _ _ _ _ w5.drew
    have hA6 := hA5.drew
    clear hA5 b0 bf c2 c15
    generalize w5.drew = w6 at *
    have b0 : w6.cell? ⟨SB, gs.length, none⟩ = some (.pointer none) := cell_of_heap hA6.hb (slots_none (Nat.le_refl _) (by omega))
    have bf : w6.frozen? ⟨SB, gs.length, none⟩ = false := frozen_of_heap hA6.hb (slots_none (Nat.le_refl _) (by omega))
    go_upto_region 7 with fail
    have hA7 := hA6.setB gs.length (.pointer (some ⟨x.g, 0, none⟩)) (slots_set (by omega))
    clear hA6 b0 bf
    generalize w6.setCell ⟨SB, gs.length, none⟩ (.pointer (some ⟨x.g, 0, none⟩)) = w7 at *
    have c13 : w7.cell? ⟨P, 13, none⟩ = some (.int .u64 12) := cell_of_heap hA7.hp rfl
    have c15 : w7.cell? ⟨P, 15, none⟩ = some (.int .u64 gs.length) := cell_of_heap hA7.hp rfl
    have hm : ((gs.length : Int) + 1) % 12 = gs.length + 1 := by omega
    have hm2 : ((gs.length : Int) + 1).tmod 12 = gs.length + 1 := by rw [Int.tmod_eq_emod_of_nonneg (by omega)]; omega
    go_still_tail 13, (by kernel_rfl)
    change wpList _ _ _ _ _ w7.drew
    have hA8 := hA7.drew
    clear hA7 c13 c15
    generalize w7.drew = w8 at *
    have c15 : w8.cell? ⟨P, 15, none⟩ = some (.int .u64 gs.length) := cell_of_heap hA8.hp rfl
    have f15 : w8.frozen? ⟨P, 15, none⟩ = false := frozen_of_heap hA8.hp (i := 15) rfl
    go_upto_region 8 with fail
    have hA9 := hA8.setP 15 (.int .u64 (((gs.length : Int) + 1) % 12)) (cP' := plc tgt SB ifr (gs.length + 1) gs.length ver) (by rw [hm]; rfl)
    clear hA8 c15 f15 hm hm2
    generalize w8.setCell ⟨P, 15, none⟩ (.int .u64 (((gs.length : Int) + 1) % 12)) = w9 at *
    have c16 : w9.cell? ⟨P, 16, none⟩ = some (.int .u64 gs.length) := cell_of_heap hA9.hp rfl
    have f16 : w9.frozen? ⟨P, 16, none⟩ = false := frozen_of_heap hA9.hp (i := 16) rfl
    go_upto_region 9 with fail
    have hA10 := hA9.setP 16 (.int .u64 ((gs.length + 1 : Nat) : Int)) (cP' := plc tgt SB ifr (gs.length + 1) (gs.length + 1) ver) rfl
    clear hA9 c16 f16
    rw [Int.natCast_add, show ((1 : Nat) : Int) = 1 from rfl] at hA10
    generalize w9.setCell ⟨P, 16, none⟩ (.int .u64 ((gs.length : Int) + 1)) = w10 at *
    have c0 : w10.cell? ⟨P, 0, none⟩ = some (.float .f64 tgt) := cell_of_heap hA10.hp rfl
    have g3 : w10.cell? ⟨x.g, 3, none⟩ = some (.float .f64 4607182418800017408) := cell_of_heap hA10.hg rfl
    go_quiet (fail)
    rcases ht with rfl | rfl
    · have hB10 := hA10.drewN nq
      clear c0 g3 hA10
      generalize w10.drewN nq = v10 at *
      have g3 : v10.cell? ⟨x.g, 3, none⟩ = some (.float .f64 4607182418800017408) := cell_of_heap hB10.hg rfl
      have c0 : v10.cell? ⟨P, 0, none⟩ = some (.float .f64 0) := cell_of_heap hB10.hp rfl
      have f0 : v10.frozen? ⟨P, 0, none⟩ = false := frozen_of_heap hB10.hp (i := 0) rfl
      have hst : (store ⟨P, 0, none⟩ (.float .f64 4607182418800017408)).run Tryd.prog v10 = .ok () (v10.setCell ⟨P, 0, none⟩ (.float .f64 4607182418800017408)) := by rw [run_store _ _ _ _ _ rfl]; simp [stored, c0, f0]
      go_upto_region 11 with (go_at_call 40; refine (ceil_one _).mono ?_; rintro e w' ⟨rfl, hw⟩; rw [hw]; clear hw)
      have hA11 := hB10.setP 0 (.float .f64 4607182418800017408) (cP' := plc 4607182418800017408 SB ifr (gs.length + 1) (gs.length + 1) ver) rfl
      clear hB10 g3 c0 f0
      generalize v10.setCell ⟨P, 0, none⟩ (.float .f64 4607182418800017408) = w11 at *
      have r0 : w11.cell? ⟨P, 17, none⟩ = some (.slice none 0 0) := cell_of_heap hA11.hp rfl
      have r1 : w11.cell? ⟨P, 18, none⟩ = some (.int .i64 0) := cell_of_heap hA11.hp rfl
      have r2 : w11.cell? ⟨P, 19, none⟩ = some (.int .i8 0) := cell_of_heap hA11.hp rfl
      have q0 : w11.frozen? ⟨P, 17, none⟩ = false := frozen_of_heap hA11.hp (i := 17) rfl
      have q1 : w11.frozen? ⟨P, 18, none⟩ = false := frozen_of_heap hA11.hp (i := 18) rfl
      have q2 : w11.frozen? ⟨P, 19, none⟩ = false := frozen_of_heap hA11.hp (i := 19) rfl
      have hend := ((hA11.setP 17 (.slice none 0 0) rfl).setP 18 (.int .i64 0) rfl).setP 19 (.int .i8 0) (cP' := plc 4607182418800017408 SB ifr (gs.length + 1) (gs.length + 1) ver) rfl
      go_wp2_with (go_at_call 41; refine (reset_any _ P r0 r1 r2 q0 q1 q2).mono ?_; rintro e w' ⟨rfl, rfl⟩)
      go_ret
      exact ⟨rfl, hend⟩
    · have hA11 := hA10.drewN nq
      clear c0 g3 hA10
      go_upto_region 11 with fail
      generalize w10.drewN nq = w11 at *
      have r0 : w11.cell? ⟨P, 17, none⟩ = some (.slice none 0 0) := cell_of_heap hA11.hp rfl
      have r1 : w11.cell? ⟨P, 18, none⟩ = some (.int .i64 0) := cell_of_heap hA11.hp rfl
      have r2 : w11.cell? ⟨P, 19, none⟩ = some (.int .i8 0) := cell_of_heap hA11.hp rfl
      have q0 : w11.frozen? ⟨P, 17, none⟩ = false := frozen_of_heap hA11.hp (i := 17) rfl
      have q1 : w11.frozen? ⟨P, 18, none⟩ = false := frozen_of_heap hA11.hp (i := 18) rfl
      have q2 : w11.frozen? ⟨P, 19, none⟩ = false := frozen_of_heap hA11.hp (i := 19) rfl
      have hend := ((hA11.setP 17 (.slice none 0 0) rfl).setP 18 (.int .i64 0) rfl).setP 19 (.int .i8 0) (cP' := plc 4607182418800017408 SB ifr (gs.length + 1) (gs.length + 1) ver) rfl
      go_wp2_with (go_at_call 41; refine (reset_any _ P r0 r1 r2 q0 q1 q2).mono ?_; rintro e w' ⟨rfl, rfl⟩)
      go_ret
      exact ⟨rfl, hend⟩
  · obtain ⟨d, hd⟩ : ∃ d, gs.length = d + 1 := ⟨gs.length - 1, by omega⟩
    obtain ⟨g', cs, h1, h2, h3, h4⟩ := hprev d hd
    clear hprev hc
    have hgl : ((gs.length : Nat) : Int) = (d : Int) + 1 := by omega
    rw [hgl] at c15 c16
    have e1 : ((0 : Int) == (d : Int) + 1) = false := by rw [beq_eq_false_iff_ne]; omega
    have hd12 : (d : Int) < 12 := by omega
    go_enter Tryd.func16, Tryd.ntmps16
    go_upto_region 1 with fail
    clear hgl
    go_quiet (fail)
    go_upto_region 4 with fail
    have hA3 := (hA.drewN nq).setG 0 (.int .u64 0) (cG' := x.cells 0) rfl
    have h3' : ((w.drewN nq).setCell ⟨x.g, 0, none⟩ (.int .u64 0)).heap[g']? = some (.cells cs 65 (0, 0)) := (Below.heap_setCell _ _ _ _ h2).trans h3
    clear c14 c15 c16 c1 g0 gf h3 hA e1
    generalize (w.drewN nq).setCell ⟨x.g, 0, none⟩ (.int .u64 0) = w4 at *
    have hgl : ((gs.length : Nat) : Int) = (d : Int) + 1 := by omega
    have k16 : w4.cell? ⟨P, 16, none⟩ = some (.int .u64 ((d : Int) + 1)) := by rw [← hgl]; exact cell_of_heap hA3.hp rfl
    have k15 : w4.cell? ⟨P, 15, none⟩ = some (.int .u64 ((d : Int) + 1)) := by rw [← hgl]; exact cell_of_heap hA3.hp rfl
    have k13 : w4.cell? ⟨P, 13, none⟩ = some (.int .u64 12) := cell_of_heap hA3.hp rfl
    have k2 : w4.cell? ⟨P, 2, none⟩ = some (.slice (some ⟨SB, 0, none⟩) 12 12) := cell_of_heap hA3.hp rfl
    have kb : w4.cell? ⟨SB, d, none⟩ = some (.pointer (some ⟨g', 0, none⟩)) := by
      refine cell_of_heap hA3.hb ?_
      have hdl : d < gs.length := by omega
      rw [slots_get hdl]
      rw [List.getElem?_eq_getElem hdl] at h1
      rw [Option.some.inj h1]
    have kg : w4.cell? ⟨g', 0, none⟩ = some (.int .u64 d) := cell_of_heap h3' h4
    have hw1 : IntKind.u64.wrap (12 + ((d : Int) + 1)) = (d : Int) + 13 := by rw [IntKind.wrap_u64]; omega
    have hw2 : IntKind.u64.wrap ((d : Int) + 13 - 1) = (d : Int) + 12 := by rw [IntKind.wrap_u64]; omega
    have hw3 : ((d : Int) + 12) % 12 = d := by omega
    have hw4 : ((d : Int) + 12).tmod 12 = d := by rw [Int.tmod_eq_emod_of_nonneg (by omega)]; omega
    clear hgl h1 h2 h3' h4
    go_upto_region 5 with fail
    go_still_tail 28, (by kernel_rfl)
    change wpList _ _ _ _ _ w4.drew
    have hA4 := hA3.drew
    clear hw1 hw2 hw3 hw4 k16 k15 k13 k2 kb kg hA3
    generalize w4.drew = w4b at *
    have g0 : w4b.cell? ⟨x.g, 0, none⟩ = some (.int .u64 0) := cell_of_heap hA4.hg rfl
    have gf : w4b.frozen? ⟨x.g, 0, none⟩ = false := frozen_of_heap hA4.hg (i := 0) rfl
    trace_state
    go_upto_region 6 with fail
    have hA5 := hA4.setG 0 (.int .u64 ((d : Int) + 1)) (cG' := x.cells gs.length) (by rw [hd]; rfl)
    clear hA4 g0 gf hd hd12
    generalize w4b.setCell ⟨x.g, 0, none⟩ (.int .u64 ((d : Int) + 1)) = w5 at *
    have c2 : w5.cell? ⟨P, 2, none⟩ = some (.slice (some ⟨SB, 0, none⟩) 12 12) := cell_of_heap hA5.hp rfl
    have c15 : w5.cell? ⟨P, 15, none⟩ = some (.int .u64 gs.length) := cell_of_heap hA5.hp rfl
    have b0 : w5.cell? ⟨SB, gs.length, none⟩ = some (.pointer none) := cell_of_heap hA5.hb (slots_none (Nat.le_refl _) (by omega))
    have bf : w5.frozen? ⟨SB, gs.length, none⟩ = false := frozen_of_heap hA5.hb (slots_none (Nat.le_refl _) (by omega))
    have hlt12 : (gs.length : Int) < 12 := by omega
    go_still_tail 10, (by kernel_rfl)
    change wpList _ _ _ _ _ w5.drew
    have hA6 := hA5.drew
    clear hA5 b0 bf c2 c15
    generalize w5.drew = w6 at *
    have b0 : w6.cell? ⟨SB, gs.length, none⟩ = some (.pointer none) := cell_of_heap hA6.hb (slots_none (Nat.le_refl _) (by omega))
    have bf : w6.frozen? ⟨SB, gs.length, none⟩ = false := frozen_of_heap hA6.hb (slots_none (Nat.le_refl _) (by omega))
    go_upto_region 7 with fail
    have hA7 := hA6.setB gs.length (.pointer (some ⟨x.g, 0, none⟩)) (slots_set (by omega))
    clear hA6 b0 bf
    generalize w6.setCell ⟨SB, gs.length, none⟩ (.pointer (some ⟨x.g, 0, none⟩)) = w7 at *
    have c13 : w7.cell? ⟨P, 13, none⟩ = some (.int .u64 12) := cell_of_heap hA7.hp rfl
    have c15 : w7.cell? ⟨P, 15, none⟩ = some (.int .u64 gs.length) := cell_of_heap hA7.hp rfl
    have hm : ((gs.length : Int) + 1) % 12 = gs.length + 1 := by omega
    have hm2 : ((gs.length : Int) + 1).tmod 12 = gs.length + 1 := by rw [Int.tmod_eq_emod_of_nonneg (by omega)]; omega
    go_still_tail 13, (by kernel_rfl)
    change wpList _ _ _ _ _ w7.drew
    have hA8 := hA7.drew
    clear hA7 c13 c15
    generalize w7.drew = w8 at *
    have c15 : w8.cell? ⟨P, 15, none⟩ = some (.int .u64 gs.length) := cell_of_heap hA8.hp rfl
    have f15 : w8.frozen? ⟨P, 15, none⟩ = false := frozen_of_heap hA8.hp (i := 15) rfl
    go_upto_region 8 with fail
    have hA9 := hA8.setP 15 (.int .u64 (((gs.length : Int) + 1) % 12)) (cP' := plc tgt SB ifr (gs.length + 1) gs.length ver) (by rw [hm]; rfl)
    clear hA8 c15 f15 hm hm2
    generalize w8.setCell ⟨P, 15, none⟩ (.int .u64 (((gs.length : Int) + 1) % 12)) = w9 at *
    have c16 : w9.cell? ⟨P, 16, none⟩ = some (.int .u64 gs.length) := cell_of_heap hA9.hp rfl
    have f16 : w9.frozen? ⟨P, 16, none⟩ = false := frozen_of_heap hA9.hp (i := 16) rfl
    go_upto_region 9 with fail
    have hA10 := hA9.setP 16 (.int .u64 ((gs.length + 1 : Nat) : Int)) (cP' := plc tgt SB ifr (gs.length + 1) (gs.length + 1) ver) rfl
    clear hA9 c16 f16
    rw [Int.natCast_add, show ((1 : Nat) : Int) = 1 from rfl] at hA10
    generalize w9.setCell ⟨P, 16, none⟩ (.int .u64 ((gs.length : Int) + 1)) = w10 at *
    have c0 : w10.cell? ⟨P, 0, none⟩ = some (.float .f64 tgt) := cell_of_heap hA10.hp rfl
    have g3 : w10.cell? ⟨x.g, 3, none⟩ = some (.float .f64 4607182418800017408) := cell_of_heap hA10.hg rfl
    go_quiet (fail)
    rcases ht with rfl | rfl
    · have hB10 := hA10.drewN nq
      clear c0 g3 hA10
      generalize w10.drewN nq = v10 at *
      have g3 : v10.cell? ⟨x.g, 3, none⟩ = some (.float .f64 4607182418800017408) := cell_of_heap hB10.hg rfl
      have c0 : v10.cell? ⟨P, 0, none⟩ = some (.float .f64 0) := cell_of_heap hB10.hp rfl
      have f0 : v10.frozen? ⟨P, 0, none⟩ = false := frozen_of_heap hB10.hp (i := 0) rfl
      have hst : (store ⟨P, 0, none⟩ (.float .f64 4607182418800017408)).run Tryd.prog v10 = .ok () (v10.setCell ⟨P, 0, none⟩ (.float .f64 4607182418800017408)) := by rw [run_store _ _ _ _ _ rfl]; simp [stored, c0, f0]
      go_upto_region 11 with (go_at_call 40; refine (ceil_one _).mono ?_; rintro e w' ⟨rfl, hw⟩; rw [hw]; clear hw)
      have hA11 := hB10.setP 0 (.float .f64 4607182418800017408) (cP' := plc 4607182418800017408 SB ifr (gs.length + 1) (gs.length + 1) ver) rfl
      clear hB10 g3 c0 f0
      generalize v10.setCell ⟨P, 0, none⟩ (.float .f64 4607182418800017408) = w11 at *
      have r0 : w11.cell? ⟨P, 17, none⟩ = some (.slice none 0 0) := cell_of_heap hA11.hp rfl
      have r1 : w11.cell? ⟨P, 18, none⟩ = some (.int .i64 0) := cell_of_heap hA11.hp rfl
      have r2 : w11.cell? ⟨P, 19, none⟩ = some (.int .i8 0) := cell_of_heap hA11.hp rfl
      have q0 : w11.frozen? ⟨P, 17, none⟩ = false := frozen_of_heap hA11.hp (i := 17) rfl
      have q1 : w11.frozen? ⟨P, 18, none⟩ = false := frozen_of_heap hA11.hp (i := 18) rfl
      have q2 : w11.frozen? ⟨P, 19, none⟩ = false := frozen_of_heap hA11.hp (i := 19) rfl
      have hend := ((hA11.setP 17 (.slice none 0 0) rfl).setP 18 (.int .i64 0) rfl).setP 19 (.int .i8 0) (cP' := plc 4607182418800017408 SB ifr (gs.length + 1) (gs.length + 1) ver) rfl
      go_wp2_with (go_at_call 41; refine (reset_any _ P r0 r1 r2 q0 q1 q2).mono ?_; rintro e w' ⟨rfl, rfl⟩)
      go_ret
      exact ⟨rfl, hend⟩
    · have hA11 := hA10.drewN nq
      clear c0 g3 hA10
      go_upto_region 11 with fail
      generalize w10.drewN nq = w11 at *
      have r0 : w11.cell? ⟨P, 17, none⟩ = some (.slice none 0 0) := cell_of_heap hA11.hp rfl
      have r1 : w11.cell? ⟨P, 18, none⟩ = some (.int .i64 0) := cell_of_heap hA11.hp rfl
      have r2 : w11.cell? ⟨P, 19, none⟩ = some (.int .i8 0) := cell_of_heap hA11.hp rfl
      have q0 : w11.frozen? ⟨P, 17, none⟩ = false := frozen_of_heap hA11.hp (i := 17) rfl
      have q1 : w11.frozen? ⟨P, 18, none⟩ = false := frozen_of_heap hA11.hp (i := 18) rfl
      have q2 : w11.frozen? ⟨P, 19, none⟩ = false := frozen_of_heap hA11.hp (i := 19) rfl
      have hend := ((hA11.setP 17 (.slice none 0 0) rfl).setP 18 (.int .i64 0) rfl).setP 19 (.int .i8 0) (cP' := plc 4607182418800017408 SB ifr (gs.length + 1) (gs.length + 1) ver) rfl
      go_wp2_with (go_at_call 41; refine (reset_any _ P r0 r1 r2 q0 q1 q2).mono ?_; rintro e w' ⟨rfl, rfl⟩)
      go_ret
      exact ⟨rfl, hend⟩
end Go.Proofs.YtbehijhpichniaaDoor
