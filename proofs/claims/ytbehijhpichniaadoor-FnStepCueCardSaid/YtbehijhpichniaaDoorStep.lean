/- The walk of impl.step: a segment is appended; a cue, a range are set; frames alone. -/
import Derived.Test.YtbehijhpichniaaDoorPlu
import Derived.Test.YtbehijhpichniaaDoorStw
namespace Go.Proofs.YtbehijhpichniaaDoor
open Go.RowKit
/-- A step as the caller gives it. -/
def stepv (kind : Int) (dur : Nat) (uri : ByteArray) (lim off : Int) (cv : Value) : Array Value := #[.int .i64 kind, .int .u64 0, .string ⟨#[]⟩, .string uri, .float .f64 dur, .int .i64 lim, .int .i64 off, .slice none 0 0, .slice none 0 0, cv, .bool false, .string ⟨#[]⟩, .int .i64 0]
/-- The playlist's blocks. -/
def InPl (s : Pl) (i : Nat) : Prop := i = s.P ∨ i = s.SB ∨ ∃ x ∈ s.segs, i = x.g
def StepPost (B : Nat) (r : Bool) (s : Pl) (w : World) (S : Pl → World → Prop) (e : Ending) (w' : World) : Prop := e = .returned (.tuple #[.bool r, .bool true]) ∧ ∃ s', PlAt B s' w' ∧ S s' w' ∧ Only (InPl s) w w'
set_option maxRecDepth 100000 in
set_option maxHeartbeats 8000000 in
theorem step0 (B : Nat) (s : Pl) (uri : ByteArray) (w : World) (h : PlAt B s w) (hB : B ≤ w.heap.size) (hl : s.segs.length ≤ 10) (ht : s.tgt = 0 ∨ s.tgt = one) :
    Calls Tryd.prog 10 #[.pointer (some ⟨s.P, 0, none⟩), .agg (stepv 0 one uri 0 0 (.slice none 0 0))] w (StepPost B true s w (fun s' _ => ∃ g, s' = ⟨s.P, s.SB, one, s.ifr, s.ver, s.segs ++ [⟨g, uri, 0, 0, none⟩]⟩)) := by
  have hsto := fun w => segmentTo_any one uri 0 0 none (.slice none 0 0) w rfl (fun _ h => nomatch h)
  have hpl := fun w => plain_any one (.inr rfl) w
  unfold segv at hsto
  unfold stepv
  go_enter Tryd.func10, Tryd.ntmps10
  go_upto_region 2 with (go_at_call 14; refine (hsto _).mono ?_; rintro e w1 ⟨g, p, hg, rfl, hG, rfl, hb1⟩)
  have hal : Below w.heap.size w w1 := ((Below.refl _ _).alloc (Nat.le_refl _) _).trans (hb1.mono (by simp))
  have hbx := (hb1.block w.heap.size (by simp)).trans (heap_alloc_new w _)
  have hgw : w.heap.size ≤ g := Nat.le_trans (by simp) hg
  have k0 : w1.cell? ⟨w.heap.size, 0, none⟩ = some (.int .i64 0) := cell_of_heap hbx rfl
  have k12 : w1.cell? ⟨w.heap.size, 12, none⟩ = some (.int .i64 0) := cell_of_heap hbx rfl
  have g3 : w1.cell? ⟨g, 3, none⟩ = some (.float .f64 one) := cell_of_heap hG rfl
  have h1 := h.below hal
  have hA : Ap w1 s.P s.SB g (plc s.tgt s.SB s.ifr (s.segs.map Sg.g).length (s.segs.map Sg.g).length s.ver) (slots (s.segs.map Sg.g)) (Sg.cells ⟨g, uri, 0, 0, none⟩ 0) w1 := ⟨by rw [List.length_map]; exact h1.pl, h1.sb, hG, Only.refl _ _⟩
  have hnew : ∀ y ∈ s.segs, y.g ≠ g := fun y hy e => by
    obtain ⟨j, hj, rfl⟩ := List.mem_iff_getElem.1 hy
    have := (Array.getElem?_eq_some_iff.1 (h.seg j hj)).1
    omega
  have hap := append_raw w1 s.P s.SB s.tgt s.ver s.ifr (s.segs.map Sg.g) ⟨g, uri, 0, 0, none⟩ hA (by simpa using hl) ht (by
    intro d hd
    rw [List.length_map] at hd
    have hdl : d < s.segs.length := by omega
    exact ⟨(s.segs[d]'hdl).g, (s.segs[d]'hdl).cells d, by rw [List.getElem?_map, List.getElem?_eq_getElem hdl]; rfl, hnew _ (List.getElem_mem hdl), h1.seg d hdl, rfl⟩)
  clear hsto hbx hb1 hA ht hg
  go_wp2_with (first | (go_at_call 15; refine (hpl _).mono ?_; rintro e w' ⟨rfl, hw⟩; rw [hw]; clear hw) | (go_at_call 16; refine hap.mono ?_; rintro e w2 ⟨rfl, hA2⟩))
  refine bodyPost_ret (ret_two rfl rfl rfl) rfl ?_
  refine ⟨rfl, _, PlAt.app (x := ⟨g, uri, 0, 0, none⟩) h1 hG hl (Nat.le_trans hB hgw) hnew (fun _ _ e => nomatch e) (by rw [List.length_map] at hA2; exact hA2), ⟨g, rfl⟩, ((Only.of_below (M := InPl s) hal).trans hA2.only).mono ?_⟩
  rintro i hi (e | e | e | e)
  · exact e
  · exact .inl e
  · exact .inr (.inl e)
  · omega
/-- A cue is given to the last segment. -/
def CueSet (s : Pl) (cu : Cu) (s' : Pl) (_ : World) : Prop := (s.segs = [] ∧ s' = s) ∨ ∃ L x k, s.segs = L ++ [x] ∧ s' = ⟨s.P, s.SB, s.tgt, s.ifr, s.ver, L ++ [⟨x.g, x.uri, x.lim, x.off, some (k, cu)⟩]⟩
/-- A range is given to the last segment. -/
def RangeSet (s : Pl) (l o : Int) (s' : Pl) (_ : World) : Prop := (s.segs = [] ∧ s' = s) ∨ ∃ L x, s.segs = L ++ [x] ∧ s' = ⟨s.P, s.SB, s.tgt, s.ifr, max s.ver 4, L ++ [⟨x.g, x.uri, l, o, x.sc⟩]⟩
theorem below_undrew {w w' : World} (h : Below w.drew.heap.size w.drew w') : Below w.heap.size w w' := ⟨h.os, h.tape, h.output, h.size, h.block⟩
theorem Ap.undrew {w : World} {P SB g : Nat} {cP cB cG : Array Value} {wx : World} (h : Ap w.drew P SB g cP cB cG wx) : Ap w P SB g cP cB cG wx := ⟨h.hp, h.hb, h.hg, ⟨h.only.os, h.only.tape, h.only.output, h.only.size, h.only.block⟩⟩
theorem last_cells {B : Nat} {P SB tgt ver : Nat} {ifr : Bool} {L : List Sg} {x : Sg} {w : World} (h : PlAt B ⟨P, SB, tgt, ifr, ver, L ++ [x]⟩ w) : Ap w P SB x.g (plc tgt SB ifr ((L ++ [x]).map Sg.g).length ((L ++ [x]).map Sg.g).length ver) (slots ((L ++ [x]).map Sg.g)) (x.cells L.length) w ∧ ((L ++ [x]).map Sg.g)[L.length]? = some x.g := by
  refine ⟨⟨by rw [List.length_map]; exact h.pl, h.sb, ?_, Only.refl _ _⟩, by simp⟩
  have := h.seg L.length (by simp)
  simpa using this
set_option maxRecDepth 100000 in
set_option maxHeartbeats 8000000 in
theorem step8 (B : Nat) (s : Pl) (cu : Cu) (q : Nat) (w : World) (h : PlAt B s w) (hB : B ≤ w.heap.size) (hq : w.heap[q]? = some (.cells cu.list.toArray 46 (0, 0))) (hs : cu.syn < 100 ∧ cu.typ < 100) :
    Calls Tryd.prog 10 #[.pointer (some ⟨s.P, 0, none⟩), .agg (stepv 8 0 ⟨#[]⟩ 0 0 (.slice (some ⟨q, 0, none⟩) 1 1))] w (StepPost B (!s.segs.isEmpty) s w (CueSet s cu)) := by
  have hq0 := (((Below.refl w.heap.size w).alloc (Nat.le_refl _) (Obj.cells (stepv 8 0 ⟨#[]⟩ 0 0 (.slice (some ⟨q, 0, none⟩) 1 1)) 33)).block q (Array.getElem?_eq_some_iff.1 hq).1).trans hq
  have hsto := fun w h => segmentTo_any 0 ⟨#[]⟩ 0 0 (some cu) (.slice (some ⟨q, 0, none⟩) 1 1) w h (fun c e => by cases e; exact hs)
  have hpl := fun w => plain_any 0 (.inl rfl) w
  unfold segv at hsto
  unfold stepv at hq0 ⊢
  go_enter Tryd.func10, Tryd.ntmps10
  go_upto_region 2 with (go_at_call 14; refine (hsto _ ⟨q, rfl, hq0⟩).mono ?_; rintro e w1 ⟨g, p, hg, rfl, hG, ⟨k, hk, rfl, hK⟩, hb1⟩)
  have hal : Below w.heap.size w w1 := ((Below.refl _ _).alloc (Nat.le_refl _) _).trans (hb1.mono (by simp))
  have hbx := (hb1.block w.heap.size (by simp)).trans (heap_alloc_new w _)
  have hgw : w.heap.size ≤ g := Nat.le_trans (by simp) hg
  have k0 : w1.cell? ⟨w.heap.size, 0, none⟩ = some (.int .i64 8) := cell_of_heap hbx rfl
  have k12 : w1.cell? ⟨w.heap.size, 12, none⟩ = some (.int .i64 0) := cell_of_heap hbx rfl
  have g3 : w1.cell? ⟨g, 3, none⟩ = some (.float .f64 0) := cell_of_heap hG rfl
  have h1 := h.below hal
  have g9 : w1.cell? ⟨g, 9, none⟩ = some (.pointer (some ⟨k, 0, none⟩)) := cell_of_heap hG rfl
  have hkw : w.heap.size ≤ k := Nat.le_trans (by simp) hk
  obtain ⟨P, SB, tgt, ifr, ver, segs⟩ := s
  dsimp only at *
  have low := h1.low
  dsimp only at low
  clear hsto hbx hb1 hg hk hq0
  rcases List.eq_nil_or_concat segs with rfl | ⟨L, x, hx⟩
  · have c16 : w1.cell? ⟨P, 16, none⟩ = some (.int .u64 0) := cell_of_heap h1.pl rfl
    have hsc := fun p => scte_none w1 P p c16
    go_wp2_with (first | (go_at_call 15; refine (hpl _).mono ?_; rintro e w' ⟨rfl, hw⟩; rw [hw]; clear hw) | (go_at_call 25; refine (hsc _).mono ?_; rintro e w2 ⟨t, v, rfl, hb2⟩))
    refine bodyPost_ret (ret_two rfl rfl rfl) rfl ?_
    exact ⟨rfl, _, h1.below hb2, .inl ⟨rfl, rfl⟩, Only.of_below (hal.trans (hb2.mono hal.size))⟩
  · rw [List.concat_eq_append] at hx
    subst hx
    obtain ⟨hA, hgl⟩ := last_cells h1
    have hsc := scte_raw w1 P SB tgt ver ifr _ x L.length hA (by have := h1.len; simpa using this) (by simp) hgl (k, cu)
    go_wp2_with (first | (go_at_call 15; refine (hpl _).mono ?_; rintro e w' ⟨rfl, hw⟩; rw [hw]; clear hw) | (go_at_call 25; refine hsc.mono ?_; rintro e w2 ⟨rfl, hA2⟩))
    refine bodyPost_ret (ret_two rfl rfl rfl) rfl ?_
    rw [List.length_map] at hA2
    refine ⟨by simp, _, PlAt.last (x' := ⟨x.g, x.uri, x.lim, x.off, some (k, cu)⟩) h1 rfl rfl (by rintro g' c' e; cases e; exact ⟨Nat.le_trans hB hkw, hK⟩) hA2, .inr ⟨L, x, k, rfl, rfl⟩, ((Only.of_below (M := InPl ⟨P, SB, tgt, ifr, ver, L ++ [x]⟩) hal).trans hA2.only).mono ?_⟩
    rintro i hi (e | e | e | e)
    · exact e
    · exact .inl e
    · exact .inr (.inl e)
    · exact .inr (.inr ⟨x, by simp, e⟩)
set_option maxRecDepth 100000 in
set_option maxHeartbeats 8000000 in
theorem step7 (B : Nat) (s : Pl) (l o : Int) (w : World) (h : PlAt B s w) (hB : B ≤ w.heap.size) (hv : s.ver < 256) :
    Calls Tryd.prog 10 #[.pointer (some ⟨s.P, 0, none⟩), .agg (stepv 7 0 ⟨#[]⟩ l o (.slice none 0 0))] w (StepPost B (!s.segs.isEmpty) s w (RangeSet s l o)) := by
  have hsto := fun w => segmentTo_any 0 ⟨#[]⟩ l o none (.slice none 0 0) w rfl (fun _ h => nomatch h)
  have hpl := fun w => plain_any 0 (.inl rfl) w
  unfold segv at hsto
  unfold stepv
  go_enter Tryd.func10, Tryd.ntmps10
  go_upto_region 2 with (go_at_call 14; refine (hsto _).mono ?_; rintro e w1 ⟨g, p, hg, rfl, hG, rfl, hb1⟩)
  have hal : Below w.heap.size w w1 := ((Below.refl _ _).alloc (Nat.le_refl _) _).trans (hb1.mono (by simp))
  have hbx := (hb1.block w.heap.size (by simp)).trans (heap_alloc_new w _)
  have hgw : w.heap.size ≤ g := Nat.le_trans (by simp) hg
  have k0 : w1.cell? ⟨w.heap.size, 0, none⟩ = some (.int .i64 7) := cell_of_heap hbx rfl
  have k12 : w1.cell? ⟨w.heap.size, 12, none⟩ = some (.int .i64 0) := cell_of_heap hbx rfl
  have g3 : w1.cell? ⟨g, 3, none⟩ = some (.float .f64 0) := cell_of_heap hG rfl
  have h1 := h.below hal
  have g4 : w1.cell? ⟨g, 4, none⟩ = some (.int .i64 l) := cell_of_heap hG rfl
  have g5 : w1.cell? ⟨g, 5, none⟩ = some (.int .i64 o) := cell_of_heap hG rfl
  obtain ⟨P, SB, tgt, ifr, ver, segs⟩ := s
  dsimp only at *
  have low := h1.low
  dsimp only at low
  clear hsto hbx hb1 hg
  rcases List.eq_nil_or_concat segs with rfl | ⟨L, x, hx⟩
  · have c16 : w1.cell? ⟨P, 16, none⟩ = some (.int .u64 0) := cell_of_heap h1.pl rfl
    have hsc := fun l o => range_none w1.drew P l o c16
    go_upto_region 32 with (go_at_call 15; refine (hpl _).mono ?_; rintro e w' ⟨rfl, hw⟩; rw [hw]; clear hw)
    go_still_tail 9, (by kernel_rfl)
    change wpList _ _ _ _ _ w1.drew
    go_wp2_with (first | (go_at_call 24; refine (hsc _ _).mono ?_; rintro e w2 ⟨t, v, rfl, hb2'⟩; have hb2 := below_undrew hb2'))
    refine bodyPost_ret (ret_two rfl rfl rfl) rfl ?_
    exact ⟨rfl, _, h1.below hb2, .inl ⟨rfl, rfl⟩, Only.of_below (hal.trans (hb2.mono hal.size))⟩
  · rw [List.concat_eq_append] at hx
    subst hx
    obtain ⟨hA, hgl⟩ := last_cells h1
    have hA := hA.drew
    have hsc := range_raw w1.drew P SB tgt ver ifr _ x L.length l o ⟨hA.hp, hA.hb, hA.hg, Only.refl _ _⟩ (by have := h1.len; simpa using this) (by simp) hgl hv
    go_upto_region 32 with (go_at_call 15; refine (hpl _).mono ?_; rintro e w' ⟨rfl, hw⟩; rw [hw]; clear hw)
    go_still_tail 9, (by kernel_rfl)
    change wpList _ _ _ _ _ w1.drew
    go_wp2_with (first | (go_at_call 24; refine hsc.mono ?_; rintro e w2 ⟨rfl, hA2'⟩; have hA2 := hA2'.undrew))
    refine bodyPost_ret (ret_two rfl rfl rfl) rfl ?_
    rw [List.length_map] at hA2
    refine ⟨by simp, _, PlAt.last (x' := ⟨x.g, x.uri, l, o, x.sc⟩) h1 rfl rfl (fun g' c' e => h1.sct x (by simp) g' c' e) hA2, .inr ⟨L, x, rfl, rfl⟩, ((Only.of_below (M := InPl ⟨P, SB, tgt, ifr, ver, L ++ [x]⟩) hal).trans hA2.only).mono ?_⟩
    rintro i hi (e | e | e | e)
    · exact e
    · exact .inl e
    · exact .inr (.inl e)
    · exact .inr (.inr ⟨x, by simp, e⟩)
set_option maxRecDepth 100000 in
set_option maxHeartbeats 8000000 in
theorem step13 (B : Nat) (s : Pl) (w : World) (h : PlAt B s w) (hB : B ≤ w.heap.size) (hv : s.ver < 256) :
    Calls Tryd.prog 10 #[.pointer (some ⟨s.P, 0, none⟩), .agg (stepv 13 0 ⟨#[]⟩ 0 0 (.slice none 0 0))] w (StepPost B true s w (fun s' _ => s' = ⟨s.P, s.SB, s.tgt, true, max s.ver 4, s.segs⟩)) := by
  have hsto := fun w => segmentTo_any 0 ⟨#[]⟩ 0 0 none (.slice none 0 0) w rfl (fun _ h => nomatch h)
  have hpl := fun w => plain_any 0 (.inl rfl) w
  unfold segv at hsto
  unfold stepv
  go_enter Tryd.func10, Tryd.ntmps10
  go_upto_region 2 with (go_at_call 14; refine (hsto _).mono ?_; rintro e w1 ⟨g, p, hg, rfl, hG, rfl, hb1⟩)
  have hal : Below w.heap.size w w1 := ((Below.refl _ _).alloc (Nat.le_refl _) _).trans (hb1.mono (by simp))
  have hbx := (hb1.block w.heap.size (by simp)).trans (heap_alloc_new w _)
  have hgw : w.heap.size ≤ g := Nat.le_trans (by simp) hg
  have k0 : w1.cell? ⟨w.heap.size, 0, none⟩ = some (.int .i64 13) := cell_of_heap hbx rfl
  have k12 : w1.cell? ⟨w.heap.size, 12, none⟩ = some (.int .i64 0) := cell_of_heap hbx rfl
  have g3 : w1.cell? ⟨g, 3, none⟩ = some (.float .f64 0) := cell_of_heap hG rfl
  have h1 := h.below hal
  have hif := iframe_raw w1 s.P s.SB s.tgt s.ver s.segs.length s.segs.length s.ifr h1.pl hv
  clear hsto hbx hb1 hg
  go_wp2_with (first | (go_at_call 15; refine (hpl _).mono ?_; rintro e w' ⟨rfl, hw⟩; rw [hw]; clear hw) | (go_at_call 28; refine hif.mono ?_; rintro e w2 ⟨rfl, hp2, ho2⟩))
  refine bodyPost_ret (ret_two rfl rfl rfl) rfl ?_
  refine ⟨rfl, _, PlAt.own h1 hp2 ho2, rfl, ((Only.of_below (M := InPl s) hal).trans ho2).mono ?_⟩
  rintro i hi (e | e)
  · exact e
  · exact .inl e
end Go.Proofs.YtbehijhpichniaaDoor
