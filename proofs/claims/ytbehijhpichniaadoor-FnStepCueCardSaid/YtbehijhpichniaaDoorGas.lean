/- The walk of (*MediaPlaylist).GetAllSegments. -/
import Derived.Test.YtbehijhpichniaaDoorIno
namespace Go.Proofs.YtbehijhpichniaaDoor
open Go.RowKit
set_option maxRecDepth 100000 in
set_option maxHeartbeats 8000000 in
theorem allSegs_any (B : Nat) (s : Pl) (w : World) (h : PlAt B s w) : Calls Tryd.prog 11 #[.pointer (some ⟨s.P, 0, none⟩)] w (fun e w' => ∃ v, e = .returned v ∧ Ptrs w' w.heap.size v (s.segs.map Sg.g) ∧ Below w.heap.size w w') := by
  have hlen := h.len
  rcases Nat.eq_zero_or_pos s.segs.length with hc | hc
  · have c16 : w.cell? ⟨s.P, 16, none⟩ = some (.int .u64 0) := by rw [show (0 : Int) = ((s.segs.length : Nat) : Int) by rw [hc]; rfl]; exact cell_of_heap h.pl rfl
    have hs : s.segs = [] := List.eq_nil_of_length_eq_zero hc
    clear hc
    go_enter Tryd.func11, Tryd.ntmps11
    go_wp2
    go_ret
    exact ⟨_, rfl, by rw [hs]; exact Own.nil _ _ _ _ _, Below.refl _ _⟩
  · have c16 : w.cell? ⟨s.P, 16, none⟩ = some (.int .u64 s.segs.length) := cell_of_heap h.pl rfl
    have c14 : w.cell? ⟨s.P, 14, none⟩ = some (.int .u64 0) := cell_of_heap h.pl rfl
    have c15 : w.cell? ⟨s.P, 15, none⟩ = some (.int .u64 s.segs.length) := cell_of_heap h.pl rfl
    have e1 : ((s.segs.length : Int) == 0) = false := by rw [beq_eq_false_iff_ne]; omega
    obtain ⟨iP, hiP, hzP, hsP, hbP⟩ := info_parts info_seg
    go_enter Tryd.func11, Tryd.ntmps11
    go_upto_region 4 with (at_make; refine wpList_make_own _ rfl _ _ 58 rfl w.heap.size 60 iP _ 1 Tryd.underlying58 hiP hzP hsP .i64 .u64 _ s.segs.length rfl rfl rfl (by rw [hbP]; omega) (by unfold maxLen; omega) (Nat.le_refl _) ?_; intro w1 hown1 hg1)
    have hb1 : Below w.heap.size w w1 := (Below.refl _ _).grown hg1 (Nat.le_refl _) (by intro k hk; cases hk)
    have hO1 : Ptrs w1 w.heap.size (.slice (some ⟨w.heap.size, 0, none⟩) 0 s.segs.length) [] := hown1
    have hP1 := h.below hb1
    clear hown1 hg1 c14 c15 c16 e1
    have c14 : w1.cell? ⟨s.P, 14, none⟩ = some (.int .u64 0) := cell_of_heap hP1.pl rfl
    have c15 : w1.cell? ⟨s.P, 15, none⟩ = some (.int .u64 s.segs.length) := cell_of_heap hP1.pl rfl
    have e2 : decide ((0 : Int) < s.segs.length) = true := by rw [decide_eq_true_eq]; omega
    go_quiet (fail)
    have hb2 : Below w.heap.size w (w1.drewN nq) := ⟨hb1.os, hb1.tape, hb1.output, hb1.size, hb1.block⟩
    have hO2 : Ptrs (w1.drewN nq) w.heap.size (.slice (some ⟨w.heap.size, 0, none⟩) 0 s.segs.length) [] := hO1
    have hP2 := h.below hb2
    clear hO1 hP1 c14 c15 hb1
    generalize w1.drewN nq = w2 at *
    have c14 : w2.cell? ⟨s.P, 14, none⟩ = some (.int .u64 0) := cell_of_heap hP2.pl rfl
    go_wp2_with fail
    go_loopg [3, 4] (s.segs.length) (fun m out i wx => ∃ k : Nat, k ≤ s.segs.length ∧ m = s.segs.length - k ∧ i = .int .u64 k ∧ Ptrs wx w.heap.size out ((s.segs.map Sg.g).take k) ∧ Below w.heap.size w wx)
    case atStart => exact ⟨0, Nat.zero_le _, rfl, rfl, hO2, hb2⟩
    case round =>
      obtain ⟨k, hk, rfl, rfl, hO, hB⟩ := hrel
      clear hO2 hb2 hP2 c14
      have hP := h.below hB
      have c15 : wr.cell? ⟨s.P, 15, none⟩ = some (.int .u64 s.segs.length) := cell_of_heap hP.pl rfl
      by_cases hlt : k < s.segs.length
      · have c2 : wr.cell? ⟨s.P, 2, none⟩ = some (.slice (some ⟨s.SB, 0, none⟩) 12 12) := cell_of_heap hP.pl rfl
        have hkm : k < (s.segs.map Sg.g).length := by simpa using hlt
        have cb : wr.cell? ⟨s.SB, k, none⟩ = some (.pointer (some ⟨(s.segs.map Sg.g)[k]'hkm, 0, none⟩)) := cell_of_heap hP.sb (slots_get hkm)
        have hnx := List.take_succ_eq_append_getElem hkm
        have hk12 : (k : Int) < 12 := by omega
        have hlt2 : ((s.segs.map Sg.g).take k).length ≤ 1000 := by rw [List.length_take]; simp; omega
        have hsz := hB.size
        generalize (s.segs.map Sg.g)[k]'hkm = gk at *
        go_wp2_with (refine arm_push (f := fun g => [Value.pointer (some ⟨g, 0, none⟩)]) 58 Tryd.underlying58 iP _ 8 hiP hzP hsP hbP (by rfl) (by decide) (fun _ => rfl) (by simp [Value.oneCell']) gk ?_ rfl ?_ ?_ hO ?_ ?_ ?_ ?_; (· go_simp); (· simp); (· simp); (· exact hsz); (· omega); (· omega); intro v2 w3 ho2 hon2 _)
        rw [← hnx] at ho2
        have hB2 : Below w.heap.size w w3 := hB.trans (hon2.below hB.size fun g hg e => by have := (hO.block_lt g e).1; omega)
        clear hO hP c2 cb hB hon2 hnx c15
        go_roundg (s.segs.length - (k + 1))
        case measure => omega
        case rel => exact ⟨k + 1, by omega, rfl, by go_num, ho2, hB2⟩
      · obtain rfl : k = s.segs.length := by omega
        clear hlt
        go_wp2_with fail
        go_ret
        rw [List.take_of_length_le (by simp)] at hO
        exact ⟨_, rfl, hO, hB⟩
end Go.Proofs.YtbehijhpichniaaDoor
