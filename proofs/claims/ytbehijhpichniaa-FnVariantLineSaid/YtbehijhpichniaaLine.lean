/- The walk of spec.Variant.Line. -/
import Derived.Test.YtbehijhpichniaaLnA
namespace Go.Proofs.Ytbehijhpichniaa
open Go.RowKit
set_option maxRecDepth 100000 in
set_option maxHeartbeats 8000000 in
theorem line_of (v : Vt) (hv : VOk v) (w : World) : Calls Try.prog 5 #[.agg v.cells] w (LinePost v w) := by
  have hok := hv.ok
  have hlen := v.trs_len
  have hal : v.attrs.length = v.trs.length := by rw [v.attrs_trs, List.length_map]
  have hpos : 0 < v.trs.length := by simp [Vt.trs]
  have hane : v.attrs ≠ [] := by intro e; rw [e] at hal; simp at hal; omega
  have hgood := Lib.hid (Vt.trs_good hv)
  obtain ⟨iP, hiP, hzP, hsP, hbP⟩ := info_parts info_pair
  clear hv
  have HV := Lib.hid hok
  clear hok
  go_enter Try.func5, Try.ntmps5
  go_wp2_with (first | (go_at_call 11; refine (attributes_any v HV.out _).mono ?_; rintro e w1 ⟨s, rfl, hs, hb⟩; obtain ⟨g, cap, cur, rfl, _⟩ := hs.form hane) | (refine arm_load_blk 32 Try.isAgg32 Try.sizeOf32 (g := w.heap.size) (cs := v.cells) ?_ (heap_alloc_new _ _) rfl ?_; (· rfl)))
  have hb1 : Below w.heap.size w w1 := ((Below.refl _ _).alloc (Nat.le_refl _) _).trans (hb.mono (by simp))
  go_loopg [5, 15] (v.trs.length) (fun m sp i wx => ∃ k : Nat, k ≤ v.trs.length ∧ m = v.trs.length - k ∧ i = .int .i64 k ∧ Ls v w (.slice (some ⟨g, 0, none⟩) v.attrs.length cap) sp k wx)
  case atStart =>
    refine ⟨0, Nat.zero_le _, rfl, rfl, ?_, ?_, hb1.alloc hb1.size _⟩
    · exact (hs.base (by simp)).below ((Below.refl _ _).alloc (Nat.le_refl _) _)
    · exact Own.fresh (cs := []) (fun _ => rfl) (heap_alloc_new _ _) hb1.size rfl rfl (Nat.zero_le _)
  case round =>
    obtain ⟨k, hk, rfl, rfl, hL⟩ := hrel
    clear hs hb hb1
    by_cases hlt : k < v.trs.length
    · have hc := hL.attrs.cell_at (k := k) (s := (v.trs[k]'hlt).text) (by rw [v.attrs_trs, List.getElem?_map, List.getElem?_eq_getElem hlt]; rfl)
      have hgt := hgood.out _ (List.getElem_mem hlt)
      obtain ⟨y, hP⟩ := parts_of hgt
      have hts := text_size hgt
      have hnx := fun sp' wy h o => hL.next (sp' := sp') (wy := wy) hlt h o
      clear hgt
      generalize hx : (v.trs[k]'hlt).text = x at *
      generalize v.trs[k]'hlt = t at *
      have h1 := hP.size
      have h2 := hP.pos
      have HP := Lib.hid hP
      clear hP
      go_wp2_with fail
      go_loop [8] (fun i => ∃ j : Nat, i = .int .i64 j ∧ j ≤ t.name.size) (fun i => t.name.size - (intOf i).toNat)
      case atStart => exact ⟨0, rfl, Nat.zero_le _⟩
      case round =>
        obtain ⟨j, rfl, hj⟩ := hrel
        by_cases hjl : j < t.name.size
        · have hne := HP.out.before j hjl (by omega)
          go_wp2_with fail
          go_round
          case rel => exact ⟨j + 1, by go_num, by omega⟩
          case measure => simp [intOf]; omega
        · obtain rfl : j = t.name.size := by omega
          have h3 : t.name.size < x.size := by omega
          have h4 : t.name.size + 1 ≤ x.size := by omega
          have h5 : (t.name.size : Int) + 1 ≤ x.size := by omega
          have h6 : y.size ≤ x.size := by omega
          clear h1
          have hat := HP.out.at_ h3
          have hn := HP.out.name
          have hr := HP.out.rest
          cases hq : t.q
          · obtain ⟨q1, q2⟩ := HP.out.bare hq
            have q3 := q1 h2
            subst q2
            go_upto_region 12 with fail
            go_step
            refine pairs12 (t := t) (x := x) ?_ ?_ ?_ ?_ ?_ hn (by omega) hL.pairs hL.below.size (by rw [List.length_take]; omega) ?_
            · rfl
            · rfl
            · rfl
            · rfl
            · rfl
            intro sp' w2 ho2 hon2
            have hL2 := hnx sp' w2 ho2 hon2
            clear hL hnx hon2 ho2 hc HP
            go_frame
            go_wp2_with fail
            go_roundg (v.trs.length - (k + 1))
            case measure => omega
            case rel => exact ⟨k + 1, by omega, rfl, by go_num, hL2⟩
          · obtain ⟨q1, q2, q3⟩ := HP.out.quote hq
            have q4 := q1 h2
            have q5 : (1 : Int) ≤ (y.size : Int) - 1 := by omega
            have q6 : 2 ≤ y.size := by omega
            have q7 : y.size ≤ 1000000 := by omega
            clear q1 q2
            go_upto_region 11 with fail
            go_step
            refine bare11 (y := y) (z := t.value) ?_ ?_ q6 q7 q3 ?_
            · rfl
            · rfl
            go_frame
            clear q3 q4 q5 q6 q7
            go_upto_region 12 with fail
            go_step
            refine pairs12 (t := t) (x := x) ?_ ?_ ?_ ?_ ?_ hn (by omega) hL.pairs hL.below.size (by rw [List.length_take]; omega) ?_
            · rfl
            · rfl
            · rfl
            · rfl
            · rfl
            intro sp' w2 ho2 hon2
            have hL2 := hnx sp' w2 ho2 hon2
            clear hL hnx hon2 ho2 hc HP
            go_frame
            go_wp2_with fail
            go_roundg (v.trs.length - (k + 1))
            case measure => omega
            case rel => exact ⟨k + 1, by omega, rfl, by go_num, hL2⟩
    · have hkk : k = v.trs.length := by omega
      have hA := hL.attrs
      rw [hal] at hA
      have hsz : ∀ (j : Nat) (h : j < v.attrs.length), (v.attrs[j]'h).size ≤ 1000 := by
        intro j h
        have e : v.attrs[j]'h = (v.trs[j]'(by omega)).text := by
          have : v.attrs[j]? = some (v.trs[j]'(by omega)).text := by rw [v.attrs_trs, List.getElem?_map, List.getElem?_eq_getElem (by omega)]; rfl
          rw [List.getElem?_eq_getElem h] at this
          exact Option.some.inj this
        rw [e]
        exact text_size (hgood.out _ (List.getElem_mem _))
      have hjn := joined_any v.attrs (.slice (some ⟨g, 0, none⟩) v.trs.length cap) wr w.heap.size hA hane (by omega) hsz
      have hal11 : v.attrs.length ≤ 11 := by omega
      clear hA hsz
      go_wp2_with (go_at_call 12; refine hjn.mono ?_; rintro e w2 ⟨tx, rfl, hj, hz, rfl⟩)
      exact bodyPost_ret (ret_two rfl rfl rfl) rfl ⟨tx, _, rfl, hj, by omega, by rw [← List.take_length (l := v.trs), ← hkk]; exact hL.pairs, hL.below⟩
end Go.Proofs.Ytbehijhpichniaa
