/- The walk of laws.FnStepCue. -/
import Derived.Test.YtbehijhpichniaaDoorR24
namespace Go.Proofs.YtbehijhpichniaaDoor
open Go.RowKit
def TruePost (w : World) (e : Ending) (w' : World) : Prop := e = .returned (.bool true) ∧ Below w.heap.size w w'
set_option maxRecDepth 1000000 in
set_option maxHeartbeats 8000000 in
theorem stepCue_any (m n : Nat) (w : World) (hm : m < 256) (hn : n < 4294967296) : Calls Tryd.prog 3 #[.int .u8 m, .int .u32 n] w (TruePost w) := by
  obtain ⟨iP, hiP, hzP, hsP, hbP⟩ := info_parts info_step
  have hk : m % 11 ≤ 10 := by omega
  have hkm : (m : Int) % 11 = ((m % 11 : Nat) : Int) := by omega
  go_enter Tryd.func3, Tryd.ntmps3
  go_upto_region 2 with fail
  rw [hkm]
  generalize m % 11 = k at *
  clear hkm hm
  go_wp2_with fail
  go_loopg [6, 24] (k) (fun m out i wx => ∃ j : Nat, j ≤ k ∧ m = k - j ∧ i = .int .i64 j ∧ Own (Sp.list 0) 33 13 wx w.heap.size out (apps j) ∧ Below w.heap.size w wx)
  case atStart => exact ⟨0, Nat.zero_le _, rfl, rfl, Own.fresh (cs := []) (sp_len 0) (heap_alloc_new _ _) (Nat.le_refl _) rfl rfl (Nat.zero_le _), (Below.refl _ _).alloc (Nat.le_refl _) _⟩
  case round =>
    obtain ⟨j, hj, rfl, rfl, hO, hB⟩ := hrel
    by_cases hlt : j < k
    · have hsz := hB.size
      have hjl : (apps j).length ≤ 1000 := by rw [apps_len]; omega
      have hds := dec_size 1 j (by omega)
      go_wp2_with (first | (go_at_call 4; refine (decimal_any j _ (by omega)).mono ?_; rintro e w' ⟨rfl, hw⟩; rw [← hw]; clear hw w') | (refine arm_add 9 Tryd.underlying9 rfl rfl ?_ ?_; (· (simp only [ByteArray.size_mk', List.size_toArray, List.length_cons, List.length_nil]; omega))) | (refine arm_push (f := Sp.list 0) 23 Tryd.underlying23 iP _ 176 hiP hzP hsP hbP (by rfl) (by decide) (sp_len 0) (sp_one 0) (Sp.app (⟨#[97]⟩ ++ dec j)) ?_ rfl ?_ ?_ hO ?_ ?_ ?_ ?_; (· unfold Sp.list Sp.cells stepv one; go_simp); (· simp); (· simp); (· exact hsz); (· omega); (· omega); intro v2 w2 ho2 hon2 _))
      rw [← apps_succ] at ho2
      have hB2 : Below w.heap.size w w2 := hB.trans (hon2.below hsz fun g hg e => by have := (hO.block_lt g e).1; omega)
      clear hO hB hon2
      go_roundg (k - (j + 1))
      case measure => omega
      case rel => exact ⟨j + 1, by omega, rfl, by go_num, ho2, hB2⟩
    · obtain rfl : j = k := by omega
      go_upto_region 9 with (go_at_call 5; refine (cueOf_law n hn _).mono ?_; rintro e w1 ⟨hb1, rfl | ⟨g, c, hc, hg, rfl, hh⟩⟩)
      · go_wp2_with fail
        go_ret
        exact ⟨rfl, hB.trans (hb1.mono hB.size)⟩
      · have hO1 := hO.below hb1
        have hB1 := hB.trans (hb1.mono hB.size)
        clear hO hB hb1 hlt
        have hjl : (apps j).length ≤ 100 := by rw [apps_len]; omega
        go_upto_region 12 with (first | (go_at_call 6; refine (toCues_any c hc g _ hh).mono ?_; rintro e w2 ⟨cu, q, hc1, hc2, hc3, hc4, hc5, hc6, hq, rfl, hhq, hb2⟩; have hh2 := (hb2.block g (Array.getElem?_eq_some_iff.1 hh).1).trans hh; have hB2 := hB1.trans (hb2.mono hB1.size); have hsz2 := hB2.size; have hO2 := (hO1.below hb2).congr (f' := Sp.list q) (fun x hx => by obtain ⟨i, _, rfl⟩ := List.mem_map.1 hx; rfl); clear hO1 hB1 hb2 hh) | (refine arm_push (f := Sp.list q) 23 Tryd.underlying23 iP _ 176 hiP hzP hsP hbP (by rfl) (by decide) (sp_len q) (sp_one q) Sp.cue ?_ rfl ?_ ?_ hO2 ?_ ?_ ?_ ?_; (· unfold Sp.list Sp.cells stepv; go_simp); (· simp); (· simp); (· exact hsz2); (· omega); (· omega); intro v3 w3 hO3 hon3 _))
        have hB3 : Below w.heap.size w w3 := hB2.trans (hon3.below hsz2 fun g hg e => by have := (hO2.block_lt g e).1; omega)
        have hne2 := fun (i : Nat) {cs : Array Value} {ty : TypeId} (hi : w2.heap[i]? = some (.cells cs ty (0, 0))) (ht : ty ≠ 33) => (hon3.block i (Array.getElem?_eq_some_iff.1 hi).1 (fun e => by obtain ⟨cur, hcur⟩ := hO2.elem i e; exact tag_ne hcur hi (fun h => ht h.symm) rfl)).trans hi
        have hh3 := hne2 g hh2 (by decide)
        have hhq3 := hne2 q hhq (by decide)
        have hsz3 := hB3.size
        have hjl3 : (apps j ++ [Sp.cue]).length ≤ 200 := by rw [List.length_append]; simp; omega
        clear hne2 hO2 hon3 hB2 hh2 hhq hsz2 hq
        go_upto_region 13 with (refine arm_push (f := Sp.list q) 23 Tryd.underlying23 iP _ 176 hiP hzP hsP hbP (by rfl) (by decide) (sp_len q) (sp_one q) (Sp.rng 5 ((n : Int) / 512)) ?_ rfl ?_ ?_ hO3 ?_ ?_ ?_ ?_; (· unfold Sp.list Sp.cells stepv; go_simp); (· simp); (· simp); (· exact hsz3); (· omega); (· omega); intro v4 w4 hO4 hon4 _)
        have hB4 : Below w.heap.size w w4 := hB3.trans (hon4.below hsz3 fun g hg e => by have := (hO3.block_lt g e).1; omega)
        have hne3 := fun (i : Nat) {cs : Array Value} {ty : TypeId} (hi : w3.heap[i]? = some (.cells cs ty (0, 0))) (ht : ty ≠ 33) => (hon4.block i (Array.getElem?_eq_some_iff.1 hi).1 (fun e => by obtain ⟨cur, hcur⟩ := hO3.elem i e; exact tag_ne hcur hi (fun h => ht h.symm) rfl)).trans hi
        have hh4 := hne3 g hh3 (by decide)
        have hhq4 := hne3 q hhq3 (by decide)
        have hO5 : Own (Sp.list q) 33 13 w4 w.heap.size v4 (allSteps j ((n : Int) / 512)) := hO4
        obtain ⟨A4, cap4, rfl, hA4⟩ := hO5.shape
        have hcu : cu.syn < 100 ∧ cu.typ < 100 := by have := hc.syn; have := hc.typ; omega
        have hst := steps_any cu hcu q _ A4 cap4 w4 (by rw [all_len]; omega) (by rw [all_apps]; omega) hhq4 (hO5.base (Nat.zero_le _)) hA4
        have hsz4 := hB4.size
        rw [all_len] at hst
        rw [all_len]
        clear hne3 hO4 hO3 hon4 hB3 hh3 hhq3 hsz3 hjl hjl3 hO5 hA4
        go_upto_region 14 with (first | (go_at_call 7; refine hst.mono ?_; rintro e w5 ⟨s0, s, rs, ob, ov, A, cap, L, rfl, hs0, hs1, hs2, hrun, hob, hO6, hLl, hT, hb5⟩; have hh5 := (hb5.block g (Array.getElem?_eq_some_iff.1 hh4).1).trans hh4; have hhq5 := (hb5.block q (Array.getElem?_eq_some_iff.1 hhq4).1).trans hhq4; have hB5 := hB4.trans (hb5.mono hsz4)) | (refine arm_store_blk 41 Tryd.isAgg41 Tryd.sizeOf41 (g := w5.heap.size) (cs := medc s A s.segs.length cap) rfl rfl (heap_alloc_new _ _) rfl rfl med_one ?_; intro w6 hm6 ho6))
        have hsz5 := hB5.size
        have hob6 : Bools w6 w4.heap.size ob rs := Own.only (Own.below hob ((Below.refl _ _).alloc (Nat.le_refl _) _)) ho6 fun i hi e => by have := (Own.block_lt hob i hi).2; omega
        have hk6 := fun (i : Nat) {o : Obj} (hi : w5.heap[i]? = some o) => (ho6.block i (by have := (Array.getElem?_eq_some_iff.1 hi).1; simp; omega) (fun e => by have := (Array.getElem?_eq_some_iff.1 hi).1; omega)).trans ((Below.heap_alloc _ _ _ (Array.getElem?_eq_some_iff.1 hi).1).trans hi)
        have hh6 := hk6 g hh5
        have hhq6 := hk6 q hhq5
        have hO7 : Own Os.list 31 11 w6 w4.heap.size (.slice A s.segs.length cap) L := Own.only (Own.below hO6 ((Below.refl _ _).alloc (Nat.le_refl _) _)) ho6 fun i hi e => by have := (Own.block_lt hO6 i hi).2; omega
        have hT6 : Told w4.heap.size s.segs L w6 := hT.keep fun oc v h => h.keep fun i hi => (ho6.block i (by simp; omega) (fun e => by omega)).trans (Below.heap_alloc _ _ _ hi)
        have hB6 : Below w.heap.size w w6 := (hB5.alloc hsz5 _).trans (ho6.below (by simp; omega) fun i hi e => by omega)
        have hsz6 := hB6.size
        clear hst hh4 hhq4 hB4 hob hO6 hT hb5 hh5 hhq5 hk6 ho6 hB5
        rcases Nat.eq_zero_or_pos j with hj0 | hj0
        · subst hj0
          obtain ⟨hs, rfl⟩ := all_run0 hs0 hrun
          obtain ⟨Ao, capo, rfl, hAo⟩ := Own.shape hob6
          obtain ⟨go, rfl⟩ := hAo (by simp)
          have hb0 : w6.cell? ⟨go, 0, none⟩ = some (.bool false) := (Own.cells_at (k := 1) (fun _ => rfl) (by decide) (i := 0) (j := 0) hob6 (by decide) (by decide)).trans rfl
          have hb1 : w6.cell? ⟨go, 1, none⟩ = some (.bool false) := (Own.cells_at (k := 1) (fun _ => rfl) (by decide) (i := 1) (j := 0) hob6 (by decide) (by decide)).trans rfl
          have hm2 : w6.cell? ⟨w5.heap.size, 2, none⟩ = some (.slice A 0 cap) := cell_of_heap hm6 (by rw [hs]; rfl)
          clear hrun hob6 hO7 hT6
          go_upto_region 16 with fail
          go_upto_region 18 with fail
          clear hb0 hb1 hm2
          have hst2 := steps_any cu hcu q [Sp.ifr] (some ⟨w6.heap.size, 0, none⟩) 1 (w6.alloc (Obj.cells (Sp.list q Sp.ifr).toArray 33)) (by decide) (by decide) ((Below.heap_alloc _ _ _ (Array.getElem?_eq_some_iff.1 hhq6).1).trans hhq6) (Own.fresh (cs := Sp.list q Sp.ifr) (n := 1) (sp_len q) (heap_alloc_new _ _) (Nat.zero_le _) (by simp [flat]) rfl (by decide)) (fun _ => ⟨_, rfl⟩)
          have hBa : Below w.heap.size w (w6.alloc (Obj.cells (Sp.list q Sp.ifr).toArray 33)) := hB6.alloc hsz6 _
          go_upto_region 19 with (first | (go_at_call 7; refine hst2.mono ?_; rintro e w7 ⟨t0, s7, rs7, ob7, ov7, A7, cap7, L7, rfl, ht0, ht1, ht2, hrun7, _, hO77, _, _, hb7⟩; have hi2 := (ifr_run ht0 ht1 hrun7).2.1; have hi3 := (ifr_run ht0 ht1 hrun7).2.2; clear ht0 ht1 ht2; have hB7 := hBa.trans (hb7.mono hBa.size); have hb67 : Below w6.heap.size w6 w7 := ((Below.refl _ _).alloc (Nat.le_refl _) _).trans (hb7.mono (by simp))) | (refine arm_store_blk 41 Tryd.isAgg41 Tryd.sizeOf41 (g := w7.heap.size) (cs := medc s7 A7 s7.segs.length cap7) rfl rfl (heap_alloc_new _ _) rfl rfl med_one ?_; intro w8 hm8 ho8))
          have hsz7 := hB7.size
          have hB8 : Below w.heap.size w w8 := (hB7.alloc hsz7 _).trans (ho8.below (by simp; omega) fun i hi e => by omega)
          have hb68 : Below w6.heap.size w6 w8 := (hb67.alloc hb67.size _).trans (ho8.below (by simp; have := hb67.size; omega) fun i hi e => by have := hb67.size; omega)
          have k4 : w8.cell? ⟨w7.heap.size, 4, none⟩ = some (.bool true) := cell_of_heap hm8 (by show some (Value.bool s7.ifr) = _; rw [hi2])
          have k10 : w8.cell? ⟨w7.heap.size, 10, none⟩ = some (.int .i64 4) := cell_of_heap hm8 (by show some (Value.int .i64 s7.ver) = _; rw [hi3]; rfl)
          clear hst2 hBa hb7 hB7 hb67 ho8 hO77 hrun7 hm8
          have hm2 : w8.cell? ⟨w5.heap.size, 2, none⟩ = some (.slice A 0 cap) := cell_of_heap ((hb68.block _ (Array.getElem?_eq_some_iff.1 hm6).1).trans hm6) (by rw [hs]; rfl)
          go_wp2_with fail
          go_loopg [151] (0) (fun m i wx => m = 0 ∧ i = .int .i64 0 ∧ Below w.heap.size w wx)
          case atStart => exact ⟨rfl, rfl, hB8⟩
          case round =>
            obtain ⟨rfl, rfl, hB9⟩ := hrel
            go_wp2_with fail
            go_ret
            exact ⟨rfl, hB9⟩
        · obtain ⟨d, rfl⟩ : ∃ d, j = d + 1 := ⟨j - 1, by omega⟩
          clear hj0
          obtain ⟨hsl, hrs, hsv, Lg, x, kk, hsegs, hLgl, hnone, hlim, hoff, hsc⟩ := all_run1 hs0 hs1 hrun
          obtain ⟨Ao, capo, rfl, hAo⟩ := Own.shape hob6
          have hrl : rs.length = d + 3 := by rw [hrs]; simp
          obtain ⟨go, rfl⟩ := hAo (by intro e; rw [e] at hrl; simp at hrl)
          have hb0 : w6.cell? ⟨go, d + 1, none⟩ = some (.bool true) := Bools.cell hob6 (by rw [hrs]; exact rep_at d 0 (by decide))
          have hb1 : w6.cell? ⟨go, d + 2, none⟩ = some (.bool true) := Bools.cell hob6 (by rw [hrs]; exact rep_at d 1 (by decide))
          rw [hsl] at hO7 hm6
          have hLd : L.length = d + 1 := by rw [hLl, hsl]
          obtain ⟨gs, capg, curg, hAg, _⟩ := (show Own Os.list 31 11 w6 w4.heap.size (.slice A (d + 1) cap) L from hO7).form (by intro e; rw [e] at hLd; simp at hLd)
          injection hAg with hAg h1x h2x
          clear h1x h2x
          subst hAg
          have hO7 : Own Os.list 31 11 w6 w4.heap.size (.slice (some ⟨gs, 0, none⟩) L.length cap) L := by rw [hLd]; exact hO7
          have hdL : d < L.length := by omega
          have hds : d < s.segs.length := by omega
          have hxd : (L[d]'hdL).x = x := by
            rw [(hT6.at_ d hdL hds).2.1]
            have : s.segs[d]? = some x := by rw [hsegs, List.getElem?_append_right (by omega), hLgl]; simp
            rw [List.getElem?_eq_getElem hds] at this
            exact Option.some.inj this
          have hl4 : w6.cell? ⟨gs, d * 11 + 4, none⟩ = some (.int .i64 5) := (Own.cells_at (k := 11) (fun _ => rfl) (by decide) (j := 4) hO7 hdL (by decide)).trans (by show some (Value.int .i64 (L[d]'hdL).x.lim) = _; rw [hxd, hlim])
          have hl5 : w6.cell? ⟨gs, d * 11 + 5, none⟩ = some (.int .i64 ((n : Int) / 512)) := (Own.cells_at (k := 11) (fun _ => rfl) (by decide) (j := 5) hO7 hdL (by decide)).trans (by show some (Value.int .i64 (L[d]'hdL).x.off) = _; rw [hxd, hoff])
          have hm2 : w6.cell? ⟨w5.heap.size, 2, none⟩ = some (.slice (some ⟨gs, 0, none⟩) (d + 1) cap) := cell_of_heap hm6 rfl
          have hm10 : w6.cell? ⟨w5.heap.size, 10, none⟩ = some (.int .i64 4) := cell_of_heap hm6 (by show some (Value.int .i64 s.ver) = _; rw [hsv]; rfl)
          have hd10 : d < 10 := by omega
          have HT := Lib.hid hT6
          have HX := Lib.hid (And.intro hsegs (And.intro hLgl (And.intro hnone hsc)))
          clear hrun hob6 hT6 hsegs hLgl hnone hsc hrs hlim hoff hxd hsv hAo hk hds hdL
          have HL := Lib.hid (And.intro hLd (And.intro hLl hsl))
          rw [hrl]
          clear hrl hLd hLl hsl
          rw [show d + 1 + 2 = d + 3 from rfl]
          go_upto_region 16 with fail
          clear hb0 hb1
          go_upto_region 18 with fail
          clear hl4 hl5 hm2 hm10
          have hst2 := steps_any cu hcu q [Sp.ifr] (some ⟨w6.heap.size, 0, none⟩) 1 (w6.alloc (Obj.cells (Sp.list q Sp.ifr).toArray 33)) (by decide) (by decide) ((Below.heap_alloc _ _ _ (Array.getElem?_eq_some_iff.1 hhq6).1).trans hhq6) (Own.fresh (cs := Sp.list q Sp.ifr) (n := 1) (sp_len q) (heap_alloc_new _ _) (Nat.zero_le _) (by simp [flat]) rfl (by decide)) (fun _ => ⟨_, rfl⟩)
          have hBa : Below w.heap.size w (w6.alloc (Obj.cells (Sp.list q Sp.ifr).toArray 33)) := hB6.alloc hsz6 _
          go_upto_region 19 with (first | (go_at_call 7; refine hst2.mono ?_; rintro e w7 ⟨t0, s7, rs7, ob7, ov7, A7, cap7, L7, rfl, ht0, ht1, ht2, hrun7, _, hO77, _, _, hb7⟩; have hi2 := (ifr_run ht0 ht1 hrun7).2.1; have hi3 := (ifr_run ht0 ht1 hrun7).2.2; clear ht0 ht1 ht2; have hB7 := hBa.trans (hb7.mono hBa.size); have hb67 : Below w6.heap.size w6 w7 := ((Below.refl _ _).alloc (Nat.le_refl _) _).trans (hb7.mono (by simp))) | (refine arm_store_blk 41 Tryd.isAgg41 Tryd.sizeOf41 (g := w7.heap.size) (cs := medc s7 A7 s7.segs.length cap7) rfl rfl (heap_alloc_new _ _) rfl rfl med_one ?_; intro w8 hm8 ho8))
          have hsz7 := hB7.size
          have hB8 : Below w.heap.size w w8 := (hB7.alloc hsz7 _).trans (ho8.below (by simp; omega) fun i hi e => by omega)
          have hb68 : Below w6.heap.size w6 w8 := (hb67.alloc hb67.size _).trans (ho8.below (by simp; have := hb67.size; omega) fun i hi e => by have := hb67.size; omega)
          have k4 : w8.cell? ⟨w7.heap.size, 4, none⟩ = some (.bool true) := cell_of_heap hm8 (by show some (Value.bool s7.ifr) = _; rw [hi2])
          have k10 : w8.cell? ⟨w7.heap.size, 10, none⟩ = some (.int .i64 4) := cell_of_heap hm8 (by show some (Value.int .i64 s7.ver) = _; rw [hi3]; rfl)
          clear hst2 hBa hb7 hB7 hb67 ho8 hO77 hrun7 hm8
          have hm2 : w8.cell? ⟨w5.heap.size, 2, none⟩ = some (.slice (some ⟨gs, 0, none⟩) (d + 1) cap) := cell_of_heap ((hb68.block _ (Array.getElem?_eq_some_iff.1 hm6).1).trans hm6) rfl
          have hO8 := hO7.below hb68
          have HT8 := Lib.hid (HT.out.keep fun oc v h => h.keep fun i hi => hb68.block i hi)
          have hh8 := (hb68.block g (Array.getElem?_eq_some_iff.1 hh6).1).trans hh6
          clear hO7 HT hb68 hh6 hhq6 hB6 hm6
          go_wp2_with fail
          clear hm2 k4 k10
          go_loopg [151] (d + 1) (fun m i wx => ∃ e : Nat, e ≤ d + 1 ∧ m = d + 1 - e ∧ i = .int .i64 e ∧ Below w8.heap.size w8 wx)
          case atStart => exact ⟨0, Nat.zero_le _, rfl, rfl, Below.refl _ _⟩
          case round =>
            obtain ⟨e, he, rfl, rfl, hB9⟩ := hrel
            by_cases hed : e < d + 1
            · have heL : e < L.length := by rw [HL.out.1]; exact hed
              have hO9 := hO8.below hB9
              go_upto_region 24 with (first | (refine arm_load_own (f := Os.list) 31 Tryd.isAgg31 Tryd.sizeOf31 (fun _ => rfl) (by decide) hO9 heL ?_ ?_; (· rfl)) | (refine arm_store_blk 31 Tryd.isAgg31 Tryd.sizeOf31 (g := wr.heap.size) (cs := (Os.list (L[e]'heL)).toArray) rfl rfl (heap_alloc_new _ _) rfl rfl (fun u hu => os_one _ u hu) ?_; intro w10 h10 ho10))
              have hb10 : Below wr.heap.size wr w10 := ((Below.refl _ _).alloc (Nat.le_refl _) _).trans (ho10.below (by simp) fun i hi e => by omega)
              have hB10 : Below w8.heap.size w8 w10 := hB9.trans (hb10.mono hB9.size)
              have hes : e < s.segs.length := by rw [HL.out.2.2]; exact hed
              obtain ⟨_, hx1, hx2⟩ := HT8.out.at_ e heL hes
              have hwd : IntKind.i64.wrap (d : Int) = d := by rw [IntKind.wrap_i64]; omega
              by_cases hld : e < d
              · have hnone : (s.segs[e]'hes).sc = none := by
                  have h1 : s.segs[e]? = Lg[e]? := by rw [HX.out.1, List.getElem?_append_left (by rw [HX.out.2.1]; exact hld)]
                  rw [List.getElem?_eq_getElem hes, List.getElem?_eq_getElem (by rw [HX.out.2.1]; exact hld)] at h1
                  rw [Option.some.inj h1]
                  exact HX.out.2.2.1 _ (List.getElem_mem _)
                rw [hnone] at hx2
                have hcv : (L[e]'heL).cv = .slice none 0 0 := hx2
                have k8 : w10.cell? ⟨wr.heap.size, 8, none⟩ = some (.slice none 0 0) := cell_of_heap h10 (by show some (Value.slice _ _ _) = _; rw [hcv])
                have i1 : decide ((e : Int) < d) = true := by rw [decide_eq_true_eq]; omega
                have i2 : ((e : Int) == d) = false := by rw [beq_eq_false_iff_ne]; omega
                have i3 : (e : Int) < d := by omega
                clear hx1 hx2 hcv hnone h10 ho10 hO9 hb10
                go_quiet (fail)
                go_wp2_with fail
                go_roundg (d + 1 - (e + 1))
                case measure => omega
                case rel => exact ⟨e + 1, by omega, rfl, by go_num, ⟨hB10.os, hB10.tape, hB10.output, hB10.size, hB10.block⟩⟩
              · obtain rfl : e = d := by omega
                have hsx : (s.segs[e]'hes).sc = some (kk, cu) := by
                  have h1 : s.segs[e]? = some x := by rw [HX.out.1, List.getElem?_append_right (by rw [HX.out.2.1]; exact Nat.le_refl _), HX.out.2.1]; simp
                  rw [List.getElem?_eq_getElem hes] at h1
                  rw [Option.some.inj h1]
                  exact HX.out.2.2.2
                rw [hsx] at hx2
                obtain ⟨q2, _, hcv, hq2⟩ := hx2
                have k8 : w10.cell? ⟨wr.heap.size, 8, none⟩ = some (.slice (some ⟨q2, 0, none⟩) 1 1) := cell_of_heap h10 (by show some (Value.slice _ _ _) = _; rw [hcv])
                have hq3 := (hB10.block q2 (Array.getElem?_eq_some_iff.1 hq2).1).trans hq2
                have hh10 := (hB10.block g (Array.getElem?_eq_some_iff.1 hh8).1).trans hh8
                obtain ⟨r1, u1, f1⟩ := eighth_some hc.tm
                obtain ⟨r2, u2, f2⟩ := eighth_some hc.el
                obtain rfl : r1 = cu.tm := Option.some.inj (u1.symm.trans hc5)
                obtain rfl : r2 = cu.el := Option.some.inj (u2.symm.trans hc6)
                refine r24 (b := wr.heap.size) (d := e) (q2 := q2) (g := g) (cu := cu) (sc := c) ?_ ?_ ?_ ?_ ?_ (by omega) k8 hq3 hc hh10 ⟨hc1, hc2, hc3, hc4, hc5, hc6⟩ f1 f2 ?_
                · rfl
                · rfl
                · rfl
                · rfl
                · rfl
                intro y156 y157 y158 y159 y160 y161 y162 y163 y164 y165 y166 y167 y168 y169 y170 y171 y172 y173 y174 y175 y176 y177 y178 y179 y180 y181 y182 y183 y184 y185 y186 y187 w11 hb11
                have hB11 : Below w8.heap.size w8 w11 := hB10.trans (hb11.mono hB10.size)
                clear hx1 hcv h10 ho10 hO9 hb10 hb11 k8 hq3 hh10 hq2 u1 u2 f1 f2
                go_frame
                go_wp2_with fail
                go_roundg (e + 1 - (e + 1))
                case measure => omega
                case rel => exact ⟨e + 1, by omega, rfl, by go_num, hB11⟩
            · have hee : e = d + 1 := by omega
              have hee2 : ((e : Nat) : Int) = (d : Int) + 1 := by omega
              clear hO8
              subst hee
              go_wp2_with fail
              go_ret
              exact ⟨rfl, hB8.trans (hB9.mono hB8.size)⟩
end Go.Proofs.YtbehijhpichniaaDoor
