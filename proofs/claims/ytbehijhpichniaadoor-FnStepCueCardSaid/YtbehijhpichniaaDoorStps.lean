/- The walk of impl.Steps. -/
import Derived.Test.YtbehijhpichniaaDoorSp
import Derived.Test.YtbehijhpichniaaDoorMed
import Derived.Test.YtbehijhpichniaaDoorGas
namespace Go.Proofs.YtbehijhpichniaaDoor
open Go.RowKit
theorem ret_four {P : Program} {w : World} {fn : Func} {tmps : Array Value} {i j k l n g : Nat} {cs : Array Value} {t : TypeId} {x y z : Value} (hagg : ∀ w, (isAgg t).run P w = .ok true w) (hk : ∀ w, (sizeOf t).run P w = .ok n w) (hf : fn.results = #[.tmp i, .cell j t, .tmp k, .tmp l]) (h1 : tmps.getD i undef = x) (h4 : tmps.getD j undef = .pointer (some ⟨g, 0, none⟩))
    (h2 : tmps.getD k undef = y) (h3 : tmps.getD l undef = z) (hg : w.heap[g]? = some (.cells cs t (0, 0))) (hsz : cs.size = n) : (results fn tmps).run P w = .ok (.tuple #[x, .agg cs, y, z]) w := by
  have hr := run_load_blk (P := P) (w := w) t hagg hk hg hsz
  unfold results
  rw [hf]
  simp only [Array.getD_eq_getD_getElem?] at h1 h2 h3 h4
  simp [h1, h2, h3, h4, hr, asAddr]
def Bools (w : World) (B : Nat) (v : Value) (L : List Bool) : Prop := Own (fun b => [Value.bool b]) 4 1 w B v L
theorem info_bool : (Tryd.prog.info? 4).map (fun i => (i.zero, i.size, i.bytes)) = some (some (.bool false), 1, 1) := by kernel_rfl
theorem info_str : (Tryd.prog.info? 9).map (fun i => (i.zero, i.size, i.bytes)) = some (some (.string ⟨#[]⟩), 1, 16) := by kernel_rfl
/-- What impl.Steps hands back. -/
def StepsPost (cu : Cu) (LS : List Sp) (w : World) (e : Ending) (w' : World) : Prop := ∃ (s0 s : Pl) (rs : List Bool) (ob ov : Value) (A : Option Addr) (cap : Nat) (L : List Os),
  e = .returned (.tuple #[ob, .agg (medc s A s.segs.length cap), ov, .bool true]) ∧ s0.segs = [] ∧ s0.ver = 3 ∧ s0.ifr = false ∧ Run cu s0 LS s rs ∧ Bools w' w.heap.size ob rs ∧ Own Os.list 31 11 w' w.heap.size (.slice A s.segs.length cap) L ∧ L.length = s.segs.length ∧ Told w.heap.size s.segs L w' ∧ Below w.heap.size w w'
/-- Between two steps. -/
structure Sk (cu : Cu) (s0 : Pl) (LS : List Sp) (w : World) (B : Nat) (k : Nat) (ob : Value) (s : Pl) (rs : List Bool) (wx : World) : Prop where
  run : Run cu s0 (LS.take k) s rs
  pl : PlAt B s wx
  bools : Bools wx B ob rs
  P : s.P = s0.P
  below : Below B w wx
theorem Sp.rel_P {cu : Cu} {t : Sp} {s s' : Pl} {r : Bool} (h : t.rel cu s s' r) : s'.P = s.P := by
  cases t with
  | app uri => obtain ⟨_, g, rfl⟩ := h; rfl
  | cue => obtain ⟨_, ⟨_, rfl⟩ | ⟨L, x, k, _, rfl⟩⟩ := h <;> rfl
  | rng l o => obtain ⟨_, ⟨_, rfl⟩ | ⟨L, x, _, rfl⟩⟩ := h <;> rfl
  | ifr => obtain ⟨_, rfl⟩ := h; rfl
theorem InPl.tag {B : Nat} {s : Pl} {w : World} (h : PlAt B s w) {i : Nat} (hi : InPl s i) {cs : Array Value} {t : TypeId} {fr : Nat × Nat} (hc : w.heap[i]? = some (.cells cs t fr)) (h1 : t ≠ 74) (h2 : t ≠ 60) (h3 : t ≠ 65) : False := by
  rcases hi with e | e | ⟨x, hx, e⟩
  · exact tag_ne hc h.pl h1 e
  · exact tag_ne hc h.sb h2 e
  · obtain ⟨j, hj, rfl⟩ := List.mem_iff_getElem.1 hx
    exact tag_ne hc (h.seg j hj) h3 e
theorem InPl.low {B : Nat} {s : Pl} {w : World} (h : PlAt B s w) {i : Nat} (hi : InPl s i) : B ≤ i := by
  rcases hi with e | e | ⟨x, hx, e⟩
  · rw [e]; exact h.low.1
  · rw [e]; exact h.low.2.1
  · rw [e]; exact h.low.2.2 x hx
/-- A push into the answers' slice turns no block of the playlist. -/
theorem PlAt.only2 {w w' : World} {B B' : Nat} {v : Value} {L : List Bool} {s : Pl} (hp : PlAt B s w) (h : Bools w B' v L) (ho : Only (fun g => v.ownBlock = some g) w w') : PlAt B s w' := by
  have k : ∀ {g : Nat} {cs : Array Value} {t : TypeId} {fr : Nat × Nat}, w.heap[g]? = some (.cells cs t fr) → t ≠ 4 → w'.heap[g]? = some (.cells cs t fr) := fun hg ht => (ho.block _ (Array.getElem?_eq_some_iff.1 hg).1 (fun e => by
    obtain ⟨cur, hc⟩ := Own.elem h _ e
    exact tag_ne hg hc ht rfl)).trans hg
  exact ⟨k hp.pl (by decide), k hp.sb (by decide), fun j hj => k (hp.seg j hj) (by decide), fun x hx g c e => ⟨(hp.sct x hx g c e).1, k (hp.sct x hx g c e).2 (by decide)⟩, hp.nodup, hp.low, hp.len⟩
theorem Bools.pl {w w' : World} {B B' : Nat} {v : Value} {L : List Bool} {s : Pl} (h : Bools w B' v L) (hp : PlAt B s w) (ho : Only (InPl s) w w') : Bools w' B' v L := Own.only h ho fun g hg hi => by
  obtain ⟨cur, hc⟩ := Own.elem h g hg
  exact InPl.tag hp hi hc (by decide) (by decide) (by decide)
set_option maxRecDepth 100000 in
set_option maxHeartbeats 8000000 in
theorem steps_any (cu : Cu) (hcu : cu.syn < 100 ∧ cu.typ < 100) (q : Nat) (LS : List Sp) (A : Option Addr) (cap : Nat) (w : World) (hn : LS.length ≤ 200) (ha : LS.countP Sp.isApp ≤ 11) (hq : w.heap[q]? = some (.cells cu.list.toArray 46 (0, 0)))
    (hL : Own (Sp.list q) 33 13 w 0 (.slice A LS.length cap) LS) (hA : LS ≠ [] → ∃ g, A = some ⟨g, 0, none⟩) :
    Calls Tryd.prog 7 #[.int .i64 0, .int .i64 12, .slice A LS.length cap] w (StepsPost cu LS w) := by
  obtain ⟨iB, hiB, hzB, hsB, hbB⟩ := info_parts info_bool
  obtain ⟨iS, hiS, hzS, hsS, hbS⟩ := info_parts info_str
  have hnew := new_any
  go_enter Tryd.func7, Tryd.ntmps7
  go_wp2_with (go_at_call 9; refine (hnew _).mono ?_; rintro e w1 ⟨rfl, hp0, hb0⟩)
  have hal : Below (w.heap.size + 1) (w.alloc (Obj.cells #[.float .f64 0, .int .u64 0, .slice none 0 0, .string ⟨#[]⟩, .bool false, .bool false, .int .i64 0, .int .u64 0, .float .f64 0, .bool false, .int .i64 0, .slice none 0 0, .slice none 0 0, .int .i64 0] 41)) w1 := hb0.mono (by simp)
  have hm1 : w1.heap[w.heap.size]? = some (.cells #[.float .f64 0, .int .u64 0, .slice none 0 0, .string ⟨#[]⟩, .bool false, .bool false, .int .i64 0, .int .u64 0, .float .f64 0, .bool false, .int .i64 0, .slice none 0 0, .slice none 0 0, .int .i64 0] 41 (0, 0)) := (hal.block _ (by omega)).trans (heap_alloc_new _ _)
  have hbw1 : Below w.heap.size w w1 := ((Below.refl _ _).alloc (Nat.le_refl _) _).trans (hal.mono (by omega))
  have hsz1 : w.heap.size + 1 ≤ w1.heap.size := by simpa using hal.size
  obtain ⟨s0, hs0⟩ : ∃ s0, s0 = newPl (w.alloc (Obj.cells #[.float .f64 0, .int .u64 0, .slice none 0 0, .string ⟨#[]⟩, .bool false, .bool false, .int .i64 0, .int .u64 0, .float .f64 0, .bool false, .int .i64 0, .slice none 0 0, .slice none 0 0, .int .i64 0] 41)) := ⟨_, rfl⟩
  rw [← hs0] at hp0
  have hsP : s0.P = w.heap.size + 1 := by rw [hs0]; simp [newPl]
  have hss : s0.segs = [] ∧ s0.ver = 3 ∧ s0.ifr = false ∧ s0.tgt = 0 := by rw [hs0]; exact ⟨rfl, rfl, rfl, rfl⟩
  have hp0 : PlAt (w.heap.size + 1) s0 w1 := by simpa using hp0
  clear hs0 hal hb0 hnew
  have hi0 : PlInv cu 0 s0 := ⟨.inl hss.2.2.2, by rw [hss.2.1]; decide, by rw [hss.1]; rfl, by rw [hss.1]; intro x hx; simp at hx⟩
  go_loopg [12, 54] (LS.length) (fun m ob i wx => ∃ (k : Nat) (s : Pl) (rs : List Bool), k ≤ LS.length ∧ m = LS.length - k ∧ i = .int .i64 k ∧ Sk cu s0 LS w1 (w.heap.size + 1) k ob s rs wx)
  case atStart => exact ⟨0, s0, [], Nat.zero_le _, rfl, rfl, ⟨by rw [List.take_zero]; exact .nil, hp0, Own.nil _ _ _ _ _, rfl, Below.refl _ _⟩⟩
  case round =>
    obtain ⟨k, s, rs, hk, rfl, rfl, hS⟩ := hrel
    have hbw : Below w.heap.size w wr := hbw1.trans (hS.below.mono (by omega))
    have hLr := hL.below hbw
    by_cases hlt : k < LS.length
    · obtain ⟨gL, rfl⟩ := hA (by intro e; rw [e] at hlt; simp at hlt)
      have hqr := (hbw.block q (Array.getElem?_eq_some_iff.1 hq).1).trans hq
      have hcnt : (LS.take k).countP Sp.isApp ≤ 11 := Nat.le_trans (List.Sublist.countP_le (List.take_sublist k LS)) ha
      have hcnt2 : (LS.take (k + 1)).countP Sp.isApp ≤ 11 := Nat.le_trans (List.Sublist.countP_le (List.take_sublist (k + 1) LS)) ha
      have htk := List.take_succ_eq_append_getElem hlt
      have hinv := hS.run.inv hi0
      go_upto_region 10 with (first | (refine arm_load_own (f := Sp.list q) 33 Tryd.isAgg33 Tryd.sizeOf33 (sp_len q) (by decide) hLr hlt ?_ ?_; (· rfl); generalize LS[k]'hlt = t at *) | (refine arm_store_blk 33 Tryd.isAgg33 Tryd.sizeOf33 (g := wr.heap.size) (cs := t.cells q) rfl rfl (heap_alloc_new _ _) (sp_len q t) rfl (sp_one q t) ?_; intro w3 h3 ho3))
      have hb3 : Below wr.heap.size wr w3 := ((Below.refl _ _).alloc (Nat.le_refl _) _).trans (ho3.below (by simp) (fun g hg e => by omega))
      have hszr : w.heap.size + 1 ≤ wr.heap.size := Nat.le_trans hsz1 hS.below.size
      have hsz3 : w.heap.size + 1 ≤ w3.heap.size := Nat.le_trans hszr hb3.size
      have hst := step_any (w.heap.size + 1) s t cu q w3 _ (hS.pl.below hb3) hsz3 hinv (by
        intro h
        rw [htk, List.countP_append] at hcnt2
        simp [h] at hcnt2
        omega) ((hb3.block q (Array.getElem?_eq_some_iff.1 hqr).1).trans hqr) hcu
      rw [hS.P, hsP] at hst
      have hpl3 := hS.pl.below hb3
      have hBl : Below (w.heap.size + 1) w1 w3 := hS.below.trans (hb3.mono hszr)
      have hBo : Bools w3 (w.heap.size + 1) u12 rs := hS.bools.below hb3
      have hrun := hS.run
      have hsPs := hS.P
      have hrl : rs.length ≤ 1000 := by rw [hrun.len, List.length_take]; omega
      clear hS hLr hqr hcnt hcnt2 hinv ho3 hb3 hszr hbw
      go_upto_region 11 with (first | (refine arm_load_blk 33 Tryd.isAgg33 Tryd.sizeOf33 (g := wr.heap.size) (cs := t.cells q) rfl h3 (sp_len q t) ?_) | (go_at_call 10; refine hst.mono ?_; rintro e w4 ⟨r, s', rfl, hr, hp4, hb4⟩))
      have hp3 := hpl3
      have hB4 := hBo.pl hp3 hb4
      have hbl4 : Below (w.heap.size + 1) w3 w4 := hb4.below hsz3 fun g hg hi => by have := hi.low hp3; omega
      have hBl4 := hBl.trans hbl4
      have hsz4 := Nat.le_trans hsz3 hbl4.size
      have hrun2 : Run cu s0 (LS.take (k + 1)) s' (rs ++ [r]) := by rw [htk]; exact .snoc hrun hr
      have hP2 : s'.P = s0.P := (Sp.rel_P hr).trans hsPs
      clear hBo hBl hb4 hbl4 hpl3 hp3 hr hrun h3
      go_wp2_with (refine arm_push (f := fun b => [Value.bool b]) 38 Tryd.underlying38 iB _ 1 hiB hzB hsB hbB (by rfl) (by decide) (fun _ => rfl) (by simp [Value.oneCell']) r ?_ rfl ?_ ?_ hB4 ?_ ?_ ?_ ?_; (· go_simp); (· simp); (· simp); (· exact hsz4); (· omega); (· omega); intro v2 w5 ho2 hon2 _)
      have hp5 : PlAt (w.heap.size + 1) s' w5 := hp4.only2 hB4 hon2
      have hbl5 : Below (w.heap.size + 1) w1 w5 := hBl4.trans (hon2.below hsz4 fun g hg e => by have := (Own.block_lt hB4 g e).1; omega)
      clear hB4 hon2 hp4 hBl4
      go_roundg (LS.length - (k + 1))
      case measure => omega
      case rel => exact ⟨k + 1, s', _, by omega, rfl, by go_num, ⟨hrun2, hp5, ho2, hP2, hbl5⟩⟩
    · obtain rfl : k = LS.length := by omega
      rename World => w5
      have hPP := hS.P.trans hsP
      have hpl := hS.pl
      have hbo := hS.bools
      have hrun := hS.run
      have hblw := hS.below
      rw [List.take_length] at hrun
      have hinv := hrun.inv hi0
      have hgs := allSegs_any _ s w5 hpl
      rw [hPP] at hgs
      have hszr : w.heap.size + 1 ≤ w5.heap.size := Nat.le_trans hsz1 hS.below.size
      clear hS hLr hlt hq hL hA hp0
      go_wp2_with (go_at_call 11; refine hgs.mono ?_; rintro e w6 ⟨v, rfl, hv, hb6⟩; obtain ⟨Av, capv, rfl, hAv⟩ := hv.shape; rw [List.length_map] at *)
      have hlen := hpl.len
      go_loopg [17, 75] (s.segs.length) (fun m ov i wx => ∃ (k : Nat) (U : List ByteArray), k ≤ s.segs.length ∧ m = s.segs.length - k ∧ i = .int .i64 k ∧ Own (fun u => [Value.string u]) 9 1 wx w5.heap.size ov U ∧ U.length ≤ k ∧ Below w5.heap.size w5 wx ∧ Ptrs wx w5.heap.size (.slice Av s.segs.length capv) (s.segs.map Sg.g))
      case atStart => exact ⟨0, [], Nat.zero_le _, rfl, rfl, Own.nil _ _ _ _ _, Nat.le_refl _, hb6, hv⟩
      case round =>
        obtain ⟨k, U, hk, rfl, rfl, hU, hUl, hB7, hv7⟩ := hrel
        have hp7 := hpl.below hB7
        by_cases hlt : k < s.segs.length
        · obtain ⟨gv, rfl⟩ := hAv (by intro e; rw [List.map_eq_nil_iff] at e; rw [e] at hlt; simp at hlt)
          have hpt : wr.cell? ⟨gv, k, none⟩ = some (.pointer (some ⟨(s.segs[k]'hlt).g, 0, none⟩)) := by
            have h1 := hv7
            rw [show s.segs.length = (s.segs.map Sg.g).length by simp] at h1
            have h2 := Own.cells_at (k := 1) (fun _ => rfl) (by decide) (i := k) (j := 0) h1 (by simpa using hlt) (by decide)
            simpa using h2
          have hur : wr.cell? ⟨(s.segs[k]'hlt).g, 2, none⟩ = some (.string (s.segs[k]'hlt).uri) := cell_of_heap (hp7.seg k hlt) rfl
          have hUl2 : U.length ≤ 1000 := by omega
          have hsz7 := hB7.size
          generalize (s.segs[k]'hlt) = x at *
          clear hgs hpl hp7 hrun hinv hv hi0 hbo
          go_wp2_with (refine arm_push (f := fun u => [Value.string u]) 42 Tryd.underlying42 iS _ 16 hiS hzS hsS hbS (by rfl) (by decide) (fun _ => rfl) (by simp [Value.oneCell']) x.uri ?_ rfl ?_ ?_ hU ?_ ?_ ?_ ?_; (· go_simp); (· simp); (· simp); (· exact hsz7); (· omega); (· omega); intro v2 w8 ho2 hon2 _)
          have hB8 : Below w5.heap.size w5 w8 := hB7.trans (hon2.below hsz7 fun g hg e => by have := (Own.block_lt hU g e).1; omega)
          have hv8 : Ptrs w8 w5.heap.size (.slice (some ⟨gv, 0, none⟩) s.segs.length capv) (s.segs.map Sg.g) := Own.only hv7 hon2 fun g hg => Own.ne_ hv7 hU (by decide) g hg
          clear hU hB7 hv7 hon2 hpt hur
          go_roundg (s.segs.length - (k + 1))
          case measure => omega
          case rel => exact ⟨k + 1, _, by omega, rfl, by go_num, ho2, by simp; omega, hB8, hv8⟩
        · have hmed := mediaOf_any _ s wr hp7 hinv.ver (fun x hx k c e => by rw [hinv.sc x hx k c e]; exact hcu)
          rw [hPP] at hmed
          have hbb : Bools wr (w.heap.size + 1) u12 rs := Own.below hbo hB7
          have hm7 : wr.heap[w.heap.size]? = _ := (hB7.block w.heap.size (by omega)).trans ((hblw.block w.heap.size (by omega)).trans hm1)
          have hblw7 : Below w.heap.size w wr := (hbw1.trans (hblw.mono (by omega))).trans (hB7.mono (by omega))
          clear hgs hpl hv7 hv hU hB7 hbo hm1 hbw hbw1 hblw hp7
          go_wp2_with (first | (go_at_call 12; refine hmed.mono ?_; rintro e w9 ⟨A9, cap9, L, rfl, hO, hLl, hT, hb9⟩; have hm9 := (hb9.block w.heap.size (Array.getElem?_eq_some_iff.1 hm7).1).trans hm7) | (refine arm_store_blk 41 Tryd.isAgg41 Tryd.sizeOf41 (g := w.heap.size) (cs := medc s A9 s.segs.length cap9) rfl rfl hm9 rfl rfl med_one ?_; intro w10 h10 ho10))
          have hsz9 := hblw7.size
          refine bodyPost_ret (ret_four Tryd.isAgg41 Tryd.sizeOf41 rfl rfl rfl rfl rfl h10 rfl) rfl ?_
          refine ⟨s0, s, rs, _, _, A9, cap9, L, rfl, hss.1, hss.2.1, hss.2.2.1, hrun, ?_, ?_, hLl, ?_, ?_⟩
          · have h1 : Bools w9 (w.heap.size + 1) u12 rs := Own.below hbb hb9
            have h2 : Bools w10 (w.heap.size + 1) u12 rs := Own.only h1 ho10 fun g hg e => by have := (Own.block_lt h1 g hg).1; omega
            exact h2.base (by omega)
          · exact (hO.only ho10 fun g hg e => hO.ne_blk hm9 (by decide) (e ▸ hg)).base hsz9
          · exact (hT.keep fun oc v h => h.only1 hm9 (by decide) ho10).base hsz9
          · exact (hblw7.trans (hb9.mono hsz9)).trans (ho10.below (Nat.le_trans hsz9 hb9.size) fun g hg e => by omega)
end Go.Proofs.YtbehijhpichniaaDoor
