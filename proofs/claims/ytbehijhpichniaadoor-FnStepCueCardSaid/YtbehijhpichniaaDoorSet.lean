/- The walks of (*MediaPlaylist).SetSCTE35, SetRange, SetIframeOnly. -/
import Derived.Test.YtbehijhpichniaaDoorApp
namespace Go.Proofs.YtbehijhpichniaaDoor
open Go.RowKit
def IsErr (w : World) (e : Ending) (w' : World) : Prop := ∃ t v, e = .returned (.iface t v) ∧ Below w.heap.size w w'
set_option maxRecDepth 100000 in
set_option maxHeartbeats 4000000 in
theorem scte_none (w : World) (P : Nat) (p : Option Addr) (hc : w.cell? ⟨P, 16, none⟩ = some (.int .u64 0)) : Calls Tryd.prog 25 #[.pointer (some ⟨P, 0, none⟩), .pointer p] w (IsErr w) := by
  go_enter Tryd.func25, Tryd.ntmps25
  go_wp2
  go_ret
  exact ⟨_, _, rfl, (Below.refl _ _).alloc (Nat.le_refl _) _⟩
def ScteEnd (w : World) (P SB tgt ver : Nat) (ifr : Bool) (gs : List Nat) (x : Sg) (d : Nat) (e : Ending) (w' : World) : Prop := e = .returned .nilIface ∧ Ap w P SB x.g (plc tgt SB ifr gs.length gs.length ver) (slots gs) (x.cells d) w'
set_option maxRecDepth 100000 in
set_option maxHeartbeats 4000000 in
theorem scte_raw (w : World) (P SB tgt ver : Nat) (ifr : Bool) (gs : List Nat) (x : Sg) (d : Nat) (hA : Ap w P SB x.g (plc tgt SB ifr gs.length gs.length ver) (slots gs) (x.cells d) w) (hl : gs.length ≤ 11) (hd : gs.length = d + 1) (hg : gs[d]? = some x.g) (c : Nat × Cu) :
    Calls Tryd.prog 25 #[.pointer (some ⟨P, 0, none⟩), .pointer (some ⟨c.1, 0, none⟩)] w (ScteEnd w P SB tgt ver ifr gs ⟨x.g, x.uri, x.lim, x.off, some c⟩ d) := by
  have hgl : ((gs.length : Nat) : Int) = (d : Int) + 1 := by omega
  have c16 : w.cell? ⟨P, 16, none⟩ = some (.int .u64 ((d : Int) + 1)) := by rw [← hgl]; exact cell_of_heap hA.hp rfl
  have c15 : w.cell? ⟨P, 15, none⟩ = some (.int .u64 ((d + 1 : Nat) : Int)) := by rw [Int.natCast_add, show ((1 : Nat) : Int) = 1 from rfl, ← hgl]; exact cell_of_heap hA.hp rfl
  have c13 : w.cell? ⟨P, 13, none⟩ = some (.int .u64 12) := cell_of_heap hA.hp rfl
  have c2 : w.cell? ⟨P, 2, none⟩ = some (.slice (some ⟨SB, 0, none⟩) 12 12) := cell_of_heap hA.hp rfl
  have hlast := last_any w.drew P d (by omega) c13 c15
  have kb : w.cell? ⟨SB, d, none⟩ = some (.pointer (some ⟨x.g, 0, none⟩)) := by
    refine cell_of_heap hA.hb ?_
    have hdl : d < gs.length := by omega
    rw [slots_get hdl]
    rw [List.getElem?_eq_getElem hdl] at hg
    rw [Option.some.inj hg]
  have hd12 : (d : Int) < 12 := by omega
  have e1 : ((d : Int) + 1 == 0) = false := by rw [beq_eq_false_iff_ne]; omega
  clear hgl c15 c13 hg
  go_enter Tryd.func25, Tryd.ntmps25
  go_upto_region 3 with fail
  go_still_tail 11, (by kernel_rfl)
  still_call hlast
  repeat still_step
  refine wpStill_nil ?_
  change wpList _ _ _ _ _ w.drew
  have hA2 := hA.drew
  clear hlast c16 c2 kb hA
  generalize w.drew = w2 at *
  have g9 : w2.cell? ⟨x.g, 9, none⟩ = some x.ptr := cell_of_heap hA2.hg rfl
  have gf : w2.frozen? ⟨x.g, 9, none⟩ = false := frozen_of_heap hA2.hg (i := 9) rfl
  go_wp2
  go_ret
  exact ⟨rfl, hA2.setG 9 _ rfl⟩
set_option maxRecDepth 100000 in
set_option maxHeartbeats 4000000 in
theorem range_none (w : World) (P : Nat) (l o : Int) (hc : w.cell? ⟨P, 16, none⟩ = some (.int .u64 0)) : Calls Tryd.prog 24 #[.pointer (some ⟨P, 0, none⟩), .int .i64 l, .int .i64 o] w (IsErr w) := by
  go_enter Tryd.func24, Tryd.ntmps24
  go_wp2
  go_ret
  exact ⟨_, _, rfl, (Below.refl _ _).alloc (Nat.le_refl _) _⟩
theorem Ap.version {w0 : World} {P SB g tgt tl ct ver : Nat} {ifr : Bool} {cB cG : Array Value} {wx : World} (h : Ap w0 P SB g (plc tgt SB ifr tl ct ver) cB cG wx) : Ap w0 P SB g (plc tgt SB ifr tl ct (max ver 4)) cB cG (if ver < 4 then wx.setCell ⟨P, 20, none⟩ (.int .u8 4) else wx) := by
  split
  · rw [Nat.max_eq_right (by omega)]; exact h.setP 20 _ rfl
  · rw [Nat.max_eq_left (by omega)]; exact h
/-- The last segment's place. -/
theorem Ap.lastp {w0 : World} {P SB g : Nat} {gs : List Nat} {cP cG : Array Value} {wx : World} {d : Nat} (h : Ap w0 P SB g cP (slots gs) cG wx) (hg : gs[d]? = some g) : wx.cell? ⟨SB, d, none⟩ = some (.pointer (some ⟨g, 0, none⟩)) := by
  refine cell_of_heap h.hb ?_
  obtain ⟨hdl, rfl⟩ := List.getElem?_eq_some_iff.1 hg
  exact slots_get hdl
set_option maxRecDepth 100000 in
set_option maxHeartbeats 4000000 in
theorem range_raw (w : World) (P SB tgt ver : Nat) (ifr : Bool) (gs : List Nat) (x : Sg) (d : Nat) (l o : Int) (hA : Ap w P SB x.g (plc tgt SB ifr gs.length gs.length ver) (slots gs) (x.cells d) w) (hl : gs.length ≤ 11) (hd : gs.length = d + 1) (hg : gs[d]? = some x.g) (hv : ver < 256) :
    Calls Tryd.prog 24 #[.pointer (some ⟨P, 0, none⟩), .int .i64 l, .int .i64 o] w (ScteEnd w P SB tgt (max ver 4) ifr gs ⟨x.g, x.uri, l, o, x.sc⟩ d) := by
  have hgl : ((gs.length : Nat) : Int) = (d : Int) + 1 := by omega
  have hgl2 : (((d + 1 : Nat)) : Int) = gs.length := by omega
  have c16 : w.cell? ⟨P, 16, none⟩ = some (.int .u64 ((d : Int) + 1)) := by rw [← hgl]; exact cell_of_heap hA.hp rfl
  have c20 : w.cell? ⟨P, 20, none⟩ = some (.int .u8 ver) := cell_of_heap hA.hp rfl
  have f20 : w.frozen? ⟨P, 20, none⟩ = false := frozen_of_heap hA.hp (i := 20) rfl
  have hvn := version_any w P ver hv c20 f20
  have hd12 : (d : Int) < 12 := by omega
  have e1 : ((d : Int) + 1 == 0) = false := by rw [beq_eq_false_iff_ne]; omega
  have hA1 := hA.version
  clear hgl c20 f20 hA
  generalize hw1 : (if ver < 4 then w.setCell ⟨P, 20, none⟩ (.int .u8 4) else w) = w1 at *
  clear hw1
  generalize max ver 4 = ver' at *
  go_enter Tryd.func24, Tryd.ntmps24
  go_upto_region 4 with (go_at_call 45; refine hvn.mono ?_; rintro e w' ⟨rfl, hw⟩; rw [hw]; clear hw)
  clear hvn c16
  have c2 : w1.cell? ⟨P, 2, none⟩ = some (.slice (some ⟨SB, 0, none⟩) 12 12) := cell_of_heap hA1.hp rfl
  have kb := hA1.lastp hg
  have hlast := last_any w1.drew P d (by omega) (cell_of_heap hA1.hp rfl) (by rw [hgl2]; exact cell_of_heap hA1.hp rfl)
  go_still_tail 11, (by kernel_rfl)
  still_call hlast
  repeat still_step
  refine wpStill_nil ?_
  change wpList _ _ _ _ _ w1.drew
  have hA2 := hA1.drew
  clear hlast c2 kb hA1
  generalize w1.drew = w2 at *
  have g4 : w2.cell? ⟨x.g, 4, none⟩ = some (.int .i64 x.lim) := cell_of_heap hA2.hg rfl
  have gf : w2.frozen? ⟨x.g, 4, none⟩ = false := frozen_of_heap hA2.hg (i := 4) rfl
  go_upto_region 5 with fail
  have hA3 := hA2.setG 4 (.int .i64 l) (cG' := Sg.cells ⟨x.g, x.uri, l, x.off, x.sc⟩ d) rfl
  clear g4 gf hA2
  generalize w2.setCell ⟨x.g, 4, none⟩ (.int .i64 l) = w3 at *
  have c2 : w3.cell? ⟨P, 2, none⟩ = some (.slice (some ⟨SB, 0, none⟩) 12 12) := cell_of_heap hA3.hp rfl
  have kb := hA3.lastp hg
  have hlast := last_any w3.drew P d (by omega) (cell_of_heap hA3.hp rfl) (by rw [hgl2]; exact cell_of_heap hA3.hp rfl)
  go_still_tail 11, (by kernel_rfl)
  still_call hlast
  repeat still_step
  refine wpStill_nil ?_
  change wpList _ _ _ _ _ w3.drew
  have hA4 := hA3.drew
  clear hlast c2 kb hA3
  generalize w3.drew = w4 at *
  have g5 : w4.cell? ⟨x.g, 5, none⟩ = some (.int .i64 x.off) := cell_of_heap hA4.hg rfl
  have gf : w4.frozen? ⟨x.g, 5, none⟩ = false := frozen_of_heap hA4.hg (i := 5) rfl
  go_wp2
  go_ret
  exact ⟨rfl, hA4.setG 5 _ rfl⟩
set_option maxRecDepth 100000 in
set_option maxHeartbeats 4000000 in
theorem iframe_raw (w : World) (P SB tgt ver tl ct : Nat) (ifr : Bool) (hp : w.heap[P]? = some (.cells (plc tgt SB ifr tl ct ver) 74 (0, 0))) (hv : ver < 256) :
    Calls Tryd.prog 28 #[.pointer (some ⟨P, 0, none⟩)] w (fun e w' => e = .returned (.tuple #[]) ∧ w'.heap[P]? = some (.cells (plc tgt SB true tl ct (max ver 4)) 74 (0, 0)) ∧ Only (fun i => i = P) w w') := by
  have c20 : w.cell? ⟨P, 20, none⟩ = some (.int .u8 ver) := cell_of_heap hp rfl
  have f20 : w.frozen? ⟨P, 20, none⟩ = false := frozen_of_heap hp (i := 20) rfl
  have hvn := version_any w P ver hv c20 f20
  have h1 : (if ver < 4 then w.setCell ⟨P, 20, none⟩ (.int .u8 4) else w).heap[P]? = some (.cells (plc tgt SB ifr tl ct (max ver 4)) 74 (0, 0)) := by
    split
    · rw [Nat.max_eq_right (by omega), heap_setCell_same hp]; rfl
    · rw [Nat.max_eq_left (by omega)]; exact hp
  have h2 : Only (fun i => i = P) w (if ver < 4 then w.setCell ⟨P, 20, none⟩ (.int .u8 4) else w) := by
    split
    · exact Only.of_setCell w ⟨P, 20, none⟩ _
    · exact Only.refl _ _
  clear c20 f20 hp
  generalize hw1 : (if ver < 4 then w.setCell ⟨P, 20, none⟩ (.int .u8 4) else w) = w1 at *
  clear hw1
  generalize max ver 4 = ver' at *
  go_enter Tryd.func28, Tryd.ntmps28
  go_upto_region 1 with (go_at_call 45; refine hvn.mono ?_; rintro e w' ⟨rfl, hw⟩; rw [hw]; clear hw)
  have c4 : w1.cell? ⟨P, 4, none⟩ = some (.bool ifr) := cell_of_heap h1 rfl
  have f4 : w1.frozen? ⟨P, 4, none⟩ = false := frozen_of_heap h1 (i := 4) rfl
  go_wp2
  go_end0
  refine ⟨rfl, by rw [heap_setCell_same h1]; rfl, ((h2.trans (Only.of_setCell w1 ⟨P, 4, none⟩ (.bool true))).mono fun i _ h => h.elim (fun x => x) (fun x => x))⟩
end Go.Proofs.YtbehijhpichniaaDoor
