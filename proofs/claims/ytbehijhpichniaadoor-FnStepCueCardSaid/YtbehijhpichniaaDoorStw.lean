/- The walks of impl.segmentTo and impl.plainNumber. -/
import Derived.Test.YtbehijhpichniaaDoorSto
namespace Go.Proofs.YtbehijhpichniaaDoor
open Go.RowKit
set_option maxRecDepth 100000 in
set_option maxHeartbeats 8000000 in
theorem segmentTo_any (dur : Nat) (uri : ByteArray) (lim off : Int) (oc : Option Cu) (cv : Value) (w : World) (hcv : CuesAt oc cv w) (hs : ∀ c, oc = some c → c.syn < 100 ∧ c.typ < 100) : Calls Tryd.prog 14 #[.agg (segv dur uri lim off cv)] w (StoPost dur uri lim off oc w) := by
  have hb := heap_alloc_new w (Obj.cells (segv dur uri lim off cv) 31)
  have hal : Below w.heap.size w (w.alloc (Obj.cells (segv dur uri lim off cv) 31)) := (Below.refl _ _).alloc (Nat.le_refl _) _
  cases oc with
  | none =>
    obtain rfl := hcv
    go_enter Tryd.func14, Tryd.ntmps14
    go_upto_region 1 with fail
    refine sto_none (b := w.heap.size) (dur := dur) (uri := uri) (lim := lim) (off := off) ?_ ?_ hb ?_
    · rfl
    · rfl
    intro y3 y4 y5 y6 y7 y8 y9 y10 y11 y12 y13 y14 y15 y16 y17 y18 y19 y20 y21 y22 y23 y24 y25 y26  p g w' hg h1 h2 h3
    go_frame
    go_wp2
    go_ret
    exact ⟨g, p, Nat.le_trans hal.size hg, rfl, h1, h2, hal.trans (h3.mono hal.size)⟩
  | some cu =>
    obtain ⟨q, rfl, hq⟩ := hcv
    have hq2 := (hal.block q (Array.getElem?_eq_some_iff.1 hq).1).trans hq
    go_enter Tryd.func14, Tryd.ntmps14
    go_upto_region 1 with fail
    refine sto_some (b := w.heap.size) (dur := dur) (uri := uri) (lim := lim) (off := off) (q := q) (cu := cu) hq2 hs ?_ ?_ hb ?_
    · rfl
    · rfl
    intro y3 y4 y5 y6 y7 y8 y9 y10 y11 y12 y13 y14 y15 y16 y17 y18 y19 y20 y21 y22 y23 y24 y25 y26  p g w' hg h1 h2 h3
    go_frame
    go_wp2
    go_ret
    obtain ⟨k, hk, hv, hh⟩ := h2
    exact ⟨g, p, Nat.le_trans hal.size hg, rfl, h1, ⟨k, Nat.le_trans hal.size hk, hv, hh⟩, hal.trans (h3.mono hal.size)⟩
def isDur (d : Nat) : Prop := d = 0 ∨ d = 4607182418800017408
theorem plain_any (d : Nat) (hd : isDur d) (w : World) : Calls Tryd.prog 15 #[.float .f64 d] w (fun e w' => e = .returned (.bool true) ∧ w' = w) := by
  rcases hd with rfl | rfl
  all_goals
    go_enter Tryd.func15, Tryd.ntmps15
    go_wp2
    go_ret
    exact ⟨rfl, rfl⟩
end Go.Proofs.YtbehijhpichniaaDoor
