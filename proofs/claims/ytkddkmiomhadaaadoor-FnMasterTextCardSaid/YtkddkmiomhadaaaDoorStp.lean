/- Arms for acts that are not laid open: one operation run; a round's appends in laws.masterOf. -/
import Derived.Test.YtkddkmiomhadaaaDoorBlk
namespace Go.Proofs.YtkddkmiomhadaaaDoor
open Go.RowKit
section
variable {P : Program} {ops : Array Oper} {rest : List Oper} {a : Act} {w w' : World} {Q : Exit → Act → World → Prop} {v : Value} {o : Oper}
theorem arm_run (hg : o.guard = none) (hr : (execOp a.eval o).run P w = .ok (.value v) w') (hK : wpList P ops Q rest (a.put o.dst v) w') : wpList P ops Q (o :: rest) a w := by
  refine wpList_plain hg fun K hK' => ?_
  unfold Oper.wp
  rw [hr]
  exact hK' _ _ hK
theorem arm_skip (hg : o.guard = none) (hd : o.dst = none) (hr : (execOp a.eval o).run P w = .ok .skip w') (hK : wpList P ops Q rest a w') : wpList P ops Q (o :: rest) a w := by
  refine wpList_plain hg fun K hK' => ?_
  unfold Oper.wp
  rw [hr]
  have e : a.put o.dst undef = a := by rw [hd]; rfl
  exact hK' _ _ (e.symm ▸ hK)
theorem ev_ne {d t : Nat} (h : d ≠ t) : (a.put (some d) v).eval (.tmp t) = a.eval (.tmp t) := Act.eval_put (by intro d' hd' e; cases hd'; cases e; exact h rfl)
theorem ev_eq {d : Nat} (h : d < a.tmps.size) : (a.put (some d) v).eval (.tmp d) = v := by simp [Act.eval, Act.put, h]
theorem size_put {d : Option Nat} : (a.put d v).tmps.size = a.tmps.size := by cases d <;> simp [Act.put]
end
def AtsOk (As : List At) : Prop := ∀ (j : Nat) y, As[j]? = some y → AtOk j y
theorem info_vt : (Tryd.prog.info? 48).map (fun i => (i.zero, i.size, i.bytes)) = some (some (.agg #[.string ⟨#[]⟩, .int .u32 0, .int .u32 0, .int .u32 0, .string ⟨#[]⟩, .int .u32 0, .int .u32 0, .string ⟨#[]⟩, .string ⟨#[]⟩, .string ⟨#[]⟩, .string ⟨#[]⟩, .string ⟨#[]⟩, .int .i64 0]), 13, 144) := by kernel_rfl
theorem info_bool : (Tryd.prog.info? 4).map (fun i => (i.zero, i.size, i.bytes)) = some (some (.bool false), 1, 1) := by kernel_rfl
/-- What laws.masterOf hands back: a playlist whose parts are such. -/
def MasterPost (w : World) (e : Ending) (w' : World) : Prop := ∃ (ver : Nat) (ind : Bool) (sA sV sF : Value) (As : List At) (Vs : List Vt) (Fs : List Bool), ver < 8 ∧ AtsOk As ∧ As.length ≤ 4 ∧ (∀ v ∈ Vs, VOk v) ∧ Vs.length ≤ 4 ∧ Fs.length = Vs.length ∧
  e = .returned (.tuple #[.agg #[.int .i64 ver, .bool ind, sA, sV], sF]) ∧ Own At.list 46 7 w' w.heap.size sA As ∧ Own Vt.list 48 13 w' w.heap.size sV Vs ∧ Own (fun b => [Value.bool b]) 4 1 w' w.heap.size sF Fs ∧ Below w.heap.size w w'
theorem Own.base {α : Type} {f : α → List Value} {e : TypeId} {k : Nat} {w : World} {B B' : Nat} {v : Value} {L : List α} (h : Own f e k w B v L) (hB : B' ≤ B) : Own f e k w B' v L := by
  refine ⟨h.1, ?_⟩
  rcases h.2 with h2 | ⟨g, cap, cur, hv, hb, r⟩
  · exact .inl h2
  · exact .inr ⟨g, cap, cur, hv, by omega, r⟩
/-- The variant under way, in its block. -/
def VtAt (b : Bool) (g : Nat) (wq wx : World) : Prop := ∃ y : Vt, VOk y ∧ (b = true → IsUri y.uri) ∧ wx.heap[g]? = some (.cells y.cells 48 (0, 0)) ∧ Below wq.heap.size wq wx
theorem VtAt.put {b : Bool} {g : Nat} {wq wx : World} {y : Vt} (hh : wx.heap[g]? = some (.cells y.cells 48 (0, 0))) (hb : Below wq.heap.size wq wx) (hg : wq.heap.size ≤ g) (i : Nat) (v : Value) (y' : Vt) (hy : VOk y') (hu : b = true → IsUri y'.uri)
    (hc : y.cells.setIfInBounds i v = y'.cells) : VtAt b g wq (wx.setCell ⟨g, i, none⟩ v) :=
  ⟨y', hy, hu, by rw [heap_setCell_same hh, hc], hb.trans ((Only.of_setCell wx ⟨g, i, none⟩ v).below hb.size (fun j hj => by show ¬ j = g; omega))⟩
theorem VtAt.put2 {b : Bool} {g : Nat} {wq wx : World} {y : Vt} (hh : wx.heap[g]? = some (.cells y.cells 48 (0, 0))) (hb : Below wq.heap.size wq wx) (hg : wq.heap.size ≤ g) (i j : Nat) (v u : Value) (y' : Vt) (hy : VOk y') (hu : b = true → IsUri y'.uri)
    (hc : (y.cells.setIfInBounds i v).setIfInBounds j u = y'.cells) : VtAt b g wq ((wx.setCell ⟨g, i, none⟩ v).setCell ⟨g, j, none⟩ u) :=
  ⟨y', hy, hu, by rw [heap_setCell_same (heap_setCell_same hh v), hc], (hb.trans ((Only.of_setCell wx ⟨g, i, none⟩ v).below hb.size (fun j hj => by show ¬ j = g; omega))).trans
    ((Only.of_setCell _ ⟨g, j, none⟩ u).below (Nat.le_trans hb.size (Only.of_setCell wx ⟨g, i, none⟩ v).size) (fun j hj => by show ¬ j = g; omega))⟩
def CellsAt (g : Nat) (wq wx : World) (cs : Array Value) : Prop := wx.heap[g]? = some (.cells cs 48 (0, 0)) ∧ Below wq.heap.size wq wx
theorem CellsAt.put {g : Nat} {wq wx : World} {cs : Array Value} (h : CellsAt g wq wx cs) (hg : wq.heap.size ≤ g) (i : Nat) (v : Value) : CellsAt g wq (wx.setCell ⟨g, i, none⟩ v) (cs.setIfInBounds i v) :=
  ⟨heap_setCell_same h.1 v, h.2.trans ((Only.of_setCell wx ⟨g, i, none⟩ v).below h.2.size (fun j hj => by show ¬ j = g; omega))⟩
theorem CellsAt.cast {g : Nat} {wq wx : World} {cs cs' : Array Value} (h : CellsAt g wq wx cs) (e : cs = cs') : CellsAt g wq wx cs' := e ▸ h
theorem frozen_of_heap {w : World} {g i : Nat} {cs : Array Value} {t : TypeId} {v : Value} (h : w.heap[g]? = some (.cells cs t (0, 0))) (hv : cs[i]? = some v) : w.frozen? ⟨g, i, none⟩ = false := by simp [World.frozen?, h]
theorem VOk.bare {y : Vt} (h : VOk y) (hu : IsUri y.uri) : VOk ⟨y.uri, y.program, y.bandwidth, y.average, y.codecs, y.width, y.height, ⟨#[]⟩, y.video, ⟨#[]⟩, ⟨#[]⟩, ⟨#[]⟩, 0⟩ :=
  ⟨h.uri, h.program, h.bandwidth, h.average, h.codecs, h.width, h.height, .inl rfl, h.video, .inl rfl, by simp [OneOf], by simp [OneOf], Nat.zero_le _⟩
theorem VOk.bare' {y : Vt} (h : VOk y) : VOk ⟨y.uri, y.program, y.bandwidth, y.average, y.codecs, y.width, y.height, ⟨#[]⟩, y.video, ⟨#[]⟩, ⟨#[]⟩, ⟨#[]⟩, 0⟩ :=
  ⟨h.uri, h.program, h.bandwidth, h.average, h.codecs, h.width, h.height, .inl rfl, h.video, .inl rfl, by simp [OneOf], by simp [OneOf], Nat.zero_le _⟩
theorem Ms.below' {w : World} {A : Option Addr} {len cap : Nat} {ver : Int} {ind : Bool} {sA sV sF : Value} {As : List At} {Vs : List Vt} {Fs : List Bool} {wx w1 : World} (h : Ms w A len cap ver ind sA sV sF As Vs Fs wx) (hb : Below wx.heap.size wx w1) : Ms w A len cap ver ind sA sV sF As Vs Fs w1 := by
  have hs := h.size
  exact ⟨(hb.block _ (by omega)).trans h.box, (hb.block _ (by omega)).trans h.res, (hb.block _ (by omega)).trans h.mst, h.alts.below hb, h.vars.below hb, h.frs.below hb, h.below.trans (hb.mono (by omega))⟩
theorem Ms.frs2 {w : World} {A : Option Addr} {len cap : Nat} {ver : Int} {ind : Bool} {sA sV sF : Value} {As : List At} {Vs : List Vt} {Fs : List Bool} {wx w2 : World} (h : Ms w A len cap ver ind sA sV sF As Vs Fs wx) (o2 : Only (fun g => sV.ownBlock = some g) wx w2) :
    Own (fun b => [Value.bool b]) 4 1 w2 (w.heap.size + 3) sF Fs := h.frs.only o2 (fun g hg => h.frs.ne_ h.vars (by decide) g hg)
/-- A round of the second loop: the variant and its flag are appended, and the playlist's field set. -/
theorem Ms.next {w : World} {A : Option Addr} {len cap : Nat} {ver : Int} {ind : Bool} {sA sV sF : Value} {As : List At} {Vs : List Vt} {Fs : List Bool} {w0 w2 w3 : World} {v2 v3 : Value} {y : Vt} {b : Bool} (h : Ms w A len cap ver ind sA sV sF As Vs Fs w0)
    (h2 : Own Vt.list 48 13 w2 (w.heap.size + 3) v2 (Vs ++ [y])) (o2 : Only (fun g => sV.ownBlock = some g) w0 w2) (h3 : Own (fun b => [Value.bool b]) 4 1 w3 (w.heap.size + 3) v3 (Fs ++ [b])) (o3 : Only (fun g => sF.ownBlock = some g) w2 w3) :
    Ms w A len cap ver ind sA v2 v3 As (Vs ++ [y]) (Fs ++ [b]) (w3.setCell ⟨w.heap.size + 2, 3, none⟩ v2) := by
  have hs := h.size
  have hs2 := o2.size
  have hs3 := o3.size
  have hV : ∀ g, sV.ownBlock = some g → w.heap.size + 3 ≤ g := fun g hg => (h.vars.block_lt g hg).1
  have hF : ∀ g, sF.ownBlock = some g → w.heap.size + 3 ≤ g := fun g hg => (h.frs.block_lt g hg).1
  have hk : ∀ g, g < w.heap.size + 3 → w3.heap[g]? = w0.heap[g]? := fun g hg => (o3.block g (by omega) (fun e => by have := hF g e; omega)).trans (o2.block g (by omega) (fun e => by have := hV g e; omega))
  have hk4 : ∀ g, g ≠ w.heap.size + 2 → (w3.setCell ⟨w.heap.size + 2, 3, none⟩ v2).heap[g]? = w3.heap[g]? := fun g hg => Below.heap_setCell _ _ _ _ hg
  have o4 := Only.of_setCell w3 ⟨w.heap.size + 2, 3, none⟩ v2
  have hm3 := (hk (w.heap.size + 2) (by omega)).trans h.mst
  refine ⟨(hk4 _ (by omega)).trans ((hk _ (by omega)).trans h.box), (hk4 _ (by omega)).trans ((hk _ (by omega)).trans h.res), (heap_setCell_same hm3 v2).trans rfl, ?_, ?_, ?_, ?_⟩
  · refine ((h.alts.only o2 fun g hg => h.alts.ne_ h.vars (by decide) g hg).only o3 fun g hg => ?_).only o4 fun g hg e => ?_
    · exact h.alts.ne_ h.frs (by decide) g hg
    · have := (h.alts.block_lt g hg).1
      have : g = w.heap.size + 2 := e
      omega
  · refine (h2.only o3 fun g hg => ?_).only o4 fun g hg e => ?_
    · exact h2.ne_ (h.frs2 o2) (by decide) g hg
    · have := (h2.block_lt g hg).1
      have : g = w.heap.size + 2 := e
      omega
  · refine h3.only o4 fun g hg e => ?_
    have := (h3.block_lt g hg).1
    have : g = w.heap.size + 2 := e
    omega
  · refine h.below.trans (((o2.below (by omega) (fun g hg e => ?_)).trans (o3.below (by omega) (fun g hg e => ?_))).trans (o4.below (by omega) (fun g hg e => ?_)))
    · have := hV g e; omega
    · have := hF g e; omega
    · have : g = w.heap.size + 2 := e
      omega

section
variable {ops : Array Oper} {rest : List Oper} {a : Act} {Q : Exit → Act → World → Prop} {ty0 ty1 ty2 ty3 ty4 ty5 ty6 ty7 ty8 ty9 ty10 ty11 : TypeId} {pos0 pos1 pos2 pos3 pos4 pos5 pos6 pos7 pos8 pos9 pos10 pos11 : String} {aft0 aft1 aft2 aft3 aft4 aft5 aft6 aft7 aft8 aft9 aft10 aft11 : Array Edge}
set_option maxHeartbeats 2000000 in
theorem round27 {w : World} {A : Option Addr} {len cap : Nat} {ver : Int} {ind : Bool} {sA sV sF : Value} {As : List At} {Vs : List Vt} {Fs : List Bool} {w0 : World} {g : Nat} {y : Vt} {bb : Bool} (hsz : a.tmps.size = 202) (e6 : a.eval (.tmp 6) = .pointer (some ⟨w.heap.size + 1 + 1, 0, none⟩))
    (e7 : a.eval (.tmp 7) = sF) (e14 : a.eval (.tmp 14) = .pointer (some ⟨g, 0, none⟩)) (e15 : a.eval (.tmp 15) = .bool bb) (hM : Ms w A len cap ver ind sA sV sF As Vs Fs w0) (hh : w0.heap[g]? = some (.cells y.cells 48 (0, 0))) (hV4 : Vs.length ≤ 4) (hF4 : Fs.length ≤ 4)
    (hK : ∀ (w2 : World) (v2 v3 : Value) (w' : World), Ms w A len cap ver ind sA v2 v3 As (Vs ++ [y]) (Fs ++ [bb]) w' → wpList Tryd.prog ops Q rest (((((((((((a.put (some 189) (.pointer (some ⟨w.heap.size + 1 + 1, 3, none⟩))).put (some 190) (sV)).put (some 191) (.agg y.cells)).put (some 192) (.slice (some ⟨w0.heap.size, 0, none⟩) 1 1)).put (some 193) (v2)).put (some 194) (sF)).put (some 195) (.bool bb)).put (some 196) (.slice (some ⟨w2.heap.size, 0, none⟩) 1 1)).put (some 197) (v3)).put (some 198) (.pointer (some ⟨w.heap.size + 1 + 1, 3, none⟩))).put (some 7) (v3)) w') :
    wpList Tryd.prog ops Q ({ dst := some 189, op := Op.fieldAddr 27 (.tmp 6) 3, type := ty0, pos := pos0, after := aft0, guard := none } :: { dst := some 190, op := Op.load 25 (.tmp 189), type := ty1, pos := pos1, after := aft1, guard := none } :: { dst := some 191, op := Op.load 48 (.tmp 14), type := ty2, pos := pos2, after := aft2, guard := none } :: { dst := some 192, op := Op.buildSlice 25 1 #[(0, .tmp 191)], type := ty3, pos := pos3, after := aft3, guard := none } :: { dst := some 193, op := Op.call { callee := Callee.builtin Builtin.append, args := #[.tmp 190, .tmp 192], argTypes := #[25, 25] }, type := ty4, pos := pos4, after := aft4, guard := none } :: { dst := some 194, op := Op.move (.tmp 7), type := ty5, pos := pos5, after := aft5, guard := none } :: { dst := some 195, op := Op.move (.tmp 15), type := ty6, pos := pos6, after := aft6, guard := none } :: { dst := some 196, op := Op.buildSlice 28 1 #[(0, .tmp 195)], type := ty7, pos := pos7, after := aft7, guard := none } :: { dst := some 197, op := Op.call { callee := Callee.builtin Builtin.append, args := #[.tmp 194, .tmp 196], argTypes := #[28, 28] }, type := ty8, pos := pos8, after := aft8, guard := none } :: { dst := some 198, op := Op.fieldAddr 27 (.tmp 6) 3, type := ty9, pos := pos9, after := aft9, guard := none } :: { dst := none, op := Op.store 25 (.tmp 198) (.tmp 193), type := ty10, pos := pos10, after := aft10, guard := none } :: { dst := some 7, op := Op.assign (.tmp 197), type := ty11, pos := pos11, after := aft11, guard := none } :: rest) a w0 := by
  obtain ⟨iV, hiV, hzV, hsV, hbV⟩ := info_parts info_vt
  obtain ⟨iF, hiF, hzF, hsF, hbF⟩ := info_parts info_bool
  have hs := hM.size
  have hc3 : w0.cell? ⟨w.heap.size + 1 + 1, 3, none⟩ = some sV := cell_of_heap hM.mst rfl
  have hVne : ¬ sV.ownBlock = some (w.heap.size + 2) := hM.vars.ne_blk hM.mst (by decide)
  have hFne : ¬ sF.ownBlock = some (w.heap.size + 2) := hM.frs.ne_blk hM.mst (by decide)
  refine arm_run rfl (v := .pointer (some ⟨w.heap.size + 1 + 1, 3, none⟩)) (w' := w0) ?_ ?_
  · simp only [execOp, e6]; go_simp
  refine arm_run rfl (v := sV) (w' := w0) ?_ ?_
  · simp only [execOp, ev_eq (a := a) (show 189 < a.tmps.size by rw [hsz]; decide)]; go_simp
  refine arm_load_blk 48 Tryd.isAgg48 Tryd.sizeOf48 (g := g) (cs := y.cells) ?_ hh rfl ?_
  · rw [ev_ne (by decide), ev_ne (by decide)]; exact e14
  refine arm_push (f := Vt.list) 25 Tryd.underlying25 iV _ 144 hiV hzV hsV hbV (by rfl) (by decide) (fun _ => rfl) vt_one y ?_ ?_ ?_ ?_ hM.vars ?_ ?_ ?_ ?_
  · simp only [execOp, List.map_toArray, List.map_cons, List.map_nil, ev_eq (a := ((a.put (some 189) (.pointer (some ⟨w.heap.size + 1 + 1, 3, none⟩))).put (some 190) sV)) (d := 191) (by simp only [size_put, hsz]; decide)]
    unfold Vt.cells Vt.list
    go_simp
  · rw [ev_ne (by decide), ev_eq (by simp only [size_put, hsz]; decide)]
  · simp
  · simp only [size_put, hsz]; decide
  · omega
  · omega
  · omega
  intro v2 w2 hown2 hon2 _
  have hs2 := hon2.size
  refine arm_run rfl (v := sF) (w' := w2) ?_ ?_
  · simp only [execOp, ev_ne (show (193 : Nat) ≠ 7 by decide), ev_ne (show (192 : Nat) ≠ 7 by decide), ev_ne (show (191 : Nat) ≠ 7 by decide), ev_ne (show (190 : Nat) ≠ 7 by decide), ev_ne (show (189 : Nat) ≠ 7 by decide), e7]; go_simp
  refine arm_run rfl (v := .bool bb) (w' := w2) ?_ ?_
  · simp only [execOp, ev_ne (show (194 : Nat) ≠ 15 by decide), ev_ne (show (193 : Nat) ≠ 15 by decide), ev_ne (show (192 : Nat) ≠ 15 by decide), ev_ne (show (191 : Nat) ≠ 15 by decide), ev_ne (show (190 : Nat) ≠ 15 by decide), ev_ne (show (189 : Nat) ≠ 15 by decide), e15]; go_simp
  refine arm_push (f := fun b => [Value.bool b]) 28 Tryd.underlying28 iF _ 1 hiF hzF hsF hbF (by rfl) (by decide) (fun _ => rfl) (by simp [Value.oneCell']) bb ?_ ?_ ?_ ?_ (hM.frs2 hon2) ?_ ?_ ?_ ?_
  · have x195 : ∀ a' : Act, 195 < a'.tmps.size → (a'.put (some 195) (.bool bb)).eval (.tmp 195) = .bool bb := fun a' h => ev_eq h
    simp only [execOp, List.map_toArray, List.map_cons, List.map_nil]
    rw [x195 _ (by simp only [size_put, hsz]; decide)]
    go_simp
  · rw [ev_ne (by decide), ev_eq (by simp only [size_put, hsz]; decide)]
  · simp
  · simp only [size_put, hsz]; decide
  · omega
  · omega
  · omega
  intro v3 w3 hown3 hon3 _
  have hm3 : w3.heap[w.heap.size + 2]? = some (.cells #[.int .i64 ver, .bool ind, sA, sV] 27 (0, 0)) := (hon3.block _ (by omega) hFne).trans ((hon2.block _ (by omega) hVne).trans hM.mst)
  have hcm : w3.cell? ⟨w.heap.size + 1 + 1, 3, none⟩ = some sV := cell_of_heap hm3 rfl
  have hfm : w3.frozen? ⟨w.heap.size + 1 + 1, 3, none⟩ = false := frozen_of_heap (i := 3) hm3 (v := sV) rfl
  obtain ⟨p2, l2, c2, rfl⟩ := hown2.slice
  refine arm_run rfl (v := .pointer (some ⟨w.heap.size + 1 + 1, 3, none⟩)) (w' := w3) ?_ ?_
  · simp only [execOp, ev_ne (show (197 : Nat) ≠ 6 by decide), ev_ne (show (196 : Nat) ≠ 6 by decide), ev_ne (show (195 : Nat) ≠ 6 by decide), ev_ne (show (194 : Nat) ≠ 6 by decide), ev_ne (show (193 : Nat) ≠ 6 by decide), ev_ne (show (192 : Nat) ≠ 6 by decide), ev_ne (show (191 : Nat) ≠ 6 by decide), ev_ne (show (190 : Nat) ≠ 6 by decide), ev_ne (show (189 : Nat) ≠ 6 by decide), e6]; go_simp
  refine arm_skip rfl rfl (w' := w3.setCell ⟨w.heap.size + 1 + 1, 3, none⟩ (.slice p2 l2 c2)) ?_ ?_
  · have x198 : ∀ a' : Act, 198 < a'.tmps.size → (a'.put (some 198) (.pointer (some ⟨w.heap.size + 1 + 1, 3, none⟩))).eval (.tmp 198) = .pointer (some ⟨w.heap.size + 1 + 1, 3, none⟩) := fun a' h => ev_eq h
    simp only [execOp]
    rw [x198 _ (by simp only [size_put, hsz]; decide), ev_ne (by decide), ev_ne (by decide), ev_ne (by decide), ev_ne (by decide), ev_ne (by decide), ev_eq (by simp only [size_put, hsz]; decide)]
    go_simp
  refine arm_run rfl (v := v3) (w' := w3.setCell ⟨w.heap.size + 1 + 1, 3, none⟩ (.slice p2 l2 c2)) ?_ ?_
  · simp only [execOp]
    rw [ev_ne (by decide), ev_eq (by simp only [size_put, hsz]; decide)]
    go_simp
  exact hK w2 _ _ _ (hM.next hown2 hon2 hown3 hon3)
theorem last29 {w : World} {A : Option Addr} {len cap : Nat} {ver : Int} {ind : Bool} {sA sV sF : Value} {As : List At} {Vs : List Vt} {Fs : List Bool} {w0 : World} (hsz : a.tmps.size = 202) (e6 : a.eval (.tmp 6) = .pointer (some ⟨w.heap.size + 1 + 1, 0, none⟩))
    (e4 : a.eval (.tmp 4) = .pointer (some ⟨w.heap.size + 1, 0, none⟩)) (e7 : a.eval (.tmp 7) = sF) (hM : Ms w A len cap ver ind sA sV sF As Vs Fs w0)
    (hK : ∀ (w' : World), w'.heap[w.heap.size + 1]? = some (.cells #[.int .i64 ver, .bool ind, sA, sV] 27 (0, 0)) → Only (fun g => g = w.heap.size + 1) w0 w' → wpList Tryd.prog ops Q rest (((a.put (some 200) (.agg #[.int .i64 ver, .bool ind, sA, sV])).put (some 201) sF).put (some 5) sF) w') :
    wpList Tryd.prog ops Q ({ dst := some 200, op := Op.load 27 (.tmp 6), type := ty0, pos := pos0, after := aft0, guard := none } :: { dst := some 201, op := Op.move (.tmp 7), type := ty1, pos := pos1, after := aft1, guard := none } ::
      { dst := none, op := Op.store 27 (.tmp 4) (.tmp 200), type := ty2, pos := pos2, after := aft2, guard := none } :: { dst := some 5, op := Op.assign (.tmp 201), type := ty3, pos := pos3, after := aft3, guard := none } :: rest) a w0 := by
  refine arm_load_blk 27 Tryd.isAgg27 Tryd.sizeOf27 (g := w.heap.size + 1 + 1) (cs := #[.int .i64 ver, .bool ind, sA, sV]) e6 hM.mst rfl ?_
  refine arm_run rfl (v := sF) (w' := w0) ?_ ?_
  · simp only [execOp]
    rw [ev_ne (by decide), e7]
    go_simp
  refine arm_store_blk 27 Tryd.isAgg27 Tryd.sizeOf27 (g := w.heap.size + 1) (cs := #[.int .i64 ver, .bool ind, sA, sV]) ?_ ?_ hM.res rfl rfl ?_ ?_
  · rw [ev_ne (by decide), ev_ne (by decide), e4]
  · rw [ev_ne (by decide), ev_eq (by rw [hsz]; decide)]
  · obtain ⟨pA, lA, cA, rfl⟩ := hM.alts.slice
    obtain ⟨pV, lV, cV, rfl⟩ := hM.vars.slice
    simp [Value.oneCell']
  intro w2 h2 ho2
  refine arm_run rfl (v := sF) (w' := w2) ?_ ?_
  · simp only [execOp]
    rw [ev_eq (by simp only [size_put, hsz]; decide)]
    go_simp
  exact hK w2 h2 ho2
theorem ret_master {P : Program} {w : World} {fn : Func} {tmps : Array Value} {g : Nat} {cs : Array Value} {sF : Value} {t : TypeId} (hagg : ∀ w, (isAgg t).run P w = .ok true w) (hk : ∀ w, (sizeOf t).run P w = .ok 4 w) (hf : fn.results = #[.cell 4 t, .tmp 5]) (h4 : tmps.getD 4 undef = .pointer (some ⟨g, 0, none⟩)) (h5 : tmps.getD 5 undef = sF)
    (hg : w.heap[g]? = some (.cells cs t (0, 0))) (hsz : cs.size = 4) : (results fn tmps).run P w = .ok (.tuple #[.agg cs, sF]) w := by
  have hr := run_load_blk (P := P) (w := w) t hagg hk hg hsz
  unfold results
  rw [hf]
  simp only [Array.getD_eq_getD_getElem?] at h4 h5
  simp [h4, h5, hr, asAddr]
theorem Ms.done {n : Nat} {w : World} {A : Option Addr} {len cap : Nat} {ver : Int} {ind : Bool} {sA sV sF : Value} {As : List At} {Vs : List Vt} {Fs : List Bool} {w0 w3 : World} (hM : Ms w A len cap ver ind sA sV sF As Vs Fs w0) (hver : (n : Int) % 8 = ver) (hA : AtsOk As) (hA4 : As.length ≤ 4) (hV : ∀ v ∈ Vs, VOk v)
    (hV4 : Vs.length ≤ 4) (hF : Fs.length = Vs.length) (o : Only (fun g => g = w.heap.size + 1) w0 w3) : MasterPost w (.returned (.tuple #[.agg #[.int .i64 ver, .bool ind, sA, sV], sF])) w3 := by
  have hs := hM.size
  have no : ∀ g, w.heap.size + 3 ≤ g → ¬ (g = w.heap.size + 1) := by omega
  refine ⟨n % 8, ind, sA, sV, sF, As, Vs, Fs, Nat.mod_lt _ (by decide), hA, hA4, hV, hV4, hF, ?_, ?_, ?_, ?_, ?_⟩
  · rw [← hver]; rfl
  · exact (hM.alts.only o fun g hg => no g (hM.alts.block_lt g hg).1).base (by omega)
  · exact (hM.vars.only o fun g hg => no g (hM.vars.block_lt g hg).1).base (by omega)
  · exact (hM.frs.only o fun g hg => no g (hM.frs.block_lt g hg).1).base (by omega)
  · exact hM.below.trans (o.below (by omega) (fun g hg => by omega))
end
end Go.Proofs.YtkddkmiomhadaaaDoor
