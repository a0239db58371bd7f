/- Operations on memory over frames that are not laid open: a field read, a new block, a block stored, a cell stored, an append, a call. -/
import Derived.Test.YtkddkmiomhadaaaDoorEvr
import Derived.Test.YtkddkmiomhadaaaDoorBlk
namespace Go.Proofs.YtkddkmiomhadaaaDoor
open Go.RowKit
theorem run_andValue'' {sm : Sem Value} {w w' : World} {v : Value} (h : sm.run Tryd.prog w = .ok v w') : (do pure (Next.value (← sm)) : Sem Next).run Tryd.prog w = .ok (.value v) w' := by
  simp [h, Result.andThen]
section
variable {N : Nat} {l : List (Nat × Value)} {a : Act} {w : World} {ops : Array Oper} {rest : List Oper} {o : Oper} {Q : Exit → Act → World → Prop} {d d1 d2 : Nat} {v u : Value} {x y : Operand} {ty ty1 ty2 : TypeId} {ps ps1 ps2 : String} {af af1 af2 : Array Edge}
/-- A field read: its place, its value. -/
theorem ev_fld {T k T' g i j : Nat} {t : Nat} (h : Ev N l a) (hx : a.eval (.tmp t) = pt g i) (hfa : Fa T k g i j) (hL : Ld T') (hc : w.cell? ⟨g, j, none⟩ = some v) (h1 : d1 < N) (h2 : d2 < N)
    (hK : ∀ a', Ev N ((d2, v) :: (d1, pt g j) :: l) a' → wpList Tryd.prog ops Q rest a' w) :
    wpList Tryd.prog ops Q (⟨some d1, .fieldAddr T (.tmp t) k, ty1, ps1, af1, none⟩ :: ⟨some d2, .load T' (.tmp d1), ty2, ps2, af2, none⟩ :: rest) a w := by
  refine ev_run (v := pt g j) (w' := w) h rfl rfl h1 (by simp only [execOp, hx]; exact run_andValue (hfa w)) ?_
  intro a' h'
  exact ev_run (v := v) (w' := w) h' rfl rfl h2 (by simp only [execOp, h'.get d1 look_eq]; exact run_andValue (hL w _ _ hc)) hK
theorem ev_mv {t : Nat} (h : Ev N l a) (hx : a.eval (.tmp t) = v) (hd : d < N) (hK : ∀ a', Ev N ((d, v) :: l) a' → wpList Tryd.prog ops Q rest a' w) :
    wpList Tryd.prog ops Q (⟨some d, .move (.tmp t), ty, ps, af, none⟩ :: rest) a w := ev_run (v := v) (w' := w) h rfl rfl hd (by simp only [execOp, hx]; rfl) hK
theorem ev_as {t : Nat} (h : Ev N l a) (hx : a.eval (.tmp t) = v) (hd : d < N) (hK : ∀ a', Ev N ((d, v) :: l) a' → wpList Tryd.prog ops Q rest a' w) :
    wpList Tryd.prog ops Q (⟨some d, .assign (.tmp t), ty, ps, af, none⟩ :: rest) a w := ev_run (v := v) (w' := w) h rfl rfl hd (by simp only [execOp, hx]; rfl) hK
theorem ev_ac (h : Ev N l a) (hd : d < N) (hK : ∀ a', Ev N ((d, v) :: l) a' → wpList Tryd.prog ops Q rest a' w) :
    wpList Tryd.prog ops Q (⟨some d, .assign (.const v), ty, ps, af, none⟩ :: rest) a w := ev_run (v := v) (w' := w) h rfl rfl hd (by simp only [execOp]; rfl) hK
theorem ev_mc (h : Ev N l a) (hd : d < N) (hK : ∀ a', Ev N ((d, v) :: l) a' → wpList Tryd.prog ops Q rest a' w) :
    wpList Tryd.prog ops Q (⟨some d, .move (.const v), ty, ps, af, none⟩ :: rest) a w := ev_run (v := v) (w' := w) h rfl rfl hd (by simp only [execOp]; rfl) hK
theorem ev_nc {t : Nat} {p : Addr} (h : Ev N l a) (hx : a.eval (.tmp t) = .pointer (some p)) (hd : d < N) (hK : ∀ a', Ev N ((d, .pointer (some p)) :: l) a' → wpList Tryd.prog ops Q rest a' w) :
    wpList Tryd.prog ops Q (⟨some d, .nilCheck (.tmp t), ty, ps, af, none⟩ :: rest) a w := ev_run (v := .pointer (some p)) (w' := w) h rfl rfl hd (by simp only [execOp, hx]; rfl) hK
theorem ev_fa {T k g i j : Nat} {t : Nat} (h : Ev N l a) (hx : a.eval (.tmp t) = pt g i) (hfa : Fa T k g i j) (hd : d < N) (hK : ∀ a', Ev N ((d, pt g j) :: l) a' → wpList Tryd.prog ops Q rest a' w) :
    wpList Tryd.prog ops Q (⟨some d, .fieldAddr T (.tmp t) k, ty, ps, af, none⟩ :: rest) a w := ev_run (v := pt g j) (w' := w) h rfl rfl hd (by simp only [execOp, hx]; exact run_andValue (hfa w)) hK
theorem ev_ld {T t : Nat} {p : Addr} (h : Ev N l a) (hx : a.eval (.tmp t) = .pointer (some p)) (hL : Ld T) (hc : w.cell? p = some v) (hd : d < N) (hK : ∀ a', Ev N ((d, v) :: l) a' → wpList Tryd.prog ops Q rest a' w) :
    wpList Tryd.prog ops Q (⟨some d, .load T (.tmp t), ty, ps, af, none⟩ :: rest) a w := ev_run (v := v) (w' := w) h rfl rfl hd (by simp only [execOp, hx]; exact run_andValue (hL w _ _ hc)) hK
/-- A struct's type: its cells' number. -/
structure Ag (T k : Nat) : Prop where
  agg : ∀ w, (isAgg T).run Tryd.prog w = .ok true w
  size : ∀ w, (sizeOf T).run Tryd.prog w = .ok k w
/-- A whole struct read. -/
theorem ev_lb {T k t g : Nat} {cs : Array Value} {e : TypeId} {fr : Nat × Nat} (h : Ev N l a) (hA : Ag T k) (hx : a.eval (.tmp t) = pt g 0) (hg : w.heap[g]? = some (.cells cs e fr)) (hsz : cs.size = k) (hd : d < N) (hK : ∀ a', Ev N ((d, .agg cs) :: l) a' → wpList Tryd.prog ops Q rest a' w) :
    wpList Tryd.prog ops Q (⟨some d, .load T (.tmp t), ty, ps, af, none⟩ :: rest) a w := by
  refine ev_run (v := .agg cs) (w' := w) h rfl rfl hd ?_ hK
  have hr := run_load_blk (P := Tryd.prog) (w := w) T hA.agg hA.size hg hsz
  simp only [execOp, hx, Instr.loadAt, Instr.sureAddr]
  simp [hr, Result.andThen]
/-- A whole struct stored. -/
theorem ev_sb {T k t s g : Nat} {cs old : Array Value} {e : TypeId} (h : Ev N l a) (hA : Ag T k) (hx : a.eval (.tmp t) = pt g 0) (hy : a.eval (.tmp s) = .agg cs) (hg : w.heap[g]? = some (.cells old e (0, 0))) (hsz : cs.size = k) (hso : old.size = k) (h1 : ∀ u ∈ cs.toList, u.oneCell' = true)
    (hK : ∀ w', w'.heap[g]? = some (.cells cs e (0, 0)) → Only (fun g' => g' = g) w w' → wpList Tryd.prog ops Q rest a w') :
    wpList Tryd.prog ops Q (⟨none, .store T (.tmp t) (.tmp s), ty, ps, af, none⟩ :: rest) a w := arm_store_blk T hA.agg hA.size hx hy hg hsz hso h1 hK
/-- A new block. -/
def Al (T : Nat) (zs : Array Value) : Prop := ∀ w, (Instr.alloc T true (.tuple #[])).run Tryd.prog w = .ok (pt w.heap.size 0) (w.alloc (.cells zs T))
theorem ev_al {T : Nat} {zs : Array Value} (h : Ev N l a) (hA : Al T zs) (hd : d < N)
    (hK : ∀ a' w', Ev N ((d, pt w.heap.size 0) :: l) a' → w'.heap[w.heap.size]? = some (.cells zs T (0, 0)) → Below w.heap.size w w' → w'.heap.size = w.heap.size + 1 → wpList Tryd.prog ops Q rest a' w') :
    wpList Tryd.prog ops Q (⟨some d, .alloc T, ty, ps, af, none⟩ :: rest) a w := by
  refine ev_run (v := pt w.heap.size 0) (w' := w.alloc (.cells zs T)) h rfl rfl hd ?_ ?_
  · simp only [execOp]
    simp [hA w, Result.andThen]
  · intro a' h'
    exact hK a' _ h' (heap_alloc_new _ _) ((Below.refl _ _).alloc (Nat.le_refl _) _) (by simp)
/-- A cell stored. -/
def St (T : Nat) (v : Value) : Prop := ∀ w p u, w.cell? p = some u → w.frozen? p = false → (Instr.storeAt T (.pointer (some p)) v).run Tryd.prog w = .ok () (w.setCell p v)
theorem ev_sc {T t g j : Nat} {cs : Array Value} {e : TypeId} (h : Ev N l a) (hS : St T v) (hx : a.eval (.tmp t) = pt g j) (hy : a.eval y = v) (hg : w.heap[g]? = some (.cells cs e (0, 0))) (hj : j < cs.size)
    (hK : ∀ w', w'.heap[g]? = some (.cells (cs.setIfInBounds j v) e (0, 0)) → Only (fun g' => g' = g) w w' → wpList Tryd.prog ops Q rest a w') :
    wpList Tryd.prog ops Q (⟨none, .store T (.tmp t) y, ty, ps, af, none⟩ :: rest) a w := by
  refine arm_skip (w' := w.setCell ⟨g, j, none⟩ v) rfl rfl ?_ (hK _ (heap_setCell_same hg v) (Only.of_setCell w ⟨g, j, none⟩ v))
  have hc : w.cell? ⟨g, j, none⟩ = some cs[j] := cell_of_heap hg (Array.getElem?_eq_getElem hj)
  have hf : w.frozen? ⟨g, j, none⟩ = false := by simp [World.frozen?, hg]
  simp only [execOp, hx, hy]
  simp [hS w _ _ hc hf, Result.andThen]
/-- A call. -/
theorem ev_call {f : FuncId} {args : Array Value} {S : Value → World → Prop} (h : Ev N l a) (hg : o.guard = none) (hd : o.dst = some d) (hdN : d < N) (hr : (execOp a.eval o).run Tryd.prog w = .ok (.enter f args) w) (hc : Calls Tryd.prog f args w fun e w' => ∃ v, e = .returned v ∧ S v w')
    (hK : ∀ a' v w', S v w' → Ev N ((d, v) :: l) a' → wpList Tryd.prog ops Q rest a' w') : wpList Tryd.prog ops Q (o :: rest) a w := by
  refine wpList_plain hg fun K hK' => ?_
  unfold Oper.wp
  rw [hr]
  refine Calls.mono hc ?_
  rintro e w' ⟨v, rfl, hS⟩
  refine hK' _ _ ?_
  rw [hd]
  exact hK _ v w' hS (h.set hdN)
/-- An append to a slice of the call's own. -/
theorem ev_push {α : Type} {fl : α → List Value} {e : TypeId} {k : Nat} {B : Nat} {L : List α} (T : TypeId) (ht : Tryd.prog.underlying T = some (.slice e)) (i : TypeInfo) (z : Value) (bytes : Nat) (hi : Tryd.prog.info? e = some i) (hz : i.zero = some z) (hsize : i.size = k)
    (hby : i.bytes = bytes) (hzs : z.cells.size = k) (hk : 0 < k) (hf : ∀ x, (fl x).length = k) (h1 : ∀ x, ∀ u ∈ fl x, u.oneCell' = true) {t s : Nat} (y : α) (h : Ev N l a)
    (hrun : (execOp a.eval { dst := some d1, op := Op.buildSlice T 1 #[(0, .tmp t)], type := ty1, pos := ps1, after := af1, guard := none }).run Tryd.prog w = .ok (.value (.slice (some ⟨w.heap.size, 0, none⟩) 1 1)) (w.alloc (.cells (fl y).toArray e)))
    (hs : a.eval (.tmp s) = v) (hne : s ≠ d1) (hd1 : d1 < N) (hd2 : d2 < N) (hown : Own fl e k w B v L) (hB : B ≤ w.heap.size) (hlen : (L.length + 1) * bytes ≤ 140737488355328) (hlen2 : L.length ≤ 1000000000)
    (hK : ∀ a' v' w', Own fl e k w' B v' (L ++ [y]) → Only (fun g => v.ownBlock = some g) w w' → (v'.ownBlock = v.ownBlock ∨ v'.ownBlock = some (w.heap.size + 1)) → Ev N ((d2, v') :: (d1, .slice (some ⟨w.heap.size, 0, none⟩) 1 1) :: l) a' → wpList Tryd.prog ops Q rest a' w') :
    wpList Tryd.prog ops Q (⟨some d1, .buildSlice T 1 #[(0, .tmp t)], ty1, ps1, af1, none⟩ :: ⟨some d2, .call { callee := .builtin .append, args := #[.tmp s, .tmp d1], argTypes := #[T, T] }, ty2, ps2, af2, none⟩ :: rest) a w := by
  refine arm_push T ht i z bytes hi hz hsize hby hzs hk hf h1 y hrun hs (fun e => hne (by injection e)) (by rw [h.size]; exact hd1) hown hB hlen hlen2 ?_
  intro v' w' ho hon hb
  exact hK _ v' w' ho hon hb ((h.set hd1).set hd2)
end
set_option maxRecDepth 100000 in
theorem fa_ms_0 (g : Nat) : Fa 27 0 g 0 0 := by intro w; go_simp
set_option maxRecDepth 100000 in
theorem fa_ms_1 (g : Nat) : Fa 27 1 g 0 1 := by intro w; go_simp
set_option maxRecDepth 100000 in
theorem fa_ms_2 (g : Nat) : Fa 27 2 g 0 2 := by intro w; go_simp
set_option maxRecDepth 100000 in
theorem fa_ms_3 (g : Nat) : Fa 27 3 g 0 3 := by intro w; go_simp
set_option maxRecDepth 100000 in
theorem fa_sv_0 (g : Nat) : Fa 48 0 g 0 0 := by intro w; go_simp
set_option maxRecDepth 100000 in
theorem fa_sv_1 (g : Nat) : Fa 48 1 g 0 1 := by intro w; go_simp
set_option maxRecDepth 100000 in
theorem fa_sv_2 (g : Nat) : Fa 48 2 g 0 2 := by intro w; go_simp
set_option maxRecDepth 100000 in
theorem fa_sv_3 (g : Nat) : Fa 48 3 g 0 3 := by intro w; go_simp
set_option maxRecDepth 100000 in
theorem fa_sv_4 (g : Nat) : Fa 48 4 g 0 4 := by intro w; go_simp
set_option maxRecDepth 100000 in
theorem fa_sv_5 (g : Nat) : Fa 48 5 g 0 5 := by intro w; go_simp
set_option maxRecDepth 100000 in
theorem fa_sv_6 (g : Nat) : Fa 48 6 g 0 6 := by intro w; go_simp
set_option maxRecDepth 100000 in
theorem fa_sv_7 (g : Nat) : Fa 48 7 g 0 7 := by intro w; go_simp
set_option maxRecDepth 100000 in
theorem fa_sv_8 (g : Nat) : Fa 48 8 g 0 8 := by intro w; go_simp
set_option maxRecDepth 100000 in
theorem fa_sv_9 (g : Nat) : Fa 48 9 g 0 9 := by intro w; go_simp
set_option maxRecDepth 100000 in
theorem fa_sv_10 (g : Nat) : Fa 48 10 g 0 10 := by intro w; go_simp
set_option maxRecDepth 100000 in
theorem fa_sv_11 (g : Nat) : Fa 48 11 g 0 11 := by intro w; go_simp
set_option maxRecDepth 100000 in
theorem fa_sv_12 (g : Nat) : Fa 48 12 g 0 12 := by intro w; go_simp
set_option maxRecDepth 100000 in
theorem fa_sa_0 (g : Nat) : Fa 46 0 g 0 0 := by intro w; go_simp
set_option maxRecDepth 100000 in
theorem fa_sa_1 (g : Nat) : Fa 46 1 g 0 1 := by intro w; go_simp
set_option maxRecDepth 100000 in
theorem fa_sa_2 (g : Nat) : Fa 46 2 g 0 2 := by intro w; go_simp
set_option maxRecDepth 100000 in
theorem fa_sa_3 (g : Nat) : Fa 46 3 g 0 3 := by intro w; go_simp
set_option maxRecDepth 100000 in
theorem fa_sa_4 (g : Nat) : Fa 46 4 g 0 4 := by intro w; go_simp
set_option maxRecDepth 100000 in
theorem fa_sa_5 (g : Nat) : Fa 46 5 g 0 5 := by intro w; go_simp
set_option maxRecDepth 100000 in
theorem fa_sa_6 (g : Nat) : Fa 46 6 g 0 6 := by intro w; go_simp
set_option maxRecDepth 100000 in
theorem fa_iv_0 (g : Nat) : Fa 53 0 g 0 0 := by intro w; go_simp
set_option maxRecDepth 100000 in
theorem fa_iv_1 (g : Nat) : Fa 53 1 g 0 1 := by intro w; go_simp
set_option maxRecDepth 100000 in
theorem fa_iv_2 (g : Nat) : Fa 53 2 g 0 2 := by intro w; go_simp
set_option maxRecDepth 100000 in
theorem fa_iv_3 (g : Nat) : Fa 53 3 g 0 3 := by intro w; go_simp
set_option maxRecDepth 100000 in
theorem fa_iv_4 (g : Nat) : Fa 53 4 g 0 4 := by intro w; go_simp
set_option maxRecDepth 100000 in
theorem fa_iv_5 (g : Nat) : Fa 53 5 g 0 5 := by intro w; go_simp
set_option maxRecDepth 100000 in
theorem fa_iv_6 (g : Nat) : Fa 53 6 g 0 6 := by intro w; go_simp
set_option maxRecDepth 100000 in
theorem fa_iv_7 (g : Nat) : Fa 53 7 g 0 7 := by intro w; go_simp
set_option maxRecDepth 100000 in
theorem fa_iv_8 (g : Nat) : Fa 53 8 g 0 8 := by intro w; go_simp
set_option maxRecDepth 100000 in
theorem fa_iv_9 (g : Nat) : Fa 53 9 g 0 9 := by intro w; go_simp
set_option maxRecDepth 100000 in
theorem fa_iv_10 (g : Nat) : Fa 53 10 g 0 10 := by intro w; go_simp
set_option maxRecDepth 100000 in
theorem fa_iv_11 (g : Nat) : Fa 53 11 g 0 11 := by intro w; go_simp
set_option maxRecDepth 100000 in
theorem fa_iv_12 (g : Nat) : Fa 53 12 g 0 12 := by intro w; go_simp
set_option maxRecDepth 100000 in
theorem fa_iv_13 (g : Nat) : Fa 53 13 g 0 13 := by intro w; go_simp
set_option maxRecDepth 100000 in
theorem fa_iv_14 (g : Nat) : Fa 53 14 g 0 14 := by intro w; go_simp
set_option maxRecDepth 100000 in
theorem fa_iv_15 (g : Nat) : Fa 53 15 g 0 15 := by intro w; go_simp
set_option maxRecDepth 100000 in
theorem fa_ia_0 (g : Nat) : Fa 56 0 g 0 0 := by intro w; go_simp
set_option maxRecDepth 100000 in
theorem fa_ia_1 (g : Nat) : Fa 56 1 g 0 1 := by intro w; go_simp
set_option maxRecDepth 100000 in
theorem fa_ia_2 (g : Nat) : Fa 56 2 g 0 2 := by intro w; go_simp
set_option maxRecDepth 100000 in
theorem fa_ia_3 (g : Nat) : Fa 56 3 g 0 3 := by intro w; go_simp
set_option maxRecDepth 100000 in
theorem fa_ia_4 (g : Nat) : Fa 56 4 g 0 4 := by intro w; go_simp
set_option maxRecDepth 100000 in
theorem fa_ia_5 (g : Nat) : Fa 56 5 g 0 5 := by intro w; go_simp
set_option maxRecDepth 100000 in
theorem fa_ia_6 (g : Nat) : Fa 56 6 g 0 6 := by intro w; go_simp
set_option maxRecDepth 100000 in
theorem fa_ia_7 (g : Nat) : Fa 56 7 g 0 7 := by intro w; go_simp
set_option maxRecDepth 100000 in
theorem fa_ia_8 (g : Nat) : Fa 56 8 g 0 8 := by intro w; go_simp
set_option maxRecDepth 100000 in
theorem fa_ia_9 (g : Nat) : Fa 56 9 g 0 9 := by intro w; go_simp
set_option maxRecDepth 100000 in
theorem fa_im_0 (g : Nat) : Fa 33 0 g 0 0 := by intro w; go_simp
set_option maxRecDepth 100000 in
theorem fa_im_1 (g : Nat) : Fa 33 1 g 0 1 := by intro w; go_simp
set_option maxRecDepth 100000 in
theorem fa_im_2 (g : Nat) : Fa 33 2 g 0 2 := by intro w; go_simp
set_option maxRecDepth 100000 in
theorem fa_im_3 (g : Nat) : Fa 33 3 g 0 3 := by intro w; go_simp
set_option maxRecDepth 100000 in
theorem fa_vq_0 (g : Nat) : Fa 62 0 g 0 0 := by intro w; go_simp
set_option maxRecDepth 100000 in
theorem fa_vq_1 (g : Nat) : Fa 62 1 g 0 1 := by intro w; go_simp
set_option maxRecDepth 100000 in
theorem fa_vq_2 (g : Nat) : Fa 62 2 g 0 2 := by intro w; go_simp
set_option maxRecDepth 100000 in
theorem fa_vq_3 (g : Nat) : Fa 62 3 g 0 3 := by intro w; go_simp
set_option maxRecDepth 100000 in
theorem fa_vq_4 (g : Nat) : Fa 62 4 g 0 4 := by intro w; go_simp
set_option maxRecDepth 100000 in
theorem fa_vq_5 (g : Nat) : Fa 62 5 g 0 5 := by intro w; go_simp
set_option maxRecDepth 100000 in
theorem fa_vq_6 (g : Nat) : Fa 62 6 g 0 6 := by intro w; go_simp
set_option maxRecDepth 100000 in
theorem fa_vq_7 (g : Nat) : Fa 62 7 g 0 7 := by intro w; go_simp
set_option maxRecDepth 100000 in
theorem fa_vq_8 (g : Nat) : Fa 62 8 g 0 8 := by intro w; go_simp
set_option maxRecDepth 100000 in
theorem fa_vq_9 (g : Nat) : Fa 62 9 g 0 9 := by intro w; go_simp
set_option maxRecDepth 100000 in
theorem fa_vq_10 (g : Nat) : Fa 62 10 g 0 10 := by intro w; go_simp
set_option maxRecDepth 100000 in
theorem fa_vq_11 (g : Nat) : Fa 62 11 g 0 11 := by intro w; go_simp
set_option maxRecDepth 100000 in
theorem fa_vq_12 (g : Nat) : Fa 62 12 g 0 12 := by intro w; go_simp
set_option maxRecDepth 100000 in
theorem fa_vq_13 (g : Nat) : Fa 62 13 g 0 13 := by intro w; go_simp
set_option maxRecDepth 100000 in
theorem fa_vq_14 (g : Nat) : Fa 62 14 g 0 14 := by intro w; go_simp
theorem ag_ms : Ag 27 4 := ⟨Tryd.isAgg27, Tryd.sizeOf27⟩
theorem ag_sv : Ag 48 13 := ⟨Tryd.isAgg48, Tryd.sizeOf48⟩
theorem ag_sa : Ag 46 7 := ⟨Tryd.isAgg46, Tryd.sizeOf46⟩
theorem ag_iv : Ag 53 16 := ⟨Tryd.isAgg53, Tryd.sizeOf53⟩
theorem ag_ia : Ag 56 10 := ⟨Tryd.isAgg56, Tryd.sizeOf56⟩
theorem ag_im : Ag 33 4 := ⟨Tryd.isAgg33, Tryd.sizeOf33⟩
theorem ag_vq : Ag 62 15 := ⟨Tryd.isAgg62, Tryd.sizeOf62⟩
theorem ag_mv : Ag 84 17 := ⟨Tryd.isAgg84, Tryd.sizeOf84⟩
theorem ag_ma : Ag 65 10 := ⟨Tryd.isAgg65, Tryd.sizeOf65⟩
theorem ag_mp : Ag 74 8 := ⟨Tryd.isAgg74, Tryd.sizeOf74⟩
set_option maxRecDepth 100000 in
theorem ld_i64 : Ld 3 := by intro w p v h; go_simp
set_option maxRecDepth 100000 in
theorem ld_salts : Ld 24 := by intro w p v h; go_simp
set_option maxRecDepth 100000 in
theorem ld_svars : Ld 25 := by intro w p v h; go_simp
set_option maxRecDepth 100000 in
theorem ld_ialts : Ld 51 := by intro w p v h; go_simp
set_option maxRecDepth 100000 in
theorem ld_ivars : Ld 31 := by intro w p v h; go_simp
set_option maxRecDepth 100000 in
theorem ld_bools : Ld 28 := by intro w p v h; go_simp
end Go.Proofs.YtkddkmiomhadaaaDoor
