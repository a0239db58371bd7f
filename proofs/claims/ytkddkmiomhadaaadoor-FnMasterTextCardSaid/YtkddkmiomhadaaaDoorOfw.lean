/- The walk of spec.Master.Of: the renditions of a variant. -/
import Derived.Test.YtkddkmiomhadaaaDoorEvs
import Derived.Test.YtkddkmiomhadaaaDoorM3
import Derived.Test.YtkddkmiomhadaaaDoorEnc
namespace Go.Proofs.YtkddkmiomhadaaaDoor
open Go.RowKit
theorem ex_as {a : Act} {w : World} {v : Value} {t : Nat} {ty : TypeId} {ps : String} {af : Array Edge} {dst : Option Nat} {gd : Option (Nat × Bool)} (hx : a.eval (.tmp t) = v) : (execOp a.eval ⟨dst, .assign (.tmp t), ty, ps, af, gd⟩).run Tryd.prog w = .ok (.value v) w := by simp only [execOp, hx]; rfl
noncomputable def ofBody : Code := Tryd.f13.body.getD .skip
/-- Is a rendition one of a variant's? -/
def ofB (v : Vt) (y : At) : Bool := (decide (y.typ.data.toList = [65, 85, 68, 73, 79]) && decide (v.audio.data.toList = y.grp.data.toList)) || ((decide (y.typ.data.toList = [86, 73, 68, 69, 79]) && decide (v.video.data.toList = y.grp.data.toList)) || (decide (y.typ.data.toList = [83, 85, 66, 84, 73, 84, 76, 69, 83]) && decide (v.subtitles.data.toList = y.grp.data.toList)))
def ofL (As : List At) (v : Vt) : List At := As.filter (ofB v)
set_option maxRecDepth 100000 in
theorem of_t5 {id : Nat} {a : Act} {w : World} {Q : Exit → Act → World → Prop} {y : At} {v : Vt} {b2 s sA n k : Value} {bv ga : Nat} (hv : w.heap[bv]? = some (.cells v.cells 48 (0, 0))) (hy : w.heap[ga]? = some (.cells y.cells 46 (0, 0)))
    (hE : Ev 53 ((2, b2) :: (3, pt bv 0) :: (5, s) :: (7, pt ga 0) :: (10, sA) :: (11, n) :: (12, k) :: []) a) (hQ : ∀ a', Ev 53 ((16, .bool (decide (y.typ.data.toList = [65, 85, 68, 73, 79]) && decide (v.audio.data.toList = y.grp.data.toList))) :: (2, b2) :: (3, pt bv 0) :: (5, s) :: (7, pt ga 0) :: (10, sA) :: (11, n) :: (12, k) :: []) a' → Q .normal a' w) :
    (Code.region id #[{ dst := some 17, op := Op.fieldAddr 46 (Operand.tmp 7) 0, type := 0, pos := "list.go:337", after := #[], guard := none },
      { dst := some 18, op := Op.load 9 (Operand.tmp 17), type := 9, pos := "list.go:337", after := #[{ on := 0, ground := Ground.data }], guard := none },
      { dst := some 19, op := Op.binOp BinOp.eql 9 (Operand.tmp 18) (Operand.const (Value.string { data := #[65, 85, 68, 73, 79] })) 9, type := 4, pos := "list.go:337", after := #[{ on := 1, ground := Ground.data }], guard := none },
      { dst := some 20, op := Op.move (Operand.tmp 19), type := 4, pos := "list.go:337", after := #[{ on := 2, ground := Ground.data }], guard := none },
      { dst := some 21, op := Op.fieldAddr 48 (Operand.tmp 3) 7, type := 0, pos := "list.go:337", after := #[{ on := 3, ground := Ground.guard }], guard := some (3, true) },
      { dst := some 22, op := Op.load 9 (Operand.tmp 21), type := 9, pos := "list.go:337", after := #[{ on := 4, ground := Ground.data }, { on := 3, ground := Ground.guard }], guard := some (3, true) },
      { dst := some 23, op := Op.fieldAddr 46 (Operand.tmp 7) 1, type := 0, pos := "list.go:337", after := #[{ on := 3, ground := Ground.guard }], guard := some (3, true) },
      { dst := some 24, op := Op.load 9 (Operand.tmp 23), type := 9, pos := "list.go:337", after := #[{ on := 6, ground := Ground.data }, { on := 3, ground := Ground.guard }], guard := some (3, true) },
      { dst := some 25, op := Op.binOp BinOp.eql 9 (Operand.tmp 22) (Operand.tmp 24) 9, type := 4, pos := "list.go:337", after := #[{ on := 5, ground := Ground.data }, { on := 7, ground := Ground.data }, { on := 3, ground := Ground.guard }], guard := some (3, true) },
      { dst := some 26, op := Op.pick (Operand.tmp 20) (Operand.tmp 25) (Operand.const (Value.bool false)), type := 4, pos := "list.go:337", after := #[{ on := 3, ground := Ground.data }, { on := 8, ground := Ground.data }], guard := none },
      { dst := some 16, op := Op.assign (Operand.tmp 26), type := 4, pos := "list.go:337", after := #[{ on := 9, ground := Ground.data }, { on := 3, ground := Ground.chain }], guard := none }] false).wp Tryd.prog Q a w := by
  refine wp_region_lit ?_
  by_cases ht : y.typ.data.toList = [65, 85, 68, 73, 79]
  · refine ev_run hE rfl rfl (by decide) (ex_fa (hE.get 7 rfl) (fa_sa_0 _)) ?_
    intro a hE
    refine ev_run hE rfl rfl (by decide) (ex_ld (hE.get 17 rfl) ld_string (cell_of_heap hy rfl)) ?_
    intro a hE
    refine ev_run hE rfl rfl (by decide) (ex_eqs (hE.get 18 rfl) rfl) ?_
    intro a hE
    refine ev_mv hE (hE.get 19 rfl) (by decide) ?_
    intro a hE
    refine ev_gon hE rfl rfl (show a.eval (.tmp 20) = .bool true from (hE.get 20 rfl).trans (congrArg Value.bool (decide_eq_true ht))) rfl (by decide) (ex_fa (hE.get 3 rfl) (fa_sv_7 _)) ?_
    intro a hE
    refine ev_gon hE rfl rfl (show a.eval (.tmp 20) = .bool true from (hE.get 20 rfl).trans (congrArg Value.bool (decide_eq_true ht))) rfl (by decide) (ex_ld (hE.get 21 rfl) ld_string (cell_of_heap hv rfl)) ?_
    intro a hE
    refine ev_gon hE rfl rfl (show a.eval (.tmp 20) = .bool true from (hE.get 20 rfl).trans (congrArg Value.bool (decide_eq_true ht))) rfl (by decide) (ex_fa (hE.get 7 rfl) (fa_sa_1 _)) ?_
    intro a hE
    refine ev_gon hE rfl rfl (show a.eval (.tmp 20) = .bool true from (hE.get 20 rfl).trans (congrArg Value.bool (decide_eq_true ht))) rfl (by decide) (ex_ld (hE.get 23 rfl) ld_string (cell_of_heap hy rfl)) ?_
    intro a hE
    refine ev_gon hE rfl rfl (show a.eval (.tmp 20) = .bool true from (hE.get 20 rfl).trans (congrArg Value.bool (decide_eq_true ht))) rfl (by decide) (ex_eqs (hE.get 22 rfl) (hE.get 24 rfl)) ?_
    intro a hE
    refine ev_run (v := .bool (decide (y.typ.data.toList = [65, 85, 68, 73, 79]) && decide (v.audio.data.toList = y.grp.data.toList))) (w' := w) hE rfl rfl (by decide) ?_ ?_
    · rw [ex_pick (b := true) (show a.eval (.tmp 20) = .bool true from (hE.get 20 rfl).trans (congrArg Value.bool (decide_eq_true ht)))]
      have e1 := hE.get 25 rfl
      simp only [if_true, e1, decide_eq_true ht, Bool.true_and]
    intro a hE
    refine ev_as hE (hE.get 26 rfl) (by decide) ?_
    intro a hE
    exact wpList_nil (hQ a (hE.pick rfl))
  · refine ev_run hE rfl rfl (by decide) (ex_fa (hE.get 7 rfl) (fa_sa_0 _)) ?_
    intro a hE
    refine ev_run hE rfl rfl (by decide) (ex_ld (hE.get 17 rfl) ld_string (cell_of_heap hy rfl)) ?_
    intro a hE
    refine ev_run hE rfl rfl (by decide) (ex_eqs (hE.get 18 rfl) rfl) ?_
    intro a hE
    refine ev_mv hE (hE.get 19 rfl) (by decide) ?_
    intro a hE
    refine ev_goff hE rfl rfl (show a.eval (.tmp 20) = .bool false from (hE.get 20 rfl).trans (congrArg Value.bool (decide_eq_false ht))) rfl rfl (by decide) ?_
    intro a hE
    refine ev_goff hE rfl rfl (show a.eval (.tmp 20) = .bool false from (hE.get 20 rfl).trans (congrArg Value.bool (decide_eq_false ht))) rfl rfl (by decide) ?_
    intro a hE
    refine ev_goff hE rfl rfl (show a.eval (.tmp 20) = .bool false from (hE.get 20 rfl).trans (congrArg Value.bool (decide_eq_false ht))) rfl rfl (by decide) ?_
    intro a hE
    refine ev_goff hE rfl rfl (show a.eval (.tmp 20) = .bool false from (hE.get 20 rfl).trans (congrArg Value.bool (decide_eq_false ht))) rfl rfl (by decide) ?_
    intro a hE
    refine ev_goff hE rfl rfl (show a.eval (.tmp 20) = .bool false from (hE.get 20 rfl).trans (congrArg Value.bool (decide_eq_false ht))) rfl rfl (by decide) ?_
    intro a hE
    refine ev_run (v := .bool (decide (y.typ.data.toList = [65, 85, 68, 73, 79]) && decide (v.audio.data.toList = y.grp.data.toList))) (w' := w) hE rfl rfl (by decide) ?_ ?_
    · rw [ex_pick (b := false) (show a.eval (.tmp 20) = .bool false from (hE.get 20 rfl).trans (congrArg Value.bool (decide_eq_false ht)))]
      simp only [Bool.false_eq_true, if_false, Act.eval, decide_eq_false ht, Bool.false_and]
    intro a hE
    refine ev_as hE (hE.get 26 rfl) (by decide) ?_
    intro a hE
    exact wpList_nil (hQ a (hE.pick rfl))
set_option maxRecDepth 100000 in
theorem of_t6 {id : Nat} {a : Act} {w : World} {Q : Exit → Act → World → Prop} {y : At} {v : Vt} {b2 s sA n k : Value} {bv ga : Nat} (hv : w.heap[bv]? = some (.cells v.cells 48 (0, 0))) (hy : w.heap[ga]? = some (.cells y.cells 46 (0, 0)))
    (hE : Ev 53 ((2, b2) :: (3, pt bv 0) :: (5, s) :: (7, pt ga 0) :: (10, sA) :: (11, n) :: (12, k) :: []) a) (hQ : ∀ a', Ev 53 ((16, .bool (decide (y.typ.data.toList = [86, 73, 68, 69, 79]) && decide (v.video.data.toList = y.grp.data.toList))) :: (2, b2) :: (3, pt bv 0) :: (5, s) :: (7, pt ga 0) :: (10, sA) :: (11, n) :: (12, k) :: []) a' → Q .normal a' w) :
    (Code.region id #[{ dst := some 27, op := Op.fieldAddr 46 (Operand.tmp 7) 0, type := 0, pos := "list.go:337", after := #[], guard := none },
      { dst := some 28, op := Op.load 9 (Operand.tmp 27), type := 9, pos := "list.go:337", after := #[{ on := 0, ground := Ground.data }], guard := none },
      { dst := some 29, op := Op.binOp BinOp.eql 9 (Operand.tmp 28) (Operand.const (Value.string { data := #[86, 73, 68, 69, 79] })) 9, type := 4, pos := "list.go:337", after := #[{ on := 1, ground := Ground.data }], guard := none },
      { dst := some 30, op := Op.move (Operand.tmp 29), type := 4, pos := "list.go:337", after := #[{ on := 2, ground := Ground.data }], guard := none },
      { dst := some 31, op := Op.fieldAddr 48 (Operand.tmp 3) 8, type := 0, pos := "list.go:337", after := #[{ on := 3, ground := Ground.guard }], guard := some (3, true) },
      { dst := some 32, op := Op.load 9 (Operand.tmp 31), type := 9, pos := "list.go:337", after := #[{ on := 4, ground := Ground.data }, { on := 3, ground := Ground.guard }], guard := some (3, true) },
      { dst := some 33, op := Op.fieldAddr 46 (Operand.tmp 7) 1, type := 0, pos := "list.go:337", after := #[{ on := 3, ground := Ground.guard }], guard := some (3, true) },
      { dst := some 34, op := Op.load 9 (Operand.tmp 33), type := 9, pos := "list.go:337", after := #[{ on := 6, ground := Ground.data }, { on := 3, ground := Ground.guard }], guard := some (3, true) },
      { dst := some 35, op := Op.binOp BinOp.eql 9 (Operand.tmp 32) (Operand.tmp 34) 9, type := 4, pos := "list.go:337", after := #[{ on := 5, ground := Ground.data }, { on := 7, ground := Ground.data }, { on := 3, ground := Ground.guard }], guard := some (3, true) },
      { dst := some 36, op := Op.pick (Operand.tmp 30) (Operand.tmp 35) (Operand.const (Value.bool false)), type := 4, pos := "list.go:337", after := #[{ on := 3, ground := Ground.data }, { on := 8, ground := Ground.data }], guard := none },
      { dst := some 16, op := Op.assign (Operand.tmp 36), type := 4, pos := "list.go:337", after := #[{ on := 9, ground := Ground.data }, { on := 3, ground := Ground.chain }], guard := none }] false).wp Tryd.prog Q a w := by
  refine wp_region_lit ?_
  by_cases ht : y.typ.data.toList = [86, 73, 68, 69, 79]
  · refine ev_run hE rfl rfl (by decide) (ex_fa (hE.get 7 rfl) (fa_sa_0 _)) ?_
    intro a hE
    refine ev_run hE rfl rfl (by decide) (ex_ld (hE.get 27 rfl) ld_string (cell_of_heap hy rfl)) ?_
    intro a hE
    refine ev_run hE rfl rfl (by decide) (ex_eqs (hE.get 28 rfl) rfl) ?_
    intro a hE
    refine ev_mv hE (hE.get 29 rfl) (by decide) ?_
    intro a hE
    refine ev_gon hE rfl rfl (show a.eval (.tmp 30) = .bool true from (hE.get 30 rfl).trans (congrArg Value.bool (decide_eq_true ht))) rfl (by decide) (ex_fa (hE.get 3 rfl) (fa_sv_8 _)) ?_
    intro a hE
    refine ev_gon hE rfl rfl (show a.eval (.tmp 30) = .bool true from (hE.get 30 rfl).trans (congrArg Value.bool (decide_eq_true ht))) rfl (by decide) (ex_ld (hE.get 31 rfl) ld_string (cell_of_heap hv rfl)) ?_
    intro a hE
    refine ev_gon hE rfl rfl (show a.eval (.tmp 30) = .bool true from (hE.get 30 rfl).trans (congrArg Value.bool (decide_eq_true ht))) rfl (by decide) (ex_fa (hE.get 7 rfl) (fa_sa_1 _)) ?_
    intro a hE
    refine ev_gon hE rfl rfl (show a.eval (.tmp 30) = .bool true from (hE.get 30 rfl).trans (congrArg Value.bool (decide_eq_true ht))) rfl (by decide) (ex_ld (hE.get 33 rfl) ld_string (cell_of_heap hy rfl)) ?_
    intro a hE
    refine ev_gon hE rfl rfl (show a.eval (.tmp 30) = .bool true from (hE.get 30 rfl).trans (congrArg Value.bool (decide_eq_true ht))) rfl (by decide) (ex_eqs (hE.get 32 rfl) (hE.get 34 rfl)) ?_
    intro a hE
    refine ev_run (v := .bool (decide (y.typ.data.toList = [86, 73, 68, 69, 79]) && decide (v.video.data.toList = y.grp.data.toList))) (w' := w) hE rfl rfl (by decide) ?_ ?_
    · rw [ex_pick (b := true) (show a.eval (.tmp 30) = .bool true from (hE.get 30 rfl).trans (congrArg Value.bool (decide_eq_true ht)))]
      have e1 := hE.get 35 rfl
      simp only [if_true, e1, decide_eq_true ht, Bool.true_and]
    intro a hE
    refine ev_as hE (hE.get 36 rfl) (by decide) ?_
    intro a hE
    exact wpList_nil (hQ a (hE.pick rfl))
  · refine ev_run hE rfl rfl (by decide) (ex_fa (hE.get 7 rfl) (fa_sa_0 _)) ?_
    intro a hE
    refine ev_run hE rfl rfl (by decide) (ex_ld (hE.get 27 rfl) ld_string (cell_of_heap hy rfl)) ?_
    intro a hE
    refine ev_run hE rfl rfl (by decide) (ex_eqs (hE.get 28 rfl) rfl) ?_
    intro a hE
    refine ev_mv hE (hE.get 29 rfl) (by decide) ?_
    intro a hE
    refine ev_goff hE rfl rfl (show a.eval (.tmp 30) = .bool false from (hE.get 30 rfl).trans (congrArg Value.bool (decide_eq_false ht))) rfl rfl (by decide) ?_
    intro a hE
    refine ev_goff hE rfl rfl (show a.eval (.tmp 30) = .bool false from (hE.get 30 rfl).trans (congrArg Value.bool (decide_eq_false ht))) rfl rfl (by decide) ?_
    intro a hE
    refine ev_goff hE rfl rfl (show a.eval (.tmp 30) = .bool false from (hE.get 30 rfl).trans (congrArg Value.bool (decide_eq_false ht))) rfl rfl (by decide) ?_
    intro a hE
    refine ev_goff hE rfl rfl (show a.eval (.tmp 30) = .bool false from (hE.get 30 rfl).trans (congrArg Value.bool (decide_eq_false ht))) rfl rfl (by decide) ?_
    intro a hE
    refine ev_goff hE rfl rfl (show a.eval (.tmp 30) = .bool false from (hE.get 30 rfl).trans (congrArg Value.bool (decide_eq_false ht))) rfl rfl (by decide) ?_
    intro a hE
    refine ev_run (v := .bool (decide (y.typ.data.toList = [86, 73, 68, 69, 79]) && decide (v.video.data.toList = y.grp.data.toList))) (w' := w) hE rfl rfl (by decide) ?_ ?_
    · rw [ex_pick (b := false) (show a.eval (.tmp 30) = .bool false from (hE.get 30 rfl).trans (congrArg Value.bool (decide_eq_false ht)))]
      simp only [Bool.false_eq_true, if_false, Act.eval, decide_eq_false ht, Bool.false_and]
    intro a hE
    refine ev_as hE (hE.get 36 rfl) (by decide) ?_
    intro a hE
    exact wpList_nil (hQ a (hE.pick rfl))
set_option maxRecDepth 100000 in
theorem of_t7 {id : Nat} {a : Act} {w : World} {Q : Exit → Act → World → Prop} {y : At} {v : Vt} {b2 s sA n k : Value} {bv ga : Nat} (hv : w.heap[bv]? = some (.cells v.cells 48 (0, 0))) (hy : w.heap[ga]? = some (.cells y.cells 46 (0, 0)))
    (hE : Ev 53 ((2, b2) :: (3, pt bv 0) :: (5, s) :: (7, pt ga 0) :: (10, sA) :: (11, n) :: (12, k) :: []) a) (hQ : ∀ a', Ev 53 ((16, .bool (decide (y.typ.data.toList = [83, 85, 66, 84, 73, 84, 76, 69, 83]) && decide (v.subtitles.data.toList = y.grp.data.toList))) :: (2, b2) :: (3, pt bv 0) :: (5, s) :: (7, pt ga 0) :: (10, sA) :: (11, n) :: (12, k) :: []) a' → Q .normal a' w) :
    (Code.region id #[{ dst := some 37, op := Op.fieldAddr 46 (Operand.tmp 7) 0, type := 0, pos := "list.go:337", after := #[], guard := none },
      { dst := some 38, op := Op.load 9 (Operand.tmp 37), type := 9, pos := "list.go:337", after := #[{ on := 0, ground := Ground.data }], guard := none },
      { dst := some 39, op := Op.binOp BinOp.eql 9 (Operand.tmp 38) (Operand.const (Value.string { data := #[83, 85, 66, 84, 73, 84, 76, 69, 83] })) 9, type := 4, pos := "list.go:337", after := #[{ on := 1, ground := Ground.data }], guard := none },
      { dst := some 40, op := Op.move (Operand.tmp 39), type := 4, pos := "list.go:337", after := #[{ on := 2, ground := Ground.data }], guard := none },
      { dst := some 41, op := Op.fieldAddr 48 (Operand.tmp 3) 9, type := 0, pos := "list.go:337", after := #[{ on := 3, ground := Ground.guard }], guard := some (3, true) },
      { dst := some 42, op := Op.load 9 (Operand.tmp 41), type := 9, pos := "list.go:337", after := #[{ on := 4, ground := Ground.data }, { on := 3, ground := Ground.guard }], guard := some (3, true) },
      { dst := some 43, op := Op.fieldAddr 46 (Operand.tmp 7) 1, type := 0, pos := "list.go:337", after := #[{ on := 3, ground := Ground.guard }], guard := some (3, true) },
      { dst := some 44, op := Op.load 9 (Operand.tmp 43), type := 9, pos := "list.go:337", after := #[{ on := 6, ground := Ground.data }, { on := 3, ground := Ground.guard }], guard := some (3, true) },
      { dst := some 45, op := Op.binOp BinOp.eql 9 (Operand.tmp 42) (Operand.tmp 44) 9, type := 4, pos := "list.go:337", after := #[{ on := 5, ground := Ground.data }, { on := 7, ground := Ground.data }, { on := 3, ground := Ground.guard }], guard := some (3, true) },
      { dst := some 46, op := Op.pick (Operand.tmp 40) (Operand.tmp 45) (Operand.const (Value.bool false)), type := 4, pos := "list.go:337", after := #[{ on := 3, ground := Ground.data }, { on := 8, ground := Ground.data }], guard := none },
      { dst := some 16, op := Op.assign (Operand.tmp 46), type := 4, pos := "list.go:337", after := #[{ on := 9, ground := Ground.data }, { on := 3, ground := Ground.chain }], guard := none }] false).wp Tryd.prog Q a w := by
  refine wp_region_lit ?_
  by_cases ht : y.typ.data.toList = [83, 85, 66, 84, 73, 84, 76, 69, 83]
  · refine ev_run hE rfl rfl (by decide) (ex_fa (hE.get 7 rfl) (fa_sa_0 _)) ?_
    intro a hE
    refine ev_run hE rfl rfl (by decide) (ex_ld (hE.get 37 rfl) ld_string (cell_of_heap hy rfl)) ?_
    intro a hE
    refine ev_run hE rfl rfl (by decide) (ex_eqs (hE.get 38 rfl) rfl) ?_
    intro a hE
    refine ev_mv hE (hE.get 39 rfl) (by decide) ?_
    intro a hE
    refine ev_gon hE rfl rfl (show a.eval (.tmp 40) = .bool true from (hE.get 40 rfl).trans (congrArg Value.bool (decide_eq_true ht))) rfl (by decide) (ex_fa (hE.get 3 rfl) (fa_sv_9 _)) ?_
    intro a hE
    refine ev_gon hE rfl rfl (show a.eval (.tmp 40) = .bool true from (hE.get 40 rfl).trans (congrArg Value.bool (decide_eq_true ht))) rfl (by decide) (ex_ld (hE.get 41 rfl) ld_string (cell_of_heap hv rfl)) ?_
    intro a hE
    refine ev_gon hE rfl rfl (show a.eval (.tmp 40) = .bool true from (hE.get 40 rfl).trans (congrArg Value.bool (decide_eq_true ht))) rfl (by decide) (ex_fa (hE.get 7 rfl) (fa_sa_1 _)) ?_
    intro a hE
    refine ev_gon hE rfl rfl (show a.eval (.tmp 40) = .bool true from (hE.get 40 rfl).trans (congrArg Value.bool (decide_eq_true ht))) rfl (by decide) (ex_ld (hE.get 43 rfl) ld_string (cell_of_heap hy rfl)) ?_
    intro a hE
    refine ev_gon hE rfl rfl (show a.eval (.tmp 40) = .bool true from (hE.get 40 rfl).trans (congrArg Value.bool (decide_eq_true ht))) rfl (by decide) (ex_eqs (hE.get 42 rfl) (hE.get 44 rfl)) ?_
    intro a hE
    refine ev_run (v := .bool (decide (y.typ.data.toList = [83, 85, 66, 84, 73, 84, 76, 69, 83]) && decide (v.subtitles.data.toList = y.grp.data.toList))) (w' := w) hE rfl rfl (by decide) ?_ ?_
    · rw [ex_pick (b := true) (show a.eval (.tmp 40) = .bool true from (hE.get 40 rfl).trans (congrArg Value.bool (decide_eq_true ht)))]
      have e1 := hE.get 45 rfl
      simp only [if_true, e1, decide_eq_true ht, Bool.true_and]
    intro a hE
    refine ev_as hE (hE.get 46 rfl) (by decide) ?_
    intro a hE
    exact wpList_nil (hQ a (hE.pick rfl))
  · refine ev_run hE rfl rfl (by decide) (ex_fa (hE.get 7 rfl) (fa_sa_0 _)) ?_
    intro a hE
    refine ev_run hE rfl rfl (by decide) (ex_ld (hE.get 37 rfl) ld_string (cell_of_heap hy rfl)) ?_
    intro a hE
    refine ev_run hE rfl rfl (by decide) (ex_eqs (hE.get 38 rfl) rfl) ?_
    intro a hE
    refine ev_mv hE (hE.get 39 rfl) (by decide) ?_
    intro a hE
    refine ev_goff hE rfl rfl (show a.eval (.tmp 40) = .bool false from (hE.get 40 rfl).trans (congrArg Value.bool (decide_eq_false ht))) rfl rfl (by decide) ?_
    intro a hE
    refine ev_goff hE rfl rfl (show a.eval (.tmp 40) = .bool false from (hE.get 40 rfl).trans (congrArg Value.bool (decide_eq_false ht))) rfl rfl (by decide) ?_
    intro a hE
    refine ev_goff hE rfl rfl (show a.eval (.tmp 40) = .bool false from (hE.get 40 rfl).trans (congrArg Value.bool (decide_eq_false ht))) rfl rfl (by decide) ?_
    intro a hE
    refine ev_goff hE rfl rfl (show a.eval (.tmp 40) = .bool false from (hE.get 40 rfl).trans (congrArg Value.bool (decide_eq_false ht))) rfl rfl (by decide) ?_
    intro a hE
    refine ev_goff hE rfl rfl (show a.eval (.tmp 40) = .bool false from (hE.get 40 rfl).trans (congrArg Value.bool (decide_eq_false ht))) rfl rfl (by decide) ?_
    intro a hE
    refine ev_run (v := .bool (decide (y.typ.data.toList = [83, 85, 66, 84, 73, 84, 76, 69, 83]) && decide (v.subtitles.data.toList = y.grp.data.toList))) (w' := w) hE rfl rfl (by decide) ?_ ?_
    · rw [ex_pick (b := false) (show a.eval (.tmp 40) = .bool false from (hE.get 40 rfl).trans (congrArg Value.bool (decide_eq_false ht)))]
      simp only [Bool.false_eq_true, if_false, Act.eval, decide_eq_false ht, Bool.false_and]
    intro a hE
    refine ev_as hE (hE.get 46 rfl) (by decide) ?_
    intro a hE
    exact wpList_nil (hQ a (hE.pick rfl))
theorem bx_ms (b c d e : Value) (hb : b.oneCell' = true) (hc : c.oneCell' = true) (hd : d.oneCell' = true) (he : e.oneCell' = true) (w : World) : (Instr.box 27 (.agg #[b, c, d, e])).run Tryd.prog w = .ok (pt w.heap.size 0) (w.alloc (.cells #[b, c, d, e] 27)) := by
  rfl
theorem bx_sv (v : Vt) (w : World) : (Instr.box 48 (.agg v.cells)).run Tryd.prog w = .ok (pt w.heap.size 0) (w.alloc (.cells v.cells 48)) := by
  rfl
set_option maxRecDepth 100000 in
theorem al_sa : Al 46 #[.string ⟨#[]⟩, .string ⟨#[]⟩, .string ⟨#[]⟩, .bool false, .string ⟨#[]⟩, .string ⟨#[]⟩, .string ⟨#[]⟩] := by intro w; go_simp
theorem ofL_take {As : List At} {v : Vt} {k : Nat} {y : At} (h : As[k]? = some y) : ofL (As.take (k + 1)) v = if ofB v y = true then ofL (As.take k) v ++ [y] else ofL (As.take k) v := by
  unfold ofL
  rw [List.take_add_one, h]
  simp only [Option.toList_some, List.filter_append, List.filter_cons, List.filter_nil]
  split <;> simp
theorem ofL_len (As : List At) (v : Vt) : (ofL As v).length ≤ As.length := List.length_filter_le _ _
/-- Between two rounds. -/
structure OfI (B : Nat) (ver : Value) (ind : Value) (sA sV : Value) (As : List At) (v : Vt) (w0 : World) (k : Nat) (s : Value) (w : World) : Prop where
  own : Own At.list 46 7 w B s (ofL (As.take k) v)
  ms : w.heap[B]? = some (.cells #[ver, ind, sA, sV] 27 (0, 0))
  sv : w.heap[B + 1]? = some (.cells v.cells 48 (0, 0))
  below : Below B w0 w
set_option maxRecDepth 100000 in
set_option maxHeartbeats 4000000 in
/-- spec.Master.Of: a variant's renditions. -/
theorem of_any (ver : Int) (ind : Bool) (sA sV : Value) (As : List At) (v : Vt) (w : World) (B0 : Nat) (hA : Own At.list 46 7 w B0 sA As) (hAs : As.length ≤ 1000) (hV1 : sV.oneCell' = true) :
    Calls Tryd.prog 13 #[.agg #[.int .i64 ver, .bool ind, sA, sV], .agg v.cells] w fun e w' => ∃ s, e = .returned s ∧ Own At.list 46 7 w' w.heap.size s (ofL As v) ∧ Below w.heap.size w w' := by
  obtain ⟨i0, hi, hz0, hz1, hz2⟩ := info_parts info_alt
  obtain ⟨A, cap, hsA, hsA0⟩ := hA.shape
  have hA1 : sA.oneCell' = true := by rw [hsA]; rfl
  refine calls_of_ev Tryd.func13 rfl (show 2 ≤ 53 from by decide) ?_
  intro a hE
  have hE : Ev 53 ((0, .agg #[.int .i64 ver, .bool ind, sA, sV]) :: (1, .agg v.cells) :: []) a := hE
  refine wp_seq ?_
  refine wp_region_lit ?_
  refine ev_box hE (hE.get 0 rfl) (bx_ms _ _ _ _ rfl rfl hA1 hV1) (by decide) ?_
  intro a w1 hE hms hb1 hs1
  refine ev_box hE (hE.get 1 rfl) (bx_sv v) (by decide) ?_
  intro a w2 hE hsv hb2 hs2
  have hms := hp_below hms hb2
  refine ev_ac hE (by decide) ?_
  intro a hE
  refine wpList_nil ?_
  rw [hs1] at hE hsv
  have hb := hb1.trans (hb2.mono hb1.size)
  have hE : Ev 53 ((2, pt w.heap.size 0) :: (3, pt (w.heap.size + 1) 0) :: []) a := hE.pick rfl
  show Code.wp _ _ _ _ _
  refine wp_seq ?_
  refine wp_region_lit ?_
  refine ev_run (v := .slice (some ⟨w2.heap.size, 0, none⟩) 0 0) (w' := w2.alloc (.cells #[] 46)) hE rfl rfl (by decide) (by simp only [execOp]; go_simp) ?_
  intro a hE
  refine ev_as hE (hE.get 8 rfl) (by decide) ?_
  intro a hE
  refine wpList_nil ?_
  have hB2 : w.heap.size ≤ w2.heap.size := hb.size
  have hown : Own At.list 46 7 (w2.alloc (.cells #[] 46)) w.heap.size (.slice (some ⟨w2.heap.size, 0, none⟩) 0 0) [] := Own.fresh (cs := []) (fun _ => rfl) (heap_alloc_new _ _) hB2 rfl rfl (by decide)
  have hb3 : Below w2.heap.size w2 (w2.alloc (.cells #[] 46)) := (Below.refl _ _).alloc (Nat.le_refl _) _
  have hms := hp_below hms hb3
  have hsv := hp_below hsv hb3
  have hb := hb.trans (hb3.mono hB2)
  generalize hs0 : Value.slice (some ⟨w2.heap.size, 0, none⟩) 0 0 = s0 at hE hown
  generalize w2.alloc (.cells #[] 46) = w3 at *
  have hE : Ev 53 ((2, pt w.heap.size 0) :: (3, pt (w.heap.size + 1) 0) :: (5, s0) :: []) a := hE.pick rfl
  clear hb1 hb2 hs1 hs2 hb3 hB2 hs0
  show Code.wp _ _ _ _ _
  refine wp_seq ?_
  refine wp_seq ?_
  refine wp_region_lit ?_
  refine ev_run hE rfl rfl (by decide) (ex_fa (hE.get 2 rfl) (fa_ms_2 _)) ?_
  intro a hE
  refine ev_run hE rfl rfl (by decide) (ex_ld (hE.get 9 rfl) ld_salts (cell_of_heap hms rfl)) ?_
  intro a hE
  have e10 : a.eval (.tmp 10) = .slice A As.length cap := by rw [← hsA]; exact hE.get 10 rfl
  refine ev_run hE rfl rfl (by decide) (ex_len Tryd.underlying24 e10) ?_
  intro a hE
  refine ev_run (v := .int .i64 (0 : Nat)) (w' := w3) hE rfl rfl (by decide) (by simp only [execOp]; rfl) ?_
  intro a hE
  refine wpList_nil ?_
  show Code.wp _ _ _ _ _
  have hA3 : Own At.list 46 7 w3 B0 sA As := hA.below hb
  refine range_wp2 (N := 53) (n := As.length) [2, 3, 5, 10] (l0 := (2, pt w.heap.size 0) :: (3, pt (w.heap.size + 1) 0) :: (5, s0) :: (10, sA) :: []) (fun k l wr => ∃ s, l = (2, pt w.heap.size 0) :: (3, pt (w.heap.size + 1) 0) :: (5, s) :: (10, sA) :: [] ∧ OfI w.heap.size (.int .i64 ver) (.bool ind) sA sV As v w k s wr) (by omega) (hE.pick rfl) rfl ⟨s0, rfl, ?_, hms, hsv, hb⟩ (by decide) (by decide) (by decide) ?_ ?_
  · simpa [ofL] using hown
  · rintro k l a wr hk hE ⟨s, rfl, hI⟩ Q' hQ'
    obtain ⟨y, hy⟩ : ∃ y, As[k]? = some y := ⟨_, List.getElem?_eq_getElem hk⟩
    have hAr := hA.below hI.below
    have hsz : w.heap.size + 1 < wr.heap.size := (Array.getElem?_eq_some_iff.1 hI.sv).1
    refine wp_block ?_
    refine wp_seq ?_
    refine wp_region_lit ?_
    refine ev_elem ag_sa Tryd.underlying24 (fun _ => rfl) (by decide) hE hAr hy (hE.get 10 rfl) (hE.get 12 rfl) (by decide) (by decide) ?_ rfl (by decide)
    intro a hE
    refine ev_al hE al_sa (by decide) ?_
    intro a w4 hE hga hb4 hs4
    refine ev_sb (cs := y.cells) hE ag_sa (hE.get 7 rfl) (hE.get 15 rfl) hga rfl rfl (at_one y) ?_
    intro w5 hga5 ho5
    refine wpList_nil ?_
    have hne2 : ∀ g, g < wr.heap.size → g ≠ wr.heap.size := fun g h e => by omega
    have hms5 := hp_only (hp_below hI.ms hb4) ho5 (hne2 _ (by omega))
    have hsv5 := hp_only (hp_below hI.sv hb4) ho5 (hne2 _ (by omega))
    have hbr : Below wr.heap.size wr w5 := hb4.trans (only_bel ho5 (by omega) (Nat.le_refl _))
    have hown5 := hI.own.below hbr
    have hbw := hI.below.trans (hbr.mono (by omega))
    have hE : Ev 53 ((2, pt w.heap.size 0) :: (3, pt (w.heap.size + 1) 0) :: (5, s) :: (7, pt wr.heap.size 0) :: (10, sA) :: (11, .int .i64 As.length) :: (12, .int .i64 k) :: []) a := hE.pick rfl
    have hszr := hbr.size
    have hgaw := Nat.le_refl wr.heap.size
    have hbk := hI.own.block_lt
    generalize wr.heap.size = ga at *
    clear hga hb4 hs4 ho5 hms hsv hAr
    show Code.wp _ _ _ _ _
    refine wp_block ?_
    refine wp_seq ?_
    have hne5 : ∀ g, s.ownBlock = some g → g ≠ ga := fun g hg e => by
      have := (hbk g hg).2
      omega
    -- 'out = append(out, a)', or nothing
    have cont : ∀ a (b : Bool), b = ofB v y → Ev 53 ((16, .bool b) :: (2, pt w.heap.size 0) :: (3, pt (w.heap.size + 1) 0) :: (5, s) :: (7, pt ga 0) :: (10, sA) :: (11, .int .i64 As.length) :: (12, .int .i64 k) :: []) a →
        Code.wp Tryd.prog (cB (cA (cB (cA (cA (cB (cB (cA (cA (cB (cA (cB (cB ofBody))))))))))))) (Exit.inBlock 2 (Exit.inBlock 1 Q')) a w5 := by
      intro a b hb hE
      have hst := ofL_take (v := v) hy
      rw [← hb] at hst
      refine wp_cond_split (hE.get 16 rfl) (fun ht => ?_) (fun ht => ?_)
      · refine wp_region_lit ?_
        refine ev_mv hE (hE.get 5 rfl) (by decide) ?_
        intro a hE
        refine ev_lb hE ag_sa (hE.get 7 rfl) hga5 rfl (by decide) ?_
        intro a hE
        refine ev_push 24 Tryd.underlying24 i0 _ 104 hi hz0 hz1 hz2 (by rfl) (by decide) (fun _ => rfl) at_one y hE ?_ (hE.get 47 rfl) (by decide) (by decide) (by decide) hown5 (by omega) ?_ ?_ ?_
        · simp only [execOp, List.map_toArray, List.map_cons, List.map_nil, hE.get 48 rfl]
          unfold At.cells At.list
          go_simp
        · have := ofL_len (As.take k) v
          rw [List.length_take] at this
          omega
        · have := ofL_len (As.take k) v
          rw [List.length_take] at this
          omega
        intro a s' w6 hown6 hon6 _ hE
        refine ev_as hE (hE.get 50 rfl) (by decide) ?_
        intro a hE
        refine wpList_nil ?_
        show Q' .normal a w6
        rw [if_pos ht] at hst
        have hb6 : Below w.heap.size w5 w6 := hon6.below (by omega) fun g hg hv => by have := (hI.own.block_lt g hv).1; omega
        refine hQ' _ a w6 ?_ (hE.pick rfl) ⟨s', rfl, by rw [hst]; exact hown6, ?_, ?_, hbw.trans hb6⟩
        · rfl
        · rw [hon6.block _ (by omega) (fun hv => hI.own.ne_blk hI.ms (by decide) hv)]; exact hms5
        · rw [hon6.block _ (by omega) (fun hv => hI.own.ne_blk hI.sv (by decide) hv)]; exact hsv5
      · refine wp_skip ?_
        show Q' .normal a w5
        rw [if_neg (by rw [ht]; decide)] at hst
        exact hQ' _ a w5 rfl (hE.pick rfl) ⟨s, rfl, by rw [hst]; exact hown5, hms5, hsv5, hbw⟩
    refine wp_seq ?_
    refine of_t5 hsv5 hga5 hE ?_
    intro a hE
    show Code.wp _ _ _ _ _
    refine wp_cond_split (hE.get 16 rfl) (fun h1 => ?_) (fun h1 => ?_)
    · refine wp_skip ?_
      show Code.wp _ _ _ _ _
      exact cont a _ (by unfold ofB; rw [h1]; rfl) hE
    · refine wp_seq ?_
      refine of_t6 hsv5 hga5 (hE.pick rfl) ?_
      intro a hE
      show Code.wp _ _ _ _ _
      refine wp_cond_split (hE.get 16 rfl) (fun h2 => ?_) (fun h2 => ?_)
      · refine wp_skip ?_
        show Code.wp _ _ _ _ _
        exact cont a _ (by unfold ofB; rw [h1, h2]; rfl) hE
      · refine of_t7 hsv5 hga5 (hE.pick rfl) ?_
        intro a hE
        show Code.wp _ _ _ _ _
        exact cont a _ (by unfold ofB; rw [h1, h2]; simp) hE
  · rintro l a wr hE ⟨s, rfl, hI⟩
    show Code.wp _ _ _ _ _
    refine wp_seq ?_
    refine wp_region_lit ?_
    refine ev_mv hE (hE.get 5 rfl) (by decide) ?_
    intro a hE
    refine ev_as hE (hE.get 52 rfl) (by decide) ?_
    intro a hE
    refine wpList_nil ?_
    show Code.wp _ _ _ _ _
    refine wp_ret ?_
    have hown := hI.own
    rw [List.take_length] at hown
    exact ret_of_ev hE rfl (hE.get 4 rfl) ⟨s, rfl, hown, hI.below⟩
end Go.Proofs.YtkddkmiomhadaaaDoor
