/- A cue is not unlike itself. -/
import Derived.Test.YtbehijhpichniaaDoorRun
namespace Go.Proofs.YtbehijhpichniaaDoor
open Go.RowKit
theorem run_equalIn_float {P : Program} (w : World) (d : Nat) (t : TypeId) (k : FloatKind) (x : Nat) (h : P.underlying t = some (.float k)) (ho : (k.format.order x x == some .eq) = true) : (Op.equalIn (d + 1) t (.float k x) (.float k x)).run P w = .ok true w := by
  simp [Op.equalIn, run_underlying h, Op.floatEq, ho]
theorem neq_cue (cu : Cu) (h1 : (FloatKind.f64.format.order cu.tm cu.tm == some .eq) = true) (h2 : (FloatKind.f64.format.order cu.el cu.el == some .eq) = true) (w : World) :
    (binOp .neq 46 (.agg cu.list.toArray) (.agg cu.list.toArray)).run Tryd.prog w = .ok (.bool false) w := by
  have f1 := fun d w => run_equalIn_float (P := Tryd.prog) w d 26 .f64 cu.tm Tryd.underlying26 h1
  have f2 := fun d w => run_equalIn_float (P := Tryd.prog) w d 26 .f64 cu.el Tryd.underlying26 h2
  unfold Cu.list
  rw [run_neq_struct]
  go_simp
/-- A guarded operation that runs. -/
theorem og_guard_on {P : Program} {ops : Array Oper} {Q : Exit → Act → World → Prop} {K : Act → World → Prop} {a : Act} {w : World} {i gj d : Nat} {b : Bool} {o : Oper} (ho : ops[i]? = some o) (hg : o.guard = some (gj, b)) (hd : (ops[gj]?).bind (·.dst) = some d) (he : a.eval (.tmp d) = .bool b) (hk : o.wp P a w K Q) : wpOp P ops Q i K a w := by
  have hy : yielded ops a.tmps gj = some b := by
    unfold yielded
    rw [hd]
    simp only [Act.eval, Array.getD_eq_getD_getElem?] at he
    cases h : a.tmps[d]? with
    | none => rw [h] at he; cases he
    | some v =>
      rw [h] at he
      simp only [Option.getD_some] at he
      subst he
      simp [h]
  unfold wpOp
  rw [ho]
  have hw : Region.wanted o (yielded ops a.tmps) = true := by unfold Region.wanted; rw [hg]; simp [hy]
  simp only [hw, if_true]
  exact .inl hk
/-- A guarded operation that does not run. -/
theorem og_guard_off {P : Program} {ops : Array Oper} {Q : Exit → Act → World → Prop} {K : Act → World → Prop} {a : Act} {w : World} {i gj d : Nat} {b b' : Bool} {o : Oper} (ho : ops[i]? = some o) (hg : o.guard = some (gj, b)) (hd : (ops[gj]?).bind (·.dst) = some d) (he : a.eval (.tmp d) = .bool b') (hne : (b' == b) = false) (hk : K (a.put o.dst undef) w) : wpOp P ops Q i K a w := by
  have hy : yielded ops a.tmps gj = some b' := by
    unfold yielded
    rw [hd]
    simp only [Act.eval, Array.getD_eq_getD_getElem?] at he
    cases h : a.tmps[d]? with
    | none => rw [h] at he; cases he
    | some v =>
      rw [h] at he
      simp only [Option.getD_some] at he
      subst he
      simp [h]
  unfold wpOp
  rw [ho]
  have hw : Region.wanted o (yielded ops a.tmps) = false := by
    unfold Region.wanted
    rw [hg]
    simp only [hy]
    cases b <;> cases b' <;> simp at hne ⊢
  simp only [hw, Bool.false_eq_true, if_false]
  exact hk
end Go.Proofs.YtbehijhpichniaaDoor
