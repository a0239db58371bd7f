/- Frames that are not laid open: regions that draw and only read; arithmetic. -/
import Derived.Test.YtkddkmiomhadaaaDoorWmm
import Derived.BigQuiet
import Derived.Shelf.Bits.Mul64
namespace Go.Proofs.YtkddkmiomhadaaaDoor
open Go.RowKit
section
variable {N : Nat} {l : List (Nat × Value)} {a : Act} {w : World} {ops : Array Oper} {rest : List Oper} {o : Oper} {C : World → Prop} {Q : Act → Prop} {d : Nat} {v : Value}
theorem qv_run (h : Ev N l a) (hg : o.guard = none) (hd : o.dst = some d) (hdN : d < N) (hr : ∀ w, C w → (execOp a.eval o).run Tryd.prog w = .ok (.value v) w)
    (hK : ∀ a', Ev N ((d, v) :: l) a' → wpQuiet Tryd.prog ops C Q rest a') : wpQuiet Tryd.prog ops C Q (o :: rest) a := by
  have hw : Region.wanted o (yielded ops a.tmps) = true := by unfold Region.wanted; rw [hg]
  unfold wpQuiet
  rw [if_pos hw]
  refine ⟨v, fun w hC => ?_, by rw [hd]; exact hK _ (h.set hdN)⟩
  unfold Oper.quietAt
  rw [hr w hC]
  exact ⟨rfl, rfl⟩
theorem qv_call {f : FuncId} {args : Array Value} (h : Ev N l a) (hg : o.guard = none) (hd : o.dst = some d) (hdN : d < N) (hr : ∀ w, C w → (execOp a.eval o).run Tryd.prog w = .ok (.enter f args) w) (hc : ∀ w, C w → Calls Tryd.prog f args w fun e w' => e = .returned v ∧ C w')
    (hK : ∀ a', Ev N ((d, v) :: l) a' → wpQuiet Tryd.prog ops C Q rest a') : wpQuiet Tryd.prog ops C Q (o :: rest) a := by
  have hw : Region.wanted o (yielded ops a.tmps) = true := by unfold Region.wanted; rw [hg]
  unfold wpQuiet
  rw [if_pos hw]
  refine ⟨v, fun w hC => ?_, by rw [hd]; exact hK _ (h.set hdN)⟩
  unfold Oper.quietAt
  rw [hr w hC]
  exact ⟨rfl, hc w hC⟩
end
section
variable {a : Act} {w : World} {dst : Option Nat} {T T' ty : TypeId} {ps : String} {af : Array Edge} {gd : Option (Nat × Bool)} {x y : Operand} {k k2 : IntKind} {i j z : Int} {b : Bool}
theorem ei_add (hx : a.eval x = .int k i) (hy : a.eval y = .int k j) (hz : k.wrap (i + j) = z) : (execOp a.eval ⟨dst, .binOp .add T x y T', ty, ps, af, gd⟩).run Tryd.prog w = .ok (.value (.int k z)) w := by
  simp only [execOp, hx, hy]
  simp [eqGuard, binOp, Op.intArith, Result.andThen, hz]
theorem ei_sub (hx : a.eval x = .int k i) (hy : a.eval y = .int k j) (hz : k.wrap (i - j) = z) : (execOp a.eval ⟨dst, .binOp .sub T x y T', ty, ps, af, gd⟩).run Tryd.prog w = .ok (.value (.int k z)) w := by
  simp only [execOp, hx, hy]
  simp [eqGuard, binOp, Op.intArith, Result.andThen, hz]
theorem ei_mul (hx : a.eval x = .int k i) (hy : a.eval y = .int k j) (hz : k.wrap (i * j) = z) : (execOp a.eval ⟨dst, .binOp .mul T x y T', ty, ps, af, gd⟩).run Tryd.prog w = .ok (.value (.int k z)) w := by
  simp only [execOp, hx, hy]
  simp [eqGuard, binOp, Op.intArith, Result.andThen, hz]
theorem ei_lss (hx : a.eval x = .int k i) (hy : a.eval y = .int k j) (hz : decide (i < j) = b) : (execOp a.eval ⟨dst, .binOp .lss T x y T', ty, ps, af, gd⟩).run Tryd.prog w = .ok (.value (.bool b)) w := by
  simp only [execOp, hx, hy]
  simp [eqGuard, binOp, Op.intCmp, Result.andThen, hz]
theorem ei_leq (hx : a.eval x = .int k i) (hy : a.eval y = .int k j) (hz : decide (i ≤ j) = b) : (execOp a.eval ⟨dst, .binOp .leq T x y T', ty, ps, af, gd⟩).run Tryd.prog w = .ok (.value (.bool b)) w := by
  simp only [execOp, hx, hy]
  simp [eqGuard, binOp, Op.intCmp, Result.andThen, hz]
theorem ei_gtr (hx : a.eval x = .int k i) (hy : a.eval y = .int k j) (hz : decide (j < i) = b) : (execOp a.eval ⟨dst, .binOp .gtr T x y T', ty, ps, af, gd⟩).run Tryd.prog w = .ok (.value (.bool b)) w := by
  simp only [execOp, hx, hy]
  simp [eqGuard, binOp, Op.intCmp, Result.andThen, hz]
theorem ei_geq (hx : a.eval x = .int k i) (hy : a.eval y = .int k j) (hz : decide (j ≤ i) = b) : (execOp a.eval ⟨dst, .binOp .geq T x y T', ty, ps, af, gd⟩).run Tryd.prog w = .ok (.value (.bool b)) w := by
  simp only [execOp, hx, hy]
  simp [eqGuard, binOp, Op.intCmp, Result.andThen, hz]
theorem ei_and (hx : a.eval x = .int k i) (hy : a.eval y = .int k j) (hz : bits .and k i j = z) : (execOp a.eval ⟨dst, .binOp .and T x y T', ty, ps, af, gd⟩).run Tryd.prog w = .ok (.value (.int k z)) w := by
  simp only [execOp, hx, hy]
  rw [← hz]
  simp [eqGuard, binOp, Result.andThen, intBits_and]
theorem ei_or (hx : a.eval x = .int k i) (hy : a.eval y = .int k j) (hz : bits .or k i j = z) : (execOp a.eval ⟨dst, .binOp .or T x y T', ty, ps, af, gd⟩).run Tryd.prog w = .ok (.value (.int k z)) w := by
  simp only [execOp, hx, hy]
  rw [← hz]
  simp [eqGuard, binOp, Result.andThen, intBits_or]
theorem ei_shr (hx : a.eval x = .int k i) (hy : a.eval y = .int k2 j) (h0 : 0 ≤ j) (h1 : j ≤ k.bits) (hz : i / 2 ^ j.toNat = z) : (execOp a.eval ⟨dst, .binOp .shr T x y T', ty, ps, af, gd⟩).run Tryd.prog w = .ok (.value (.int k z)) w := by
  simp only [execOp, hx, hy]
  rw [← hz]
  simp [eqGuard, binOp, Result.andThen, shift_shr k k2 i j h0 h1]
theorem ei_shl (hx : a.eval x = .int k i) (hy : a.eval y = .int k2 j) (h0 : 0 ≤ j) (h1 : j ≤ k.bits) (hz : k.wrap (i * 2 ^ j.toNat) = z) : (execOp a.eval ⟨dst, .binOp .shl T x y T', ty, ps, af, gd⟩).run Tryd.prog w = .ok (.value (.int k z)) w := by
  simp only [execOp, hx, hy]
  rw [← hz]
  simp [eqGuard, binOp, Result.andThen, shift_shl k k2 i j h0 h1]
theorem ei_quo (hx : a.eval x = .int k i) (hy : a.eval y = .int k j) (hj : j ≠ 0) (hz : k.wrap (i.tdiv j) = z) : (execOp a.eval ⟨dst, .binOp .quo T x y T', ty, ps, af, gd⟩).run Tryd.prog w = .ok (.value (.int k z)) w := by
  simp only [execOp, hx, hy]
  rw [← hz]
  simp [eqGuard, binOp, Op.intArith, Result.andThen, Op.intDiv, hj]
theorem ei_neg (hx : a.eval x = .int k i) (hz : k.wrap (-i) = z) : (execOp a.eval ⟨dst, .unOp .neg T x, ty, ps, af, gd⟩).run Tryd.prog w = .ok (.value (.int k z)) w := by
  simp only [execOp, hx]
  rw [← hz]
  go_simp
theorem ei_ext {t n : Nat} {vs : Array Value} {v : Value} (hx : a.eval (.tmp t) = .tuple vs) (hv : vs[n]? = some v) : (execOp a.eval ⟨dst, .extract (.tmp t) n, ty, ps, af, gd⟩).run Tryd.prog w = .ok (.value v) w := by
  simp only [execOp, hx]
  simp [Instr.extract, hv, Result.andThen]
end
end Go.Proofs.YtkddkmiomhadaaaDoor
