/- Operations over frames that are not laid open, second part: guards, texts held against each other and joined, picks; facts on blocks carried on. -/
import Derived.Test.YtkddkmiomhadaaaDoorEvm
namespace Go.Proofs.YtkddkmiomhadaaaDoor
open Go.RowKit
theorem beq_dec (x y : List UInt8) : (x == y) = decide (x = y) := by
  by_cases h : x = y <;> simp [h]
section
variable {N : Nat} {l : List (Nat × Value)} {a : Act} {w w' : World} {ops : Array Oper} {rest : List Oper} {o : Oper} {Q : Exit → Act → World → Prop} {d gj gt : Nat} {b b' : Bool} {v : Value} {x y : Operand} {ty : TypeId} {ps : String} {af : Array Edge} {dst : Option Nat} {gd : Option (Nat × Bool)}
theorem yielded_of (hd : (ops[gj]?).bind (·.dst) = some gt) (he : a.eval (.tmp gt) = .bool b') : yielded ops a.tmps gj = some b' := by
  unfold yielded
  rw [hd]
  simp only [Act.eval, Array.getD_eq_getD_getElem?] at he
  cases h : a.tmps[gt]? with
  | none => rw [h] at he; cases he
  | some v =>
    rw [h] at he
    simp only [Option.getD_some] at he
    subst he
    simp [h]
theorem ev_gon (h : Ev N l a) (hg : o.guard = some (gj, b)) (hgd : (ops[gj]?).bind (·.dst) = some gt) (ht : a.eval (.tmp gt) = .bool b) (hd : o.dst = some d) (hdN : d < N) (hr : (execOp a.eval o).run Tryd.prog w = .ok (.value v) w')
    (hK : ∀ a', Ev N ((d, v) :: l) a' → wpList Tryd.prog ops Q rest a' w') : wpList Tryd.prog ops Q (o :: rest) a w := by
  refine wpList_step fun K hK' => ?_
  have hw : Region.wanted o (yielded ops a.tmps) = true := by unfold Region.wanted; rw [hg]; simp [yielded_of hgd ht]
  rw [if_pos hw]
  unfold Oper.wp
  rw [hr]
  refine hK' _ _ ?_
  rw [hd]
  exact hK _ (h.set hdN)
/-- A guarded call. -/
theorem ev_gcall {f : FuncId} {args : Array Value} {S : Value → World → Prop} (h : Ev N l a) (hg : o.guard = some (gj, b)) (hgd : (ops[gj]?).bind (·.dst) = some gt) (ht : a.eval (.tmp gt) = .bool b) (hd : o.dst = some d) (hdN : d < N) (hr : (execOp a.eval o).run Tryd.prog w = .ok (.enter f args) w) (hc : Calls Tryd.prog f args w fun e w' => ∃ v, e = .returned v ∧ S v w')
    (hK : ∀ a' v w', S v w' → Ev N ((d, v) :: l) a' → wpList Tryd.prog ops Q rest a' w') : wpList Tryd.prog ops Q (o :: rest) a w := by
  refine wpList_step fun K hK' => ?_
  have hw : Region.wanted o (yielded ops a.tmps) = true := by unfold Region.wanted; rw [hg]; simp [yielded_of hgd ht]
  rw [if_pos hw]
  unfold Oper.wp
  rw [hr]
  refine Calls.mono hc ?_
  rintro e w' ⟨v, rfl, hS⟩
  refine hK' _ _ ?_
  rw [hd]
  exact hK _ v w' hS (h.set hdN)
theorem ev_goff (h : Ev N l a) (hg : o.guard = some (gj, b)) (hgd : (ops[gj]?).bind (·.dst) = some gt) (ht : a.eval (.tmp gt) = .bool b') (hne : (b' == b) = false) (hd : o.dst = some d) (hdN : d < N)
    (hK : ∀ a', Ev N ((d, undef) :: l) a' → wpList Tryd.prog ops Q rest a' w) : wpList Tryd.prog ops Q (o :: rest) a w := by
  refine wpList_step fun K hK' => ?_
  have hw : Region.wanted o (yielded ops a.tmps) = false := by
    unfold Region.wanted
    rw [hg]
    simp only [yielded_of hgd ht]
    cases b <;> cases b' <;> simp at hne ⊢
  rw [if_neg (by rw [hw]; decide)]
  refine hK' _ _ ?_
  rw [hd]
  exact hK _ (h.set hdN)
theorem ex_fa {T k g i j t : Nat} (hx : a.eval (.tmp t) = pt g i) (hfa : Fa T k g i j) : (execOp a.eval ⟨dst, .fieldAddr T (.tmp t) k, ty, ps, af, gd⟩).run Tryd.prog w = .ok (.value (pt g j)) w := by
  simp only [execOp, hx]; exact run_andValue (hfa w)
theorem ex_ld {T t : Nat} {p : Addr} (hx : a.eval (.tmp t) = .pointer (some p)) (hL : Ld T) (hc : w.cell? p = some v) : (execOp a.eval ⟨dst, .load T (.tmp t), ty, ps, af, gd⟩).run Tryd.prog w = .ok (.value v) w := by
  simp only [execOp, hx]; exact run_andValue (hL w _ _ hc)
theorem ex_lb {T k t g : Nat} {cs : Array Value} {e : TypeId} {fr : Nat × Nat} (hA : Ag T k) (hx : a.eval (.tmp t) = pt g 0) (hg : w.heap[g]? = some (.cells cs e fr)) (hsz : cs.size = k) : (execOp a.eval ⟨dst, .load T (.tmp t), ty, ps, af, gd⟩).run Tryd.prog w = .ok (.value (.agg cs)) w := by
  have hr := run_load_blk (P := Tryd.prog) (w := w) T hA.agg hA.size hg hsz
  simp only [execOp, hx, Instr.loadAt, Instr.sureAddr]
  simp [hr, Result.andThen]
theorem ex_mv {t : Nat} (hx : a.eval (.tmp t) = v) : (execOp a.eval ⟨dst, .move (.tmp t), ty, ps, af, gd⟩).run Tryd.prog w = .ok (.value v) w := by simp only [execOp, hx]; rfl
theorem ex_eqs {T T' : TypeId} {s t : ByteArray} (hx : a.eval x = .string s) (hy : a.eval y = .string t) : (execOp a.eval ⟨dst, .binOp .eql T x y T', ty, ps, af, gd⟩).run Tryd.prog w = .ok (.value (.bool (decide (s.data.toList = t.data.toList)))) w := by
  simp only [execOp, hx, hy]
  show Result.ok (Next.value (Value.bool (s.toList == t.toList))) w = _
  rw [ByteArray.toList_eq, ByteArray.toList_eq, beq_dec]
theorem ex_nes {T T' : TypeId} {s t : ByteArray} (hx : a.eval x = .string s) (hy : a.eval y = .string t) : (execOp a.eval ⟨dst, .binOp .neq T x y T', ty, ps, af, gd⟩).run Tryd.prog w = .ok (.value (.bool (!decide (s.data.toList = t.data.toList)))) w := by
  simp only [execOp, hx, hy]
  show Result.ok (Next.value (Value.bool (!(s.toList == t.toList)))) w = _
  rw [ByteArray.toList_eq, ByteArray.toList_eq, beq_dec]
theorem ex_ne0 {T T' : TypeId} {s : ByteArray} (hx : a.eval x = .string s) : (execOp a.eval ⟨dst, .binOp .neq T x (.const (.string ⟨#[]⟩)) T', ty, ps, af, gd⟩).run Tryd.prog w = .ok (.value (.bool (ne s))) w := by
  have h : (s.toList == (⟨#[]⟩ : ByteArray).toList) = s.data.toList.isEmpty := by
    rw [ByteArray.toList_eq, ByteArray.toList_eq]
    cases s.data.toList <;> rfl
  simp only [execOp, hx]
  show Result.ok (Next.value (Value.bool (!(s.toList == (⟨#[]⟩ : ByteArray).toList)))) w = _
  rw [h]
  rfl
theorem ex_add {T T' : TypeId} {s t : ByteArray} (hx : a.eval x = .string s) (hy : a.eval y = .string t) (hs : s.size + t.size ≤ 9223372036854775807) : (execOp a.eval ⟨dst, .binOp .add T x y T', ty, ps, af, gd⟩).run Tryd.prog w = .ok (.value (.string (s ++ t))) w := by
  have hr := run_string_add_sum (P := Tryd.prog) w s t hs
  simp [execOp, hx, hy, binOp, hr, eqGuard, Result.andThen]
theorem ex_pick {c p q : Operand} (hc : a.eval c = .bool b) : (execOp a.eval ⟨dst, .pick c p q, ty, ps, af, gd⟩).run Tryd.prog w = .ok (.value (if b then a.eval p else a.eval q)) w := by
  simp only [execOp, hc]; cases b <;> rfl
theorem ex_not {T : TypeId} {t : Nat} (hx : a.eval (.tmp t) = .bool b) : (execOp a.eval ⟨dst, .unOp .not T (.tmp t), ty, ps, af, gd⟩).run Tryd.prog w = .ok (.value (.bool (!b))) w := by
  simp only [execOp, hx]; rfl
theorem ex_len {T e : TypeId} {t : Nat} {p : Option Addr} {n c : Nat} (hu : Tryd.prog.underlying T = some (.slice e)) (hx : a.eval (.tmp t) = .slice p n c) : (execOp a.eval ⟨dst, .call { callee := .builtin .len, args := #[.tmp t], argTypes := #[T] }, ty, ps, af, gd⟩).run Tryd.prog w = .ok (.value (.int .i64 n)) w := by
  simp only [execOp, resolve, List.map_toArray, List.map_cons, List.map_nil, hx]
  go_simp
end
theorem hp_below {w w' : World} {g : Nat} {ob : Obj} (h : w.heap[g]? = some ob) (hb : Below w.heap.size w w') : w'.heap[g]? = some ob := by
  rw [hb.block g (Array.getElem?_eq_some_iff.1 h).1]; exact h
theorem hp_only {w w' : World} {g g' : Nat} {ob : Obj} (h : w.heap[g]? = some ob) (ho : Only (fun x => x = g') w w') (hne : g ≠ g') : w'.heap[g]? = some ob := by
  rw [ho.block g (Array.getElem?_eq_some_iff.1 h).1 hne]; exact h
theorem only_bel {w w' : World} {g B : Nat} (h : Only (fun x => x = g) w w') (hB : B ≤ w.heap.size) (hg : B ≤ g) : Below B w w' := h.below hB fun k hk e => by omega
end Go.Proofs.YtkddkmiomhadaaaDoor
