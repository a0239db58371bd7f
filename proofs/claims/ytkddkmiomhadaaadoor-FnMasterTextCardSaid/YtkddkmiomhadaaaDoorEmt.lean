/- Triples over frames that are not laid open, for code that writes behind a bytes.Buffer: what a piece of code writes; regions that draw their order, as two chains and a write. -/
import Derived.Test.YtkddkmiomhadaaaDoorOgT
import Derived.Test.YtkddkmiomhadaaaDoorStp
import Derived.Lib.Hide
namespace Go.Proofs.YtkddkmiomhadaaaDoor
open Go.RowKit
/-- The frame: its size, nothing deferred, the slots below m0 as f says. -/
structure Fr (N m0 : Nat) (f : Nat → Value) (a : Act) : Prop where
  size : a.tmps.size = N
  defers : a.defers = []
  low : ∀ t, t < m0 → a.eval (.tmp t) = f t
theorem Fr.put {N m0 d : Nat} {f : Nat → Value} {a : Act} {v : Value} (h : Fr N m0 f a) (hd : m0 ≤ d) : Fr N m0 f (a.put (some d) v) :=
  ⟨by simp [Act.put, h.size], by simp [Act.put, h.defers], fun t ht => by rw [ev_ne (by omega)]; exact h.low t ht⟩
/-- What the world's predicate owes: it stands in greater worlds; the two writes. -/
structure Wr (W : List UInt8 → World → Prop) (lim : Nat) (p : Addr) : Prop where
  below : ∀ s w w', W s w → Below w.heap.size w w' → W s w'
  ws : ∀ s w (x : ByteArray), W s w → s.length + x.data.toList.length ≤ lim → Calls Tryd.prog 33 #[.pointer (some p), .string x] w fun e w' => (∃ v, e = .returned v) ∧ W (s ++ x.data.toList) w'
  wr : ∀ s w (c : Nat), c < 128 → W s w → s.length + 1 ≤ lim → Calls Tryd.prog 35 #[.pointer (some p), .int .i32 c] w fun e w' => (∃ v, e = .returned v) ∧ W (s ++ [UInt8.ofNat c]) w'
def Tr (N m0 : Nat) (f : Nat → Value) (W : List UInt8 → World → Prop) (lim : Nat) (c : Code) (l : List UInt8) : Prop :=
  ∀ s a w, Fr N m0 f a → W s w → s.length + l.length ≤ lim → ∀ Q : Exit → Act → World → Prop, (∀ a' w', Fr N m0 f a' → W (s ++ l) w' → Q .normal a' w') → c.wp Tryd.prog Q a w
def Ts (N m0 : Nat) (f : Nat → Value) (W : List UInt8 → World → Prop) (c : Code) (t : Nat) (v : Value) : Prop :=
  ∀ s a w, Fr N m0 f a → W s w → ∀ Q : Exit → Act → World → Prop, (∀ a' w', Fr N m0 f a' → W s w' → a'.eval (.tmp t) = v → Q .normal a' w') → c.wp Tryd.prog Q a w
section
variable {N m0 : Nat} {f : Nat → Value} {W : List UInt8 → World → Prop} {lim : Nat}
theorem Tr.seq {c d : Code} {l m : List UInt8} (h1 : Tr N m0 f W lim c l) (h2 : Tr N m0 f W lim d m) : Tr N m0 f W lim (c.seq d) (l ++ m) := by
  intro s a w hf hw hlim Q hQ
  rw [List.length_append] at hlim
  refine wp_seq (h1 s a w hf hw (by omega) _ fun a' w' hf' hw' => ?_)
  exact h2 _ a' w' hf' hw' (by simp only [List.length_append]; omega) _ fun a'' w'' hf'' hw'' => hQ _ _ hf'' (by rw [← List.append_assoc]; exact hw'')
theorem Tr.skip : Tr N m0 f W lim .skip [] := fun s a w hf hw _ Q hQ => wp_skip (hQ a w hf (by rw [List.append_nil]; exact hw))
theorem Tr.ite {c d e : Code} {t : Nat} {b : Bool} {l m : List UInt8} (h : Ts N m0 f W c t (.bool b)) (h1 : b = true → Tr N m0 f W lim d l) (h2 : b = false → Tr N m0 f W lim e m) :
    Tr N m0 f W lim (c.seq (.cond (.tmp t) d e)) (if b = true then l else m) := by
  intro s a w hf hw hlim Q hQ
  refine wp_seq (h s a w hf hw _ fun a' w' hf' hw' ht => ?_)
  refine wp_cond_split ht (fun hb => ?_) (fun hb => ?_)
  · rw [if_pos hb] at hlim hQ; exact h1 hb _ a' w' hf' hw' hlim _ hQ
  · rw [if_neg (by rw [hb]; decide)] at hlim hQ; exact h2 hb _ a' w' hf' hw' hlim _ hQ
theorem Tr.opt {c d : Code} {t : Nat} {b : Bool} {l : List UInt8} (h : Ts N m0 f W c t (.bool b)) (h1 : b = true → Tr N m0 f W lim d l) :
    Tr N m0 f W lim (c.seq (.cond (.tmp t) d .skip)) (if b = true then l else []) := Tr.ite h h1 fun _ => Tr.skip
theorem Tr.congr {c : Code} {l m : List UInt8} (h : Tr N m0 f W lim c l) (e : l = m) : Tr N m0 f W lim c m := e ▸ h
/-- An operation that reads one operand, hands back v, and leaves what the predicate says. -/
structure Sp (W : List UInt8 → World → Prop) (o : Oper) (x : Operand) (u v : Value) : Prop where
  guard : o.guard = none
  run : ∀ s a w (next : Act → World → Prop) (Q : Exit → Act → World → Prop), W s w → a.eval x = u → (∀ w', W s w' → Below w.heap.size w w' → next (a.put o.dst v) w') → o.wp Tryd.prog a w next Q
variable {ops : Array Oper} {rest : List Oper} {a : Act} {w : World} {Q : Exit → Act → World → Prop} {s : List UInt8} {o : Oper} {x : Operand} {u v : Value}
theorem chn_one {d : Nat} (h : Sp W o x u v) (hx : a.eval x = u) (hd : o.dst = some d) (hm : m0 ≤ d) (hN : d < N) (hf : Fr N m0 f a) (hw : W s w)
    (hK : ∀ a' w', Fr N m0 f a' → W s w' → a'.eval (.tmp d) = v → wpList Tryd.prog ops Q rest a' w') : wpList Tryd.prog ops Q (o :: rest) a w := by
  refine wpList_plain h.guard fun K hK' => ?_
  refine h.run s a w K Q hw hx fun w' hw' _ => hK' _ _ ?_
  rw [hd]
  exact hK _ _ (hf.put hm) hw' (ev_eq (by rw [hf.size]; exact hN))
theorem sp_val {d : Option Nat} {q : Op} {ty : TypeId} {ps : String} {af : Array Edge} (h : ∀ (a : Act) s w, W s w → a.eval x = u → (execOp a.eval ⟨d, q, ty, ps, af, none⟩).run Tryd.prog w = .ok (.value v) w) : Sp W ⟨d, q, ty, ps, af, none⟩ x u v := by
  refine ⟨rfl, fun s a w next Q hw hx hn => ?_⟩
  unfold Oper.wp
  rw [h a s w hw hx]
  exact hn w hw (Below.refl _ _)
theorem sp_call {d : Option Nat} {q : Op} {ty : TypeId} {ps : String} {af : Array Edge} {fn : FuncId} {args : Array Value} (h : ∀ (a : Act) s w, W s w → a.eval x = u → (execOp a.eval ⟨d, q, ty, ps, af, none⟩).run Tryd.prog w = .ok (.enter fn args) w)
    (hc : ∀ s w, W s w → Calls Tryd.prog fn args w fun e w' => e = .returned v ∧ W s w' ∧ Below w.heap.size w w') : Sp W ⟨d, q, ty, ps, af, none⟩ x u v := by
  refine ⟨rfl, fun s a w next Q hw hx hn => ?_⟩
  unfold Oper.wp
  rw [h a s w hw hx]
  refine (hc s w hw).mono ?_
  rintro e w' ⟨rfl, hw', hb⟩
  exact hn w' hw' hb
variable {d : Option Nat} {ty : TypeId} {ps : String} {af : Array Edge} {t : Nat}
theorem sp_move : Sp W ⟨d, .move (.tmp t), ty, ps, af, none⟩ (.tmp t) u u := sp_val fun a s w _ hx => by simp only [execOp, hx]; rfl
theorem sp_assign : Sp W ⟨d, .assign (.tmp t), ty, ps, af, none⟩ (.tmp t) u u := sp_val fun a s w _ hx => by simp only [execOp, hx]; rfl
theorem sp_nil {p : Addr} : Sp W ⟨d, .nilCheck (.tmp t), ty, ps, af, none⟩ (.tmp t) (.pointer (some p)) (.pointer (some p)) := sp_val fun a s w _ hx => by simp only [execOp, hx]; rfl
theorem run_andValue {sm : Sem Value} (h : sm.run Tryd.prog w = .ok v w) : (do pure (Next.value (← sm)) : Sem Next).run Tryd.prog w = .ok (.value v) w := by
  simp [h, Result.andThen]
theorem sp_fa {T : TypeId} {k : Nat} (h : ∀ w, (Instr.fieldAt T u k).run Tryd.prog w = .ok v w) : Sp W ⟨d, .fieldAddr T (.tmp t) k, ty, ps, af, none⟩ (.tmp t) u v :=
  sp_val fun a s w _ hx => by simp only [execOp, hx]; exact run_andValue (h w)
theorem sp_ld {T : TypeId} {p : Addr} (hT : ∀ w p v, w.cell? p = some v → (Instr.loadAt T (.pointer (some p))).run Tryd.prog w = .ok v w) (hc : ∀ s w, W s w → w.cell? p = some v) : Sp W ⟨d, .load T (.tmp t), ty, ps, af, none⟩ (.tmp t) (.pointer (some p)) v :=
  sp_val fun a s w hw hx => by simp only [execOp, hx]; exact run_andValue (hT w p v (hc s w hw))
theorem sp_bin {b : BinOp} {T T' : TypeId} {y : Value} (hr : ∀ w, (binOp b T u y).run Tryd.prog w = .ok v w) (hg : ∀ w, (eqGuard b T (.tmp t) (.const y) u y).run Tryd.prog w = .ok () w) : Sp W ⟨d, .binOp b T (.tmp t) (.const y) T', ty, ps, af, none⟩ (.tmp t) u v :=
  sp_val fun a s w _ hx => by simp only [execOp, hx]; simp [Act.eval, hg, hr, Result.andThen]
theorem sp_conv {T T' : TypeId} (hr : ∀ w, (convert T T' u).run Tryd.prog w = .ok v w) : Sp W ⟨d, .convert T T' (.tmp t), ty, ps, af, none⟩ (.tmp t) u v :=
  sp_val fun a s w _ hx => by simp only [execOp, hx]; exact run_andValue (hr w)
end
/-- The slots that the operations write lie from m0 on. -/
def lowOk (ops : Array Oper) (m0 : Nat) : Bool := ops.toList.all fun o => match o.dst with | some d => decide (m0 ≤ d) | none => true
theorem lowOk_spec {ops : Array Oper} {m0 : Nat} (h : lowOk ops m0 = true) {j : Nat} {o : Oper} {d : Nat} (ho : ops[j]? = some o) (hd : o.dst = some d) : m0 ≤ d := by
  unfold lowOk at h
  rw [List.all_eq_true] at h
  have := h o (by have := Array.mem_of_getElem? ho; simpa using this)
  rw [hd] at this
  simpa using this
theorem OgCtx.outLow {ops : Array Oper} {a0 a : Act} {w0 w : World} {E : Nat → Nat → Prop} {Φ : Nat → Value → World → Prop} {i m0 t : Nat} (c : OgCtx ops a0 w0 E Φ i a w) (h : lowOk ops m0 = true) (ht : t < m0) : a.eval (.tmp t) = a0.eval (.tmp t) := by
  have := c.out t (fun j o hj hd => by have := lowOk_spec h hj hd; omega)
  simp only [Act.eval, Array.getD_eq_getD_getElem?, this]
theorem OgHead.outLow {ops : Array Oper} {m : Nat} {a0 a : Act} {w0 w : World} {E : Nat → Nat → Prop} {Φ : Nat → Value → World → Prop} {m0 t : Nat} (c : OgHead ops m a0 w0 E Φ a w) (h : lowOk ops m0 = true) (ht : t < m0) : a.eval (.tmp t) = a0.eval (.tmp t) := by
  have := c.out t (fun j o _ hj hd => by have := lowOk_spec h hj hd; omega)
  simp only [Act.eval, Array.getD_eq_getD_getElem?, this]
theorem OgHead.fr {ops : Array Oper} {m : Nat} {a0 a : Act} {w0 w : World} {E : Nat → Nat → Prop} {Φ : Nat → Value → World → Prop} {N m0 : Nat} {f : Nat → Value} (c : OgHead ops m a0 w0 E Φ a w) (h : lowOk ops m0 = true) (hf : Fr N m0 f a0) : Fr N m0 f a :=
  ⟨c.size.trans hf.size, c.defers.trans hf.defers, fun t ht => (c.outLow h ht).trans (hf.low t ht)⟩
theorem OgEnd.outLow {ops : Array Oper} {a0 a : Act} {w0 w : World} {E : Nat → Nat → Prop} {Φ : Nat → Value → World → Prop} {m0 t : Nat} (c : OgEnd ops a0 w0 E Φ a w) (h : lowOk ops m0 = true) (ht : t < m0) : a.eval (.tmp t) = a0.eval (.tmp t) := by
  have := c.out t (fun j o hj hd => by have := lowOk_spec h hj hd; omega)
  simp only [Act.eval, Array.getD_eq_getD_getElem?, this]
theorem only_below {w w' : World} (h : Only (fun g => ∃ e : Nat, (fun (_ : Nat) (_ : Nat) => False) e g) w.drew w') : Below w.heap.size w w' := by
  have h0 := h.below (B := w.heap.size) (Nat.le_refl _) fun g _ ⟨_, h⟩ => h
  exact ⟨h0.os, h0.tape, h0.output, h0.size, h0.block⟩

theorem tr_lit {N m0 : Nat} {f : Nat → Value} {W : List UInt8 → World → Prop} {lim : Nat} {p : Addr} {x : ByteArray} (H : Wr W lim p) {id d0 d1 d2 d3 tp : Nat} {q0 q1 q2 : Op} {y0 y1 y2 y3 : TypeId} {p0 p1 p2 p3 : String} {e0 e1 e2 e3 : Array Edge} {at3 : Array TypeId} {v0 v1 : Value}
    (s0 : Sp W ⟨some d0, q0, y0, p0, e0, none⟩ (.tmp tp) (f tp) v0) (s1 : Sp W ⟨some d1, q1, y1, p1, e1, none⟩ (.tmp d0) v0 v1) (s2 : Sp W ⟨some d2, q2, y2, p2, e2, none⟩ (.tmp d1) v1 (.pointer (some p)))
    (hm : tp < m0 ∧ m0 ≤ d0 ∧ m0 ≤ d1 ∧ m0 ≤ d2 ∧ m0 ≤ d3) (hN : d0 < N ∧ d1 < N ∧ d2 < N ∧ d3 < N) :
    Tr N m0 f W lim (.region id #[⟨some d0, q0, y0, p0, e0, none⟩, ⟨some d1, q1, y1, p1, e1, none⟩, ⟨some d2, q2, y2, p2, e2, none⟩, ⟨some d3, .call { callee := .value (.func 33), args := #[.tmp d2, .const (.string x)], argTypes := at3 }, y3, p3, e3, none⟩] false) (x.data.toList) := by
  intro s a w hf hw hlim Q hQ
  refine wp_region_lit ?_
  refine chn_one s0 (hf.low tp hm.1) rfl hm.2.1 hN.1 hf hw ?_
  intro a w hf hw h0
  refine chn_one s1 h0 rfl hm.2.2.1 hN.2.1 hf hw ?_
  intro a w hf hw h1
  refine chn_one s2 h1 rfl hm.2.2.2.1 hN.2.2.1 hf hw ?_
  intro a w hf hw h2
  refine wpList_plain rfl fun K hK => ?_
  unfold Oper.wp
  simp only [execOp, resolve, List.map_toArray, List.map_cons, List.map_nil, h2]
  go_simp
  refine (H.ws s w _ hw hlim).mono ?_
  rintro e w' ⟨⟨v, rfl⟩, hw'⟩
  exact hK _ _ (wpList_nil (hQ _ _ (hf.put hm.2.2.2.2) hw'))
theorem tr_rune {N m0 : Nat} {f : Nat → Value} {W : List UInt8 → World → Prop} {lim : Nat} {p : Addr} {c : Nat} (H : Wr W lim p) (hc : c < 128) {id d0 d1 d2 d3 tp : Nat} {q0 q1 q2 : Op} {y0 y1 y2 y3 : TypeId} {p0 p1 p2 p3 : String} {e0 e1 e2 e3 : Array Edge} {at3 : Array TypeId} {v0 v1 : Value}
    (s0 : Sp W ⟨some d0, q0, y0, p0, e0, none⟩ (.tmp tp) (f tp) v0) (s1 : Sp W ⟨some d1, q1, y1, p1, e1, none⟩ (.tmp d0) v0 v1) (s2 : Sp W ⟨some d2, q2, y2, p2, e2, none⟩ (.tmp d1) v1 (.pointer (some p)))
    (hm : tp < m0 ∧ m0 ≤ d0 ∧ m0 ≤ d1 ∧ m0 ≤ d2 ∧ m0 ≤ d3) (hN : d0 < N ∧ d1 < N ∧ d2 < N ∧ d3 < N) :
    Tr N m0 f W lim (.region id #[⟨some d0, q0, y0, p0, e0, none⟩, ⟨some d1, q1, y1, p1, e1, none⟩, ⟨some d2, q2, y2, p2, e2, none⟩, ⟨some d3, .call { callee := .value (.func 35), args := #[.tmp d2, .const (.int .i32 (c : Int))], argTypes := at3 }, y3, p3, e3, none⟩] false) ([UInt8.ofNat c]) := by
  intro s a w hf hw hlim Q hQ
  refine wp_region_lit ?_
  refine chn_one s0 (hf.low tp hm.1) rfl hm.2.1 hN.1 hf hw ?_
  intro a w hf hw h0
  refine chn_one s1 h0 rfl hm.2.2.1 hN.2.1 hf hw ?_
  intro a w hf hw h1
  refine chn_one s2 h1 rfl hm.2.2.2.1 hN.2.2.1 hf hw ?_
  intro a w hf hw h2
  refine wpList_plain rfl fun K hK => ?_
  unfold Oper.wp
  simp only [execOp, resolve, List.map_toArray, List.map_cons, List.map_nil, h2]
  go_simp
  refine (H.wr s w _ hc hw (by simpa using hlim)).mono ?_
  rintro e w' ⟨⟨v, rfl⟩, hw'⟩
  exact hK _ _ (wpList_nil (hQ _ _ (hf.put hm.2.2.2.2) hw'))
set_option maxRecDepth 100000 in
theorem tr_drawn8 {N m0 : Nat} {f : Nat → Value} {W : List UInt8 → World → Prop} {lim : Nat} {p : Addr} {x : ByteArray} (H : Wr W lim p) {id tp tx d0 d1 d2 d3 d4 d5 d6 d7 : Nat} {q0 q1 q2 q3 q4 q5 q6 : Op} {y0 y1 y2 y3 y4 y5 y6 y7 : TypeId} {p0 p1 p2 p3 p4 p5 p6 p7 : String} {ef : Array Edge} {atf : Array TypeId} {v0 v1 v3 v4 v5 : Value}
    (s0 : Sp W ⟨some d0, q0, y0, p0, #[], none⟩ (.tmp tp) (f tp) v0)
    (s1 : Sp W ⟨some d1, q1, y1, p1, #[⟨0, .data⟩], none⟩ (.tmp d0) v0 v1)
    (s2 : Sp W ⟨some d2, q2, y2, p2, #[⟨1, .data⟩], none⟩ (.tmp d1) v1 (.pointer (some p)))
    (s3 : Sp W ⟨some d3, q3, y3, p3, #[], none⟩ (.tmp tx) (f tx) v3)
    (s4 : Sp W ⟨some d4, q4, y4, p4, #[⟨3, .data⟩], none⟩ (.tmp d3) v3 v4)
    (s5 : Sp W ⟨some d5, q5, y5, p5, #[⟨4, .data⟩], none⟩ (.tmp d4) v4 v5)
    (s6 : Sp W ⟨some d6, q6, y6, p6, #[⟨5, .data⟩], none⟩ (.tmp d5) v5 (.string x))
    (hm : tp < m0 ∧ tx < m0) (hok : ogOk ([⟨some d0, q0, y0, p0, #[], none⟩, ⟨some d1, q1, y1, p1, #[⟨0, .data⟩], none⟩, ⟨some d2, q2, y2, p2, #[⟨1, .data⟩], none⟩, ⟨some d3, q3, y3, p3, #[], none⟩, ⟨some d4, q4, y4, p4, #[⟨3, .data⟩], none⟩, ⟨some d5, q5, y5, p5, #[⟨4, .data⟩], none⟩, ⟨some d6, q6, y6, p6, #[⟨5, .data⟩], none⟩, ⟨some d7, .call { callee := .value (.func 33), args := #[.tmp d2, .tmp d6], argTypes := atf }, y7, p7, ef, none⟩] : List Oper).toArray = true) (ht : ogTail ([⟨some d0, q0, y0, p0, #[], none⟩, ⟨some d1, q1, y1, p1, #[⟨0, .data⟩], none⟩, ⟨some d2, q2, y2, p2, #[⟨1, .data⟩], none⟩, ⟨some d3, q3, y3, p3, #[], none⟩, ⟨some d4, q4, y4, p4, #[⟨3, .data⟩], none⟩, ⟨some d5, q5, y5, p5, #[⟨4, .data⟩], none⟩, ⟨some d6, q6, y6, p6, #[⟨5, .data⟩], none⟩, ⟨some d7, .call { callee := .value (.func 33), args := #[.tmp d2, .tmp d6], argTypes := atf }, y7, p7, ef, none⟩] : List Oper).toArray 7 = true) (hfit : ogFit ([⟨some d0, q0, y0, p0, #[], none⟩, ⟨some d1, q1, y1, p1, #[⟨0, .data⟩], none⟩, ⟨some d2, q2, y2, p2, #[⟨1, .data⟩], none⟩, ⟨some d3, q3, y3, p3, #[], none⟩, ⟨some d4, q4, y4, p4, #[⟨3, .data⟩], none⟩, ⟨some d5, q5, y5, p5, #[⟨4, .data⟩], none⟩, ⟨some d6, q6, y6, p6, #[⟨5, .data⟩], none⟩, ⟨some d7, .call { callee := .value (.func 33), args := #[.tmp d2, .tmp d6], argTypes := atf }, y7, p7, ef, none⟩] : List Oper).toArray [] N = true) (hlow : lowOk ([⟨some d0, q0, y0, p0, #[], none⟩, ⟨some d1, q1, y1, p1, #[⟨0, .data⟩], none⟩, ⟨some d2, q2, y2, p2, #[⟨1, .data⟩], none⟩, ⟨some d3, q3, y3, p3, #[], none⟩, ⟨some d4, q4, y4, p4, #[⟨3, .data⟩], none⟩, ⟨some d5, q5, y5, p5, #[⟨4, .data⟩], none⟩, ⟨some d6, q6, y6, p6, #[⟨5, .data⟩], none⟩, ⟨some d7, .call { callee := .value (.func 33), args := #[.tmp d2, .tmp d6], argTypes := atf }, y7, p7, ef, none⟩] : List Oper).toArray m0 = true) :
    Tr N m0 f W lim (.region id #[⟨some d0, q0, y0, p0, #[], none⟩, ⟨some d1, q1, y1, p1, #[⟨0, .data⟩], none⟩, ⟨some d2, q2, y2, p2, #[⟨1, .data⟩], none⟩, ⟨some d3, q3, y3, p3, #[], none⟩, ⟨some d4, q4, y4, p4, #[⟨3, .data⟩], none⟩, ⟨some d5, q5, y5, p5, #[⟨4, .data⟩], none⟩, ⟨some d6, q6, y6, p6, #[⟨5, .data⟩], none⟩, ⟨some d7, .call { callee := .value (.func 33), args := #[.tmp d2, .tmp d6], argTypes := atf }, y7, p7, ef, none⟩] true) x.data.toList := by
  intro s a0 w hf hw hlim Q hQ
  have hfit' : ogFit ([⟨some d0, q0, y0, p0, #[], none⟩, ⟨some d1, q1, y1, p1, #[⟨0, .data⟩], none⟩, ⟨some d2, q2, y2, p2, #[⟨1, .data⟩], none⟩, ⟨some d3, q3, y3, p3, #[], none⟩, ⟨some d4, q4, y4, p4, #[⟨3, .data⟩], none⟩, ⟨some d5, q5, y5, p5, #[⟨4, .data⟩], none⟩, ⟨some d6, q6, y6, p6, #[⟨5, .data⟩], none⟩, ⟨some d7, .call { callee := .value (.func 33), args := #[.tmp d2, .tmp d6], argTypes := atf }, y7, p7, ef, none⟩] : List Oper).toArray [Asr.eq v0, Asr.eq v1, Asr.eq (.pointer (some p)), Asr.eq v3, Asr.eq v4, Asr.eq v5, Asr.eq (.string x)] N = true := hfit
  refine wp_region_og1 (n := N) 7 [Asr.eq v0, Asr.eq v1, Asr.eq (.pointer (some p)), Asr.eq v3, Asr.eq v4, Asr.eq v5, Asr.eq (.string x)] (by kernel_rfl) hok ht (by simp) hfit' hf.size ⟨⟩ ?_ ?_
  · simp only [List.take_succ_cons, List.take_zero]
    refine ⟨?_, ?_, ?_, ?_, ?_, ?_, ?_, trivial⟩
    · intro a wx c
      have e := (c.outLow hlow hm.1).trans (hf.low tp hm.1)
      exact s0.run s a wx _ _ (H.below _ _ _ hw (only_below c.only)) e fun w' _ hb => ⟨_, rfl, Only.of_below hb, rfl⟩
    · intro a wx c
      have e : a.eval (.tmp d0) = v0 := c.slot 0 _ (by kernel_rfl) rfl
      exact s1.run s a wx _ _ (H.below _ _ _ hw (only_below c.only)) e fun w' _ hb => ⟨_, rfl, Only.of_below hb, rfl⟩
    · intro a wx c
      have e : a.eval (.tmp d1) = v1 := c.slot 1 _ (by kernel_rfl) rfl
      exact s2.run s a wx _ _ (H.below _ _ _ hw (only_below c.only)) e fun w' _ hb => ⟨_, rfl, Only.of_below hb, rfl⟩
    · intro a wx c
      have e := (c.outLow hlow hm.2).trans (hf.low tx hm.2)
      exact s3.run s a wx _ _ (H.below _ _ _ hw (only_below c.only)) e fun w' _ hb => ⟨_, rfl, Only.of_below hb, rfl⟩
    · intro a wx c
      have e : a.eval (.tmp d3) = v3 := c.slot 3 _ (by kernel_rfl) rfl
      exact s4.run s a wx _ _ (H.below _ _ _ hw (only_below c.only)) e fun w' _ hb => ⟨_, rfl, Only.of_below hb, rfl⟩
    · intro a wx c
      have e : a.eval (.tmp d4) = v4 := c.slot 4 _ (by kernel_rfl) rfl
      exact s5.run s a wx _ _ (H.below _ _ _ hw (only_below c.only)) e fun w' _ hb => ⟨_, rfl, Only.of_below hb, rfl⟩
    · intro a wx c
      have e : a.eval (.tmp d5) = v5 := c.slot 5 _ (by kernel_rfl) rfl
      exact s6.run s a wx _ _ (H.below _ _ _ hw (only_below c.only)) e fun w' _ hb => ⟨_, rfl, Only.of_below hb, rfl⟩
  · intro a w1 c hb
    have hw1 := H.below _ _ _ hw hb
    have e2 : a.eval (.tmp d2) = .pointer (some p) := c.slot 2 _ (by decide) rfl
    have e9 : a.eval (.tmp d6) = .string x := c.slot 6 _ (by decide) rfl
    have hf1 := c.fr hlow hf
    have hd : m0 ≤ d7 := lowOk_spec hlow (j := 7) rfl rfl
    simp only [List.drop_succ_cons, List.drop_zero]
    refine wpList_plain rfl fun K hK => ?_
    unfold Oper.wp
    simp only [execOp, resolve, List.map_toArray, List.map_cons, List.map_nil, e2, e9]
    go_simp
    refine (H.ws s w1 x hw1 hlim).mono ?_
    rintro e w' ⟨⟨v, rfl⟩, hw'⟩
    exact hK _ _ (wpList_nil (hQ _ _ (hf1.put hd) hw'))
set_option maxRecDepth 100000 in
theorem tr_drawn9 {N m0 : Nat} {f : Nat → Value} {W : List UInt8 → World → Prop} {lim : Nat} {p : Addr} {x : ByteArray} (H : Wr W lim p) {id tp tx d0 d1 d2 d3 d4 d5 d6 d7 d8 : Nat} {q0 q1 q2 q3 q4 q5 q6 q7 : Op} {y0 y1 y2 y3 y4 y5 y6 y7 y8 : TypeId} {p0 p1 p2 p3 p4 p5 p6 p7 p8 : String} {ef : Array Edge} {atf : Array TypeId} {v0 v1 v3 v4 v5 v6 : Value}
    (s0 : Sp W ⟨some d0, q0, y0, p0, #[], none⟩ (.tmp tp) (f tp) v0)
    (s1 : Sp W ⟨some d1, q1, y1, p1, #[⟨0, .data⟩], none⟩ (.tmp d0) v0 v1)
    (s2 : Sp W ⟨some d2, q2, y2, p2, #[⟨1, .data⟩], none⟩ (.tmp d1) v1 (.pointer (some p)))
    (s3 : Sp W ⟨some d3, q3, y3, p3, #[], none⟩ (.tmp tx) (f tx) v3)
    (s4 : Sp W ⟨some d4, q4, y4, p4, #[⟨3, .data⟩], none⟩ (.tmp d3) v3 v4)
    (s5 : Sp W ⟨some d5, q5, y5, p5, #[⟨4, .data⟩], none⟩ (.tmp d4) v4 v5)
    (s6 : Sp W ⟨some d6, q6, y6, p6, #[⟨5, .data⟩], none⟩ (.tmp d5) v5 v6)
    (s7 : Sp W ⟨some d7, q7, y7, p7, #[⟨6, .data⟩], none⟩ (.tmp d6) v6 (.string x))
    (hm : tp < m0 ∧ tx < m0) (hok : ogOk ([⟨some d0, q0, y0, p0, #[], none⟩, ⟨some d1, q1, y1, p1, #[⟨0, .data⟩], none⟩, ⟨some d2, q2, y2, p2, #[⟨1, .data⟩], none⟩, ⟨some d3, q3, y3, p3, #[], none⟩, ⟨some d4, q4, y4, p4, #[⟨3, .data⟩], none⟩, ⟨some d5, q5, y5, p5, #[⟨4, .data⟩], none⟩, ⟨some d6, q6, y6, p6, #[⟨5, .data⟩], none⟩, ⟨some d7, q7, y7, p7, #[⟨6, .data⟩], none⟩, ⟨some d8, .call { callee := .value (.func 33), args := #[.tmp d2, .tmp d7], argTypes := atf }, y8, p8, ef, none⟩] : List Oper).toArray = true) (ht : ogTail ([⟨some d0, q0, y0, p0, #[], none⟩, ⟨some d1, q1, y1, p1, #[⟨0, .data⟩], none⟩, ⟨some d2, q2, y2, p2, #[⟨1, .data⟩], none⟩, ⟨some d3, q3, y3, p3, #[], none⟩, ⟨some d4, q4, y4, p4, #[⟨3, .data⟩], none⟩, ⟨some d5, q5, y5, p5, #[⟨4, .data⟩], none⟩, ⟨some d6, q6, y6, p6, #[⟨5, .data⟩], none⟩, ⟨some d7, q7, y7, p7, #[⟨6, .data⟩], none⟩, ⟨some d8, .call { callee := .value (.func 33), args := #[.tmp d2, .tmp d7], argTypes := atf }, y8, p8, ef, none⟩] : List Oper).toArray 8 = true) (hfit : ogFit ([⟨some d0, q0, y0, p0, #[], none⟩, ⟨some d1, q1, y1, p1, #[⟨0, .data⟩], none⟩, ⟨some d2, q2, y2, p2, #[⟨1, .data⟩], none⟩, ⟨some d3, q3, y3, p3, #[], none⟩, ⟨some d4, q4, y4, p4, #[⟨3, .data⟩], none⟩, ⟨some d5, q5, y5, p5, #[⟨4, .data⟩], none⟩, ⟨some d6, q6, y6, p6, #[⟨5, .data⟩], none⟩, ⟨some d7, q7, y7, p7, #[⟨6, .data⟩], none⟩, ⟨some d8, .call { callee := .value (.func 33), args := #[.tmp d2, .tmp d7], argTypes := atf }, y8, p8, ef, none⟩] : List Oper).toArray [] N = true) (hlow : lowOk ([⟨some d0, q0, y0, p0, #[], none⟩, ⟨some d1, q1, y1, p1, #[⟨0, .data⟩], none⟩, ⟨some d2, q2, y2, p2, #[⟨1, .data⟩], none⟩, ⟨some d3, q3, y3, p3, #[], none⟩, ⟨some d4, q4, y4, p4, #[⟨3, .data⟩], none⟩, ⟨some d5, q5, y5, p5, #[⟨4, .data⟩], none⟩, ⟨some d6, q6, y6, p6, #[⟨5, .data⟩], none⟩, ⟨some d7, q7, y7, p7, #[⟨6, .data⟩], none⟩, ⟨some d8, .call { callee := .value (.func 33), args := #[.tmp d2, .tmp d7], argTypes := atf }, y8, p8, ef, none⟩] : List Oper).toArray m0 = true) :
    Tr N m0 f W lim (.region id #[⟨some d0, q0, y0, p0, #[], none⟩, ⟨some d1, q1, y1, p1, #[⟨0, .data⟩], none⟩, ⟨some d2, q2, y2, p2, #[⟨1, .data⟩], none⟩, ⟨some d3, q3, y3, p3, #[], none⟩, ⟨some d4, q4, y4, p4, #[⟨3, .data⟩], none⟩, ⟨some d5, q5, y5, p5, #[⟨4, .data⟩], none⟩, ⟨some d6, q6, y6, p6, #[⟨5, .data⟩], none⟩, ⟨some d7, q7, y7, p7, #[⟨6, .data⟩], none⟩, ⟨some d8, .call { callee := .value (.func 33), args := #[.tmp d2, .tmp d7], argTypes := atf }, y8, p8, ef, none⟩] true) x.data.toList := by
  intro s a0 w hf hw hlim Q hQ
  have hfit' : ogFit ([⟨some d0, q0, y0, p0, #[], none⟩, ⟨some d1, q1, y1, p1, #[⟨0, .data⟩], none⟩, ⟨some d2, q2, y2, p2, #[⟨1, .data⟩], none⟩, ⟨some d3, q3, y3, p3, #[], none⟩, ⟨some d4, q4, y4, p4, #[⟨3, .data⟩], none⟩, ⟨some d5, q5, y5, p5, #[⟨4, .data⟩], none⟩, ⟨some d6, q6, y6, p6, #[⟨5, .data⟩], none⟩, ⟨some d7, q7, y7, p7, #[⟨6, .data⟩], none⟩, ⟨some d8, .call { callee := .value (.func 33), args := #[.tmp d2, .tmp d7], argTypes := atf }, y8, p8, ef, none⟩] : List Oper).toArray [Asr.eq v0, Asr.eq v1, Asr.eq (.pointer (some p)), Asr.eq v3, Asr.eq v4, Asr.eq v5, Asr.eq v6, Asr.eq (.string x)] N = true := hfit
  refine wp_region_og1 (n := N) 8 [Asr.eq v0, Asr.eq v1, Asr.eq (.pointer (some p)), Asr.eq v3, Asr.eq v4, Asr.eq v5, Asr.eq v6, Asr.eq (.string x)] (by kernel_rfl) hok ht (by simp) hfit' hf.size ⟨⟩ ?_ ?_
  · simp only [List.take_succ_cons, List.take_zero]
    refine ⟨?_, ?_, ?_, ?_, ?_, ?_, ?_, ?_, trivial⟩
    · intro a wx c
      have e := (c.outLow hlow hm.1).trans (hf.low tp hm.1)
      exact s0.run s a wx _ _ (H.below _ _ _ hw (only_below c.only)) e fun w' _ hb => ⟨_, rfl, Only.of_below hb, rfl⟩
    · intro a wx c
      have e : a.eval (.tmp d0) = v0 := c.slot 0 _ (by kernel_rfl) rfl
      exact s1.run s a wx _ _ (H.below _ _ _ hw (only_below c.only)) e fun w' _ hb => ⟨_, rfl, Only.of_below hb, rfl⟩
    · intro a wx c
      have e : a.eval (.tmp d1) = v1 := c.slot 1 _ (by kernel_rfl) rfl
      exact s2.run s a wx _ _ (H.below _ _ _ hw (only_below c.only)) e fun w' _ hb => ⟨_, rfl, Only.of_below hb, rfl⟩
    · intro a wx c
      have e := (c.outLow hlow hm.2).trans (hf.low tx hm.2)
      exact s3.run s a wx _ _ (H.below _ _ _ hw (only_below c.only)) e fun w' _ hb => ⟨_, rfl, Only.of_below hb, rfl⟩
    · intro a wx c
      have e : a.eval (.tmp d3) = v3 := c.slot 3 _ (by kernel_rfl) rfl
      exact s4.run s a wx _ _ (H.below _ _ _ hw (only_below c.only)) e fun w' _ hb => ⟨_, rfl, Only.of_below hb, rfl⟩
    · intro a wx c
      have e : a.eval (.tmp d4) = v4 := c.slot 4 _ (by kernel_rfl) rfl
      exact s5.run s a wx _ _ (H.below _ _ _ hw (only_below c.only)) e fun w' _ hb => ⟨_, rfl, Only.of_below hb, rfl⟩
    · intro a wx c
      have e : a.eval (.tmp d5) = v5 := c.slot 5 _ (by kernel_rfl) rfl
      exact s6.run s a wx _ _ (H.below _ _ _ hw (only_below c.only)) e fun w' _ hb => ⟨_, rfl, Only.of_below hb, rfl⟩
    · intro a wx c
      have e : a.eval (.tmp d6) = v6 := c.slot 6 _ (by kernel_rfl) rfl
      exact s7.run s a wx _ _ (H.below _ _ _ hw (only_below c.only)) e fun w' _ hb => ⟨_, rfl, Only.of_below hb, rfl⟩
  · intro a w1 c hb
    have hw1 := H.below _ _ _ hw hb
    have e2 : a.eval (.tmp d2) = .pointer (some p) := c.slot 2 _ (by decide) rfl
    have e9 : a.eval (.tmp d7) = .string x := c.slot 7 _ (by decide) rfl
    have hf1 := c.fr hlow hf
    have hd : m0 ≤ d8 := lowOk_spec hlow (j := 8) rfl rfl
    simp only [List.drop_succ_cons, List.drop_zero]
    refine wpList_plain rfl fun K hK => ?_
    unfold Oper.wp
    simp only [execOp, resolve, List.map_toArray, List.map_cons, List.map_nil, e2, e9]
    go_simp
    refine (H.ws s w1 x hw1 hlim).mono ?_
    rintro e w' ⟨⟨v, rfl⟩, hw'⟩
    exact hK _ _ (wpList_nil (hQ _ _ (hf1.put hd) hw'))
set_option maxRecDepth 100000 in
theorem tr_drawn10 {N m0 : Nat} {f : Nat → Value} {W : List UInt8 → World → Prop} {lim : Nat} {p : Addr} {x : ByteArray} (H : Wr W lim p) {id tp tx d0 d1 d2 d3 d4 d5 d6 d7 d8 d9 : Nat} {q0 q1 q2 q3 q4 q5 q6 q7 q8 : Op} {y0 y1 y2 y3 y4 y5 y6 y7 y8 y9 : TypeId} {p0 p1 p2 p3 p4 p5 p6 p7 p8 p9 : String} {ef : Array Edge} {atf : Array TypeId} {v0 v1 v3 v4 v5 v6 v7 : Value}
    (s0 : Sp W ⟨some d0, q0, y0, p0, #[], none⟩ (.tmp tp) (f tp) v0)
    (s1 : Sp W ⟨some d1, q1, y1, p1, #[⟨0, .data⟩], none⟩ (.tmp d0) v0 v1)
    (s2 : Sp W ⟨some d2, q2, y2, p2, #[⟨1, .data⟩], none⟩ (.tmp d1) v1 (.pointer (some p)))
    (s3 : Sp W ⟨some d3, q3, y3, p3, #[], none⟩ (.tmp tx) (f tx) v3)
    (s4 : Sp W ⟨some d4, q4, y4, p4, #[⟨3, .data⟩], none⟩ (.tmp d3) v3 v4)
    (s5 : Sp W ⟨some d5, q5, y5, p5, #[⟨4, .data⟩], none⟩ (.tmp d4) v4 v5)
    (s6 : Sp W ⟨some d6, q6, y6, p6, #[⟨5, .data⟩], none⟩ (.tmp d5) v5 v6)
    (s7 : Sp W ⟨some d7, q7, y7, p7, #[⟨6, .data⟩], none⟩ (.tmp d6) v6 v7)
    (s8 : Sp W ⟨some d8, q8, y8, p8, #[⟨7, .data⟩], none⟩ (.tmp d7) v7 (.string x))
    (hm : tp < m0 ∧ tx < m0) (hok : ogOk ([⟨some d0, q0, y0, p0, #[], none⟩, ⟨some d1, q1, y1, p1, #[⟨0, .data⟩], none⟩, ⟨some d2, q2, y2, p2, #[⟨1, .data⟩], none⟩, ⟨some d3, q3, y3, p3, #[], none⟩, ⟨some d4, q4, y4, p4, #[⟨3, .data⟩], none⟩, ⟨some d5, q5, y5, p5, #[⟨4, .data⟩], none⟩, ⟨some d6, q6, y6, p6, #[⟨5, .data⟩], none⟩, ⟨some d7, q7, y7, p7, #[⟨6, .data⟩], none⟩, ⟨some d8, q8, y8, p8, #[⟨7, .data⟩], none⟩, ⟨some d9, .call { callee := .value (.func 33), args := #[.tmp d2, .tmp d8], argTypes := atf }, y9, p9, ef, none⟩] : List Oper).toArray = true) (ht : ogTail ([⟨some d0, q0, y0, p0, #[], none⟩, ⟨some d1, q1, y1, p1, #[⟨0, .data⟩], none⟩, ⟨some d2, q2, y2, p2, #[⟨1, .data⟩], none⟩, ⟨some d3, q3, y3, p3, #[], none⟩, ⟨some d4, q4, y4, p4, #[⟨3, .data⟩], none⟩, ⟨some d5, q5, y5, p5, #[⟨4, .data⟩], none⟩, ⟨some d6, q6, y6, p6, #[⟨5, .data⟩], none⟩, ⟨some d7, q7, y7, p7, #[⟨6, .data⟩], none⟩, ⟨some d8, q8, y8, p8, #[⟨7, .data⟩], none⟩, ⟨some d9, .call { callee := .value (.func 33), args := #[.tmp d2, .tmp d8], argTypes := atf }, y9, p9, ef, none⟩] : List Oper).toArray 9 = true) (hfit : ogFit ([⟨some d0, q0, y0, p0, #[], none⟩, ⟨some d1, q1, y1, p1, #[⟨0, .data⟩], none⟩, ⟨some d2, q2, y2, p2, #[⟨1, .data⟩], none⟩, ⟨some d3, q3, y3, p3, #[], none⟩, ⟨some d4, q4, y4, p4, #[⟨3, .data⟩], none⟩, ⟨some d5, q5, y5, p5, #[⟨4, .data⟩], none⟩, ⟨some d6, q6, y6, p6, #[⟨5, .data⟩], none⟩, ⟨some d7, q7, y7, p7, #[⟨6, .data⟩], none⟩, ⟨some d8, q8, y8, p8, #[⟨7, .data⟩], none⟩, ⟨some d9, .call { callee := .value (.func 33), args := #[.tmp d2, .tmp d8], argTypes := atf }, y9, p9, ef, none⟩] : List Oper).toArray [] N = true) (hlow : lowOk ([⟨some d0, q0, y0, p0, #[], none⟩, ⟨some d1, q1, y1, p1, #[⟨0, .data⟩], none⟩, ⟨some d2, q2, y2, p2, #[⟨1, .data⟩], none⟩, ⟨some d3, q3, y3, p3, #[], none⟩, ⟨some d4, q4, y4, p4, #[⟨3, .data⟩], none⟩, ⟨some d5, q5, y5, p5, #[⟨4, .data⟩], none⟩, ⟨some d6, q6, y6, p6, #[⟨5, .data⟩], none⟩, ⟨some d7, q7, y7, p7, #[⟨6, .data⟩], none⟩, ⟨some d8, q8, y8, p8, #[⟨7, .data⟩], none⟩, ⟨some d9, .call { callee := .value (.func 33), args := #[.tmp d2, .tmp d8], argTypes := atf }, y9, p9, ef, none⟩] : List Oper).toArray m0 = true) :
    Tr N m0 f W lim (.region id #[⟨some d0, q0, y0, p0, #[], none⟩, ⟨some d1, q1, y1, p1, #[⟨0, .data⟩], none⟩, ⟨some d2, q2, y2, p2, #[⟨1, .data⟩], none⟩, ⟨some d3, q3, y3, p3, #[], none⟩, ⟨some d4, q4, y4, p4, #[⟨3, .data⟩], none⟩, ⟨some d5, q5, y5, p5, #[⟨4, .data⟩], none⟩, ⟨some d6, q6, y6, p6, #[⟨5, .data⟩], none⟩, ⟨some d7, q7, y7, p7, #[⟨6, .data⟩], none⟩, ⟨some d8, q8, y8, p8, #[⟨7, .data⟩], none⟩, ⟨some d9, .call { callee := .value (.func 33), args := #[.tmp d2, .tmp d8], argTypes := atf }, y9, p9, ef, none⟩] true) x.data.toList := by
  intro s a0 w hf hw hlim Q hQ
  have hfit' : ogFit ([⟨some d0, q0, y0, p0, #[], none⟩, ⟨some d1, q1, y1, p1, #[⟨0, .data⟩], none⟩, ⟨some d2, q2, y2, p2, #[⟨1, .data⟩], none⟩, ⟨some d3, q3, y3, p3, #[], none⟩, ⟨some d4, q4, y4, p4, #[⟨3, .data⟩], none⟩, ⟨some d5, q5, y5, p5, #[⟨4, .data⟩], none⟩, ⟨some d6, q6, y6, p6, #[⟨5, .data⟩], none⟩, ⟨some d7, q7, y7, p7, #[⟨6, .data⟩], none⟩, ⟨some d8, q8, y8, p8, #[⟨7, .data⟩], none⟩, ⟨some d9, .call { callee := .value (.func 33), args := #[.tmp d2, .tmp d8], argTypes := atf }, y9, p9, ef, none⟩] : List Oper).toArray [Asr.eq v0, Asr.eq v1, Asr.eq (.pointer (some p)), Asr.eq v3, Asr.eq v4, Asr.eq v5, Asr.eq v6, Asr.eq v7, Asr.eq (.string x)] N = true := hfit
  refine wp_region_og1 (n := N) 9 [Asr.eq v0, Asr.eq v1, Asr.eq (.pointer (some p)), Asr.eq v3, Asr.eq v4, Asr.eq v5, Asr.eq v6, Asr.eq v7, Asr.eq (.string x)] (by kernel_rfl) hok ht (by simp) hfit' hf.size ⟨⟩ ?_ ?_
  · simp only [List.take_succ_cons, List.take_zero]
    refine ⟨?_, ?_, ?_, ?_, ?_, ?_, ?_, ?_, ?_, trivial⟩
    · intro a wx c
      have e := (c.outLow hlow hm.1).trans (hf.low tp hm.1)
      exact s0.run s a wx _ _ (H.below _ _ _ hw (only_below c.only)) e fun w' _ hb => ⟨_, rfl, Only.of_below hb, rfl⟩
    · intro a wx c
      have e : a.eval (.tmp d0) = v0 := c.slot 0 _ (by kernel_rfl) rfl
      exact s1.run s a wx _ _ (H.below _ _ _ hw (only_below c.only)) e fun w' _ hb => ⟨_, rfl, Only.of_below hb, rfl⟩
    · intro a wx c
      have e : a.eval (.tmp d1) = v1 := c.slot 1 _ (by kernel_rfl) rfl
      exact s2.run s a wx _ _ (H.below _ _ _ hw (only_below c.only)) e fun w' _ hb => ⟨_, rfl, Only.of_below hb, rfl⟩
    · intro a wx c
      have e := (c.outLow hlow hm.2).trans (hf.low tx hm.2)
      exact s3.run s a wx _ _ (H.below _ _ _ hw (only_below c.only)) e fun w' _ hb => ⟨_, rfl, Only.of_below hb, rfl⟩
    · intro a wx c
      have e : a.eval (.tmp d3) = v3 := c.slot 3 _ (by kernel_rfl) rfl
      exact s4.run s a wx _ _ (H.below _ _ _ hw (only_below c.only)) e fun w' _ hb => ⟨_, rfl, Only.of_below hb, rfl⟩
    · intro a wx c
      have e : a.eval (.tmp d4) = v4 := c.slot 4 _ (by kernel_rfl) rfl
      exact s5.run s a wx _ _ (H.below _ _ _ hw (only_below c.only)) e fun w' _ hb => ⟨_, rfl, Only.of_below hb, rfl⟩
    · intro a wx c
      have e : a.eval (.tmp d5) = v5 := c.slot 5 _ (by kernel_rfl) rfl
      exact s6.run s a wx _ _ (H.below _ _ _ hw (only_below c.only)) e fun w' _ hb => ⟨_, rfl, Only.of_below hb, rfl⟩
    · intro a wx c
      have e : a.eval (.tmp d6) = v6 := c.slot 6 _ (by kernel_rfl) rfl
      exact s7.run s a wx _ _ (H.below _ _ _ hw (only_below c.only)) e fun w' _ hb => ⟨_, rfl, Only.of_below hb, rfl⟩
    · intro a wx c
      have e : a.eval (.tmp d7) = v7 := c.slot 7 _ (by kernel_rfl) rfl
      exact s8.run s a wx _ _ (H.below _ _ _ hw (only_below c.only)) e fun w' _ hb => ⟨_, rfl, Only.of_below hb, rfl⟩
  · intro a w1 c hb
    have hw1 := H.below _ _ _ hw hb
    have e2 : a.eval (.tmp d2) = .pointer (some p) := c.slot 2 _ (by decide) rfl
    have e9 : a.eval (.tmp d8) = .string x := c.slot 8 _ (by decide) rfl
    have hf1 := c.fr hlow hf
    have hd : m0 ≤ d9 := lowOk_spec hlow (j := 9) rfl rfl
    simp only [List.drop_succ_cons, List.drop_zero]
    refine wpList_plain rfl fun K hK => ?_
    unfold Oper.wp
    simp only [execOp, resolve, List.map_toArray, List.map_cons, List.map_nil, e2, e9]
    go_simp
    refine (H.ws s w1 x hw1 hlim).mono ?_
    rintro e w' ⟨⟨v, rfl⟩, hw'⟩
    exact hK _ _ (wpList_nil (hQ _ _ (hf1.put hd) hw'))
set_option maxRecDepth 100000 in
theorem tr_drawn11 {N m0 : Nat} {f : Nat → Value} {W : List UInt8 → World → Prop} {lim : Nat} {p : Addr} {x : ByteArray} (H : Wr W lim p) {id tp tx d0 d1 d2 d3 d4 d5 d6 d7 d8 d9 d10 : Nat} {q0 q1 q2 q3 q4 q5 q6 q7 q8 q9 : Op} {y0 y1 y2 y3 y4 y5 y6 y7 y8 y9 y10 : TypeId} {p0 p1 p2 p3 p4 p5 p6 p7 p8 p9 p10 : String} {ef : Array Edge} {atf : Array TypeId} {v0 v1 v3 v4 v5 v6 v7 v8 : Value}
    (s0 : Sp W ⟨some d0, q0, y0, p0, #[], none⟩ (.tmp tp) (f tp) v0)
    (s1 : Sp W ⟨some d1, q1, y1, p1, #[⟨0, .data⟩], none⟩ (.tmp d0) v0 v1)
    (s2 : Sp W ⟨some d2, q2, y2, p2, #[⟨1, .data⟩], none⟩ (.tmp d1) v1 (.pointer (some p)))
    (s3 : Sp W ⟨some d3, q3, y3, p3, #[], none⟩ (.tmp tx) (f tx) v3)
    (s4 : Sp W ⟨some d4, q4, y4, p4, #[⟨3, .data⟩], none⟩ (.tmp d3) v3 v4)
    (s5 : Sp W ⟨some d5, q5, y5, p5, #[⟨4, .data⟩], none⟩ (.tmp d4) v4 v5)
    (s6 : Sp W ⟨some d6, q6, y6, p6, #[⟨5, .data⟩], none⟩ (.tmp d5) v5 v6)
    (s7 : Sp W ⟨some d7, q7, y7, p7, #[⟨6, .data⟩], none⟩ (.tmp d6) v6 v7)
    (s8 : Sp W ⟨some d8, q8, y8, p8, #[⟨7, .data⟩], none⟩ (.tmp d7) v7 v8)
    (s9 : Sp W ⟨some d9, q9, y9, p9, #[⟨8, .data⟩], none⟩ (.tmp d8) v8 (.string x))
    (hm : tp < m0 ∧ tx < m0) (hok : ogOk ([⟨some d0, q0, y0, p0, #[], none⟩, ⟨some d1, q1, y1, p1, #[⟨0, .data⟩], none⟩, ⟨some d2, q2, y2, p2, #[⟨1, .data⟩], none⟩, ⟨some d3, q3, y3, p3, #[], none⟩, ⟨some d4, q4, y4, p4, #[⟨3, .data⟩], none⟩, ⟨some d5, q5, y5, p5, #[⟨4, .data⟩], none⟩, ⟨some d6, q6, y6, p6, #[⟨5, .data⟩], none⟩, ⟨some d7, q7, y7, p7, #[⟨6, .data⟩], none⟩, ⟨some d8, q8, y8, p8, #[⟨7, .data⟩], none⟩, ⟨some d9, q9, y9, p9, #[⟨8, .data⟩], none⟩, ⟨some d10, .call { callee := .value (.func 33), args := #[.tmp d2, .tmp d9], argTypes := atf }, y10, p10, ef, none⟩] : List Oper).toArray = true) (ht : ogTail ([⟨some d0, q0, y0, p0, #[], none⟩, ⟨some d1, q1, y1, p1, #[⟨0, .data⟩], none⟩, ⟨some d2, q2, y2, p2, #[⟨1, .data⟩], none⟩, ⟨some d3, q3, y3, p3, #[], none⟩, ⟨some d4, q4, y4, p4, #[⟨3, .data⟩], none⟩, ⟨some d5, q5, y5, p5, #[⟨4, .data⟩], none⟩, ⟨some d6, q6, y6, p6, #[⟨5, .data⟩], none⟩, ⟨some d7, q7, y7, p7, #[⟨6, .data⟩], none⟩, ⟨some d8, q8, y8, p8, #[⟨7, .data⟩], none⟩, ⟨some d9, q9, y9, p9, #[⟨8, .data⟩], none⟩, ⟨some d10, .call { callee := .value (.func 33), args := #[.tmp d2, .tmp d9], argTypes := atf }, y10, p10, ef, none⟩] : List Oper).toArray 10 = true) (hfit : ogFit ([⟨some d0, q0, y0, p0, #[], none⟩, ⟨some d1, q1, y1, p1, #[⟨0, .data⟩], none⟩, ⟨some d2, q2, y2, p2, #[⟨1, .data⟩], none⟩, ⟨some d3, q3, y3, p3, #[], none⟩, ⟨some d4, q4, y4, p4, #[⟨3, .data⟩], none⟩, ⟨some d5, q5, y5, p5, #[⟨4, .data⟩], none⟩, ⟨some d6, q6, y6, p6, #[⟨5, .data⟩], none⟩, ⟨some d7, q7, y7, p7, #[⟨6, .data⟩], none⟩, ⟨some d8, q8, y8, p8, #[⟨7, .data⟩], none⟩, ⟨some d9, q9, y9, p9, #[⟨8, .data⟩], none⟩, ⟨some d10, .call { callee := .value (.func 33), args := #[.tmp d2, .tmp d9], argTypes := atf }, y10, p10, ef, none⟩] : List Oper).toArray [] N = true) (hlow : lowOk ([⟨some d0, q0, y0, p0, #[], none⟩, ⟨some d1, q1, y1, p1, #[⟨0, .data⟩], none⟩, ⟨some d2, q2, y2, p2, #[⟨1, .data⟩], none⟩, ⟨some d3, q3, y3, p3, #[], none⟩, ⟨some d4, q4, y4, p4, #[⟨3, .data⟩], none⟩, ⟨some d5, q5, y5, p5, #[⟨4, .data⟩], none⟩, ⟨some d6, q6, y6, p6, #[⟨5, .data⟩], none⟩, ⟨some d7, q7, y7, p7, #[⟨6, .data⟩], none⟩, ⟨some d8, q8, y8, p8, #[⟨7, .data⟩], none⟩, ⟨some d9, q9, y9, p9, #[⟨8, .data⟩], none⟩, ⟨some d10, .call { callee := .value (.func 33), args := #[.tmp d2, .tmp d9], argTypes := atf }, y10, p10, ef, none⟩] : List Oper).toArray m0 = true) :
    Tr N m0 f W lim (.region id #[⟨some d0, q0, y0, p0, #[], none⟩, ⟨some d1, q1, y1, p1, #[⟨0, .data⟩], none⟩, ⟨some d2, q2, y2, p2, #[⟨1, .data⟩], none⟩, ⟨some d3, q3, y3, p3, #[], none⟩, ⟨some d4, q4, y4, p4, #[⟨3, .data⟩], none⟩, ⟨some d5, q5, y5, p5, #[⟨4, .data⟩], none⟩, ⟨some d6, q6, y6, p6, #[⟨5, .data⟩], none⟩, ⟨some d7, q7, y7, p7, #[⟨6, .data⟩], none⟩, ⟨some d8, q8, y8, p8, #[⟨7, .data⟩], none⟩, ⟨some d9, q9, y9, p9, #[⟨8, .data⟩], none⟩, ⟨some d10, .call { callee := .value (.func 33), args := #[.tmp d2, .tmp d9], argTypes := atf }, y10, p10, ef, none⟩] true) x.data.toList := by
  intro s a0 w hf hw hlim Q hQ
  have hfit' : ogFit ([⟨some d0, q0, y0, p0, #[], none⟩, ⟨some d1, q1, y1, p1, #[⟨0, .data⟩], none⟩, ⟨some d2, q2, y2, p2, #[⟨1, .data⟩], none⟩, ⟨some d3, q3, y3, p3, #[], none⟩, ⟨some d4, q4, y4, p4, #[⟨3, .data⟩], none⟩, ⟨some d5, q5, y5, p5, #[⟨4, .data⟩], none⟩, ⟨some d6, q6, y6, p6, #[⟨5, .data⟩], none⟩, ⟨some d7, q7, y7, p7, #[⟨6, .data⟩], none⟩, ⟨some d8, q8, y8, p8, #[⟨7, .data⟩], none⟩, ⟨some d9, q9, y9, p9, #[⟨8, .data⟩], none⟩, ⟨some d10, .call { callee := .value (.func 33), args := #[.tmp d2, .tmp d9], argTypes := atf }, y10, p10, ef, none⟩] : List Oper).toArray [Asr.eq v0, Asr.eq v1, Asr.eq (.pointer (some p)), Asr.eq v3, Asr.eq v4, Asr.eq v5, Asr.eq v6, Asr.eq v7, Asr.eq v8, Asr.eq (.string x)] N = true := hfit
  refine wp_region_og1 (n := N) 10 [Asr.eq v0, Asr.eq v1, Asr.eq (.pointer (some p)), Asr.eq v3, Asr.eq v4, Asr.eq v5, Asr.eq v6, Asr.eq v7, Asr.eq v8, Asr.eq (.string x)] (by kernel_rfl) hok ht (by simp) hfit' hf.size ⟨⟩ ?_ ?_
  · simp only [List.take_succ_cons, List.take_zero]
    refine ⟨?_, ?_, ?_, ?_, ?_, ?_, ?_, ?_, ?_, ?_, trivial⟩
    · intro a wx c
      have e := (c.outLow hlow hm.1).trans (hf.low tp hm.1)
      exact s0.run s a wx _ _ (H.below _ _ _ hw (only_below c.only)) e fun w' _ hb => ⟨_, rfl, Only.of_below hb, rfl⟩
    · intro a wx c
      have e : a.eval (.tmp d0) = v0 := c.slot 0 _ (by kernel_rfl) rfl
      exact s1.run s a wx _ _ (H.below _ _ _ hw (only_below c.only)) e fun w' _ hb => ⟨_, rfl, Only.of_below hb, rfl⟩
    · intro a wx c
      have e : a.eval (.tmp d1) = v1 := c.slot 1 _ (by kernel_rfl) rfl
      exact s2.run s a wx _ _ (H.below _ _ _ hw (only_below c.only)) e fun w' _ hb => ⟨_, rfl, Only.of_below hb, rfl⟩
    · intro a wx c
      have e := (c.outLow hlow hm.2).trans (hf.low tx hm.2)
      exact s3.run s a wx _ _ (H.below _ _ _ hw (only_below c.only)) e fun w' _ hb => ⟨_, rfl, Only.of_below hb, rfl⟩
    · intro a wx c
      have e : a.eval (.tmp d3) = v3 := c.slot 3 _ (by kernel_rfl) rfl
      exact s4.run s a wx _ _ (H.below _ _ _ hw (only_below c.only)) e fun w' _ hb => ⟨_, rfl, Only.of_below hb, rfl⟩
    · intro a wx c
      have e : a.eval (.tmp d4) = v4 := c.slot 4 _ (by kernel_rfl) rfl
      exact s5.run s a wx _ _ (H.below _ _ _ hw (only_below c.only)) e fun w' _ hb => ⟨_, rfl, Only.of_below hb, rfl⟩
    · intro a wx c
      have e : a.eval (.tmp d5) = v5 := c.slot 5 _ (by kernel_rfl) rfl
      exact s6.run s a wx _ _ (H.below _ _ _ hw (only_below c.only)) e fun w' _ hb => ⟨_, rfl, Only.of_below hb, rfl⟩
    · intro a wx c
      have e : a.eval (.tmp d6) = v6 := c.slot 6 _ (by kernel_rfl) rfl
      exact s7.run s a wx _ _ (H.below _ _ _ hw (only_below c.only)) e fun w' _ hb => ⟨_, rfl, Only.of_below hb, rfl⟩
    · intro a wx c
      have e : a.eval (.tmp d7) = v7 := c.slot 7 _ (by kernel_rfl) rfl
      exact s8.run s a wx _ _ (H.below _ _ _ hw (only_below c.only)) e fun w' _ hb => ⟨_, rfl, Only.of_below hb, rfl⟩
    · intro a wx c
      have e : a.eval (.tmp d8) = v8 := c.slot 8 _ (by kernel_rfl) rfl
      exact s9.run s a wx _ _ (H.below _ _ _ hw (only_below c.only)) e fun w' _ hb => ⟨_, rfl, Only.of_below hb, rfl⟩
  · intro a w1 c hb
    have hw1 := H.below _ _ _ hw hb
    have e2 : a.eval (.tmp d2) = .pointer (some p) := c.slot 2 _ (by decide) rfl
    have e9 : a.eval (.tmp d9) = .string x := c.slot 9 _ (by decide) rfl
    have hf1 := c.fr hlow hf
    have hd : m0 ≤ d10 := lowOk_spec hlow (j := 10) rfl rfl
    simp only [List.drop_succ_cons, List.drop_zero]
    refine wpList_plain rfl fun K hK => ?_
    unfold Oper.wp
    simp only [execOp, resolve, List.map_toArray, List.map_cons, List.map_nil, e2, e9]
    go_simp
    refine (H.ws s w1 x hw1 hlim).mono ?_
    rintro e w' ⟨⟨v, rfl⟩, hw'⟩
    exact hK _ _ (wpList_nil (hQ _ _ (hf1.put hd) hw'))
end Go.Proofs.YtkddkmiomhadaaaDoor
