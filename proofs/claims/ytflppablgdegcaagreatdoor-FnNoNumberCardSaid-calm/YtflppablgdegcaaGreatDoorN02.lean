/- Joined: M2, Blk, Stp, Emt, Fu, Enw, Enl, Evr, Evm, Evg, Evs. -/
import Derived.Test.YtflppablgdegcaaGreatDoorN01
import Derived.Lib.Hide
import Derived.WalkKit
import Derived.Lib.BufferAt
/- Words for the walk of laws.masterOf: renditions, variants, the state between two rounds; an append inside a region that draws. -/
namespace Go.Proofs.YtflppablgdegcaaGreatDoor
open Go.RowKit
theorem cell_of_heap {w : World} {g i : Nat} {cs : Array Value} {t : TypeId} {fr : Nat × Nat} {v : Value} (h : w.heap[g]? = some (.cells cs t fr)) (hv : cs[i]? = some v) : w.cell? ⟨g, i, none⟩ = some v := by simp [World.cell?, h, hv]
section
variable {α β : Type} {f : α → List Value} {f' : β → List Value} {e e' : TypeId} {k k' : Nat} {w w' : World} {B B' : Nat} {v v' : Value} {L : List α} {L' : List β}
theorem Own.at_heap (h : Own f e k w B v L) (hb : ∀ g, v.ownBlock = some g → w'.heap[g]? = w.heap[g]?) : Own f e k w' B v L := by
 refine ⟨h.1, ?_⟩
 rcases h.2 with h2 | ⟨g, cap, cur, rfl, hB, hh, r⟩
 ·exact .inl h2
 ·exact .inr ⟨g, cap, cur, rfl, hB, (hb g rfl).trans hh, r⟩
theorem Own.elem (h : Own f e k w B v L) : ∀ g, v.ownBlock = some g → ∃ cur, w.heap[g]? = some (.cells cur e (0, 0)) := by
 intro g hg
 rcases h.2 with ⟨rfl, _⟩ | ⟨g', cap, cur, rfl, hb, hh, _⟩
 ·simp [Value.ownBlock] at hg
 ·have : g' = g := by simpa [Value.ownBlock] using hg
  subst this
  exact ⟨cur, hh⟩
end
theorem Own.slice {α : Type} {f : α → List Value} {e : TypeId} {k : Nat} {w : World} {B : Nat} {v : Value} {L : List α} (h : Own f e k w B v L) : ∃ p l c, v = .slice p l c := by
 rcases h.2 with ⟨rfl, _⟩ | ⟨g', cap, cur, rfl, _⟩ <;> exact ⟨_, _, _, rfl⟩
theorem Only.of_setCell (w : World) (p : Addr) (v : Value) : Only (fun g => g = p.block) w (w.setCell p v) :=
 ⟨rfl, rfl, rfl, by simp [World.setCell], fun g _ hg => Below.heap_setCell _ _ _ _ hg⟩
theorem heap_setCell_same {w : World} {g i : Nat} {cs : Array Value} {t : TypeId} {fr : Nat × Nat} (h : w.heap[g]? = some (.cells cs t fr)) (v : Value) : (w.setCell ⟨g, i, none⟩ v).heap[g]? = some (.cells (cs.setIfInBounds i v) t fr) := by
 simp [World.setCell, Array.getElem?_modify, h]
section
variable {P : Program} {ops : Array Oper} {a : Act} {w : World} {E : Nat → Nat → Prop} {Φ : Nat → Value → World → Prop} {i : Nat} {Q : Exit → Act → World → Prop}
end
end Go.Proofs.YtflppablgdegcaaGreatDoor
/- Arms for the walk: a whole struct loaded from a block that is known, or stored into it. -/
namespace Go.Proofs.YtflppablgdegcaaGreatDoor
open Go.RowKit
section
variable {P : Program} {ops : Array Oper} {rest : List Oper} {a : Act} {w : World} {Q : Exit → Act → World → Prop} {dst : Option Tmp} {ty : TypeId} {pos : String} {after : Array Edge}
theorem run_load_blk (t : TypeId) (hagg : ∀ w, (isAgg t).run P w = .ok true w) {k : Nat} (hk : ∀ w, (sizeOf t).run P w = .ok k w) {g : Nat} {cs : Array Value} {e : TypeId} {fr : Nat × Nat} (hg : w.heap[g]? = some (.cells cs e fr)) (hsz : cs.size = k) :
  (loadVar t ⟨g, 0, none⟩).run P w = .ok (.agg cs) w := by
 have := run_loadCells_list (P := P) (w := w) ⟨g, 0, none⟩ cs.toList (fun j v hj => by
  have : (⟨g, 0, none⟩ : Addr).add j = ⟨g, j, none⟩ := by unfold Addr.add; split <;> simp_all
  rw [this]
  simp only [World.cell?, hg]
  simpa using hj)
 simp only [Array.length_toList, hsz] at this
 simp [loadVar, hagg, hk, this]
theorem run_store_blk (t : TypeId) (hagg : ∀ w, (isAgg t).run P w = .ok true w) {k : Nat} (hk : ∀ w, (sizeOf t).run P w = .ok k w) {g : Nat} {old cs : Array Value} {e : TypeId} (hg : w.heap[g]? = some (.cells old e (0, 0))) (hsz : cs.size = k) (hso : old.size = k) (h1 : ∀ u ∈ cs.toList, u.oneCell' = true) :
  (storeVar t ⟨g, 0, none⟩ (.agg cs)).run P w = .ok () (w.setRow g cs) := by
 have := run_storeCells_at (P := P) g 0 e cs.toList 0 old w hg (by simp; omega) h1
 have h2 : (old.toList.take (0 + 0) ++ cs.toList ++ old.toList.drop (0 + 0 + cs.toList.length)).toArray = cs := by
  rw [List.drop_eq_nil_of_le (by simp; omega)]
  simp
 rw [h2] at this
 simp [storeVar, hk, Value.cells, hsz, this]
theorem arm_store_blk (t : TypeId) (hagg : ∀ w, (isAgg t).run P w = .ok true w) {k : Nat} (hk : ∀ w, (sizeOf t).run P w = .ok k w) {x y : Operand} {g : Nat} {old cs : Array Value} {e : TypeId} (hx : a.eval x = .pointer (some ⟨g, 0, none⟩)) (hy : a.eval y = .agg cs) (hg : w.heap[g]? = some (.cells old e (0, 0))) (hsz : cs.size = k) (hso : old.size = k) (h1 : ∀ u ∈ cs.toList, u.oneCell' = true)
  (hK : ∀ w', w'.heap[g]? = some (.cells cs e (0, 0)) → Only (fun g' => g' = g) w w' → wpList P ops Q rest a w') : wpList P ops Q ({ dst := none, op := Op.store t x y, type := ty, pos := pos, after := after, guard := none } :: rest) a w := by
 refine wpList_plain rfl fun K hK' => ?_
 have hr := run_store_blk (P := P) (w := w) t hagg hk hg hsz hso h1
 unfold Oper.wp
 simp [execOp, hx, hy, Instr.storeAt, Instr.sureAddr, hr]
 refine hK' _ _ (hK _ (setRow_heap w g old cs e (0, 0) hg) ⟨rfl, rfl, rfl, by simp [World.setRow], fun g' hg' hne => ?_⟩)
 simp only [World.setRow, Array.getElem?_modify]
 rw [if_neg (fun h => hne h.symm)]
end
end Go.Proofs.YtflppablgdegcaaGreatDoor
/- Arms for acts that are not laid open: one operation run; a round's appends in laws.masterOf. -/
namespace Go.Proofs.YtflppablgdegcaaGreatDoor
open Go.RowKit
section
variable {P : Program} {ops : Array Oper} {rest : List Oper} {a : Act} {w w' : World} {Q : Exit → Act → World → Prop} {v : Value} {o : Oper}
theorem arm_run (hg : o.guard = none) (hr : (execOp a.eval o).run P w = .ok (.value v) w') (hK : wpList P ops Q rest (a.put o.dst v) w') : wpList P ops Q (o :: rest) a w := by
 refine wpList_plain hg fun K hK' => ?_
 unfold Oper.wp
 rw [hr]
 exact hK' _ _ hK
theorem arm_skip (hg : o.guard = none) (hd : o.dst = none) (hr : (execOp a.eval o).run P w = .ok .skip w') (hK : wpList P ops Q rest a w') : wpList P ops Q (o :: rest) a w := by
 refine wpList_plain hg fun K hK' => ?_
 unfold Oper.wp
 rw [hr]
 have e : a.put o.dst undef = a := by rw [hd]; rfl
 exact hK' _ _ (e.symm ▸ hK)
theorem ev_ne {d t : Nat} (h : d ≠ t) : (a.put (some d) v).eval (.tmp t) = a.eval (.tmp t) := Act.eval_put (by intro d' hd' e; cases hd'; cases e; exact h rfl)
theorem ev_eq {d : Nat} (h : d < a.tmps.size) : (a.put (some d) v).eval (.tmp d) = v := by simp [Act.eval, Act.put, h]
end
theorem Own.base {α : Type} {f : α → List Value} {e : TypeId} {k : Nat} {w : World} {B B' : Nat} {v : Value} {L : List α} (h : Own f e k w B v L) (hB : B' ≤ B) : Own f e k w B' v L := by
 refine ⟨h.1, ?_⟩
 rcases h.2 with h2 | ⟨g, cap, cur, hv, hb, r⟩
 ·exact .inl h2
 ·exact .inr ⟨g, cap, cur, hv, by omega, r⟩
theorem frozen_of_heap {w : World} {g i : Nat} {cs : Array Value} {t : TypeId} {v : Value} (h : w.heap[g]? = some (.cells cs t (0, 0))) (hv : cs[i]? = some v) : w.frozen? ⟨g, i, none⟩ = false := by simp [World.frozen?, h]
section
variable {ops : Array Oper} {rest : List Oper} {a : Act} {Q : Exit → Act → World → Prop} {ty0 ty1 ty2 ty3 ty4 ty5 ty6 ty7 ty8 ty9 ty10 ty11 : TypeId} {pos0 pos1 pos2 pos3 pos4 pos5 pos6 pos7 pos8 pos9 pos10 pos11 : String} {aft0 aft1 aft2 aft3 aft4 aft5 aft6 aft7 aft8 aft9 aft10 aft11 : Array Edge}
end
end Go.Proofs.YtflppablgdegcaaGreatDoor
/- Triples over frames that are not laid open, for code that writes behind a bytes.Buffer: what a piece of code writes; regions that draw their order, as two chains and a write. -/
namespace Go.Proofs.YtflppablgdegcaaGreatDoor
open Go.RowKit
/-- The frame: its size, nothing deferred, the slots below m0 as f says. -/
structure Fr (N m0 : Nat) (f : Nat → Value) (a : Act) : Prop where
 size : a.tmps.size = N
 defers : a.defers = []
 low : ∀ t, t < m0 → a.eval (.tmp t) = f t
theorem Fr.put {N m0 d : Nat} {f : Nat → Value} {a : Act} {v : Value} (h : Fr N m0 f a) (hd : m0 ≤ d) : Fr N m0 f (a.put (some d) v) :=
 ⟨by simp [Act.put, h.size], by simp [Act.put, h.defers], fun t ht => by rw [ev_ne (by omega)]; exact h.low t ht⟩
def Tr (N m0 : Nat) (f : Nat → Value) (W : List UInt8 → World → Prop) (lim : Nat) (c : Code) (l : List UInt8) : Prop :=
 ∀ s a w, Fr N m0 f a → W s w → s.length + l.length ≤ lim → ∀ Q : Exit → Act → World → Prop, (∀ a' w', Fr N m0 f a' → W (s ++ l) w' → Q .normal a' w') → c.wp Tryz.prog Q a w
def Ts (N m0 : Nat) (f : Nat → Value) (W : List UInt8 → World → Prop) (c : Code) (t : Nat) (v : Value) : Prop :=
 ∀ s a w, Fr N m0 f a → W s w → ∀ Q : Exit → Act → World → Prop, (∀ a' w', Fr N m0 f a' → W s w' → a'.eval (.tmp t) = v → Q .normal a' w') → c.wp Tryz.prog Q a w
section
variable {N m0 : Nat} {f : Nat → Value} {W : List UInt8 → World → Prop} {lim : Nat}
theorem Tr.seq {c d : Code} {l m : List UInt8} (h1 : Tr N m0 f W lim c l) (h2 : Tr N m0 f W lim d m) : Tr N m0 f W lim (c.seq d) (l ++ m) := by
 intro s a w hf hw hlim Q hQ
 rw [List.length_append] at hlim
 refine wp_seq (h1 s a w hf hw (by omega) _ fun a' w' hf' hw' => ?_)
 exact h2 _ a' w' hf' hw' (by simp only [List.length_append]; omega) _ fun a'' w'' hf'' hw'' => hQ _ _ hf'' (by rw [← List.append_assoc]; exact hw'')
theorem Tr.skip : Tr N m0 f W lim .skip [] := fun s a w hf hw _ Q hQ => wp_skip (hQ a w hf (by rw [List.append_nil]; exact hw))
theorem Tr.ite {c d e : Code} {t : Nat} {b : Bool} {l m : List UInt8} (h : Ts N m0 f W c t (.bool b)) (h1 : b = true → Tr N m0 f W lim d l) (h2 : b = false → Tr N m0 f W lim e m) :
  Tr N m0 f W lim (c.seq (.cond (.tmp t) d e)) (if b = true then l else m) := by
 intro s a w hf hw hlim Q hQ
 refine wp_seq (h s a w hf hw _ fun a' w' hf' hw' ht => ?_)
 refine wp_cond_split ht (fun hb => ?_) (fun hb => ?_)
 ·rw [if_pos hb] at hlim hQ; exact h1 hb _ a' w' hf' hw' hlim _ hQ
 ·rw [if_neg (by rw [hb]; decide)] at hlim hQ; exact h2 hb _ a' w' hf' hw' hlim _ hQ
theorem Tr.opt {c d : Code} {t : Nat} {b : Bool} {l : List UInt8} (h : Ts N m0 f W c t (.bool b)) (h1 : b = true → Tr N m0 f W lim d l) :
  Tr N m0 f W lim (c.seq (.cond (.tmp t) d .skip)) (if b = true then l else []) := Tr.ite h h1 fun _ => Tr.skip
theorem Tr.congr {c : Code} {l m : List UInt8} (h : Tr N m0 f W lim c l) (e : l = m) : Tr N m0 f W lim c m := e ▸ h
variable {ops : Array Oper} {rest : List Oper} {a : Act} {w : World} {Q : Exit → Act → World → Prop} {s : List UInt8} {o : Oper} {x : Operand} {u v : Value}
variable {d : Option Nat} {ty : TypeId} {ps : String} {af : Array Edge} {t : Nat}
theorem run_andValue {sm : Sem Value} (h : sm.run Tryz.prog w = .ok v w) : (do pure (Next.value (← sm)) : Sem Next).run Tryz.prog w = .ok (.value v) w := by
 simp [h, Result.andThen]
end
/-- The slots that the operations write lie from m0 on. -/
def lowOk (ops : Array Oper) (m0 : Nat) : Bool := ops.toList.all fun o => match o.dst with | some d => decide (m0 ≤ d) | none => true
theorem lowOk_spec {ops : Array Oper} {m0 : Nat} (h : lowOk ops m0 = true) {j : Nat} {o : Oper} {d : Nat} (ho : ops[j]? = some o) (hd : o.dst = some d) : m0 ≤ d := by
 unfold lowOk at h
 rw [List.all_eq_true] at h
 have := h o (by have := Array.mem_of_getElem? ho; simpa using this)
 rw [hd] at this
 simpa using this
theorem OgCtx.outLow {ops : Array Oper} {a0 a : Act} {w0 w : World} {E : Nat → Nat → Prop} {Φ : Nat → Value → World → Prop} {i m0 t : Nat} (c : OgCtx ops a0 w0 E Φ i a w) (h : lowOk ops m0 = true) (ht : t < m0) : a.eval (.tmp t) = a0.eval (.tmp t) := by
 have := c.out t (fun j o hj hd => by have := lowOk_spec h hj hd; omega)
 simp only [Act.eval, Array.getD_eq_getD_getElem?, this]
theorem OgHead.outLow {ops : Array Oper} {m : Nat} {a0 a : Act} {w0 w : World} {E : Nat → Nat → Prop} {Φ : Nat → Value → World → Prop} {m0 t : Nat} (c : OgHead ops m a0 w0 E Φ a w) (h : lowOk ops m0 = true) (ht : t < m0) : a.eval (.tmp t) = a0.eval (.tmp t) := by
 have := c.out t (fun j o _ hj hd => by have := lowOk_spec h hj hd; omega)
 simp only [Act.eval, Array.getD_eq_getD_getElem?, this]
theorem OgHead.fr {ops : Array Oper} {m : Nat} {a0 a : Act} {w0 w : World} {E : Nat → Nat → Prop} {Φ : Nat → Value → World → Prop} {N m0 : Nat} {f : Nat → Value} (c : OgHead ops m a0 w0 E Φ a w) (h : lowOk ops m0 = true) (hf : Fr N m0 f a0) : Fr N m0 f a :=
 ⟨c.size.trans hf.size, c.defers.trans hf.defers, fun t ht => (c.outLow h ht).trans (hf.low t ht)⟩
theorem OgEnd.outLow {ops : Array Oper} {a0 a : Act} {w0 w : World} {E : Nat → Nat → Prop} {Φ : Nat → Value → World → Prop} {m0 t : Nat} (c : OgEnd ops a0 w0 E Φ a w) (h : lowOk ops m0 = true) (ht : t < m0) : a.eval (.tmp t) = a0.eval (.tmp t) := by
 have := c.out t (fun j o hj hd => by have := lowOk_spec h hj hd; omega)
 simp only [Act.eval, Array.getD_eq_getD_getElem?, this]
end Go.Proofs.YtflppablgdegcaaGreatDoor
/- A shell. -/
namespace Go.Proofs.YtflppablgdegcaaGreatDoor
end Go.Proofs.YtflppablgdegcaaGreatDoor
/- The world's predicate for code that writes behind a bytes.Buffer in a field: the two writes, laid off the shelf; WriteRune at ASCII. -/
namespace Go.Proofs.YtflppablgdegcaaGreatDoor
open Go.RowKit
/-- Behind w0, block pb holds a buffer of the bytes s at o; below B, and beside rows of bytes, nothing has turned. -/
def EW (T : TypeId) (R : Nat → Option Value) (B pb o : Nat) (w0 : World) (s : List UInt8) (w : World) : Prop :=
 LibA.IsBuffer T R 5 B pb o (Lib.byteCells s) w ∧ Below B w0 w ∧ Lib.OthersKept 5 (some pb) w0 w
section
variable {T : TypeId} {R : Nat → Option Value} {B pb o : Nat} {w0 w w' : World} {s : List UInt8}
theorem EW.lt (h : EW T R B pb o w0 s w) : B ≤ pb ∧ pb < w.heap.size := ⟨h.1.1, h.1.lt⟩
theorem kept_below {e : TypeId} {b : Option Nat} (h : Below w.heap.size w w') : Lib.OthersKept e b w w' := fun k o hk _ _ => by
 rw [h.block k (Array.getElem?_eq_some_iff.1 hk).1]; exact hk
theorem EW.below (h : EW T R B pb o w0 s w) (hb : Below w.heap.size w w') : EW T R B pb o w0 s w' :=
 ⟨h.1.old hb, h.2.1.trans (hb.mono (by have := h.lt; omega)), h.2.2.trans (kept_below hb)⟩
theorem EW.cells (h : EW T R B pb o w0 s w) {g : Nat} {cs : Array Value} {t : TypeId} {fr : Nat × Nat} (hg : w0.heap[g]? = some (.cells cs t fr)) (ht : t ≠ 5) (hp : g ≠ pb) : w.heap[g]? = some (.cells cs t fr) :=
 h.2.2 g _ hg (fun e => hp (Option.some.inj e)) (fun c fz e => by injection e with _ e2 _; exact ht e2)
theorem EW.refl (h : LibA.IsBuffer T R 5 B pb o (Lib.byteCells s) w) : EW T R B pb o w s w := ⟨h, Below.refl _ _, Lib.OthersKept.refl _ _ _⟩
end
end Go.Proofs.YtflppablgdegcaaGreatDoor
/- Leaves for the walk of an Encode: a literal written, a rune, a field's text, a number; tests of fields. -/
namespace Go.Proofs.YtflppablgdegcaaGreatDoor
open Go.RowKit
abbrev pt (g k : Nat) : Value := .pointer (some ⟨g, k, none⟩)
/-- A load of one cell. -/
def Ld (T : Nat) : Prop := ∀ w p v, w.cell? p = some v → (Instr.loadAt T (.pointer (some p))).run Tryz.prog w = .ok v w
def ne (s : ByteArray) : Bool := !s.data.toList.isEmpty
end Go.Proofs.YtflppablgdegcaaGreatDoor
/- Walks over frames that are not laid open: the slots that are known, as a list; single operations; a loop over an index. -/
set_option maxRecDepth 100000
namespace Go.Proofs.YtflppablgdegcaaGreatDoor
open Go.RowKit
/-- The frame's size, nothing deferred, and these slots (a slot's first place on the list counts). -/
structure Ev (N : Nat) (l : List (Nat × Value)) (a : Act) : Prop where
 size : a.tmps.size = N
 defers : a.defers = []
 look : ∀ t v, l.lookup t = some v → a.eval (.tmp t) = v
theorem Ev.get {N : Nat} {l : List (Nat × Value)} {a : Act} (h : Ev N l a) (t : Nat) {v : Value} (hl : l.lookup t = some v) : a.eval (.tmp t) = v := h.look t v hl
theorem look_ne {l : List (Nat × Value)} {t d : Nat} {v : Value} (h : t ≠ d) : ((d, v) :: l).lookup t = l.lookup t := by
 rw [List.lookup_cons]
 have e' : (t == d) = false := by simpa using h
 rw [e']
theorem look_eq {l : List (Nat × Value)} {t : Nat} {v : Value} : ((t, v) :: l).lookup t = some v := by
 rw [List.lookup_cons]; simp
theorem look_mem {l : List (Nat × Value)} {t : Nat} {v : Value} (h : l.lookup t = some v) : (t, v) ∈ l := by
 induction l with
 | nil => simp at h
 | cons p r ih =>
  obtain ⟨k, u⟩ := p
  by_cases e : t = k
  ·subst e; rw [look_eq] at h; simp at h; subst h; simp
  ·rw [look_ne e] at h; exact List.mem_cons_of_mem _ (ih h)
theorem Ev.set {N : Nat} {l : List (Nat × Value)} {a : Act} {d : Nat} {v : Value} (h : Ev N l a) (hd : d < N) : Ev N ((d, v) :: l) (a.put (some d) v) := by
 refine ⟨by simp [Act.put, h.size], by simp [Act.put, h.defers], fun t u hl => ?_⟩
 by_cases e : t = d
 ·subst e
  rw [look_eq] at hl
  rw [ev_eq (by rw [h.size]; exact hd)]
  exact Option.some.inj hl
 ·rw [look_ne e] at hl
  rw [ev_ne (fun h => e h.symm)]
  exact h.look t u hl
theorem Ev.weaken {N : Nat} {l l' : List (Nat × Value)} {a : Act} (h : Ev N l a) (hs : ∀ t v, l'.lookup t = some v → l.lookup t = some v) : Ev N l' a := ⟨h.size, h.defers, fun t v hl => h.look t v (hs t v hl)⟩
theorem Ev.drop {N d : Nat} {v : Value} {l : List (Nat × Value)} {a : Act} (h : Ev N ((d, v) :: l) a) (hl : (l.all fun p => p.1 != d) = true) : Ev N l a := by
 refine h.weaken fun t u hu => ?_
 have := look_mem hu
 rw [List.all_eq_true] at hl
 have := hl _ this
 rw [look_ne (by simpa using this)]
 exact hu
theorem Ev.pick {N : Nat} {l l' : List (Nat × Value)} {a : Act} (h : Ev N l a) (hs : (l'.map fun p => l.lookup p.1) = l'.map fun p => some p.2) : Ev N l' a := by
 refine h.weaken ?_
 induction l' with
 | nil => intro t v hl; simp at hl
 | cons q r ih =>
  obtain ⟨d, u⟩ := q
  simp only [List.map_cons, List.cons.injEq] at hs
  intro t v hl
  by_cases e : t = d
  ·subst e; rw [look_eq] at hl; rw [hs.1, hl]
  ·rw [look_ne e] at hl; exact ih hs.2 t v hl
/-- The low slots as they were, but one. -/
theorem Ev.from {N m0 d : Nat} {l : List (Nat × Value)} {a a' : Act} {v : Value} (h : Ev N l a) (hs : a'.tmps.size = N) (hd : a'.defers = a.defers) (hlow : ∀ t, t < m0 → t ≠ d → a'.eval (.tmp t) = a.eval (.tmp t)) (hv : a'.eval (.tmp d) = v) (hl : (l.all fun p => decide (p.1 < m0) && p.1 != d) = true) : Ev N ((d, v) :: l) a' := by
 refine ⟨hs, hd.trans h.defers, fun t u hu => ?_⟩
 by_cases e : t = d
 ·subst e; rw [look_eq] at hu; exact hv.trans (Option.some.inj hu)
 ·rw [look_ne e] at hu
  rw [List.all_eq_true] at hl
  have := hl _ (look_mem hu)
  simp only [Bool.and_eq_true, decide_eq_true_eq, bne_iff_ne, ne_eq] at this
  rw [hlow t this.1 this.2]
  exact h.look t u hu
theorem Ev.fr {N m0 : Nat} {l : List (Nat × Value)} {a : Act} (h : Ev N l a) : Fr N m0 (fun t => a.eval (.tmp t)) a := ⟨h.size, h.defers, fun _ _ => rfl⟩
section
variable {N : Nat} {l : List (Nat × Value)} {a : Act} {w w' : World} {ops : Array Oper} {rest : List Oper} {o : Oper} {Q : Exit → Act → World → Prop} {d : Nat} {v u : Value} {W : List UInt8 → World → Prop} {s : List UInt8} {x : Operand}
theorem ev_run (h : Ev N l a) (hg : o.guard = none) (hd : o.dst = some d) (hdN : d < N) (hr : (execOp a.eval o).run Tryz.prog w = .ok (.value v) w')
  (hK : ∀ a', Ev N ((d, v) :: l) a' → wpList Tryz.prog ops Q rest a' w') : wpList Tryz.prog ops Q (o :: rest) a w := by
 refine arm_run hg hr ?_
 rw [hd]
 exact hK _ (h.set hdN)
theorem ev_r (h : Ev N l a) (hr : (execOp a.eval o).run Tryz.prog w = .ok (.value v) w') (hK : ∀ a', Ev N ((d, v) :: l) a' → wpList Tryz.prog ops Q rest a' w') (hg : o.guard = none := by rfl) (hd : o.dst = some d := by rfl) (hdN : d < N := by decide) : wpList Tryz.prog ops Q (o :: rest) a w := ev_run h hg hd hdN hr hK
theorem nx1 {P : Program} {Qx : Exit → Act → World → Prop} {c : Code} (h : c.wp P Q a w) : wpList P ops (Exit.then (c.wp P Q) Qx) [] a w := wpList_nil h
theorem nx3 {P : Program} {Qx : Exit → Act → World → Prop} {id : Nat} {k : List Oper} {c : Code} (h : wpList P k.toArray (Exit.then (c.wp P Q) Q) k a w) : wpList P ops (Exit.then ((Code.seq (.region id k.toArray false) c).wp P Q) Qx) [] a w := wpList_nil (wp_seq (wp_region_lit h))
end
/-- Entering a function: the frame is not laid open. -/
theorem calls_of_ev {f : FuncId} {fn : Func} {c : Code} {args : Array Value} {w : World} {R : Ending → World → Prop} (hf : Tryz.prog.funcs[f]? = some fn) (hb : fn.body = some c) (hsz : args.size ≤ fn.ntmps)
  (h : ∀ a, Ev fn.ntmps ((List.range args.size).map fun k => (k, args.getD k undef)) a → c.wp Tryz.prog (bodyPost Tryz.prog fn R) a w) : Calls Tryz.prog f args w R := by
 refine calls_of_wp hf hb (h _ ⟨?_, rfl, ?_⟩)
 ·simp; omega
 ·intro t v hl
  have hm := look_mem hl
  rw [List.mem_map] at hm
  obtain ⟨k, hk, e⟩ := hm
  injection e with e1 e2
  subst e1 e2
  rw [List.mem_range] at hk
  simp only [Act.eval, Array.getD_eq_getD_getElem?]
  rw [Array.getElem?_append_left hk]
theorem ret_of_ev {N t : Nat} {l : List (Nat × Value)} {fn : Func} {R : Ending → World → Prop} {a : Act} {w : World} {v : Value} (h : Ev N l a) (hr : fn.results = #[.tmp t]) (hv : a.eval (.tmp t) = v) (hR : R (.returned v) w) : bodyPost Tryz.prog fn R .ret a w :=
 bodyPost_ret (results_tmp hr _ _ _) h.defers (by have : a.tmps.getD t undef = v := hv; rw [this]; exact hR)
theorem sp_lt {a : Act} {w : World} {x y : Operand} {i j : Int} {T T' : TypeId} {d : Option Nat} {ty : TypeId} {ps : String} {af : Array Edge} (hx : a.eval x = .int .i64 i) (hy : a.eval y = .int .i64 j) :
  (execOp a.eval ⟨d, .binOp .lss T x y T', ty, ps, af, none⟩).run Tryz.prog w = .ok (.value (.bool (decide (i < j)))) w := by
 simp only [execOp, hx, hy]
 simp [eqGuard, binOp, Op.intCmp, Result.andThen]
theorem sp_inc {a : Act} {w : World} {x : Operand} {i : Nat} {T T' : TypeId} {d : Option Nat} {ty : TypeId} {ps : String} {af : Array Edge} (hx : a.eval x = .int .i64 i) (hi : i < 4611686018427387904) :
  (execOp a.eval ⟨d, .binOp .add T x (.const (.int .i64 1)) T', ty, ps, af, none⟩).run Tryz.prog w = .ok (.value (.int .i64 ((i + 1 : Nat) : Int))) w := by
 have h : IntKind.i64.wrap ((i : Int) + 1) = ((i + 1 : Nat) : Int) := by rw [IntKind.wrap_i64]; omega
 simp only [execOp, hx]
 simp [eqGuard, binOp, Op.intArith, Act.eval, Result.andThen]
 first | exact h | (simpa using h)
/-- The same, where slots turn from round to round. -/
theorem range_wp2 {N n : Nat} {l0 : List (Nat × Value)} (ks : List Nat) {id0 id1 r1 r2 tb tn ti tadd : Nat} {T T1 T2 T3 y1 y2 y3 : TypeId} {p1 p2 p3 : String} {e1 e2 e3 : Array Edge} {body : Code} {Q : Exit → Act → World → Prop} {a : Act} {w : World}
  (I : Nat → List (Nat × Value) → World → Prop) (hn : n < 4611686018427387904) (ha : Ev N ((ti, .int .i64 (0 : Nat)) :: (tn, .int .i64 n) :: l0) a) (hl0 : l0.map Prod.fst = ks) (h0 : I 0 l0 w)
  (hks : (ks.all fun t => t != tb && t != ti && t != tadd) = true) (hne : tn ≠ tb ∧ tn ≠ ti ∧ tn ≠ tadd ∧ ti ≠ tb ∧ ti ≠ tadd) (hN : tb < N ∧ ti < N ∧ tadd < N)
  (hbody : ∀ k l a w, k < n → Ev N ((ti, .int .i64 k) :: (tn, .int .i64 n) :: l) a → I k l w → ∀ Q' : Exit → Act → World → Prop, (∀ l' a' w', l'.map Prod.fst = ks → Ev N ((ti, .int .i64 k) :: (tn, .int .i64 n) :: l') a' → I (k + 1) l' w' → Q' .normal a' w') → (Code.block id1 body).wp Tryz.prog Q' a w)
  (hend : ∀ l a w, Ev N ((ti, .int .i64 n) :: (tn, .int .i64 n) :: l) a → I n l w → Q .normal a w) :
  (Code.block id0 (.loop (.seq (.region r1 #[⟨some tb, .binOp .lss T (.tmp ti) (.tmp tn) T1, y1, p1, e1, none⟩] false) (.seq (.cond (.tmp tb) .skip (.exit id0)) (.seq (.block id1 body) (.region r2 #[⟨some tadd, .binOp .add T2 (.tmp ti) (.const (.int .i64 1)) T3, y2, p2, e2, none⟩, ⟨some ti, .move (.tmp tadd), y3, p3, e3, none⟩] false)))))).wp Tryz.prog Q a w := by
 refine wp_block ?_
 refine wp_loop (fun a w => ∃ (k : Nat) (l : List (Nat × Value)), k ≤ n ∧ l.map Prod.fst = ks ∧ Ev N ((ti, .int .i64 k) :: (tn, .int .i64 n) :: l) a ∧ I k l w) (fun a _ => n - (RowKit.intOf (a.eval (.tmp ti))).toNat) ⟨0, l0, Nat.zero_le _, hl0, ha, h0⟩ ?_
 have hall : ∀ l : List (Nat × Value), l.map Prod.fst = ks → (l.all fun p => p.1 != tb && p.1 != ti && p.1 != tadd) = true := by
  intro l hl
  rw [← hl, List.all_map] at hks
  exact hks
 rintro a w ⟨k, l, hk, hl, hE, hI⟩
 have hsl := hall l hl
 have hti : a.eval (.tmp ti) = .int .i64 k := hE.get ti look_eq
 have htn : a.eval (.tmp tn) = .int .i64 n := hE.get tn (by rw [look_ne hne.2.1, look_eq])
 have hfil : ∀ d, d = tb ∨ d = tadd → (((ti, Value.int .i64 k) :: (tn, .int .i64 n) :: l).all fun p => p.1 != d) = true := by
  intro d hd
  rw [List.all_eq_true] at hsl ⊢
  intro p hp
  rcases List.mem_cons.1 hp with rfl | hp
  ·rcases hd with rfl | rfl
   ·simpa using hne.2.2.2.1
   ·simpa using hne.2.2.2.2
  ·rcases List.mem_cons.1 hp with rfl | hp
   ·rcases hd with rfl | rfl
    ·simpa using hne.1
    ·simpa using hne.2.2.1
   ·have := hsl p hp
    simp only [Bool.and_eq_true] at this
    rcases hd with rfl | rfl
    ·exact this.1.1
    ·exact this.2
 refine wp_seq ?_
 refine wp_region_lit ?_
 refine arm_run rfl (sp_lt hti htn) ?_
 refine wpList_nil ?_
 have hE1 := hE.set (d := tb) (v := .bool (decide ((k : Int) < n))) hN.1
 show Code.wp _ _ _ _ _
 refine wp_seq ?_
 have htb := hE1.get tb look_eq
 refine wp_cond_split htb (fun hb => ?_) (fun hb => ?_)
 ·have hkn : k < n := by have := of_decide_eq_true hb; omega
  refine wp_skip ?_
  show Code.wp _ _ _ _ _
  refine wp_seq ?_
  refine hbody k l _ w hkn (hE1.drop (hfil tb (.inl rfl))) hI _ fun l' a' w' hl' hE' hI' => ?_
  have hsl' := hall l' hl'
  have hfil' : ∀ d, d = tb ∨ d = tadd → (((ti, Value.int .i64 k) :: (tn, .int .i64 n) :: l').all fun p => p.1 != d) = true := by
   intro d hd
   rw [List.all_eq_true] at hsl' ⊢
   intro p hp
   rcases List.mem_cons.1 hp with rfl | hp
   ·rcases hd with rfl | rfl
    ·simpa using hne.2.2.2.1
    ·simpa using hne.2.2.2.2
   ·rcases List.mem_cons.1 hp with rfl | hp
    ·rcases hd with rfl | rfl
     ·simpa using hne.1
     ·simpa using hne.2.2.1
    ·have := hsl' p hp
     simp only [Bool.and_eq_true] at this
     rcases hd with rfl | rfl
     ·exact this.1.1
     ·exact this.2
  show Code.wp _ _ _ _ _
  refine wp_region_lit ?_
  have hti' : a'.eval (.tmp ti) = .int .i64 k := hE'.get ti look_eq
  refine arm_run (w' := w') rfl (sp_inc hti' (by omega)) ?_
  have hE2 := hE'.set (d := tadd) (v := .int .i64 ((k + 1 : Nat) : Int)) hN.2.2
  refine arm_run (v := .int .i64 ((k + 1 : Nat) : Int)) (w' := w') rfl ?_ ?_
  ·have : (a'.put (some tadd) (.int .i64 ((k + 1 : Nat) : Int))).eval (.tmp tadd) = .int .i64 ((k + 1 : Nat) : Int) := hE2.get tadd look_eq
   simp only [execOp, this]
   rfl
  ·refine wpList_nil ?_
   have hE3 := hE2.set (d := ti) (v := .int .i64 ((k + 1 : Nat) : Int)) hN.2.1
   have hE4 : Ev N ((ti, .int .i64 ((k + 1 : Nat) : Int)) :: (tn, .int .i64 n) :: l') ((a'.put (some tadd) (.int .i64 ((k + 1 : Nat) : Int))).put (some ti) (.int .i64 ((k + 1 : Nat) : Int))) := by
    refine hE3.weaken fun t u hu => ?_
    by_cases e : t = ti
    ·subst e; rw [look_eq] at hu ⊢; exact hu
    ·rw [look_ne e] at hu ⊢
     have e2 : t ≠ tadd := by
      by_cases e3 : t = tn
      ·subst e3; exact hne.2.2.1
      ·rw [look_ne e3] at hu
       rw [List.all_eq_true] at hsl'
       have := hsl' _ (look_mem hu)
       simp only [Bool.and_eq_true] at this
       simpa using this.2
     rw [look_ne e2, look_ne e]
     exact hu
   refine ⟨⟨k + 1, l', by omega, hl', hE4, hI'⟩, ?_⟩
   have h5 := hE4.get ti look_eq
   rw [h5, hti]
   simp only [RowKit.intOf]
   omega
 ·have hkn : k = n := by have := of_decide_eq_false hb; omega
  subst hkn
  refine wp_exit ?_
  show Exit.inBlock id0 Q (.exit id0) _ _
  simp only [Exit.inBlock, if_true]
  exact hend l _ w (hE1.drop (hfil tb (.inl rfl))) hI
end Go.Proofs.YtflppablgdegcaaGreatDoor
/- Operations on memory over frames that are not laid open: a field read, a new block, a block stored, a cell stored, an append, a call. -/
namespace Go.Proofs.YtflppablgdegcaaGreatDoor
open Go.RowKit
theorem run_andValue'' {sm : Sem Value} {w w' : World} {v : Value} (h : sm.run Tryz.prog w = .ok v w') : (do pure (Next.value (← sm)) : Sem Next).run Tryz.prog w = .ok (.value v) w' := by
 simp [h, Result.andThen]
section
variable {N : Nat} {l : List (Nat × Value)} {a : Act} {w : World} {ops : Array Oper} {rest : List Oper} {o : Oper} {Q : Exit → Act → World → Prop} {d d1 d2 : Nat} {v u : Value} {x y : Operand} {ty ty1 ty2 : TypeId} {ps ps1 ps2 : String} {af af1 af2 : Array Edge}
/-- A struct's type: its cells' number. -/
structure Ag (T k : Nat) : Prop where
 agg : ∀ w, (isAgg T).run Tryz.prog w = .ok true w
 size : ∀ w, (sizeOf T).run Tryz.prog w = .ok k w
/-- A whole struct stored. -/
theorem ev_sb {T k t s g : Nat} {cs old : Array Value} {e : TypeId} (h : Ev N l a) (hA : Ag T k) (hx : a.eval (.tmp t) = pt g 0) (hy : a.eval (.tmp s) = .agg cs) (hg : w.heap[g]? = some (.cells old e (0, 0))) (hsz : cs.size = k) (hso : old.size = k) (h1 : ∀ u ∈ cs.toList, u.oneCell' = true)
  (hK : ∀ w', w'.heap[g]? = some (.cells cs e (0, 0)) → Only (fun g' => g' = g) w w' → wpList Tryz.prog ops Q rest a w') :
  wpList Tryz.prog ops Q (⟨none, .store T (.tmp t) (.tmp s), ty, ps, af, none⟩ :: rest) a w := arm_store_blk T hA.agg hA.size hx hy hg hsz hso h1 hK
/-- A new block. -/
def Al (T : Nat) (zs : Array Value) : Prop := ∀ w, (Instr.alloc T true (.tuple #[])).run Tryz.prog w = .ok (pt w.heap.size 0) (w.alloc (.cells zs T))
theorem ev_al {T : Nat} {zs : Array Value} (h : Ev N l a) (hA : Al T zs) (hd : d < N)
  (hK : ∀ a' w', Ev N ((d, pt w.heap.size 0) :: l) a' → w'.heap[w.heap.size]? = some (.cells zs T (0, 0)) → Below w.heap.size w w' → w'.heap.size = w.heap.size + 1 → wpList Tryz.prog ops Q rest a' w') :
  wpList Tryz.prog ops Q (⟨some d, .alloc T, ty, ps, af, none⟩ :: rest) a w := by
 refine ev_run (v := pt w.heap.size 0) (w' := w.alloc (.cells zs T)) h rfl rfl hd ?_ ?_
 ·simp only [execOp]
  simp [hA w, Result.andThen]
 ·intro a' h'
  exact hK a' _ h' (heap_alloc_new _ _) ((Below.refl _ _).alloc (Nat.le_refl _) _) (by simp)
/-- A cell stored. -/
def St (T : Nat) (v : Value) : Prop := ∀ w p u, w.cell? p = some u → w.frozen? p = false → (Instr.storeAt T (.pointer (some p)) v).run Tryz.prog w = .ok () (w.setCell p v)
theorem ev_sc {T t g j : Nat} {cs : Array Value} {e : TypeId} (h : Ev N l a) (hS : St T v) (hx : a.eval (.tmp t) = pt g j) (hy : a.eval y = v) (hg : w.heap[g]? = some (.cells cs e (0, 0))) (hj : j < cs.size)
  (hK : ∀ w', w'.heap[g]? = some (.cells (cs.setIfInBounds j v) e (0, 0)) → Only (fun g' => g' = g) w w' → wpList Tryz.prog ops Q rest a w') :
  wpList Tryz.prog ops Q (⟨none, .store T (.tmp t) y, ty, ps, af, none⟩ :: rest) a w := by
 refine arm_skip (w' := w.setCell ⟨g, j, none⟩ v) rfl rfl ?_ (hK _ (heap_setCell_same hg v) (Only.of_setCell w ⟨g, j, none⟩ v))
 have hc : w.cell? ⟨g, j, none⟩ = some cs[j] := cell_of_heap hg (Array.getElem?_eq_getElem hj)
 have hf : w.frozen? ⟨g, j, none⟩ = false := by simp [World.frozen?, hg]
 simp only [execOp, hx, hy]
 simp [hS w _ _ hc hf, Result.andThen]
/-- A call. -/
theorem ev_call {f : FuncId} {args : Array Value} {S : Value → World → Prop} (h : Ev N l a) (hg : o.guard = none) (hd : o.dst = some d) (hdN : d < N) (hr : (execOp a.eval o).run Tryz.prog w = .ok (.enter f args) w) (hc : Calls Tryz.prog f args w fun e w' => ∃ v, e = .returned v ∧ S v w')
  (hK : ∀ a' v w', S v w' → Ev N ((d, v) :: l) a' → wpList Tryz.prog ops Q rest a' w') : wpList Tryz.prog ops Q (o :: rest) a w := by
 refine wpList_plain hg fun K hK' => ?_
 unfold Oper.wp
 rw [hr]
 refine Calls.mono hc ?_
 rintro e w' ⟨v, rfl, hS⟩
 refine hK' _ _ ?_
 rw [hd]
 exact hK _ v w' hS (h.set hdN)
end
end Go.Proofs.YtflppablgdegcaaGreatDoor
/- Operations over frames that are not laid open, second part: guards, texts held against each other and joined, picks; facts on blocks carried on. -/
namespace Go.Proofs.YtflppablgdegcaaGreatDoor
open Go.RowKit
theorem beq_dec (x y : List UInt8) : (x == y) = decide (x = y) := by
 by_cases h : x = y <;> simp [h]
section
variable {N : Nat} {l : List (Nat × Value)} {a : Act} {w w' : World} {ops : Array Oper} {rest : List Oper} {o : Oper} {Q : Exit → Act → World → Prop} {d gj gt : Nat} {b b' : Bool} {v : Value} {x y : Operand} {ty : TypeId} {ps : String} {af : Array Edge} {dst : Option Nat} {gd : Option (Nat × Bool)}
theorem yielded_of (hd : (ops[gj]?).bind (·.dst) = some gt) (he : a.eval (.tmp gt) = .bool b') : yielded ops a.tmps gj = some b' := by
 unfold yielded
 rw [hd]
 simp only [Act.eval, Array.getD_eq_getD_getElem?] at he
 cases h : a.tmps[gt]? with
 | none => rw [h] at he; cases he
 | some v =>
  rw [h] at he
  simp only [Option.getD_some] at he
  subst he
  simp [h]
theorem ev_gon (h : Ev N l a) (hg : o.guard = some (gj, b)) (hgd : (ops[gj]?).bind (·.dst) = some gt) (ht : a.eval (.tmp gt) = .bool b) (hd : o.dst = some d) (hdN : d < N) (hr : (execOp a.eval o).run Tryz.prog w = .ok (.value v) w')
  (hK : ∀ a', Ev N ((d, v) :: l) a' → wpList Tryz.prog ops Q rest a' w') : wpList Tryz.prog ops Q (o :: rest) a w := by
 refine wpList_step fun K hK' => ?_
 have hw : Region.wanted o (yielded ops a.tmps) = true := by unfold Region.wanted; rw [hg]; simp [yielded_of hgd ht]
 rw [if_pos hw]
 unfold Oper.wp
 rw [hr]
 refine hK' _ _ ?_
 rw [hd]
 exact hK _ (h.set hdN)
/-- A guarded call. -/
theorem ev_gcall {f : FuncId} {args : Array Value} {S : Value → World → Prop} (h : Ev N l a) (hg : o.guard = some (gj, b)) (hgd : (ops[gj]?).bind (·.dst) = some gt) (ht : a.eval (.tmp gt) = .bool b) (hd : o.dst = some d) (hdN : d < N) (hr : (execOp a.eval o).run Tryz.prog w = .ok (.enter f args) w) (hc : Calls Tryz.prog f args w fun e w' => ∃ v, e = .returned v ∧ S v w')
  (hK : ∀ a' v w', S v w' → Ev N ((d, v) :: l) a' → wpList Tryz.prog ops Q rest a' w') : wpList Tryz.prog ops Q (o :: rest) a w := by
 refine wpList_step fun K hK' => ?_
 have hw : Region.wanted o (yielded ops a.tmps) = true := by unfold Region.wanted; rw [hg]; simp [yielded_of hgd ht]
 rw [if_pos hw]
 unfold Oper.wp
 rw [hr]
 refine Calls.mono hc ?_
 rintro e w' ⟨v, rfl, hS⟩
 refine hK' _ _ ?_
 rw [hd]
 exact hK _ v w' hS (h.set hdN)
theorem ev_goff (h : Ev N l a) (hg : o.guard = some (gj, b)) (hgd : (ops[gj]?).bind (·.dst) = some gt) (ht : a.eval (.tmp gt) = .bool b') (hne : (b' == b) = false) (hd : o.dst = some d) (hdN : d < N)
  (hK : ∀ a', Ev N ((d, undef) :: l) a' → wpList Tryz.prog ops Q rest a' w) : wpList Tryz.prog ops Q (o :: rest) a w := by
 refine wpList_step fun K hK' => ?_
 have hw : Region.wanted o (yielded ops a.tmps) = false := by
  unfold Region.wanted
  rw [hg]
  simp only [yielded_of hgd ht]
  cases b <;> cases b' <;> simp at hne ⊢
 rw [if_neg (by rw [hw]; decide)]
 refine hK' _ _ ?_
 rw [hd]
 exact hK _ (h.set hdN)
theorem ex_ld {T t : Nat} {p : Addr} (hx : a.eval (.tmp t) = .pointer (some p)) (hL : Ld T) (hc : w.cell? p = some v) : (execOp a.eval ⟨dst, .load T (.tmp t), ty, ps, af, gd⟩).run Tryz.prog w = .ok (.value v) w := by
 simp only [execOp, hx]; exact run_andValue (hL w _ _ hc)
theorem ex_mv {t : Nat} (hx : a.eval (.tmp t) = v) : (execOp a.eval ⟨dst, .move (.tmp t), ty, ps, af, gd⟩).run Tryz.prog w = .ok (.value v) w := by simp only [execOp, hx]; rfl
theorem ex_eqs {T T' : TypeId} {s t : ByteArray} (hx : a.eval x = .string s) (hy : a.eval y = .string t) : (execOp a.eval ⟨dst, .binOp .eql T x y T', ty, ps, af, gd⟩).run Tryz.prog w = .ok (.value (.bool (decide (s.data.toList = t.data.toList)))) w := by
 simp only [execOp, hx, hy]
 show Result.ok (Next.value (Value.bool (s.toList == t.toList))) w = _
 rw [ByteArray.toList_eq, ByteArray.toList_eq, beq_dec]
theorem ex_add {T T' : TypeId} {s t : ByteArray} (hx : a.eval x = .string s) (hy : a.eval y = .string t) (hs : s.size + t.size ≤ 9223372036854775807) : (execOp a.eval ⟨dst, .binOp .add T x y T', ty, ps, af, gd⟩).run Tryz.prog w = .ok (.value (.string (s ++ t))) w := by
 have hr := run_string_add_sum (P := Tryz.prog) w s t hs
 simp [execOp, hx, hy, binOp, hr, eqGuard, Result.andThen]
theorem ex_not {T : TypeId} {t : Nat} (hx : a.eval (.tmp t) = .bool b) : (execOp a.eval ⟨dst, .unOp .not T (.tmp t), ty, ps, af, gd⟩).run Tryz.prog w = .ok (.value (.bool (!b))) w := by
 simp only [execOp, hx]; rfl
theorem ex_len {T e : TypeId} {t : Nat} {p : Option Addr} {n c : Nat} (hu : Tryz.prog.underlying T = some (.slice e)) (hx : a.eval (.tmp t) = .slice p n c) : (execOp a.eval ⟨dst, .call { callee := .builtin .len, args := #[.tmp t], argTypes := #[T] }, ty, ps, af, gd⟩).run Tryz.prog w = .ok (.value (.int .i64 n)) w := by
 simp only [execOp, resolve, List.map_toArray, List.map_cons, List.map_nil, hx]
 go_simp
end
theorem hp_below {w w' : World} {g : Nat} {ob : Obj} (h : w.heap[g]? = some ob) (hb : Below w.heap.size w w') : w'.heap[g]? = some ob := by
 rw [hb.block g (Array.getElem?_eq_some_iff.1 h).1]; exact h
end Go.Proofs.YtflppablgdegcaaGreatDoor
/- Slices of structs of the call's own, over frames that are not laid open: an element read; a value put into a box. -/
namespace Go.Proofs.YtflppablgdegcaaGreatDoor
open Go.RowKit
section
variable {α : Type} {f : α → List Value} {k : Nat}
theorem flat_get (hf : ∀ x, (f x).length = k) (hk : 0 < k) : ∀ (L : List α) (t : Nat), (flat f L)[t]? = (L[t / k]?).bind fun x => (f x)[t % k]?
 | [], t => by simp [flat]
 | x :: L, t => by
  have e : flat f (x :: L) = f x ++ flat f L := rfl
  rw [e]
  by_cases h : t < k
  ·rw [List.getElem?_append_left (by rw [hf]; exact h), Nat.div_eq_of_lt h, Nat.mod_eq_of_lt h]; rfl
  ·obtain ⟨s, rfl⟩ : ∃ s, t = k + s := ⟨t - k, by omega⟩
   rw [List.getElem?_append_right (by rw [hf]; omega), hf, Nat.add_sub_cancel_left, flat_get hf hk L s, Nat.add_div_left _ hk, Nat.add_mod_left]
   rfl
end
/-- An element's cells. -/
theorem Own.cells_at {α : Type} {f : α → List Value} {e : TypeId} {k : Nat} {w : World} {B g cap : Nat} {L : List α} (hf : ∀ x, (f x).length = k) (hk : 0 < k) (h : Own f e k w B (.slice (some ⟨g, 0, none⟩) L.length cap) L) {i j : Nat} (hi : i < L.length) (hj : j < k) : w.cell? ⟨g, i * k + j, none⟩ = (f (L[i]'hi))[j]? := by
 have hne : L ≠ [] := by intro e; rw [e] at hi; simp at hi
 obtain ⟨g', cap', cur, hv, _, hh, _, ht⟩ := h.form hne
 injection hv with h1 h2 h3
 injection h1 with h1
 injection h1 with h1 _ _
 subst h1
 have hlt : i * k + j < L.length * k := by
  have : (i + 1) * k ≤ L.length * k := Nat.mul_le_mul_right k hi
  rw [Nat.add_mul, Nat.one_mul] at this
  omega
 have h4 : (cur.toList.take (L.length * k))[i * k + j]? = cur.toList[i * k + j]? := List.getElem?_take_of_lt hlt
 have h5 := flat_get hf hk L (i * k + j)
 rw [← ht, h4] at h5
 have h6 : (i * k + j) / k = i := by rw [Nat.mul_comm, Nat.mul_add_div hk, Nat.div_eq_of_lt hj]; rfl
 have h7 : (i * k + j) % k = j := by rw [Nat.mul_comm, Nat.mul_add_mod, Nat.mod_eq_of_lt hj]
 rw [h6, h7, List.getElem?_eq_getElem hi] at h5
 simp only [World.cell?, hh]
 simpa using h5
theorem Own.shape {α : Type} {f : α → List Value} {e : TypeId} {k : Nat} {w : World} {B : Nat} {v : Value} {L : List α} (h : Own f e k w B v L) : ∃ (A : Option Addr) (cap : Nat), v = .slice A L.length cap ∧ (L ≠ [] → ∃ g, A = some ⟨g, 0, none⟩) := by
 rcases h.2 with ⟨rfl, h0⟩ | ⟨g, cap, cur, rfl, _⟩
 ·refine ⟨none, 0, by rw [h0], fun hne => absurd (List.eq_nil_of_length_eq_zero h0) hne⟩
 ·exact ⟨_, cap, rfl, fun _ => ⟨g, rfl⟩⟩
section
variable {N : Nat} {l : List (Nat × Value)} {a : Act} {w : World} {ops : Array Oper} {rest : List Oper} {Q : Exit → Act → World → Prop} {d d1 d2 : Nat} {ty ty1 ty2 : TypeId} {ps ps1 ps2 : String} {af af1 af2 : Array Edge}
/-- A value of cells put into a box. -/
theorem ev_box {T t : Nat} {cs : Array Value} (h : Ev N l a) (hx : a.eval (.tmp t) = .agg cs) (hB : ∀ w : World, (Instr.box T (.agg cs)).run Tryz.prog w = .ok (pt w.heap.size 0) (w.alloc (.cells cs T))) (hd : d < N)
  (hK : ∀ a' w', Ev N ((d, pt w.heap.size 0) :: l) a' → w'.heap[w.heap.size]? = some (.cells cs T (0, 0)) → Below w.heap.size w w' → w'.heap.size = w.heap.size + 1 → wpList Tryz.prog ops Q rest a' w') :
  wpList Tryz.prog ops Q (⟨some d, .box T (.tmp t), ty, ps, af, none⟩ :: rest) a w := by
 refine ev_run (v := pt w.heap.size 0) (w' := w.alloc (.cells cs T)) h rfl rfl hd ?_ ?_
 ·simp only [execOp, hx]
  exact run_andValue'' (hB w)
 ·intro a' h'
  exact hK a' _ h' (heap_alloc_new _ _) ((Below.refl _ _).alloc (Nat.le_refl _) _) (by simp)
end
end Go.Proofs.YtflppablgdegcaaGreatDoor
