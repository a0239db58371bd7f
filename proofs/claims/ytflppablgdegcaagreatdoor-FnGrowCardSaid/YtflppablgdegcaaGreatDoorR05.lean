/- Joined: So, Md, Sl. -/
import Derived.Test.YtflppablgdegcaaGreatDoorR01
import Derived.Test.YtflppablgdegcaaGreatDoorR04
import Derived.Test.YtflppablgdegcaaGreatDoorR03
import Derived.Lib.Hide
import Derived.Test.YtflppablgdegcaaGreatDoorR02
namespace Go.Proofs.YtflppablgdegcaaGreatDoor
open Go.RowKit
theorem only_below0 {w w' : World} (h : Only (fun _ => False) w w') : Below w.heap.size w w' := h.below (Nat.le_refl _) fun _ _ h => h
section
variable {ops : Array Oper} {a0 a : Act} {w w0 w1 : World} {Φ : Nat → Value → World → Prop} {N i k : Nat} {l : List (Nat × Value)} {m : List Bk} {M : Nat → Prop}
theorem drew_below (h : Only (fun g => ∃ e : Nat, (fun (_ : Nat) (_ : Nat) => False) e g) w.drew w1) : Below w.heap.size w w1 := by
 have h0 := h.below (B := w.heap.size) (Nat.le_refl _) fun g _ ⟨_, h⟩ => h
 exact ⟨h0.os, h0.tape, h0.output, h0.size, h0.block⟩
theorem Sv.empty (h : Sv N l m M w0 a0 w) (hs : a.tmps.size = a0.tmps.size) (hd : a.defers = a0.defers) : Sv N [] m M w0 a w := h.slot ⟨hs.trans h.ev.size, hd.trans h.ev.defers, fun t v hl => by simp at hl⟩
theorem Sv.ogc (h : Sv N l m M w0 a0 w) (c : OgCtx ops a0 w.drew (fun _ _ => False) Φ i a w1) : Sv N [] m M w0 a w1 := (h.empty c.size c.defers).below (drew_below c.only)
theorem Sv.ogh (h : Sv N l m M w0 a0 w) (c : OgHead ops k a0 w.drew (fun _ _ => False) Φ a w1) : Sv N [] m M w0 a w1 := (h.empty c.size c.defers).below (drew_below c.only)
theorem Sv.oge (h : Sv N l m M w0 a0 w) (c : OgEnd ops a0 w.drew (fun _ _ => False) Φ a w1) : Sv N [] m M w0 a w1 := (h.empty c.size c.defers).below (drew_below c.only)
def ogNot (ops : Array Oper) (k t : Nat) : Bool := (ops.toList.take k).all fun o => o.dst != some t
theorem OgHead.outE {E : Nat → Nat → Prop} {t : Nat} {v : Value} (c : OgHead ops k a0 w0 E Φ a w) (h : ogNot ops k t = true) (hv : a0.eval (.tmp t) = v) : a.eval (.tmp t) = v := by
 have := c.out t (by
  intro j o hj hjo hd
  unfold ogNot at h
  rw [List.all_eq_true] at h
  have h1 := h o (by
   rw [List.mem_iff_getElem?]
   exact ⟨j, by rw [List.getElem?_take_of_lt hj]; simpa using hjo⟩)
  rw [hd] at h1
  simp at h1)
 rw [← hv]
 simp only [Act.eval, Array.getD_eq_getD_getElem?, this]
theorem OgEnd.outE {E : Nat → Nat → Prop} {t : Nat} {v : Value} (c : OgEnd ops a0 w0 E Φ a w) (h : ogNot ops ops.size t = true) (hv : a0.eval (.tmp t) = v) : a.eval (.tmp t) = v := by
 have := c.out t (by
  intro j o hjo hd
  unfold ogNot at h
  rw [List.all_eq_true] at h
  have hj := (Array.getElem?_eq_some_iff.1 hjo).1
  have h1 := h o (by
   rw [List.mem_iff_getElem?]
   exact ⟨j, by rw [List.getElem?_take_of_lt hj]; simpa using hjo⟩)
  rw [hd] at h1
  simp at h1)
 rw [← hv]
 simp only [Act.eval, Array.getD_eq_getD_getElem?, this]
end
section
variable {t : Nat} {c d : Code} {a : Act} {w : World} {Q : Exit → Act → World → Prop}
theorem cond_t (hc : a.eval (.tmp t) = .bool true) (h : c.wp Tryz.prog Q a w) : (Code.cond (.tmp t) c d).wp Tryz.prog Q a w :=
 wp_cond_split hc (fun _ => h) (fun e => by cases e)
theorem cond_f (hc : a.eval (.tmp t) = .bool false) (h : d.wp Tryz.prog Q a w) : (Code.cond (.tmp t) c d).wp Tryz.prog Q a w :=
 wp_cond_split hc (fun e => by cases e) (fun _ => h)
end
section
variable {a : Act} {w : World} {dst : Option Nat} {T T' ty : TypeId} {ps : String} {af : Array Edge} {gd : Option (Nat × Bool)} {x y : Operand} {k k2 : IntKind} {n j c : Nat}
theorem ni_shr (j : Nat) (hx : a.eval x = .int k n) (hy : a.eval y = .int k2 j) (h1 : (j : Int) ≤ k.bits) (hc : 2 ^ j = c) : (execOp a.eval ⟨dst, .binOp .shr T x y T', ty, ps, af, gd⟩).run Tryz.prog w = .ok (.value (.int k ((n / c : Nat) : Int))) w := by
 refine ei_shr hx hy (by omega) h1 ?_
 subst hc
 rw [Int.toNat_natCast]
 push_cast
 rfl
theorem ni_rem (j : Nat) (hx : a.eval x = .int k n) (hy : a.eval y = .int k j) (hj : j ≠ 0) : (execOp a.eval ⟨dst, .binOp .rem T x y T', ty, ps, af, gd⟩).run Tryz.prog w = .ok (.value (.int k ((n % j : Nat) : Int))) w := by
 refine ei_rem hx hy (by omega) ?_
 rw [Int.tmod_eq_emod_of_nonneg (by omega)]
 push_cast
 rfl
theorem ni_rem' {z : Nat} (j : Nat) (hx : a.eval x = .int k n) (hy : a.eval y = .int k j) (hj : j ≠ 0) (hz : n % j = z) : (execOp a.eval ⟨dst, .binOp .rem T x y T', ty, ps, af, gd⟩).run Tryz.prog w = .ok (.value (.int k ((z : Nat) : Int))) w := hz ▸ ni_rem j hx hy hj
end
theorem ret_cell {N t k g : Nat} {T : TypeId} {l : List (Nat × Value)} {fn : Func} {R : Ending → World → Prop} {a : Act} {w : World} {cs : Array Value} {e : TypeId} {fr : Nat × Nat} (h : Ev N l a) (hr : fn.results = #[.cell t T]) (hA : Ag T k) (hv : a.eval (.tmp t) = pt g 0) (hg : w.heap[g]? = some (.cells cs e fr)) (hsz : cs.size = k) (hR : R (.returned (.agg cs)) w) : bodyPost Tryz.prog fn R .ret a w := by
 refine bodyPost_ret (v := .agg cs) ?_ h.defers hR
 have hl := run_load_blk (P := Tryz.prog) (w := w) T hA.agg hA.size hg hsz
 have hv' : a.tmps.getD t undef = pt g 0 := hv
 rw [Array.getD_eq_getD_getElem?] at hv'
 simp [results, hr, hv', asAddr, hl]
theorem look_mem' (ks : List Nat) (t : Nat) (v : Value) (l : List (Nat × Value)) (h : (l.filter fun q => ks.contains q.1).lookup t = some v) : t ∈ ks := by
 have := List.mem_filter.1 (look_mem h)
 simpa using this.2
theorem ogst_eq {ops : Array Oper} {B : Nat} {E : Nat → Nat → Prop} : ∀ (vs : List Value) (n : Nat), OgSt ops B E n (vs.map .eq)
 | [], _ => trivial
 | _ :: r, n => ogst_eq r (n + 1)

section
variable {ops : Array Oper} {a0 : Act} {w0 w00 w : World} {E : Nat → Nat → Prop} {Φ : Nat → Value → World → Prop} {i j t N B k : Nat} {Q : Exit → Act → World → Prop} {dst : Option Nat} {ty : TypeId} {ps : String} {af : Array Edge} {v : Value} {l : List (Nat × Value)} {m : List Bk} {M : Nat → Prop} {As : List Asr}
theorem OgCtx.o {a : Act} (c : OgCtx ops a0 w0 E Φ i a w) (hv : a0.eval (.tmp t) = v) (h : ogOut ops i t = true := by decide +kernel) : a.eval (.tmp t) = v := c.outE h hv
theorem OgCtx.s {a : Act} (c : OgCtx ops a0 w0 E Φ i a w) (j : Nat) {o : Oper} (hj : ops[j]? = some o) (h : ahead ops i j = true := by decide +kernel) : Φ j (slotOf a o) w := c.slot j o h hj
theorem OgCtx.e {a : Act} (c : OgCtx ops a0 w0 E (asrAt As B) i a w) {j : Nat} (hd : (ops[j]?).bind (·.dst) = some t) (hA : As[j]? = some (.eq v)) (h : ahead ops i j = true) : a.eval (.tmp t) = v := by
 cases ho : ops[j]? with
 | none => rw [ho] at hd; cases hd
 | some o =>
  rw [ho] at hd
  have hd : o.dst = some t := hd
  have := c.slot j o h ho
  unfold asrAt slotOf at this
  rw [hA, hd] at this
  exact this
theorem asr_eq (hA : As[i]? = some (.eq v)) : asrAt As B i v w := by unfold asrAt; rw [hA]; rfl
theorem qm (hv : a0.eval (.tmp t) = v) (hi : As[i]? = some (.eq v) := by rfl) (h : ogOut ops i t = true := by decide +kernel) : ∀ a w, OgCtx ops a0 w0 E (asrAt As B) i a w → Oper.wp Tryz.prog ⟨dst, .move (.tmp t), ty, ps, af, none⟩ a w (OgPost E (asrAt As B) i ⟨dst, .move (.tmp t), ty, ps, af, none⟩ a w) Q :=
 fun _ _ c => og_val (ex_mv (c.outE h hv)) (asr_eq hi)
theorem qn (j : Nat) {p : Addr} (hi : As[i]? = some (.eq (.pointer (some p))) := by rfl) (hd : (ops[j]?).bind (·.dst) = some t := by rfl) (hj : As[j]? = some (.eq (.pointer (some p))) := by rfl) (h : ahead ops i j = true := by decide +kernel) : ∀ a w, OgCtx ops a0 w0 E (asrAt As B) i a w → Oper.wp Tryz.prog ⟨dst, .nilCheck (.tmp t), ty, ps, af, none⟩ a w (OgPost E (asrAt As B) i ⟨dst, .nilCheck (.tmp t), ty, ps, af, none⟩ a w) Q :=
 fun _ _ c => og_val (ex_nc (c.e hd hj h)) (asr_eq hi)
theorem qf (j : Nat) {T k o g x y : Nat} (hf : foF T k = some o := by rfl) (hd : (ops[j]?).bind (·.dst) = some t := by rfl) (hj : As[j]? = some (.eq (pt g x)) := by rfl) (hi : As[i]? = some (.eq (pt g y)) := by rfl) (hx : x + o = y := by rfl) (h : ahead ops i j = true := by decide +kernel) : ∀ a w, OgCtx ops a0 w0 E (asrAt As B) i a w → Oper.wp Tryz.prog ⟨dst, .fieldAddr T (.tmp t) k, ty, ps, af, none⟩ a w (OgPost E (asrAt As B) i ⟨dst, .fieldAddr T (.tmp t) k, ty, ps, af, none⟩ a w) Q :=
 by
 intro a w c
 have hf := fo hf
 unfold Oper.wp
 rw [ex_fo (c.e hd hj h) hf hx]
 exact ⟨_, rfl, Only.refl _ _, asr_eq hi⟩
theorem ql (j : Nat) {T x : Nat} (hL : Ld T) (Z : Sv N l m M w00 a0 w) (x' : Nat) {b : Bk} (hb : m[x']? = some b := by rfl) (hd : (ops[j]?).bind (·.dst) = some t := by rfl) (hj : As[j]? = some (.eq (pt b.g x)) := by rfl) (hi : As[i]? = some (.eq v) := by rfl) (hv : b.cs[x]? = some v := by rfl) (h : ahead ops i j = true := by decide +kernel) : ∀ a w1, OgCtx ops a0 w.drew (fun _ _ => False) (asrAt As B) i a w1 → Oper.wp Tryz.prog ⟨dst, .load T (.tmp t), ty, ps, af, none⟩ a w1 (OgPost (fun _ _ => False) (asrAt As B) i ⟨dst, .load T (.tmp t), ty, ps, af, none⟩ a w1) Q :=
 fun _ _ c => og_val (ex_ld (c.e hd hj h) hL (cell_of_heap ((Z.ogc c).at x' hb) hv)) (asr_eq hi)

theorem OgHead.o {a : Act} (c : OgHead ops k a0 w0 E Φ a w) (hv : a0.eval (.tmp t) = v) (h : ogNot ops k t = true := by decide +kernel) : a.eval (.tmp t) = v := c.outE h hv
theorem OgHead.s {a : Act} (c : OgHead ops k a0 w0 E Φ a w) (j : Nat) {o : Oper} (hj : ops[j]? = some o) (h : j < k := by decide +kernel) : Φ j (slotOf a o) w := c.slot j o h hj
theorem OgEnd.o {a : Act} (c : OgEnd ops a0 w0 E Φ a w) (hv : a0.eval (.tmp t) = v) (h : ogNot ops ops.size t = true := by decide +kernel) : a.eval (.tmp t) = v := c.outE h hv
theorem Sv.ogk {a : Act} {w1 : World} (h : Sv N l m M w0 a0 w) (c : OgHead ops k a0 w.drew (fun _ _ => False) Φ a w1) (ks : List Nat) (hd : (ks.all (ogNot ops k)) = true := by decide +kernel) : Sv N (l.filter fun q => ks.contains q.1) m M w0 a w1 := (h.ogh c).slot ⟨c.size.trans h.ev.size, c.defers.trans h.ev.defers, fun t v hv => c.outE (List.all_eq_true.1 hd t (look_mem' ks t v l hv)) (h.ev.look t v (look_filter ks t v l hv))⟩
theorem Sv.kS {a : Act} (h : Sv N l m M w00 a w) (c : OgHead ops k a0 w0 E (asrAt As B) a w) (j : Nat) (hd : (ops[j]?).bind (·.dst) = some t) (hA : As[j]? = some (.eq v)) (hj : j < k := by decide) : Sv N ((t, v) :: l) m M w00 a w := h.know (by
 cases ho : ops[j]? with
 | none => rw [ho] at hd; cases hd
 | some o =>
  rw [ho] at hd
  have hd : o.dst = some t := hd
  have := c.slot j o hj ho
  unfold asrAt slotOf at this
  rw [hA, hd] at this
  exact this)
theorem qg {id : Nat} {k : List Oper} (x : Nat) (vs : List Value) (Z : Sv N l m M w0 a0 w) (hop : OgOps Tryz.prog k.toArray Q a0 w.drew (fun _ _ => False) (asrAt (vs.map .eq) w.heap.size) 0 (k.take x))
 (hend : ∀ a1 w1, OgHead k.toArray x a0 w.drew (fun _ _ => False) (asrAt (vs.map .eq) w.heap.size) a1 w1 → Below w.heap.size w w1 → wpList Tryz.prog k.toArray Q (k.drop x) a1 w1) (hok : ogOk k.toArray = true := by kernel_rfl) (ht : ogTail k.toArray x = true := by kernel_rfl) (hml : x ≤ k.length := by simp)
 (hfit : ogFit k.toArray (vs.map .eq) N = true := by kernel_rfl) (hm : Tryz.prog.follows .mixedOrders = true := by kernel_rfl) : (Code.region id k.toArray true).wp Tryz.prog Q a0 w :=
 wp_region_og1 x _ hm hok ht hml hfit Z.ev.size (ogst_eq vs 0) hop hend
end
structure Ky where
 method : ByteArray
 uri : ByteArray
 iv : ByteArray
 format : ByteArray
 versions : ByteArray
structure Mp where
 uri : ByteArray
 limit : Nat
 offset : Nat
def Ky.cells (k : Ky) : Array Value := #[.string k.method, .string k.uri, .string k.iv, .string k.format, .string k.versions]
def Mp.cells (m : Mp) : Array Value := #[.string m.uri, .int .i64 (m.limit : Int), .int .i64 (m.offset : Int)]
def KeyOk (k : Ky) : Prop := k = ⟨⟨#[78, 79, 78, 69]⟩, ⟨#[]⟩, ⟨#[]⟩, ⟨#[]⟩, ⟨#[]⟩⟩ ∨ (∃ u, IsUri u ∧ k = ⟨⟨#[65, 69, 83, 45, 49, 50, 56]⟩, u, ⟨#[]⟩, ⟨#[]⟩, ⟨#[]⟩⟩) ∨
 ∃ u a b c, IsUri u ∧ a < 4294967296 ∧ b < 9 ∧ c < 9 ∧ k = ⟨⟨#[83, 65, 77, 80, 76, 69, 45, 65, 69, 83]⟩, u, ⟨#[48, 120]⟩ ++ dec a, ⟨#[99, 111, 109, 46, 102]⟩ ++ dec b, ⟨#[49, 47]⟩ ++ dec c⟩
def MapOk (m : Mp) : Prop := IsUri m.uri ∧ (m.limit = 0 ∧ m.offset = 0 ∨ 1 ≤ m.limit ∧ m.limit ≤ 4294967296 ∧ m.offset < 4294967296)
def PtrTo (T : TypeId) (o : Option (Array Value)) (v : Value) (w : World) : Prop := (o = none ∧ v = .pointer none) ∨ ∃ g cs, o = some cs ∧ v = pt g 0 ∧ w.heap[g]? = some (.cells cs T (0, 0))
def OneOf1 (T : TypeId) (o : Option (Array Value)) (v : Value) (w : World) : Prop := (o = none ∧ v = .slice none 0 0) ∨ ∃ g cs, o = some cs ∧ v = .slice (some ⟨g, 0, none⟩) 1 1 ∧ w.heap[g]? = some (.cells cs T (0, 0))
section
variable {T : TypeId} {o : Option (Array Value)} {v : Value} {w w' : World} {ts : List TypeId}
theorem PtrTo.nil : PtrTo T none (.pointer none) w := .inl ⟨rfl, rfl⟩
theorem PtrTo.new {g : Nat} {cs : Array Value} (h : w.heap[g]? = some (.cells cs T (0, 0))) : PtrTo T (some cs) (pt g 0) w := .inr ⟨g, cs, rfl, rfl, h⟩
theorem PtrTo.keep (h : PtrTo T o v w) (hb : Below w.heap.size w w') : PtrTo T o v w' := by
 rcases h with h | ⟨g, cs, h1, h2, h3⟩
 ·exact .inl h
 ·exact .inr ⟨g, cs, h1, h2, hp_below h3 hb⟩
theorem PtrTo.ty (h : PtrTo T o v w) (hb : TyOnly ts w w') (ht : (ts.all fun u => u != T) = true) : PtrTo T o v w' := by
 rcases h with h | ⟨g, cs, h1, h2, h3⟩
 ·exact .inl h
 ·exact .inr ⟨g, cs, h1, h2, hb.keep h3 ht⟩
theorem OneOf1.nil : OneOf1 T none (.slice none 0 0) w := .inl ⟨rfl, rfl⟩
theorem OneOf1.new {g : Nat} {cs : Array Value} (h : w.heap[g]? = some (.cells cs T (0, 0))) : OneOf1 T (some cs) (.slice (some ⟨g, 0, none⟩) 1 1) w := .inr ⟨g, cs, rfl, rfl, h⟩
theorem OneOf1.keep (h : OneOf1 T o v w) (hb : Below w.heap.size w w') : OneOf1 T o v w' := by
 rcases h with h | ⟨g, cs, h1, h2, h3⟩
 ·exact .inl h
 ·exact .inr ⟨g, cs, h1, h2, hp_below h3 hb⟩
theorem OneOf1.ty (h : OneOf1 T o v w) (hb : TyOnly ts w w') (ht : (ts.all fun u => u != T) = true) : OneOf1 T o v w' := by
 rcases h with h | ⟨g, cs, h1, h2, h3⟩
 ·exact .inl h
 ·exact .inr ⟨g, cs, h1, h2, hb.keep h3 ht⟩
end
theorem cv_uint32_int (n : Int) {z : Int} (h : IntKind.i64.wrap n = z) : Cv 23 3 (.int .u32 n) (.int .i64 z) := by subst h; intro w; go_simp
theorem cv_uint32_int64 (n : Int) {z : Int} (h : IntKind.i64.wrap n = z) : Cv 23 2 (.int .u32 n) (.int .i64 z) := by subst h; intro w; go_simp
theorem cv_uint32_uint64 (n : Int) {z : Int} (h : IntKind.u64.wrap n = z) : Cv 23 24 (.int .u32 n) (.int .u64 z) := by subst h; intro w; go_simp
theorem OneOf1.form {T : TypeId} {o : Option (Array Value)} {v : Value} {w : World} (h : OneOf1 T o v w) : ∃ p n c, v = .slice p n c := by
 rcases h with ⟨_, rfl⟩ | ⟨g, cs, _, rfl, _⟩ <;> exact ⟨_, _, _, rfl⟩
theorem PtrTo.form {T : TypeId} {o : Option (Array Value)} {v : Value} {w : World} (h : PtrTo T o v w) : ∃ p, v = .pointer p := by
 rcases h with ⟨_, rfl⟩ | ⟨g, cs, _, rfl, _⟩ <;> exact ⟨_, rfl⟩
structure Sm where
 title : ByteArray
 uri : ByteArray
 e : Nat
 limit : Nat
 offset : Nat
 key : Option Ky
 map : Option Mp
 disc : Bool
 date : ByteArray
def DateOk (d : ByteArray) : Prop := d = ⟨#[]⟩ ∨ ∃ y, 10 ≤ y ∧ y < 90 ∧ d = ⟨#[50, 48]⟩ ++ dec y ++ ⟨#[45, 48, 49, 45, 48, 50, 84, 48, 51, 58, 48, 52, 58, 48, 53, 46, 54, 55, 56, 43, 48, 49, 58, 48, 48]⟩
structure SegOk (s : Sm) : Prop where
 title : Word 20 s.title
 uri : IsUri s.uri
 e : s.e < 160
 part : s.limit = 0 ∧ s.offset = 0 ∨ 1 ≤ s.limit ∧ s.limit ≤ 4294967296 ∧ s.offset < 4294967296
 key : ∀ k, s.key = some k → KeyOk k
 map : ∀ m, s.map = some m → MapOk m
 date : DateOk s.date
abbrev Sx := Sm × Value × Value
def Sx.cells (x : Sx) : Array Value := #[.string x.1.title, .string x.1.uri, .int .i64 (x.1.e : Int), .int .i64 (x.1.limit : Int), .int .i64 (x.1.offset : Int), x.2.1, x.2.2, .bool x.1.disc, .string x.1.date]
def Sx.list (x : Sx) : List Value := [.string x.1.title, .string x.1.uri, .int .i64 (x.1.e : Int), .int .i64 (x.1.limit : Int), .int .i64 (x.1.offset : Int), x.2.1, x.2.2, .bool x.1.disc, .string x.1.date]
def Sx.At (x : Sx) (w : World) : Prop := PtrTo 106 (x.1.key.map Ky.cells) x.2.1 w ∧ PtrTo 109 (x.1.map.map Mp.cells) x.2.2 w
theorem PtrTo.one {T : TypeId} {o : Option (Array Value)} {v : Value} {w : World} (h : PtrTo T o v w) : v.oneCell' = true := by
 rcases h with ⟨_, rfl⟩ | ⟨g, cs, _, rfl, _⟩ <;> rfl
theorem Sx.At.one {x : Sx} {w : World} (h : x.At w) : ∀ u ∈ x.cells.toList, u.oneCell' = true := by
 intro u hu
 simp only [Sx.cells, List.mem_cons, List.not_mem_nil, or_false] at hu
 rcases hu with rfl | rfl | rfl | rfl | rfl | rfl | rfl | rfl | rfl <;> first | rfl | exact h.1.one | exact h.2.one
theorem Sx.At.keep {x : Sx} {w w' : World} (h : x.At w) (hb : Below w.heap.size w w') : x.At w' := ⟨h.1.keep hb, h.2.keep hb⟩
theorem Sx.At.ty {x : Sx} {w w' : World} {ts : List TypeId} (h : x.At w) (hb : TyOnly ts w w') (ht : (ts.all fun u => u != 106 && u != 109) = true) : x.At w' := by
 rw [List.all_eq_true] at ht
 exact ⟨h.1.ty hb (by rw [List.all_eq_true]; intro u hu; have := ht u hu; simp only [Bool.and_eq_true] at this; exact this.1), h.2.ty hb (by rw [List.all_eq_true]; intro u hu; have := ht u hu; simp only [Bool.and_eq_true] at this; exact this.2)⟩
structure Hv (m : List Bk) (M : Nat → Prop) (w0 w : World) : Prop where
 hp : ∀ b ∈ m, w.heap[b.g]? = some (.cells b.cs b.t (0, 0))
 nd : m.Pairwise fun b c => b.g ≠ c.g
 wr : ∀ b ∈ m, b.o = true → M b.g ∨ w0.heap.size ≤ b.g
 only : Only M w0 w
theorem Sv.hv {N : Nat} {l : List (Nat × Value)} {m : List Bk} {M : Nat → Prop} {w0 w : World} {a : Act} (h : Sv N l m M w0 a w) : Hv m M w0 w := ⟨h.hp, h.nd, h.wr, h.only⟩
theorem Hv.sv {N : Nat} {l : List (Nat × Value)} {m : List Bk} {M : Nat → Prop} {w0 w : World} {a : Act} (h : Hv m M w0 w) (hE : Ev N l a) : Sv N l m M w0 a w := ⟨hE, h.hp, h.nd, h.wr, h.only⟩
theorem Hv.at {m : List Bk} {M : Nat → Prop} {w0 w : World} (h : Hv m M w0 w) (i : Nat) {b : Bk} (hi : m[i]? = some b) : w.heap[b.g]? = some (.cells b.cs b.t (0, 0)) := h.hp b (List.mem_of_getElem? hi)
def strL (s : ByteArray) : List Value := [.string s]
theorem strL_one (s : ByteArray) : ∀ u ∈ strL s, u.oneCell' = true := by
 intro u hu
 rw [List.mem_singleton.1 hu]
 rfl
theorem ptr_isSome {T : TypeId} {o : Option (Array Value)} {v : Value} {w : World} (h : (o = none ∧ v = .pointer none) ∨ ∃ g cs, o = some cs ∧ v = pt g 0 ∧ w.heap[g]? = some (.cells cs T (0, 0))) : ∃ p : Option Addr, v = .pointer p ∧ p.isSome = o.isSome := by
 rcases h with ⟨rfl, rfl⟩ | ⟨g, cs, rfl, rfl, _⟩ <;> exact ⟨_, rfl, rfl⟩
structure Sli (T e k bytes : Nat) : Prop where
 u : Tryz.prog.underlying T = some (.slice e)
 i : ∃ (i : TypeInfo) (z : Value), Tryz.prog.info? e = some i ∧ i.zero = some z ∧ i.size = k ∧ i.bytes = bytes ∧ z.cells.size = k
theorem Sli.of {T e k bytes : Nat} {z : Value} (hu : Tryz.prog.underlying T = some (.slice e)) (h : (Tryz.prog.info? e).map (fun i => (i.zero, i.size, i.bytes)) = some (some z, k, bytes)) (hz : z.cells.size = k) : Sli T e k bytes := by
 obtain ⟨i, hi, h0, h1, h2⟩ := info_parts h
 exact ⟨hu, i, z, hi, h0, h1, h2, hz⟩
theorem flat_app {α : Type} (f : α → List Value) (L M : List α) : flat f (L ++ M) = flat f L ++ flat f M := by simp [flat]
section
variable {N : Nat} {l : List (Nat × Value)} {m : List Bk} {M : Nat → Prop} {w0 w w' : World} {a : Act} {ops : Array Oper} {rest : List Oper} {o : Oper} {Q : Exit → Act → World → Prop} {d : Nat} {v u : Value} {x y : Operand} {ty : TypeId} {ps : String} {af : Array Edge} {dst : Option Nat} {gd : Option (Nat × Bool)}
theorem sv_append {α : Type} {f : α → List Value} {T e k bytes n : Nat} {L : List α} {s t gs : Nat} {cs : Array Value} (hT : Sli T e k bytes) (hk : 0 < k) (hf : ∀ x, (f x).length = k) (ys : List α) (h : Sv N l m M w0 a w) (hs : a.eval (.tmp s) = v) (hx : a.eval (.tmp t) = .slice (some ⟨gs, 0, none⟩) n n)
  (hg : w.heap[gs]? = some (.cells cs e (0, 0))) (hcs : cs.toList = flat f ys) (hn : ys.length = n) (h1 : ∀ y ∈ ys, ∀ u ∈ f y, u.oneCell' = true) (hown : Own f e k w w0.heap.size v L) (hm : (m.all fun b => b.t != e) = true) (hd : d < N) (hlen : (L.length + n) * bytes ≤ 140737488355328) (hlen2 : L.length + n ≤ 1000000000)
  (hK : ∀ a' v' w', TyOnly [e] w w' → Own f e k w' w0.heap.size v' (L ++ ys) → Sv N ((d, v') :: l) m M w0 a' w' → wpList Tryz.prog ops Q rest a' w') :
  wpList Tryz.prog ops Q (⟨some d, .call { callee := .builtin .append, args := #[.tmp s, .tmp t], argTypes := #[T, T] }, ty, ps, af, none⟩ :: rest) a w := by
 obtain ⟨i, z, hi, hz, hsize, hby, hzs⟩ := hT.i
 have hfl : (flat f ys).length = n * k := by rw [flat_length hf, hn]
 refine wpList_append_own_at (P := Tryz.prog) (w := w) rfl (.tmp s) (.tmp t) T rfl w0.heap.size e i z k bytes hT.u hi hz hsize hby hzs hk v L.length (flat f L) hs hown ⟨gs, 0, none⟩ n n (flat f ys) hx hfl ?_ ?_ (by unfold maxLen; omega) hlen h.size ?_
 ·intro j u hu
  rw [add_block, Nat.zero_add]
  simp only [World.cell?, hg]
  rw [← hcs] at hu
  simpa using hu
 ·intro u hu
  unfold flat at hu
  obtain ⟨b, hb, hub⟩ := List.mem_flatten.1 hu
  obtain ⟨y, hy, rfl⟩ := List.mem_map.1 hb
  exact h1 y hy u hub
 ·intro v' w' h2 h3 _ h5
  have hon : Only (fun g => v.ownBlock = some g) w w' := Only.of_grown h3 fun g hg => hg
  have hel : ∀ g, v.ownBlock = some g → ∃ cur, w.heap[g]? = some (.cells cur e (0, 0)) := hown.elem
  have hown' : Own f e k w' w0.heap.size v' (L ++ ys) := by
   unfold Own
   rw [flat_app, List.length_append, hn]
   exact h2
  have hty : TyOnly [e] w w' := .of_only hon fun g cs' e' fr' hg h1 => by
   obtain ⟨cur, hc⟩ := hel g hg
   rw [hc] at h1
   injection h1 with h1
   injection h1 with _ h2 _
   simp [h2]
  refine hK _ v' w' hty hown' ((h.slot (h.ev.set hd)).go hon ?_ ?_)
  ·intro b hb hv
   obtain ⟨cur, hc⟩ := hel b.g hv
   have h6 := h.hp b hb
   rw [hc] at h6
   injection h6 with h6
   injection h6 with _ h7 _
   rw [List.all_eq_true] at hm
   have := hm b hb
   rw [← h7] at this
   simp at this
  ·intro g hv hlt
   have := (hown.block_lt g hv).1
   omega
theorem ex_ia {T E k s n c i : Nat} {p : Addr} {kk : IntKind} (hu : Tryz.prog.underlying T = some (.slice E)) (hz : ∀ w, (sizeOf E).run Tryz.prog w = .ok k w) (hs : a.eval (.tmp s) = .slice (some p) n c) (hi : a.eval x = .int kk (i : Int)) (hlt : i < n) :
  (execOp a.eval ⟨dst, .indexAddr T (.tmp s) x, ty, ps, af, gd⟩).run Tryz.prog w = .ok (.value (.pointer (some (p.add (i * k))))) w := by
 have hun := run_underlying (P := Tryz.prog) hu
 simp only [execOp, hs, hi]
 refine run_andValue ?_
 simp [Instr.indexAt, asIntOf, hun, hlt, hz]
theorem ex_ia1 {T E s n c i g : Nat} {kk : IntKind} (hu : Tryz.prog.underlying T = some (.slice E)) (hz : ∀ w, (sizeOf E).run Tryz.prog w = .ok 1 w) (hs : a.eval (.tmp s) = .slice (some ⟨g, 0, none⟩) n c) (hi : a.eval x = .int kk (i : Int)) (hlt : i < n) :
  (execOp a.eval ⟨dst, .indexAddr T (.tmp s) x, ty, ps, af, gd⟩).run Tryz.prog w = .ok (.value (pt g i)) w := by
 have h := ex_ia (dst := dst) (ty := ty) (ps := ps) (af := af) (gd := gd) (w := w) hu hz hs hi hlt
 rw [add_block, Nat.zero_add, Nat.mul_one] at h
 exact h
theorem sv_elem {α : Type} {f : α → List Value} {T E k s i B n d1 d2 : Nat} {sv : Value} {L : List α} {x : α} {ty1 ty2 : TypeId} {ps1 ps2 : String} {af1 af2 : Array Edge} (hA : Ag E k) (hu : Tryz.prog.underlying T = some (.slice E)) (hf : ∀ x, (f x).length = k) (hk : 0 < k) (h : Sv N l m M w0 a w) (ho : Own f E k w B sv L) (hx : L[n]? = some x) (hs : a.eval (.tmp s) = sv) (hi : a.eval (.tmp i) = .int .i64 n) (h1 : d1 < N) (h2 : d2 < N)
  (hK : ∀ a', Sv N ((d2, .agg (f x).toArray) :: l) m M w0 a' w → wpList Tryz.prog ops Q rest a' w) (hfr : (l.all fun p => p.1 != d1) = true) (hne : d1 ≠ d2) :
  wpList Tryz.prog ops Q (⟨some d1, .indexAddr T (.tmp s) (.tmp i), ty1, ps1, af1, none⟩ :: ⟨some d2, .load E (.tmp d1), ty2, ps2, af2, none⟩ :: rest) a w :=
 ev_elem hA hu hf hk h.ev ho hx hs hi h1 h2 (fun a' h' => hK a' (h.slot h')) hfr hne
theorem ex_len' {T e : Nat} (hu : Tryz.prog.underlying T = some (.slice e)) {v : Value} {n c : Nat} {p : Option Addr} (hx : a.eval x = v) (hv : v = .slice p n c) : (execOp a.eval ⟨dst, .call { callee := .builtin .len, args := #[x], argTypes := #[T] }, ty, ps, af, gd⟩).run Tryz.prog w = .ok (.value (.int .i64 n)) w := by
 subst hv
 simp only [execOp, resolve, List.map_toArray, List.map_cons, List.map_nil, hx]
 go_simp
theorem ex_lenO {α : Type} {f : α → List Value} {T e k B : Nat} {L : List α} (hu : Tryz.prog.underlying T = some (.slice e)) (hx : a.eval x = v) (ho : Own f e k w B v L) : (execOp a.eval ⟨dst, .call { callee := .builtin .len, args := #[x], argTypes := #[T] }, ty, ps, af, gd⟩).run Tryz.prog w = .ok (.value (.int .i64 L.length)) w := by
 obtain ⟨A, c, hv, _⟩ := ho.shape
 exact ex_len' hu hx hv
end
section
variable {a : Act} {w : World} {dst : Option Nat} {T T' ty : TypeId} {ps : String} {af : Array Edge} {gd : Option (Nat × Bool)} {x y : Operand} {k : IntKind} {n m : Nat}
theorem ex_min {ats : Array TypeId} (hx : a.eval x = .int k n) (hy : a.eval y = .int k m) : (execOp a.eval ⟨dst, .call { callee := .builtin .min, args := #[x, y], argTypes := ats }, ty, ps, af, gd⟩).run Tryz.prog w = .ok (.value (.int k ((min n m : Nat) : Int))) w := by
 simp only [execOp, resolve, List.map_toArray, List.map_cons, List.map_nil, hx, hy]
 go_simp
 omega
theorem ex_max {ats : Array TypeId} (hx : a.eval x = .int k n) (hy : a.eval y = .int k m) : (execOp a.eval ⟨dst, .call { callee := .builtin .max, args := #[x, y], argTypes := ats }, ty, ps, af, gd⟩).run Tryz.prog w = .ok (.value (.int k ((max n m : Nat) : Int))) w := by
 simp only [execOp, resolve, List.map_toArray, List.map_cons, List.map_nil, hx, hy]
 go_simp
 omega
theorem ex_slh {E z c h : Nat} {A : Option Addr} (hu : Tryz.prog.underlying T = some (.slice E)) (hz : ∀ w, (sizeOf E).run Tryz.prog w = .ok z w) (hx : a.eval x = .slice A n c) (hy : a.eval y = .int k h) (hc : h ≤ c) :
  (execOp a.eval ⟨dst, .slice T x none (some y) none, ty, ps, af, gd⟩).run Tryz.prog w = .ok (.value (.slice A h c)) w := by
 have he : Tryz.prog.elem T = E := by simp [Program.elem, hu]
 have hu' : Tryz.prog.underlying T = some (.slice (Tryz.prog.elem T)) := by rw [he]; exact hu
 have h1 := run_slice_h (P := Tryz.prog) w T A n c hu' k (h : Int) (by omega) (by omega)
 rw [he, hz] at h1
 have h2 : (Instr.sliceAt T (.slice A n c) none (some (.int k (h : Int))) none).run Tryz.prog w = .ok (.slice A h c) w := by
  rw [run_sliceAt_slice (h := hu'), h1]
  have e : (if c = 0 then A else A.map fun x => x.add (0 * z)) = A := by
   split
   ·rfl
   ·cases A <;> simp [Addr.add]
  simp only [Result.andThen, sliced, Int.toNat_natCast, Nat.sub_zero, e]
 simp only [execOp, hx, hy, Option.map_some, Option.map_none]
 exact run_andValue h2
end
section
variable {a : Act} {w : World} {dst : Option Nat} {T T' ty : TypeId} {ps : String} {af : Array Edge} {gd : Option (Nat × Bool)} {x : Operand}
structure Eqp (T : Nat) : Prop where
 eq : ∀ w (o : Option Addr), (binOp .eql T (.pointer o) (.pointer none)).run Tryz.prog w = .ok (.bool o.isNone) w
 ne : ∀ w (o : Option Addr), (binOp .neq T (.pointer o) (.pointer none)).run Tryz.prog w = .ok (.bool o.isSome) w
structure Eqi (T : Nat) : Prop where
 eq : ∀ w, (binOp .eql T .nilIface .nilIface).run Tryz.prog w = .ok (.bool true) w
 ne : ∀ w, (binOp .neq T .nilIface .nilIface).run Tryz.prog w = .ok (.bool false) w
theorem ex_pe {o : Option Addr} (h : Eqp T) (hx : a.eval x = .pointer o) : (execOp a.eval ⟨dst, .binOp .eql T x (.const (.pointer none)) T', ty, ps, af, gd⟩).run Tryz.prog w = .ok (.value (.bool o.isNone)) w := by
 simp only [execOp, hx]
 simp [eqGuard, Act.eval, h.eq, Result.andThen]
theorem ex_pne {o : Option Addr} (h : Eqp T) (hx : a.eval x = .pointer o) : (execOp a.eval ⟨dst, .binOp .neq T x (.const (.pointer none)) T', ty, ps, af, gd⟩).run Tryz.prog w = .ok (.value (.bool o.isSome)) w := by
 simp only [execOp, hx]
 simp [eqGuard, Act.eval, h.ne, Result.andThen]
theorem ex_ine (h : Eqi T) (hx : a.eval x = .nilIface) : (execOp a.eval ⟨dst, .binOp .neq T x (.const .nilIface) T', ty, ps, af, gd⟩).run Tryz.prog w = .ok (.value (.bool false)) w := by
 simp only [execOp, hx]
 simp [eqGuard, Act.eval, h.ne, Result.andThen]
theorem cv_int_float64 (n : Int) : Cv 3 35 (.int .i64 n) (.float .f64 (floatOfInt .f64 n)) := by intro w; go_simp
end
section
variable {N : Nat} {l : List (Nat × Value)} {m : List Bk} {M : Nat → Prop} {w0 w w' : World} {a : Act} {ops : Array Oper} {rest : List Oper} {o : Oper} {Q : Exit → Act → World → Prop} {d gj gt : Nat} {b b' : Bool} {v u : Value} {x y p q : Operand} {T T' ty : TypeId} {ps : String} {af : Array Edge} {dst : Option Nat} {gd : Option (Nat × Bool)}
theorem sv_gon (h : Sv N l m M w0 a w) (hg : o.guard = some (gj, b)) (hgd : (ops[gj]?).bind (·.dst) = some gt) (ht : a.eval (.tmp gt) = .bool b) (hd : o.dst = some d) (hdN : d < N) (hr : (execOp a.eval o).run Tryz.prog w = .ok (.value v) w)
  (hK : ∀ a', Sv N ((d, v) :: l) m M w0 a' w → wpList Tryz.prog ops Q rest a' w) : wpList Tryz.prog ops Q (o :: rest) a w := ev_gon h.ev hg hgd ht hd hdN hr fun a' h' => hK a' (h.slot h')
theorem sv_g {p : Op} (h : Sv N l m M w0 a w) (ht : a.eval (.tmp gt) = .bool b) (hr : (execOp a.eval ⟨some d, p, ty, ps, af, some (gj, b)⟩).run Tryz.prog w = .ok (.value v) w) (hK : ∀ a', Sv N ((d, v) :: l) m M w0 a' w → wpList Tryz.prog ops Q rest a' w) (hgd : (ops[gj]?).bind (·.dst) = some gt := by rfl) (hdN : d < N := by decide) : wpList Tryz.prog ops Q (⟨some d, p, ty, ps, af, some (gj, b)⟩ :: rest) a w := sv_gon h rfl hgd ht rfl hdN hr hK
theorem sv_goff (h : Sv N l m M w0 a w) (hg : o.guard = some (gj, b)) (hgd : (ops[gj]?).bind (·.dst) = some gt) (ht : a.eval (.tmp gt) = .bool b') (hne : (b' == b) = false) (hd : o.dst = some d) (hdN : d < N)
  (hK : ∀ a', Sv N ((d, undef) :: l) m M w0 a' w → wpList Tryz.prog ops Q rest a' w) : wpList Tryz.prog ops Q (o :: rest) a w := ev_goff h.ev hg hgd ht hne hd hdN fun a' h' => hK a' (h.slot h')
theorem sv_gcallq {f : FuncId} {args : Array Value} (h : Sv N l m M w0 a w) (hg : o.guard = some (gj, b)) (hgd : (ops[gj]?).bind (·.dst) = some gt) (ht : a.eval (.tmp gt) = .bool b) (hd : o.dst = some d) (hdN : d < N) (hr : (execOp a.eval o).run Tryz.prog w = .ok (.enter f args) w) (hc : Calls Tryz.prog f args w fun e w' => e = .returned v ∧ w' = w)
  (hK : ∀ a', Sv N ((d, v) :: l) m M w0 a' w → wpList Tryz.prog ops Q rest a' w) : wpList Tryz.prog ops Q (o :: rest) a w :=
 ev_gcall (S := fun u w' => u = v ∧ w' = w) h.ev hg hgd ht hd hdN hr (Calls.mono hc fun e w' ⟨he, hb⟩ => ⟨v, he, rfl, hb⟩) fun a' u w' Z h' => by obtain ⟨rfl, rfl⟩ := Z; exact hK a' (h.slot h')
theorem ex_pickT (hc : a.eval x = .bool true) (hp : a.eval p = v) : (execOp a.eval ⟨dst, .pick x p q, ty, ps, af, gd⟩).run Tryz.prog w = .ok (.value v) w := by
 simp only [execOp, hc, hp]; rfl
theorem ex_pickF (hc : a.eval x = .bool false) (hq : a.eval q = v) : (execOp a.eval ⟨dst, .pick x p q, ty, ps, af, gd⟩).run Tryz.prog w = .ok (.value v) w := by
 simp only [execOp, hc, hq]; rfl
variable {i j : Nat}
theorem ef_lss (hx : a.eval x = .float .f64 i) (hy : a.eval y = .float .f64 j) (hz : (FloatKind.f64.format.order i j == some .lt) = b) : (execOp a.eval ⟨dst, .binOp .lss T x y T', ty, ps, af, gd⟩).run Tryz.prog w = .ok (.value (.bool b)) w := by
 subst hz; simp only [execOp, hx, hy]; rfl
theorem ef_neq (hx : a.eval x = .float .f64 i) (hy : a.eval y = .float .f64 j) (hz : (FloatKind.f64.format.order i j != some .eq) = b) : (execOp a.eval ⟨dst, .binOp .neq T x y T', ty, ps, af, gd⟩).run Tryz.prog w = .ok (.value (.bool b)) w := by
 subst hz; simp only [execOp, hx, hy]; rfl
theorem ef_eql (hx : a.eval x = .float .f64 i) (hy : a.eval y = .float .f64 j) (hz : (FloatKind.f64.format.order i j == some .eq) = b) : (execOp a.eval ⟨dst, .binOp .eql T x y T', ty, ps, af, gd⟩).run Tryz.prog w = .ok (.value (.bool b)) w := by
 subst hz; simp only [execOp, hx, hy]; rfl
theorem made_one (z : Value) (n : Nat) : madeCells #[z] (n * 1) = (List.replicate n z).toArray := by
 apply Array.ext'
 apply List.ext_getElem?
 intro i
 simp only [madeCells, Nat.mul_one, Array.toList_map, Array.toList_range, List.getElem?_map, List.getElem?_replicate, List.toList_toArray]
 by_cases h : i < n
 ·simp [h, List.getElem?_range, Nat.mod_one]
 ·simp [h]
theorem ex_make {e bytes n : Nat} {z : Value} {k : IntKind} (hT : Sli T e 1 bytes) (hz : (Tryz.prog.info? e).map (·.zero) = some (some z)) (hz1 : z.cells = #[z]) (hx : a.eval x = .int k n) (hb : bytes * n ≤ 281474976710656) (h63 : n ≤ 9223372036854775807) :
  (execOp a.eval ⟨dst, .makeSlice T x x, ty, ps, af, gd⟩).run Tryz.prog w = .ok (.value (.slice (some ⟨w.heap.size, 0, none⟩) n n)) (w.alloc (.cells (List.replicate n z).toArray e)) := by
 obtain ⟨i, z', hi, hzi, hsize, hby, hzs⟩ := hT.i
 rw [hi, Option.map_some, hzi] at hz
 obtain rfl := Option.some.inj (Option.some.inj hz)
 have hb' : ((bytes * n : Nat) : Int) ≤ 281474976710656 := by omega
 rw [Int.natCast_mul] at hb'
 have hr := run_make (P := Tryz.prog) w T e i z' hT.u hi hzi k k (n : Int) (n : Int) (by omega) (Int.le_refl _) (by rw [hby]; exact hb') (by omega)
 rw [hsize, hz1, Int.toNat_natCast, made_one] at hr
 simp only [execOp, hx]
 exact run_andValue'' hr
end
section
variable {a : Act} {w : World} {dst : Option Nat} {T T' ty : TypeId} {ps : String} {af : Array Edge} {gd : Option (Nat × Bool)} {x y z : Operand} {k : IntKind} {n m i j : Nat} {s : ByteArray}
theorem ex_slen {ats : Array TypeId} (hx : a.eval x = .string s) : (execOp a.eval ⟨dst, .call { callee := .builtin .len, args := #[x], argTypes := #[9] }, ty, ps, af, gd⟩).run Tryz.prog w = .ok (.value (.int .i64 s.size)) w := by
 simp only [execOp, resolve, List.map_toArray, List.map_cons, List.map_nil, hx]
 go_simp
theorem ex_sidx (hx : a.eval x = .string s) (hy : a.eval y = .int k i) (hi : i < s.size) : (execOp a.eval ⟨dst, .index 9 x y, ty, ps, af, gd⟩).run Tryz.prog w = .ok (.value (.int .u8 ((s[i]'hi).toNat : Int))) w := by
 simp only [execOp, hx, hy]
 go_simp
theorem ex_ssh (hx : a.eval x = .string s) (hy : a.eval y = .int k i) (hi : i ≤ s.size) : (execOp a.eval ⟨dst, .slice 9 x none (some y) none, ty, ps, af, gd⟩).run Tryz.prog w = .ok (.value (.string (s.extract 0 i))) w := by
 simp only [execOp, hx, hy, Option.map_some, Option.map_none]
 go_simp
theorem ex_ssl (hx : a.eval x = .string s) (hy : a.eval y = .int k i) (hi : i ≤ s.size) : (execOp a.eval ⟨dst, .slice 9 x (some y) none none, ty, ps, af, gd⟩).run Tryz.prog w = .ok (.value (.string (s.extract i s.size))) w := by
 simp only [execOp, hx, hy, Option.map_some, Option.map_none]
 go_simp
theorem ex_sslh (hx : a.eval x = .string s) (hy : a.eval y = .int k i) (hz : a.eval z = .int k j) (hi : i ≤ j) (hj : j ≤ s.size) : (execOp a.eval ⟨dst, .slice 9 x (some y) (some z) none, ty, ps, af, gd⟩).run Tryz.prog w = .ok (.value (.string (s.extract i j))) w := by
 simp only [execOp, hx, hy, hz, Option.map_some, Option.map_none]
 go_simp
end
def strOf : Value → ByteArray | .string s => s | _ => ⟨#[]⟩
theorem sv_elemS {N : Nat} {l : List (Nat × Value)} {m : List Bk} {M : Nat → Prop} {w0 w : World} {a : Act} {ops : Array Oper} {rest : List Oper} {Q : Exit → Act → World → Prop} {T E s i B n d1 d2 : Nat} {sv : Value} {L : List ByteArray} {x : ByteArray} {ty1 ty2 : TypeId} {ps1 ps2 : String} {af1 af2 : Array Edge} (hu : Tryz.prog.underlying T = some (.slice E)) (hz : ∀ w, (sizeOf E).run Tryz.prog w = .ok 1 w) (hL : Ld E) (h : Sv N l m M w0 a w) (ho : Own strL E 1 w B sv L) (hx : L[n]? = some x) (hs : a.eval (.tmp s) = sv) (hi : a.eval (.tmp i) = .int .i64 n) (h1 : d1 < N) (h2 : d2 < N)
  (hK : ∀ a' p, Sv N ((d2, .string x) :: (d1, .pointer p) :: l) m M w0 a' w → wpList Tryz.prog ops Q rest a' w) :
  wpList Tryz.prog ops Q (⟨some d1, .indexAddr T (.tmp s) (.tmp i), ty1, ps1, af1, none⟩ :: ⟨some d2, .load E (.tmp d1), ty2, ps2, af2, none⟩ :: rest) a w := by
 have hlt : n < L.length := (List.getElem?_eq_some_iff.1 hx).1
 obtain ⟨A, cap, hsv, hA0⟩ := ho.shape
 obtain ⟨g, rfl⟩ := hA0 (by intro e; rw [e] at hlt; simp at hlt)
 have hc := Own.cells_at (f := strL) (fun _ => rfl) Nat.one_pos (hsv ▸ ho) hlt (j := 0) Nat.one_pos
 rw [List.getElem?_eq_getElem hlt] at hx
 rw [Option.some.inj hx] at hc
 refine sv_run (v := .pointer (some ⟨g, n * 1, none⟩)) h rfl rfl h1 ?_ ?_
 ·have h3 := ex_ia (dst := some d1) (ty := ty1) (ps := ps1) (af := af1) (gd := none) (w := w) (i := n) hu hz (hs.trans hsv) hi hlt
  rw [add_block, Nat.zero_add] at h3
  exact h3
 ·intro a' h'
  refine sv_run (v := .string x) h' rfl rfl h2 (ex_ld (h'.get d1 look_eq) hL hc) fun a2 h2' => ?_
  exact hK a2 _ h2'
theorem sv_callp {N : Nat} {l : List (Nat × Value)} {m m' : List Bk} {M : Nat → Prop} {w0 w : World} {a : Act} {ops : Array Oper} {rest : List Oper} {o : Oper} {Q : Exit → Act → World → Prop} {d g i : Nat} {v : Value} {cs cs' : Array Value} {t : TypeId} {f : FuncId} {args : Array Value} (h : Sv N l m M w0 a w) (hg : o.guard = none) (hd : o.dst = some d) (hdN : d < N) (hr : (execOp a.eval o).run Tryz.prog w = .ok (.enter f args) w)
  (hb : m[i]? = some ⟨g, cs, t, true⟩) (hm : setV m i ⟨g, cs', t, true⟩ = some m') (hc : Calls Tryz.prog f args w fun e w' => e = .returned v ∧ w'.heap[g]? = some (.cells cs' t (0, 0)) ∧ Only (fun x => x = g) w w')
  (hK : ∀ a' w', TyOnly [t] w w' → Sv N ((d, v) :: l) m' M w0 a' w' → wpList Tryz.prog ops Q rest a' w') : wpList Tryz.prog ops Q (o :: rest) a w := by
 have hm := setV_ok hm
 refine ev_call (S := fun u w' => u = v ∧ w'.heap[g]? = some (.cells cs' t (0, 0)) ∧ Only (fun x => x = g) w w') h.ev hg hd hdN hr (Calls.mono hc fun e w' ⟨he, h1, h2⟩ => ⟨v, he, rfl, h1, h2⟩) fun a' u w' Z h' => ?_
 obtain ⟨rfl, h1, h2⟩ := Z
 refine hK a' w' (.of_set h2 (h.at i hb)) ((h.slot h').put hb hm h1 h2 (fun b _ hne e => hne e) ?_)
 intro g' e1 hlt
 subst e1
 rcases h.wr _ (List.mem_of_getElem? hb) rfl with h3 | h3
 ·exact h3
 ·exact absurd hlt (Nat.not_lt.2 h3)
theorem Own.st {α : Type} {f : α → List Value} {T e k B : Nat} {w : World} {v : Value} {L : List α} (ho : Own f e k w B v L) (Z : ∀ p n c, St T (.slice p n c)) : St T v := by
 obtain ⟨A, c, hv, _⟩ := ho.shape
 rw [hv]
 exact Z _ _ _
theorem Own.one' {α : Type} {f : α → List Value} {e k B : Nat} {w : World} {v : Value} {L : List α} (ho : Own f e k w B v L) : v.oneCell' = true := by
 obtain ⟨A, c, hv, _⟩ := ho.shape
 rw [hv]
 rfl
theorem Own.ty {α : Type} {f : α → List Value} {e k B : Nat} {w w' : World} {v : Value} {L : List α} {ts : List TypeId} (ho : Own f e k w B v L) (h : TyOnly ts w w') (he : (ts.all fun u => u != e) = true) : Own f e k w' B v L := h.own ho he
theorem U32s.old {w0 w : World} {A : Option Addr} {len : Nat} (h : U32s w0 A len) {m : List Bk} (hv : Hv m (fun _ => False) w0 w) : U32s w A len := h.below (hv.only.below (Nat.le_refl _) fun _ _ h => h)
section
variable {N : Nat} {l : List (Nat × Value)} {m : List Bk} {M : Nat → Prop} {w0 w : World} {a : Act} {ops : Array Oper} {rest : List Oper} {Q : Exit → Act → World → Prop} {d t : Nat} {v : Value} {ty : TypeId} {ps : String} {af : Array Edge} {dst : Option Nat} {gd : Option (Nat × Bool)} {p : Op}
def nthV {α : Type} : List α → Nat → Option α | [], _ => none | v :: _, 0 => some v | _ :: r, n + 1 => nthV r n
theorem nthV_get {α : Type} : ∀ (l : List α) (n : Nat) (v : α), nthV l n = some v → l[n]? = some v
 | [], _, _, h => by cases h
 | _ :: _, 0, _, h => h
 | _ :: r, n + 1, v, h => nthV_get r n v h
def ov (l : List (Nat × Value)) : Operand → Option Value | .tmp t => l.lookup t | .const v => some v | _ => none
def opV (l : List (Nat × Value)) : Op → Option Value
 | .move x => ov l x
 | .assign x => ov l x
 | .nilCheck x => match ov l x with | some v => (match v with | .pointer (some _) => some v | _ => none) | none => none
 | .extract x n => match ov l x with | some (.tuple vs) => nthV vs.toList n | _ => none
 | .fieldAddr T x k => match ov l x, foF T k with | some (.pointer (some ⟨g, i, none⟩)), some o => (match i with | 0 => some (pt g o) | i + 1 => some (pt g (i + 1 + o))) | _, _ => none
 | .pick c x y => match ov l c with | some (.bool b) => bif b then ov l x else ov l y | _ => none
 | _ => none
def goV (N : Nat) (ops : List Oper) : Nat → List (Nat × Value) → List Oper → Option (List (Nat × Value) × List Oper)
 | 0, l, r => some (l, r)
 | _ + 1, _, [] => none
 | n + 1, l, o :: r => match o.dst with
  | none => none
  | some d => bif Nat.blt d N then (match o.guard with
   | none => (match opV l o.op with | some v => goV N ops n ((d, v) :: l) r | none => none)
   | some (j, b) => match (nthV ops j).bind (·.dst) with
    | none => none
    | some t => match l.lookup t with
     | some (.bool c) => bif c == b then (match opV l o.op with | some v => goV N ops n ((d, v) :: l) r | none => none) else goV N ops n ((d, undef) :: l) r
     | _ => none) else none
theorem ov_ev {x : Operand} (h : Ev N l a) (e : ov l x = some v) : a.eval x = v := by
 cases x with
 | tmp t => exact h.look _ _ e
 | const u => cases e; rfl
 | global g => cases e
 | func f => cases e
theorem opV_run (h : Ev N l a) (e : opV l p = some v) : (execOp a.eval ⟨dst, p, ty, ps, af, gd⟩).run Tryz.prog w = .ok (.value v) w := by
 unfold opV at e
 split at e
 ·simp only [execOp, ov_ev h e]; rfl
 ·simp only [execOp, ov_ev h e]; rfl
 ·split at e
  ·rename_i u hu
   split at e
   ·cases e; simp only [execOp, ov_ev h hu]; rfl
   ·cases e
  ·cases e
 ·split at e
  ·rename_i vs hu
   have := nthV_get _ _ _ e
   rw [Array.getElem?_toList] at this
   simp only [execOp, ov_ev h hu]
   exact run_andValue (by simp [Instr.extract, this])
  ·cases e
 ·split at e
  ·rename_i T x k g i o hu hf
   have hx := ov_ev h hu
   have hF := (fo hf) g i w
   split at e
   ·cases e
    rw [Nat.zero_add] at hF
    simp only [execOp, hx]; exact run_andValue hF
   ·cases e
    simp only [execOp, hx]; exact run_andValue hF
  ·cases e
 ·split at e
  ·rename_i b hu
   cases b
   ·exact ex_pickF (ov_ev h hu) (ov_ev h e)
   ·exact ex_pickT (ov_ev h hu) (ov_ev h e)
  ·cases e
 ·cases e
theorem sv_n : ∀ (n : Nat) {l l' : List (Nat × Value)} {os r : List Oper} {a : Act}, Sv N l m M w0 a w → goV N ops.toList n l os = some (l', r) → (∀ a', Sv N l' m M w0 a' w → wpList Tryz.prog ops Q r a' w) → wpList Tryz.prog ops Q os a w
 | 0, _, _, _, _, _, h, e, hK => by cases e; exact hK _ h
 | n + 1, l, _, [], _, _, _, e, _ => by cases e
 | n + 1, l, _, o :: os, _, a, h, e, hK => by
  unfold goV at e
  split at e
  ·cases e
  ·rename_i d hd
   cases hb : Nat.blt d N with
   | false => rw [hb] at e; cases e
   | true =>
    rw [hb] at e
    have hdN : d < N := by rwa [Nat.blt_eq] at hb
    have hrun : ∀ v, opV l o.op = some v → (execOp a.eval o).run Tryz.prog w = .ok (.value v) w := fun v hv => opV_run (dst := o.dst) (ty := o.type) (ps := o.pos) (af := o.after) (gd := o.guard) h.ev hv
    simp only [cond_true] at e
    split at e
    ·rename_i hg
     split at e
     ·rename_i v hv
      exact sv_run h hg hd hdN (hrun v hv) fun a' h' => sv_n n h' e hK
     ·cases e
    ·rename_i j b hg
     split at e
     ·cases e
     ·rename_i t ht
      have hgd : (ops[j]?).bind (·.dst) = some t := by
       cases hn : nthV ops.toList j with
       | none => rw [hn] at ht; cases ht
       | some q =>
        have := nthV_get _ _ _ hn
        rw [Array.getElem?_toList] at this
        rw [this, ← hn]; exact ht
      split at e
      ·rename_i c hc
       have hcv := h.ev.look _ _ hc
       cases hcb : (c == b) with
       | true =>
        rw [hcb] at e
        have : c = b := by simpa using hcb
        subst this
        simp only [cond_true] at e
        split at e
        ·rename_i v hv
         exact sv_gon h hg hgd hcv hd hdN (hrun v hv) fun a' h' => sv_n n h' e hK
        ·cases e
       | false =>
        rw [hcb] at e
        exact sv_goff h hg hgd hcv hcb hd hdN fun a' h' => sv_n n h' e hK
      ·cases e
theorem sv_l (i : Nat) {b : Bk} {T k : Nat} (h : Sv N l m M w0 a w) (hb : m[i]? = some b) (hx : a.eval (.tmp t) = pt b.g k) (hL : Ld T) (hv : b.cs[k]? = some v) (hK : ∀ a', Sv N ((d, v) :: l) m M w0 a' w → wpList Tryz.prog ops Q rest a' w) (hd : d < N := by decide) : wpList Tryz.prog ops Q (⟨some d, .load T (.tmp t), ty, ps, af, none⟩ :: rest) a w := sv_run h rfl rfl hd (ex_ld hx hL (cell_of_heap (h.at i hb) hv)) hK
end
end Go.Proofs.YtflppablgdegcaaGreatDoor
