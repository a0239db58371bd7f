/- Leaves for the walk of an Encode: a literal written, a rune, a field's text, a number; tests of fields. -/
import Derived.Test.YtkddkmiomhadaaaDoorEnw
namespace Go.Proofs.YtkddkmiomhadaaaDoor
open Go.RowKit
theorem sp_mv {W : List UInt8 → World → Prop} {d : Option Nat} {t : Nat} {u v : Value} {ty : TypeId} {ps : String} {af : Array Edge} (h : u = v) : Sp W ⟨d, .move (.tmp t), ty, ps, af, none⟩ (.tmp t) u v := h ▸ sp_move
abbrev pt (g k : Nat) : Value := .pointer (some ⟨g, k, none⟩)
/-- A field's place. -/
def Fa (T k g i j : Nat) : Prop := ∀ w, (Instr.fieldAt T (pt g i) k).run Tryd.prog w = .ok (pt g j) w
/-- A load of one cell. -/
def Ld (T : Nat) : Prop := ∀ w p v, w.cell? p = some v → (Instr.loadAt T (.pointer (some p))).run Tryd.prog w = .ok v w
def ne (s : ByteArray) : Bool := !s.data.toList.isEmpty
set_option maxRecDepth 100000 in
theorem ld_string : Ld 9 := by intro w p v h; go_simp
set_option maxRecDepth 100000 in
theorem ld_u32 : Ld 23 := by intro w p v h; go_simp
set_option maxRecDepth 100000 in
theorem ld_bool : Ld 4 := by intro w p v h; go_simp
set_option maxRecDepth 100000 in
theorem ld_f64 : Ld 50 := by intro w p v h; go_simp
set_option maxRecDepth 100000 in
theorem ld_u8 : Ld 5 := by intro w p v h; go_simp
theorem run_neq_empty (s : ByteArray) (w : World) : (binOp .neq 9 (.string s) (.string ⟨#[]⟩)).run Tryd.prog w = .ok (.bool (ne s)) w := by
  have h : (s.toList == (⟨#[]⟩ : ByteArray).toList) = s.data.toList.isEmpty := by
    rw [ByteArray.toList_eq, ByteArray.toList_eq]
    cases s.data.toList <;> rfl
  show Result.ok (Value.bool (!(s.toList == (⟨#[]⟩ : ByteArray).toList))) w = _
  rw [h]
  rfl
theorem run_guard (b : BinOp) (T : Nat) (x y : Operand) (s t : ByteArray) (w : World) : (eqGuard b T x y (.string s) (.string t)).run Tryd.prog w = .ok () w := by
  cases b <;> simp [eqGuard]

theorem ts_chain4 {N m0 : Nat} {f : Nat → Value} {W : List UInt8 → World → Prop} {id tx d0 d1 d2 d3 : Nat} {q0 q1 q2 q3 : Op} {y0 y1 y2 y3 : TypeId} {p0 p1 p2 p3 : String} {e0 e1 e2 e3 : Array Edge} {v0 v1 v2 v3 : Value}
    (s0 : Sp W ⟨some d0, q0, y0, p0, e0, none⟩ (.tmp tx) (f tx) v0)
    (s1 : Sp W ⟨some d1, q1, y1, p1, e1, none⟩ (.tmp d0) v0 v1)
    (s2 : Sp W ⟨some d2, q2, y2, p2, e2, none⟩ (.tmp d1) v1 v2)
    (s3 : Sp W ⟨some d3, q3, y3, p3, e3, none⟩ (.tmp d2) v2 v3)
    (hm : tx < m0 ∧ m0 ≤ d0 ∧ m0 ≤ d1 ∧ m0 ≤ d2 ∧ m0 ≤ d3) (hN : d0 < N ∧ d1 < N ∧ d2 < N ∧ d3 < N) :
    Ts N m0 f W (.region id #[⟨some d0, q0, y0, p0, e0, none⟩, ⟨some d1, q1, y1, p1, e1, none⟩, ⟨some d2, q2, y2, p2, e2, none⟩, ⟨some d3, q3, y3, p3, e3, none⟩] false) d3 v3 := by
  intro s a w hf hw Q hQ
  obtain ⟨ht, m0, m1, m2, m3⟩ := hm
  obtain ⟨n0, n1, n2, n3⟩ := hN
  refine wp_region_lit ?_
  have hx := hf.low tx ht
  refine chn_one s0 hx rfl m0 n0 hf hw ?_
  intro a w hf hw hx
  refine chn_one s1 hx rfl m1 n1 hf hw ?_
  intro a w hf hw hx
  refine chn_one s2 hx rfl m2 n2 hf hw ?_
  intro a w hf hw hx
  refine chn_one s3 hx rfl m3 n3 hf hw ?_
  intro a w hf hw hx
  exact wpList_nil (hQ a w hf hw hx)
theorem ts_chain5 {N m0 : Nat} {f : Nat → Value} {W : List UInt8 → World → Prop} {id tx d0 d1 d2 d3 d4 : Nat} {q0 q1 q2 q3 q4 : Op} {y0 y1 y2 y3 y4 : TypeId} {p0 p1 p2 p3 p4 : String} {e0 e1 e2 e3 e4 : Array Edge} {v0 v1 v2 v3 v4 : Value}
    (s0 : Sp W ⟨some d0, q0, y0, p0, e0, none⟩ (.tmp tx) (f tx) v0)
    (s1 : Sp W ⟨some d1, q1, y1, p1, e1, none⟩ (.tmp d0) v0 v1)
    (s2 : Sp W ⟨some d2, q2, y2, p2, e2, none⟩ (.tmp d1) v1 v2)
    (s3 : Sp W ⟨some d3, q3, y3, p3, e3, none⟩ (.tmp d2) v2 v3)
    (s4 : Sp W ⟨some d4, q4, y4, p4, e4, none⟩ (.tmp d3) v3 v4)
    (hm : tx < m0 ∧ m0 ≤ d0 ∧ m0 ≤ d1 ∧ m0 ≤ d2 ∧ m0 ≤ d3 ∧ m0 ≤ d4) (hN : d0 < N ∧ d1 < N ∧ d2 < N ∧ d3 < N ∧ d4 < N) :
    Ts N m0 f W (.region id #[⟨some d0, q0, y0, p0, e0, none⟩, ⟨some d1, q1, y1, p1, e1, none⟩, ⟨some d2, q2, y2, p2, e2, none⟩, ⟨some d3, q3, y3, p3, e3, none⟩, ⟨some d4, q4, y4, p4, e4, none⟩] false) d4 v4 := by
  intro s a w hf hw Q hQ
  obtain ⟨ht, m0, m1, m2, m3, m4⟩ := hm
  obtain ⟨n0, n1, n2, n3, n4⟩ := hN
  refine wp_region_lit ?_
  have hx := hf.low tx ht
  refine chn_one s0 hx rfl m0 n0 hf hw ?_
  intro a w hf hw hx
  refine chn_one s1 hx rfl m1 n1 hf hw ?_
  intro a w hf hw hx
  refine chn_one s2 hx rfl m2 n2 hf hw ?_
  intro a w hf hw hx
  refine chn_one s3 hx rfl m3 n3 hf hw ?_
  intro a w hf hw hx
  refine chn_one s4 hx rfl m4 n4 hf hw ?_
  intro a w hf hw hx
  exact wpList_nil (hQ a w hf hw hx)
theorem ts_chain6 {N m0 : Nat} {f : Nat → Value} {W : List UInt8 → World → Prop} {id tx d0 d1 d2 d3 d4 d5 : Nat} {q0 q1 q2 q3 q4 q5 : Op} {y0 y1 y2 y3 y4 y5 : TypeId} {p0 p1 p2 p3 p4 p5 : String} {e0 e1 e2 e3 e4 e5 : Array Edge} {v0 v1 v2 v3 v4 v5 : Value}
    (s0 : Sp W ⟨some d0, q0, y0, p0, e0, none⟩ (.tmp tx) (f tx) v0)
    (s1 : Sp W ⟨some d1, q1, y1, p1, e1, none⟩ (.tmp d0) v0 v1)
    (s2 : Sp W ⟨some d2, q2, y2, p2, e2, none⟩ (.tmp d1) v1 v2)
    (s3 : Sp W ⟨some d3, q3, y3, p3, e3, none⟩ (.tmp d2) v2 v3)
    (s4 : Sp W ⟨some d4, q4, y4, p4, e4, none⟩ (.tmp d3) v3 v4)
    (s5 : Sp W ⟨some d5, q5, y5, p5, e5, none⟩ (.tmp d4) v4 v5)
    (hm : tx < m0 ∧ m0 ≤ d0 ∧ m0 ≤ d1 ∧ m0 ≤ d2 ∧ m0 ≤ d3 ∧ m0 ≤ d4 ∧ m0 ≤ d5) (hN : d0 < N ∧ d1 < N ∧ d2 < N ∧ d3 < N ∧ d4 < N ∧ d5 < N) :
    Ts N m0 f W (.region id #[⟨some d0, q0, y0, p0, e0, none⟩, ⟨some d1, q1, y1, p1, e1, none⟩, ⟨some d2, q2, y2, p2, e2, none⟩, ⟨some d3, q3, y3, p3, e3, none⟩, ⟨some d4, q4, y4, p4, e4, none⟩, ⟨some d5, q5, y5, p5, e5, none⟩] false) d5 v5 := by
  intro s a w hf hw Q hQ
  obtain ⟨ht, m0, m1, m2, m3, m4, m5⟩ := hm
  obtain ⟨n0, n1, n2, n3, n4, n5⟩ := hN
  refine wp_region_lit ?_
  have hx := hf.low tx ht
  refine chn_one s0 hx rfl m0 n0 hf hw ?_
  intro a w hf hw hx
  refine chn_one s1 hx rfl m1 n1 hf hw ?_
  intro a w hf hw hx
  refine chn_one s2 hx rfl m2 n2 hf hw ?_
  intro a w hf hw hx
  refine chn_one s3 hx rfl m3 n3 hf hw ?_
  intro a w hf hw hx
  refine chn_one s4 hx rfl m4 n4 hf hw ?_
  intro a w hf hw hx
  refine chn_one s5 hx rfl m5 n5 hf hw ?_
  intro a w hf hw hx
  exact wpList_nil (hQ a w hf hw hx)
theorem lf_lit {N m0 : Nat} {f : Nat → Value} {W : List UInt8 → World → Prop} {lim : Nat} {T pb o k : Nat} {x : ByteArray} (H : Wr W lim ⟨pb, o, none⟩) (hp : f 0 = pt pb 0) (hfa : Fa T k pb 0 o) {id d0 d1 d2 d3 : Nat} {y0 y1 y2 y3 : TypeId} {p0 p1 p2 p3 : String} {e0 e1 e2 e3 : Array Edge} {at3 : Array TypeId}
    (hm : 0 < m0 ∧ m0 ≤ d0 ∧ m0 ≤ d1 ∧ m0 ≤ d2 ∧ m0 ≤ d3) (hN : d0 < N ∧ d1 < N ∧ d2 < N ∧ d3 < N) :
    Tr N m0 f W lim (.region id #[⟨some d0, .move (.tmp 0), y0, p0, e0, none⟩, ⟨some d1, .nilCheck (.tmp d0), y1, p1, e1, none⟩, ⟨some d2, .fieldAddr T (.tmp d1) k, y2, p2, e2, none⟩, ⟨some d3, .call { callee := .value (.func 33), args := #[.tmp d2, .const (.string x)], argTypes := at3 }, y3, p3, e3, none⟩] false) (x.data.toList) :=
  tr_lit H (sp_mv hp) sp_nil (sp_fa hfa) hm hN
theorem lf_rune {N m0 : Nat} {f : Nat → Value} {W : List UInt8 → World → Prop} {lim : Nat} {T pb o k : Nat} {c : Nat} (H : Wr W lim ⟨pb, o, none⟩) (hp : f 0 = pt pb 0) (hfa : Fa T k pb 0 o) (hc : c < 128) {id d0 d1 d2 d3 : Nat} {y0 y1 y2 y3 : TypeId} {p0 p1 p2 p3 : String} {e0 e1 e2 e3 : Array Edge} {at3 : Array TypeId}
    (hm : 0 < m0 ∧ m0 ≤ d0 ∧ m0 ≤ d1 ∧ m0 ≤ d2 ∧ m0 ≤ d3) (hN : d0 < N ∧ d1 < N ∧ d2 < N ∧ d3 < N) :
    Tr N m0 f W lim (.region id #[⟨some d0, .move (.tmp 0), y0, p0, e0, none⟩, ⟨some d1, .nilCheck (.tmp d0), y1, p1, e1, none⟩, ⟨some d2, .fieldAddr T (.tmp d1) k, y2, p2, e2, none⟩, ⟨some d3, .call { callee := .value (.func 35), args := #[.tmp d2, .const (.int .i32 (c : Int))], argTypes := at3 }, y3, p3, e3, none⟩] false) ([UInt8.ofNat c]) :=
  tr_rune H hc (sp_mv hp) sp_nil (sp_fa hfa) hm hN
theorem lf_str {N m0 : Nat} {f : Nat → Value} {W : List UInt8 → World → Prop} {lim : Nat} {T pb o k tx gx : Nat} {x : ByteArray} (H : Wr W lim ⟨pb, o, none⟩) (hp : f 0 = pt pb 0) (hfa : Fa T k pb 0 o) (hx : f tx = pt gx 0) {T2 k2 j : Nat} (hf2 : Fa T2 k2 gx 0 j) (hc : ∀ s w, W s w → w.cell? ⟨gx, j, none⟩ = some (.string x)) {id d0 d1 d2 d3 d4 d5 d6 d7 : Nat} {y0 y1 y2 y3 y4 y5 y6 y7 : TypeId} {p0 p1 p2 p3 p4 p5 p6 p7 : String} {ef : Array Edge} {atf : Array TypeId}
    (hm : 0 < m0 ∧ tx < m0) (hok : ogOk ([⟨some d0, .move (.tmp 0), y0, p0, #[], none⟩, ⟨some d1, .nilCheck (.tmp d0), y1, p1, #[⟨0, .data⟩], none⟩, ⟨some d2, .fieldAddr T (.tmp d1) k, y2, p2, #[⟨1, .data⟩], none⟩, ⟨some d3, .move (.tmp tx), y3, p3, #[], none⟩, ⟨some d4, .nilCheck (.tmp d3), y4, p4, #[⟨3, .data⟩], none⟩, ⟨some d5, .fieldAddr T2 (.tmp d4) k2, y5, p5, #[⟨4, .data⟩], none⟩, ⟨some d6, .load 9 (.tmp d5), y6, p6, #[⟨5, .data⟩], none⟩, ⟨some d7, .call { callee := .value (.func 33), args := #[.tmp d2, .tmp d6], argTypes := atf }, y7, p7, ef, none⟩] : List Oper).toArray = true) (ht : ogTail ([⟨some d0, .move (.tmp 0), y0, p0, #[], none⟩, ⟨some d1, .nilCheck (.tmp d0), y1, p1, #[⟨0, .data⟩], none⟩, ⟨some d2, .fieldAddr T (.tmp d1) k, y2, p2, #[⟨1, .data⟩], none⟩, ⟨some d3, .move (.tmp tx), y3, p3, #[], none⟩, ⟨some d4, .nilCheck (.tmp d3), y4, p4, #[⟨3, .data⟩], none⟩, ⟨some d5, .fieldAddr T2 (.tmp d4) k2, y5, p5, #[⟨4, .data⟩], none⟩, ⟨some d6, .load 9 (.tmp d5), y6, p6, #[⟨5, .data⟩], none⟩, ⟨some d7, .call { callee := .value (.func 33), args := #[.tmp d2, .tmp d6], argTypes := atf }, y7, p7, ef, none⟩] : List Oper).toArray 7 = true) (hfit : ogFit ([⟨some d0, .move (.tmp 0), y0, p0, #[], none⟩, ⟨some d1, .nilCheck (.tmp d0), y1, p1, #[⟨0, .data⟩], none⟩, ⟨some d2, .fieldAddr T (.tmp d1) k, y2, p2, #[⟨1, .data⟩], none⟩, ⟨some d3, .move (.tmp tx), y3, p3, #[], none⟩, ⟨some d4, .nilCheck (.tmp d3), y4, p4, #[⟨3, .data⟩], none⟩, ⟨some d5, .fieldAddr T2 (.tmp d4) k2, y5, p5, #[⟨4, .data⟩], none⟩, ⟨some d6, .load 9 (.tmp d5), y6, p6, #[⟨5, .data⟩], none⟩, ⟨some d7, .call { callee := .value (.func 33), args := #[.tmp d2, .tmp d6], argTypes := atf }, y7, p7, ef, none⟩] : List Oper).toArray [] N = true) (hlow : lowOk ([⟨some d0, .move (.tmp 0), y0, p0, #[], none⟩, ⟨some d1, .nilCheck (.tmp d0), y1, p1, #[⟨0, .data⟩], none⟩, ⟨some d2, .fieldAddr T (.tmp d1) k, y2, p2, #[⟨1, .data⟩], none⟩, ⟨some d3, .move (.tmp tx), y3, p3, #[], none⟩, ⟨some d4, .nilCheck (.tmp d3), y4, p4, #[⟨3, .data⟩], none⟩, ⟨some d5, .fieldAddr T2 (.tmp d4) k2, y5, p5, #[⟨4, .data⟩], none⟩, ⟨some d6, .load 9 (.tmp d5), y6, p6, #[⟨5, .data⟩], none⟩, ⟨some d7, .call { callee := .value (.func 33), args := #[.tmp d2, .tmp d6], argTypes := atf }, y7, p7, ef, none⟩] : List Oper).toArray m0 = true) :
    Tr N m0 f W lim (.region id #[⟨some d0, .move (.tmp 0), y0, p0, #[], none⟩, ⟨some d1, .nilCheck (.tmp d0), y1, p1, #[⟨0, .data⟩], none⟩, ⟨some d2, .fieldAddr T (.tmp d1) k, y2, p2, #[⟨1, .data⟩], none⟩, ⟨some d3, .move (.tmp tx), y3, p3, #[], none⟩, ⟨some d4, .nilCheck (.tmp d3), y4, p4, #[⟨3, .data⟩], none⟩, ⟨some d5, .fieldAddr T2 (.tmp d4) k2, y5, p5, #[⟨4, .data⟩], none⟩, ⟨some d6, .load 9 (.tmp d5), y6, p6, #[⟨5, .data⟩], none⟩, ⟨some d7, .call { callee := .value (.func 33), args := #[.tmp d2, .tmp d6], argTypes := atf }, y7, p7, ef, none⟩] true) x.data.toList :=
  tr_drawn8 H (sp_mv hp) sp_nil (sp_fa hfa) (sp_mv hx) sp_nil (sp_fa hf2) (sp_ld ld_string hc) hm hok ht hfit hlow
theorem lf_str2 {N m0 : Nat} {f : Nat → Value} {W : List UInt8 → World → Prop} {lim : Nat} {T pb o k tx gx : Nat} {x : ByteArray} (H : Wr W lim ⟨pb, o, none⟩) (hp : f 0 = pt pb 0) (hfa : Fa T k pb 0 o) (hx : f tx = pt gx 0) {T2 k2 i T3 k3 j : Nat} (hf2 : Fa T2 k2 gx 0 i) (hf3 : Fa T3 k3 gx i j) (hc : ∀ s w, W s w → w.cell? ⟨gx, j, none⟩ = some (.string x)) {id d0 d1 d2 d3 d4 d5 d6 d7 d8 : Nat} {y0 y1 y2 y3 y4 y5 y6 y7 y8 : TypeId} {p0 p1 p2 p3 p4 p5 p6 p7 p8 : String} {ef : Array Edge} {atf : Array TypeId}
    (hm : 0 < m0 ∧ tx < m0) (hok : ogOk ([⟨some d0, .move (.tmp 0), y0, p0, #[], none⟩, ⟨some d1, .nilCheck (.tmp d0), y1, p1, #[⟨0, .data⟩], none⟩, ⟨some d2, .fieldAddr T (.tmp d1) k, y2, p2, #[⟨1, .data⟩], none⟩, ⟨some d3, .move (.tmp tx), y3, p3, #[], none⟩, ⟨some d4, .nilCheck (.tmp d3), y4, p4, #[⟨3, .data⟩], none⟩, ⟨some d5, .fieldAddr T2 (.tmp d4) k2, y5, p5, #[⟨4, .data⟩], none⟩, ⟨some d6, .fieldAddr T3 (.tmp d5) k3, y6, p6, #[⟨5, .data⟩], none⟩, ⟨some d7, .load 9 (.tmp d6), y7, p7, #[⟨6, .data⟩], none⟩, ⟨some d8, .call { callee := .value (.func 33), args := #[.tmp d2, .tmp d7], argTypes := atf }, y8, p8, ef, none⟩] : List Oper).toArray = true) (ht : ogTail ([⟨some d0, .move (.tmp 0), y0, p0, #[], none⟩, ⟨some d1, .nilCheck (.tmp d0), y1, p1, #[⟨0, .data⟩], none⟩, ⟨some d2, .fieldAddr T (.tmp d1) k, y2, p2, #[⟨1, .data⟩], none⟩, ⟨some d3, .move (.tmp tx), y3, p3, #[], none⟩, ⟨some d4, .nilCheck (.tmp d3), y4, p4, #[⟨3, .data⟩], none⟩, ⟨some d5, .fieldAddr T2 (.tmp d4) k2, y5, p5, #[⟨4, .data⟩], none⟩, ⟨some d6, .fieldAddr T3 (.tmp d5) k3, y6, p6, #[⟨5, .data⟩], none⟩, ⟨some d7, .load 9 (.tmp d6), y7, p7, #[⟨6, .data⟩], none⟩, ⟨some d8, .call { callee := .value (.func 33), args := #[.tmp d2, .tmp d7], argTypes := atf }, y8, p8, ef, none⟩] : List Oper).toArray 8 = true) (hfit : ogFit ([⟨some d0, .move (.tmp 0), y0, p0, #[], none⟩, ⟨some d1, .nilCheck (.tmp d0), y1, p1, #[⟨0, .data⟩], none⟩, ⟨some d2, .fieldAddr T (.tmp d1) k, y2, p2, #[⟨1, .data⟩], none⟩, ⟨some d3, .move (.tmp tx), y3, p3, #[], none⟩, ⟨some d4, .nilCheck (.tmp d3), y4, p4, #[⟨3, .data⟩], none⟩, ⟨some d5, .fieldAddr T2 (.tmp d4) k2, y5, p5, #[⟨4, .data⟩], none⟩, ⟨some d6, .fieldAddr T3 (.tmp d5) k3, y6, p6, #[⟨5, .data⟩], none⟩, ⟨some d7, .load 9 (.tmp d6), y7, p7, #[⟨6, .data⟩], none⟩, ⟨some d8, .call { callee := .value (.func 33), args := #[.tmp d2, .tmp d7], argTypes := atf }, y8, p8, ef, none⟩] : List Oper).toArray [] N = true) (hlow : lowOk ([⟨some d0, .move (.tmp 0), y0, p0, #[], none⟩, ⟨some d1, .nilCheck (.tmp d0), y1, p1, #[⟨0, .data⟩], none⟩, ⟨some d2, .fieldAddr T (.tmp d1) k, y2, p2, #[⟨1, .data⟩], none⟩, ⟨some d3, .move (.tmp tx), y3, p3, #[], none⟩, ⟨some d4, .nilCheck (.tmp d3), y4, p4, #[⟨3, .data⟩], none⟩, ⟨some d5, .fieldAddr T2 (.tmp d4) k2, y5, p5, #[⟨4, .data⟩], none⟩, ⟨some d6, .fieldAddr T3 (.tmp d5) k3, y6, p6, #[⟨5, .data⟩], none⟩, ⟨some d7, .load 9 (.tmp d6), y7, p7, #[⟨6, .data⟩], none⟩, ⟨some d8, .call { callee := .value (.func 33), args := #[.tmp d2, .tmp d7], argTypes := atf }, y8, p8, ef, none⟩] : List Oper).toArray m0 = true) :
    Tr N m0 f W lim (.region id #[⟨some d0, .move (.tmp 0), y0, p0, #[], none⟩, ⟨some d1, .nilCheck (.tmp d0), y1, p1, #[⟨0, .data⟩], none⟩, ⟨some d2, .fieldAddr T (.tmp d1) k, y2, p2, #[⟨1, .data⟩], none⟩, ⟨some d3, .move (.tmp tx), y3, p3, #[], none⟩, ⟨some d4, .nilCheck (.tmp d3), y4, p4, #[⟨3, .data⟩], none⟩, ⟨some d5, .fieldAddr T2 (.tmp d4) k2, y5, p5, #[⟨4, .data⟩], none⟩, ⟨some d6, .fieldAddr T3 (.tmp d5) k3, y6, p6, #[⟨5, .data⟩], none⟩, ⟨some d7, .load 9 (.tmp d6), y7, p7, #[⟨6, .data⟩], none⟩, ⟨some d8, .call { callee := .value (.func 33), args := #[.tmp d2, .tmp d7], argTypes := atf }, y8, p8, ef, none⟩] true) x.data.toList :=
  tr_drawn9 H (sp_mv hp) sp_nil (sp_fa hfa) (sp_mv hx) sp_nil (sp_fa hf2) (sp_fa hf3) (sp_ld ld_string hc) hm hok ht hfit hlow
set_option maxRecDepth 100000 in
theorem run_conv_u32 {n : Nat} (hn : n < 4294967296) (w : World) : (convert 23 36 (.int .u32 n)).run Tryd.prog w = .ok (.int .u64 n) w := by
  have h : IntKind.u64.wrap (n : Int) = n := by rw [IntKind.wrap_u64]; omega
  go_simp
set_option maxRecDepth 100000 in
theorem sp_formatUint {W : List UInt8 → World → Prop} {lim : Nat} {p : Addr} (H : Wr W lim p) (hT : ∀ s w, W s w → PowTab w) {n : Nat} (hn : n < 4294967296) {d : Option Nat} {t : Nat} {ty : TypeId} {ps : String} {af : Array Edge} {atc : Array TypeId} :
    Sp W ⟨d, .call { callee := .value (.func 37), args := #[.tmp t, .const (.int .i64 10)], argTypes := atc }, ty, ps, af, none⟩ (.tmp t) (.int .u64 n) (.string (dec n)) := by
  refine sp_call (fn := 37) (args := #[.int .u64 n, .int .i64 10]) ?_ ?_
  · intro a s w _ hx
    simp only [execOp, resolve, List.map_toArray, List.map_cons, List.map_nil, hx]
    go_simp
  · intro s w hw
    refine (formatUint_any n (by omega) w (hT s w hw)).mono ?_
    rintro e w' ⟨rfl, hb⟩
    exact ⟨rfl, H.below s w w' hw hb, hb⟩
set_option maxRecDepth 100000 in
theorem sp_strver {W : List UInt8 → World → Prop} {lim : Nat} {p : Addr} (H : Wr W lim p) (hT : ∀ s w, W s w → PowTab w) {n : Nat} (hn : n < 256) {d : Option Nat} {t : Nat} {ty : TypeId} {ps : String} {af : Array Edge} {atc : Array TypeId} :
    Sp W ⟨d, .call { callee := .value (.func 34), args := #[.tmp t], argTypes := atc }, ty, ps, af, none⟩ (.tmp t) (.int .u8 n) (.string (dec n)) := by
  refine sp_call (fn := 34) (args := #[.int .u8 n]) ?_ ?_
  · intro a s w _ hx
    simp only [execOp, resolve, List.map_toArray, List.map_cons, List.map_nil, hx]
    go_simp
  · intro s w hw
    refine (strver_any n hn w (hT s w hw)).mono ?_
    rintro e w' ⟨rfl, hb⟩
    exact ⟨rfl, H.below s w w' hw hb, hb⟩
theorem lf_num0 {N m0 : Nat} {f : Nat → Value} {W : List UInt8 → World → Prop} {lim : Nat} {T pb o k tx gx : Nat} {x : ByteArray} (H : Wr W lim ⟨pb, o, none⟩) (hp : f 0 = pt pb 0) (hfa : Fa T k pb 0 o) (hx : f tx = pt gx 0) {T2 k2 i T3 k3 j n : Nat} (hn : n < 4294967296) (hxn : x = dec n) (hT : ∀ s w, W s w → PowTab w) (hf2 : Fa T2 k2 gx 0 i) (hf3 : Fa T3 k3 gx i j) (hc : ∀ s w, W s w → w.cell? ⟨gx, j, none⟩ = some (.int .u32 n)) {id d0 d1 d2 d3 d4 d5 d6 d7 d8 d9 d10 : Nat} {y0 y1 y2 y3 y4 y5 y6 y7 y8 y9 y10 : TypeId} {p0 p1 p2 p3 p4 p5 p6 p7 p8 p9 p10 : String} {ef : Array Edge} {atf atc : Array TypeId}
    (hm : 0 < m0 ∧ tx < m0) (hok : ogOk ([⟨some d0, .move (.tmp 0), y0, p0, #[], none⟩, ⟨some d1, .nilCheck (.tmp d0), y1, p1, #[⟨0, .data⟩], none⟩, ⟨some d2, .fieldAddr T (.tmp d1) k, y2, p2, #[⟨1, .data⟩], none⟩, ⟨some d3, .move (.tmp tx), y3, p3, #[], none⟩, ⟨some d4, .nilCheck (.tmp d3), y4, p4, #[⟨3, .data⟩], none⟩, ⟨some d5, .fieldAddr T2 (.tmp d4) k2, y5, p5, #[⟨4, .data⟩], none⟩, ⟨some d6, .fieldAddr T3 (.tmp d5) k3, y6, p6, #[⟨5, .data⟩], none⟩, ⟨some d7, .load 23 (.tmp d6), y7, p7, #[⟨6, .data⟩], none⟩, ⟨some d8, .convert 23 36 (.tmp d7), y8, p8, #[⟨7, .data⟩], none⟩, ⟨some d9, .call { callee := .value (.func 37), args := #[.tmp d8, .const (.int .i64 10)], argTypes := atc }, y9, p9, #[⟨8, .data⟩], none⟩, ⟨some d10, .call { callee := .value (.func 33), args := #[.tmp d2, .tmp d9], argTypes := atf }, y10, p10, ef, none⟩] : List Oper).toArray = true) (ht : ogTail ([⟨some d0, .move (.tmp 0), y0, p0, #[], none⟩, ⟨some d1, .nilCheck (.tmp d0), y1, p1, #[⟨0, .data⟩], none⟩, ⟨some d2, .fieldAddr T (.tmp d1) k, y2, p2, #[⟨1, .data⟩], none⟩, ⟨some d3, .move (.tmp tx), y3, p3, #[], none⟩, ⟨some d4, .nilCheck (.tmp d3), y4, p4, #[⟨3, .data⟩], none⟩, ⟨some d5, .fieldAddr T2 (.tmp d4) k2, y5, p5, #[⟨4, .data⟩], none⟩, ⟨some d6, .fieldAddr T3 (.tmp d5) k3, y6, p6, #[⟨5, .data⟩], none⟩, ⟨some d7, .load 23 (.tmp d6), y7, p7, #[⟨6, .data⟩], none⟩, ⟨some d8, .convert 23 36 (.tmp d7), y8, p8, #[⟨7, .data⟩], none⟩, ⟨some d9, .call { callee := .value (.func 37), args := #[.tmp d8, .const (.int .i64 10)], argTypes := atc }, y9, p9, #[⟨8, .data⟩], none⟩, ⟨some d10, .call { callee := .value (.func 33), args := #[.tmp d2, .tmp d9], argTypes := atf }, y10, p10, ef, none⟩] : List Oper).toArray 10 = true) (hfit : ogFit ([⟨some d0, .move (.tmp 0), y0, p0, #[], none⟩, ⟨some d1, .nilCheck (.tmp d0), y1, p1, #[⟨0, .data⟩], none⟩, ⟨some d2, .fieldAddr T (.tmp d1) k, y2, p2, #[⟨1, .data⟩], none⟩, ⟨some d3, .move (.tmp tx), y3, p3, #[], none⟩, ⟨some d4, .nilCheck (.tmp d3), y4, p4, #[⟨3, .data⟩], none⟩, ⟨some d5, .fieldAddr T2 (.tmp d4) k2, y5, p5, #[⟨4, .data⟩], none⟩, ⟨some d6, .fieldAddr T3 (.tmp d5) k3, y6, p6, #[⟨5, .data⟩], none⟩, ⟨some d7, .load 23 (.tmp d6), y7, p7, #[⟨6, .data⟩], none⟩, ⟨some d8, .convert 23 36 (.tmp d7), y8, p8, #[⟨7, .data⟩], none⟩, ⟨some d9, .call { callee := .value (.func 37), args := #[.tmp d8, .const (.int .i64 10)], argTypes := atc }, y9, p9, #[⟨8, .data⟩], none⟩, ⟨some d10, .call { callee := .value (.func 33), args := #[.tmp d2, .tmp d9], argTypes := atf }, y10, p10, ef, none⟩] : List Oper).toArray [] N = true) (hlow : lowOk ([⟨some d0, .move (.tmp 0), y0, p0, #[], none⟩, ⟨some d1, .nilCheck (.tmp d0), y1, p1, #[⟨0, .data⟩], none⟩, ⟨some d2, .fieldAddr T (.tmp d1) k, y2, p2, #[⟨1, .data⟩], none⟩, ⟨some d3, .move (.tmp tx), y3, p3, #[], none⟩, ⟨some d4, .nilCheck (.tmp d3), y4, p4, #[⟨3, .data⟩], none⟩, ⟨some d5, .fieldAddr T2 (.tmp d4) k2, y5, p5, #[⟨4, .data⟩], none⟩, ⟨some d6, .fieldAddr T3 (.tmp d5) k3, y6, p6, #[⟨5, .data⟩], none⟩, ⟨some d7, .load 23 (.tmp d6), y7, p7, #[⟨6, .data⟩], none⟩, ⟨some d8, .convert 23 36 (.tmp d7), y8, p8, #[⟨7, .data⟩], none⟩, ⟨some d9, .call { callee := .value (.func 37), args := #[.tmp d8, .const (.int .i64 10)], argTypes := atc }, y9, p9, #[⟨8, .data⟩], none⟩, ⟨some d10, .call { callee := .value (.func 33), args := #[.tmp d2, .tmp d9], argTypes := atf }, y10, p10, ef, none⟩] : List Oper).toArray m0 = true) :
    Tr N m0 f W lim (.region id #[⟨some d0, .move (.tmp 0), y0, p0, #[], none⟩, ⟨some d1, .nilCheck (.tmp d0), y1, p1, #[⟨0, .data⟩], none⟩, ⟨some d2, .fieldAddr T (.tmp d1) k, y2, p2, #[⟨1, .data⟩], none⟩, ⟨some d3, .move (.tmp tx), y3, p3, #[], none⟩, ⟨some d4, .nilCheck (.tmp d3), y4, p4, #[⟨3, .data⟩], none⟩, ⟨some d5, .fieldAddr T2 (.tmp d4) k2, y5, p5, #[⟨4, .data⟩], none⟩, ⟨some d6, .fieldAddr T3 (.tmp d5) k3, y6, p6, #[⟨5, .data⟩], none⟩, ⟨some d7, .load 23 (.tmp d6), y7, p7, #[⟨6, .data⟩], none⟩, ⟨some d8, .convert 23 36 (.tmp d7), y8, p8, #[⟨7, .data⟩], none⟩, ⟨some d9, .call { callee := .value (.func 37), args := #[.tmp d8, .const (.int .i64 10)], argTypes := atc }, y9, p9, #[⟨8, .data⟩], none⟩, ⟨some d10, .call { callee := .value (.func 33), args := #[.tmp d2, .tmp d9], argTypes := atf }, y10, p10, ef, none⟩] true) x.data.toList :=
  tr_drawn11 H (sp_mv hp) sp_nil (sp_fa hfa) (sp_mv hx) sp_nil (sp_fa hf2) (sp_fa hf3) (sp_ld ld_u32 hc) (sp_conv (v := .int .u64 n) (run_conv_u32 hn)) (hxn ▸ sp_formatUint H hT hn) hm hok ht hfit hlow
theorem lf_ver {N m0 : Nat} {f : Nat → Value} {W : List UInt8 → World → Prop} {lim : Nat} {T pb o k tx gx : Nat} {x : ByteArray} (H : Wr W lim ⟨pb, o, none⟩) (hp : f 0 = pt pb 0) (hfa : Fa T k pb 0 o) (hx : f tx = pt gx 0) {T2 k2 j n : Nat} (hn : n < 256) (hxn : x = dec n) (hT : ∀ s w, W s w → PowTab w) (hf2 : Fa T2 k2 gx 0 j) (hc : ∀ s w, W s w → w.cell? ⟨gx, j, none⟩ = some (.int .u8 n)) {id d0 d1 d2 d3 d4 d5 d6 d7 d8 : Nat} {y0 y1 y2 y3 y4 y5 y6 y7 y8 : TypeId} {p0 p1 p2 p3 p4 p5 p6 p7 p8 : String} {ef : Array Edge} {atf atc : Array TypeId}
    (hm : 0 < m0 ∧ tx < m0) (hok : ogOk ([⟨some d0, .move (.tmp 0), y0, p0, #[], none⟩, ⟨some d1, .nilCheck (.tmp d0), y1, p1, #[⟨0, .data⟩], none⟩, ⟨some d2, .fieldAddr T (.tmp d1) k, y2, p2, #[⟨1, .data⟩], none⟩, ⟨some d3, .move (.tmp tx), y3, p3, #[], none⟩, ⟨some d4, .nilCheck (.tmp d3), y4, p4, #[⟨3, .data⟩], none⟩, ⟨some d5, .fieldAddr T2 (.tmp d4) k2, y5, p5, #[⟨4, .data⟩], none⟩, ⟨some d6, .load 5 (.tmp d5), y6, p6, #[⟨5, .data⟩], none⟩, ⟨some d7, .call { callee := .value (.func 34), args := #[.tmp d6], argTypes := atc }, y7, p7, #[⟨6, .data⟩], none⟩, ⟨some d8, .call { callee := .value (.func 33), args := #[.tmp d2, .tmp d7], argTypes := atf }, y8, p8, ef, none⟩] : List Oper).toArray = true) (ht : ogTail ([⟨some d0, .move (.tmp 0), y0, p0, #[], none⟩, ⟨some d1, .nilCheck (.tmp d0), y1, p1, #[⟨0, .data⟩], none⟩, ⟨some d2, .fieldAddr T (.tmp d1) k, y2, p2, #[⟨1, .data⟩], none⟩, ⟨some d3, .move (.tmp tx), y3, p3, #[], none⟩, ⟨some d4, .nilCheck (.tmp d3), y4, p4, #[⟨3, .data⟩], none⟩, ⟨some d5, .fieldAddr T2 (.tmp d4) k2, y5, p5, #[⟨4, .data⟩], none⟩, ⟨some d6, .load 5 (.tmp d5), y6, p6, #[⟨5, .data⟩], none⟩, ⟨some d7, .call { callee := .value (.func 34), args := #[.tmp d6], argTypes := atc }, y7, p7, #[⟨6, .data⟩], none⟩, ⟨some d8, .call { callee := .value (.func 33), args := #[.tmp d2, .tmp d7], argTypes := atf }, y8, p8, ef, none⟩] : List Oper).toArray 8 = true) (hfit : ogFit ([⟨some d0, .move (.tmp 0), y0, p0, #[], none⟩, ⟨some d1, .nilCheck (.tmp d0), y1, p1, #[⟨0, .data⟩], none⟩, ⟨some d2, .fieldAddr T (.tmp d1) k, y2, p2, #[⟨1, .data⟩], none⟩, ⟨some d3, .move (.tmp tx), y3, p3, #[], none⟩, ⟨some d4, .nilCheck (.tmp d3), y4, p4, #[⟨3, .data⟩], none⟩, ⟨some d5, .fieldAddr T2 (.tmp d4) k2, y5, p5, #[⟨4, .data⟩], none⟩, ⟨some d6, .load 5 (.tmp d5), y6, p6, #[⟨5, .data⟩], none⟩, ⟨some d7, .call { callee := .value (.func 34), args := #[.tmp d6], argTypes := atc }, y7, p7, #[⟨6, .data⟩], none⟩, ⟨some d8, .call { callee := .value (.func 33), args := #[.tmp d2, .tmp d7], argTypes := atf }, y8, p8, ef, none⟩] : List Oper).toArray [] N = true) (hlow : lowOk ([⟨some d0, .move (.tmp 0), y0, p0, #[], none⟩, ⟨some d1, .nilCheck (.tmp d0), y1, p1, #[⟨0, .data⟩], none⟩, ⟨some d2, .fieldAddr T (.tmp d1) k, y2, p2, #[⟨1, .data⟩], none⟩, ⟨some d3, .move (.tmp tx), y3, p3, #[], none⟩, ⟨some d4, .nilCheck (.tmp d3), y4, p4, #[⟨3, .data⟩], none⟩, ⟨some d5, .fieldAddr T2 (.tmp d4) k2, y5, p5, #[⟨4, .data⟩], none⟩, ⟨some d6, .load 5 (.tmp d5), y6, p6, #[⟨5, .data⟩], none⟩, ⟨some d7, .call { callee := .value (.func 34), args := #[.tmp d6], argTypes := atc }, y7, p7, #[⟨6, .data⟩], none⟩, ⟨some d8, .call { callee := .value (.func 33), args := #[.tmp d2, .tmp d7], argTypes := atf }, y8, p8, ef, none⟩] : List Oper).toArray m0 = true) :
    Tr N m0 f W lim (.region id #[⟨some d0, .move (.tmp 0), y0, p0, #[], none⟩, ⟨some d1, .nilCheck (.tmp d0), y1, p1, #[⟨0, .data⟩], none⟩, ⟨some d2, .fieldAddr T (.tmp d1) k, y2, p2, #[⟨1, .data⟩], none⟩, ⟨some d3, .move (.tmp tx), y3, p3, #[], none⟩, ⟨some d4, .nilCheck (.tmp d3), y4, p4, #[⟨3, .data⟩], none⟩, ⟨some d5, .fieldAddr T2 (.tmp d4) k2, y5, p5, #[⟨4, .data⟩], none⟩, ⟨some d6, .load 5 (.tmp d5), y6, p6, #[⟨5, .data⟩], none⟩, ⟨some d7, .call { callee := .value (.func 34), args := #[.tmp d6], argTypes := atc }, y7, p7, #[⟨6, .data⟩], none⟩, ⟨some d8, .call { callee := .value (.func 33), args := #[.tmp d2, .tmp d7], argTypes := atf }, y8, p8, ef, none⟩] true) x.data.toList :=
  tr_drawn9 H (sp_mv hp) sp_nil (sp_fa hfa) (sp_mv hx) sp_nil (sp_fa hf2) (sp_ld ld_u8 hc) (hxn ▸ sp_strver H hT hn) hm hok ht hfit hlow
theorem ts_str {N m0 : Nat} {f : Nat → Value} {W : List UInt8 → World → Prop} {tx gx : Nat} (hx : f tx = pt gx 0) {T2 k2 j : Nat} {x : ByteArray} (hf2 : Fa T2 k2 gx 0 j) (hc : ∀ s w, W s w → w.cell? ⟨gx, j, none⟩ = some (.string x)) {id d0 d1 d2 d3 d4 : Nat} {y0 y1 y2 y3 y4 : TypeId} {p0 p1 p2 p3 p4 : String} {e0 e1 e2 e3 e4 : Array Edge}
    (hm : tx < m0 ∧ m0 ≤ d0 ∧ m0 ≤ d1 ∧ m0 ≤ d2 ∧ m0 ≤ d3 ∧ m0 ≤ d4) (hN : d0 < N ∧ d1 < N ∧ d2 < N ∧ d3 < N ∧ d4 < N) :
    Ts N m0 f W (.region id #[⟨some d0, .move (.tmp tx), y0, p0, e0, none⟩, ⟨some d1, .nilCheck (.tmp d0), y1, p1, e1, none⟩, ⟨some d2, .fieldAddr T2 (.tmp d1) k2, y2, p2, e2, none⟩, ⟨some d3, .load 9 (.tmp d2), y3, p3, e3, none⟩, ⟨some d4, .binOp .neq 9 (.tmp d3) (.const (.string ⟨#[]⟩)) 9, y4, p4, e4, none⟩] false) d4 (.bool (ne x)) :=
  ts_chain5 (sp_mv hx) sp_nil (sp_fa hf2) (sp_ld ld_string hc) (sp_bin (run_neq_empty x) (run_guard _ _ _ _ _ _)) hm hN
theorem ts_str2 {N m0 : Nat} {f : Nat → Value} {W : List UInt8 → World → Prop} {tx gx : Nat} (hx : f tx = pt gx 0) {T2 k2 i T3 k3 j : Nat} {x : ByteArray} (hf2 : Fa T2 k2 gx 0 i) (hf3 : Fa T3 k3 gx i j) (hc : ∀ s w, W s w → w.cell? ⟨gx, j, none⟩ = some (.string x)) {id d0 d1 d2 d3 d4 d5 : Nat} {y0 y1 y2 y3 y4 y5 : TypeId} {p0 p1 p2 p3 p4 p5 : String} {e0 e1 e2 e3 e4 e5 : Array Edge}
    (hm : tx < m0 ∧ m0 ≤ d0 ∧ m0 ≤ d1 ∧ m0 ≤ d2 ∧ m0 ≤ d3 ∧ m0 ≤ d4 ∧ m0 ≤ d5) (hN : d0 < N ∧ d1 < N ∧ d2 < N ∧ d3 < N ∧ d4 < N ∧ d5 < N) :
    Ts N m0 f W (.region id #[⟨some d0, .move (.tmp tx), y0, p0, e0, none⟩, ⟨some d1, .nilCheck (.tmp d0), y1, p1, e1, none⟩, ⟨some d2, .fieldAddr T2 (.tmp d1) k2, y2, p2, e2, none⟩, ⟨some d3, .fieldAddr T3 (.tmp d2) k3, y3, p3, e3, none⟩, ⟨some d4, .load 9 (.tmp d3), y4, p4, e4, none⟩, ⟨some d5, .binOp .neq 9 (.tmp d4) (.const (.string ⟨#[]⟩)) 9, y5, p5, e5, none⟩] false) d5 (.bool (ne x)) :=
  ts_chain6 (sp_mv hx) sp_nil (sp_fa hf2) (sp_fa hf3) (sp_ld ld_string hc) (sp_bin (run_neq_empty x) (run_guard _ _ _ _ _ _)) hm hN
theorem ts_bool {N m0 : Nat} {f : Nat → Value} {W : List UInt8 → World → Prop} {tx gx : Nat} (hx : f tx = pt gx 0) {T2 k2 j : Nat} {b : Bool} (hf2 : Fa T2 k2 gx 0 j) (hc : ∀ s w, W s w → w.cell? ⟨gx, j, none⟩ = some (.bool b)) {id d0 d1 d2 d3 : Nat} {y0 y1 y2 y3 : TypeId} {p0 p1 p2 p3 : String} {e0 e1 e2 e3 : Array Edge}
    (hm : tx < m0 ∧ m0 ≤ d0 ∧ m0 ≤ d1 ∧ m0 ≤ d2 ∧ m0 ≤ d3) (hN : d0 < N ∧ d1 < N ∧ d2 < N ∧ d3 < N) :
    Ts N m0 f W (.region id #[⟨some d0, .move (.tmp tx), y0, p0, e0, none⟩, ⟨some d1, .nilCheck (.tmp d0), y1, p1, e1, none⟩, ⟨some d2, .fieldAddr T2 (.tmp d1) k2, y2, p2, e2, none⟩, ⟨some d3, .load 4 (.tmp d2), y3, p3, e3, none⟩] false) d3 (.bool b) :=
  ts_chain4 (sp_mv hx) sp_nil (sp_fa hf2) (sp_ld ld_bool hc) hm hN
theorem ts_bool2 {N m0 : Nat} {f : Nat → Value} {W : List UInt8 → World → Prop} {tx gx : Nat} (hx : f tx = pt gx 0) {T2 k2 i T3 k3 j : Nat} {b : Bool} (hf2 : Fa T2 k2 gx 0 i) (hf3 : Fa T3 k3 gx i j) (hc : ∀ s w, W s w → w.cell? ⟨gx, j, none⟩ = some (.bool b)) {id d0 d1 d2 d3 d4 : Nat} {y0 y1 y2 y3 y4 : TypeId} {p0 p1 p2 p3 p4 : String} {e0 e1 e2 e3 e4 : Array Edge}
    (hm : tx < m0 ∧ m0 ≤ d0 ∧ m0 ≤ d1 ∧ m0 ≤ d2 ∧ m0 ≤ d3 ∧ m0 ≤ d4) (hN : d0 < N ∧ d1 < N ∧ d2 < N ∧ d3 < N ∧ d4 < N) :
    Ts N m0 f W (.region id #[⟨some d0, .move (.tmp tx), y0, p0, e0, none⟩, ⟨some d1, .nilCheck (.tmp d0), y1, p1, e1, none⟩, ⟨some d2, .fieldAddr T2 (.tmp d1) k2, y2, p2, e2, none⟩, ⟨some d3, .fieldAddr T3 (.tmp d2) k3, y3, p3, e3, none⟩, ⟨some d4, .load 4 (.tmp d3), y4, p4, e4, none⟩] false) d4 (.bool b) :=
  ts_chain5 (sp_mv hx) sp_nil (sp_fa hf2) (sp_fa hf3) (sp_ld ld_bool hc) hm hN
theorem ts_gen2 {N m0 : Nat} {f : Nat → Value} {W : List UInt8 → World → Prop} {tx gx : Nat} (hx : f tx = pt gx 0) {T2 k2 i T3 k3 j L : Nat} {q : Op} {u v : Value} (hf2 : Fa T2 k2 gx 0 i) (hf3 : Fa T3 k3 gx i j) (hL : Ld L) (hc : ∀ s w, W s w → w.cell? ⟨gx, j, none⟩ = some u) {id d0 d1 d2 d3 d4 d5 : Nat} {y5 : TypeId} {p5 : String} {e5 : Array Edge} (hq : Sp W ⟨some d5, q, y5, p5, e5, none⟩ (.tmp d4) u v) {y0 y1 y2 y3 y4 : TypeId} {p0 p1 p2 p3 p4 : String} {e0 e1 e2 e3 e4 : Array Edge}
    (hm : tx < m0 ∧ m0 ≤ d0 ∧ m0 ≤ d1 ∧ m0 ≤ d2 ∧ m0 ≤ d3 ∧ m0 ≤ d4 ∧ m0 ≤ d5) (hN : d0 < N ∧ d1 < N ∧ d2 < N ∧ d3 < N ∧ d4 < N ∧ d5 < N) :
    Ts N m0 f W (.region id #[⟨some d0, .move (.tmp tx), y0, p0, e0, none⟩, ⟨some d1, .nilCheck (.tmp d0), y1, p1, e1, none⟩, ⟨some d2, .fieldAddr T2 (.tmp d1) k2, y2, p2, e2, none⟩, ⟨some d3, .fieldAddr T3 (.tmp d2) k3, y3, p3, e3, none⟩, ⟨some d4, .load L (.tmp d3), y4, p4, e4, none⟩, ⟨some d5, q, y5, p5, e5, none⟩] false) d5 v :=
  ts_chain6 (sp_mv hx) sp_nil (sp_fa hf2) (sp_fa hf3) (sp_ld hL hc) hq hm hN
end Go.Proofs.YtkddkmiomhadaaaDoor
