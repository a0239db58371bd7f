/- MasterPlaylist.Encode's pieces: what a rendition's line and a variant's lines write. Printed by wip/tools/gen_enc.py. -/
import Derived.Test.YtkddkmiomhadaaaDoorEnl
import Derived.Test.YtkddkmiomhadaaaDoorM2
namespace Go.Proofs.YtkddkmiomhadaaaDoor
open Go.RowKit
def cA : Code → Code | .seq x _ => x | .cond _ x _ => x | .block _ x => x | .loop x => x | c => c
def cB : Code → Code | .seq _ y => y | .cond _ _ y => y | c => c
noncomputable def encBody : Code := Tryd.f28.body.getD .skip
/-- A rendition's texts are short. -/
structure At.Ok (y : At) : Prop where
  typ : y.typ.size ≤ 100
  grp : y.grp.size ≤ 100
  name : y.name.size ≤ 100
  auto : y.auto.size ≤ 100
  lang : y.lang.size ≤ 100
  uri : y.uri.size ≤ 100
/-- A rendition's block. -/
def At.mcells (y : At) : Array Value := #[.string y.grp, .string y.uri, .string y.typ, .string y.lang, .string y.name, .bool y.dflt, .string y.auto, .string ⟨#[]⟩, .string ⟨#[]⟩, .string ⟨#[]⟩]
/-- An eighth's bits. -/
def e8 (t : Nat) : Nat := (floatBits .quo .f64 (floatOfInt .f64 (t : Int)) 4620693217682128896).getD 0
/-- A variant's block. -/
def Vt.mcells (v : Vt) (fr : Bool) (sl : Value) : Array Value := #[.string v.uri, .pointer none, .int .u32 v.program, .int .u32 v.bandwidth, .int .u32 v.average, .string v.codecs, .string v.resolution, .string v.audio, .string v.video, .string v.subtitles, .string v.captions, .string v.name, .bool fr, .string ⟨#[]⟩, .string ⟨#[]⟩, .float .f64 (e8 v.rate), sl]
def isNone (s : ByteArray) : Bool := s.data.toList == [78, 79, 78, 69]
def zzi : List UInt8 → Int → Int
  | [], _ => -1
  | c :: r, i => if c == 63 then i else zzi r (i + 1)
def hasQ (s : ByteArray) : Bool := decide (0 ≤ zzi s.data.toList 0)
set_option maxRecDepth 100000 in
theorem fa_buf (g : Nat) : Fa 74 3 g 0 3 := by intro w; go_simp
set_option maxRecDepth 100000 in
theorem fa_mp_0 (g : Nat) : Fa 74 0 g 0 0 := by intro w; go_simp
set_option maxRecDepth 100000 in
theorem fa_mp_1 (g : Nat) : Fa 74 1 g 0 1 := by intro w; go_simp
set_option maxRecDepth 100000 in
theorem fa_mp_4 (g : Nat) : Fa 74 4 g 0 6 := by intro w; go_simp
set_option maxRecDepth 100000 in
theorem fa_mp_5 (g : Nat) : Fa 74 5 g 0 7 := by intro w; go_simp
set_option maxRecDepth 100000 in
theorem fa_al_0 (g : Nat) : Fa 65 0 g 0 0 := by intro w; go_simp
set_option maxRecDepth 100000 in
theorem fa_al_1 (g : Nat) : Fa 65 1 g 0 1 := by intro w; go_simp
set_option maxRecDepth 100000 in
theorem fa_al_2 (g : Nat) : Fa 65 2 g 0 2 := by intro w; go_simp
set_option maxRecDepth 100000 in
theorem fa_al_3 (g : Nat) : Fa 65 3 g 0 3 := by intro w; go_simp
set_option maxRecDepth 100000 in
theorem fa_al_4 (g : Nat) : Fa 65 4 g 0 4 := by intro w; go_simp
set_option maxRecDepth 100000 in
theorem fa_al_5 (g : Nat) : Fa 65 5 g 0 5 := by intro w; go_simp
set_option maxRecDepth 100000 in
theorem fa_al_6 (g : Nat) : Fa 65 6 g 0 6 := by intro w; go_simp
set_option maxRecDepth 100000 in
theorem fa_al_7 (g : Nat) : Fa 65 7 g 0 7 := by intro w; go_simp
set_option maxRecDepth 100000 in
theorem fa_al_8 (g : Nat) : Fa 65 8 g 0 8 := by intro w; go_simp
set_option maxRecDepth 100000 in
theorem fa_al_9 (g : Nat) : Fa 65 9 g 0 9 := by intro w; go_simp
set_option maxRecDepth 100000 in
theorem fa_uri (g : Nat) : Fa 84 0 g 0 0 := by intro w; go_simp
set_option maxRecDepth 100000 in
theorem fa_va (g : Nat) : Fa 84 2 g 0 2 := by intro w; go_simp
set_option maxRecDepth 100000 in
theorem fa_vp_0 (g : Nat) : Fa 62 0 g 2 2 := by intro w; go_simp
set_option maxRecDepth 100000 in
theorem fa_vp_1 (g : Nat) : Fa 62 1 g 2 3 := by intro w; go_simp
set_option maxRecDepth 100000 in
theorem fa_vp_2 (g : Nat) : Fa 62 2 g 2 4 := by intro w; go_simp
set_option maxRecDepth 100000 in
theorem fa_vp_3 (g : Nat) : Fa 62 3 g 2 5 := by intro w; go_simp
set_option maxRecDepth 100000 in
theorem fa_vp_4 (g : Nat) : Fa 62 4 g 2 6 := by intro w; go_simp
set_option maxRecDepth 100000 in
theorem fa_vp_5 (g : Nat) : Fa 62 5 g 2 7 := by intro w; go_simp
set_option maxRecDepth 100000 in
theorem fa_vp_6 (g : Nat) : Fa 62 6 g 2 8 := by intro w; go_simp
set_option maxRecDepth 100000 in
theorem fa_vp_7 (g : Nat) : Fa 62 7 g 2 9 := by intro w; go_simp
set_option maxRecDepth 100000 in
theorem fa_vp_8 (g : Nat) : Fa 62 8 g 2 10 := by intro w; go_simp
set_option maxRecDepth 100000 in
theorem fa_vp_9 (g : Nat) : Fa 62 9 g 2 11 := by intro w; go_simp
set_option maxRecDepth 100000 in
theorem fa_vp_10 (g : Nat) : Fa 62 10 g 2 12 := by intro w; go_simp
set_option maxRecDepth 100000 in
theorem fa_vp_11 (g : Nat) : Fa 62 11 g 2 13 := by intro w; go_simp
set_option maxRecDepth 100000 in
theorem fa_vp_12 (g : Nat) : Fa 62 12 g 2 14 := by intro w; go_simp
set_option maxRecDepth 100000 in
theorem fa_vp_13 (g : Nat) : Fa 62 13 g 2 15 := by intro w; go_simp
set_option maxRecDepth 100000 in
theorem fa_vp_14 (g : Nat) : Fa 62 14 g 2 16 := by intro w; go_simp
theorem run_eql_none (s : ByteArray) (w : World) : (binOp .eql 9 (.string s) (.string ⟨#[78, 79, 78, 69]⟩)).run Tryd.prog w = .ok (.bool (isNone s)) w := by
  show Result.ok (Value.bool (s.toList == (⟨#[78, 79, 78, 69]⟩ : ByteArray).toList)) w = _
  rw [ByteArray.toList_eq, ByteArray.toList_eq]
  rfl
theorem run_neq_u32 (n : Nat) (w : World) : (binOp .neq 23 (.int .u32 n) (.int .u32 0)).run Tryd.prog w = .ok (.bool (decide (n ≠ 0))) w := by
  have h : (decide ((n : Int) ≠ 0)) = decide (n ≠ 0) := by by_cases hn : n = 0 <;> simp [hn]
  show Result.ok (Value.bool (!((n : Int) == 0))) w = _
  congr 2
  by_cases hn : n = 0
  · subst hn; rfl
  · have : (n : Int) ≠ 0 := by omega
    simp [hn, this]
theorem run_guard_u32 (b : BinOp) (T : Nat) (x y : Operand) (s t : Int) (w : World) : (eqGuard b T x y (.int .u32 s) (.int .u32 t)).run Tryd.prog w = .ok () w := by
  cases b <;> simp [eqGuard]
theorem run_guard_f64 (b : BinOp) (T : Nat) (x y : Operand) (s t : Nat) (w : World) : (eqGuard b T x y (.float .f64 s) (.float .f64 t)).run Tryd.prog w = .ok () w := by
  cases b <;> simp [eqGuard]
def RateOk (W : List UInt8 → World → Prop) (r : Nat) : Prop := ∀ s w, W s w → Calls Tryd.prog 38 #[.float .f64 (e8 r), .int .u8 102, .int .i64 3, .int .i64 64] w fun e w' => e = .returned (.string (secs r)) ∧ Below w.heap.size w w'
set_option maxRecDepth 100000 in
theorem lf_rate {N m0 : Nat} {f : Nat → Value} {W : List UInt8 → World → Prop} {lim : Nat} {T pb o k tx gx : Nat} (H : Wr W lim ⟨pb, o, none⟩) (hp : f 0 = pt pb 0) (hfa : Fa T k pb 0 o) (hx : f tx = pt gx 0) {T2 k2 i T3 k3 j r : Nat} (hF : RateOk W r) (hf2 : Fa T2 k2 gx 0 i) (hf3 : Fa T3 k3 gx i j) (hc : ∀ s w, W s w → w.cell? ⟨gx, j, none⟩ = some (.float .f64 (e8 r))) {id d0 d1 d2 d3 d4 d5 d6 d7 d8 d9 : Nat} {y0 y1 y2 y3 y4 y5 y6 y7 y8 y9 : TypeId} {p0 p1 p2 p3 p4 p5 p6 p7 p8 p9 : String} {ef : Array Edge} {atf atc : Array TypeId}
    (hm : 0 < m0 ∧ tx < m0) (hok : ogOk ([⟨some d0, .move (.tmp 0), y0, p0, #[], none⟩, ⟨some d1, .nilCheck (.tmp d0), y1, p1, #[⟨0, .data⟩], none⟩, ⟨some d2, .fieldAddr T (.tmp d1) k, y2, p2, #[⟨1, .data⟩], none⟩, ⟨some d3, .move (.tmp tx), y3, p3, #[], none⟩, ⟨some d4, .nilCheck (.tmp d3), y4, p4, #[⟨3, .data⟩], none⟩, ⟨some d5, .fieldAddr T2 (.tmp d4) k2, y5, p5, #[⟨4, .data⟩], none⟩, ⟨some d6, .fieldAddr T3 (.tmp d5) k3, y6, p6, #[⟨5, .data⟩], none⟩, ⟨some d7, .load 50 (.tmp d6), y7, p7, #[⟨6, .data⟩], none⟩, ⟨some d8, .call { callee := .value (.func 38), args := #[.tmp d7, .const (.int .u8 102), .const (.int .i64 3), .const (.int .i64 64)], argTypes := atc }, y8, p8, #[⟨7, .data⟩], none⟩, ⟨some d9, .call { callee := .value (.func 33), args := #[.tmp d2, .tmp d8], argTypes := atf }, y9, p9, ef, none⟩] : List Oper).toArray = true) (ht : ogTail ([⟨some d0, .move (.tmp 0), y0, p0, #[], none⟩, ⟨some d1, .nilCheck (.tmp d0), y1, p1, #[⟨0, .data⟩], none⟩, ⟨some d2, .fieldAddr T (.tmp d1) k, y2, p2, #[⟨1, .data⟩], none⟩, ⟨some d3, .move (.tmp tx), y3, p3, #[], none⟩, ⟨some d4, .nilCheck (.tmp d3), y4, p4, #[⟨3, .data⟩], none⟩, ⟨some d5, .fieldAddr T2 (.tmp d4) k2, y5, p5, #[⟨4, .data⟩], none⟩, ⟨some d6, .fieldAddr T3 (.tmp d5) k3, y6, p6, #[⟨5, .data⟩], none⟩, ⟨some d7, .load 50 (.tmp d6), y7, p7, #[⟨6, .data⟩], none⟩, ⟨some d8, .call { callee := .value (.func 38), args := #[.tmp d7, .const (.int .u8 102), .const (.int .i64 3), .const (.int .i64 64)], argTypes := atc }, y8, p8, #[⟨7, .data⟩], none⟩, ⟨some d9, .call { callee := .value (.func 33), args := #[.tmp d2, .tmp d8], argTypes := atf }, y9, p9, ef, none⟩] : List Oper).toArray 9 = true) (hfit : ogFit ([⟨some d0, .move (.tmp 0), y0, p0, #[], none⟩, ⟨some d1, .nilCheck (.tmp d0), y1, p1, #[⟨0, .data⟩], none⟩, ⟨some d2, .fieldAddr T (.tmp d1) k, y2, p2, #[⟨1, .data⟩], none⟩, ⟨some d3, .move (.tmp tx), y3, p3, #[], none⟩, ⟨some d4, .nilCheck (.tmp d3), y4, p4, #[⟨3, .data⟩], none⟩, ⟨some d5, .fieldAddr T2 (.tmp d4) k2, y5, p5, #[⟨4, .data⟩], none⟩, ⟨some d6, .fieldAddr T3 (.tmp d5) k3, y6, p6, #[⟨5, .data⟩], none⟩, ⟨some d7, .load 50 (.tmp d6), y7, p7, #[⟨6, .data⟩], none⟩, ⟨some d8, .call { callee := .value (.func 38), args := #[.tmp d7, .const (.int .u8 102), .const (.int .i64 3), .const (.int .i64 64)], argTypes := atc }, y8, p8, #[⟨7, .data⟩], none⟩, ⟨some d9, .call { callee := .value (.func 33), args := #[.tmp d2, .tmp d8], argTypes := atf }, y9, p9, ef, none⟩] : List Oper).toArray [] N = true) (hlow : lowOk ([⟨some d0, .move (.tmp 0), y0, p0, #[], none⟩, ⟨some d1, .nilCheck (.tmp d0), y1, p1, #[⟨0, .data⟩], none⟩, ⟨some d2, .fieldAddr T (.tmp d1) k, y2, p2, #[⟨1, .data⟩], none⟩, ⟨some d3, .move (.tmp tx), y3, p3, #[], none⟩, ⟨some d4, .nilCheck (.tmp d3), y4, p4, #[⟨3, .data⟩], none⟩, ⟨some d5, .fieldAddr T2 (.tmp d4) k2, y5, p5, #[⟨4, .data⟩], none⟩, ⟨some d6, .fieldAddr T3 (.tmp d5) k3, y6, p6, #[⟨5, .data⟩], none⟩, ⟨some d7, .load 50 (.tmp d6), y7, p7, #[⟨6, .data⟩], none⟩, ⟨some d8, .call { callee := .value (.func 38), args := #[.tmp d7, .const (.int .u8 102), .const (.int .i64 3), .const (.int .i64 64)], argTypes := atc }, y8, p8, #[⟨7, .data⟩], none⟩, ⟨some d9, .call { callee := .value (.func 33), args := #[.tmp d2, .tmp d8], argTypes := atf }, y9, p9, ef, none⟩] : List Oper).toArray m0 = true) :
    Tr N m0 f W lim (.region id #[⟨some d0, .move (.tmp 0), y0, p0, #[], none⟩, ⟨some d1, .nilCheck (.tmp d0), y1, p1, #[⟨0, .data⟩], none⟩, ⟨some d2, .fieldAddr T (.tmp d1) k, y2, p2, #[⟨1, .data⟩], none⟩, ⟨some d3, .move (.tmp tx), y3, p3, #[], none⟩, ⟨some d4, .nilCheck (.tmp d3), y4, p4, #[⟨3, .data⟩], none⟩, ⟨some d5, .fieldAddr T2 (.tmp d4) k2, y5, p5, #[⟨4, .data⟩], none⟩, ⟨some d6, .fieldAddr T3 (.tmp d5) k3, y6, p6, #[⟨5, .data⟩], none⟩, ⟨some d7, .load 50 (.tmp d6), y7, p7, #[⟨6, .data⟩], none⟩, ⟨some d8, .call { callee := .value (.func 38), args := #[.tmp d7, .const (.int .u8 102), .const (.int .i64 3), .const (.int .i64 64)], argTypes := atc }, y8, p8, #[⟨7, .data⟩], none⟩, ⟨some d9, .call { callee := .value (.func 33), args := #[.tmp d2, .tmp d8], argTypes := atf }, y9, p9, ef, none⟩] true) (secs r).data.toList := by
  refine tr_drawn10 H (sp_mv hp) sp_nil (sp_fa hfa) (sp_mv hx) sp_nil (sp_fa hf2) (sp_fa hf3) (sp_ld ld_f64 hc) ?_ hm hok ht hfit hlow
  refine sp_call (fn := 38) (args := #[.float .f64 (e8 r), .int .u8 102, .int .i64 3, .int .i64 64]) ?_ ?_
  · intro a s w _ hx
    simp only [execOp, resolve, List.map_toArray, List.map_cons, List.map_nil, hx]
    go_simp
  · intro s w hw
    refine (hF s w hw).mono ?_
    rintro e w' ⟨rfl, hb⟩
    exact ⟨rfl, H.below s w w' hw hb, hb⟩
def IndexOk (W : List UInt8 → World → Prop) (u : ByteArray) : Prop := ∀ s w, W s w → Calls Tryd.prog 39 #[.string u, .string ⟨#[63]⟩] w fun e w' => e = .returned (.int .i64 (zzi u.data.toList 0)) ∧ Below w.heap.size w w'
set_option maxRecDepth 100000 in
theorem ts_index {N m0 : Nat} {f : Nat → Value} {W : List UInt8 → World → Prop} {lim : Nat} {p : Addr} {tx gx : Nat} (H : Wr W lim p) (hx : f tx = pt gx 0) {u : ByteArray} (hI : IndexOk W u) (hc : ∀ s w, W s w → w.cell? ⟨gx, 0, none⟩ = some (.string u)) {id d0 d1 d2 d3 d4 d5 : Nat} {y0 y1 y2 y3 y4 y5 : TypeId} {p0 p1 p2 p3 p4 p5 : String} {e0 e1 e2 e3 e4 e5 : Array Edge} {atc : Array TypeId}
    (hm : tx < m0 ∧ m0 ≤ d0 ∧ m0 ≤ d1 ∧ m0 ≤ d2 ∧ m0 ≤ d3 ∧ m0 ≤ d4 ∧ m0 ≤ d5) (hN : d0 < N ∧ d1 < N ∧ d2 < N ∧ d3 < N ∧ d4 < N ∧ d5 < N) :
    Ts N m0 f W (.region id #[⟨some d0, .move (.tmp tx), y0, p0, e0, none⟩, ⟨some d1, .nilCheck (.tmp d0), y1, p1, e1, none⟩, ⟨some d2, .fieldAddr 84 (.tmp d1) 0, y2, p2, e2, none⟩, ⟨some d3, .load 9 (.tmp d2), y3, p3, e3, none⟩, ⟨some d4, .call { callee := .value (.func 39), args := #[.tmp d3, .const (.string ⟨#[63]⟩)], argTypes := atc }, y4, p4, e4, none⟩, ⟨some d5, .binOp .geq 3 (.tmp d4) (.const (.int .i64 0)) 3, y5, p5, e5, none⟩] false) d5 (.bool (hasQ u)) := by
  refine ts_chain6 (sp_mv hx) sp_nil (sp_fa (fa_uri _)) (sp_ld ld_string hc) ?_ (sp_bin (u := .int .i64 (zzi u.data.toList 0)) ?_ ?_) hm hN
  · refine sp_call (fn := 39) (args := #[.string u, .string ⟨#[63]⟩]) ?_ ?_
    · intro a s w _ hx
      simp only [execOp, resolve, List.map_toArray, List.map_cons, List.map_nil, hx]
      go_simp
    · intro s w hw
      refine (hI s w hw).mono ?_
      rintro e w' ⟨rfl, hb⟩
      exact ⟨rfl, H.below s w w' hw hb, hb⟩
  · intro w
    rfl
  · intro w
    simp [eqGuard]
/-- A rendition's line. -/
def At.media (y : At) : List UInt8 := ((⟨#[35, 69, 88, 84, 45, 88, 45, 77, 69, 68, 73, 65, 58]⟩ : ByteArray).data.toList ++ ((if ne y.typ = true then ((⟨#[84, 89, 80, 69, 61]⟩ : ByteArray).data.toList ++ y.typ.data.toList) else []) ++ ((if ne y.grp = true then ((⟨#[44, 71, 82, 79, 85, 80, 45, 73, 68, 61, 34]⟩ : ByteArray).data.toList ++ (y.grp.data.toList ++ [UInt8.ofNat 34])) else []) ++ ((if ne y.name = true then ((⟨#[44, 78, 65, 77, 69, 61, 34]⟩ : ByteArray).data.toList ++ (y.name.data.toList ++ [UInt8.ofNat 34])) else []) ++ ((⟨#[44, 68, 69, 70, 65, 85, 76, 84, 61]⟩ : ByteArray).data.toList ++ ((if y.dflt = true then (⟨#[89, 69, 83]⟩ : ByteArray).data.toList else (⟨#[78, 79]⟩ : ByteArray).data.toList) ++ ((if ne y.auto = true then ((⟨#[44, 65, 85, 84, 79, 83, 69, 76, 69, 67, 84, 61]⟩ : ByteArray).data.toList ++ y.auto.data.toList) else []) ++ ((if ne y.lang = true then ((⟨#[44, 76, 65, 78, 71, 85, 65, 71, 69, 61, 34]⟩ : ByteArray).data.toList ++ (y.lang.data.toList ++ [UInt8.ofNat 34])) else []) ++ ((if ne (⟨#[]⟩ : ByteArray) = true then ((⟨#[44, 70, 79, 82, 67, 69, 68, 61, 34]⟩ : ByteArray).data.toList ++ ((⟨#[]⟩ : ByteArray).data.toList ++ [UInt8.ofNat 34])) else []) ++ ((if ne (⟨#[]⟩ : ByteArray) = true then ((⟨#[44, 67, 72, 65, 82, 65, 67, 84, 69, 82, 73, 83, 84, 73, 67, 83, 61, 34]⟩ : ByteArray).data.toList ++ ((⟨#[]⟩ : ByteArray).data.toList ++ [UInt8.ofNat 34])) else []) ++ ((if ne (⟨#[]⟩ : ByteArray) = true then ((⟨#[44, 83, 85, 66, 84, 73, 84, 76, 69, 83, 61, 34]⟩ : ByteArray).data.toList ++ ((⟨#[]⟩ : ByteArray).data.toList ++ [UInt8.ofNat 34])) else []) ++ ((if ne y.uri = true then ((⟨#[44, 85, 82, 73, 61, 34]⟩ : ByteArray).data.toList ++ (y.uri.data.toList ++ [UInt8.ofNat 34])) else []) ++ [UInt8.ofNat 10]))))))))))))
set_option maxRecDepth 100000 in
set_option maxHeartbeats 4000000 in
theorem media_tr (y : At) {f : Nat → Value} {W : List UInt8 → World → Prop} {lim pb ga : Nat} (H : Wr W lim ⟨pb, 3, none⟩) (hp : f 0 = pt pb 0) (hx : f 7 = pt ga 0) (hc : ∀ s w, W s w → w.heap[ga]? = some (.cells y.mcells 65 (0, 0))) :
    Tr 815 93 f W lim (cB (cB (cB (cB (cA (cA (cB (cB (cA (cA (cB (cA (cB (cA (cB (cA (cA (cB (cB (cA (cA (cB (cA (cB (cB (cB (cB (cB (cB (cB encBody)))))))))))))))))))))))))))))) y.media := by
  unfold At.media
  refine Tr.seq ?_ ?_
  · exact lf_lit H hp (fa_buf _) (by decide) (by decide)
  refine Tr.seq ?_ ?_
  · refine Tr.opt (ts_str hx (fa_al_2 _) (fun s w h => cell_of_heap (hc s w h) rfl) (by decide) (by decide)) (fun _ => ?_)
    · refine Tr.seq ?_ ?_
      · exact lf_lit H hp (fa_buf _) (by decide) (by decide)
      exact lf_str H hp (fa_buf _) hx (fa_al_2 _) (fun s w h => cell_of_heap (hc s w h) rfl) (by decide) (by kernel_rfl) (by kernel_rfl) (by kernel_rfl) (by kernel_rfl)
  refine Tr.seq ?_ ?_
  · refine Tr.opt (ts_str hx (fa_al_0 _) (fun s w h => cell_of_heap (hc s w h) rfl) (by decide) (by decide)) (fun _ => ?_)
    · refine Tr.seq ?_ ?_
      · exact lf_lit H hp (fa_buf _) (by decide) (by decide)
      refine Tr.seq ?_ ?_
      · exact lf_str H hp (fa_buf _) hx (fa_al_0 _) (fun s w h => cell_of_heap (hc s w h) rfl) (by decide) (by kernel_rfl) (by kernel_rfl) (by kernel_rfl) (by kernel_rfl)
      exact lf_rune H hp (fa_buf _) (c := 34) (by decide) (by decide) (by decide)
  refine Tr.seq ?_ ?_
  · refine Tr.opt (ts_str hx (fa_al_4 _) (fun s w h => cell_of_heap (hc s w h) rfl) (by decide) (by decide)) (fun _ => ?_)
    · refine Tr.seq ?_ ?_
      · exact lf_lit H hp (fa_buf _) (by decide) (by decide)
      refine Tr.seq ?_ ?_
      · exact lf_str H hp (fa_buf _) hx (fa_al_4 _) (fun s w h => cell_of_heap (hc s w h) rfl) (by decide) (by kernel_rfl) (by kernel_rfl) (by kernel_rfl) (by kernel_rfl)
      exact lf_rune H hp (fa_buf _) (c := 34) (by decide) (by decide) (by decide)
  refine Tr.seq ?_ ?_
  · exact lf_lit H hp (fa_buf _) (by decide) (by decide)
  refine Tr.seq ?_ ?_
  · refine Tr.ite (ts_bool hx (fa_al_5 _) (fun s w h => cell_of_heap (hc s w h) rfl) (by decide) (by decide)) (fun _ => ?_) (fun _ => ?_)
    · exact lf_lit H hp (fa_buf _) (by decide) (by decide)
    · exact lf_lit H hp (fa_buf _) (by decide) (by decide)
  refine Tr.seq ?_ ?_
  · refine Tr.opt (ts_str hx (fa_al_6 _) (fun s w h => cell_of_heap (hc s w h) rfl) (by decide) (by decide)) (fun _ => ?_)
    · refine Tr.seq ?_ ?_
      · exact lf_lit H hp (fa_buf _) (by decide) (by decide)
      exact lf_str H hp (fa_buf _) hx (fa_al_6 _) (fun s w h => cell_of_heap (hc s w h) rfl) (by decide) (by kernel_rfl) (by kernel_rfl) (by kernel_rfl) (by kernel_rfl)
  refine Tr.seq ?_ ?_
  · refine Tr.opt (ts_str hx (fa_al_3 _) (fun s w h => cell_of_heap (hc s w h) rfl) (by decide) (by decide)) (fun _ => ?_)
    · refine Tr.seq ?_ ?_
      · exact lf_lit H hp (fa_buf _) (by decide) (by decide)
      refine Tr.seq ?_ ?_
      · exact lf_str H hp (fa_buf _) hx (fa_al_3 _) (fun s w h => cell_of_heap (hc s w h) rfl) (by decide) (by kernel_rfl) (by kernel_rfl) (by kernel_rfl) (by kernel_rfl)
      exact lf_rune H hp (fa_buf _) (c := 34) (by decide) (by decide) (by decide)
  refine Tr.seq ?_ ?_
  · refine Tr.opt (ts_str hx (fa_al_7 _) (fun s w h => cell_of_heap (hc s w h) rfl) (by decide) (by decide)) (fun _ => ?_)
    · refine Tr.seq ?_ ?_
      · exact lf_lit H hp (fa_buf _) (by decide) (by decide)
      refine Tr.seq ?_ ?_
      · exact lf_str H hp (fa_buf _) hx (fa_al_7 _) (fun s w h => cell_of_heap (hc s w h) rfl) (by decide) (by kernel_rfl) (by kernel_rfl) (by kernel_rfl) (by kernel_rfl)
      exact lf_rune H hp (fa_buf _) (c := 34) (by decide) (by decide) (by decide)
  refine Tr.seq ?_ ?_
  · refine Tr.opt (ts_str hx (fa_al_8 _) (fun s w h => cell_of_heap (hc s w h) rfl) (by decide) (by decide)) (fun _ => ?_)
    · refine Tr.seq ?_ ?_
      · exact lf_lit H hp (fa_buf _) (by decide) (by decide)
      refine Tr.seq ?_ ?_
      · exact lf_str H hp (fa_buf _) hx (fa_al_8 _) (fun s w h => cell_of_heap (hc s w h) rfl) (by decide) (by kernel_rfl) (by kernel_rfl) (by kernel_rfl) (by kernel_rfl)
      exact lf_rune H hp (fa_buf _) (c := 34) (by decide) (by decide) (by decide)
  refine Tr.seq ?_ ?_
  · refine Tr.opt (ts_str hx (fa_al_9 _) (fun s w h => cell_of_heap (hc s w h) rfl) (by decide) (by decide)) (fun _ => ?_)
    · refine Tr.seq ?_ ?_
      · exact lf_lit H hp (fa_buf _) (by decide) (by decide)
      refine Tr.seq ?_ ?_
      · exact lf_str H hp (fa_buf _) hx (fa_al_9 _) (fun s w h => cell_of_heap (hc s w h) rfl) (by decide) (by kernel_rfl) (by kernel_rfl) (by kernel_rfl) (by kernel_rfl)
      exact lf_rune H hp (fa_buf _) (c := 34) (by decide) (by decide) (by decide)
  refine Tr.seq ?_ ?_
  · refine Tr.opt (ts_str hx (fa_al_1 _) (fun s w h => cell_of_heap (hc s w h) rfl) (by decide) (by decide)) (fun _ => ?_)
    · refine Tr.seq ?_ ?_
      · exact lf_lit H hp (fa_buf _) (by decide) (by decide)
      refine Tr.seq ?_ ?_
      · exact lf_str H hp (fa_buf _) hx (fa_al_1 _) (fun s w h => cell_of_heap (hc s w h) rfl) (by decide) (by kernel_rfl) (by kernel_rfl) (by kernel_rfl) (by kernel_rfl)
      exact lf_rune H hp (fa_buf _) (c := 34) (by decide) (by decide) (by decide)
  exact lf_rune H hp (fa_buf _) (c := 10) (by decide) (by decide) (by decide)
/-- A variant's lines: of frames alone, or with its URI behind. -/
def Vt.lines (v : Vt) (fr : Bool) (args : ByteArray) : List UInt8 := (if fr = true then ((⟨#[35, 69, 88, 84, 45, 88, 45, 73, 45, 70, 82, 65, 77, 69, 45, 83, 84, 82, 69, 65, 77, 45, 73, 78, 70, 58, 80, 82, 79, 71, 82, 65, 77, 45, 73, 68, 61]⟩ : ByteArray).data.toList ++ ((dec v.program).data.toList ++ ((⟨#[44, 66, 65, 78, 68, 87, 73, 68, 84, 72, 61]⟩ : ByteArray).data.toList ++ ((dec v.bandwidth).data.toList ++ ((if decide (v.average ≠ 0) = true then ((⟨#[44, 65, 86, 69, 82, 65, 71, 69, 45, 66, 65, 78, 68, 87, 73, 68, 84, 72, 61]⟩ : ByteArray).data.toList ++ (dec v.average).data.toList) else []) ++ ((if ne v.codecs = true then ((⟨#[44, 67, 79, 68, 69, 67, 83, 61, 34]⟩ : ByteArray).data.toList ++ (v.codecs.data.toList ++ [UInt8.ofNat 34])) else []) ++ ((if ne v.resolution = true then ((⟨#[44, 82, 69, 83, 79, 76, 85, 84, 73, 79, 78, 61]⟩ : ByteArray).data.toList ++ v.resolution.data.toList) else []) ++ ((if ne v.video = true then ((⟨#[44, 86, 73, 68, 69, 79, 61, 34]⟩ : ByteArray).data.toList ++ (v.video.data.toList ++ [UInt8.ofNat 34])) else []) ++ ((if ne (⟨#[]⟩ : ByteArray) = true then ((⟨#[44, 86, 73, 68, 69, 79, 45, 82, 65, 78, 71, 69, 61]⟩ : ByteArray).data.toList ++ (⟨#[]⟩ : ByteArray).data.toList) else []) ++ ((if ne (⟨#[]⟩ : ByteArray) = true then ((⟨#[44, 72, 68, 67, 80, 45, 76, 69, 86, 69, 76, 61]⟩ : ByteArray).data.toList ++ (⟨#[]⟩ : ByteArray).data.toList) else []) ++ ((if ne v.uri = true then ((⟨#[44, 85, 82, 73, 61, 34]⟩ : ByteArray).data.toList ++ (v.uri.data.toList ++ [UInt8.ofNat 34])) else []) ++ [UInt8.ofNat 10]))))))))))) else ((⟨#[35, 69, 88, 84, 45, 88, 45, 83, 84, 82, 69, 65, 77, 45, 73, 78, 70, 58, 80, 82, 79, 71, 82, 65, 77, 45, 73, 68, 61]⟩ : ByteArray).data.toList ++ ((dec v.program).data.toList ++ ((⟨#[44, 66, 65, 78, 68, 87, 73, 68, 84, 72, 61]⟩ : ByteArray).data.toList ++ ((dec v.bandwidth).data.toList ++ ((if decide (v.average ≠ 0) = true then ((⟨#[44, 65, 86, 69, 82, 65, 71, 69, 45, 66, 65, 78, 68, 87, 73, 68, 84, 72, 61]⟩ : ByteArray).data.toList ++ (dec v.average).data.toList) else []) ++ ((if ne v.codecs = true then ((⟨#[44, 67, 79, 68, 69, 67, 83, 61, 34]⟩ : ByteArray).data.toList ++ (v.codecs.data.toList ++ [UInt8.ofNat 34])) else []) ++ ((if ne v.resolution = true then ((⟨#[44, 82, 69, 83, 79, 76, 85, 84, 73, 79, 78, 61]⟩ : ByteArray).data.toList ++ v.resolution.data.toList) else []) ++ ((if ne v.audio = true then ((⟨#[44, 65, 85, 68, 73, 79, 61, 34]⟩ : ByteArray).data.toList ++ (v.audio.data.toList ++ [UInt8.ofNat 34])) else []) ++ ((if ne v.video = true then ((⟨#[44, 86, 73, 68, 69, 79, 61, 34]⟩ : ByteArray).data.toList ++ (v.video.data.toList ++ [UInt8.ofNat 34])) else []) ++ ((if ne v.captions = true then ((⟨#[44, 67, 76, 79, 83, 69, 68, 45, 67, 65, 80, 84, 73, 79, 78, 83, 61]⟩ : ByteArray).data.toList ++ (if isNone v.captions = true then v.captions.data.toList else ([UInt8.ofNat 34] ++ (v.captions.data.toList ++ [UInt8.ofNat 34])))) else []) ++ ((if ne v.subtitles = true then ((⟨#[44, 83, 85, 66, 84, 73, 84, 76, 69, 83, 61, 34]⟩ : ByteArray).data.toList ++ (v.subtitles.data.toList ++ [UInt8.ofNat 34])) else []) ++ ((if ne v.name = true then ((⟨#[44, 78, 65, 77, 69, 61, 34]⟩ : ByteArray).data.toList ++ (v.name.data.toList ++ [UInt8.ofNat 34])) else []) ++ ((if decide (v.rate ≠ 0) = true then ((⟨#[44, 70, 82, 65, 77, 69, 45, 82, 65, 84, 69, 61]⟩ : ByteArray).data.toList ++ (secs v.rate).data.toList) else []) ++ ((if ne (⟨#[]⟩ : ByteArray) = true then ((⟨#[44, 86, 73, 68, 69, 79, 45, 82, 65, 78, 71, 69, 61]⟩ : ByteArray).data.toList ++ (⟨#[]⟩ : ByteArray).data.toList) else []) ++ ((if ne (⟨#[]⟩ : ByteArray) = true then ((⟨#[44, 72, 68, 67, 80, 45, 76, 69, 86, 69, 76, 61]⟩ : ByteArray).data.toList ++ (⟨#[]⟩ : ByteArray).data.toList) else []) ++ ([UInt8.ofNat 10] ++ (v.uri.data.toList ++ ((if ne args = true then ((if hasQ v.uri = true then [UInt8.ofNat 38] else [UInt8.ofNat 63]) ++ args.data.toList) else []) ++ [UInt8.ofNat 10])))))))))))))))))))
set_option maxRecDepth 100000 in
set_option maxHeartbeats 4000000 in
theorem lines_tr (v : Vt) (hv : v.Ok) (fr : Bool) (args : ByteArray) (sl : Value) {f : Nat → Value} {W : List UInt8 → World → Prop} {lim pb gv : Nat} (H : Wr W lim ⟨pb, 3, none⟩) (hp : f 0 = pt pb 0) (hx : f 5 = pt gv 0) (hc : ∀ s w, W s w → w.heap[gv]? = some (.cells (v.mcells fr sl) 84 (0, 0)))
    (ha : ∀ s w, W s w → w.cell? ⟨pb, 1, none⟩ = some (.string args)) (hT : ∀ s w, W s w → PowTab w) (hF : v.rate ≠ 0 → RateOk W v.rate) (hN : ∀ w, (binOp .neq 50 (.float .f64 (e8 v.rate)) (.float .f64 0)).run Tryd.prog w = .ok (.bool (decide (v.rate ≠ 0))) w) (hI : IndexOk W v.uri) :
    Tr 815 93 f W lim (cB (cB (cA (cA (cB (cB (cA (cA (cB (cA (cB (cB (cB (cB (cB (cB (cB encBody))))))))))))))))) (v.lines fr args) := by
  unfold Vt.lines
  refine Tr.ite (ts_bool2 hx (fa_va _) (fa_vp_10 _) (fun s w h => cell_of_heap (hc s w h) rfl) (by decide) (by decide)) (fun _ => ?_) (fun _ => ?_)
  · refine Tr.seq ?_ ?_
    · exact lf_lit H hp (fa_buf _) (by decide) (by decide)
    refine Tr.seq ?_ ?_
    · exact lf_num0 H hp (fa_buf _) hx hv.program rfl hT (fa_va _) (fa_vp_0 _) (fun s w h => cell_of_heap (hc s w h) rfl) (by decide) (by kernel_rfl) (by kernel_rfl) (by kernel_rfl) (by kernel_rfl)
    refine Tr.seq ?_ ?_
    · exact lf_lit H hp (fa_buf _) (by decide) (by decide)
    refine Tr.seq ?_ ?_
    · exact lf_num0 H hp (fa_buf _) hx hv.bandwidth rfl hT (fa_va _) (fa_vp_1 _) (fun s w h => cell_of_heap (hc s w h) rfl) (by decide) (by kernel_rfl) (by kernel_rfl) (by kernel_rfl) (by kernel_rfl)
    refine Tr.seq ?_ ?_
    · refine Tr.opt (ts_gen2 hx (fa_va _) (fa_vp_2 _) ld_u32 (fun s w h => cell_of_heap (hc s w h) rfl) (sp_bin (run_neq_u32 _) (run_guard_u32 _ _ _ _ _ _)) (by decide) (by decide)) (fun _ => ?_)
      · refine Tr.seq ?_ ?_
        · exact lf_lit H hp (fa_buf _) (by decide) (by decide)
        exact lf_num0 H hp (fa_buf _) hx hv.average rfl hT (fa_va _) (fa_vp_2 _) (fun s w h => cell_of_heap (hc s w h) rfl) (by decide) (by kernel_rfl) (by kernel_rfl) (by kernel_rfl) (by kernel_rfl)
    refine Tr.seq ?_ ?_
    · refine Tr.opt (ts_str2 hx (fa_va _) (fa_vp_3 _) (fun s w h => cell_of_heap (hc s w h) rfl) (by decide) (by decide)) (fun _ => ?_)
      · refine Tr.seq ?_ ?_
        · exact lf_lit H hp (fa_buf _) (by decide) (by decide)
        refine Tr.seq ?_ ?_
        · exact lf_str2 H hp (fa_buf _) hx (fa_va _) (fa_vp_3 _) (fun s w h => cell_of_heap (hc s w h) rfl) (by decide) (by kernel_rfl) (by kernel_rfl) (by kernel_rfl) (by kernel_rfl)
        exact lf_rune H hp (fa_buf _) (c := 34) (by decide) (by decide) (by decide)
    refine Tr.seq ?_ ?_
    · refine Tr.opt (ts_str2 hx (fa_va _) (fa_vp_4 _) (fun s w h => cell_of_heap (hc s w h) rfl) (by decide) (by decide)) (fun _ => ?_)
      · refine Tr.seq ?_ ?_
        · exact lf_lit H hp (fa_buf _) (by decide) (by decide)
        exact lf_str2 H hp (fa_buf _) hx (fa_va _) (fa_vp_4 _) (fun s w h => cell_of_heap (hc s w h) rfl) (by decide) (by kernel_rfl) (by kernel_rfl) (by kernel_rfl) (by kernel_rfl)
    refine Tr.seq ?_ ?_
    · refine Tr.opt (ts_str2 hx (fa_va _) (fa_vp_6 _) (fun s w h => cell_of_heap (hc s w h) rfl) (by decide) (by decide)) (fun _ => ?_)
      · refine Tr.seq ?_ ?_
        · exact lf_lit H hp (fa_buf _) (by decide) (by decide)
        refine Tr.seq ?_ ?_
        · exact lf_str2 H hp (fa_buf _) hx (fa_va _) (fa_vp_6 _) (fun s w h => cell_of_heap (hc s w h) rfl) (by decide) (by kernel_rfl) (by kernel_rfl) (by kernel_rfl) (by kernel_rfl)
        exact lf_rune H hp (fa_buf _) (c := 34) (by decide) (by decide) (by decide)
    refine Tr.seq ?_ ?_
    · refine Tr.opt (ts_str2 hx (fa_va _) (fa_vp_11 _) (fun s w h => cell_of_heap (hc s w h) rfl) (by decide) (by decide)) (fun _ => ?_)
      · refine Tr.seq ?_ ?_
        · exact lf_lit H hp (fa_buf _) (by decide) (by decide)
        exact lf_str2 H hp (fa_buf _) hx (fa_va _) (fa_vp_11 _) (fun s w h => cell_of_heap (hc s w h) rfl) (by decide) (by kernel_rfl) (by kernel_rfl) (by kernel_rfl) (by kernel_rfl)
    refine Tr.seq ?_ ?_
    · refine Tr.opt (ts_str2 hx (fa_va _) (fa_vp_12 _) (fun s w h => cell_of_heap (hc s w h) rfl) (by decide) (by decide)) (fun _ => ?_)
      · refine Tr.seq ?_ ?_
        · exact lf_lit H hp (fa_buf _) (by decide) (by decide)
        exact lf_str2 H hp (fa_buf _) hx (fa_va _) (fa_vp_12 _) (fun s w h => cell_of_heap (hc s w h) rfl) (by decide) (by kernel_rfl) (by kernel_rfl) (by kernel_rfl) (by kernel_rfl)
    refine Tr.seq ?_ ?_
    · refine Tr.opt (ts_str hx (fa_uri _) (fun s w h => cell_of_heap (hc s w h) rfl) (by decide) (by decide)) (fun _ => ?_)
      · refine Tr.seq ?_ ?_
        · exact lf_lit H hp (fa_buf _) (by decide) (by decide)
        refine Tr.seq ?_ ?_
        · exact lf_str H hp (fa_buf _) hx (fa_uri _) (fun s w h => cell_of_heap (hc s w h) rfl) (by decide) (by kernel_rfl) (by kernel_rfl) (by kernel_rfl) (by kernel_rfl)
        exact lf_rune H hp (fa_buf _) (c := 34) (by decide) (by decide) (by decide)
    exact lf_rune H hp (fa_buf _) (c := 10) (by decide) (by decide) (by decide)
  · refine Tr.seq ?_ ?_
    · exact lf_lit H hp (fa_buf _) (by decide) (by decide)
    refine Tr.seq ?_ ?_
    · exact lf_num0 H hp (fa_buf _) hx hv.program rfl hT (fa_va _) (fa_vp_0 _) (fun s w h => cell_of_heap (hc s w h) rfl) (by decide) (by kernel_rfl) (by kernel_rfl) (by kernel_rfl) (by kernel_rfl)
    refine Tr.seq ?_ ?_
    · exact lf_lit H hp (fa_buf _) (by decide) (by decide)
    refine Tr.seq ?_ ?_
    · exact lf_num0 H hp (fa_buf _) hx hv.bandwidth rfl hT (fa_va _) (fa_vp_1 _) (fun s w h => cell_of_heap (hc s w h) rfl) (by decide) (by kernel_rfl) (by kernel_rfl) (by kernel_rfl) (by kernel_rfl)
    refine Tr.seq ?_ ?_
    · refine Tr.opt (ts_gen2 hx (fa_va _) (fa_vp_2 _) ld_u32 (fun s w h => cell_of_heap (hc s w h) rfl) (sp_bin (run_neq_u32 _) (run_guard_u32 _ _ _ _ _ _)) (by decide) (by decide)) (fun _ => ?_)
      · refine Tr.seq ?_ ?_
        · exact lf_lit H hp (fa_buf _) (by decide) (by decide)
        exact lf_num0 H hp (fa_buf _) hx hv.average rfl hT (fa_va _) (fa_vp_2 _) (fun s w h => cell_of_heap (hc s w h) rfl) (by decide) (by kernel_rfl) (by kernel_rfl) (by kernel_rfl) (by kernel_rfl)
    refine Tr.seq ?_ ?_
    · refine Tr.opt (ts_str2 hx (fa_va _) (fa_vp_3 _) (fun s w h => cell_of_heap (hc s w h) rfl) (by decide) (by decide)) (fun _ => ?_)
      · refine Tr.seq ?_ ?_
        · exact lf_lit H hp (fa_buf _) (by decide) (by decide)
        refine Tr.seq ?_ ?_
        · exact lf_str2 H hp (fa_buf _) hx (fa_va _) (fa_vp_3 _) (fun s w h => cell_of_heap (hc s w h) rfl) (by decide) (by kernel_rfl) (by kernel_rfl) (by kernel_rfl) (by kernel_rfl)
        exact lf_rune H hp (fa_buf _) (c := 34) (by decide) (by decide) (by decide)
    refine Tr.seq ?_ ?_
    · refine Tr.opt (ts_str2 hx (fa_va _) (fa_vp_4 _) (fun s w h => cell_of_heap (hc s w h) rfl) (by decide) (by decide)) (fun _ => ?_)
      · refine Tr.seq ?_ ?_
        · exact lf_lit H hp (fa_buf _) (by decide) (by decide)
        exact lf_str2 H hp (fa_buf _) hx (fa_va _) (fa_vp_4 _) (fun s w h => cell_of_heap (hc s w h) rfl) (by decide) (by kernel_rfl) (by kernel_rfl) (by kernel_rfl) (by kernel_rfl)
    refine Tr.seq ?_ ?_
    · refine Tr.opt (ts_str2 hx (fa_va _) (fa_vp_5 _) (fun s w h => cell_of_heap (hc s w h) rfl) (by decide) (by decide)) (fun _ => ?_)
      · refine Tr.seq ?_ ?_
        · exact lf_lit H hp (fa_buf _) (by decide) (by decide)
        refine Tr.seq ?_ ?_
        · exact lf_str2 H hp (fa_buf _) hx (fa_va _) (fa_vp_5 _) (fun s w h => cell_of_heap (hc s w h) rfl) (by decide) (by kernel_rfl) (by kernel_rfl) (by kernel_rfl) (by kernel_rfl)
        exact lf_rune H hp (fa_buf _) (c := 34) (by decide) (by decide) (by decide)
    refine Tr.seq ?_ ?_
    · refine Tr.opt (ts_str2 hx (fa_va _) (fa_vp_6 _) (fun s w h => cell_of_heap (hc s w h) rfl) (by decide) (by decide)) (fun _ => ?_)
      · refine Tr.seq ?_ ?_
        · exact lf_lit H hp (fa_buf _) (by decide) (by decide)
        refine Tr.seq ?_ ?_
        · exact lf_str2 H hp (fa_buf _) hx (fa_va _) (fa_vp_6 _) (fun s w h => cell_of_heap (hc s w h) rfl) (by decide) (by kernel_rfl) (by kernel_rfl) (by kernel_rfl) (by kernel_rfl)
        exact lf_rune H hp (fa_buf _) (c := 34) (by decide) (by decide) (by decide)
    refine Tr.seq ?_ ?_
    · refine Tr.opt (ts_str2 hx (fa_va _) (fa_vp_8 _) (fun s w h => cell_of_heap (hc s w h) rfl) (by decide) (by decide)) (fun _ => ?_)
      · refine Tr.seq ?_ ?_
        · exact lf_lit H hp (fa_buf _) (by decide) (by decide)
        refine Tr.ite (ts_gen2 hx (fa_va _) (fa_vp_8 _) ld_string (fun s w h => cell_of_heap (hc s w h) rfl) (sp_bin (run_eql_none _) (run_guard _ _ _ _ _ _)) (by decide) (by decide)) (fun _ => ?_) (fun _ => ?_)
        · exact lf_str2 H hp (fa_buf _) hx (fa_va _) (fa_vp_8 _) (fun s w h => cell_of_heap (hc s w h) rfl) (by decide) (by kernel_rfl) (by kernel_rfl) (by kernel_rfl) (by kernel_rfl)
        · refine Tr.seq ?_ ?_
          · exact lf_rune H hp (fa_buf _) (c := 34) (by decide) (by decide) (by decide)
          refine Tr.seq ?_ ?_
          · exact lf_str2 H hp (fa_buf _) hx (fa_va _) (fa_vp_8 _) (fun s w h => cell_of_heap (hc s w h) rfl) (by decide) (by kernel_rfl) (by kernel_rfl) (by kernel_rfl) (by kernel_rfl)
          exact lf_rune H hp (fa_buf _) (c := 34) (by decide) (by decide) (by decide)
    refine Tr.seq ?_ ?_
    · refine Tr.opt (ts_str2 hx (fa_va _) (fa_vp_7 _) (fun s w h => cell_of_heap (hc s w h) rfl) (by decide) (by decide)) (fun _ => ?_)
      · refine Tr.seq ?_ ?_
        · exact lf_lit H hp (fa_buf _) (by decide) (by decide)
        refine Tr.seq ?_ ?_
        · exact lf_str2 H hp (fa_buf _) hx (fa_va _) (fa_vp_7 _) (fun s w h => cell_of_heap (hc s w h) rfl) (by decide) (by kernel_rfl) (by kernel_rfl) (by kernel_rfl) (by kernel_rfl)
        exact lf_rune H hp (fa_buf _) (c := 34) (by decide) (by decide) (by decide)
    refine Tr.seq ?_ ?_
    · refine Tr.opt (ts_str2 hx (fa_va _) (fa_vp_9 _) (fun s w h => cell_of_heap (hc s w h) rfl) (by decide) (by decide)) (fun _ => ?_)
      · refine Tr.seq ?_ ?_
        · exact lf_lit H hp (fa_buf _) (by decide) (by decide)
        refine Tr.seq ?_ ?_
        · exact lf_str2 H hp (fa_buf _) hx (fa_va _) (fa_vp_9 _) (fun s w h => cell_of_heap (hc s w h) rfl) (by decide) (by kernel_rfl) (by kernel_rfl) (by kernel_rfl) (by kernel_rfl)
        exact lf_rune H hp (fa_buf _) (c := 34) (by decide) (by decide) (by decide)
    refine Tr.seq ?_ ?_
    · refine Tr.opt (ts_gen2 hx (fa_va _) (fa_vp_13 _) ld_f64 (fun s w h => cell_of_heap (hc s w h) rfl) (sp_bin hN (run_guard_f64 _ _ _ _ _ _)) (by decide) (by decide)) (fun hb => ?_)
      · refine Tr.seq ?_ ?_
        · exact lf_lit H hp (fa_buf _) (by decide) (by decide)
        exact lf_rate H hp (fa_buf _) hx (hF (of_decide_eq_true hb)) (fa_va _) (fa_vp_13 _) (fun s w h => cell_of_heap (hc s w h) rfl) (by decide) (by kernel_rfl) (by kernel_rfl) (by kernel_rfl) (by kernel_rfl)
    refine Tr.seq ?_ ?_
    · refine Tr.opt (ts_str2 hx (fa_va _) (fa_vp_11 _) (fun s w h => cell_of_heap (hc s w h) rfl) (by decide) (by decide)) (fun _ => ?_)
      · refine Tr.seq ?_ ?_
        · exact lf_lit H hp (fa_buf _) (by decide) (by decide)
        exact lf_str2 H hp (fa_buf _) hx (fa_va _) (fa_vp_11 _) (fun s w h => cell_of_heap (hc s w h) rfl) (by decide) (by kernel_rfl) (by kernel_rfl) (by kernel_rfl) (by kernel_rfl)
    refine Tr.seq ?_ ?_
    · refine Tr.opt (ts_str2 hx (fa_va _) (fa_vp_12 _) (fun s w h => cell_of_heap (hc s w h) rfl) (by decide) (by decide)) (fun _ => ?_)
      · refine Tr.seq ?_ ?_
        · exact lf_lit H hp (fa_buf _) (by decide) (by decide)
        exact lf_str2 H hp (fa_buf _) hx (fa_va _) (fa_vp_12 _) (fun s w h => cell_of_heap (hc s w h) rfl) (by decide) (by kernel_rfl) (by kernel_rfl) (by kernel_rfl) (by kernel_rfl)
    refine Tr.seq ?_ ?_
    · exact lf_rune H hp (fa_buf _) (c := 10) (by decide) (by decide) (by decide)
    refine Tr.seq ?_ ?_
    · exact lf_str H hp (fa_buf _) hx (fa_uri _) (fun s w h => cell_of_heap (hc s w h) rfl) (by decide) (by kernel_rfl) (by kernel_rfl) (by kernel_rfl) (by kernel_rfl)
    refine Tr.seq ?_ ?_
    · refine Tr.opt (ts_str hp (fa_mp_1 _) ha (by decide) (by decide)) (fun _ => ?_)
      · refine Tr.seq ?_ ?_
        · refine Tr.ite (ts_index H hx hI (fun s w h => cell_of_heap (hc s w h) rfl) (by decide) (by decide)) (fun _ => ?_) (fun _ => ?_)
          · exact lf_rune H hp (fa_buf _) (c := 38) (by decide) (by decide) (by decide)
          · exact lf_rune H hp (fa_buf _) (c := 63) (by decide) (by decide) (by decide)
        exact lf_str H hp (fa_buf _) hp (fa_mp_1 _) ha (by decide) (by kernel_rfl) (by kernel_rfl) (by kernel_rfl) (by kernel_rfl)
    exact lf_rune H hp (fa_buf _) (c := 10) (by decide) (by decide) (by decide)
end Go.Proofs.YtkddkmiomhadaaaDoor
