/- The walk of spec.Variant.Frames: the line of a variant of frames alone. -/
import Derived.Test.YtkddkmiomhadaaaDoorOfw
namespace Go.Proofs.YtkddkmiomhadaaaDoor
open Go.RowKit
def Vt.f0 (v : Vt) : ByteArray := ⟨#[35, 69, 88, 84, 45, 88, 45, 73, 45, 70, 82, 65, 77, 69, 45, 83, 84, 82, 69, 65, 77, 45, 73, 78, 70, 58, 80, 82, 79, 71, 82, 65, 77, 45, 73, 68, 61]⟩ ++ dec v.program ++ ⟨#[44, 66, 65, 78, 68, 87, 73, 68, 84, 72, 61]⟩ ++ dec v.bandwidth
def Vt.f1 (v : Vt) : ByteArray := if decide (0 < v.average) = true then v.f0 ++ (⟨#[44, 65, 86, 69, 82, 65, 71, 69, 45, 66, 65, 78, 68, 87, 73, 68, 84, 72, 61]⟩ ++ dec v.average) else v.f0
def Vt.f2 (v : Vt) : ByteArray := if ne v.codecs = true then v.f1 ++ ((⟨#[44, 67, 79, 68, 69, 67, 83, 61, 34]⟩ ++ v.codecs) ++ ⟨#[34]⟩) else v.f1
def Vt.f3 (v : Vt) : ByteArray := if decide (0 < v.width) = true then v.f2 ++ (⟨#[44, 82, 69, 83, 79, 76, 85, 84, 73, 79, 78, 61]⟩ ++ v.resolution) else v.f2
def Vt.f4 (v : Vt) : ByteArray := if ne v.video = true then v.f3 ++ ((⟨#[44, 86, 73, 68, 69, 79, 61, 34]⟩ ++ v.video) ++ ⟨#[34]⟩) else v.f3
/-- The line of a variant of frames alone. -/
def Vt.frames (v : Vt) : ByteArray := ((v.f4 ++ ⟨#[44, 85, 82, 73, 61, 34]⟩) ++ v.uri) ++ ⟨#[34, 10]⟩
theorem Vt.f0_size {v : Vt} (h : v.Ok) : v.f0.size ≤ 100 := by
  have := dec_u32 h.program
  have := dec_u32 h.bandwidth
  unfold Vt.f0
  simp only [ByteArray.size_append', ByteArray.size_mk', List.size_toArray, List.length_cons, List.length_nil]; omega
theorem Vt.f1_size {v : Vt} (h : v.Ok) : v.f1.size ≤ 200 := by
  have := dec_u32 h.average
  have := Vt.f0_size h
  unfold Vt.f1
  split <;> (try simp only [ByteArray.size_append', ByteArray.size_mk', List.size_toArray, List.length_cons, List.length_nil]) <;> omega
theorem Vt.f2_size {v : Vt} (h : v.Ok) : v.f2.size ≤ 400 := by
  have := h.codecs
  have := Vt.f1_size h
  unfold Vt.f2
  split <;> (try simp only [ByteArray.size_append', ByteArray.size_mk', List.size_toArray, List.length_cons, List.length_nil]) <;> omega
theorem Vt.f3_size {v : Vt} (h : v.Ok) : v.f3.size ≤ 600 := by
  have := Vt.resolution_size h
  have := Vt.f2_size h
  unfold Vt.f3
  split <;> (try simp only [ByteArray.size_append', ByteArray.size_mk', List.size_toArray, List.length_cons, List.length_nil]) <;> omega
theorem Vt.f4_size {v : Vt} (h : v.Ok) : v.f4.size ≤ 800 := by
  have := h.video
  have := Vt.f3_size h
  unfold Vt.f4
  split <;> (try simp only [ByteArray.size_append', ByteArray.size_mk', List.size_toArray, List.length_cons, List.length_nil]) <;> omega
theorem ex_gtu {a : Act} {w : World} {n : Nat} {T T' : TypeId} {t : Nat} {ty : TypeId} {ps : String} {af : Array Edge} {dst : Option Nat} {gd : Option (Nat × Bool)} (hx : a.eval (.tmp t) = .int .u32 n) : (execOp a.eval ⟨dst, .binOp .gtr T (.tmp t) (.const (.int .u32 0)) T', ty, ps, af, gd⟩).run Tryd.prog w = .ok (.value (.bool (decide (0 < n)))) w := by
  have h : decide ((n : Int) > 0) = decide (0 < n) := by by_cases hn : 0 < n <;> simp [hn] <;> omega
  simp only [execOp, hx]
  simp [eqGuard, binOp, Op.intCmp, Act.eval, Result.andThen]
theorem ex_cvu {a : Act} {w : World} {n : Nat} (hn : n < 4294967296) {t : Nat} {ty : TypeId} {ps : String} {af : Array Edge} {dst : Option Nat} {gd : Option (Nat × Bool)} (hx : a.eval (.tmp t) = .int .u32 n) : (execOp a.eval ⟨dst, .convert 23 36 (.tmp t), ty, ps, af, gd⟩).run Tryd.prog w = .ok (.value (.int .u64 n)) w := by
  simp only [execOp, hx]
  exact run_andValue (run_conv_u32 hn w)
noncomputable def frmBody : Code := Tryd.f22.body.getD .skip
set_option maxRecDepth 100000 in
set_option maxHeartbeats 4000000 in
theorem frm_rgn {v : Vt} {id b : Nat} {a0 : Act} {w : World} {Q : Exit → Act → World → Prop} (hok : v.Ok) (hsz : a0.tmps.size = 57) (hdf : a0.defers = []) (h1 : a0.eval (.tmp 1) = pt b 0) (hy : w.heap[b]? = some (.cells v.cells 48 (0, 0)))
    (hK : ∀ a' w', Ev 57 ((3, .string v.f0) :: (1, pt b 0) :: []) a' → Below w.heap.size w w' → Q .normal a' w') :
    (Code.region id #[{ dst := some 4, op := Op.fieldAddr 48 (Operand.tmp 1) 1, type := 0, pos := "more.go:56", after := #[], guard := none },
      { dst := some 5, op := Op.load 23 (Operand.tmp 4), type := 23, pos := "more.go:56", after := #[{ on := 0, ground := Ground.data }], guard := none },
      { dst := some 6, op := Op.convert 23 36 (Operand.tmp 5), type := 36, pos := "more.go:56", after := #[{ on := 1, ground := Ground.data }], guard := none },
      { dst := some 7, op := Op.call { callee := Callee.value (Operand.func 6), args := #[Operand.tmp 6], argTypes := #[36] }, type := 9, pos := "more.go:56", after := #[{ on := 2, ground := Ground.data }], guard := none },
      { dst := some 8, op := Op.binOp BinOp.add 9 (Operand.const (Value.string { data := #[35, 69, 88, 84, 45, 88, 45, 73, 45, 70, 82, 65, 77, 69, 45, 83, 84, 82, 69, 65, 77, 45, 73, 78, 70, 58, 80, 82, 79, 71, 82, 65, 77, 45, 73, 68, 61] })) (Operand.tmp 7) 9, type := 9, pos := "more.go:56", after := #[{ on := 3, ground := Ground.data }], guard := none },
      { dst := some 9, op := Op.binOp BinOp.add 9 (Operand.tmp 8) (Operand.const (Value.string { data := #[44, 66, 65, 78, 68, 87, 73, 68, 84, 72, 61] })) 9, type := 9, pos := "more.go:56", after := #[{ on := 4, ground := Ground.data }], guard := none },
      { dst := some 10, op := Op.fieldAddr 48 (Operand.tmp 1) 2, type := 0, pos := "more.go:56", after := #[], guard := none },
      { dst := some 11, op := Op.load 23 (Operand.tmp 10), type := 23, pos := "more.go:56", after := #[{ on := 6, ground := Ground.data }], guard := none },
      { dst := some 12, op := Op.convert 23 36 (Operand.tmp 11), type := 36, pos := "more.go:56", after := #[{ on := 7, ground := Ground.data }], guard := none },
      { dst := some 13, op := Op.call { callee := Callee.value (Operand.func 6), args := #[Operand.tmp 12], argTypes := #[36] }, type := 9, pos := "more.go:56", after := #[{ on := 8, ground := Ground.data }, { on := 3, ground := Ground.chain }], guard := none },
      { dst := some 14, op := Op.binOp BinOp.add 9 (Operand.tmp 9) (Operand.tmp 13) 9, type := 9, pos := "more.go:56", after := #[{ on := 5, ground := Ground.data }, { on := 9, ground := Ground.data }], guard := none },
      { dst := some 3, op := Op.assign (Operand.tmp 14), type := 9, pos := "more.go:56", after := #[{ on := 10, ground := Ground.data }, { on := 9, ground := Ground.chain }, { on := 0, ground := Ground.phase }, { on := 1, ground := Ground.phase }, { on := 2, ground := Ground.phase }, { on := 3, ground := Ground.phase }, { on := 4, ground := Ground.phase }, { on := 5, ground := Ground.phase }, { on := 6, ground := Ground.phase }, { on := 7, ground := Ground.phase }, { on := 8, ground := Ground.phase }, { on := 9, ground := Ground.phase }, { on := 10, ground := Ground.phase }], guard := none }] true).wp Tryd.prog Q a0 w := by
  have q1 := hok.program
  have q2 := hok.bandwidth
  have s1 := dec_u32 q1
  have s2 := dec_u32 q2
  refine wp_region_og0 (n := 57) [Asr.eq (pt b 1), Asr.eq (.int .u32 v.program), Asr.eq (.int .u64 v.program), Asr.eq (.string (dec v.program)), Asr.eq (.string (⟨#[35, 69, 88, 84, 45, 88, 45, 73, 45, 70, 82, 65, 77, 69, 45, 83, 84, 82, 69, 65, 77, 45, 73, 78, 70, 58, 80, 82, 79, 71, 82, 65, 77, 45, 73, 68, 61]⟩ ++ dec v.program)), Asr.eq (.string (⟨#[35, 69, 88, 84, 45, 88, 45, 73, 45, 70, 82, 65, 77, 69, 45, 83, 84, 82, 69, 65, 77, 45, 73, 78, 70, 58, 80, 82, 79, 71, 82, 65, 77, 45, 73, 68, 61]⟩ ++ dec v.program ++ ⟨#[44, 66, 65, 78, 68, 87, 73, 68, 84, 72, 61]⟩)), Asr.eq (pt b 2), Asr.eq (.int .u32 v.bandwidth), Asr.eq (.int .u64 v.bandwidth), Asr.eq (.string (dec v.bandwidth)), Asr.eq (.string (⟨#[35, 69, 88, 84, 45, 88, 45, 73, 45, 70, 82, 65, 77, 69, 45, 83, 84, 82, 69, 65, 77, 45, 73, 78, 70, 58, 80, 82, 79, 71, 82, 65, 77, 45, 73, 68, 61]⟩ ++ dec v.program ++ ⟨#[44, 66, 65, 78, 68, 87, 73, 68, 84, 72, 61]⟩ ++ dec v.bandwidth)), Asr.eq (.string (⟨#[35, 69, 88, 84, 45, 88, 45, 73, 45, 70, 82, 65, 77, 69, 45, 83, 84, 82, 69, 65, 77, 45, 73, 78, 70, 58, 80, 82, 79, 71, 82, 65, 77, 45, 73, 68, 61]⟩ ++ dec v.program ++ ⟨#[44, 66, 65, 78, 68, 87, 73, 68, 84, 72, 61]⟩ ++ dec v.bandwidth))] (by kernel_rfl) (by kernel_rfl) (by kernel_rfl) hsz trivial ⟨?_, ?_, ?_, ?_, ?_, ?_, ?_, ?_, ?_, ?_, ?_, ?_, trivial⟩ ?_
  · intro a wx c
    have e1 : a.eval (.tmp 1) = pt b 0 := c.outE (by decide +kernel) h1
    clear c
    show Oper.wp _ _ _ _ _ _
    unfold Oper.wp
    simp only [execOp, resolve, e1]
    go_simp; try go_bits
    exact ⟨_, rfl, Only.refl _ _, rfl⟩
  · intro a wx c
    have e4 : a.eval (.tmp 4) = pt b 1 := c.slot 0 _ (by decide +kernel) rfl
    have hcell := c.cell (p := ⟨b, 1, none⟩) (v := .int .u32 v.program) (cell_of_heap hy rfl) (fun _ h => h.elim)
    clear c
    show Oper.wp _ _ _ _ _ _
    unfold Oper.wp
    simp only [execOp, resolve, e4]
    go_simp; try go_bits
    exact ⟨_, rfl, Only.refl _ _, rfl⟩
  · intro a wx c
    have e5 : a.eval (.tmp 5) = .int .u32 v.program := c.slot 1 _ (by decide +kernel) rfl
    clear c
    show Oper.wp _ _ _ _ _ _
    have hw : IntKind.u64.wrap (v.program : Int) = v.program := by rw [IntKind.wrap_u64]; omega
    unfold Oper.wp
    simp only [execOp, e5]
    go_simp; try go_bits
    exact ⟨_, rfl, Only.refl _ _, rfl⟩
  · intro a wx c
    have e6 : a.eval (.tmp 6) = .int .u64 v.program := c.slot 2 _ (by decide +kernel) rfl
    clear c
    show Oper.wp _ _ _ _ _ _
    unfold Oper.wp
    simp only [execOp, resolve, List.map_toArray, List.map_cons, List.map_nil, e6]
    go_simp
    refine (decimal_of v.program _ _ (by omega) (by omega)).mono ?_
    rintro e w' ⟨rfl, rfl⟩
    exact ⟨_, rfl, Only.refl _ _, rfl⟩
  · intro a wx c
    have e7 : a.eval (.tmp 7) = .string (dec v.program) := c.slot 3 _ (by decide +kernel) rfl
    clear c
    show Oper.wp _ _ _ _ _ _
    exact og_add Tryd.underlying9 rfl e7 (by simp only [ByteArray.size_append', ByteArray.size_mk', List.size_toArray, List.length_cons, List.length_nil]; omega) rfl
  · intro a wx c
    have e8 : a.eval (.tmp 8) = .string (⟨#[35, 69, 88, 84, 45, 88, 45, 73, 45, 70, 82, 65, 77, 69, 45, 83, 84, 82, 69, 65, 77, 45, 73, 78, 70, 58, 80, 82, 79, 71, 82, 65, 77, 45, 73, 68, 61]⟩ ++ dec v.program) := c.slot 4 _ (by decide +kernel) rfl
    clear c
    show Oper.wp _ _ _ _ _ _
    exact og_add Tryd.underlying9 e8 rfl (by simp only [ByteArray.size_append', ByteArray.size_mk', List.size_toArray, List.length_cons, List.length_nil]; omega) rfl
  · intro a wx c
    have e1 : a.eval (.tmp 1) = pt b 0 := c.outE (by decide +kernel) h1
    clear c
    show Oper.wp _ _ _ _ _ _
    unfold Oper.wp
    simp only [execOp, resolve, e1]
    go_simp; try go_bits
    exact ⟨_, rfl, Only.refl _ _, rfl⟩
  · intro a wx c
    have e10 : a.eval (.tmp 10) = pt b 2 := c.slot 6 _ (by decide +kernel) rfl
    have hcell := c.cell (p := ⟨b, 2, none⟩) (v := .int .u32 v.bandwidth) (cell_of_heap hy rfl) (fun _ h => h.elim)
    clear c
    show Oper.wp _ _ _ _ _ _
    unfold Oper.wp
    simp only [execOp, resolve, e10]
    go_simp; try go_bits
    exact ⟨_, rfl, Only.refl _ _, rfl⟩
  · intro a wx c
    have e11 : a.eval (.tmp 11) = .int .u32 v.bandwidth := c.slot 7 _ (by decide +kernel) rfl
    clear c
    show Oper.wp _ _ _ _ _ _
    have hw : IntKind.u64.wrap (v.bandwidth : Int) = v.bandwidth := by rw [IntKind.wrap_u64]; omega
    unfold Oper.wp
    simp only [execOp, e11]
    go_simp; try go_bits
    exact ⟨_, rfl, Only.refl _ _, rfl⟩
  · intro a wx c
    have e12 : a.eval (.tmp 12) = .int .u64 v.bandwidth := c.slot 8 _ (by decide +kernel) rfl
    clear c
    show Oper.wp _ _ _ _ _ _
    unfold Oper.wp
    simp only [execOp, resolve, List.map_toArray, List.map_cons, List.map_nil, e12]
    go_simp
    refine (decimal_of v.bandwidth _ _ (by omega) (by omega)).mono ?_
    rintro e w' ⟨rfl, rfl⟩
    exact ⟨_, rfl, Only.refl _ _, rfl⟩
  · intro a wx c
    have e9 : a.eval (.tmp 9) = .string (⟨#[35, 69, 88, 84, 45, 88, 45, 73, 45, 70, 82, 65, 77, 69, 45, 83, 84, 82, 69, 65, 77, 45, 73, 78, 70, 58, 80, 82, 79, 71, 82, 65, 77, 45, 73, 68, 61]⟩ ++ dec v.program ++ ⟨#[44, 66, 65, 78, 68, 87, 73, 68, 84, 72, 61]⟩) := c.slot 5 _ (by decide +kernel) rfl
    have e13 : a.eval (.tmp 13) = .string (dec v.bandwidth) := c.slot 9 _ (by decide +kernel) rfl
    clear c
    show Oper.wp _ _ _ _ _ _
    exact og_add Tryd.underlying9 e9 e13 (by simp only [ByteArray.size_append', ByteArray.size_mk', List.size_toArray, List.length_cons, List.length_nil]; omega) rfl
  · intro a wx c
    have e14 : a.eval (.tmp 14) = .string (⟨#[35, 69, 88, 84, 45, 88, 45, 73, 45, 70, 82, 65, 77, 69, 45, 83, 84, 82, 69, 65, 77, 45, 73, 78, 70, 58, 80, 82, 79, 71, 82, 65, 77, 45, 73, 68, 61]⟩ ++ dec v.program ++ ⟨#[44, 66, 65, 78, 68, 87, 73, 68, 84, 72, 61]⟩ ++ dec v.bandwidth) := c.slot 10 _ (by decide +kernel) rfl
    clear c
    show Oper.wp _ _ _ _ _ _
    unfold Oper.wp
    simp only [execOp, resolve, e14]
    go_simp; try go_bits
    exact ⟨_, rfl, Only.refl _ _, rfl⟩
  · intro a1 w1 c hb
    have e3 : a1.tmps.getD 3 undef = .string v.f0 := c.slot 11 _ rfl
    have e1 : a1.eval (.tmp 1) = pt b 0 := (c.outLow (m0 := 3) (by kernel_rfl) (by decide)).trans h1
    refine hK a1 w1 ⟨c.size.trans hsz, c.defers.trans hdf, ?_⟩ hb
    intro t u hl
    by_cases e : t = 3
    · subst e
      rw [look_eq] at hl
      exact e3.trans (Option.some.inj hl)
    · rw [look_ne e] at hl
      by_cases e : t = 1
      · subst e
        rw [look_eq] at hl
        exact e1.trans (Option.some.inj hl)
      · rw [look_ne e] at hl
        simp at hl
set_option maxRecDepth 100000 in
set_option maxHeartbeats 4000000 in
theorem frm_0 {v : Vt} {b : Nat} {w0 : World} (hok : v.Ok) (a : Act) (w : World) (hE : Ev 57 ((3, .string v.f0) :: (1, pt b 0) :: []) a) (hy : w.heap[b]? = some (.cells v.cells 48 (0, 0))) (hb : Below b w0 w) (Q : Exit → Act → World → Prop) (hQ : ∀ a' w', Ev 57 ((3, .string v.f1) :: (1, pt b 0) :: []) a' → w'.heap[b]? = some (.cells v.cells 48 (0, 0)) → Below b w0 w' → Q .normal a' w') : Code.wp Tryd.prog (cA (cB (cB frmBody))) Q a w := by
  have hsz := Vt.f0_size hok
  have q3 := dec_u32 hok.average
  have q4 := hok.codecs
  have q5 := Vt.resolution_size hok
  have q6 := hok.video
  have hbs : b < w.heap.size := (Array.getElem?_eq_some_iff.1 hy).1
  refine wp_seq ?_
  refine wp_region_lit ?_
  refine ev_run hE rfl rfl (by decide) (ex_fa (hE.get 1 rfl) (fa_sv_3 _)) ?_
  intro a hE
  refine ev_run hE rfl rfl (by decide) (ex_ld (hE.get 15 rfl) ld_u32 (cell_of_heap (v := .int .u32 v.average) hy rfl)) ?_
  intro a hE
  refine ev_run hE rfl rfl (by decide) (ex_gtu (hE.get 16 rfl)) ?_
  intro a hE
  refine wpList_nil ?_
  show Code.wp _ _ _ _ _
  refine wp_cond_split (hE.get 17 rfl) (fun ht => ?_) (fun ht => ?_)
  · refine wp_region_lit ?_
    refine ev_mv hE (hE.get 3 rfl) (by decide) ?_
    intro a hE
    refine ev_run hE rfl rfl (by decide) (ex_fa (hE.get 1 rfl) (fa_sv_3 _)) ?_
    intro a hE
    refine ev_run hE rfl rfl (by decide) (ex_ld (hE.get 19 rfl) ld_u32 (cell_of_heap (v := .int .u32 v.average) hy rfl)) ?_
    intro a hE
    refine ev_run hE rfl rfl (by decide) (ex_cvu hok.average (hE.get 20 rfl)) ?_
    intro a hE
    refine ev_call (S := fun u w' => u = .string (dec v.average) ∧ w' = w) hE rfl rfl (by decide) (f := 6) (args := #[.int .u64 v.average]) ?_ ((decimal_any v.average w (by have := hok.average; omega)).mono ?_) ?_
    · simp only [execOp, resolve, List.map_toArray, List.map_cons, List.map_nil, hE.get 21 rfl]
      go_simp
    · rintro e w' ⟨rfl, rfl⟩
      exact ⟨_, rfl, rfl, rfl⟩
    rintro a u w' ⟨rfl, rfl⟩ hE
    refine ev_run hE rfl rfl (by decide) (ex_add rfl (hE.get 22 rfl) (by simp only [ByteArray.size_append', ByteArray.size_mk', List.size_toArray, List.length_cons, List.length_nil]; omega)) ?_
    intro a hE
    refine ev_run hE rfl rfl (by decide) (ex_add (hE.get 18 rfl) (hE.get 23 rfl) (by simp only [ByteArray.size_append', ByteArray.size_mk', List.size_toArray, List.length_cons, List.length_nil]; omega)) ?_
    intro a hE
    refine ev_as hE (hE.get 24 rfl) (by decide) ?_
    intro a hE
    refine wpList_nil ?_
    refine hQ a _ ?_ hy hb
    rw [show v.f1 = _ from if_pos ht]
    exact hE.pick rfl
  · refine wp_skip ?_
    refine hQ a _ ?_ hy hb
    rw [show v.f1 = _ from if_neg (by rw [ht]; decide)]
    exact hE.pick rfl
set_option maxRecDepth 100000 in
set_option maxHeartbeats 4000000 in
theorem frm_1 {v : Vt} {b : Nat} {w0 : World} (hok : v.Ok) (a : Act) (w : World) (hE : Ev 57 ((3, .string v.f1) :: (1, pt b 0) :: []) a) (hy : w.heap[b]? = some (.cells v.cells 48 (0, 0))) (hb : Below b w0 w) (Q : Exit → Act → World → Prop) (hQ : ∀ a' w', Ev 57 ((3, .string v.f2) :: (1, pt b 0) :: []) a' → w'.heap[b]? = some (.cells v.cells 48 (0, 0)) → Below b w0 w' → Q .normal a' w') : Code.wp Tryd.prog (cA (cB (cB (cB frmBody)))) Q a w := by
  have hsz := Vt.f1_size hok
  have q3 := dec_u32 hok.average
  have q4 := hok.codecs
  have q5 := Vt.resolution_size hok
  have q6 := hok.video
  have hbs : b < w.heap.size := (Array.getElem?_eq_some_iff.1 hy).1
  refine wp_seq ?_
  refine wp_region_lit ?_
  refine ev_run hE rfl rfl (by decide) (ex_fa (hE.get 1 rfl) (fa_sv_4 _)) ?_
  intro a hE
  refine ev_run hE rfl rfl (by decide) (ex_ld (hE.get 25 rfl) ld_string (cell_of_heap (v := .string v.codecs) hy rfl)) ?_
  intro a hE
  refine ev_run hE rfl rfl (by decide) (ex_ne0 (hE.get 26 rfl)) ?_
  intro a hE
  refine wpList_nil ?_
  show Code.wp _ _ _ _ _
  refine wp_cond_split (hE.get 27 rfl) (fun ht => ?_) (fun ht => ?_)
  · refine wp_region_lit ?_
    refine ev_mv hE (hE.get 3 rfl) (by decide) ?_
    intro a hE
    refine ev_run hE rfl rfl (by decide) (ex_fa (hE.get 1 rfl) (fa_sv_4 _)) ?_
    intro a hE
    refine ev_run hE rfl rfl (by decide) (ex_ld (hE.get 29 rfl) ld_string (cell_of_heap (v := .string v.codecs) hy rfl)) ?_
    intro a hE
    refine ev_run hE rfl rfl (by decide) (ex_add rfl (hE.get 30 rfl) (by simp only [ByteArray.size_append', ByteArray.size_mk', List.size_toArray, List.length_cons, List.length_nil]; omega)) ?_
    intro a hE
    refine ev_run hE rfl rfl (by decide) (ex_add (hE.get 31 rfl) rfl (by simp only [ByteArray.size_append', ByteArray.size_mk', List.size_toArray, List.length_cons, List.length_nil]; omega)) ?_
    intro a hE
    refine ev_run hE rfl rfl (by decide) (ex_add (hE.get 28 rfl) (hE.get 32 rfl) (by simp only [ByteArray.size_append', ByteArray.size_mk', List.size_toArray, List.length_cons, List.length_nil]; omega)) ?_
    intro a hE
    refine ev_as hE (hE.get 33 rfl) (by decide) ?_
    intro a hE
    refine wpList_nil ?_
    refine hQ a _ ?_ hy hb
    rw [show v.f2 = _ from if_pos ht]
    exact hE.pick rfl
  · refine wp_skip ?_
    refine hQ a _ ?_ hy hb
    rw [show v.f2 = _ from if_neg (by rw [ht]; decide)]
    exact hE.pick rfl
set_option maxRecDepth 100000 in
set_option maxHeartbeats 4000000 in
theorem frm_2 {v : Vt} {b : Nat} {w0 : World} (hok : v.Ok) (a : Act) (w : World) (hE : Ev 57 ((3, .string v.f2) :: (1, pt b 0) :: []) a) (hy : w.heap[b]? = some (.cells v.cells 48 (0, 0))) (hb : Below b w0 w) (Q : Exit → Act → World → Prop) (hQ : ∀ a' w', Ev 57 ((3, .string v.f3) :: (1, pt b 0) :: []) a' → w'.heap[b]? = some (.cells v.cells 48 (0, 0)) → Below b w0 w' → Q .normal a' w') : Code.wp Tryd.prog (cA (cB (cB (cB (cB frmBody))))) Q a w := by
  have hsz := Vt.f2_size hok
  have q3 := dec_u32 hok.average
  have q4 := hok.codecs
  have q5 := Vt.resolution_size hok
  have q6 := hok.video
  have hbs : b < w.heap.size := (Array.getElem?_eq_some_iff.1 hy).1
  refine wp_seq ?_
  refine wp_region_lit ?_
  refine ev_run hE rfl rfl (by decide) (ex_fa (hE.get 1 rfl) (fa_sv_5 _)) ?_
  intro a hE
  refine ev_run hE rfl rfl (by decide) (ex_ld (hE.get 34 rfl) ld_u32 (cell_of_heap (v := .int .u32 v.width) hy rfl)) ?_
  intro a hE
  refine ev_run hE rfl rfl (by decide) (ex_gtu (hE.get 35 rfl)) ?_
  intro a hE
  refine wpList_nil ?_
  show Code.wp _ _ _ _ _
  refine wp_cond_split (hE.get 36 rfl) (fun ht => ?_) (fun ht => ?_)
  · refine wp_region_lit ?_
    refine ev_mv hE (hE.get 3 rfl) (by decide) ?_
    intro a hE
    refine ev_run hE rfl rfl (by decide) (ex_lb ag_sv (hE.get 1 rfl) hy rfl) ?_
    intro a hE
    refine ev_call (S := fun u w' => u = .string v.resolution ∧ Below w.heap.size w w') hE rfl rfl (by decide) (f := 12) (args := #[.agg v.cells]) ?_ ((resolution_any v hok w).mono ?_) ?_
    · simp only [execOp, resolve, List.map_toArray, List.map_cons, List.map_nil, hE.get 38 rfl]
      go_simp
    · rintro e w' ⟨rfl, hb'⟩
      exact ⟨_, rfl, rfl, hb'⟩
    rintro a u w' ⟨rfl, hb'⟩ hE
    have hy := hp_below hy hb'
    have hb := hb.trans (hb'.mono (by omega))
    refine ev_run hE rfl rfl (by decide) (ex_add rfl (hE.get 39 rfl) (by simp only [ByteArray.size_append', ByteArray.size_mk', List.size_toArray, List.length_cons, List.length_nil]; omega)) ?_
    intro a hE
    refine ev_run hE rfl rfl (by decide) (ex_add (hE.get 37 rfl) (hE.get 40 rfl) (by simp only [ByteArray.size_append', ByteArray.size_mk', List.size_toArray, List.length_cons, List.length_nil]; omega)) ?_
    intro a hE
    refine ev_as hE (hE.get 41 rfl) (by decide) ?_
    intro a hE
    refine wpList_nil ?_
    refine hQ a _ ?_ hy hb
    rw [show v.f3 = _ from if_pos ht]
    exact hE.pick rfl
  · refine wp_skip ?_
    refine hQ a _ ?_ hy hb
    rw [show v.f3 = _ from if_neg (by rw [ht]; decide)]
    exact hE.pick rfl
set_option maxRecDepth 100000 in
set_option maxHeartbeats 4000000 in
theorem frm_3 {v : Vt} {b : Nat} {w0 : World} (hok : v.Ok) (a : Act) (w : World) (hE : Ev 57 ((3, .string v.f3) :: (1, pt b 0) :: []) a) (hy : w.heap[b]? = some (.cells v.cells 48 (0, 0))) (hb : Below b w0 w) (Q : Exit → Act → World → Prop) (hQ : ∀ a' w', Ev 57 ((3, .string v.f4) :: (1, pt b 0) :: []) a' → w'.heap[b]? = some (.cells v.cells 48 (0, 0)) → Below b w0 w' → Q .normal a' w') : Code.wp Tryd.prog (cA (cB (cB (cB (cB (cB frmBody)))))) Q a w := by
  have hsz := Vt.f3_size hok
  have q3 := dec_u32 hok.average
  have q4 := hok.codecs
  have q5 := Vt.resolution_size hok
  have q6 := hok.video
  have hbs : b < w.heap.size := (Array.getElem?_eq_some_iff.1 hy).1
  refine wp_seq ?_
  refine wp_region_lit ?_
  refine ev_run hE rfl rfl (by decide) (ex_fa (hE.get 1 rfl) (fa_sv_8 _)) ?_
  intro a hE
  refine ev_run hE rfl rfl (by decide) (ex_ld (hE.get 42 rfl) ld_string (cell_of_heap (v := .string v.video) hy rfl)) ?_
  intro a hE
  refine ev_run hE rfl rfl (by decide) (ex_ne0 (hE.get 43 rfl)) ?_
  intro a hE
  refine wpList_nil ?_
  show Code.wp _ _ _ _ _
  refine wp_cond_split (hE.get 44 rfl) (fun ht => ?_) (fun ht => ?_)
  · refine wp_region_lit ?_
    refine ev_mv hE (hE.get 3 rfl) (by decide) ?_
    intro a hE
    refine ev_run hE rfl rfl (by decide) (ex_fa (hE.get 1 rfl) (fa_sv_8 _)) ?_
    intro a hE
    refine ev_run hE rfl rfl (by decide) (ex_ld (hE.get 46 rfl) ld_string (cell_of_heap (v := .string v.video) hy rfl)) ?_
    intro a hE
    refine ev_run hE rfl rfl (by decide) (ex_add rfl (hE.get 47 rfl) (by simp only [ByteArray.size_append', ByteArray.size_mk', List.size_toArray, List.length_cons, List.length_nil]; omega)) ?_
    intro a hE
    refine ev_run hE rfl rfl (by decide) (ex_add (hE.get 48 rfl) rfl (by simp only [ByteArray.size_append', ByteArray.size_mk', List.size_toArray, List.length_cons, List.length_nil]; omega)) ?_
    intro a hE
    refine ev_run hE rfl rfl (by decide) (ex_add (hE.get 45 rfl) (hE.get 49 rfl) (by simp only [ByteArray.size_append', ByteArray.size_mk', List.size_toArray, List.length_cons, List.length_nil]; omega)) ?_
    intro a hE
    refine ev_as hE (hE.get 50 rfl) (by decide) ?_
    intro a hE
    refine wpList_nil ?_
    refine hQ a _ ?_ hy hb
    rw [show v.f4 = _ from if_pos ht]
    exact hE.pick rfl
  · refine wp_skip ?_
    refine hQ a _ ?_ hy hb
    rw [show v.f4 = _ from if_neg (by rw [ht]; decide)]
    exact hE.pick rfl
set_option maxRecDepth 100000 in
set_option maxHeartbeats 4000000 in
/-- spec.Variant.Frames. -/
theorem frames_any (v : Vt) (hok : v.Ok) (w : World) : Calls Tryd.prog 22 #[.agg v.cells] w fun e w' => e = .returned (.string v.frames) ∧ Below w.heap.size w w' := by
  have hsz := Vt.f4_size hok
  have hu := hok.uri
  refine calls_of_ev Tryd.func22 rfl (show 1 ≤ 57 from by decide) ?_
  intro a hE
  have hE : Ev 57 ((0, .agg v.cells) :: []) a := hE
  refine wp_seq ?_
  refine wp_region_lit ?_
  refine ev_box hE (hE.get 0 rfl) (bx_sv v) (by decide) ?_
  intro a w1 hE hy hb1 _
  refine ev_ac hE (by decide) ?_
  intro a hE
  refine wpList_nil ?_
  have hE : Ev 57 ((1, pt w.heap.size 0) :: []) a := hE.pick rfl
  show Code.wp _ _ _ _ _
  refine wp_seq ?_
  refine frm_rgn hok hE.size hE.defers (hE.get 1 rfl) hy ?_
  intro a w2 hE hb2
  have hy := hp_below hy hb2
  have hb := hb1.trans (hb2.mono hb1.size)
  show Code.wp _ _ _ _ _
  refine wp_seq (frm_0 hok a w2 hE hy hb _ fun a w2 hE hy hb => ?_)
  show Code.wp _ _ _ _ _
  refine wp_seq (frm_1 hok a w2 hE hy hb _ fun a w2 hE hy hb => ?_)
  show Code.wp _ _ _ _ _
  refine wp_seq (frm_2 hok a w2 hE hy hb _ fun a w2 hE hy hb => ?_)
  show Code.wp _ _ _ _ _
  refine wp_seq (frm_3 hok a w2 hE hy hb _ fun a w2 hE hy hb => ?_)
  show Code.wp _ _ _ _ _
  refine wp_seq ?_
  refine wp_region_lit ?_
  refine ev_mv hE (hE.get 3 rfl) (by decide) ?_
  intro a hE
  refine ev_run hE rfl rfl (by decide) (ex_add (hE.get 51 rfl) rfl (by simp only [ByteArray.size_append', ByteArray.size_mk', List.size_toArray, List.length_cons, List.length_nil]; omega)) ?_
  intro a hE
  refine ev_run hE rfl rfl (by decide) (ex_fa (hE.get 1 rfl) (fa_sv_0 _)) ?_
  intro a hE
  refine ev_run hE rfl rfl (by decide) (ex_ld (hE.get 53 rfl) ld_string (cell_of_heap (v := .string v.uri) hy rfl)) ?_
  intro a hE
  refine ev_run hE rfl rfl (by decide) (ex_add (hE.get 52 rfl) (hE.get 54 rfl) (by simp only [ByteArray.size_append', ByteArray.size_mk', List.size_toArray, List.length_cons, List.length_nil]; omega)) ?_
  intro a hE
  refine ev_run hE rfl rfl (by decide) (ex_add (hE.get 55 rfl) rfl (by simp only [ByteArray.size_append', ByteArray.size_mk', List.size_toArray, List.length_cons, List.length_nil]; omega)) ?_
  intro a hE
  refine ev_as hE (hE.get 56 rfl) (by decide) ?_
  intro a hE
  refine wpList_nil ?_
  show Code.wp _ _ _ _ _
  refine wp_ret ?_
  exact ret_of_ev hE rfl (hE.get 2 rfl) ⟨rfl, hb⟩
end Go.Proofs.YtkddkmiomhadaaaDoor
