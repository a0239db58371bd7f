/- The walk of laws.toMaster: a master playlist as data. -/
import Derived.Test.YtkddkmiomhadaaaDoorTxw
namespace Go.Proofs.YtkddkmiomhadaaaDoor
open Go.RowKit
noncomputable def tomBody : Code := Tryd.f5.body.getD .skip
def Vt.icells (v : Vt) (fr : Bool) (sl : Value) : Array Value := #[.string v.uri, .int .u32 v.program, .int .u32 v.bandwidth, .int .u32 v.average, .string v.codecs, .string v.resolution, .string v.audio, .string v.video, .string v.subtitles, .string v.captions, .string v.name, .bool fr, .string ⟨#[]⟩, .string ⟨#[]⟩, .float .f64 (e8 v.rate), sl]
def ivZero : Array Value := #[.string ⟨#[]⟩, .int .u32 0, .int .u32 0, .int .u32 0, .string ⟨#[]⟩, .string ⟨#[]⟩, .string ⟨#[]⟩, .string ⟨#[]⟩, .string ⟨#[]⟩, .string ⟨#[]⟩, .string ⟨#[]⟩, .bool false, .string ⟨#[]⟩, .string ⟨#[]⟩, .float .f64 0, .slice none 0 0]
set_option maxRecDepth 100000 in
theorem al_iv : Al 53 ivZero := by intro w; unfold ivZero; go_simp
set_option maxRecDepth 100000 in
theorem al_im : Al 33 #[.slice none 0 0, .string ⟨#[]⟩, .int .i64 0, .bool false] := by intro w; go_simp
theorem e8_all : (List.range 1001).all (fun t => (floatBits .quo .f64 (floatOfInt .f64 (t : Int)) 4620693217682128896).isSome) = true := by decide +kernel
theorem e8_some {t : Nat} (h : t ≤ 1000) : floatBits .quo .f64 (floatOfInt .f64 (t : Int)) 4620693217682128896 = some (e8 t) := by
  have := List.all_eq_true.1 e8_all t (List.mem_range.2 (by omega))
  unfold e8
  cases h : floatBits .quo .f64 (floatOfInt .f64 (t : Int)) 4620693217682128896 with
  | none => rw [h] at this; cases this
  | some x => rfl
set_option maxRecDepth 100000 in
set_option maxHeartbeats 8000000 in
theorem tom_rgn {v : Vt} {id gv gF nF cF k : Nat} {fr : Bool} {a0 : Act} {w : World} {Q : Exit → Act → World → Prop} (hok : v.Ok) (hrate : v.rate ≤ 1000) (hkF : k < nF) (hsz : a0.tmps.size = 92) (h7 : a0.eval (.tmp 7) = pt gv 0) (h1 : a0.eval (.tmp 1) = .slice (some ⟨gF, 0, none⟩) nF cF) (h6 : a0.eval (.tmp 6) = .int .i64 k) (hy : w.heap[gv]? = some (.cells v.cells 48 (0, 0))) (hcf : w.cell? ⟨gF, k, none⟩ = some (.bool fr))
    (hK : ∀ a' w' g, a'.tmps.size = 92 → a'.defers = a0.defers → (∀ t, t < 24 → t ≠ 8 → a'.eval (.tmp t) = a0.eval (.tmp t)) → a'.eval (.tmp 8) = pt g 0 → w.heap.size ≤ g → w'.heap[g]? = some (.cells (v.icells fr (.slice none 0 0)) 53 (0, 0)) → Below w.heap.size w w' → Q .normal a' w') :
    (Code.region id #[{ dst := some 24, op := Op.fieldAddr 48 (Operand.tmp 7) 0, type := 0, pos := "laws.go:429", after := #[], guard := none },
      { dst := some 25, op := Op.load 9 (Operand.tmp 24), type := 9, pos := "laws.go:429", after := #[{ on := 0, ground := Ground.data }], guard := none },
      { dst := some 26, op := Op.fieldAddr 48 (Operand.tmp 7) 1, type := 0, pos := "laws.go:429", after := #[], guard := none },
      { dst := some 27, op := Op.load 23 (Operand.tmp 26), type := 23, pos := "laws.go:429", after := #[{ on := 2, ground := Ground.data }], guard := none },
      { dst := some 28, op := Op.fieldAddr 48 (Operand.tmp 7) 2, type := 0, pos := "laws.go:429", after := #[], guard := none },
      { dst := some 29, op := Op.load 23 (Operand.tmp 28), type := 23, pos := "laws.go:429", after := #[{ on := 4, ground := Ground.data }], guard := none },
      { dst := some 30, op := Op.fieldAddr 48 (Operand.tmp 7) 3, type := 0, pos := "laws.go:429", after := #[], guard := none },
      { dst := some 31, op := Op.load 23 (Operand.tmp 30), type := 23, pos := "laws.go:429", after := #[{ on := 6, ground := Ground.data }], guard := none },
      { dst := some 32, op := Op.fieldAddr 48 (Operand.tmp 7) 4, type := 0, pos := "laws.go:429", after := #[], guard := none },
      { dst := some 33, op := Op.load 9 (Operand.tmp 32), type := 9, pos := "laws.go:429", after := #[{ on := 8, ground := Ground.data }], guard := none },
      { dst := some 34, op := Op.load 48 (Operand.tmp 7), type := 48, pos := "laws.go:429", after := #[], guard := none },
      { dst := some 35, op := Op.call { callee := Callee.value (Operand.func 12), args := #[Operand.tmp 34], argTypes := #[48] }, type := 9, pos := "laws.go:429", after := #[{ on := 10, ground := Ground.data }], guard := none },
      { dst := some 36, op := Op.fieldAddr 48 (Operand.tmp 7) 7, type := 0, pos := "laws.go:429", after := #[], guard := none },
      { dst := some 37, op := Op.load 9 (Operand.tmp 36), type := 9, pos := "laws.go:429", after := #[{ on := 12, ground := Ground.data }], guard := none },
      { dst := some 38, op := Op.fieldAddr 48 (Operand.tmp 7) 8, type := 0, pos := "laws.go:429", after := #[], guard := none },
      { dst := some 39, op := Op.load 9 (Operand.tmp 38), type := 9, pos := "laws.go:429", after := #[{ on := 14, ground := Ground.data }], guard := none },
      { dst := some 40, op := Op.fieldAddr 48 (Operand.tmp 7) 9, type := 0, pos := "laws.go:429", after := #[], guard := none },
      { dst := some 41, op := Op.load 9 (Operand.tmp 40), type := 9, pos := "laws.go:429", after := #[{ on := 16, ground := Ground.data }], guard := none },
      { dst := some 42, op := Op.fieldAddr 48 (Operand.tmp 7) 10, type := 0, pos := "laws.go:429", after := #[], guard := none },
      { dst := some 43, op := Op.load 9 (Operand.tmp 42), type := 9, pos := "laws.go:429", after := #[{ on := 18, ground := Ground.data }], guard := none },
      { dst := some 44, op := Op.fieldAddr 48 (Operand.tmp 7) 11, type := 0, pos := "laws.go:429", after := #[], guard := none },
      { dst := some 45, op := Op.load 9 (Operand.tmp 44), type := 9, pos := "laws.go:429", after := #[{ on := 20, ground := Ground.data }], guard := none },
      { dst := some 46, op := Op.fieldAddr 48 (Operand.tmp 7) 12, type := 0, pos := "laws.go:429", after := #[], guard := none },
      { dst := some 47, op := Op.load 3 (Operand.tmp 46), type := 3, pos := "laws.go:429", after := #[{ on := 22, ground := Ground.data }], guard := none },
      { dst := some 48, op := Op.convert 3 50 (Operand.tmp 47), type := 50, pos := "laws.go:429", after := #[{ on := 23, ground := Ground.data }], guard := none },
      { dst := some 49, op := Op.binOp BinOp.quo 50 (Operand.tmp 48) (Operand.const (Value.float FloatKind.f64 4620693217682128896)) 50, type := 50, pos := "laws.go:429", after := #[{ on := 24, ground := Ground.data }], guard := none },
      { dst := some 50, op := Op.move (Operand.tmp 1), type := 28, pos := "laws.go:429", after := #[], guard := none },
      { dst := some 51, op := Op.move (Operand.tmp 6), type := 3, pos := "laws.go:429", after := #[], guard := none },
      { dst := some 52, op := Op.indexAddr 28 (Operand.tmp 50) (Operand.tmp 51), type := 0, pos := "laws.go:429", after := #[{ on := 26, ground := Ground.data }, { on := 27, ground := Ground.data }], guard := none },
      { dst := some 53, op := Op.load 4 (Operand.tmp 52), type := 4, pos := "laws.go:429", after := #[{ on := 28, ground := Ground.data }], guard := none },
      { dst := some 54, op := Op.build 53 #[(0, Operand.tmp 25), (1, Operand.tmp 27), (2, Operand.tmp 29), (3, Operand.tmp 31), (4, Operand.tmp 33), (5, Operand.tmp 35), (6, Operand.tmp 37), (7, Operand.tmp 39), (8, Operand.tmp 41), (9, Operand.tmp 43), (10, Operand.tmp 45), (14, Operand.tmp 49), (11, Operand.tmp 53)], type := 53, pos := "laws.go:429", after := #[{ on := 1, ground := Ground.data }, { on := 3, ground := Ground.data }, { on := 5, ground := Ground.data }, { on := 7, ground := Ground.data }, { on := 9, ground := Ground.data }, { on := 11, ground := Ground.data }, { on := 13, ground := Ground.data }, { on := 15, ground := Ground.data }, { on := 17, ground := Ground.data }, { on := 19, ground := Ground.data }, { on := 21, ground := Ground.data }, { on := 25, ground := Ground.data }, { on := 29, ground := Ground.data }], guard := none },
      { dst := some 8, op := Op.alloc 53, type := 0, pos := "laws.go:429", after := #[], guard := none },
      { dst := none, op := Op.store 53 (Operand.tmp 8) (Operand.tmp 54), type := 0, pos := "laws.go:429", after := #[{ on := 31, ground := Ground.data }, { on := 30, ground := Ground.data }, { on := 11, ground := Ground.chain }, { on := 0, ground := Ground.phase }, { on := 1, ground := Ground.phase }, { on := 2, ground := Ground.phase }, { on := 3, ground := Ground.phase }, { on := 4, ground := Ground.phase }, { on := 5, ground := Ground.phase }, { on := 6, ground := Ground.phase }, { on := 7, ground := Ground.phase }, { on := 8, ground := Ground.phase }, { on := 9, ground := Ground.phase }, { on := 10, ground := Ground.phase }, { on := 11, ground := Ground.phase }, { on := 12, ground := Ground.phase }, { on := 13, ground := Ground.phase }, { on := 14, ground := Ground.phase }, { on := 15, ground := Ground.phase }, { on := 16, ground := Ground.phase }, { on := 17, ground := Ground.phase }, { on := 18, ground := Ground.phase }, { on := 19, ground := Ground.phase }, { on := 20, ground := Ground.phase }, { on := 21, ground := Ground.phase }, { on := 22, ground := Ground.phase }, { on := 23, ground := Ground.phase }, { on := 24, ground := Ground.phase }, { on := 25, ground := Ground.phase }, { on := 26, ground := Ground.phase }, { on := 27, ground := Ground.phase }, { on := 28, ground := Ground.phase }, { on := 29, ground := Ground.phase }, { on := 30, ground := Ground.phase }, { on := 31, ground := Ground.phase }], guard := none }] true).wp Tryd.prog Q a0 w := by
  refine wp_region_og1 (n := 92) 32 [Asr.eq (pt gv 0), Asr.eq (.string v.uri), Asr.eq (pt gv 1), Asr.eq (.int .u32 v.program), Asr.eq (pt gv 2), Asr.eq (.int .u32 v.bandwidth), Asr.eq (pt gv 3), Asr.eq (.int .u32 v.average), Asr.eq (pt gv 4), Asr.eq (.string v.codecs), Asr.eq (.agg v.cells), Asr.eq (.string v.resolution), Asr.eq (pt gv 7), Asr.eq (.string v.audio), Asr.eq (pt gv 8), Asr.eq (.string v.video), Asr.eq (pt gv 9), Asr.eq (.string v.subtitles), Asr.eq (pt gv 10), Asr.eq (.string v.captions), Asr.eq (pt gv 11), Asr.eq (.string v.name), Asr.eq (pt gv 12), Asr.eq (.int .i64 v.rate), Asr.eq (.float .f64 (floatOfInt .f64 (v.rate : Int))), Asr.eq (.float .f64 (e8 v.rate)), Asr.eq (.slice (some ⟨gF, 0, none⟩) nF cF), Asr.eq (.int .i64 k), Asr.eq (pt gF k), Asr.eq (.bool fr), Asr.eq (.agg (v.icells fr (.slice none 0 0))), Asr.blk (fun g => pt g 0) 53 ivZero] (by kernel_rfl) (by kernel_rfl) (by kernel_rfl) (by simp) (by kernel_rfl) hsz trivial ?_ ?_
  · simp only [List.take_succ_cons, List.take_zero]
    refine ⟨?_, ?_, ?_, ?_, ?_, ?_, ?_, ?_, ?_, ?_, ?_, ?_, ?_, ?_, ?_, ?_, ?_, ?_, ?_, ?_, ?_, ?_, ?_, ?_, ?_, ?_, ?_, ?_, ?_, ?_, ?_, ?_, trivial⟩
    · intro a wx c
      have e7 : a.eval (.tmp 7) = pt gv 0 := c.outE (by decide +kernel) h7
      clear c
      show Oper.wp _ _ _ _ _ _
      unfold Oper.wp
      simp only [execOp, resolve, e7]
      go_simp; try go_bits
      exact ⟨_, rfl, Only.refl _ _, rfl⟩
    · intro a wx c
      have e24 : a.eval (.tmp 24) = pt gv 0 := c.slot 0 _ (by decide +kernel) rfl
      have hcell := c.cell (p := ⟨gv, 0, none⟩) (v := .string v.uri) (cell_of_heap hy rfl) (fun _ h => h.elim)
      clear c
      show Oper.wp _ _ _ _ _ _
      unfold Oper.wp
      simp only [execOp, resolve, e24]
      go_simp; try go_bits
      exact ⟨_, rfl, Only.refl _ _, rfl⟩
    · intro a wx c
      have e7 : a.eval (.tmp 7) = pt gv 0 := c.outE (by decide +kernel) h7
      clear c
      show Oper.wp _ _ _ _ _ _
      unfold Oper.wp
      simp only [execOp, resolve, e7]
      go_simp; try go_bits
      exact ⟨_, rfl, Only.refl _ _, rfl⟩
    · intro a wx c
      have e26 : a.eval (.tmp 26) = pt gv 1 := c.slot 2 _ (by decide +kernel) rfl
      have hcell := c.cell (p := ⟨gv, 1, none⟩) (v := .int .u32 v.program) (cell_of_heap hy rfl) (fun _ h => h.elim)
      clear c
      show Oper.wp _ _ _ _ _ _
      unfold Oper.wp
      simp only [execOp, resolve, e26]
      go_simp; try go_bits
      exact ⟨_, rfl, Only.refl _ _, rfl⟩
    · intro a wx c
      have e7 : a.eval (.tmp 7) = pt gv 0 := c.outE (by decide +kernel) h7
      clear c
      show Oper.wp _ _ _ _ _ _
      unfold Oper.wp
      simp only [execOp, resolve, e7]
      go_simp; try go_bits
      exact ⟨_, rfl, Only.refl _ _, rfl⟩
    · intro a wx c
      have e28 : a.eval (.tmp 28) = pt gv 2 := c.slot 4 _ (by decide +kernel) rfl
      have hcell := c.cell (p := ⟨gv, 2, none⟩) (v := .int .u32 v.bandwidth) (cell_of_heap hy rfl) (fun _ h => h.elim)
      clear c
      show Oper.wp _ _ _ _ _ _
      unfold Oper.wp
      simp only [execOp, resolve, e28]
      go_simp; try go_bits
      exact ⟨_, rfl, Only.refl _ _, rfl⟩
    · intro a wx c
      have e7 : a.eval (.tmp 7) = pt gv 0 := c.outE (by decide +kernel) h7
      clear c
      show Oper.wp _ _ _ _ _ _
      unfold Oper.wp
      simp only [execOp, resolve, e7]
      go_simp; try go_bits
      exact ⟨_, rfl, Only.refl _ _, rfl⟩
    · intro a wx c
      have e30 : a.eval (.tmp 30) = pt gv 3 := c.slot 6 _ (by decide +kernel) rfl
      have hcell := c.cell (p := ⟨gv, 3, none⟩) (v := .int .u32 v.average) (cell_of_heap hy rfl) (fun _ h => h.elim)
      clear c
      show Oper.wp _ _ _ _ _ _
      unfold Oper.wp
      simp only [execOp, resolve, e30]
      go_simp; try go_bits
      exact ⟨_, rfl, Only.refl _ _, rfl⟩
    · intro a wx c
      have e7 : a.eval (.tmp 7) = pt gv 0 := c.outE (by decide +kernel) h7
      clear c
      show Oper.wp _ _ _ _ _ _
      unfold Oper.wp
      simp only [execOp, resolve, e7]
      go_simp; try go_bits
      exact ⟨_, rfl, Only.refl _ _, rfl⟩
    · intro a wx c
      have e32 : a.eval (.tmp 32) = pt gv 4 := c.slot 8 _ (by decide +kernel) rfl
      have hcell := c.cell (p := ⟨gv, 4, none⟩) (v := .string v.codecs) (cell_of_heap hy rfl) (fun _ h => h.elim)
      clear c
      show Oper.wp _ _ _ _ _ _
      unfold Oper.wp
      simp only [execOp, resolve, e32]
      go_simp; try go_bits
      exact ⟨_, rfl, Only.refl _ _, rfl⟩
    · intro a wx c
      have e7 : a.eval (.tmp 7) = pt gv 0 := c.outE (by decide +kernel) h7
      have hg2 : wx.heap[gv]? = some (.cells v.cells 48 (0, 0)) := c.heap hy (fun _ h => h.elim)
      clear c
      show Oper.wp _ _ _ _ _ _
      have hr := run_load_blk (P := Tryd.prog) (w := wx) 48 Tryd.isAgg48 Tryd.sizeOf48 hg2 rfl
      unfold Oper.wp
      simp only [execOp, e7, Instr.loadAt, Instr.sureAddr]
      simp [hr]
      exact ⟨_, rfl, Only.refl _ _, rfl⟩
    · intro a wx c
      have e34 : a.eval (.tmp 34) = .agg v.cells := c.slot 10 _ (by decide +kernel) rfl
      clear c
      show Oper.wp _ _ _ _ _ _
      unfold Oper.wp
      simp only [execOp, resolve, List.map_toArray, List.map_cons, List.map_nil, e34]
      go_simp
      refine (resolution_any v hok wx).mono ?_
      rintro e w' ⟨rfl, hb⟩
      exact ⟨_, rfl, Only.of_below hb, rfl⟩
    · intro a wx c
      have e7 : a.eval (.tmp 7) = pt gv 0 := c.outE (by decide +kernel) h7
      clear c
      show Oper.wp _ _ _ _ _ _
      unfold Oper.wp
      simp only [execOp, resolve, e7]
      go_simp; try go_bits
      exact ⟨_, rfl, Only.refl _ _, rfl⟩
    · intro a wx c
      have e36 : a.eval (.tmp 36) = pt gv 7 := c.slot 12 _ (by decide +kernel) rfl
      have hcell := c.cell (p := ⟨gv, 7, none⟩) (v := .string v.audio) (cell_of_heap hy rfl) (fun _ h => h.elim)
      clear c
      show Oper.wp _ _ _ _ _ _
      unfold Oper.wp
      simp only [execOp, resolve, e36]
      go_simp; try go_bits
      exact ⟨_, rfl, Only.refl _ _, rfl⟩
    · intro a wx c
      have e7 : a.eval (.tmp 7) = pt gv 0 := c.outE (by decide +kernel) h7
      clear c
      show Oper.wp _ _ _ _ _ _
      unfold Oper.wp
      simp only [execOp, resolve, e7]
      go_simp; try go_bits
      exact ⟨_, rfl, Only.refl _ _, rfl⟩
    · intro a wx c
      have e38 : a.eval (.tmp 38) = pt gv 8 := c.slot 14 _ (by decide +kernel) rfl
      have hcell := c.cell (p := ⟨gv, 8, none⟩) (v := .string v.video) (cell_of_heap hy rfl) (fun _ h => h.elim)
      clear c
      show Oper.wp _ _ _ _ _ _
      unfold Oper.wp
      simp only [execOp, resolve, e38]
      go_simp; try go_bits
      exact ⟨_, rfl, Only.refl _ _, rfl⟩
    · intro a wx c
      have e7 : a.eval (.tmp 7) = pt gv 0 := c.outE (by decide +kernel) h7
      clear c
      show Oper.wp _ _ _ _ _ _
      unfold Oper.wp
      simp only [execOp, resolve, e7]
      go_simp; try go_bits
      exact ⟨_, rfl, Only.refl _ _, rfl⟩
    · intro a wx c
      have e40 : a.eval (.tmp 40) = pt gv 9 := c.slot 16 _ (by decide +kernel) rfl
      have hcell := c.cell (p := ⟨gv, 9, none⟩) (v := .string v.subtitles) (cell_of_heap hy rfl) (fun _ h => h.elim)
      clear c
      show Oper.wp _ _ _ _ _ _
      unfold Oper.wp
      simp only [execOp, resolve, e40]
      go_simp; try go_bits
      exact ⟨_, rfl, Only.refl _ _, rfl⟩
    · intro a wx c
      have e7 : a.eval (.tmp 7) = pt gv 0 := c.outE (by decide +kernel) h7
      clear c
      show Oper.wp _ _ _ _ _ _
      unfold Oper.wp
      simp only [execOp, resolve, e7]
      go_simp; try go_bits
      exact ⟨_, rfl, Only.refl _ _, rfl⟩
    · intro a wx c
      have e42 : a.eval (.tmp 42) = pt gv 10 := c.slot 18 _ (by decide +kernel) rfl
      have hcell := c.cell (p := ⟨gv, 10, none⟩) (v := .string v.captions) (cell_of_heap hy rfl) (fun _ h => h.elim)
      clear c
      show Oper.wp _ _ _ _ _ _
      unfold Oper.wp
      simp only [execOp, resolve, e42]
      go_simp; try go_bits
      exact ⟨_, rfl, Only.refl _ _, rfl⟩
    · intro a wx c
      have e7 : a.eval (.tmp 7) = pt gv 0 := c.outE (by decide +kernel) h7
      clear c
      show Oper.wp _ _ _ _ _ _
      unfold Oper.wp
      simp only [execOp, resolve, e7]
      go_simp; try go_bits
      exact ⟨_, rfl, Only.refl _ _, rfl⟩
    · intro a wx c
      have e44 : a.eval (.tmp 44) = pt gv 11 := c.slot 20 _ (by decide +kernel) rfl
      have hcell := c.cell (p := ⟨gv, 11, none⟩) (v := .string v.name) (cell_of_heap hy rfl) (fun _ h => h.elim)
      clear c
      show Oper.wp _ _ _ _ _ _
      unfold Oper.wp
      simp only [execOp, resolve, e44]
      go_simp; try go_bits
      exact ⟨_, rfl, Only.refl _ _, rfl⟩
    · intro a wx c
      have e7 : a.eval (.tmp 7) = pt gv 0 := c.outE (by decide +kernel) h7
      clear c
      show Oper.wp _ _ _ _ _ _
      unfold Oper.wp
      simp only [execOp, resolve, e7]
      go_simp; try go_bits
      exact ⟨_, rfl, Only.refl _ _, rfl⟩
    · intro a wx c
      have e46 : a.eval (.tmp 46) = pt gv 12 := c.slot 22 _ (by decide +kernel) rfl
      have hcell := c.cell (p := ⟨gv, 12, none⟩) (v := .int .i64 v.rate) (cell_of_heap hy rfl) (fun _ h => h.elim)
      clear c
      show Oper.wp _ _ _ _ _ _
      unfold Oper.wp
      simp only [execOp, resolve, e46]
      go_simp; try go_bits
      exact ⟨_, rfl, Only.refl _ _, rfl⟩
    · intro a wx c
      have e47 : a.eval (.tmp 47) = .int .i64 v.rate := c.slot 23 _ (by decide +kernel) rfl
      clear c
      show Oper.wp _ _ _ _ _ _
      unfold Oper.wp
      simp only [execOp, resolve, e47]
      go_simp; try go_bits
      exact ⟨_, rfl, Only.refl _ _, rfl⟩
    · intro a wx c
      have e48 : a.eval (.tmp 48) = .float .f64 (floatOfInt .f64 (v.rate : Int)) := c.slot 24 _ (by decide +kernel) rfl
      clear c
      show Oper.wp _ _ _ _ _ _
      have hr := run_float_arith (P := Tryd.prog) wx .quo 50 .f64 _ _ (e8 v.rate) (e8_some hrate)
      unfold Oper.wp
      simp only [execOp, e48]
      simp [eqGuard, Act.eval, hr, Result.andThen]
      exact ⟨_, rfl, Only.refl _ _, rfl⟩
    · intro a wx c
      have e1 : a.eval (.tmp 1) = .slice (some ⟨gF, 0, none⟩) nF cF := c.outE (by decide +kernel) h1
      clear c
      show Oper.wp _ _ _ _ _ _
      unfold Oper.wp
      simp only [execOp, resolve, e1]
      go_simp; try go_bits
      exact ⟨_, rfl, Only.refl _ _, rfl⟩
    · intro a wx c
      have e6 : a.eval (.tmp 6) = .int .i64 k := c.outE (by decide +kernel) h6
      clear c
      show Oper.wp _ _ _ _ _ _
      unfold Oper.wp
      simp only [execOp, resolve, e6]
      go_simp; try go_bits
      exact ⟨_, rfl, Only.refl _ _, rfl⟩
    · intro a wx c
      have e50 : a.eval (.tmp 50) = .slice (some ⟨gF, 0, none⟩) nF cF := c.slot 26 _ (by decide +kernel) rfl
      have e51 : a.eval (.tmp 51) = .int .i64 k := c.slot 27 _ (by decide +kernel) rfl
      clear c
      show Oper.wp _ _ _ _ _ _
      have hadd : (⟨gF, 0, none⟩ : Addr).add k = ⟨gF, k, none⟩ := by unfold Addr.add; split <;> simp_all
      have hz : ∀ w, (sizeOf 4).run Tryd.prog w = .ok 1 w := Tryd.sizeOf4
      have hun := run_underlying (P := Tryd.prog) Tryd.underlying28
      refine og_val (v := pt gF k) ?_ rfl
      simp only [execOp, e50, e51]
      refine run_andValue ?_
      simp [Instr.indexAt, asIntOf, hun, hkF, hz, hadd]
    · intro a wx c
      have e52 : a.eval (.tmp 52) = pt gF k := c.slot 28 _ (by decide +kernel) rfl
      have hcell := c.cell (p := ⟨gF, k, none⟩) (v := .bool fr) hcf (fun _ h => h.elim)
      clear c
      show Oper.wp _ _ _ _ _ _
      unfold Oper.wp
      simp only [execOp, resolve, e52]
      go_simp; try go_bits
      exact ⟨_, rfl, Only.refl _ _, rfl⟩
    · intro a wx c
      have e25 : a.eval (.tmp 25) = .string v.uri := c.slot 1 _ (by decide +kernel) rfl
      have e27 : a.eval (.tmp 27) = .int .u32 v.program := c.slot 3 _ (by decide +kernel) rfl
      have e29 : a.eval (.tmp 29) = .int .u32 v.bandwidth := c.slot 5 _ (by decide +kernel) rfl
      have e31 : a.eval (.tmp 31) = .int .u32 v.average := c.slot 7 _ (by decide +kernel) rfl
      have e33 : a.eval (.tmp 33) = .string v.codecs := c.slot 9 _ (by decide +kernel) rfl
      have e35 : a.eval (.tmp 35) = .string v.resolution := c.slot 11 _ (by decide +kernel) rfl
      have e37 : a.eval (.tmp 37) = .string v.audio := c.slot 13 _ (by decide +kernel) rfl
      have e39 : a.eval (.tmp 39) = .string v.video := c.slot 15 _ (by decide +kernel) rfl
      have e41 : a.eval (.tmp 41) = .string v.subtitles := c.slot 17 _ (by decide +kernel) rfl
      have e43 : a.eval (.tmp 43) = .string v.captions := c.slot 19 _ (by decide +kernel) rfl
      have e45 : a.eval (.tmp 45) = .string v.name := c.slot 21 _ (by decide +kernel) rfl
      have e49 : a.eval (.tmp 49) = .float .f64 (e8 v.rate) := c.slot 25 _ (by decide +kernel) rfl
      have e53 : a.eval (.tmp 53) = .bool fr := c.slot 29 _ (by decide +kernel) rfl
      clear c
      show Oper.wp _ _ _ _ _ _
      refine og_val (v := .agg (v.icells fr (.slice none 0 0))) ?_ rfl
      simp only [execOp, List.map_toArray, List.map_cons, List.map_nil, e25, e27, e29, e31, e33, e35, e37, e39, e41, e43, e45, e49, e53]
      unfold Vt.icells
      go_simp
    · intro a wx c
      have hsz := c.only.size
      clear c
      show Oper.wp _ _ _ _ _ _
      have hal := al_iv wx
      refine og_ext (v := pt wx.heap.size 0) (w' := wx.alloc (.cells ivZero 53)) ?_ ((Below.refl _ _).alloc (Nat.le_refl _) _) ⟨wx.heap.size, by simpa using hsz, rfl, heap_alloc_new _ _⟩
      simp only [execOp]
      exact run_andValue' hal
  · intro a1 w1 c hb
    obtain ⟨g, hg, e8', hh⟩ : Asr.holds _ (Asr.blk (fun g => pt g 0) 53 ivZero) (a1.tmps.getD 8 undef) w1 := c.slot 31 _ (by decide) rfl
    have e54 : a1.eval (.tmp 54) = .agg (v.icells fr (.slice none 0 0)) := c.slot 30 _ (by decide) rfl
    simp only [List.drop_succ_cons, List.drop_zero]
    refine arm_store_blk 53 Tryd.isAgg53 Tryd.sizeOf53 (x := .tmp 8) (y := .tmp 54) e8' e54 hh rfl rfl ?_ ?_
    · intro u hu
      unfold Vt.icells at hu
      simp only [List.mem_cons, List.not_mem_nil, or_false] at hu
      rcases hu with rfl | rfl | rfl | rfl | rfl | rfl | rfl | rfl | rfl | rfl | rfl | rfl | rfl | rfl | rfl | rfl <;> rfl
    · intro w2 hh2 ho2
      refine wpList_nil ?_
      have hsz1 := hb.size
      refine hK a1 w2 g (c.size.trans hsz) c.defers (fun t ht h8 => ?_) e8' hg hh2 (hb.trans (only_bel ho2 hsz1 hg))
      have := c.out t (by
        intro j o hj hjo hd
        have key : (ogDsts #[{ dst := some 24, op := Op.fieldAddr 48 (Operand.tmp 7) 0, type := 0, pos := "laws.go:429", after := #[], guard := none },
      { dst := some 25, op := Op.load 9 (Operand.tmp 24), type := 9, pos := "laws.go:429", after := #[{ on := 0, ground := Ground.data }], guard := none },
      { dst := some 26, op := Op.fieldAddr 48 (Operand.tmp 7) 1, type := 0, pos := "laws.go:429", after := #[], guard := none },
      { dst := some 27, op := Op.load 23 (Operand.tmp 26), type := 23, pos := "laws.go:429", after := #[{ on := 2, ground := Ground.data }], guard := none },
      { dst := some 28, op := Op.fieldAddr 48 (Operand.tmp 7) 2, type := 0, pos := "laws.go:429", after := #[], guard := none },
      { dst := some 29, op := Op.load 23 (Operand.tmp 28), type := 23, pos := "laws.go:429", after := #[{ on := 4, ground := Ground.data }], guard := none },
      { dst := some 30, op := Op.fieldAddr 48 (Operand.tmp 7) 3, type := 0, pos := "laws.go:429", after := #[], guard := none },
      { dst := some 31, op := Op.load 23 (Operand.tmp 30), type := 23, pos := "laws.go:429", after := #[{ on := 6, ground := Ground.data }], guard := none },
      { dst := some 32, op := Op.fieldAddr 48 (Operand.tmp 7) 4, type := 0, pos := "laws.go:429", after := #[], guard := none },
      { dst := some 33, op := Op.load 9 (Operand.tmp 32), type := 9, pos := "laws.go:429", after := #[{ on := 8, ground := Ground.data }], guard := none },
      { dst := some 34, op := Op.load 48 (Operand.tmp 7), type := 48, pos := "laws.go:429", after := #[], guard := none },
      { dst := some 35, op := Op.call { callee := Callee.value (Operand.func 12), args := #[Operand.tmp 34], argTypes := #[48] }, type := 9, pos := "laws.go:429", after := #[{ on := 10, ground := Ground.data }], guard := none },
      { dst := some 36, op := Op.fieldAddr 48 (Operand.tmp 7) 7, type := 0, pos := "laws.go:429", after := #[], guard := none },
      { dst := some 37, op := Op.load 9 (Operand.tmp 36), type := 9, pos := "laws.go:429", after := #[{ on := 12, ground := Ground.data }], guard := none },
      { dst := some 38, op := Op.fieldAddr 48 (Operand.tmp 7) 8, type := 0, pos := "laws.go:429", after := #[], guard := none },
      { dst := some 39, op := Op.load 9 (Operand.tmp 38), type := 9, pos := "laws.go:429", after := #[{ on := 14, ground := Ground.data }], guard := none },
      { dst := some 40, op := Op.fieldAddr 48 (Operand.tmp 7) 9, type := 0, pos := "laws.go:429", after := #[], guard := none },
      { dst := some 41, op := Op.load 9 (Operand.tmp 40), type := 9, pos := "laws.go:429", after := #[{ on := 16, ground := Ground.data }], guard := none },
      { dst := some 42, op := Op.fieldAddr 48 (Operand.tmp 7) 10, type := 0, pos := "laws.go:429", after := #[], guard := none },
      { dst := some 43, op := Op.load 9 (Operand.tmp 42), type := 9, pos := "laws.go:429", after := #[{ on := 18, ground := Ground.data }], guard := none },
      { dst := some 44, op := Op.fieldAddr 48 (Operand.tmp 7) 11, type := 0, pos := "laws.go:429", after := #[], guard := none },
      { dst := some 45, op := Op.load 9 (Operand.tmp 44), type := 9, pos := "laws.go:429", after := #[{ on := 20, ground := Ground.data }], guard := none },
      { dst := some 46, op := Op.fieldAddr 48 (Operand.tmp 7) 12, type := 0, pos := "laws.go:429", after := #[], guard := none },
      { dst := some 47, op := Op.load 3 (Operand.tmp 46), type := 3, pos := "laws.go:429", after := #[{ on := 22, ground := Ground.data }], guard := none },
      { dst := some 48, op := Op.convert 3 50 (Operand.tmp 47), type := 50, pos := "laws.go:429", after := #[{ on := 23, ground := Ground.data }], guard := none },
      { dst := some 49, op := Op.binOp BinOp.quo 50 (Operand.tmp 48) (Operand.const (Value.float FloatKind.f64 4620693217682128896)) 50, type := 50, pos := "laws.go:429", after := #[{ on := 24, ground := Ground.data }], guard := none },
      { dst := some 50, op := Op.move (Operand.tmp 1), type := 28, pos := "laws.go:429", after := #[], guard := none },
      { dst := some 51, op := Op.move (Operand.tmp 6), type := 3, pos := "laws.go:429", after := #[], guard := none },
      { dst := some 52, op := Op.indexAddr 28 (Operand.tmp 50) (Operand.tmp 51), type := 0, pos := "laws.go:429", after := #[{ on := 26, ground := Ground.data }, { on := 27, ground := Ground.data }], guard := none },
      { dst := some 53, op := Op.load 4 (Operand.tmp 52), type := 4, pos := "laws.go:429", after := #[{ on := 28, ground := Ground.data }], guard := none },
      { dst := some 54, op := Op.build 53 #[(0, Operand.tmp 25), (1, Operand.tmp 27), (2, Operand.tmp 29), (3, Operand.tmp 31), (4, Operand.tmp 33), (5, Operand.tmp 35), (6, Operand.tmp 37), (7, Operand.tmp 39), (8, Operand.tmp 41), (9, Operand.tmp 43), (10, Operand.tmp 45), (14, Operand.tmp 49), (11, Operand.tmp 53)], type := 53, pos := "laws.go:429", after := #[{ on := 1, ground := Ground.data }, { on := 3, ground := Ground.data }, { on := 5, ground := Ground.data }, { on := 7, ground := Ground.data }, { on := 9, ground := Ground.data }, { on := 11, ground := Ground.data }, { on := 13, ground := Ground.data }, { on := 15, ground := Ground.data }, { on := 17, ground := Ground.data }, { on := 19, ground := Ground.data }, { on := 21, ground := Ground.data }, { on := 25, ground := Ground.data }, { on := 29, ground := Ground.data }], guard := none },
      { dst := some 8, op := Op.alloc 53, type := 0, pos := "laws.go:429", after := #[], guard := none },
      { dst := none, op := Op.store 53 (Operand.tmp 8) (Operand.tmp 54), type := 0, pos := "laws.go:429", after := #[{ on := 31, ground := Ground.data }, { on := 30, ground := Ground.data }, { on := 11, ground := Ground.chain }, { on := 0, ground := Ground.phase }, { on := 1, ground := Ground.phase }, { on := 2, ground := Ground.phase }, { on := 3, ground := Ground.phase }, { on := 4, ground := Ground.phase }, { on := 5, ground := Ground.phase }, { on := 6, ground := Ground.phase }, { on := 7, ground := Ground.phase }, { on := 8, ground := Ground.phase }, { on := 9, ground := Ground.phase }, { on := 10, ground := Ground.phase }, { on := 11, ground := Ground.phase }, { on := 12, ground := Ground.phase }, { on := 13, ground := Ground.phase }, { on := 14, ground := Ground.phase }, { on := 15, ground := Ground.phase }, { on := 16, ground := Ground.phase }, { on := 17, ground := Ground.phase }, { on := 18, ground := Ground.phase }, { on := 19, ground := Ground.phase }, { on := 20, ground := Ground.phase }, { on := 21, ground := Ground.phase }, { on := 22, ground := Ground.phase }, { on := 23, ground := Ground.phase }, { on := 24, ground := Ground.phase }, { on := 25, ground := Ground.phase }, { on := 26, ground := Ground.phase }, { on := 27, ground := Ground.phase }, { on := 28, ground := Ground.phase }, { on := 29, ground := Ground.phase }, { on := 30, ground := Ground.phase }, { on := 31, ground := Ground.phase }], guard := none }] [8, 24, 25, 26, 27, 28, 29, 30, 31, 32, 33, 34, 35, 36, 37, 38, 39, 40, 41, 42, 43, 44, 45, 46, 47, 48, 49, 50, 51, 52, 53, 54]) = true := by kernel_rfl
        unfold ogDsts at key
        rw [List.all_eq_true] at key
        have := key o (by have := Array.mem_of_getElem? hjo; simpa using this)
        rw [hd] at this
        have h9 : (t ∈ [8, 24, 25, 26, 27, 28, 29, 30, 31, 32, 33, 34, 35, 36, 37, 38, 39, 40, 41, 42, 43, 44, 45, 46, 47, 48, 49, 50, 51, 52, 53, 54]) := by simpa using this
        rcases (by decide : ∀ x ∈ [8, 24, 25, 26, 27, 28, 29, 30, 31, 32, 33, 34, 35, 36, 37, 38, 39, 40, 41, 42, 43, 44, 45, 46, 47, 48, 49, 50, 51, 52, 53, 54], x = 8 ∨ 24 ≤ x) t h9 with e | e
        · exact h8 e
        · exact absurd ht (Nat.not_lt.2 e))
      simp only [Act.eval, Array.getD_eq_getD_getElem?, this]
end Go.Proofs.YtkddkmiomhadaaaDoor
