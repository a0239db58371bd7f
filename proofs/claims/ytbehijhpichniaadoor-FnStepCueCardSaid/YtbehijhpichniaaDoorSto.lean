/- The walks of impl.segmentTo and its parts. -/
import Derived.Test.YtbehijhpichniaaDoorPl
namespace Go.Proofs.YtbehijhpichniaaDoor
open Go.RowKit
theorem keyTo_nil (w : World) : Calls Tryd.prog 37 #[.slice none 0 0] w (fun e w' => e = .returned (.pointer none) ∧ w' = w) := by
  go_enter Tryd.func37, Tryd.ntmps37
  go_wp2
  go_ret
  exact ⟨rfl, rfl⟩
theorem mapTo_nil (w : World) : Calls Tryd.prog 38 #[.slice none 0 0] w (fun e w' => e = .returned (.pointer none) ∧ w' = w) := by
  go_enter Tryd.func38, Tryd.ntmps38
  go_wp2
  go_ret
  exact ⟨rfl, rfl⟩
theorem cueTo_nil (w : World) : Calls Tryd.prog 39 #[.slice none 0 0] w (fun e w' => e = .returned (.pointer none) ∧ w' = w) := by
  go_enter Tryd.func39, Tryd.ntmps39
  go_wp2
  go_ret
  exact ⟨rfl, rfl⟩
/-- A slice of cues: none, or one in a block. -/
def CuesAt (oc : Option Cu) (v : Value) (w : World) : Prop := match oc with
  | none => v = .slice none 0 0
  | some c => ∃ g, v = .slice (some ⟨g, 0, none⟩) 1 1 ∧ w.heap[g]? = some (.cells c.list.toArray 46 (0, 0))
/-- What impl.cueTo hands back: nil, or a new block. -/
def ScteAt (oc : Option Cu) (B : Nat) (v : Value) (w : World) : Prop := match oc with
  | none => v = .pointer none
  | some c => ∃ g, B ≤ g ∧ v = .pointer (some ⟨g, 0, none⟩) ∧ w.heap[g]? = some (.cells c.scte 120 (0, 0))
theorem cueTo_any (oc : Option Cu) (v : Value) (w : World) (hv : CuesAt oc v w) (hs : ∀ c, oc = some c → c.syn < 100 ∧ c.typ < 100) : Calls Tryd.prog 39 #[v] w (fun e w' => ∃ p, e = .returned p ∧ ScteAt oc w.heap.size p w' ∧ Below w.heap.size w w') := by
  cases oc with
  | none =>
    obtain rfl := hv
    refine (cueTo_nil w).mono ?_
    rintro e w' ⟨rfl, rfl⟩
    exact ⟨_, rfl, rfl, Below.refl _ _⟩
  | some c =>
    obtain ⟨g, rfl, hg⟩ := hv
    obtain ⟨hs1, hs2⟩ := hs c rfl
    have c0 : w.cell? ⟨g, 0, none⟩ = some (.int .i64 c.syn) := cell_of_heap hg rfl
    have c1 : w.cell? ⟨g, 1, none⟩ = some (.int .i64 c.typ) := cell_of_heap hg rfl
    have c2 : w.cell? ⟨g, 2, none⟩ = some (.string c.cue) := cell_of_heap hg rfl
    have c3 : w.cell? ⟨g, 3, none⟩ = some (.string c.id) := cell_of_heap hg rfl
    have c4 : w.cell? ⟨g, 4, none⟩ = some (.float .f64 c.tm) := cell_of_heap hg rfl
    have c5 : w.cell? ⟨g, 5, none⟩ = some (.float .f64 c.el) := cell_of_heap hg rfl
    clear hg hs
    have hst := store_f
    go_enter Tryd.func39, Tryd.ntmps39
    go_wp2
    go_ret
    refine ⟨_, rfl, ⟨w.heap.size + 1, Nat.le_succ _, rfl, ?_⟩, ((Below.refl _ _).alloc (Nat.le_refl _) _).alloc (by simp) _⟩
    exact (congrArg (fun n => (World.alloc _ _).heap[n]?) (by simp)).trans (heap_alloc_new _ _)
theorem CuesAt.keep {oc : Option Cu} {v : Value} {w w' : World} (h : CuesAt oc v w) (hh : ∀ g, g < w.heap.size → w'.heap[g]? = w.heap[g]?) : CuesAt oc v w' := by
  cases oc with
  | none => exact h
  | some c =>
    obtain ⟨g, hv, hg⟩ := h
    exact ⟨g, hv, (hh g (Array.getElem?_eq_some_iff.1 hg).1).trans hg⟩
/-- A segment as it is made: no number yet, no key, no map. -/
def segc (dur : Nat) (uri : ByteArray) (lim off : Int) (p : Value) : Array Value := #[.int .u64 0, .string ⟨#[]⟩, .string uri, .float .f64 dur, .int .i64 lim, .int .i64 off, .pointer none, .pointer none, .bool false, p, .string ⟨#[]⟩]
/-- A segment as the caller gives it. -/
def segv (dur : Nat) (uri : ByteArray) (lim off : Int) (cv : Value) : Array Value := #[.int .u64 0, .string ⟨#[]⟩, .string uri, .float .f64 dur, .int .i64 lim, .int .i64 off, .slice none 0 0, .slice none 0 0, cv, .bool false, .string ⟨#[]⟩]
def SegWith (B dur : Nat) (uri : ByteArray) (lim off : Int) (cu : Cu) (v : Value) (w : World) : Prop := ∃ g, B ≤ g ∧ v = .agg (segc dur uri lim off (.pointer (some ⟨g, 0, none⟩))) ∧ w.heap[g]? = some (.cells cu.scte 120 (0, 0))
theorem ScteAt.keep {oc : Option Cu} {B : Nat} {v : Value} {w w' : World} (h : ScteAt oc B v w) (hh : ∀ g, g < w.heap.size → w'.heap[g]? = w.heap[g]?) : ScteAt oc B v w' := by
  cases oc with
  | none => exact h
  | some c =>
    obtain ⟨g, hB, hv, hg⟩ := h
    exact ⟨g, hB, hv, (hh g (Array.getElem?_eq_some_iff.1 hg).1).trans hg⟩
def StoPost (dur : Nat) (uri : ByteArray) (lim off : Int) (oc : Option Cu) (w : World) (e : Ending) (w' : World) : Prop := ∃ g p, w.heap.size ≤ g ∧ e = .returned (.pointer (some ⟨g, 0, none⟩)) ∧ w'.heap[g]? = some (.cells (segc dur uri lim off p) 65 (0, 0)) ∧ ScteAt oc w.heap.size p w' ∧ Below w.heap.size w w'
set_option maxRecDepth 100000 in
set_option maxHeartbeats 8000000 in
theorem sto_none {id : Nat} {a0 : Act} {w : World} {Q : Exit → Act → World → Prop} {b dur : Nat} {uri : ByteArray} {lim off : Int} (hsz : a0.tmps.size = 28) (h1 : a0.eval (.tmp 1) = .pointer (some ⟨b, 0, none⟩)) (hb : w.heap[b]? = some (.cells (segv dur uri lim off (.slice none 0 0)) 31 (0, 0)))
    (hK : ∀ (y3 y4 y5 y6 y7 y8 y9 y10 y11 y12 y13 y14 y15 y16 y17 y18 y19 y20 y21 y22 y23 y24 y25 y26 : Value) (p : Value) (g : Nat) (w' : World), w.heap.size ≤ g → w'.heap[g]? = some (.cells (segc dur uri lim off p) 65 (0, 0)) → ScteAt none w.heap.size p w' → Below w.heap.size w w' → Q .normal ((((((((((((((((((((((((((a0.put (some 3) y3).put (some 4) y4).put (some 5) y5).put (some 6) y6).put (some 7) y7).put (some 8) y8).put (some 9) y9).put (some 10) y10).put (some 11) y11).put (some 12) y12).put (some 13) y13).put (some 14) y14).put (some 15) y15).put (some 16) y16).put (some 17) y17).put (some 18) y18).put (some 19) y19).put (some 20) y20).put (some 21) y21).put (some 22) y22).put (some 23) y23).put (some 24) y24).put (some 25) y25).put (some 26) y26).put (some 27) (.pointer (some ⟨g, 0, none⟩))).put (some 2) (.pointer (some ⟨g, 0, none⟩))) w') :
    (Code.region id #[{ dst := some 3, op := Op.fieldAddr 31 (Operand.tmp 1) 1, type := 0, pos := "list.go:314", after := #[], guard := none },
      { dst := some 4, op := Op.load 9 (Operand.tmp 3), type := 9, pos := "list.go:314", after := #[{ on := 0, ground := Ground.data }], guard := none },
      { dst := some 5, op := Op.fieldAddr 31 (Operand.tmp 1) 2, type := 0, pos := "list.go:314", after := #[], guard := none },
      { dst := some 6, op := Op.load 9 (Operand.tmp 5), type := 9, pos := "list.go:314", after := #[{ on := 2, ground := Ground.data }], guard := none },
      { dst := some 7, op := Op.fieldAddr 31 (Operand.tmp 1) 3, type := 0, pos := "list.go:314", after := #[], guard := none },
      { dst := some 8, op := Op.load 26 (Operand.tmp 7), type := 26, pos := "list.go:314", after := #[{ on := 4, ground := Ground.data }], guard := none },
      { dst := some 9, op := Op.fieldAddr 31 (Operand.tmp 1) 4, type := 0, pos := "list.go:314", after := #[], guard := none },
      { dst := some 10, op := Op.load 2 (Operand.tmp 9), type := 2, pos := "list.go:314", after := #[{ on := 6, ground := Ground.data }], guard := none },
      { dst := some 11, op := Op.fieldAddr 31 (Operand.tmp 1) 5, type := 0, pos := "list.go:314", after := #[], guard := none },
      { dst := some 12, op := Op.load 2 (Operand.tmp 11), type := 2, pos := "list.go:314", after := #[{ on := 8, ground := Ground.data }], guard := none },
      { dst := some 13, op := Op.fieldAddr 31 (Operand.tmp 1) 6, type := 0, pos := "list.go:314", after := #[], guard := none },
      { dst := some 14, op := Op.load 27 (Operand.tmp 13), type := 27, pos := "list.go:314", after := #[{ on := 10, ground := Ground.data }], guard := none },
      { dst := some 15, op := Op.call { callee := Callee.value (Operand.func 37), args := #[Operand.tmp 14], argTypes := #[27] }, type := 61, pos := "list.go:315", after := #[{ on := 11, ground := Ground.data }], guard := none },
      { dst := some 16, op := Op.fieldAddr 31 (Operand.tmp 1) 7, type := 0, pos := "list.go:314", after := #[], guard := none },
      { dst := some 17, op := Op.load 28 (Operand.tmp 16), type := 28, pos := "list.go:314", after := #[{ on := 13, ground := Ground.data }], guard := none },
      { dst := some 18, op := Op.call { callee := Callee.value (Operand.func 38), args := #[Operand.tmp 17], argTypes := #[28] }, type := 62, pos := "list.go:315", after := #[{ on := 14, ground := Ground.data }, { on := 12, ground := Ground.chain }], guard := none },
      { dst := some 19, op := Op.fieldAddr 31 (Operand.tmp 1) 8, type := 0, pos := "list.go:314", after := #[], guard := none },
      { dst := some 20, op := Op.load 29 (Operand.tmp 19), type := 29, pos := "list.go:314", after := #[{ on := 16, ground := Ground.data }], guard := none },
      { dst := some 21, op := Op.call { callee := Callee.value (Operand.func 39), args := #[Operand.tmp 20], argTypes := #[29] }, type := 63, pos := "list.go:316", after := #[{ on := 17, ground := Ground.data }, { on := 15, ground := Ground.chain }], guard := none },
      { dst := some 22, op := Op.fieldAddr 31 (Operand.tmp 1) 9, type := 0, pos := "list.go:314", after := #[], guard := none },
      { dst := some 23, op := Op.load 4 (Operand.tmp 22), type := 4, pos := "list.go:314", after := #[{ on := 19, ground := Ground.data }], guard := none },
      { dst := some 24, op := Op.fieldAddr 31 (Operand.tmp 1) 10, type := 0, pos := "list.go:314", after := #[], guard := none },
      { dst := some 25, op := Op.load 9 (Operand.tmp 24), type := 9, pos := "list.go:314", after := #[{ on := 21, ground := Ground.data }], guard := none },
      { dst := some 26, op := Op.build 65 #[(1, Operand.tmp 4), (2, Operand.tmp 6), (3, Operand.tmp 8), (4, Operand.tmp 10), (5, Operand.tmp 12), (6, Operand.tmp 15), (7, Operand.tmp 18), (9, Operand.tmp 21), (8, Operand.tmp 23), (10, Operand.tmp 25)], type := 65, pos := "list.go:314", after := #[{ on := 1, ground := Ground.data }, { on := 3, ground := Ground.data }, { on := 5, ground := Ground.data }, { on := 7, ground := Ground.data }, { on := 9, ground := Ground.data }, { on := 12, ground := Ground.data }, { on := 15, ground := Ground.data }, { on := 18, ground := Ground.data }, { on := 20, ground := Ground.data }, { on := 22, ground := Ground.data }], guard := none },
      { dst := some 27, op := Op.box 65 (Operand.tmp 26), type := 60, pos := "list.go:314", after := #[{ on := 23, ground := Ground.data }], guard := none },
      { dst := some 2, op := Op.assign (Operand.tmp 27), type := 60, pos := "list.go:314", after := #[{ on := 24, ground := Ground.data }, { on := 18, ground := Ground.chain }, { on := 0, ground := Ground.phase }, { on := 1, ground := Ground.phase }, { on := 2, ground := Ground.phase }, { on := 3, ground := Ground.phase }, { on := 4, ground := Ground.phase }, { on := 5, ground := Ground.phase }, { on := 6, ground := Ground.phase }, { on := 7, ground := Ground.phase }, { on := 8, ground := Ground.phase }, { on := 9, ground := Ground.phase }, { on := 10, ground := Ground.phase }, { on := 11, ground := Ground.phase }, { on := 12, ground := Ground.phase }, { on := 13, ground := Ground.phase }, { on := 14, ground := Ground.phase }, { on := 15, ground := Ground.phase }, { on := 16, ground := Ground.phase }, { on := 17, ground := Ground.phase }, { on := 18, ground := Ground.phase }, { on := 19, ground := Ground.phase }, { on := 20, ground := Ground.phase }, { on := 21, ground := Ground.phase }, { on := 22, ground := Ground.phase }, { on := 23, ground := Ground.phase }, { on := 24, ground := Ground.phase }], guard := none }] true).wp Tryd.prog Q a0 w := by
  refine wp_region_og1 (n := 28) 24 [Asr.eq (.pointer (some ⟨b, 1, none⟩)), Asr.eq (.string ⟨#[]⟩), Asr.eq (.pointer (some ⟨b, 2, none⟩)), Asr.eq (.string uri), Asr.eq (.pointer (some ⟨b, 3, none⟩)), Asr.eq (.float .f64 dur), Asr.eq (.pointer (some ⟨b, 4, none⟩)), Asr.eq (.int .i64 lim), Asr.eq (.pointer (some ⟨b, 5, none⟩)), Asr.eq (.int .i64 off), Asr.eq (.pointer (some ⟨b, 6, none⟩)), Asr.eq (.slice none 0 0), Asr.eq (.pointer none), Asr.eq (.pointer (some ⟨b, 7, none⟩)), Asr.eq (.slice none 0 0), Asr.eq (.pointer none), Asr.eq (.pointer (some ⟨b, 8, none⟩)), Asr.eq (.slice none 0 0), Asr.eq (.pointer none), Asr.eq (.pointer (some ⟨b, 9, none⟩)), Asr.eq (.bool false), Asr.eq (.pointer (some ⟨b, 10, none⟩)), Asr.eq (.string ⟨#[]⟩), Asr.eq (.agg (segc dur uri lim off (.pointer none)))] (by kernel_rfl) (by kernel_rfl) (by kernel_rfl) (by simp) (by kernel_rfl) hsz trivial ?_ ?_
  · simp only [List.take_succ_cons, List.take_zero]
    refine ⟨?_, ?_, ?_, ?_, ?_, ?_, ?_, ?_, ?_, ?_, ?_, ?_, ?_, ?_, ?_, ?_, ?_, ?_, ?_, ?_, ?_, ?_, ?_, ?_, trivial⟩
    · intro a wx c
      have e1 : a.eval (.tmp 1) = .pointer (some ⟨b, 0, none⟩) := c.outE (by decide +kernel) h1
      clear c
      show Oper.wp _ _ _ _ _ _
      unfold Oper.wp
      simp only [execOp, resolve, e1]
      go_simp; try go_bits
      exact ⟨_, rfl, Only.refl _ _, rfl⟩
    · intro a wx c
      have e3 : a.eval (.tmp 3) = .pointer (some ⟨b, 1, none⟩) := c.slot 0 _ (by decide +kernel) rfl
      have hc := c.cell (p := ⟨b, 1, none⟩) (v := .string ⟨#[]⟩) (cell_of_heap hb rfl) (fun _ h => h.elim)
      clear c
      show Oper.wp _ _ _ _ _ _
      unfold Oper.wp
      simp only [execOp, resolve, e3]
      go_simp; try go_bits
      exact ⟨_, rfl, Only.refl _ _, rfl⟩
    · intro a wx c
      have e1 : a.eval (.tmp 1) = .pointer (some ⟨b, 0, none⟩) := c.outE (by decide +kernel) h1
      clear c
      show Oper.wp _ _ _ _ _ _
      unfold Oper.wp
      simp only [execOp, resolve, e1]
      go_simp; try go_bits
      exact ⟨_, rfl, Only.refl _ _, rfl⟩
    · intro a wx c
      have e5 : a.eval (.tmp 5) = .pointer (some ⟨b, 2, none⟩) := c.slot 2 _ (by decide +kernel) rfl
      have hc := c.cell (p := ⟨b, 2, none⟩) (v := .string uri) (cell_of_heap hb rfl) (fun _ h => h.elim)
      clear c
      show Oper.wp _ _ _ _ _ _
      unfold Oper.wp
      simp only [execOp, resolve, e5]
      go_simp; try go_bits
      exact ⟨_, rfl, Only.refl _ _, rfl⟩
    · intro a wx c
      have e1 : a.eval (.tmp 1) = .pointer (some ⟨b, 0, none⟩) := c.outE (by decide +kernel) h1
      clear c
      show Oper.wp _ _ _ _ _ _
      unfold Oper.wp
      simp only [execOp, resolve, e1]
      go_simp; try go_bits
      exact ⟨_, rfl, Only.refl _ _, rfl⟩
    · intro a wx c
      have e7 : a.eval (.tmp 7) = .pointer (some ⟨b, 3, none⟩) := c.slot 4 _ (by decide +kernel) rfl
      have hc := c.cell (p := ⟨b, 3, none⟩) (v := .float .f64 dur) (cell_of_heap hb rfl) (fun _ h => h.elim)
      clear c
      show Oper.wp _ _ _ _ _ _
      unfold Oper.wp
      simp only [execOp, resolve, e7]
      go_simp; try go_bits
      exact ⟨_, rfl, Only.refl _ _, rfl⟩
    · intro a wx c
      have e1 : a.eval (.tmp 1) = .pointer (some ⟨b, 0, none⟩) := c.outE (by decide +kernel) h1
      clear c
      show Oper.wp _ _ _ _ _ _
      unfold Oper.wp
      simp only [execOp, resolve, e1]
      go_simp; try go_bits
      exact ⟨_, rfl, Only.refl _ _, rfl⟩
    · intro a wx c
      have e9 : a.eval (.tmp 9) = .pointer (some ⟨b, 4, none⟩) := c.slot 6 _ (by decide +kernel) rfl
      have hc := c.cell (p := ⟨b, 4, none⟩) (v := .int .i64 lim) (cell_of_heap hb rfl) (fun _ h => h.elim)
      clear c
      show Oper.wp _ _ _ _ _ _
      unfold Oper.wp
      simp only [execOp, resolve, e9]
      go_simp; try go_bits
      exact ⟨_, rfl, Only.refl _ _, rfl⟩
    · intro a wx c
      have e1 : a.eval (.tmp 1) = .pointer (some ⟨b, 0, none⟩) := c.outE (by decide +kernel) h1
      clear c
      show Oper.wp _ _ _ _ _ _
      unfold Oper.wp
      simp only [execOp, resolve, e1]
      go_simp; try go_bits
      exact ⟨_, rfl, Only.refl _ _, rfl⟩
    · intro a wx c
      have e11 : a.eval (.tmp 11) = .pointer (some ⟨b, 5, none⟩) := c.slot 8 _ (by decide +kernel) rfl
      have hc := c.cell (p := ⟨b, 5, none⟩) (v := .int .i64 off) (cell_of_heap hb rfl) (fun _ h => h.elim)
      clear c
      show Oper.wp _ _ _ _ _ _
      unfold Oper.wp
      simp only [execOp, resolve, e11]
      go_simp; try go_bits
      exact ⟨_, rfl, Only.refl _ _, rfl⟩
    · intro a wx c
      have e1 : a.eval (.tmp 1) = .pointer (some ⟨b, 0, none⟩) := c.outE (by decide +kernel) h1
      clear c
      show Oper.wp _ _ _ _ _ _
      unfold Oper.wp
      simp only [execOp, resolve, e1]
      go_simp; try go_bits
      exact ⟨_, rfl, Only.refl _ _, rfl⟩
    · intro a wx c
      have e13 : a.eval (.tmp 13) = .pointer (some ⟨b, 6, none⟩) := c.slot 10 _ (by decide +kernel) rfl
      have hc := c.cell (p := ⟨b, 6, none⟩) (v := .slice none 0 0) (cell_of_heap hb rfl) (fun _ h => h.elim)
      clear c
      show Oper.wp _ _ _ _ _ _
      unfold Oper.wp
      simp only [execOp, resolve, e13]
      go_simp; try go_bits
      exact ⟨_, rfl, Only.refl _ _, rfl⟩
    · intro a wx c
      have e14 : a.eval (.tmp 14) = .slice none 0 0 := c.slot 11 _ (by decide +kernel) rfl
      clear c
      show Oper.wp _ _ _ _ _ _
      unfold Oper.wp
      simp only [execOp, resolve, List.map_toArray, List.map_cons, List.map_nil, e14]
      go_simp
      refine (keyTo_nil _).mono ?_
      rintro e w' ⟨rfl, rfl⟩
      exact ⟨_, rfl, Only.refl _ _, rfl⟩
    · intro a wx c
      have e1 : a.eval (.tmp 1) = .pointer (some ⟨b, 0, none⟩) := c.outE (by decide +kernel) h1
      clear c
      show Oper.wp _ _ _ _ _ _
      unfold Oper.wp
      simp only [execOp, resolve, e1]
      go_simp; try go_bits
      exact ⟨_, rfl, Only.refl _ _, rfl⟩
    · intro a wx c
      have e16 : a.eval (.tmp 16) = .pointer (some ⟨b, 7, none⟩) := c.slot 13 _ (by decide +kernel) rfl
      have hc := c.cell (p := ⟨b, 7, none⟩) (v := .slice none 0 0) (cell_of_heap hb rfl) (fun _ h => h.elim)
      clear c
      show Oper.wp _ _ _ _ _ _
      unfold Oper.wp
      simp only [execOp, resolve, e16]
      go_simp; try go_bits
      exact ⟨_, rfl, Only.refl _ _, rfl⟩
    · intro a wx c
      have e17 : a.eval (.tmp 17) = .slice none 0 0 := c.slot 14 _ (by decide +kernel) rfl
      clear c
      show Oper.wp _ _ _ _ _ _
      unfold Oper.wp
      simp only [execOp, resolve, List.map_toArray, List.map_cons, List.map_nil, e17]
      go_simp
      refine (mapTo_nil _).mono ?_
      rintro e w' ⟨rfl, rfl⟩
      exact ⟨_, rfl, Only.refl _ _, rfl⟩
    · intro a wx c
      have e1 : a.eval (.tmp 1) = .pointer (some ⟨b, 0, none⟩) := c.outE (by decide +kernel) h1
      clear c
      show Oper.wp _ _ _ _ _ _
      unfold Oper.wp
      simp only [execOp, resolve, e1]
      go_simp; try go_bits
      exact ⟨_, rfl, Only.refl _ _, rfl⟩
    · intro a wx c
      have e19 : a.eval (.tmp 19) = .pointer (some ⟨b, 8, none⟩) := c.slot 16 _ (by decide +kernel) rfl
      have hc := c.cell (p := ⟨b, 8, none⟩) (v := .slice none 0 0) (cell_of_heap hb rfl) (fun _ h => h.elim)
      clear c
      show Oper.wp _ _ _ _ _ _
      unfold Oper.wp
      simp only [execOp, resolve, e19]
      go_simp; try go_bits
      exact ⟨_, rfl, Only.refl _ _, rfl⟩
    · intro a wx c
      have e20 : a.eval (.tmp 20) = .slice none 0 0 := c.slot 17 _ (by decide +kernel) rfl
      clear c
      show Oper.wp _ _ _ _ _ _
      unfold Oper.wp
      simp only [execOp, resolve, List.map_toArray, List.map_cons, List.map_nil, e20]
      go_simp
      refine (cueTo_nil _).mono ?_
      rintro e w' ⟨rfl, rfl⟩
      exact ⟨_, rfl, Only.refl _ _, rfl⟩
    · intro a wx c
      have e1 : a.eval (.tmp 1) = .pointer (some ⟨b, 0, none⟩) := c.outE (by decide +kernel) h1
      clear c
      show Oper.wp _ _ _ _ _ _
      unfold Oper.wp
      simp only [execOp, resolve, e1]
      go_simp; try go_bits
      exact ⟨_, rfl, Only.refl _ _, rfl⟩
    · intro a wx c
      have e22 : a.eval (.tmp 22) = .pointer (some ⟨b, 9, none⟩) := c.slot 19 _ (by decide +kernel) rfl
      have hc := c.cell (p := ⟨b, 9, none⟩) (v := .bool false) (cell_of_heap hb rfl) (fun _ h => h.elim)
      clear c
      show Oper.wp _ _ _ _ _ _
      unfold Oper.wp
      simp only [execOp, resolve, e22]
      go_simp; try go_bits
      exact ⟨_, rfl, Only.refl _ _, rfl⟩
    · intro a wx c
      have e1 : a.eval (.tmp 1) = .pointer (some ⟨b, 0, none⟩) := c.outE (by decide +kernel) h1
      clear c
      show Oper.wp _ _ _ _ _ _
      unfold Oper.wp
      simp only [execOp, resolve, e1]
      go_simp; try go_bits
      exact ⟨_, rfl, Only.refl _ _, rfl⟩
    · intro a wx c
      have e24 : a.eval (.tmp 24) = .pointer (some ⟨b, 10, none⟩) := c.slot 21 _ (by decide +kernel) rfl
      have hc := c.cell (p := ⟨b, 10, none⟩) (v := .string ⟨#[]⟩) (cell_of_heap hb rfl) (fun _ h => h.elim)
      clear c
      show Oper.wp _ _ _ _ _ _
      unfold Oper.wp
      simp only [execOp, resolve, e24]
      go_simp; try go_bits
      exact ⟨_, rfl, Only.refl _ _, rfl⟩
    · intro a wx c
      have e4 : a.eval (.tmp 4) = .string ⟨#[]⟩ := c.slot 1 _ (by decide +kernel) rfl
      have e6 : a.eval (.tmp 6) = .string uri := c.slot 3 _ (by decide +kernel) rfl
      have e8 : a.eval (.tmp 8) = .float .f64 dur := c.slot 5 _ (by decide +kernel) rfl
      have e10 : a.eval (.tmp 10) = .int .i64 lim := c.slot 7 _ (by decide +kernel) rfl
      have e12 : a.eval (.tmp 12) = .int .i64 off := c.slot 9 _ (by decide +kernel) rfl
      have e15 : a.eval (.tmp 15) = .pointer none := c.slot 12 _ (by decide +kernel) rfl
      have e18 : a.eval (.tmp 18) = .pointer none := c.slot 15 _ (by decide +kernel) rfl
      have e21 : a.eval (.tmp 21) = .pointer none := c.slot 18 _ (by decide +kernel) rfl
      have e23 : a.eval (.tmp 23) = .bool false := c.slot 20 _ (by decide +kernel) rfl
      have e25 : a.eval (.tmp 25) = .string ⟨#[]⟩ := c.slot 22 _ (by decide +kernel) rfl
      clear c
      show Oper.wp _ _ _ _ _ _
      unfold Oper.wp segc
      simp only [execOp, List.map_toArray, List.map_cons, List.map_nil, e4, e6, e8, e10, e12, e15, e18, e21, e23, e25]
      go_simp
      exact ⟨_, rfl, Only.refl _ _, rfl⟩
  · intro a1 w1 c hbl
    obtain ⟨p, hp, r23⟩ : ∃ p, ScteAt none w.heap.size p w1 ∧ a1.tmps.getD 26 undef = .agg (segc dur uri lim off p) := ⟨_, rfl, c.slot 23 _ (by decide) rfl⟩
    have ha := frame_head c [3, 4, 5, 6, 7, 8, 9, 10, 11, 12, 13, 14, 15, 16, 17, 18, 19, 20, 21, 22, 23, 24, 25, 26] (by kernel_rfl)
    clear c
    simp only [List.drop_succ_cons, List.drop_zero]
    refine arm_run rfl (v := .pointer (some ⟨w1.heap.size, 0, none⟩)) (w' := w1.alloc (.cells (segc dur uri lim off p) 65 (0, 0))) ?_ ?_
    · have r : a1.eval (.tmp 26) = .agg (segc dur uri lim off p) := r23
      simp only [execOp, r]
      unfold segc
      go_simp
    refine arm_run rfl (v := .pointer (some ⟨w1.heap.size, 0, none⟩)) (w' := w1.alloc (.cells (segc dur uri lim off p) 65 (0, 0))) ?_ ?_
    · simp only [execOp]
      rw [ev_eq (by rw [ha]; simp only [List.foldl_cons, List.foldl_nil, size_put, hsz]; decide)]
      go_simp
    refine wpList_nil ?_
    rw [ha]
    have hal : Below w1.heap.size w1 (w1.alloc (.cells (segc dur uri lim off p) 65 (0, 0))) := (Below.refl _ _).alloc (Nat.le_refl _) _
    exact hK _ _ _ _ _ _ _ _ _ _ _ _ _ _ _ _ _ _ _ _ _ _ _ _ p w1.heap.size _ hbl.size (heap_alloc_new _ _) (hp.keep fun g hg => hal.block g hg) (hbl.trans (hal.mono hbl.size))
set_option maxRecDepth 100000 in
set_option maxHeartbeats 8000000 in
theorem sto_some {id : Nat} {a0 : Act} {w : World} {Q : Exit → Act → World → Prop} {b dur : Nat} {uri : ByteArray} {lim off : Int} {q : Nat} {cu : Cu} (hq : w.heap[q]? = some (.cells cu.list.toArray 46 (0, 0))) (hs : ∀ c, some cu = some c → c.syn < 100 ∧ c.typ < 100) (hsz : a0.tmps.size = 28) (h1 : a0.eval (.tmp 1) = .pointer (some ⟨b, 0, none⟩)) (hb : w.heap[b]? = some (.cells (segv dur uri lim off (.slice (some ⟨q, 0, none⟩) 1 1)) 31 (0, 0)))
    (hK : ∀ (y3 y4 y5 y6 y7 y8 y9 y10 y11 y12 y13 y14 y15 y16 y17 y18 y19 y20 y21 y22 y23 y24 y25 y26 : Value) (p : Value) (g : Nat) (w' : World), w.heap.size ≤ g → w'.heap[g]? = some (.cells (segc dur uri lim off p) 65 (0, 0)) → ScteAt (some cu) w.heap.size p w' → Below w.heap.size w w' → Q .normal ((((((((((((((((((((((((((a0.put (some 3) y3).put (some 4) y4).put (some 5) y5).put (some 6) y6).put (some 7) y7).put (some 8) y8).put (some 9) y9).put (some 10) y10).put (some 11) y11).put (some 12) y12).put (some 13) y13).put (some 14) y14).put (some 15) y15).put (some 16) y16).put (some 17) y17).put (some 18) y18).put (some 19) y19).put (some 20) y20).put (some 21) y21).put (some 22) y22).put (some 23) y23).put (some 24) y24).put (some 25) y25).put (some 26) y26).put (some 27) (.pointer (some ⟨g, 0, none⟩))).put (some 2) (.pointer (some ⟨g, 0, none⟩))) w') :
    (Code.region id #[{ dst := some 3, op := Op.fieldAddr 31 (Operand.tmp 1) 1, type := 0, pos := "list.go:314", after := #[], guard := none },
      { dst := some 4, op := Op.load 9 (Operand.tmp 3), type := 9, pos := "list.go:314", after := #[{ on := 0, ground := Ground.data }], guard := none },
      { dst := some 5, op := Op.fieldAddr 31 (Operand.tmp 1) 2, type := 0, pos := "list.go:314", after := #[], guard := none },
      { dst := some 6, op := Op.load 9 (Operand.tmp 5), type := 9, pos := "list.go:314", after := #[{ on := 2, ground := Ground.data }], guard := none },
      { dst := some 7, op := Op.fieldAddr 31 (Operand.tmp 1) 3, type := 0, pos := "list.go:314", after := #[], guard := none },
      { dst := some 8, op := Op.load 26 (Operand.tmp 7), type := 26, pos := "list.go:314", after := #[{ on := 4, ground := Ground.data }], guard := none },
      { dst := some 9, op := Op.fieldAddr 31 (Operand.tmp 1) 4, type := 0, pos := "list.go:314", after := #[], guard := none },
      { dst := some 10, op := Op.load 2 (Operand.tmp 9), type := 2, pos := "list.go:314", after := #[{ on := 6, ground := Ground.data }], guard := none },
      { dst := some 11, op := Op.fieldAddr 31 (Operand.tmp 1) 5, type := 0, pos := "list.go:314", after := #[], guard := none },
      { dst := some 12, op := Op.load 2 (Operand.tmp 11), type := 2, pos := "list.go:314", after := #[{ on := 8, ground := Ground.data }], guard := none },
      { dst := some 13, op := Op.fieldAddr 31 (Operand.tmp 1) 6, type := 0, pos := "list.go:314", after := #[], guard := none },
      { dst := some 14, op := Op.load 27 (Operand.tmp 13), type := 27, pos := "list.go:314", after := #[{ on := 10, ground := Ground.data }], guard := none },
      { dst := some 15, op := Op.call { callee := Callee.value (Operand.func 37), args := #[Operand.tmp 14], argTypes := #[27] }, type := 61, pos := "list.go:315", after := #[{ on := 11, ground := Ground.data }], guard := none },
      { dst := some 16, op := Op.fieldAddr 31 (Operand.tmp 1) 7, type := 0, pos := "list.go:314", after := #[], guard := none },
      { dst := some 17, op := Op.load 28 (Operand.tmp 16), type := 28, pos := "list.go:314", after := #[{ on := 13, ground := Ground.data }], guard := none },
      { dst := some 18, op := Op.call { callee := Callee.value (Operand.func 38), args := #[Operand.tmp 17], argTypes := #[28] }, type := 62, pos := "list.go:315", after := #[{ on := 14, ground := Ground.data }, { on := 12, ground := Ground.chain }], guard := none },
      { dst := some 19, op := Op.fieldAddr 31 (Operand.tmp 1) 8, type := 0, pos := "list.go:314", after := #[], guard := none },
      { dst := some 20, op := Op.load 29 (Operand.tmp 19), type := 29, pos := "list.go:314", after := #[{ on := 16, ground := Ground.data }], guard := none },
      { dst := some 21, op := Op.call { callee := Callee.value (Operand.func 39), args := #[Operand.tmp 20], argTypes := #[29] }, type := 63, pos := "list.go:316", after := #[{ on := 17, ground := Ground.data }, { on := 15, ground := Ground.chain }], guard := none },
      { dst := some 22, op := Op.fieldAddr 31 (Operand.tmp 1) 9, type := 0, pos := "list.go:314", after := #[], guard := none },
      { dst := some 23, op := Op.load 4 (Operand.tmp 22), type := 4, pos := "list.go:314", after := #[{ on := 19, ground := Ground.data }], guard := none },
      { dst := some 24, op := Op.fieldAddr 31 (Operand.tmp 1) 10, type := 0, pos := "list.go:314", after := #[], guard := none },
      { dst := some 25, op := Op.load 9 (Operand.tmp 24), type := 9, pos := "list.go:314", after := #[{ on := 21, ground := Ground.data }], guard := none },
      { dst := some 26, op := Op.build 65 #[(1, Operand.tmp 4), (2, Operand.tmp 6), (3, Operand.tmp 8), (4, Operand.tmp 10), (5, Operand.tmp 12), (6, Operand.tmp 15), (7, Operand.tmp 18), (9, Operand.tmp 21), (8, Operand.tmp 23), (10, Operand.tmp 25)], type := 65, pos := "list.go:314", after := #[{ on := 1, ground := Ground.data }, { on := 3, ground := Ground.data }, { on := 5, ground := Ground.data }, { on := 7, ground := Ground.data }, { on := 9, ground := Ground.data }, { on := 12, ground := Ground.data }, { on := 15, ground := Ground.data }, { on := 18, ground := Ground.data }, { on := 20, ground := Ground.data }, { on := 22, ground := Ground.data }], guard := none },
      { dst := some 27, op := Op.box 65 (Operand.tmp 26), type := 60, pos := "list.go:314", after := #[{ on := 23, ground := Ground.data }], guard := none },
      { dst := some 2, op := Op.assign (Operand.tmp 27), type := 60, pos := "list.go:314", after := #[{ on := 24, ground := Ground.data }, { on := 18, ground := Ground.chain }, { on := 0, ground := Ground.phase }, { on := 1, ground := Ground.phase }, { on := 2, ground := Ground.phase }, { on := 3, ground := Ground.phase }, { on := 4, ground := Ground.phase }, { on := 5, ground := Ground.phase }, { on := 6, ground := Ground.phase }, { on := 7, ground := Ground.phase }, { on := 8, ground := Ground.phase }, { on := 9, ground := Ground.phase }, { on := 10, ground := Ground.phase }, { on := 11, ground := Ground.phase }, { on := 12, ground := Ground.phase }, { on := 13, ground := Ground.phase }, { on := 14, ground := Ground.phase }, { on := 15, ground := Ground.phase }, { on := 16, ground := Ground.phase }, { on := 17, ground := Ground.phase }, { on := 18, ground := Ground.phase }, { on := 19, ground := Ground.phase }, { on := 20, ground := Ground.phase }, { on := 21, ground := Ground.phase }, { on := 22, ground := Ground.phase }, { on := 23, ground := Ground.phase }, { on := 24, ground := Ground.phase }], guard := none }] true).wp Tryd.prog Q a0 w := by
  refine wp_region_og1 (n := 28) 24 [Asr.eq (.pointer (some ⟨b, 1, none⟩)), Asr.eq (.string ⟨#[]⟩), Asr.eq (.pointer (some ⟨b, 2, none⟩)), Asr.eq (.string uri), Asr.eq (.pointer (some ⟨b, 3, none⟩)), Asr.eq (.float .f64 dur), Asr.eq (.pointer (some ⟨b, 4, none⟩)), Asr.eq (.int .i64 lim), Asr.eq (.pointer (some ⟨b, 5, none⟩)), Asr.eq (.int .i64 off), Asr.eq (.pointer (some ⟨b, 6, none⟩)), Asr.eq (.slice none 0 0), Asr.eq (.pointer none), Asr.eq (.pointer (some ⟨b, 7, none⟩)), Asr.eq (.slice none 0 0), Asr.eq (.pointer none), Asr.eq (.pointer (some ⟨b, 8, none⟩)), Asr.eq (.slice (some ⟨q, 0, none⟩) 1 1), Asr.blk (fun g => .pointer (some ⟨g, 0, none⟩)) 120 cu.scte, Asr.eq (.pointer (some ⟨b, 9, none⟩)), Asr.eq (.bool false), Asr.eq (.pointer (some ⟨b, 10, none⟩)), Asr.eq (.string ⟨#[]⟩), Asr.any (SegWith w.heap.size dur uri lim off cu)] (by kernel_rfl) (by kernel_rfl) (by kernel_rfl) (by simp) (by kernel_rfl) hsz ⟨fun i _ _ v w w2 _ ho ⟨g, hg, hv, hh⟩ => ⟨g, hg, hv, (ho.block g (Array.getElem?_eq_some_iff.1 hh).1 (fun h => h)).trans hh⟩, trivial⟩ ?_ ?_
  · simp only [List.take_succ_cons, List.take_zero]
    refine ⟨?_, ?_, ?_, ?_, ?_, ?_, ?_, ?_, ?_, ?_, ?_, ?_, ?_, ?_, ?_, ?_, ?_, ?_, ?_, ?_, ?_, ?_, ?_, ?_, trivial⟩
    · intro a wx c
      have e1 : a.eval (.tmp 1) = .pointer (some ⟨b, 0, none⟩) := c.outE (by decide +kernel) h1
      clear c
      show Oper.wp _ _ _ _ _ _
      unfold Oper.wp
      simp only [execOp, resolve, e1]
      go_simp; try go_bits
      exact ⟨_, rfl, Only.refl _ _, rfl⟩
    · intro a wx c
      have e3 : a.eval (.tmp 3) = .pointer (some ⟨b, 1, none⟩) := c.slot 0 _ (by decide +kernel) rfl
      have hc := c.cell (p := ⟨b, 1, none⟩) (v := .string ⟨#[]⟩) (cell_of_heap hb rfl) (fun _ h => h.elim)
      clear c
      show Oper.wp _ _ _ _ _ _
      unfold Oper.wp
      simp only [execOp, resolve, e3]
      go_simp; try go_bits
      exact ⟨_, rfl, Only.refl _ _, rfl⟩
    · intro a wx c
      have e1 : a.eval (.tmp 1) = .pointer (some ⟨b, 0, none⟩) := c.outE (by decide +kernel) h1
      clear c
      show Oper.wp _ _ _ _ _ _
      unfold Oper.wp
      simp only [execOp, resolve, e1]
      go_simp; try go_bits
      exact ⟨_, rfl, Only.refl _ _, rfl⟩
    · intro a wx c
      have e5 : a.eval (.tmp 5) = .pointer (some ⟨b, 2, none⟩) := c.slot 2 _ (by decide +kernel) rfl
      have hc := c.cell (p := ⟨b, 2, none⟩) (v := .string uri) (cell_of_heap hb rfl) (fun _ h => h.elim)
      clear c
      show Oper.wp _ _ _ _ _ _
      unfold Oper.wp
      simp only [execOp, resolve, e5]
      go_simp; try go_bits
      exact ⟨_, rfl, Only.refl _ _, rfl⟩
    · intro a wx c
      have e1 : a.eval (.tmp 1) = .pointer (some ⟨b, 0, none⟩) := c.outE (by decide +kernel) h1
      clear c
      show Oper.wp _ _ _ _ _ _
      unfold Oper.wp
      simp only [execOp, resolve, e1]
      go_simp; try go_bits
      exact ⟨_, rfl, Only.refl _ _, rfl⟩
    · intro a wx c
      have e7 : a.eval (.tmp 7) = .pointer (some ⟨b, 3, none⟩) := c.slot 4 _ (by decide +kernel) rfl
      have hc := c.cell (p := ⟨b, 3, none⟩) (v := .float .f64 dur) (cell_of_heap hb rfl) (fun _ h => h.elim)
      clear c
      show Oper.wp _ _ _ _ _ _
      unfold Oper.wp
      simp only [execOp, resolve, e7]
      go_simp; try go_bits
      exact ⟨_, rfl, Only.refl _ _, rfl⟩
    · intro a wx c
      have e1 : a.eval (.tmp 1) = .pointer (some ⟨b, 0, none⟩) := c.outE (by decide +kernel) h1
      clear c
      show Oper.wp _ _ _ _ _ _
      unfold Oper.wp
      simp only [execOp, resolve, e1]
      go_simp; try go_bits
      exact ⟨_, rfl, Only.refl _ _, rfl⟩
    · intro a wx c
      have e9 : a.eval (.tmp 9) = .pointer (some ⟨b, 4, none⟩) := c.slot 6 _ (by decide +kernel) rfl
      have hc := c.cell (p := ⟨b, 4, none⟩) (v := .int .i64 lim) (cell_of_heap hb rfl) (fun _ h => h.elim)
      clear c
      show Oper.wp _ _ _ _ _ _
      unfold Oper.wp
      simp only [execOp, resolve, e9]
      go_simp; try go_bits
      exact ⟨_, rfl, Only.refl _ _, rfl⟩
    · intro a wx c
      have e1 : a.eval (.tmp 1) = .pointer (some ⟨b, 0, none⟩) := c.outE (by decide +kernel) h1
      clear c
      show Oper.wp _ _ _ _ _ _
      unfold Oper.wp
      simp only [execOp, resolve, e1]
      go_simp; try go_bits
      exact ⟨_, rfl, Only.refl _ _, rfl⟩
    · intro a wx c
      have e11 : a.eval (.tmp 11) = .pointer (some ⟨b, 5, none⟩) := c.slot 8 _ (by decide +kernel) rfl
      have hc := c.cell (p := ⟨b, 5, none⟩) (v := .int .i64 off) (cell_of_heap hb rfl) (fun _ h => h.elim)
      clear c
      show Oper.wp _ _ _ _ _ _
      unfold Oper.wp
      simp only [execOp, resolve, e11]
      go_simp; try go_bits
      exact ⟨_, rfl, Only.refl _ _, rfl⟩
    · intro a wx c
      have e1 : a.eval (.tmp 1) = .pointer (some ⟨b, 0, none⟩) := c.outE (by decide +kernel) h1
      clear c
      show Oper.wp _ _ _ _ _ _
      unfold Oper.wp
      simp only [execOp, resolve, e1]
      go_simp; try go_bits
      exact ⟨_, rfl, Only.refl _ _, rfl⟩
    · intro a wx c
      have e13 : a.eval (.tmp 13) = .pointer (some ⟨b, 6, none⟩) := c.slot 10 _ (by decide +kernel) rfl
      have hc := c.cell (p := ⟨b, 6, none⟩) (v := .slice none 0 0) (cell_of_heap hb rfl) (fun _ h => h.elim)
      clear c
      show Oper.wp _ _ _ _ _ _
      unfold Oper.wp
      simp only [execOp, resolve, e13]
      go_simp; try go_bits
      exact ⟨_, rfl, Only.refl _ _, rfl⟩
    · intro a wx c
      have e14 : a.eval (.tmp 14) = .slice none 0 0 := c.slot 11 _ (by decide +kernel) rfl
      clear c
      show Oper.wp _ _ _ _ _ _
      unfold Oper.wp
      simp only [execOp, resolve, List.map_toArray, List.map_cons, List.map_nil, e14]
      go_simp
      refine (keyTo_nil _).mono ?_
      rintro e w' ⟨rfl, rfl⟩
      exact ⟨_, rfl, Only.refl _ _, rfl⟩
    · intro a wx c
      have e1 : a.eval (.tmp 1) = .pointer (some ⟨b, 0, none⟩) := c.outE (by decide +kernel) h1
      clear c
      show Oper.wp _ _ _ _ _ _
      unfold Oper.wp
      simp only [execOp, resolve, e1]
      go_simp; try go_bits
      exact ⟨_, rfl, Only.refl _ _, rfl⟩
    · intro a wx c
      have e16 : a.eval (.tmp 16) = .pointer (some ⟨b, 7, none⟩) := c.slot 13 _ (by decide +kernel) rfl
      have hc := c.cell (p := ⟨b, 7, none⟩) (v := .slice none 0 0) (cell_of_heap hb rfl) (fun _ h => h.elim)
      clear c
      show Oper.wp _ _ _ _ _ _
      unfold Oper.wp
      simp only [execOp, resolve, e16]
      go_simp; try go_bits
      exact ⟨_, rfl, Only.refl _ _, rfl⟩
    · intro a wx c
      have e17 : a.eval (.tmp 17) = .slice none 0 0 := c.slot 14 _ (by decide +kernel) rfl
      clear c
      show Oper.wp _ _ _ _ _ _
      unfold Oper.wp
      simp only [execOp, resolve, List.map_toArray, List.map_cons, List.map_nil, e17]
      go_simp
      refine (mapTo_nil _).mono ?_
      rintro e w' ⟨rfl, rfl⟩
      exact ⟨_, rfl, Only.refl _ _, rfl⟩
    · intro a wx c
      have e1 : a.eval (.tmp 1) = .pointer (some ⟨b, 0, none⟩) := c.outE (by decide +kernel) h1
      clear c
      show Oper.wp _ _ _ _ _ _
      unfold Oper.wp
      simp only [execOp, resolve, e1]
      go_simp; try go_bits
      exact ⟨_, rfl, Only.refl _ _, rfl⟩
    · intro a wx c
      have e19 : a.eval (.tmp 19) = .pointer (some ⟨b, 8, none⟩) := c.slot 16 _ (by decide +kernel) rfl
      have hc := c.cell (p := ⟨b, 8, none⟩) (v := .slice (some ⟨q, 0, none⟩) 1 1) (cell_of_heap hb rfl) (fun _ h => h.elim)
      clear c
      show Oper.wp _ _ _ _ _ _
      unfold Oper.wp
      simp only [execOp, resolve, e19]
      go_simp; try go_bits
      exact ⟨_, rfl, Only.refl _ _, rfl⟩
    · intro a wx c
      have e20 : a.eval (.tmp 20) = .slice (some ⟨q, 0, none⟩) 1 1 := c.slot 17 _ (by decide +kernel) rfl
      show Oper.wp _ _ _ _ _ _
      have hql := (Array.getElem?_eq_some_iff.1 hq).1
      have hqx : wx.heap[q]? = some (.cells cu.list.toArray 46 (0, 0)) := (c.only.block q hql (fun ⟨_, h⟩ => h)).trans hq
      have hsz := c.only.size
      clear c
      unfold Oper.wp
      simp only [execOp, resolve, List.map_toArray, List.map_cons, List.map_nil, e20]
      go_simp
      refine (cueTo_any (some cu) _ wx ⟨q, rfl, hqx⟩ hs).mono ?_
      rintro e w' ⟨p, rfl, ⟨g, hg, rfl, hg2⟩, hbl⟩
      exact ⟨_, rfl, Only.of_below hbl, g, Nat.le_trans hsz hg, rfl, hg2⟩
    · intro a wx c
      have e1 : a.eval (.tmp 1) = .pointer (some ⟨b, 0, none⟩) := c.outE (by decide +kernel) h1
      clear c
      show Oper.wp _ _ _ _ _ _
      unfold Oper.wp
      simp only [execOp, resolve, e1]
      go_simp; try go_bits
      exact ⟨_, rfl, Only.refl _ _, rfl⟩
    · intro a wx c
      have e22 : a.eval (.tmp 22) = .pointer (some ⟨b, 9, none⟩) := c.slot 19 _ (by decide +kernel) rfl
      have hc := c.cell (p := ⟨b, 9, none⟩) (v := .bool false) (cell_of_heap hb rfl) (fun _ h => h.elim)
      clear c
      show Oper.wp _ _ _ _ _ _
      unfold Oper.wp
      simp only [execOp, resolve, e22]
      go_simp; try go_bits
      exact ⟨_, rfl, Only.refl _ _, rfl⟩
    · intro a wx c
      have e1 : a.eval (.tmp 1) = .pointer (some ⟨b, 0, none⟩) := c.outE (by decide +kernel) h1
      clear c
      show Oper.wp _ _ _ _ _ _
      unfold Oper.wp
      simp only [execOp, resolve, e1]
      go_simp; try go_bits
      exact ⟨_, rfl, Only.refl _ _, rfl⟩
    · intro a wx c
      have e24 : a.eval (.tmp 24) = .pointer (some ⟨b, 10, none⟩) := c.slot 21 _ (by decide +kernel) rfl
      have hc := c.cell (p := ⟨b, 10, none⟩) (v := .string ⟨#[]⟩) (cell_of_heap hb rfl) (fun _ h => h.elim)
      clear c
      show Oper.wp _ _ _ _ _ _
      unfold Oper.wp
      simp only [execOp, resolve, e24]
      go_simp; try go_bits
      exact ⟨_, rfl, Only.refl _ _, rfl⟩
    · intro a wx c
      have e4 : a.eval (.tmp 4) = .string ⟨#[]⟩ := c.slot 1 _ (by decide +kernel) rfl
      have e6 : a.eval (.tmp 6) = .string uri := c.slot 3 _ (by decide +kernel) rfl
      have e8 : a.eval (.tmp 8) = .float .f64 dur := c.slot 5 _ (by decide +kernel) rfl
      have e10 : a.eval (.tmp 10) = .int .i64 lim := c.slot 7 _ (by decide +kernel) rfl
      have e12 : a.eval (.tmp 12) = .int .i64 off := c.slot 9 _ (by decide +kernel) rfl
      have e15 : a.eval (.tmp 15) = .pointer none := c.slot 12 _ (by decide +kernel) rfl
      have e18 : a.eval (.tmp 18) = .pointer none := c.slot 15 _ (by decide +kernel) rfl
      obtain ⟨g21, k21, e21, h21⟩ : Asr.holds _ (Asr.blk (fun g => .pointer (some ⟨g, 0, none⟩)) 120 cu.scte) (a.eval (.tmp 21)) wx := c.slot 18 _ (by decide +kernel) rfl
      have e23 : a.eval (.tmp 23) = .bool false := c.slot 20 _ (by decide +kernel) rfl
      have e25 : a.eval (.tmp 25) = .string ⟨#[]⟩ := c.slot 22 _ (by decide +kernel) rfl
      clear c
      show Oper.wp _ _ _ _ _ _
      unfold Oper.wp
      simp only [execOp, List.map_toArray, List.map_cons, List.map_nil, e4, e6, e8, e10, e12, e15, e18, e21, e23, e25]
      go_simp
      exact ⟨_, rfl, Only.refl _ _, g21, k21, rfl, h21⟩
  · intro a1 w1 c hbl
    obtain ⟨p, hp, r23⟩ : ∃ p, ScteAt (some cu) w.heap.size p w1 ∧ a1.tmps.getD 26 undef = .agg (segc dur uri lim off p) := by
      obtain ⟨g, hg, e, hg2⟩ : SegWith w.heap.size dur uri lim off cu (a1.tmps.getD 26 undef) w1 := c.slot 23 _ (by decide) rfl
      exact ⟨_, ⟨g, hg, rfl, hg2⟩, e⟩
    have ha := frame_head c [3, 4, 5, 6, 7, 8, 9, 10, 11, 12, 13, 14, 15, 16, 17, 18, 19, 20, 21, 22, 23, 24, 25, 26] (by kernel_rfl)
    clear c
    simp only [List.drop_succ_cons, List.drop_zero]
    refine arm_run rfl (v := .pointer (some ⟨w1.heap.size, 0, none⟩)) (w' := w1.alloc (.cells (segc dur uri lim off p) 65 (0, 0))) ?_ ?_
    · have r : a1.eval (.tmp 26) = .agg (segc dur uri lim off p) := r23
      simp only [execOp, r]
      unfold segc
      go_simp
    refine arm_run rfl (v := .pointer (some ⟨w1.heap.size, 0, none⟩)) (w' := w1.alloc (.cells (segc dur uri lim off p) 65 (0, 0))) ?_ ?_
    · simp only [execOp]
      rw [ev_eq (by rw [ha]; simp only [List.foldl_cons, List.foldl_nil, size_put, hsz]; decide)]
      go_simp
    refine wpList_nil ?_
    rw [ha]
    have hal : Below w1.heap.size w1 (w1.alloc (.cells (segc dur uri lim off p) 65 (0, 0))) := (Below.refl _ _).alloc (Nat.le_refl _) _
    exact hK _ _ _ _ _ _ _ _ _ _ _ _ _ _ _ _ _ _ _ _ _ _ _ _ p w1.heap.size _ hbl.size (heap_alloc_new _ _) (hp.keep fun g hg => hal.block g hg) (hbl.trans (hal.mono hbl.size))
end Go.Proofs.YtbehijhpichniaaDoor
