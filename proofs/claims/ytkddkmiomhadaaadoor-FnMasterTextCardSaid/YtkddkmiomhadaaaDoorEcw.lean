/- The walk of MasterPlaylist.Encode: what it writes into its buffer. Conditions: the variants' texts are short, their rates at most 125; Go's tables read as their texts have them. -/
import Derived.Test.YtkddkmiomhadaaaDoorEnc
import Derived.Test.YtkddkmiomhadaaaDoorEvr
import Derived.Maps.Views
import Derived.Maps.Own
namespace Go.Proofs.YtkddkmiomhadaaaDoor
open Go.RowKit
def altKey (y : At) : ByteArray := y.typ ++ ⟨#[45]⟩ ++ y.grp ++ ⟨#[45]⟩ ++ y.name ++ ⟨#[45]⟩ ++ y.lang
set_option maxRecDepth 100000 in
set_option maxHeartbeats 4000000 in
theorem key_rgn {y : At} {id ga : Nat} {a0 : Act} {w : World} {Q : Exit → Act → World → Prop} (hy : y.Ok) (hsz : a0.tmps.size = 815) (h7 : a0.eval (.tmp 7) = pt ga 0) (hc : w.heap[ga]? = some (.cells y.mcells 65 (0, 0)))
    (hK : ∀ a' w', a'.tmps.size = 815 → a'.defers = a0.defers → (∀ t, t < 66 → t ≠ 8 → a'.eval (.tmp t) = a0.eval (.tmp t)) → a'.eval (.tmp 8) = .string (altKey y) → Below w.heap.size w w' → Q .normal a' w') :
    (Code.region id #[{ dst := some 66, op := Op.move (Operand.tmp 7), type := 63, pos := "writer.go:89", after := #[], guard := none },
      { dst := some 67, op := Op.nilCheck (Operand.tmp 66), type := 0, pos := "writer.go:89", after := #[{ on := 0, ground := Ground.data }], guard := none },
      { dst := some 68, op := Op.fieldAddr 65 (Operand.tmp 67) 2, type := 0, pos := "writer.go:89", after := #[{ on := 1, ground := Ground.data }], guard := none },
      { dst := some 69, op := Op.load 9 (Operand.tmp 68), type := 9, pos := "writer.go:89", after := #[{ on := 2, ground := Ground.data }], guard := none },
      { dst := some 70, op := Op.binOp BinOp.add 9 (Operand.tmp 69) (Operand.const (Value.string { data := #[45] })) 9, type := 9, pos := "writer.go:89", after := #[{ on := 3, ground := Ground.data }], guard := none },
      { dst := some 71, op := Op.move (Operand.tmp 7), type := 63, pos := "writer.go:89", after := #[], guard := none },
      { dst := some 72, op := Op.nilCheck (Operand.tmp 71), type := 0, pos := "writer.go:89", after := #[{ on := 5, ground := Ground.data }], guard := none },
      { dst := some 73, op := Op.fieldAddr 65 (Operand.tmp 72) 0, type := 0, pos := "writer.go:89", after := #[{ on := 6, ground := Ground.data }], guard := none },
      { dst := some 74, op := Op.load 9 (Operand.tmp 73), type := 9, pos := "writer.go:89", after := #[{ on := 7, ground := Ground.data }], guard := none },
      { dst := some 75, op := Op.binOp BinOp.add 9 (Operand.tmp 70) (Operand.tmp 74) 9, type := 9, pos := "writer.go:89", after := #[{ on := 4, ground := Ground.data }, { on := 8, ground := Ground.data }], guard := none },
      { dst := some 76, op := Op.binOp BinOp.add 9 (Operand.tmp 75) (Operand.const (Value.string { data := #[45] })) 9, type := 9, pos := "writer.go:89", after := #[{ on := 9, ground := Ground.data }], guard := none },
      { dst := some 77, op := Op.move (Operand.tmp 7), type := 63, pos := "writer.go:89", after := #[], guard := none },
      { dst := some 78, op := Op.nilCheck (Operand.tmp 77), type := 0, pos := "writer.go:89", after := #[{ on := 11, ground := Ground.data }], guard := none },
      { dst := some 79, op := Op.fieldAddr 65 (Operand.tmp 78) 4, type := 0, pos := "writer.go:89", after := #[{ on := 12, ground := Ground.data }], guard := none },
      { dst := some 80, op := Op.load 9 (Operand.tmp 79), type := 9, pos := "writer.go:89", after := #[{ on := 13, ground := Ground.data }], guard := none },
      { dst := some 81, op := Op.binOp BinOp.add 9 (Operand.tmp 76) (Operand.tmp 80) 9, type := 9, pos := "writer.go:89", after := #[{ on := 10, ground := Ground.data }, { on := 14, ground := Ground.data }], guard := none },
      { dst := some 82, op := Op.binOp BinOp.add 9 (Operand.tmp 81) (Operand.const (Value.string { data := #[45] })) 9, type := 9, pos := "writer.go:89", after := #[{ on := 15, ground := Ground.data }], guard := none },
      { dst := some 83, op := Op.move (Operand.tmp 7), type := 63, pos := "writer.go:89", after := #[], guard := none },
      { dst := some 84, op := Op.nilCheck (Operand.tmp 83), type := 0, pos := "writer.go:89", after := #[{ on := 17, ground := Ground.data }], guard := none },
      { dst := some 85, op := Op.fieldAddr 65 (Operand.tmp 84) 3, type := 0, pos := "writer.go:89", after := #[{ on := 18, ground := Ground.data }], guard := none },
      { dst := some 86, op := Op.load 9 (Operand.tmp 85), type := 9, pos := "writer.go:89", after := #[{ on := 19, ground := Ground.data }], guard := none },
      { dst := some 87, op := Op.binOp BinOp.add 9 (Operand.tmp 82) (Operand.tmp 86) 9, type := 9, pos := "writer.go:89", after := #[{ on := 16, ground := Ground.data }, { on := 20, ground := Ground.data }], guard := none },
      { dst := some 8, op := Op.assign (Operand.tmp 87), type := 9, pos := "writer.go:89", after := #[{ on := 21, ground := Ground.data }, { on := 0, ground := Ground.phase }, { on := 1, ground := Ground.phase }, { on := 2, ground := Ground.phase }, { on := 3, ground := Ground.phase }, { on := 4, ground := Ground.phase }, { on := 5, ground := Ground.phase }, { on := 6, ground := Ground.phase }, { on := 7, ground := Ground.phase }, { on := 8, ground := Ground.phase }, { on := 9, ground := Ground.phase }, { on := 10, ground := Ground.phase }, { on := 11, ground := Ground.phase }, { on := 12, ground := Ground.phase }, { on := 13, ground := Ground.phase }, { on := 14, ground := Ground.phase }, { on := 15, ground := Ground.phase }, { on := 16, ground := Ground.phase }, { on := 17, ground := Ground.phase }, { on := 18, ground := Ground.phase }, { on := 19, ground := Ground.phase }, { on := 20, ground := Ground.phase }, { on := 21, ground := Ground.phase }], guard := none }] true).wp Tryd.prog Q a0 w := by
  obtain ⟨q1, q2, q3, q4, q5, q6⟩ := hy
  refine wp_region_og0 (n := 815) [Asr.eq (pt ga 0), Asr.eq (pt ga 0), Asr.eq (pt ga 2), Asr.eq (.string (y.typ)), Asr.eq (.string (y.typ ++ ⟨#[45]⟩)), Asr.eq (pt ga 0), Asr.eq (pt ga 0), Asr.eq (pt ga 0), Asr.eq (.string (y.grp)), Asr.eq (.string (y.typ ++ ⟨#[45]⟩ ++ y.grp)), Asr.eq (.string (y.typ ++ ⟨#[45]⟩ ++ y.grp ++ ⟨#[45]⟩)), Asr.eq (pt ga 0), Asr.eq (pt ga 0), Asr.eq (pt ga 4), Asr.eq (.string (y.name)), Asr.eq (.string (y.typ ++ ⟨#[45]⟩ ++ y.grp ++ ⟨#[45]⟩ ++ y.name)), Asr.eq (.string (y.typ ++ ⟨#[45]⟩ ++ y.grp ++ ⟨#[45]⟩ ++ y.name ++ ⟨#[45]⟩)), Asr.eq (pt ga 0), Asr.eq (pt ga 0), Asr.eq (pt ga 3), Asr.eq (.string (y.lang)), Asr.eq (.string (y.typ ++ ⟨#[45]⟩ ++ y.grp ++ ⟨#[45]⟩ ++ y.name ++ ⟨#[45]⟩ ++ y.lang)), Asr.eq (.string (y.typ ++ ⟨#[45]⟩ ++ y.grp ++ ⟨#[45]⟩ ++ y.name ++ ⟨#[45]⟩ ++ y.lang))] (by kernel_rfl) (by kernel_rfl) (by kernel_rfl) hsz trivial ⟨?_, ?_, ?_, ?_, ?_, ?_, ?_, ?_, ?_, ?_, ?_, ?_, ?_, ?_, ?_, ?_, ?_, ?_, ?_, ?_, ?_, ?_, ?_, trivial⟩ ?_
  · intro a wx c
    have e7 : a.eval (.tmp 7) = pt ga 0 := c.outE (by decide +kernel) h7
    clear c
    show Oper.wp _ _ _ _ _ _
    unfold Oper.wp
    simp only [execOp, resolve, e7]
    go_simp; try go_bits
    exact ⟨_, rfl, Only.refl _ _, rfl⟩
  · intro a wx c
    have e66 : a.eval (.tmp 66) = pt ga 0 := c.slot 0 _ (by decide +kernel) rfl
    clear c
    show Oper.wp _ _ _ _ _ _
    unfold Oper.wp
    simp only [execOp, resolve, e66]
    go_simp; try go_bits
    exact ⟨_, rfl, Only.refl _ _, rfl⟩
  · intro a wx c
    have e67 : a.eval (.tmp 67) = pt ga 0 := c.slot 1 _ (by decide +kernel) rfl
    clear c
    show Oper.wp _ _ _ _ _ _
    unfold Oper.wp
    simp only [execOp, resolve, e67]
    go_simp; try go_bits
    exact ⟨_, rfl, Only.refl _ _, rfl⟩
  · intro a wx c
    have e68 : a.eval (.tmp 68) = pt ga 2 := c.slot 2 _ (by decide +kernel) rfl
    have hcell := c.cell (p := ⟨ga, 2, none⟩) (v := .string y.typ) (cell_of_heap hc rfl) (fun _ h => h.elim)
    clear c
    show Oper.wp _ _ _ _ _ _
    unfold Oper.wp
    simp only [execOp, resolve, e68]
    go_simp; try go_bits
    exact ⟨_, rfl, Only.refl _ _, rfl⟩
  · intro a wx c
    have e69 : a.eval (.tmp 69) = .string (y.typ) := c.slot 3 _ (by decide +kernel) rfl
    clear c
    show Oper.wp _ _ _ _ _ _
    exact og_add Tryd.underlying9 e69 rfl (by simp only [ByteArray.size_append', ByteArray.size_mk', List.size_toArray, List.length_cons, List.length_nil]; omega) rfl
  · intro a wx c
    have e7 : a.eval (.tmp 7) = pt ga 0 := c.outE (by decide +kernel) h7
    clear c
    show Oper.wp _ _ _ _ _ _
    unfold Oper.wp
    simp only [execOp, resolve, e7]
    go_simp; try go_bits
    exact ⟨_, rfl, Only.refl _ _, rfl⟩
  · intro a wx c
    have e71 : a.eval (.tmp 71) = pt ga 0 := c.slot 5 _ (by decide +kernel) rfl
    clear c
    show Oper.wp _ _ _ _ _ _
    unfold Oper.wp
    simp only [execOp, resolve, e71]
    go_simp; try go_bits
    exact ⟨_, rfl, Only.refl _ _, rfl⟩
  · intro a wx c
    have e72 : a.eval (.tmp 72) = pt ga 0 := c.slot 6 _ (by decide +kernel) rfl
    clear c
    show Oper.wp _ _ _ _ _ _
    unfold Oper.wp
    simp only [execOp, resolve, e72]
    go_simp; try go_bits
    exact ⟨_, rfl, Only.refl _ _, rfl⟩
  · intro a wx c
    have e73 : a.eval (.tmp 73) = pt ga 0 := c.slot 7 _ (by decide +kernel) rfl
    have hcell := c.cell (p := ⟨ga, 0, none⟩) (v := .string y.grp) (cell_of_heap hc rfl) (fun _ h => h.elim)
    clear c
    show Oper.wp _ _ _ _ _ _
    unfold Oper.wp
    simp only [execOp, resolve, e73]
    go_simp; try go_bits
    exact ⟨_, rfl, Only.refl _ _, rfl⟩
  · intro a wx c
    have e70 : a.eval (.tmp 70) = .string (y.typ ++ ⟨#[45]⟩) := c.slot 4 _ (by decide +kernel) rfl
    have e74 : a.eval (.tmp 74) = .string (y.grp) := c.slot 8 _ (by decide +kernel) rfl
    clear c
    show Oper.wp _ _ _ _ _ _
    exact og_add Tryd.underlying9 e70 e74 (by simp only [ByteArray.size_append', ByteArray.size_mk', List.size_toArray, List.length_cons, List.length_nil]; omega) rfl
  · intro a wx c
    have e75 : a.eval (.tmp 75) = .string (y.typ ++ ⟨#[45]⟩ ++ y.grp) := c.slot 9 _ (by decide +kernel) rfl
    clear c
    show Oper.wp _ _ _ _ _ _
    exact og_add Tryd.underlying9 e75 rfl (by simp only [ByteArray.size_append', ByteArray.size_mk', List.size_toArray, List.length_cons, List.length_nil]; omega) rfl
  · intro a wx c
    have e7 : a.eval (.tmp 7) = pt ga 0 := c.outE (by decide +kernel) h7
    clear c
    show Oper.wp _ _ _ _ _ _
    unfold Oper.wp
    simp only [execOp, resolve, e7]
    go_simp; try go_bits
    exact ⟨_, rfl, Only.refl _ _, rfl⟩
  · intro a wx c
    have e77 : a.eval (.tmp 77) = pt ga 0 := c.slot 11 _ (by decide +kernel) rfl
    clear c
    show Oper.wp _ _ _ _ _ _
    unfold Oper.wp
    simp only [execOp, resolve, e77]
    go_simp; try go_bits
    exact ⟨_, rfl, Only.refl _ _, rfl⟩
  · intro a wx c
    have e78 : a.eval (.tmp 78) = pt ga 0 := c.slot 12 _ (by decide +kernel) rfl
    clear c
    show Oper.wp _ _ _ _ _ _
    unfold Oper.wp
    simp only [execOp, resolve, e78]
    go_simp; try go_bits
    exact ⟨_, rfl, Only.refl _ _, rfl⟩
  · intro a wx c
    have e79 : a.eval (.tmp 79) = pt ga 4 := c.slot 13 _ (by decide +kernel) rfl
    have hcell := c.cell (p := ⟨ga, 4, none⟩) (v := .string y.name) (cell_of_heap hc rfl) (fun _ h => h.elim)
    clear c
    show Oper.wp _ _ _ _ _ _
    unfold Oper.wp
    simp only [execOp, resolve, e79]
    go_simp; try go_bits
    exact ⟨_, rfl, Only.refl _ _, rfl⟩
  · intro a wx c
    have e76 : a.eval (.tmp 76) = .string (y.typ ++ ⟨#[45]⟩ ++ y.grp ++ ⟨#[45]⟩) := c.slot 10 _ (by decide +kernel) rfl
    have e80 : a.eval (.tmp 80) = .string (y.name) := c.slot 14 _ (by decide +kernel) rfl
    clear c
    show Oper.wp _ _ _ _ _ _
    exact og_add Tryd.underlying9 e76 e80 (by simp only [ByteArray.size_append', ByteArray.size_mk', List.size_toArray, List.length_cons, List.length_nil]; omega) rfl
  · intro a wx c
    have e81 : a.eval (.tmp 81) = .string (y.typ ++ ⟨#[45]⟩ ++ y.grp ++ ⟨#[45]⟩ ++ y.name) := c.slot 15 _ (by decide +kernel) rfl
    clear c
    show Oper.wp _ _ _ _ _ _
    exact og_add Tryd.underlying9 e81 rfl (by simp only [ByteArray.size_append', ByteArray.size_mk', List.size_toArray, List.length_cons, List.length_nil]; omega) rfl
  · intro a wx c
    have e7 : a.eval (.tmp 7) = pt ga 0 := c.outE (by decide +kernel) h7
    clear c
    show Oper.wp _ _ _ _ _ _
    unfold Oper.wp
    simp only [execOp, resolve, e7]
    go_simp; try go_bits
    exact ⟨_, rfl, Only.refl _ _, rfl⟩
  · intro a wx c
    have e83 : a.eval (.tmp 83) = pt ga 0 := c.slot 17 _ (by decide +kernel) rfl
    clear c
    show Oper.wp _ _ _ _ _ _
    unfold Oper.wp
    simp only [execOp, resolve, e83]
    go_simp; try go_bits
    exact ⟨_, rfl, Only.refl _ _, rfl⟩
  · intro a wx c
    have e84 : a.eval (.tmp 84) = pt ga 0 := c.slot 18 _ (by decide +kernel) rfl
    clear c
    show Oper.wp _ _ _ _ _ _
    unfold Oper.wp
    simp only [execOp, resolve, e84]
    go_simp; try go_bits
    exact ⟨_, rfl, Only.refl _ _, rfl⟩
  · intro a wx c
    have e85 : a.eval (.tmp 85) = pt ga 3 := c.slot 19 _ (by decide +kernel) rfl
    have hcell := c.cell (p := ⟨ga, 3, none⟩) (v := .string y.lang) (cell_of_heap hc rfl) (fun _ h => h.elim)
    clear c
    show Oper.wp _ _ _ _ _ _
    unfold Oper.wp
    simp only [execOp, resolve, e85]
    go_simp; try go_bits
    exact ⟨_, rfl, Only.refl _ _, rfl⟩
  · intro a wx c
    have e82 : a.eval (.tmp 82) = .string (y.typ ++ ⟨#[45]⟩ ++ y.grp ++ ⟨#[45]⟩ ++ y.name ++ ⟨#[45]⟩) := c.slot 16 _ (by decide +kernel) rfl
    have e86 : a.eval (.tmp 86) = .string (y.lang) := c.slot 20 _ (by decide +kernel) rfl
    clear c
    show Oper.wp _ _ _ _ _ _
    exact og_add Tryd.underlying9 e82 e86 (by simp only [ByteArray.size_append', ByteArray.size_mk', List.size_toArray, List.length_cons, List.length_nil]; omega) rfl
  · intro a wx c
    have e87 : a.eval (.tmp 87) = .string (y.typ ++ ⟨#[45]⟩ ++ y.grp ++ ⟨#[45]⟩ ++ y.name ++ ⟨#[45]⟩ ++ y.lang) := c.slot 21 _ (by decide +kernel) rfl
    clear c
    show Oper.wp _ _ _ _ _ _
    unfold Oper.wp
    simp only [execOp, resolve, e87]
    go_simp; try go_bits
    exact ⟨_, rfl, Only.refl _ _, rfl⟩
  · intro a1 w1 c hb
    have r : a1.tmps.getD 8 undef = .string (y.typ ++ ⟨#[45]⟩ ++ y.grp ++ ⟨#[45]⟩ ++ y.name ++ ⟨#[45]⟩ ++ y.lang) := c.slot 22 _ rfl
    refine hK a1 w1 (c.size.trans hsz) c.defers (fun t ht h8 => ?_) r hb
    have := c.out t (by
      intro j o hj hd
      have hj23 : j < 23 := (Array.getElem?_eq_some_iff.1 hj).1
      have key : (ogDsts #[{ dst := some 66, op := Op.move (Operand.tmp 7), type := 63, pos := "writer.go:89", after := #[], guard := none },
      { dst := some 67, op := Op.nilCheck (Operand.tmp 66), type := 0, pos := "writer.go:89", after := #[{ on := 0, ground := Ground.data }], guard := none },
      { dst := some 68, op := Op.fieldAddr 65 (Operand.tmp 67) 2, type := 0, pos := "writer.go:89", after := #[{ on := 1, ground := Ground.data }], guard := none },
      { dst := some 69, op := Op.load 9 (Operand.tmp 68), type := 9, pos := "writer.go:89", after := #[{ on := 2, ground := Ground.data }], guard := none },
      { dst := some 70, op := Op.binOp BinOp.add 9 (Operand.tmp 69) (Operand.const (Value.string { data := #[45] })) 9, type := 9, pos := "writer.go:89", after := #[{ on := 3, ground := Ground.data }], guard := none },
      { dst := some 71, op := Op.move (Operand.tmp 7), type := 63, pos := "writer.go:89", after := #[], guard := none },
      { dst := some 72, op := Op.nilCheck (Operand.tmp 71), type := 0, pos := "writer.go:89", after := #[{ on := 5, ground := Ground.data }], guard := none },
      { dst := some 73, op := Op.fieldAddr 65 (Operand.tmp 72) 0, type := 0, pos := "writer.go:89", after := #[{ on := 6, ground := Ground.data }], guard := none },
      { dst := some 74, op := Op.load 9 (Operand.tmp 73), type := 9, pos := "writer.go:89", after := #[{ on := 7, ground := Ground.data }], guard := none },
      { dst := some 75, op := Op.binOp BinOp.add 9 (Operand.tmp 70) (Operand.tmp 74) 9, type := 9, pos := "writer.go:89", after := #[{ on := 4, ground := Ground.data }, { on := 8, ground := Ground.data }], guard := none },
      { dst := some 76, op := Op.binOp BinOp.add 9 (Operand.tmp 75) (Operand.const (Value.string { data := #[45] })) 9, type := 9, pos := "writer.go:89", after := #[{ on := 9, ground := Ground.data }], guard := none },
      { dst := some 77, op := Op.move (Operand.tmp 7), type := 63, pos := "writer.go:89", after := #[], guard := none },
      { dst := some 78, op := Op.nilCheck (Operand.tmp 77), type := 0, pos := "writer.go:89", after := #[{ on := 11, ground := Ground.data }], guard := none },
      { dst := some 79, op := Op.fieldAddr 65 (Operand.tmp 78) 4, type := 0, pos := "writer.go:89", after := #[{ on := 12, ground := Ground.data }], guard := none },
      { dst := some 80, op := Op.load 9 (Operand.tmp 79), type := 9, pos := "writer.go:89", after := #[{ on := 13, ground := Ground.data }], guard := none },
      { dst := some 81, op := Op.binOp BinOp.add 9 (Operand.tmp 76) (Operand.tmp 80) 9, type := 9, pos := "writer.go:89", after := #[{ on := 10, ground := Ground.data }, { on := 14, ground := Ground.data }], guard := none },
      { dst := some 82, op := Op.binOp BinOp.add 9 (Operand.tmp 81) (Operand.const (Value.string { data := #[45] })) 9, type := 9, pos := "writer.go:89", after := #[{ on := 15, ground := Ground.data }], guard := none },
      { dst := some 83, op := Op.move (Operand.tmp 7), type := 63, pos := "writer.go:89", after := #[], guard := none },
      { dst := some 84, op := Op.nilCheck (Operand.tmp 83), type := 0, pos := "writer.go:89", after := #[{ on := 17, ground := Ground.data }], guard := none },
      { dst := some 85, op := Op.fieldAddr 65 (Operand.tmp 84) 3, type := 0, pos := "writer.go:89", after := #[{ on := 18, ground := Ground.data }], guard := none },
      { dst := some 86, op := Op.load 9 (Operand.tmp 85), type := 9, pos := "writer.go:89", after := #[{ on := 19, ground := Ground.data }], guard := none },
      { dst := some 87, op := Op.binOp BinOp.add 9 (Operand.tmp 82) (Operand.tmp 86) 9, type := 9, pos := "writer.go:89", after := #[{ on := 16, ground := Ground.data }, { on := 20, ground := Ground.data }], guard := none },
      { dst := some 8, op := Op.assign (Operand.tmp 87), type := 9, pos := "writer.go:89", after := #[{ on := 21, ground := Ground.data }, { on := 0, ground := Ground.phase }, { on := 1, ground := Ground.phase }, { on := 2, ground := Ground.phase }, { on := 3, ground := Ground.phase }, { on := 4, ground := Ground.phase }, { on := 5, ground := Ground.phase }, { on := 6, ground := Ground.phase }, { on := 7, ground := Ground.phase }, { on := 8, ground := Ground.phase }, { on := 9, ground := Ground.phase }, { on := 10, ground := Ground.phase }, { on := 11, ground := Ground.phase }, { on := 12, ground := Ground.phase }, { on := 13, ground := Ground.phase }, { on := 14, ground := Ground.phase }, { on := 15, ground := Ground.phase }, { on := 16, ground := Ground.phase }, { on := 17, ground := Ground.phase }, { on := 18, ground := Ground.phase }, { on := 19, ground := Ground.phase }, { on := 20, ground := Ground.phase }, { on := 21, ground := Ground.phase }], guard := none }] [8, 66, 67, 68, 69, 70, 71, 72, 73, 74, 75, 76, 77, 78, 79, 80, 81, 82, 83, 84, 85, 86, 87]) = true := by kernel_rfl
      unfold ogDsts at key
      rw [List.all_eq_true] at key
      have := key o (by have := Array.mem_of_getElem? hj; simpa using this)
      rw [hd] at this
      have h9 : (t ∈ [8, 66, 67, 68, 69, 70, 71, 72, 73, 74, 75, 76, 77, 78, 79, 80, 81, 82, 83, 84, 85, 86, 87]) := by simpa using this
      rcases (by decide : ∀ x ∈ [8, 66, 67, 68, 69, 70, 71, 72, 73, 74, 75, 76, 77, 78, 79, 80, 81, 82, 83, 84, 85, 86, 87], x = 8 ∨ 66 ≤ x) t h9 with e | e
      · exact h8 e
      · exact absurd ht (Nat.not_lt.2 e))
    simp only [Act.eval, Array.getD_eq_getD_getElem?, this]
/-- What a variant's renditions write, and the keys seen behind them. -/
def altLoop : List (List UInt8) → List At → List UInt8 × List (List UInt8)
  | K, [] => ([], K)
  | K, y :: r => if (altKey y).data.toList ∈ K then altLoop K r else (y.media ++ (altLoop ((altKey y).data.toList :: K) r).1, (altLoop ((altKey y).data.toList :: K) r).2)
theorem altLoop_app (ys : List At) : ∀ (K : List (List UInt8)) (zs : List At), altLoop K (ys ++ zs) = ((altLoop K ys).1 ++ (altLoop (altLoop K ys).2 zs).1, (altLoop (altLoop K ys).2 zs).2) := by
  induction ys with
  | nil => intro K zs; simp [altLoop]
  | cons y r ih =>
    intro K zs
    rw [List.cons_append, altLoop, altLoop]
    split
    · rw [ih]
    · rw [ih]; simp
structure Vd where
  v : Vt
  fr : Bool
  ys : List At
def varLoop (args : ByteArray) : List (List UInt8) → List Vd → List UInt8 × List (List UInt8)
  | K, [] => ([], K)
  | K, d :: r => ((altLoop K d.ys).1 ++ (d.v.lines d.fr args ++ (varLoop args (altLoop K d.ys).2 r).1), (varLoop args (altLoop K d.ys).2 r).2)
theorem varLoop_app (args : ByteArray) (ys : List Vd) : ∀ (K : List (List UInt8)) (zs : List Vd), varLoop args K (ys ++ zs) = ((varLoop args K ys).1 ++ (varLoop args (varLoop args K ys).2 zs).1, (varLoop args (varLoop args K ys).2 zs).2) := by
  induction ys with
  | nil => intro K zs; simp [varLoop]
  | cons y r ih =>
    intro K zs
    rw [List.cons_append, varLoop, varLoop, ih]
    simp
theorem take_app {α : Type} {l : List α} {k : Nat} {x : α} (h : l[k]? = some x) : l.take (k + 1) = l.take k ++ [x] := by
  rw [List.take_add_one, h]; rfl
theorem altLoop_step {K : List (List UInt8)} {ys : List At} {k : Nat} {y : At} (h : ys[k]? = some y) :
    altLoop K (ys.take (k + 1)) = if (altKey y).data.toList ∈ (altLoop K (ys.take k)).2 then altLoop K (ys.take k) else ((altLoop K (ys.take k)).1 ++ y.media, (altKey y).data.toList :: (altLoop K (ys.take k)).2) := by
  rw [take_app h, altLoop_app]
  rw [altLoop]
  split
  · simp [altLoop]
  · simp [altLoop]
theorem altLoop_le {K : List (List UInt8)} {ys : List At} (k : Nat) : (altLoop K (ys.take k)).1.length ≤ (altLoop K ys).1.length := by
  have h := altLoop_app (ys.take k) K (ys.drop k)
  rw [List.take_append_drop] at h
  rw [h]
  simp
theorem varLoop_le {args : ByteArray} {K : List (List UInt8)} {ys : List Vd} (k : Nat) : (varLoop args K (ys.take k)).1.length ≤ (varLoop args K ys).1.length := by
  have h := varLoop_app args (ys.take k) K (ys.drop k)
  rw [List.take_append_drop] at h
  rw [h]
  simp
theorem varLoop_step {args : ByteArray} {K : List (List UInt8)} {ys : List Vd} {k : Nat} {d : Vd} (h : ys[k]? = some d) :
    varLoop args K (ys.take (k + 1)) = ((varLoop args K (ys.take k)).1 ++ ((altLoop (varLoop args K (ys.take k)).2 d.ys).1 ++ d.v.lines d.fr args), (altLoop (varLoop args K (ys.take k)).2 d.ys).2) := by
  rw [take_app h, varLoop_app]
  simp [varLoop]
/-- A slice of pointers to these blocks. -/
def PtrsAt (w : World) (sl : Value) (T : TypeId) (gs : List Nat) : Prop := ∃ (g cap : Nat) (cs : Array Value), sl = .slice (some ⟨g, 0, none⟩) gs.length cap ∧ w.heap[g]? = some (.cells cs T (0, 0)) ∧ ∀ (i x : Nat), gs[i]? = some x → cs[i]? = some (pt x 0)
def AltsAt (w : World) (sl : Value) (ys : List At) : Prop := (ys = [] ∧ sl = .slice none 0 0) ∨ ∃ gs : List Nat, gs.length = ys.length ∧ PtrsAt w sl 63 gs ∧
  ∀ (i ga : Nat) (y : At), gs[i]? = some ga → ys[i]? = some y → w.heap[ga]? = some (.cells y.mcells 65 (0, 0))
def VarsAt (w : World) (sl : Value) (ds : List Vd) : Prop := (ds = [] ∧ sl = .slice none 0 0) ∨ ∃ gs : List Nat, gs.length = ds.length ∧ PtrsAt w sl 82 gs ∧
  ∀ (i gv : Nat) (d : Vd), gs[i]? = some gv → ds[i]? = some d → ∃ sa, w.heap[gv]? = some (.cells (d.v.mcells d.fr sa) 84 (0, 0)) ∧ AltsAt w sa d.ys
abbrev MP : TypeId := 74
abbrev U8 : TypeId := 5
/-- Blocks of other types stand. -/
def Kp (w w' : World) : Prop := ∀ (g : Nat) (cs : Array Value) (t : TypeId) (fr : Nat × Nat), w.heap[g]? = some (.cells cs t fr) → t ≠ U8 → t ≠ MP → w'.heap[g]? = some (.cells cs t fr)
theorem Kp.ptrs {w w' : World} (h : Kp w w') {sl : Value} {T : TypeId} {gs : List Nat} (h1 : T ≠ U8) (h2 : T ≠ MP) (hp : PtrsAt w sl T gs) : PtrsAt w' sl T gs := by
  obtain ⟨g, cap, cs, rfl, hg, hx⟩ := hp
  exact ⟨g, cap, cs, rfl, h g cs T _ hg h1 h2, hx⟩
theorem Kp.alts {w w' : World} (h : Kp w w') {sl : Value} {ys : List At} (ha : AltsAt w sl ys) : AltsAt w' sl ys := by
  rcases ha with ha | ⟨gs, hl, hp, hb⟩
  · exact .inl ha
  · exact .inr ⟨gs, hl, h.ptrs (by decide) (by decide) hp, fun i ga y h1 h2 => h ga _ _ _ (hb i ga y h1 h2) (by decide) (by decide)⟩
theorem EW.kp {R : Nat → Option Value} {B pb : Nat} {w0 w : World} {s0 s : List UInt8} (h0 : LibA.IsBuffer MP R U8 B pb 3 (Lib.byteCells s0) w0) (h : EW MP R B pb 3 w0 s w) : Kp w0 w := by
  intro g cs t fr hg h1 h2
  refine h.cells hg h1 ?_
  rintro rfl
  obtain ⟨_, v, lr, ⟨cs', hb, _⟩, _⟩ := h0
  rw [hg] at hb
  injection hb with hb
  injection hb with _ hb _
  exact h2 hb
/-- The map's keys. -/
def Seen (D : DataW Unit) (K : List (List UInt8)) : Prop := Maps.IsMap D ∧ ∀ s : ByteArray, D.atKey (.string s.data.toList) (.lit (.bool false)) = .lit (.bool (decide (s.data.toList ∈ K)))
theorem Seen.nil : Seen (.map []) [] := ⟨⟨_, rfl⟩, fun s => by rw [Go.WideAt.atKey_none _ (by simp)]; simp⟩
theorem Seen.put {D : DataW Unit} {K : List (List UInt8)} (h : Seen D K) (k : ByteArray) : Seen (D.put (.string k.data.toList) (.lit (.bool true))) (k.data.toList :: K) := by
  refine ⟨h.1.put _ _, fun s => ?_⟩
  by_cases e : s.data.toList = k.data.toList
  · rw [e]
    rw [Maps.atKey_put_same h.1 (k := .string k.data.toList) trivial]
    simp
  · rw [Maps.atKey_put_other (fun h => e (by injection h))]
    rw [h.2 s]
    simp [e]
abbrev Owns (w : World) (bm n : Nat) (D : DataW Unit) : Prop := w.ownsMap Tryd.prog 9 (plainElem Tryd.prog 4) bm n D
theorem owns_below {w w' : World} {bm n : Nat} {D : DataW Unit} (h : Owns w bm n D) (hb : Below w.heap.size w w') : Owns w' bm n D :=
  h.kept (row := none) ⟨hb.os, hb.tape, hb.output, hb.size, fun i hi _ => hb.block i hi⟩ (by simp)
theorem EW.owns {T : TypeId} {R : Nat → Option Value} {B pb o : Nat} {w0 w : World} {s : List UInt8} {bm n : Nat} {D : DataW Unit} (h : EW T R B pb o w0 s w) (hm : Owns w0 bm n D) (hne : bm ≠ pb) : Owns w bm n D := by
  obtain ⟨es, clock, hb, r⟩ := hm
  exact ⟨es, clock, h.2.2 bm _ hb (fun e => hne (Option.some.inj e)) (fun c fz e => by cases e), r⟩
/-- The map is written. -/
theorem EW.map {T : TypeId} {R : Nat → Option Value} {B pb o : Nat} {w0 w w' : World} {s : List UInt8} {bm n : Nat} {D : DataW Unit} (h : EW T R B pb o w0 s w) (hm : Owns w bm n D) (hg : w.grownBy w' (some bm)) (hbm : w0.heap.size ≤ bm) (hB : B ≤ w0.heap.size) : EW T R B pb o w0 s w' := by
  obtain ⟨es, clock, hb, _⟩ := hm
  have hne : bm ≠ pb := by
    rintro rfl
    obtain ⟨_, v, lr, ⟨cs, h1, _⟩, _⟩ := h.1
    rw [h1] at hb; cases hb
  obtain ⟨⟨hBp, v, lr, h3, hown, hvn⟩, hbel, hkep⟩ := h
  refine ⟨⟨hBp, v, lr, h3.of_heap (hg.block pb h3.lt (fun e => hne (Option.some.inj e).symm)), hown.kept hg ?_, hvn⟩, hbel.trans (⟨hg.os, hg.tape, hg.output, hg.size, fun k hk => hg.block k ?_ ?_⟩ : Below B w w'), fun k ob hk hkp hty => ?_⟩
  · rcases hown.2 with ⟨rfl, _⟩ | ⟨g, cap, cur, rfl, _, hh, _⟩
    · exact .inl rfl
    · refine .inr fun e => ?_
      have : g = bm := by simpa [Value.ownBlock] using e
      subst this
      rw [hh] at hb; cases hb
  · have := hbel.size; omega
  · intro e; have := Option.some.inj e; omega
  · have h1 := hkep k ob hk hkp hty
    have hlt := (Array.getElem?_eq_some_iff.1 hk).1
    rw [hg.block k (Array.getElem?_eq_some_iff.1 h1).1 (fun e => by have := Option.some.inj e; omega)]
    exact h1
set_option maxRecDepth 100000 in
theorem plainElem_bool_inv {v : Value} {b : Bool} {ps : List MemPlace} (h : plainElem (H := Unit) Tryd.prog 4 v = some (.lit (.bool b), ps)) : v = .bool b := by
  unfold plainElem at h
  rw [Tryd.underlying4] at h
  cases v <;> simp at h
  rw [h.1]
theorem ev_low {N m0 : Nat} {l : List (Nat × Value)} {a : Act} (h : Ev N l a) (f : Nat → Value) (hf : f = fun t => a.eval (.tmp t)) : Fr N m0 f a := ⟨h.size, h.defers, fun _ _ => by rw [hf]⟩
theorem tab_at {Tb : World → Prop} {B : Nat} {w0 : World} (h : ∀ w', Below B w0 w' → Tb w') {T : TypeId} {R : Nat → Option Value} {pb o : Nat} {w1 : World} {s0 : List UInt8} (h1 : EW T R B pb o w0 s0 w1) : ∀ s w, EW T R B pb o w1 s w → Tb w :=
  fun s w h2 => h w (h1.2.1.trans h2.2.1)
theorem run_andValue' {sm : Sem Value} {w w' : World} {v : Value} (h : sm.run Tryd.prog w = .ok v w') : (do pure (Next.value (← sm)) : Sem Next).run Tryd.prog w = .ok (.value v) w' := by
  simp [h, Result.andThen]
theorem run_andSkip {sm : Sem Unit} {w w' : World} (h : sm.run Tryd.prog w = .ok () w') : (do sm; pure Next.skip : Sem Next).run Tryd.prog w = .ok .skip w' := by
  simp [h, Result.andThen]
set_option maxRecDepth 100000 in
theorem run_zeroBool (w : World) : (zeroValue 4).run Tryd.prog w = .ok (.bool false) w := by go_simp
set_option maxRecDepth 100000 in
set_option maxHeartbeats 4000000 in
/-- The renditions of a variant. -/
theorem alts_wp {Q : Exit → Act → World → Prop} {a : Act} {w0 w : World} {R : Nat → Option Value} {B pb bm c gv : Nat} {slv sa vn vi : Value} {s s0 : List UInt8} {K : List (List UInt8)} {D : DataW Unit} (ys : List At) (hok : ∀ y ∈ ys, y.Ok) (hys : ys.length ≤ 1000)
    (h0 : LibA.IsBuffer MP R U8 B pb 3 (Lib.byteCells s0) w0) (hB : B ≤ w0.heap.size) (hbm : w0.heap.size ≤ bm) (hc : c ≤ 1000000)
    (hE : Ev 815 ((62, .int .i64 (0 : Nat)) :: (61, .int .i64 ys.length) :: (60, sa) :: (0, pt pb 0) :: (3, .map (some bm)) :: (5, pt gv 0) :: (44, slv) :: (45, vn) :: (46, vi) :: []) a)
    (hA : AltsAt w0 sa ys) (hne : sa ≠ .slice none 0 0) (hW : EW MP R B pb 3 w0 s w) (hm : Owns w bm c D) (hS : Seen D K) (hlim : s.length + (altLoop K ys).1.length ≤ 140737488355328)
    (hQ : ∀ a' w' c' D', Ev 815 ((0, pt pb 0) :: (3, .map (some bm)) :: (5, pt gv 0) :: (44, slv) :: (45, vn) :: (46, vi) :: []) a' → EW MP R B pb 3 w0 (s ++ (altLoop K ys).1) w' → Owns w' bm c' D' → c' ≤ c + ys.length → Seen D' (altLoop K ys).2 → Q .normal a' w') :
    Code.wp Tryd.prog (cB (cA (cB (cA (cB (cA (cA (cB (cB (cA (cA (cB (cA (cB (cB (cB (cB (cB (cB (cB encBody)))))))))))))))))))) Q a w := by
  obtain ⟨gs, hgl, ⟨g, cap, cs, hsl, hg, hgx⟩, hyb⟩ := hA.resolve_left (fun h => hne h.2)
  refine range_wp (N := 815) (n := ys.length) (l := (60, sa) :: (0, pt pb 0) :: (3, .map (some bm)) :: (5, pt gv 0) :: (44, slv) :: (45, vn) :: (46, vi) :: []) (fun k w => ∃ c' D', c' ≤ c + k ∧ EW MP R B pb 3 w0 (s ++ (altLoop K (ys.take k)).1) w ∧ Owns w bm c' D' ∧ Seen D' (altLoop K (ys.take k)).2) (by omega) hE ?_ rfl (by decide) (by decide) ?_ ?_
  · exact ⟨c, D, Nat.le_refl _, by simpa [altLoop] using hW, hm, by simpa [altLoop] using hS⟩
  · rintro k a w hk hE ⟨c', D', hc', hW, hm, hS⟩ Q' hQ'
    obtain ⟨y, hy⟩ : ∃ y, ys[k]? = some y := ⟨_, List.getElem?_eq_getElem hk⟩
    obtain ⟨ga, hga⟩ : ∃ ga, gs[k]? = some ga := ⟨_, List.getElem?_eq_getElem (by omega)⟩
    have hKp := hW.kp h0
    have hcy := hKp ga _ _ _ (hyb k ga y hga hy) (by decide) (by decide)
    have hcg := hKp g _ _ _ hg (by decide) (by decide)
    have hcx : w.cell? ⟨g, k, none⟩ = some (pt ga 0) := cell_of_heap hcg (hgx k ga hga)
    have hyok := hok y (List.mem_of_getElem? hy)
    refine wp_block ?_
    refine wp_seq ?_
    refine wp_region_lit ?_
    have e60 : a.eval (.tmp 60) = .slice (some ⟨g, 0, none⟩) gs.length cap := by rw [← hsl]; exact hE.get 60 rfl
    have e62 : a.eval (.tmp 62) = .int .i64 k := hE.get 62 rfl
    have hkl : (k : Int) < gs.length := by omega
    refine ev_run (v := pt g k) (w' := w) hE rfl rfl (by decide) ?_ ?_
    · simp only [execOp, e60, e62]
      go_simp
    intro a hE
    refine ev_run (v := pt ga 0) (w' := w) hE rfl rfl (by decide) ?_ ?_
    · simp only [execOp, hE.get 64 rfl]
      go_simp
    intro a hE
    refine ev_run (v := pt ga 0) (w' := w) hE rfl rfl (by decide) (by simp only [execOp, hE.get 65 rfl]; rfl) ?_
    intro a hE
    refine wpList_nil ?_
    have hE : Ev 815 ((7, pt ga 0) :: (62, .int .i64 k) :: (61, .int .i64 ys.length) :: (60, sa) :: (0, pt pb 0) :: (3, .map (some bm)) :: (5, pt gv 0) :: (44, slv) :: (45, vn) :: (46, vi) :: []) a := hE.pick rfl
    show Code.wp _ _ _ _ _
    refine wp_seq ?_
    refine key_rgn hyok hE.size (hE.get 7 rfl) hcy ?_
    intro a1 w1 hs1 hd1 hlow h8 hb1
    have hE := hE.from hs1 hd1 hlow h8 rfl
    have hW := hW.below hb1
    have hm := owns_below hm hb1
    have hcy : w1.heap[ga]? = some (.cells y.mcells 65 (0, 0)) := by rw [hb1.block ga (Array.getElem?_eq_some_iff.1 hcy).1]; exact hcy
    clear hcx hcg hKp hs1 hd1 hlow h8 e60 e62
    have hks : (altKey y).size ≤ 1000 := by
      obtain ⟨q1, q2, q3, q4, q5, q6⟩ := hyok
      simp only [altKey, ByteArray.size_append', ByteArray.size_mk', List.size_toArray, List.length_cons, List.length_nil]
      omega
    have hkey := Go.WideMaps.keyOf_string_mk (P := Tryd.prog) Tryd.underlying9 (s := altKey y) (by unfold maxLen; omega)
    obtain ⟨v, ps, hrun, hv⟩ := hm.lookup (Maps.string_keyed Tryd.underlying9) Tryd.underlying99 (run_zeroBool w1) (plainElem_bool Tryd.underlying4 false) hkey
    rw [hS.2] at hv
    obtain rfl := plainElem_bool_inv hv
    show Code.wp _ _ _ _ _
    refine wp_seq ?_
    refine wp_seq ?_
    refine wp_region_lit ?_
    refine ev_run (v := .map (some bm)) (w' := w1) hE rfl rfl (by decide) (by simp only [execOp, hE.get 3 rfl]; rfl) ?_
    intro a hE
    refine ev_run (v := .string (altKey y)) (w' := w1) hE rfl rfl (by decide) (by simp only [execOp, hE.get 8 rfl]; rfl) ?_
    intro a hE
    refine ev_run (v := .bool (decide ((altKey y).data.toList ∈ (altLoop K (ys.take k)).2))) (w' := w1) hE rfl rfl (by decide) ?_ ?_
    · simp only [execOp, hE.get 88 rfl, hE.get 89 rfl]
      exact run_andValue hrun
    intro a hE
    refine wpList_nil ?_
    have e90 := hE.get 90 rfl
    have hE : Ev 815 ((8, .string (altKey y)) :: (7, pt ga 0) :: (62, .int .i64 k) :: (61, .int .i64 ys.length) :: (60, sa) :: (0, pt pb 0) :: (3, .map (some bm)) :: (5, pt gv 0) :: (44, slv) :: (45, vn) :: (46, vi) :: []) a := hE.pick rfl
    show Code.wp _ _ _ _ _
    refine wp_cond_split e90 (fun hin => ?_) (fun hin => ?_)
    · have hin := of_decide_eq_true hin
      refine wp_exit ?_
      show Q' .normal a w1
      refine hQ' a w1 (hE.pick rfl) ⟨c', D', by omega, ?_, hm, ?_⟩
      · rw [altLoop_step hy, if_pos hin]; exact hW
      · rw [altLoop_step hy, if_pos hin]; exact hS
    · have hin := of_decide_eq_false hin
      refine wp_skip ?_
      show Code.wp _ _ _ _ _
      refine wp_seq ?_
      refine wp_region_lit ?_
      refine ev_run (v := .map (some bm)) (w' := w1) hE rfl rfl (by decide) (by simp only [execOp, hE.get 3 rfl]; rfl) ?_
      intro a hE
      refine ev_run (v := .string (altKey y)) (w' := w1) hE rfl rfl (by decide) (by simp only [execOp, hE.get 8 rfl]; rfl) ?_
      intro a hE
      obtain ⟨w2, hrun2, hm2, hg2⟩ := hm.update (Maps.string_keyed Tryd.underlying9) Tryd.underlying99 (by unfold maxLen; omega) hkey (plainElem_bool Tryd.underlying4 true)
      refine arm_skip (w' := w2) rfl rfl ?_ (wpList_nil ?_)
      · have e91 := hE.get 91 rfl
        have e92 := hE.get 92 rfl
        simp only [execOp, e91, e92]
        exact run_andSkip hrun2
      have hE : Ev 815 ((7, pt ga 0) :: (62, .int .i64 k) :: (61, .int .i64 ys.length) :: (60, sa) :: (0, pt pb 0) :: (3, .map (some bm)) :: (5, pt gv 0) :: (44, slv) :: (45, vn) :: (46, vi) :: []) a := hE.pick rfl
      have hW2 := hW.map hm hg2 hbm hB
      have hcy2 : w2.heap[ga]? = some (.cells y.mcells 65 (0, 0)) := by
        rw [hg2.block ga (Array.getElem?_eq_some_iff.1 hcy).1 ?_]
        · exact hcy
        · intro e
          have e := Option.some.inj e
          subst e
          obtain ⟨es, clock, hb, _⟩ := hm
          rw [hcy] at hb
          cases hb
      have hpb : bm ≠ pb := by
        rintro rfl
        obtain ⟨es, clock, hb, _⟩ := hm
        obtain ⟨_, v, lr, ⟨cs, h1, _⟩, _⟩ := hW.1
        rw [h1] at hb; cases hb
      have hstep := altLoop_step (K := K) hy
      rw [if_neg hin] at hstep
      show Code.wp _ _ _ _ _
      have htr := media_tr y (f := fun t => a.eval (.tmp t)) (W := EW MP R B pb 3 w2) (lim := 140737488355328) (pb := pb) (ga := ga) EW.wr (hE.get 0 rfl) (hE.get 7 rfl) (fun s w h => h.cells hcy2 (by decide) (by
        rintro rfl
        obtain ⟨_, v, lr, ⟨cs, h1, _⟩, _⟩ := hW2.1
        rw [h1] at hcy2
        injection hcy2 with e
        injection e with _ e _
        exact absurd e (by decide)))
      refine htr (s ++ (altLoop K (ys.take k)).1) a w2 hE.fr (EW.refl hW2.1) ?_ _ ?_
      · have h1 := altLoop_le (K := K) (ys := ys) (k + 1)
        rw [hstep] at h1
        simp only [List.length_append] at h1 ⊢
        omega
      · intro a' w' hf' hw'
        show Q' .normal a' w'
        refine hQ' a' w' ((hE.behind hf' rfl).pick rfl) ⟨c' + 1, _, by omega, ?_, hw'.owns hm2 hpb, ?_⟩
        · rw [hstep]
          rw [← List.append_assoc]
          exact hW2.rebase hw'
        · rw [hstep]
          exact hS.put (altKey y)
  · rintro a w hE ⟨c', D', hc', hW, hm, hS⟩
    rw [List.take_length] at hW hS
    exact hQ a w c' D' (hE.pick rfl) hW hm hc' hS
set_option maxRecDepth 100000 in
theorem ld_alts : Ld 60 := by intro w p v h; go_simp
set_option maxRecDepth 100000 in
theorem run_neq_slice (p : Addr) (n c : Nat) (w : World) : (binOp .neq 60 (.slice (some p) n c) (.slice none 0 0)).run Tryd.prog w = .ok (.bool true) w := by go_simp
set_option maxRecDepth 100000 in
theorem run_neq_slice0 (w : World) : (binOp .neq 60 (.slice none 0 0) (.slice none 0 0)).run Tryd.prog w = .ok (.bool false) w := by go_simp
theorem run_guard_slice (b : BinOp) (T : Nat) (x y : Operand) (p q : Option Addr) (n c m d : Nat) (w : World) : (eqGuard b T x y (.slice p n c) (.slice q m d)).run Tryd.prog w = .ok () w := by
  cases b <;> simp [eqGuard]
/-- What the walk takes of the library: the rates' texts, the sign's place, a rate held against nothing. -/
structure Lb (Tb : World → Prop) : Prop where
  pow : ∀ w, Tb w → PowTab w
  rate : ∀ r w, r ≠ 0 → r ≤ 1000 → Tb w → Calls Tryd.prog 38 #[.float .f64 (e8 r), .int .u8 102, .int .i64 3, .int .i64 64] w fun e w' => e = .returned (.string (secs r)) ∧ Below w.heap.size w w'
  neq : ∀ r, r ≤ 1000 → ∀ w, (binOp .neq 50 (.float .f64 (e8 r)) (.float .f64 0)).run Tryd.prog w = .ok (.bool (decide (r ≠ 0))) w
  index : ∀ (u : ByteArray) w, u.size ≤ 1000 → Calls Tryd.prog 39 #[.string u, .string ⟨#[63]⟩] w fun e w' => e = .returned (.int .i64 (zzi u.data.toList 0)) ∧ Below w.heap.size w w'
set_option maxRecDepth 100000 in
set_option maxHeartbeats 4000000 in
/-- The variants. -/
theorem vars_wp {Tb : World → Prop} (L : Lb Tb) {Q : Exit → Act → World → Prop} {a : Act} {w0 w : World} {R : Nat → Option Value} {B pb bm : Nat} {slv : Value} {s s0 : List UInt8} {K : List (List UInt8)} {D : DataW Unit} {args : ByteArray} (ds : List Vd) (hds : ds.length ≤ 1000)
    (hok : ∀ d ∈ ds, d.v.Ok ∧ d.v.rate ≤ 1000 ∧ d.ys.length ≤ 1000 ∧ ∀ y ∈ d.ys, y.Ok)
    (h0 : LibA.IsBuffer MP R U8 B pb 3 (Lib.byteCells s0) w0) (hB : B ≤ w0.heap.size) (hbm : w0.heap.size ≤ bm) (hTB : ∀ w', Below B w0 w' → Tb w') (hR : R 1 = some (.string args))
    (hE : Ev 815 ((46, .int .i64 (0 : Nat)) :: (45, .int .i64 ds.length) :: (44, slv) :: (0, pt pb 0) :: (3, .map (some bm)) :: []) a)
    (hV : VarsAt w0 slv ds) (hW : EW MP R B pb 3 w0 s w) (hm : Owns w bm 0 D) (hS : Seen D K) (hlim : s.length + (varLoop args K ds).1.length ≤ 140737488355328)
    (hQ : ∀ a' w', Ev 815 ((0, pt pb 0) :: []) a' → EW MP R B pb 3 w0 (s ++ (varLoop args K ds).1) w' → Q .normal a' w') :
    Code.wp Tryd.prog (cB (cA (cB (cB (cB (cB (cB (cB (cB encBody))))))))) Q a w := by
  refine range_wp (N := 815) (n := ds.length) (l := (44, slv) :: (0, pt pb 0) :: (3, .map (some bm)) :: []) (fun k w => ∃ c' D', c' ≤ 1000 * k ∧ EW MP R B pb 3 w0 (s ++ (varLoop args K (ds.take k)).1) w ∧ Owns w bm c' D' ∧ Seen D' (varLoop args K (ds.take k)).2) (by omega) hE ?_ rfl (by decide) (by decide) ?_ ?_
  · exact ⟨0, D, Nat.zero_le _, by simpa [varLoop] using hW, hm, by simpa [varLoop] using hS⟩
  · rintro k a w hk hE ⟨c', D', hc', hW, hm, hS⟩ Q' hQ'
    obtain ⟨d, hd⟩ : ∃ d, ds[k]? = some d := ⟨_, List.getElem?_eq_getElem hk⟩
    obtain ⟨gs, hgl, ⟨g, cap, cs, hsl, hg, hgx⟩, hyb⟩ := hV.resolve_left (fun h => by rw [h.1] at hk; exact absurd hk (Nat.not_lt_zero _))
    obtain ⟨gv, hgv⟩ : ∃ gv, gs[k]? = some gv := ⟨_, List.getElem?_eq_getElem (by omega)⟩
    obtain ⟨sa, hcv, hsa⟩ := hyb k gv d hgv hd
    obtain ⟨hvok, hvr, hyl, hyok⟩ := hok d (List.mem_of_getElem? hd)
    have hcw := fun {s : List UInt8} {w : World} (h : EW MP R B pb 3 w0 s w) => h.kp h0 gv _ _ _ hcv (by decide) (by decide)
    have hcx : w.cell? ⟨g, k, none⟩ = some (pt gv 0) := cell_of_heap (hW.kp h0 g _ _ _ hg (by decide) (by decide)) (hgx k gv hgv)
    have hstep := varLoop_step (args := args) (K := K) hd
    have hle := varLoop_le (args := args) (K := K) (ys := ds) (k + 1)
    rw [hstep] at hle
    simp only [List.length_append] at hle
    refine wp_block ?_
    refine wp_seq ?_
    refine wp_region_lit ?_
    have e44 : a.eval (.tmp 44) = .slice (some ⟨g, 0, none⟩) gs.length cap := by rw [← hsl]; exact hE.get 44 rfl
    have e46 : a.eval (.tmp 46) = .int .i64 k := hE.get 46 rfl
    have hkl : (k : Int) < gs.length := by omega
    refine ev_run (v := pt g k) (w' := w) hE rfl rfl (by decide) ?_ ?_
    · simp only [execOp, e44, e46]
      go_simp
    intro a hE
    refine ev_run (v := pt gv 0) (w' := w) hE rfl rfl (by decide) ?_ ?_
    · simp only [execOp, hE.get 48 rfl]
      go_simp
    intro a hE
    refine ev_run (v := pt gv 0) (w' := w) hE rfl rfl (by decide) (by simp only [execOp, hE.get 49 rfl]; rfl) ?_
    intro a hE
    refine wpList_nil ?_
    have hE : Ev 815 ((0, pt pb 0) :: (3, .map (some bm)) :: (5, pt gv 0) :: (44, slv) :: (45, .int .i64 ds.length) :: (46, .int .i64 k) :: []) a := hE.pick rfl
    clear hcx e44 e46
    -- the variant's own lines
    have cont : ∀ a w c D', c ≤ 1000 * k + d.ys.length → Ev 815 ((0, pt pb 0) :: (3, .map (some bm)) :: (5, pt gv 0) :: (44, slv) :: (45, .int .i64 ds.length) :: (46, .int .i64 k) :: []) a → EW MP R B pb 3 w0 (s ++ (varLoop args K (ds.take k)).1 ++ (altLoop (varLoop args K (ds.take k)).2 d.ys).1) w → Owns w bm c D' → Seen D' (altLoop (varLoop args K (ds.take k)).2 d.ys).2 →
        Code.wp Tryd.prog (cB (cB (cA (cA (cB (cB (cA (cA (cB (cA (cB (cB (cB (cB (cB (cB (cB encBody))))))))))))))))) (Exit.inBlock 1 Q') a w := by
      intro a w c D' hc hE hW hm hS
      have hpb : bm ≠ pb := by
        rintro rfl
        obtain ⟨es, clock, hb, _⟩ := hm
        obtain ⟨_, v, lr, ⟨cs, h1, _⟩, _⟩ := hW.1
        rw [h1] at hb; cases hb
      have hcvw := hcw hW
      have htb : ∀ s' w', EW MP R B pb 3 w s' w' → Tb w' := fun s' w' h' => hTB w' (hW.2.1.trans h'.2.1)
      have htr := lines_tr d.v hvok d.fr args sa (f := fun t => a.eval (.tmp t)) (W := EW MP R B pb 3 w) (lim := 140737488355328) (pb := pb) (gv := gv) EW.wr (hE.get 0 rfl) (hE.get 5 rfl) (fun s' w' h' => h'.cells hcvw (by decide) (by
        rintro rfl
        obtain ⟨_, v, lr, ⟨cs, h1, _⟩, _⟩ := hW.1
        rw [h1] at hcvw
        injection hcvw with e
        injection e with _ e _
        exact absurd e (by decide))) (fun s' w' h' => (h'.1.rest 1 (Or.inl (by decide))).trans hR) (fun s' w' h' => L.pow w' (htb s' w' h')) (fun hr s' w' h' => L.rate d.v.rate w' hr hvr (htb s' w' h')) (L.neq d.v.rate hvr) (fun s' w' h' => L.index d.v.uri w' (by have := hvok.uri; omega))
      refine htr _ a w hE.fr (EW.refl hW.1) ?_ _ ?_
      · simp only [List.length_append]
        omega
      · intro a' w' hf' hw'
        show Q' .normal a' w'
        refine hQ' a' w' ((hE.behind hf' rfl).pick rfl) ⟨c, D', by omega, ?_, hw'.owns hm hpb, ?_⟩
        · rw [hstep]
          have := hW.rebase hw'
          simp only [List.append_assoc] at this ⊢
          exact this
        · rw [hstep]
          exact hS
    show Code.wp _ _ _ _ _
    refine wp_seq ?_
    refine wp_seq ?_
    rcases hsa with ⟨hy0, hs0⟩ | hsa'
    · subst hs0
      refine ts_gen2 (N := 815) (m0 := 50) (f := fun t => a.eval (.tmp t)) (W := fun s w => EW MP R B pb 3 w0 s w ∧ Owns w bm c' D') (tx := 5) (gx := gv) (hE.get 5 rfl) (fa_va gv) (fa_vp_14 gv) ld_alts (u := .slice none 0 0) (v := .bool false) (fun s w h => cell_of_heap (hcw h.1) rfl) (sp_bin (y := .slice none 0 0) run_neq_slice0 (run_guard_slice _ _ _ _ _ _ _ _ _ _)) (by decide) (by decide) _ a w hE.fr ⟨hW, hm⟩ _ ?_
      intro a' w' hf' hw' ht
      show Code.wp _ _ _ _ _
      refine wp_cond_false ht (wp_skip ?_)
      show Code.wp _ _ _ _ _
      refine cont a' w' c' D' (by omega) (hE.behind hf' rfl) ?_ hw'.2 ?_
      · rw [hy0]; simpa [altLoop] using hw'.1
      · rw [hy0]; simpa [altLoop] using hS
    · obtain ⟨ys', hyl', ⟨g2, cap2, cs2, hs2, hg2, hgx2⟩, _⟩ := id hsa'
      have hsa0 : AltsAt w0 sa d.ys := .inr hsa'
      subst hs2
      refine ts_gen2 (N := 815) (m0 := 50) (f := fun t => a.eval (.tmp t)) (W := fun s w => EW MP R B pb 3 w0 s w ∧ Owns w bm c' D') (tx := 5) (gx := gv) (hE.get 5 rfl) (fa_va gv) (fa_vp_14 gv) ld_alts (u := .slice (some ⟨g2, 0, none⟩) ys'.length cap2) (v := .bool true) (fun s w h => cell_of_heap (hcw h.1) rfl) (sp_bin (y := .slice none 0 0) (run_neq_slice _ _ _) (run_guard_slice _ _ _ _ _ _ _ _ _ _)) (by decide) (by decide) _ a w hE.fr ⟨hW, hm⟩ _ ?_
      intro a' w' hf' hw' ht
      have hE := hE.behind hf' rfl
      have hcvw := hcw hw'.1
      have hc16 : w'.cell? ⟨gv, 16, none⟩ = some (.slice (some ⟨g2, 0, none⟩) ys'.length cap2) := cell_of_heap hcvw rfl
      show Code.wp _ _ _ _ _
      refine wp_cond_true ht ?_
      refine wp_seq ?_
      refine wp_region_lit ?_
      refine ev_run (v := pt gv 0) (w' := w') hE rfl rfl (by decide) (by simp only [execOp, hE.get 5 rfl]; rfl) ?_
      intro a hE
      refine ev_run (v := pt gv 0) (w' := w') hE rfl rfl (by decide) (by simp only [execOp, hE.get 56 rfl]; rfl) ?_
      intro a hE
      refine ev_run (v := pt gv 2) (w' := w') hE rfl rfl (by decide) (by simp only [execOp, hE.get 57 rfl]; exact run_andValue (fa_va gv w')) ?_
      intro a hE
      refine ev_run (v := pt gv 16) (w' := w') hE rfl rfl (by decide) (by simp only [execOp, hE.get 58 rfl]; exact run_andValue (fa_vp_14 gv w')) ?_
      intro a hE
      refine ev_run (v := .slice (some ⟨g2, 0, none⟩) ys'.length cap2) (w' := w') hE rfl rfl (by decide) (by simp only [execOp, hE.get 59 rfl]; exact run_andValue (ld_alts w' _ _ hc16)) ?_
      intro a hE
      refine ev_run (v := .int .i64 ys'.length) (w' := w') hE rfl rfl (by decide) (by simp only [execOp, resolve, List.map_toArray, List.map_cons, List.map_nil, hE.get 60 rfl]; go_simp) ?_
      intro a hE
      refine ev_run (v := .int .i64 (0 : Nat)) (w' := w') hE rfl rfl (by decide) (by simp only [execOp]; rfl) ?_
      intro a hE
      refine wpList_nil ?_
      show Code.wp _ _ _ _ _
      rw [hyl'] at hE
      have hE := hE.pick (l' := (62, .int .i64 (0 : Nat)) :: (61, .int .i64 d.ys.length) :: (60, .slice (some ⟨g2, 0, none⟩) ys'.length cap2) :: (0, pt pb 0) :: (3, .map (some bm)) :: (5, pt gv 0) :: (44, slv) :: (45, .int .i64 ds.length) :: (46, .int .i64 k) :: []) (by rw [← hyl']; rfl)
      refine alts_wp d.ys hyok hyl h0 hB hbm (by omega) hE hsa0 (by simp) hw'.1 hw'.2 hS ?_ ?_
      · simp only [List.length_append]
        omega
      · intro a2 w2 c2 D2 hE2 hW2 hm2 hc2 hS2
        show Code.wp _ _ _ _ _
        exact cont a2 w2 c2 D2 (by omega) hE2 hW2 hm2 hS2
  · rintro a w hE ⟨c', D', hc', hW, hm, hS⟩
    rw [List.take_length] at hW hS
    exact hQ a w (hE.pick rfl) hW
set_option maxRecDepth 100000 in
theorem ld_vars : Ld 67 := by intro w p v h; go_simp
set_option maxRecDepth 100000 in
theorem independent_any (pb : Nat) (ind : Bool) (w : World) (hc : w.cell? ⟨pb, 7, none⟩ = some (.bool ind)) :
    Calls Tryd.prog 36 #[pt pb 0] w fun e w' => e = .returned (.bool ind) ∧ w' = w := by
  go_enter Tryd.func36, Tryd.ntmps36
  go_wp2
  go_ret
  exact ⟨rfl, rfl⟩
def encHead (ver : Nat) (ind : Bool) : List UInt8 := (⟨#[35, 69, 88, 84, 77, 51, 85, 10, 35, 69, 88, 84, 45, 88, 45, 86, 69, 82, 83, 73, 79, 78, 58]⟩ : ByteArray).data.toList ++ (dec ver).data.toList ++ [UInt8.ofNat 10] ++ (if ind = true then (⟨#[35, 69, 88, 84, 45, 88, 45, 73, 78, 68, 69, 80, 69, 78, 68, 69, 78, 84, 45, 83, 69, 71, 77, 69, 78, 84, 83, 10]⟩ : ByteArray).data.toList else [])
def encText (ver : Nat) (ind : Bool) (args : ByteArray) (ds : List Vd) : List UInt8 := encHead ver ind ++ (varLoop args [] ds).1
theorem Tr.use {N m0 : Nat} {f : Nat → Value} {W : List UInt8 → World → Prop} {lim : Nat} {c : Code} {l : List UInt8} (h : Tr N m0 f W lim c l) {s : List UInt8} {a : Act} {w : World} (hf : Fr N m0 f a) (hw : W s w) (hl : s.length + l.length ≤ lim) {Q : Exit → Act → World → Prop} (hQ : ∀ a' w', Fr N m0 f a' → W (s ++ l) w' → Q .normal a' w') : c.wp Tryd.prog Q a w := h s a w hf hw hl Q hQ
set_option maxRecDepth 100000 in
set_option maxHeartbeats 4000000 in
/-- MasterPlaylist.Encode: what its buffer holds behind it. -/
theorem encode_any {Tb : World → Prop} (L : Lb Tb) (ver : Nat) (hver : ver < 256) (ind : Bool) (args : ByteArray) (ds : List Vd) (hds : ds.length ≤ 1000) (hok : ∀ d ∈ ds, d.v.Ok ∧ d.v.rate ≤ 1000 ∧ d.ys.length ≤ 1000 ∧ ∀ y ∈ d.ys, y.Ok)
    {w : World} {R : Nat → Option Value} {B pb : Nat} {slv : Value} (h0 : LibA.IsBuffer MP R U8 B pb 3 (Lib.byteCells []) w) (hTB : ∀ w', Below B w w' → Tb w') (hR0 : R 0 = some slv) (hR1 : R 1 = some (.string args)) (hR6 : R 6 = some (.int .u8 ver)) (hR7 : R 7 = some (.bool ind))
    (hV : VarsAt w slv ds) (hlim : (encText ver ind args ds).length ≤ 140737488355328) :
    Calls Tryd.prog 28 #[pt pb 0] w fun e w' => e = .returned (pt pb 3) ∧ EW MP R B pb 3 w (encText ver ind args ds) w' := by
  have hBs : B ≤ w.heap.size := Nat.le_of_lt (Nat.lt_of_le_of_lt h0.1 h0.lt)
  unfold encText encHead at hlim
  simp only [List.length_append] at hlim
  refine calls_of_ev Tryd.func28 rfl (show 1 ≤ 815 from by decide) ?_
  intro a hE
  have hE : Ev 815 ((0, pt pb 0) :: []) a := hE
  refine wp_seq ?_
  refine wp_region_lit ?_
  refine ev_run (v := .pointer none) (w' := w) hE rfl rfl (by decide) (by simp only [execOp]; rfl) ?_
  intro a hE
  refine wpList_nil ?_
  have hE : Ev 815 ((0, pt pb 0) :: []) a := hE.pick rfl
  show Code.wp _ _ _ _ _
  refine wp_seq ?_
  refine wp_seq ?_
  -- 'p.buf.Len() > 0'
  refine wp_region_lit ?_
  refine ev_run (v := pt pb 0) (w' := w) hE rfl rfl (by decide) (by simp only [execOp, hE.get 0 rfl]; rfl) ?_
  intro a hE
  refine ev_run (v := pt pb 0) (w' := w) hE rfl rfl (by decide) (by simp only [execOp, hE.get 9 rfl]; rfl) ?_
  intro a hE
  refine ev_run (v := pt pb 3) (w' := w) hE rfl rfl (by decide) (by simp only [execOp, hE.get 10 rfl]; exact run_andValue (fa_buf pb w)) ?_
  intro a hE
  refine ev_sp (v := .int .i64 0) (u := pt pb 3) (W := fun _ w' => EW MP R B pb 3 w [] w') (s := []) hE (sp_call (fn := 32) (args := #[pt pb 3]) ?_ ?_) (hE.get 11 rfl) (EW.refl h0) rfl (by decide) ?_
  · intro a s w _ hx
    simp only [execOp, resolve, List.map_toArray, List.map_cons, List.map_nil, hx]
    go_simp
  · intro s w' hw'
    refine (len_any MP R B pb 3 _ w' hw'.1).mono ?_
    rintro e w2 ⟨rfl, n, rfl⟩
    exact ⟨rfl, hw'.below ⟨rfl, rfl, rfl, Nat.le_refl _, fun _ _ => rfl⟩, ⟨rfl, rfl, rfl, Nat.le_refl _, fun _ _ => rfl⟩⟩
  intro a w1 hE hW _
  have hW : EW MP R B pb 3 w [] w1 := hW
  refine ev_run (v := .bool false) (w' := w1) hE rfl rfl (by decide) (by simp only [execOp, hE.get 12 rfl]; rfl) ?_
  intro a hE
  refine wpList_nil ?_
  have e13 := hE.get 13 rfl
  have hE : Ev 815 ((0, pt pb 0) :: []) a := hE.pick rfl
  show Code.wp _ _ _ _ _
  refine wp_cond_false e13 (wp_skip ?_)
  show Code.wp _ _ _ _ _
  -- the head
  have hT : ∀ s w', EW MP R B pb 3 w s w' → PowTab w' := fun s w' h' => L.pow w' (hTB w' h'.2.1)
  have hp0 := hE.get 0 rfl
  have hf0 : Fr 815 9 (fun t => a.eval (.tmp t)) a := hE.fr
  have hEa := hE
  generalize hfe : (fun t => a.eval (.tmp t)) = f at hf0
  have hp : f 0 = pt pb 0 := by rw [← hfe]; exact hp0
  clear hfe hE hp0
  refine wp_seq ?_
  refine Tr.use (lf_lit (W := EW MP R B pb 3 w) (lim := 140737488355328) EW.wr hp (fa_buf _) (by decide) (by decide)) hf0 hW (by simp only [List.length_nil]; omega) ?_
  intro a w1 hf hW
  show Code.wp _ _ _ _ _
  refine wp_seq ?_
  refine Tr.use (lf_ver (W := EW MP R B pb 3 w) (lim := 140737488355328) (n := ver) EW.wr hp (fa_buf _) hp hver rfl hT (fa_mp_4 _) (fun s w' h' => (h'.1.rest 6 (Or.inr (by decide))).trans hR6) (by decide) (by kernel_rfl) (by kernel_rfl) (by kernel_rfl) (by kernel_rfl)) hf hW (by simp only [List.length_append, List.length_nil]; omega) ?_
  intro a w1 hf hW
  show Code.wp _ _ _ _ _
  refine wp_seq ?_
  refine Tr.use (lf_rune (W := EW MP R B pb 3 w) (lim := 140737488355328) EW.wr hp (fa_buf _) (c := 10) (by decide) (by decide) (by decide)) hf hW (by simp only [List.length_append, List.length_nil]; omega) ?_
  intro a w1 hf hW
  show Code.wp _ _ _ _ _
  refine wp_seq ?_
  refine Tr.use (f := f) (m0 := 9) (N := 815) (W := EW MP R B pb 3 w) (lim := 140737488355328) (l := if ind = true then (⟨#[35, 69, 88, 84, 45, 88, 45, 73, 78, 68, 69, 80, 69, 78, 68, 69, 78, 84, 45, 83, 69, 71, 77, 69, 78, 84, 83, 10]⟩ : ByteArray).data.toList else []) (Tr.opt (b := ind) ?_ fun _ => lf_lit EW.wr hp (fa_buf _) (by decide) (by decide)) hf hW (by simp only [List.length_append, List.length_nil]; omega) ?_
  · intro s a w1 hf hW Q hQ
    refine wp_region_lit ?_
    refine chn_one (W := EW MP R B pb 3 w) (d := 34) (sp_mv hp) (hf.low 0 (by decide)) rfl (by decide) (by decide) hf hW ?_
    intro a w1 hf hW hx
    refine chn_one (W := EW MP R B pb 3 w) (d := 35) (x := .tmp 34) (v := .bool ind) (u := pt pb 0) (sp_call (fn := 36) (args := #[pt pb 0]) ?_ ?_) hx rfl (by decide) (by decide) hf hW ?_
    · intro a s w _ hx
      simp only [execOp, resolve, List.map_toArray, List.map_cons, List.map_nil, hx]
      go_simp
    · intro s w' hw'
      refine (independent_any pb ind w' ((hw'.1.rest 7 (Or.inr (by decide))).trans hR7)).mono ?_
      rintro e w2 ⟨rfl, rfl⟩
      exact ⟨rfl, hw', Below.refl _ _⟩
    intro a w1 hf hW hx
    exact wpList_nil (hQ a w1 hf hW hx)
  intro a w1 hf hW
  have hW : EW MP R B pb 3 w (encHead ver ind) w1 := by simpa [encHead] using hW
  have hE : Ev 815 ((0, pt pb 0) :: []) a := Ev.one hf.size hf.defers ((hf.low 0 (by decide)).trans hp)
  clear hf hf0 hEa hp
  show Code.wp _ _ _ _ _
  refine wp_seq ?_
  -- the map
  refine wp_region_lit ?_
  refine ev_run (v := .map (some w1.heap.size)) (w' := w1.alloc (.map #[] 0)) hE rfl rfl (by decide) (by simp only [execOp]; exact run_andValue' (run_makeMap _ _)) ?_
  intro a hE
  refine ev_run (v := .map (some w1.heap.size)) (w' := w1.alloc (.map #[] 0)) hE rfl rfl (by decide) (by simp only [execOp, hE.get 40 rfl]; rfl) ?_
  intro a hE
  refine wpList_nil ?_
  have hE : Ev 815 ((0, pt pb 0) :: (3, .map (some w1.heap.size)) :: []) a := hE.pick rfl
  have hm : Owns (w1.alloc (.map #[] 0)) w1.heap.size 0 (.map []) := World.ownsMap_made _ _ _ _
  have hbm : w.heap.size ≤ w1.heap.size := hW.2.1.size
  have hW := hW.below ((Below.refl _ _).alloc (Nat.le_refl _) (.map #[] 0))
  generalize w1.alloc (.map #[] 0) = w2 at hW hm ⊢
  generalize w1.heap.size = bm at hE hm hbm ⊢
  have hc0 : w2.cell? ⟨pb, 0, none⟩ = some slv := (hW.1.rest 0 (Or.inl (by decide))).trans hR0
  show Code.wp _ _ _ _ _
  refine wp_seq ?_
  refine wp_seq ?_
  refine wp_region_lit ?_
  refine ev_run (v := pt pb 0) (w' := w2) hE rfl rfl (by decide) (by simp only [execOp, hE.get 0 rfl]; rfl) ?_
  intro a hE
  refine ev_run (v := pt pb 0) (w' := w2) hE rfl rfl (by decide) (by simp only [execOp, hE.get 41 rfl]; rfl) ?_
  intro a hE
  refine ev_run (v := pt pb 0) (w' := w2) hE rfl rfl (by decide) (by simp only [execOp, hE.get 42 rfl]; exact run_andValue (fa_mp_0 pb w2)) ?_
  intro a hE
  refine ev_run (v := slv) (w' := w2) hE rfl rfl (by decide) (by simp only [execOp, hE.get 43 rfl]; exact run_andValue (ld_vars w2 _ _ hc0)) ?_
  intro a hE
  refine ev_run (v := .int .i64 ds.length) (w' := w2) hE rfl rfl (by decide) ?_ ?_
  · have e44 := hE.get 44 rfl
    rcases hV with ⟨hd0, hs0⟩ | ⟨gs, hgl, ⟨g, cap, cs, hs0, _⟩, _⟩
    · rw [hs0] at e44
      subst hd0
      simp only [execOp, resolve, List.map_toArray, List.map_cons, List.map_nil, e44]
      go_simp
    · rw [hs0] at e44
      rw [← hgl]
      simp only [execOp, resolve, List.map_toArray, List.map_cons, List.map_nil, e44]
      go_simp
  intro a hE
  refine ev_run (v := .int .i64 (0 : Nat)) (w' := w2) hE rfl rfl (by decide) (by simp only [execOp]; rfl) ?_
  intro a hE
  refine wpList_nil ?_
  show Code.wp _ _ _ _ _
  refine vars_wp L ds hds hok h0 hBs hbm hTB hR1 (hE.pick rfl) hV hW hm Seen.nil (by unfold encHead; simp only [List.length_append]; omega) ?_
  intro a w3 hE hW
  show Code.wp _ _ _ _ _
  refine wp_seq ?_
  refine wp_region_lit ?_
  refine ev_run (v := pt pb 0) (w' := w3) hE rfl rfl (by decide) (by simp only [execOp, hE.get 0 rfl]; rfl) ?_
  intro a hE
  refine ev_run (v := pt pb 0) (w' := w3) hE rfl rfl (by decide) (by simp only [execOp, hE.get 812 rfl]; rfl) ?_
  intro a hE
  refine ev_run (v := pt pb 3) (w' := w3) hE rfl rfl (by decide) (by simp only [execOp, hE.get 813 rfl]; exact run_andValue (fa_buf pb w3)) ?_
  intro a hE
  refine ev_run (v := pt pb 3) (w' := w3) hE rfl rfl (by decide) (by simp only [execOp, hE.get 814 rfl]; rfl) ?_
  intro a hE
  refine wpList_nil ?_
  show Code.wp _ _ _ _ _
  refine wp_ret ?_
  exact ret_of_ev hE rfl (hE.get 2 rfl) ⟨rfl, hW⟩
end Go.Proofs.YtkddkmiomhadaaaDoor
