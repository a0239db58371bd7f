/- Arms for the walk: a string sum, a rune as text, an index and a part of a string; over any program. Conditions: the sum of the lengths is an int. -/
import Derived.WalkKit
import Derived.WalkSpells
import Derived.WalkLawsBesides
namespace Go.Proofs.YtkddkmiomhadaaaDoor
open Go.RowKit
/-- The text of a rune. -/
@[irreducible] def chr (n : Int) : ByteArray := Utf8.encode n
theorem chr_eq (n : Int) : chr n = Utf8.encode n := by unfold chr; rfl
theorem chr_size (i : Int) : (chr i).size ≤ 4 := by
  rw [chr_eq]
  unfold Utf8.encode
  dsimp only
  repeat' split
  all_goals simp [ByteArray.size]
theorem chr_ascii (c : Nat) (h : c < 128) : chr (c : Int) = ⟨#[UInt8.ofNat c]⟩ := by
  have v : Utf8.valid (c : Int) = true := by simp [Utf8.valid]; omega
  rw [chr_eq]
  apply ByteArray.ext
  simp [Utf8.encode, v, h]
theorem ret_string {a b : ByteArray} (h : a = b) : Ending.returned (.string a) = .returned (.string b) := by rw [h]
theorem ret_int {k : IntKind} {a b : Int} (h : a = b) : Ending.returned (.int k a) = .returned (.int k b) := by rw [h]
theorem ret_bool {a b : Bool} (h : a = b) : Ending.returned (.bool a) = .returned (.bool b) := by rw [h]
section
variable {P : Program} {ops : Array Oper} {rest : List Oper} {dst : Option Tmp} {ty : TypeId} {pos : String} {after : Array Edge} {a : Act} {w : World} {Q : Exit → Act → World → Prop}
theorem arm_add (t : TypeId) (ht : P.underlying t = some .string) {t' : TypeId} {x y : Operand} {s1 s2 : ByteArray} (hx : a.eval x = .string s1) (hy : a.eval y = .string s2)
    (hs : s1.size + s2.size ≤ 9223372036854775807) (hK : wpList P ops Q rest (a.put dst (.string (s1 ++ s2))) w) :
    wpList P ops Q ({ dst := dst, op := Op.binOp .add t x y t', type := ty, pos := pos, after := after, guard := none } :: rest) a w := by
  refine wpList_plain rfl fun K hK' => ?_
  have hr := run_string_add_sum (P := P) w s1 s2 hs
  unfold Oper.wp
  simp [execOp, hx, hy, binOp, hr, eqGuard, Result.andThen]
  exact hK' _ _ hK
theorem arm_chr (t : TypeId) (ht : P.underlying t = some .string) (s : TypeId) (hs : (P.underlying s).isSome = true) {x : Operand} {k : IntKind} {n : Int} (hx : a.eval x = .int k n)
    (hK : wpList P ops Q rest (a.put dst (.string (chr n))) w) :
    wpList P ops Q ({ dst := dst, op := Op.convert s t x, type := ty, pos := pos, after := after, guard := none } :: rest) a w := by
  refine wpList_plain rfl fun K hK' => ?_
  have hr := run_convert_int_string (P := P) w s t k n hs ht
  rw [← chr_eq] at hr
  unfold Oper.wp
  simp [execOp, hx, hr, Result.andThen]
  exact hK' _ _ hK
theorem arm_chr1 (t : TypeId) (ht : P.underlying t = some .string) (s : TypeId) (hs : (P.underlying s).isSome = true) {x : Operand} {k : IntKind} {n : Int} (hx : a.eval x = .int k n) (h0 : 0 ≤ n) (h1 : n < 128)
    (hK : wpList P ops Q rest (a.put dst (.string ⟨#[UInt8.ofNat n.toNat]⟩)) w) :
    wpList P ops Q ({ dst := dst, op := Op.convert s t x, type := ty, pos := pos, after := after, guard := none } :: rest) a w := by
  refine arm_chr t ht s hs hx ?_
  have := chr_ascii n.toNat (by omega)
  rw [show ((n.toNat : Nat) : Int) = n from by omega] at this
  rw [this]
  exact hK
theorem arm_index (t : TypeId) (ht : P.underlying t = some .string) {x i : Operand} {s : ByteArray} {k : IntKind} {n : Int} (hx : a.eval x = .string s) (hi : a.eval i = .int k n) (h0 : 0 ≤ n) (h1 : n < s.size)
    (hK : ∀ b : UInt8, s.data[n.toNat]? = some b → wpList P ops Q rest (a.put dst (.int .u8 (b.toNat : Int))) w) :
    wpList P ops Q ({ dst := dst, op := Op.index t x i, type := ty, pos := pos, after := after, guard := none } :: rest) a w := by
  refine wpList_plain rfl fun K hK' => ?_
  have hlt : n.toNat < s.data.size := by have : s.data.size = s.size := rfl; omega
  have h2 := hK s.data[n.toNat] (Array.getElem?_eq_getElem hlt)
  have h3 : n.toNat < s.size := by omega
  have h4 : 0 ≤ n ∧ n < s.size := ⟨h0, h1⟩
  have hr := run_index_string (P := P) (w := w) t s k n ht
  have h5 : s[n.toNat]? = some s.data[n.toNat] := Array.getElem?_eq_getElem hlt
  rw [dif_pos h4] at hr
  unfold Oper.wp
  simp only [execOp, hx, hi]
  simp only [Sem.run_bind, hr, Result.andThen, Sem.run_pure]
  exact hK' _ _ h2
end
end Go.Proofs.YtkddkmiomhadaaaDoor
