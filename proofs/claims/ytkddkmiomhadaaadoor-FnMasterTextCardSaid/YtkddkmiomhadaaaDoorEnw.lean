/- The world's predicate for code that writes behind a bytes.Buffer in a field: the two writes, laid off the shelf; WriteRune at ASCII. -/
import Derived.Test.YtkddkmiomhadaaaDoorEmt
import Derived.Test.YtkddkmiomhadaaaDoorFu
import Derived.Lib.BufferAt
namespace Go.Proofs.YtkddkmiomhadaaaDoor
open Go.RowKit
theorem writeString_any (T : TypeId) (R : Nat → Option Value) (B b q : Nat) (bs : List Value) (s : ByteArray) (w : World) (h : LibA.IsBuffer T R 5 B b q bs w) (hBw : B ≤ w.heap.size) (h1 : ∀ v ∈ bs, v.oneCell' = true) (hlim : bs.length + s.size ≤ 140737488355328) :
    Calls Tryd.prog 33 #[.pointer (some ⟨b, q, none⟩), .string s] w fun e w' => e = .returned (.tuple #[.int .i64 s.size, .nilIface]) ∧ LibA.IsBuffer T R 5 B b q (bs ++ Lib.byteCells s.data.toList) w' ∧ RowKit.Below B w w' ∧ Lib.OthersKept 5 (some b) w w' :=
  Any.Buffer_WriteString_at Tryd.lays178 T R B b q bs s w h hBw h1 hlim
theorem writeByte_any (T : TypeId) (R : Nat → Option Value) (B b q : Nat) (bs : List Value) (c : Int) (w : World) (h : LibA.IsBuffer T R 5 B b q bs w) (hBw : B ≤ w.heap.size) (h1 : ∀ v ∈ bs, v.oneCell' = true) (hlim : bs.length + 1 ≤ 140737488355328) :
    Calls Tryd.prog 42 #[.pointer (some ⟨b, q, none⟩), .int .u8 c] w fun e w' => e = .returned .nilIface ∧ LibA.IsBuffer T R 5 B b q (bs ++ [.int .u8 c]) w' ∧ RowKit.Below B w w' ∧ Lib.OthersKept 5 (some b) w w' :=
  Any.Buffer_WriteByte_at Tryd.lays179 T R B b q bs c w h hBw h1 hlim
theorem string_any (T : TypeId) (R : Nat → Option Value) (B b q : Nat) (l : List UInt8) (w : World) (h : LibA.IsBuffer T R 5 B b q (Lib.byteCells l) w) :
    Calls Tryd.prog 29 #[.pointer (some ⟨b, q, none⟩)] w fun e w' => e = .returned (.string ⟨l.toArray⟩) ∧ ∃ n, w' = w.drewN n := Any.Buffer_String_at Tryd.lays182 T R B b q l w h
theorem len_any (T : TypeId) (R : Nat → Option Value) (B b q : Nat) (bs : List Value) (w : World) (h : LibA.IsBuffer T R 5 B b q bs w) :
    Calls Tryd.prog 32 #[.pointer (some ⟨b, q, none⟩)] w fun e w' => e = .returned (.int .i64 bs.length) ∧ ∃ n, w' = w.drewN n := Any.Buffer_Len_at Tryd.lays181 T R B b q bs w h
set_option maxRecDepth 100000 in
set_option maxHeartbeats 1000000 in
theorem writeRune_any (T : TypeId) (R : Nat → Option Value) (B b q : Nat) (bs : List Value) (c : Nat) (hc : c < 128) (w : World) (h : LibA.IsBuffer T R 5 B b q bs w) (hBw : B ≤ w.heap.size) (h1 : ∀ v ∈ bs, v.oneCell' = true) (hlim : bs.length + 1 ≤ 140737488355328) :
    Calls Tryd.prog 35 #[.pointer (some ⟨b, q, none⟩), .int .i32 c] w fun e w' => e = .returned (.tuple #[.int .i64 1, .nilIface]) ∧ LibA.IsBuffer T R 5 B b q (bs ++ [.int .u8 c]) w' ∧ RowKit.Below B w w' ∧ Lib.OthersKept 5 (some b) w w' := by
  have w1 : IntKind.u32.wrap (c : Int) = c := by rw [IntKind.wrap_u32]; omega
  have w2 : IntKind.u8.wrap (c : Int) = c := by rw [IntKind.wrap_u8]; omega
  go_enter Tryd.func35, Tryd.ntmps35
  go_wp2_with (go_at_call 42; refine (writeByte_any T R B b q bs c w h hBw h1 hlim).mono ?_; rintro e w' ⟨rfl, hi, hb, hk⟩)
  go_ret2
  exact ⟨rfl, hi, hb, hk⟩
/-- Behind w0, block pb holds a buffer of the bytes s at o; below B, and beside rows of bytes, nothing has turned. -/
def EW (T : TypeId) (R : Nat → Option Value) (B pb o : Nat) (w0 : World) (s : List UInt8) (w : World) : Prop :=
  LibA.IsBuffer T R 5 B pb o (Lib.byteCells s) w ∧ Below B w0 w ∧ Lib.OthersKept 5 (some pb) w0 w
section
variable {T : TypeId} {R : Nat → Option Value} {B pb o : Nat} {w0 w w' : World} {s : List UInt8}
theorem EW.lt (h : EW T R B pb o w0 s w) : B ≤ pb ∧ pb < w.heap.size := ⟨h.1.1, h.1.lt⟩
theorem kept_below {e : TypeId} {b : Option Nat} (h : Below w.heap.size w w') : Lib.OthersKept e b w w' := fun k o hk _ _ => by
  rw [h.block k (Array.getElem?_eq_some_iff.1 hk).1]; exact hk
theorem EW.below (h : EW T R B pb o w0 s w) (hb : Below w.heap.size w w') : EW T R B pb o w0 s w' :=
  ⟨h.1.old hb, h.2.1.trans (hb.mono (by have := h.lt; omega)), h.2.2.trans (kept_below hb)⟩
theorem EW.cells (h : EW T R B pb o w0 s w) {g : Nat} {cs : Array Value} {t : TypeId} {fr : Nat × Nat} (hg : w0.heap[g]? = some (.cells cs t fr)) (ht : t ≠ 5) (hp : g ≠ pb) : w.heap[g]? = some (.cells cs t fr) :=
  h.2.2 g _ hg (fun e => hp (Option.some.inj e)) (fun c fz e => by injection e with _ e2 _; exact ht e2)
theorem EW.refl (h : LibA.IsBuffer T R 5 B pb o (Lib.byteCells s) w) : EW T R B pb o w s w := ⟨h, Below.refl _ _, Lib.OthersKept.refl _ _ _⟩
theorem EW.rebase {s' : List UInt8} (h : EW T R B pb o w0 s w) (h1 : EW T R B pb o w s' w') : EW T R B pb o w0 s' w' := ⟨h1.1, h.2.1.trans h1.2.1, h.2.2.trans h1.2.2⟩
theorem EW.wr : Wr (EW T R B pb o w0) 140737488355328 ⟨pb, o, none⟩ where
  below := fun s w w' h hb => h.below hb
  ws := fun s w x h hl => by
    refine (writeString_any T R B pb o _ x w h.1 (by have := h.lt; omega) (Lib.byteCells_one _) (by rw [Lib.byteCells_length, Lib.size_eq]; exact hl)).mono ?_
    rintro e w' ⟨rfl, hi, hb, hk⟩
    exact ⟨⟨_, rfl⟩, by rw [Lib.byteCells_append]; exact hi, h.2.1.trans hb, h.2.2.trans hk⟩
  wr := fun s w c hc h hl => by
    refine (writeRune_any T R B pb o _ c hc w h.1 (by have := h.lt; omega) (Lib.byteCells_one _) (by rw [Lib.byteCells_length]; exact hl)).mono ?_
    rintro e w' ⟨rfl, hi, hb, hk⟩
    refine ⟨⟨_, rfl⟩, ?_, h.2.1.trans hb, h.2.2.trans hk⟩
    rw [Lib.byteCells_append]
    have : Lib.byteCells [UInt8.ofNat c] = [Value.int .u8 (c : Int)] := by simp [Lib.byteCells]; omega
    rw [this]
    exact hi
end
end Go.Proofs.YtkddkmiomhadaaaDoor
