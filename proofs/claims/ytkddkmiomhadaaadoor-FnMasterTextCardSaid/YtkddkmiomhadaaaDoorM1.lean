/- The walks of laws.masterOf's two closures. Conditions: what the numbers' slice holds are numbers of 32 bits. -/
import Derived.Test.YtkddkmiomhadaaaDoorStrs
import Derived.Deep.QuietTactic
import Derived.BigQuiet
import Derived.IntWalk
namespace Go.Proofs.YtkddkmiomhadaaaDoor
open Go.RowKit
/-- A slice of numbers of 32 bits that is there. -/
def U32s (w : World) (A : Option Addr) (len : Nat) : Prop := ∀ j, j < len → ∃ (a : Addr) (x : Nat), A = some a ∧ w.cell? (a.add j) = some (.int .u32 x) ∧ x < 4294967296
theorem U32s.below {w w' : World} {A : Option Addr} {len : Nat} (h : U32s w A len) (hb : Below w.heap.size w w') : U32s w' A len := fun j hj => by
  obtain ⟨a, x, ha, hc, hx⟩ := h j hj
  refine ⟨a, x, ha, ?_, hx⟩
  rw [World.cell?_of_block (w := w)]
  · exact hc
  · exact hb.block _ (World.block_lt_of_cell? w _ hc)
def SomeU32 (w : World) (e : Ending) (w' : World) : Prop := ∃ h n : Nat, h < 4294967296 ∧ e = .returned (.int .u32 h) ∧ w' = w.drewN n
theorem some_u32 {w : World} {x : Int} (n : Nat) (h0 : 0 ≤ x) (h1 : x < 4294967296) : SomeU32 w (.returned (.int .u32 x)) (w.drewN n) := ⟨x.toNat, n, by omega, by rw [show ((x.toNat : Nat) : Int) = x from by omega], rfl⟩
set_option maxRecDepth 100000 in
set_option maxHeartbeats 1000000 in
theorem at_any (k : Nat) (p : Addr) (A : Option Addr) (len cap : Nat) (w : World) (hk : k < 1000) (hl : len ≤ 1000) (hc : w.cell? p = some (.slice A len cap)) (hA : U32s w A len) :
    Calls Tryd.prog 9 #[.int .i64 k, .pointer (some p)] w (SomeU32 w) := by
  by_cases h0 : len = 0
  · subst h0
    clear hA
    go_enter Tryd.func9, Tryd.ntmps9
    go_wp2_with fail
    go_ret
    exact some_u32 0 (by omega) (by omega)
  · obtain ⟨a, x, rfl, hx, hx2⟩ := hA (k % len) (Nat.mod_lt _ (by omega))
    clear hA
    have hk1 : k % len < len := Nat.mod_lt _ (by omega)
    have hq : k / len < 1000 := Nat.lt_of_le_of_lt (Nat.div_le_self _ _) hk
    go_enter Tryd.func9, Tryd.ntmps9
    go_wp2_with fail
    go_quiet (fail)
    go_wp2_with fail
    go_ret
    exact some_u32 _ (by omega) (by omega)
def isGroup (s : ByteArray) : Prop := s = ⟨#[]⟩ ∨ s = ⟨#[103]⟩ ∨ s = ⟨#[104]⟩
def SomeGroup (w : World) (e : Ending) (w' : World) : Prop := ∃ s, isGroup s ∧ e = .returned (.string s) ∧ Below w.heap.size w w'
set_option maxRecDepth 100000 in
set_option maxHeartbeats 1000000 in
theorem group_any (n : Nat) (w : World) (hn : n < 4294967296) : Calls Tryd.prog 10 #[.int .u32 n] w (SomeGroup w) := by
  rcases (show (n : Int) % 3 = 0 ∨ (n : Int) % 3 = 1 ∨ (n : Int) % 3 = 2 by omega) with h | h | h
  · go_enter Tryd.func10, Tryd.ntmps10
    go_wp2_with fail
    go_ret
    exact ⟨_, .inl rfl, rfl, (Below.refl _ _).alloc (Nat.le_refl _) _⟩
  · go_enter Tryd.func10, Tryd.ntmps10
    go_wp2_with fail
    go_ret
    exact ⟨_, .inr (.inl rfl), rfl, (Below.refl _ _).alloc (Nat.le_refl _) _⟩
  · go_enter Tryd.func10, Tryd.ntmps10
    go_wp2_with fail
    go_ret
    exact ⟨_, .inr (.inr rfl), rfl, (Below.refl _ _).alloc (Nat.le_refl _) _⟩
end Go.Proofs.YtkddkmiomhadaaaDoor
