/- The walks of laws.wordless, laws.cueOf, laws.toCues. -/
import Derived.Test.YtbehijhpichniaaDoorPl
import Derived.Test.YtbehijhpichniaaDoorDecd
import Derived.StillTailTactics
namespace Go.Proofs.YtbehijhpichniaaDoor
open Go.RowKit
def SomeText (m : Nat) (w : World) (e : Ending) (w' : World) : Prop := ∃ t : ByteArray, e = .returned (.string t) ∧ t.size ≤ m ∧ w' = w
set_option maxRecDepth 100000 in
set_option maxHeartbeats 8000000 in
theorem wordless_any (n : Nat) (hn : n < 4294967296) (w : World) : Calls Tryd.prog 8 #[.int .u32 n] w (SomeText 64 w) := by
  have hr9 : (n : Int) % 9 < 9 ∧ 0 ≤ (n : Int) % 9 := by omega
  go_enter Tryd.func8, Tryd.ntmps8
  go_wp2
  go_loop [3, 8] (fun o i => ∃ (k : Nat) (t : ByteArray), i = .int .i64 k ∧ o = .string t ∧ k ≤ n % 9 ∧ t.size ≤ 4 * k) (fun _ i => n % 9 - (intOf i).toNat)
  case atStart => exact ⟨0, _, rfl, rfl, Nat.zero_le _, Nat.le_refl _⟩
  case round =>
    obtain ⟨k, t, rfl, rfl, hk, ht⟩ := hrel
    by_cases hlt : k < n % 9
    · have h1 : (k : Int) < (n : Int) % 9 := by omega
      have hk9 : k < 9 := by omega
      have hi13 : 0 ≤ ((n : Int) / 16 + (k : Int) * 5) % 13 ∧ ((n : Int) / 16 + (k : Int) * 5) % 13 < 13 := by omega
      go_wp2_with (first | (refine arm_index 9 Tryd.underlying9 rfl rfl ?_ ?_ ?_; (· exact hi13.1); (· exact hi13.2); intro b hbd; clear hbd) | (refine arm_chr 9 Tryd.underlying9 21 (by kernel_rfl) rfl ?_; have hcs := chr_size (b.toNat : Int)) | (refine arm_add 9 Tryd.underlying9 rfl rfl ?_ ?_; (· (have := chr_size; have h4 := this; first | (refine Nat.le_trans (Nat.add_le_add ht (this _)) ?_; omega) | omega))))
      have hcz := chr_size (wrap32 (b.toNat : Int))
      refine ⟨⟨k + 1, _, by go_num, rfl, by omega, by rw [ByteArray.size_append']; omega⟩, by simp [intOf]; omega⟩
    · have hkk : ¬ (k : Int) < (n : Int) % 9 := by omega
      go_wp2
      go_ret
      exact ⟨t, rfl, by omega, rfl⟩
/-- A cue as the specification has it. -/
structure Sc where
  syn : Nat
  typ : Nat
  cue : ByteArray
  id : ByteArray
  tm : Nat
  el : Nat
def Sc.cells (c : Sc) : Array Value := #[.int .i64 c.syn, .int .i64 c.typ, .string c.cue, .string c.id, .int .i64 c.tm, .int .i64 c.el]
structure Sc.Ok (c : Sc) : Prop where
  syn : c.syn ≤ 2
  typ : c.typ ≤ 2
  tm : c.tm ≤ 400
  el : c.el ≤ 400
def CueOfPost (w : World) (e : Ending) (w' : World) : Prop := Below w.heap.size w w' ∧ (e = .returned (.pointer none) ∨ ∃ (g : Nat) (c : Sc), c.Ok ∧ w.heap.size ≤ g ∧ e = .returned (.pointer (some ⟨g, 0, none⟩)) ∧ w'.heap[g]? = some (.cells c.cells 50 (0, 0)))
def eighth (t : Nat) : Option Nat := floatBits .quo .f64 (floatOfInt .f64 (t : Int)) 4620693217682128896
def eighthOk (t : Nat) : Bool := match eighth t with
  | some r => FloatKind.f64.format.order r r == some .eq
  | none => false
theorem eighths : (List.range 401).all eighthOk = true := by decide +kernel
theorem eighth_some {t : Nat} (h : t ≤ 400) : ∃ r, eighth t = some r ∧ (FloatKind.f64.format.order r r == some .eq) = true := by
  have := List.all_eq_true.1 eighths t (List.mem_range.2 (by omega))
  unfold eighthOk at this
  split at this
  · exact ⟨_, by assumption, this⟩
  · cases this
set_option maxRecDepth 100000 in
set_option maxHeartbeats 8000000 in
theorem toCues_any (c : Sc) (hc : c.Ok) (g : Nat) (w : World) (hg : w.heap[g]? = some (.cells c.cells 50 (0, 0))) : Calls Tryd.prog 6 #[.pointer (some ⟨g, 0, none⟩)] w (fun e w' => ∃ (cu : Cu) (q : Nat), cu.syn = c.syn ∧ cu.typ = c.typ ∧ cu.cue = c.cue ∧ cu.id = c.id ∧ eighth c.tm = some cu.tm ∧ eighth c.el = some cu.el ∧ w.heap.size ≤ q ∧ e = .returned (.slice (some ⟨q, 0, none⟩) 1 1) ∧ w'.heap[q]? = some (.cells cu.list.toArray 46 (0, 0)) ∧ Below w.heap.size w w') := by
  obtain ⟨r1, h1, _⟩ := eighth_some hc.tm
  obtain ⟨r2, h2, _⟩ := eighth_some hc.el
  have q1 := fun w => run_float_arith (P := Tryd.prog) w .quo 26 .f64 _ _ r1 h1
  have q2 := fun w => run_float_arith (P := Tryd.prog) w .quo 26 .f64 _ _ r2 h2
  have c0 : w.cell? ⟨g, 0, none⟩ = some (.int .i64 c.syn) := cell_of_heap hg rfl
  have c1 : w.cell? ⟨g, 1, none⟩ = some (.int .i64 c.typ) := cell_of_heap hg rfl
  have c2 : w.cell? ⟨g, 2, none⟩ = some (.string c.cue) := cell_of_heap hg rfl
  have c3 : w.cell? ⟨g, 3, none⟩ = some (.string c.id) := cell_of_heap hg rfl
  have c4 : w.cell? ⟨g, 4, none⟩ = some (.int .i64 c.tm) := cell_of_heap hg rfl
  have c5 : w.cell? ⟨g, 5, none⟩ = some (.int .i64 c.el) := cell_of_heap hg rfl
  go_enter Tryd.func6, Tryd.ntmps6
  go_upto_region 3 with fail
  go_still_tail 29, (by kernel_rfl)
  change wpList _ _ _ _ _ w.drew
  have hb : Below w.heap.size w w.drew := (Below.refl _ _).drew
  have hsz : w.heap.size = w.drew.heap.size := rfl
  generalize w.drew = w2 at *
  clear c0 c1 c2 c3 c4 c5
  go_wp2
  go_ret
  exact ⟨⟨c.syn, c.typ, c.cue, c.id, r1, r2⟩, _, rfl, rfl, rfl, rfl, h1, h2, Nat.le_of_eq hsz, rfl, heap_alloc_new _ _, hb.alloc (Nat.le_of_eq hsz) _⟩
end Go.Proofs.YtbehijhpichniaaDoor
