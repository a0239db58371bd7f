/- The walk of laws.cueOf. -/
import Derived.Test.YtbehijhpichniaaDoorCue
namespace Go.Proofs.YtbehijhpichniaaDoor
open Go.RowKit
theorem cueOf_mk {w w' : World} {g : Nat} (c : Sc) (hc : c.Ok) (hg : w.heap.size ≤ g) (hh : w'.heap[g]? = some (.cells c.cells 50 (0, 0))) (hb : Below w.heap.size w w') : CueOfPost w (.returned (.pointer (some ⟨g, 0, none⟩))) w' := ⟨hb, .inr ⟨g, c, hc, hg, rfl, hh⟩⟩
set_option maxRecDepth 100000 in
set_option maxHeartbeats 8000000 in
theorem cueOf_law (n : Nat) (hn : n < 4294967296) (w : World) : Calls Tryd.prog 5 #[.int .u32 n] w (CueOfPost w) := by
  have hw1 := fun w => wordless_any (n / 512) (by omega) w
  have hw2 := fun w => wordless_any (n / 128) (by omega) w
  have h9 : (n : Int) / 512 = ((n / 512 : Nat) : Int) := by omega
  have h7 : (n : Int) / 128 = ((n / 128 : Nat) : Int) := by omega
  rw [← h9] at hw1
  rw [← h7] at hw2
  clear h9 h7
  go_enter Tryd.func5, Tryd.ntmps5
  go_upto_region 2 with (first | (go_at_call 8; refine (hw1 _).mono ?_; rintro e w1 ⟨t, rfl, ht, hw⟩; rw [hw]; clear hw w1) | (refine arm_add 9 Tryd.underlying9 rfl rfl ?_ ?_; (· (simp only [ByteArray.size_append', ByteArray.size_mk', List.size_toArray, List.length_cons, List.length_nil]; omega))))
  have htm : (1 : Int) + (n : Int) / 32 % 400 = ((1 + n / 32 % 400 : Nat) : Int) := by omega
  have htm2 : 1 + n / 32 % 400 ≤ 400 := by omega
  clear hw1
  rw [htm]
  generalize 1 + n / 32 % 400 = tm at *
  generalize (⟨#[47, 68, 65]⟩ : ByteArray) ++ t ++ ⟨#[61]⟩ = tx at *
  clear htm ht
  rcases (show (n : Int) % 6 = 0 ∨ (n : Int) % 6 = 1 ∨ (n : Int) % 6 = 2 ∨ (n : Int) % 6 = 3 ∨ (n : Int) % 6 = 4 ∨ (n : Int) % 6 = 5 by omega) with h | h | h | h | h | h
  · go_upto_region 6 with (go_at_call 8; refine (hw2 _).mono ?_; rintro e w1 ⟨t2, rfl, ht2, hw⟩; rw [hw]; clear hw w1)
    clear hw2
    rcases (show (n : Int) / 1048576 % 2 = 0 ∨ (n : Int) / 1048576 % 2 = 1 by omega) with hb | hb
    · have hbit : bits .and .u32 ((n : Int) / 1048576) 1 = 0 := (bits_mask .u32 32 (by decide) wraps_u32 1 (by decide) _ (by omega) (by omega)).trans hb
      go_wp2
      go_ret
      exact cueOf_mk ⟨0, 0, tx, t2, tm, 0⟩ ⟨by simp, by simp, htm2, by simp⟩ (Nat.le_refl _) (heap_alloc_new _ _) ((Below.refl _ _).alloc (Nat.le_refl _) _)
    · have hbit : bits .and .u32 ((n : Int) / 1048576) 1 = 1 := (bits_mask .u32 32 (by decide) wraps_u32 1 (by decide) _ (by omega) (by omega)).trans hb
      go_wp2
      go_ret
      exact cueOf_mk ⟨0, 0, tx, t2, 0, 0⟩ ⟨by simp, by simp, by simp, by simp⟩ (Nat.le_refl _) (heap_alloc_new _ _) ((Below.refl _ _).alloc (Nat.le_refl _) _)
  · go_wp2
    go_ret
    exact cueOf_mk ⟨1, 0, tx, ⟨#[]⟩, tm, 0⟩ ⟨by simp, by simp, htm2, by simp⟩ (Nat.le_refl _) (heap_alloc_new _ _) ((Below.refl _ _).alloc (Nat.le_refl _) _)
  · have hel : n / 8192 % 300 ≤ 400 := by omega
    go_wp2
    go_ret
    exact cueOf_mk ⟨1, 1, tx, ⟨#[]⟩, tm, n / 8192 % 300⟩ ⟨by simp, by simp, htm2, hel⟩ (Nat.le_refl _) (heap_alloc_new _ _) ((Below.refl _ _).alloc (Nat.le_refl _) _)
  · go_wp2
    go_ret
    exact cueOf_mk ⟨1, 2, ⟨#[]⟩, ⟨#[]⟩, 0, 0⟩ ⟨by simp, by simp, by simp, by simp⟩ (Nat.le_succ _) ((congrArg (fun n => (World.alloc _ _).heap[n]?) (by simp)).trans (heap_alloc_new _ _)) (((Below.refl _ _).alloc (Nat.le_refl _) _).alloc (by simp) _)
  · go_wp2
    go_ret
    exact ⟨(Below.refl _ _).alloc (Nat.le_refl _) _, .inl rfl⟩
  · go_wp2
    go_ret
    exact ⟨(Below.refl _ _).alloc (Nat.le_refl _) _, .inl rfl⟩
end Go.Proofs.YtbehijhpichniaaDoor
