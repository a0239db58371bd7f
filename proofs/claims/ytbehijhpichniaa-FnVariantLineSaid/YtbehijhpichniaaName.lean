/- The walk of pub/m3u8.zzNameByte. -/
import Derived.Test.YtbehijhpichniaaUri
import Derived.Test.YtbehijhpichniaaKv
namespace Go.Proofs.Ytbehijhpichniaa
open Go.RowKit
set_option maxHeartbeats 4000000 in
theorem nameByte_any (b : UInt8) (w : World) : Calls Try.prog 35 #[.int .u8 (b.toNat : Int)] w (fun e w' => e = .returned (.bool (nameB b)) ∧ w' = w) := by
  have hb : b.toNat < 256 := b.toNat_lt
  have key : ∀ x : Bool, x = nameB b ↔ (x = true ↔ ((97 ≤ b.toNat ∧ b.toNat ≤ 122) ∨ (65 ≤ b.toNat ∧ b.toNat ≤ 90) ∨ (48 ≤ b.toNat ∧ b.toNat ≤ 57) ∨ b.toNat = 95 ∨ b.toNat = 45)) := by
    intro x
    rw [Bool.eq_iff_iff]
    simp [nameB, or_assoc]
  generalize nameB b = nb at *
  have hv := (key nb).1 rfl
  clear key
  generalize b.toNat = c at *
  rcases (show (c < 45 ∨ c = 46 ∨ c = 47 ∨ (58 ≤ c ∧ c < 65) ∨ (91 ≤ c ∧ c < 95) ∨ c = 96 ∨ 122 < c) ∨ c = 45 ∨ (48 ≤ c ∧ c ≤ 57) ∨ (65 ≤ c ∧ c ≤ 90) ∨ c = 95 ∨ (97 ≤ c ∧ c ≤ 122) by omega) with h | h | h | h | h | h
  · have : nb = false := by rw [← Bool.not_eq_true, hv]; omega
    subst this
    clear hv
    rcases h with h | h | h | h | h | h | h
    all_goals
      go_enter Try.func35, Try.ntmps35
      go_wp2
      go_ret
      first
        | exact ⟨rfl, rfl⟩
        | (refine ⟨ret_bool ?_, rfl⟩; simp; omega)
  all_goals
    have : nb = true := by rw [hv]; omega
    subst this
    clear hv
    go_enter Try.func35, Try.ntmps35
    go_wp2
    go_ret
    first
      | exact ⟨rfl, rfl⟩
      | (refine ⟨ret_bool ?_, rfl⟩; simp; omega)
end Go.Proofs.Ytbehijhpichniaa
