/- Plain words of the proofs: texts by numbers. -/
import Derived.WalkKit
namespace Go.Proofs.YtkddkmiomhadaaaDoor
/-- The decimal text of a number, as spec.Decimal makes it. -/
def dec (n : Nat) : ByteArray :=
  if n < 10 then ⟨#[UInt8.ofNat (48 + n)]⟩ else dec (n / 10) ++ ⟨#[UInt8.ofNat (48 + n % 10)]⟩
theorem dec_small {n : Nat} (h : n < 10) : dec n = ⟨#[UInt8.ofNat (48 + n)]⟩ := by rw [dec, if_pos h]
theorem dec_large {n : Nat} (h : ¬ n < 10) : dec n = dec (n / 10) ++ ⟨#[UInt8.ofNat (48 + n % 10)]⟩ := by rw [dec, if_neg h]
theorem dec_size (k : Nat) : ∀ n : Nat, n < 10 ^ (k + 1) → (dec n).size ≤ k + 1 := by
  induction k with
  | zero => intro n h; rw [dec_small (by omega)]; simp [ByteArray.size]
  | succ k ih =>
    intro n h
    by_cases h10 : n < 10
    · rw [dec_small h10]; simp [ByteArray.size]
    · rw [dec_large h10, ByteArray.size_append']
      have := ih (n / 10) (by rw [Nat.div_lt_iff_lt_mul (by omega)]; rw [Nat.pow_succ] at h; omega)
      simp only [ByteArray.size_mk'] at *
      simp
      omega
theorem dec_le {n : Nat} (h : n < 18446744073709551616) : (dec n).size ≤ 20 := dec_size 19 n (by omega)
end Go.Proofs.YtkddkmiomhadaaaDoor
