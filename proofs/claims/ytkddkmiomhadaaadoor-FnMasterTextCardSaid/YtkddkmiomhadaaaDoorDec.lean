import Derived.Test.YtkddkmiomhadaaaDoorRows
import Derived.Test.YtkddkmiomhadaaaDoorPlain
import Derived.Test.YtkddkmiomhadaaaDoorArms
namespace Go.Proofs.YtkddkmiomhadaaaDoor
open Go.RowKit
theorem enc_dec0 {n : Nat} (h : n < 10) : chr (48 + (n : Int)) = dec n := by
  rw [dec_small h, show (48 + (n : Int)) = ((48 + n : Nat) : Int) from by omega, chr_ascii _ (by omega)]
theorem enc_dec1 {n : Nat} (h : ¬ n < 10) : dec (n / 10) ++ chr (48 + (n : Int) % 10) = dec n := by
  rw [dec_large h, show (48 + (n : Int) % 10) = ((48 + n % 10 : Nat) : Int) from by omega, chr_ascii _ (by omega)]
set_option maxHeartbeats 400000 in
set_option maxRecDepth 100000 in
theorem decimal_all (k : Nat) : ∀ (n : Nat) (w : World), n < 10 ^ (k + 1) → n < 18446744073709551616 →
    Calls Tryd.prog 6 #[.int .u64 n] w fun e w' => e = .returned (.string (dec n)) ∧ w = w' := by
  induction k with
  | zero =>
    intro n w hk hn
    have h1 : n < 10 := by omega
    go_enter Tryd.func6, Tryd.ntmps6
    go_wp2_with (first | (refine arm_chr 9 Tryd.underlying9 21 (by kernel_rfl) rfl ?_))
    go_ret
    exact ⟨ret_string (enc_dec0 h1), rfl⟩
  | succ k ih =>
    intro n w hk hn
    by_cases h1 : n < 10
    · exact ih n w (Nat.lt_of_lt_of_le h1 (by rw [Nat.pow_succ]; have := Nat.pow_pos (n := k) (a := 10) (by omega); omega)) hn
    · have hd : n / 10 < 10 ^ (k + 1) := by rw [Nat.div_lt_iff_lt_mul (by omega)]; rw [Nat.pow_succ] at hk; omega
      have hs := dec_le (n := n / 10) (by omega)
      have he := chr_size (48 + (n : Int) % 10)
      go_enter Tryd.func6, Tryd.ntmps6
      go_wp2_with (first | (go_at_call 6; refine (ih (n / 10) _ hd (by omega)).mono ?_; rintro e w' ⟨rfl, rfl⟩) | (refine arm_chr 9 Tryd.underlying9 21 (by kernel_rfl) rfl ?_) | (refine arm_add 9 Tryd.underlying9 rfl rfl (by omega) ?_))
      go_ret
      exact ⟨ret_string (enc_dec1 h1), rfl⟩
set_option maxRecDepth 100000 in
/-- spec.Decimal: the decimal text. -/
theorem decimal_any (n : Nat) (w : World) (hn : n < 18446744073709551616) :
    Calls Tryd.prog 6 #[.int .u64 n] w fun e w' => e = .returned (.string (dec n)) ∧ w = w' :=
  decimal_all 19 n w (by omega) hn
end Go.Proofs.YtkddkmiomhadaaaDoor
