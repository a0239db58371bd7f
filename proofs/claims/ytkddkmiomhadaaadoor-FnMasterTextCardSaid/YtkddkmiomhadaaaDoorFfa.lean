/- strconv.FormatFloat's small callees, as far as eighths need them. -/
import Derived.Test.YtkddkmiomhadaaaDoorEvs
import Derived.Shelf.Bits.Mul64
import Derived.BigQuiet
namespace Go.Proofs.YtkddkmiomhadaaaDoor
open Go.RowKit
theorem len64_any (x : Nat) (h1 : x ≤ 18446744073709551615) (w : World) : Calls Tryd.prog 56 #[.int .u64 x] w fun e w' => e = .returned (.int .i64 (Lib.bitLen x)) ∧ w' = w := by
  have := Any.bits_Len64 Tryd.lays129 (x : Int) w (by omega) (by omega)
  exact this
theorem mul64_any (x y : Nat) (hx : x < 18446744073709551616) (hy : y < 18446744073709551616) (w : World) :
    Calls Tryd.prog 93 #[.int .u64 x, .int .u64 y] w fun e w' => e = .returned (.tuple #[.int .u64 ((x * y / 18446744073709551616 : Nat) : Int), .int .u64 ((x * y % 18446744073709551616 : Nat) : Int)]) ∧ w' = w := Any.bits_Mul64 Tryd.lays264 x y hx hy w
theorem l10_any (x : Nat) (h : x ≤ 64) (w : World) : Calls Tryd.prog 55 #[.int .i64 x] w fun e w' => e = .returned (.int .i64 (Lib.l10 x)) ∧ w' = w := Any.internal_strconv_log10Pow2 Tryd.lays317 x h w
theorem bool2_any (b : Bool) (w : World) : Calls Tryd.prog 57 #[.bool b] w fun e w' => e = .returned (.int .i64 (if b then 1 else 0)) ∧ w' = w := Any.internal_strconv_bool2_int Tryd.lays318 b w
theorem l10_neg (x : Int) (h : x = -1 ∨ x = -2 ∨ x = -3) (w : World) : Calls Tryd.prog 55 #[.int .i64 x] w fun e w' => e = .returned (.int .i64 (-1)) ∧ w' = w := by
  rcases h with rfl | rfl | rfl
  all_goals
    go_enter Tryd.func55, Tryd.ntmps55
    go_wp2
    go_ret
    exact ⟨rfl, rfl⟩
theorem l2_any (p : Int) (h : p = 3 ∨ p = 4) (w : World) : Calls Tryd.prog 79 #[.int .i64 p] w fun e w' => e = .returned (.int .i64 (p * 108853 / 32768)) ∧ w' = w := by
  rcases h with rfl | rfl
  all_goals
    go_enter Tryd.func79, Tryd.ntmps79
    go_wp2
    go_ret
    exact ⟨rfl, rfl⟩
theorem unmin_any (y : Int) (h : y = 10000 ∨ y = 100000 ∨ y = 1000000) (w : World) : Calls Tryd.prog 85 #[.int .u64 y] w fun e w' => e = .returned (.int .u64 (y * 4 - 2)) ∧ w' = w := by
  rcases h with rfl | rfl | rfl
  all_goals
    go_enter Tryd.func85, Tryd.ntmps85
    go_wp2
    go_ret
    exact ⟨rfl, rfl⟩
theorem bool2u_any (b : Bool) (w : World) : Calls Tryd.prog 95 #[.bool b] w fun e w' => e = .returned (.int .u64 (if b then 1 else 0)) ∧ w' = w := by
  go_enter Tryd.func95, Tryd.ntmps95
  cases b
  all_goals
    go_wp2
    go_ret
    exact ⟨rfl, rfl⟩
theorem bool2w_any (b : Bool) (w : World) : Calls Tryd.prog 94 #[.bool b] w fun e w' => e = .returned (.int .u64 (if b then 1 else 0)) ∧ w' = w := by
  go_enter Tryd.func94, Tryd.ntmps94
  cases b
  all_goals
    go_wp2
    go_ret
    exact ⟨rfl, rfl⟩
theorem ofInt_nat (n x : Nat) : BitVec.ofInt n (x : Int) = BitVec.ofNat n x := by
  apply BitVec.eq_of_toNat_eq
  simp [BitVec.toNat_ofInt]
theorem or_u64 (x y : Nat) (hx : x < 18446744073709551616) (hy : y < 18446744073709551616) : bits .or .u64 (x : Int) (y : Int) = ((x ||| y : Nat) : Int) := by
  have hb : IntKind.u64.bits = 64 := rfl
  have h := Nat.or_lt_two_pow (n := 64) (show x < 2 ^ 64 by omega) (show y < 2 ^ 64 by omega)
  unfold bits
  simp only [hb, ofInt_nat, BitVec.toNat_or, BitVec.toNat_ofNat]
  rw [Nat.mod_eq_of_lt (show x < 2 ^ 64 by omega), Nat.mod_eq_of_lt (show y < 2 ^ 64 by omega), IntKind.wrap_u64]
  omega
theorem and_u64 (x y : Nat) (hx : x < 18446744073709551616) (hy : y < 18446744073709551616) : bits .and .u64 (x : Int) (y : Int) = ((x &&& y : Nat) : Int) := by
  have hb : IntKind.u64.bits = 64 := rfl
  have h := Nat.and_lt_two_pow (n := 64) x (show y < 2 ^ 64 by omega)
  unfold bits
  simp only [hb, ofInt_nat, BitVec.toNat_and, BitVec.toNat_ofNat]
  rw [Nat.mod_eq_of_lt (show x < 2 ^ 64 by omega), Nat.mod_eq_of_lt (show y < 2 ^ 64 by omega), IntKind.wrap_u64]
  omega
theorem round_any (d : Nat) (h : d ≤ 1000000) (w : World) : Calls Tryd.prog 84 #[.int .u64 ((4 * d : Nat) : Int)] w fun e w' => e = .returned (.int .u64 d) ∧ w' = w := by
  have h2 : bits BinOp.and IntKind.u64 (d : Int) 1 = (d : Int) % 2 := by
    have := and_u64 d 1 (by omega) (by omega)
    rw [Nat.and_one_is_mod] at this
    exact this
  have h3 : IntKind.u64.wrap (4 * (d : Int) + 1 + (d : Int) % 2) = 4 * (d : Int) + 1 + (d : Int) % 2 := by rw [IntKind.wrap_u64]; omega
  have e : (4 * (d : Int) + 1 + (d : Int) % 2) / 4 = d := by omega
  go_enter Tryd.func84, Tryd.ntmps84
  go_wp2
  go_ret
  exact ⟨rfl, rfl⟩
theorem div_any (u : Nat) (h : u % 20 = 0) (h1 : u ≤ 100000000) (w : World) : Calls Tryd.prog 86 #[.int .u64 u, .int .u64 10] w fun e w' => e = .returned (.int .u64 ((u / 10 : Nat) : Int)) ∧ ∃ n, w' = w.drewN n := by
  have e1 : bits BinOp.and IntKind.u64 (u : Int) 1 = 0 := by
    have := and_u64 u 1 (by omega) (by omega)
    rw [Nat.and_one_is_mod, show u % 2 = 0 by omega] at this
    exact this
  have e2 : bits BinOp.or IntKind.u64 ((u : Int) / 10) 0 = (u : Int) / 10 := by
    have := or_u64 (u / 10) 0 (by omega) (by omega)
    rw [Nat.or_zero] at this
    exact_mod_cast this
  have e3 : IntKind.u64.wrap ((u : Int) / 10) = (u : Int) / 10 := by rw [IntKind.wrap_u64]; omega
  have e4 : (u : Int) % 10 = 0 := by omega
  go_enter Tryd.func86, Tryd.ntmps86
  go_wp2
  go_quiet ((go_at_call 95; exact Calls.quiet_of_same (bool2u_any _ _)))
  go_wp2
  go_ret
  exact ⟨rfl, nq, rfl⟩
end Go.Proofs.YtkddkmiomhadaaaDoor
