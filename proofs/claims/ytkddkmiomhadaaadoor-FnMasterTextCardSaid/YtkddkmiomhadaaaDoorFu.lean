/- strconv.FormatUint at base 10, and strver: the decimal text of a number. Condition: Go's table of powers of ten reads as its text has it. -/
import Derived.Test.YtkddkmiomhadaaaDoorPlain
import Derived.Test.YtkddkmiomhadaaaDoorLays
import Derived.Shelf.Strconv.Itoa1
import Derived.Lib.Walk
import Derived.Lib.ItoaMem
import Derived.Lib.AppendIntMem
import Derived.WalkKit
import Derived.BigCall
import Derived.BigGuard
namespace Go.Proofs.YtkddkmiomhadaaaDoor
open Go.Shelf Go.RowKit Go.Sort Go.Lib
theorem dec_digits : ∀ n : Nat, dec n = ⟨(decDigits n).toArray⟩ := by
  intro n
  induction n using Nat.strongRecOn with
  | _ n ih =>
    rw [dec]
    unfold decDigits
    by_cases h : n < 10
    · rw [if_pos h, dif_pos h]
    · rw [if_neg h, dif_neg h, ih (n / 10) (by omega)]
      apply ByteArray.ext
      simp
abbrev PowTab (w : World) : Prop := TabIs Tryd.prog w "internal/strconv.uint64pow10" .u64 pow10Tab
theorem small_any (i : Nat) (h : i < 100) (w : World) : Calls Tryd.prog 48 #[.int .i64 i] w fun e w' => e = .returned (.string ⟨(decDigits i).toArray⟩) ∧ w' = w := Any.internal_strconv_small Tryd.lays283 i h w
theorem numDigits_any (u : Nat) (h1 : 1 ≤ u) (h2 : u < 18446744073709551616) (w : World) (htab : PowTab w) :
    Calls Tryd.prog 49 #[.int .u64 u] w fun e w' => e = .returned (.int .i64 (nDigits u)) ∧ w' = w := Any.internal_strconv_numDigits Tryd.lays284 u h1 h2 w htab
theorem formatBase10_any (blk off cap : Nat) (u : Nat) (d : Array UInt8) (w : World) (hH : Holds (fun (b : UInt8) => Value.int .u8 (b.toNat : Int)) w blk off d) (hu : u < 10 ^ d.size) (hu64 : u < 18446744073709551616) (hsz : d.size < 4611686018427387904) :
    Calls Tryd.prog 50 #[.slice (some ⟨blk, off, none⟩) d.size cap, .int .u64 u] w fun e w' =>
      e = .returned (.tuple #[]) ∧ ∃ (n v' : Nat) (dk : Array UInt8), w' = (putRow (fun (b : UInt8) => Value.int .u8 (b.toNat : Int)) w blk off dk).drewN n ∧ FmtInv d.size u 0 v' dk := Any.internal_strconv_formatBase10 Tryd.lays285 blk off cap u d w hH hu hu64 hsz
set_option maxHeartbeats 6400000 in
set_option maxRecDepth 100000 in
theorem formatUint_in (n : Nat) (hn : n < 18446744073709551616) (w : World) (htab : PowTab w) :
    Calls Tryd.prog 44 #[.int .u64 n, .int .i64 10] w fun e w' => e = .returned (.string (dec n)) ∧ Below w.heap.size w w' := by
  rw [dec_digits]
  by_cases hs : n < 100
  · go_enter Tryd.func44, Tryd.ntmps44
    go_wp2_with (go_at_call 48; refine (small_any n hs _).mono ?_; rintro e w' ⟨rfl, rfl⟩)
    go_ret
    exact ⟨rfl, Below.refl _ _⟩
  · have hu1 : 1 ≤ n := by omega
    have hnd20 : nDigits n ≤ 20 := by have := numDigits_eq n hu1 hn; split at this <;> omega
    have hal : Tryd.prog.arrayLen 109 = 24 := by simp [Program.arrayLen, Tryd.underlying109]
    have hsl : ∀ W, (Instr.sliceAt 109 (.pointer (some ⟨w.heap.size, 0, none⟩)) none (some (.int .i64 (nDigits n : Int))) none).run Tryd.prog W = .ok (.slice (some ⟨w.heap.size, 0, none⟩) (nDigits n) 24) W := fun W => by
      rw [run_sliceAt_array_h W 109 ⟨w.heap.size, 0, none⟩ (by simp [Program.arrayLen, Program.elem, Tryd.underlying109]) .i64 (nDigits n : Int) (by omega) (by rw [hal]; omega)]
      go_simp
    have hH0 := holds_zero0 w 109 (nDigits n) (by omega)
    have hfmt := formatBase10_any w.heap.size 0 24 n (Array.replicate (nDigits n) 0) (w.alloc (.cells zeros24 109)) hH0 (by rw [Array.size_replicate]; exact lt_pow_nDigits n) hn (by rw [Array.size_replicate]; omega)
    rw [Array.size_replicate] at hfmt
    have HH0 := Lib.hid hH0
    have iu : (100 : Int) ≤ (n : Int) := by omega
    clear hH0 hal
    go_enter Tryd.func44, Tryd.ntmps44
    go_wp2_with (first
      | (go_at_call 49; refine (numDigits_any n hu1 hn _ (tabIs_alloc htab _)).mono ?_; rintro e w' ⟨rfl, rfl⟩))
    go_at_call 50
    refine hfmt.mono ?_
    rintro e w' ⟨rfl, k, v', dk, rfl, hF⟩
    have hcv : (convert 68 9 (.slice (some ⟨w.heap.size, 0, none⟩) (nDigits n) 24)).run Tryd.prog ((putRow (fun (b : UInt8) => Value.int .u8 (b.toNat : Int)) (w.alloc (.cells zeros24 109)) w.heap.size 0 dk).drewN k) = .ok (.string ⟨(decDigits n).toArray⟩) ((putRow (fun (b : UInt8) => Value.int .u8 (b.toNat : Int)) (w.alloc (.cells zeros24 109)) w.heap.size 0 dk).drewN k) := by
      have h := run_convert_bytes_back (P := Tryd.prog) ((putRow (fun (b : UInt8) => Value.int .u8 (b.toNat : Int)) (w.alloc (.cells zeros24 109)) w.heap.size 0 dk).drewN k) 68 9 5 ⟨w.heap.size, 0, none⟩ 24 (decDigits n) Tryd.underlying68 Tryd.underlying5 Tryd.underlying9 (fun j hj => by
        rw [row_is_numeral hF j hj, add_plain, World.cell?_drewN]
        exact cell?_putRow (fun (b : UInt8) => Value.int .u8 (b.toNat : Int)) _ w.heap.size 0 _ dk HH0.out (by rw [hF.size, Array.size_replicate]) j (by rw [hF.size]; rw [decDigits_length] at hj; exact hj))
      rw [decDigits_length] at h
      exact h
    go_wp2
    go_ret
    obtain ⟨os, eo⟩ := fin_at w (.cells zeros24 109) dk k 0
    exact ⟨rfl, by rw [eo]; exact below_grow _ _ (Nat.le_refl _) _ _⟩
set_option maxRecDepth 100000 in
/-- strconv.FormatUint at base 10. -/
theorem formatUint_any (n : Nat) (hn : n < 18446744073709551616) (w : World) (htab : PowTab w) :
    Calls Tryd.prog 37 #[.int .u64 n, .int .i64 10] w fun e w' => e = .returned (.string (dec n)) ∧ Below w.heap.size w w' := by
  go_enter Tryd.func37, Tryd.ntmps37
  go_wp2_with (go_at_call 44; refine (formatUint_in n hn _ htab).mono ?_; rintro e w' ⟨rfl, hb⟩)
  go_ret
  exact ⟨rfl, hb⟩
set_option maxRecDepth 100000 in
theorem strver_any (n : Nat) (hn : n < 256) (w : World) (htab : PowTab w) :
    Calls Tryd.prog 34 #[.int .u8 n] w fun e w' => e = .returned (.string (dec n)) ∧ Below w.heap.size w w' := by
  go_enter Tryd.func34, Tryd.ntmps34
  go_wp2_with (go_at_call 37; refine (formatUint_any n (by omega) _ htab).mono ?_; rintro e w' ⟨rfl, hb⟩)
  go_ret
  exact ⟨rfl, hb⟩
end Go.Proofs.YtkddkmiomhadaaaDoor
