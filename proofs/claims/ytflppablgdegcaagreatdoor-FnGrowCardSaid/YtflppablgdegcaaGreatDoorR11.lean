/- Joined: Sg, Mo. -/
import Derived.Test.YtflppablgdegcaaGreatDoorR05
import Derived.Test.YtflppablgdegcaaGreatDoorR06
import Derived.Test.YtflppablgdegcaaGreatDoorR10
set_option maxRecDepth 100000
set_option maxHeartbeats 8000000
namespace Go.Proofs.YtflppablgdegcaaGreatDoor
open Go.RowKit

theorem keyOf_any (n : Nat) (hn : n < 4294967296) (w : World) : Calls Tryz.prog 26 #[.int .u32 n] w fun e w' => ∃ v, e = .returned v ∧ Below w.heap.size w w' ∧ ∃ k, (∀ y, k = some y → KeyOk y) ∧ PtrTo 106 (k.map Ky.cells) v w' := by
 refine calls_of_ev Tryz.func26 rfl (show 1 ≤ 40 from by decide) fun a hE => ?_
 have hE : Ev 40 ((0, .int .u32 ((n : Nat) : Int)) :: []) a := hE
 have Z : Sv 40 ((0, .int .u32 ((n : Nat) : Int)) :: []) [] (fun _ => False) w a w := Sv.start hE _ _
 clear hE
 refine wr (sv_r (v := .pointer none) Z ex_ac fun a Z => Z.nx [2, 0] rfl fun Z => sh (wp_seq (wr (sv_r (v := .int .u32 ((n : Nat) : Int)) Z (ex_mv (Z.g 0 rfl)) fun a Z => sv_r (v := .int .u32 ((n % 4 : Nat) : Int)) Z (ni_rem 4 (Z.g 3 rfl) rfl (by decide)) fun a Z => Z.nx [4, 2, 0] rfl fun Z => sh (wp_block (wr ?_))))))
 refine sv_r (v := .bool (decide ((n % 4 : Nat) = 0))) Z (ei_eql (Z.g 4 rfl) rfl (by rw [decide_eq_decide]; omega)) fun a Z => sv_r Z (ex_as (Z.g 6 rfl)) fun a Z => Z.nx [5, 4, 2, 0] rfl fun Z => sh ?_
 refine wp_cond_split (Z.g 5 rfl) (fun hb1 => ?_) (fun hb1 => ?_)
 ·have hb1 := of_decide_eq_true hb1
  refine wr ?_
  refine sv_r (v := .agg #[.string (⟨#[78, 79, 78, 69]⟩), .string ⟨#[]⟩, .string ⟨#[]⟩, .string ⟨#[]⟩, .string ⟨#[]⟩]) Z (by simp only [execOp, List.map_toArray, List.map_cons, List.map_nil, ]; go_simp) fun a Z => sv_box Z (Z.g 7 rfl) (bx_spec_Key _) (by decide) fun g2 a w3 hg2 hbw3 hwg2 Z => sv_r Z (ex_as (Z.g 8 rfl)) fun a Z => Z.nx [2, 5, 4, 0] rfl fun Z => sh (wp_ret ?_)
  try simp only [Exit.inBlock, Exit.then]
  exact ret_of_ev Z.ev rfl (Z.g 2 rfl) ⟨_, rfl, Z.toBelow, some ⟨((⟨#[78, 79, 78, 69]⟩)), (⟨#[]⟩), (⟨#[]⟩), (⟨#[]⟩), (⟨#[]⟩)⟩, (by intro y hy; obtain rfl := Option.some.inj hy; exact .inl rfl), .new (Z.at 0 rfl)⟩
 ·have hb1 := of_decide_eq_false hb1
  refine wr ?_
  refine sv_r (v := .bool (decide ((n % 4 : Nat) = 1))) Z (ei_eql (Z.g 4 rfl) rfl (by rw [decide_eq_decide]; omega)) fun a Z => sv_r Z (ex_as (Z.g 10 rfl)) fun a Z => Z.nx [9, 5, 4, 2, 0] rfl fun Z => sh ?_
  refine wp_cond_split (Z.g 9 rfl) (fun hb4 => ?_) (fun hb4 => ?_)
  ·have hb4 := of_decide_eq_true hb4
   refine wr (sv_r (v := .int .u32 ((n : Nat) : Int)) Z (ex_mv (Z.g 0 rfl)) fun a Z => ?_)
   refine sv_r (v := .int .u32 ((n / 4 : Nat) : Int)) Z (ni_shr 2 (Z.g 11 rfl) rfl (by simp only [IntKind.bits]; omega) rfl) fun a Z => ?_
   have hlt := Z.lt
   have hsz := Z.size
   refine sv_call (S := fun v w' => ∃ u, IsUri u ∧ v = .string u) Z rfl rfl (by decide) (ex_call1 cf_laws_uriOf (Z.g 12 rfl)) (Calls.mono (uriOf_any (n / 4) _ (by omega)) (by rintro e w' ⟨u, hu, rfl, rfl⟩; exact ⟨_, rfl, Below.refl _ _, u, hu, rfl⟩)) ?_
   rintro a _ w5 ⟨u, hu, rfl⟩ hbw5 Z
   have huz := hu.size
   refine sv_r (v := .agg #[.string (⟨#[65, 69, 83, 45, 49, 50, 56]⟩), .string u, .string ⟨#[]⟩, .string ⟨#[]⟩, .string ⟨#[]⟩]) Z (by simp only [execOp, List.map_toArray, List.map_cons, List.map_nil, Z.g 13 rfl]; go_simp) fun a Z => sv_box Z (Z.g 14 rfl) (bx_spec_Key _) (by decide) fun g6 a w7 hg6 hbw7 hwg6 Z => sv_r Z (ex_as (Z.g 15 rfl)) fun a Z => Z.nx [2, 9, 5, 4, 0] rfl fun Z => sh (wp_ret ?_)
   try simp only [Exit.inBlock, Exit.then]
   exact ret_of_ev Z.ev rfl (Z.g 2 rfl) ⟨_, rfl, Z.toBelow, some ⟨((⟨#[65, 69, 83, 45, 49, 50, 56]⟩)), (u), (⟨#[]⟩), (⟨#[]⟩), (⟨#[]⟩)⟩, (by intro y hy; obtain rfl := Option.some.inj hy; exact .inr (.inl ⟨u, hu, rfl⟩)), .new (Z.at 0 rfl)⟩
  ·have hb4 := of_decide_eq_false hb4
   refine wr ?_
   refine sv_r (v := .bool (decide ((n % 4 : Nat) = 2))) Z (ei_eql (Z.g 4 rfl) rfl (by rw [decide_eq_decide]; omega)) fun a Z => sv_r Z (ex_as (Z.g 17 rfl)) fun a Z => Z.nx [16, 9, 5, 4, 2, 0] rfl fun Z => sh ?_
   refine wp_cond_split (Z.g 16 rfl) (fun hb8 => ?_) (fun hb8 => ?_)
   ·have hb8 := of_decide_eq_true hb8
    refine wr (sv_r (v := .int .u32 ((n : Nat) : Int)) Z (ex_mv (Z.g 0 rfl)) fun a Z => ?_)
    refine sv_r (v := .int .u32 ((n / 4 : Nat) : Int)) Z (ni_shr 2 (Z.g 18 rfl) rfl (by simp only [IntKind.bits]; omega) rfl) fun a Z => ?_
    have hlt := Z.lt
    have hsz := Z.size
    refine sv_call (S := fun v w' => ∃ u, IsUri u ∧ v = .string u) Z rfl rfl (by decide) (ex_call1 cf_laws_uriOf (Z.g 19 rfl)) (Calls.mono (uriOf_any (n / 4) _ (by omega)) (by rintro e w' ⟨u, hu, rfl, rfl⟩; exact ⟨_, rfl, Below.refl _ _, u, hu, rfl⟩)) ?_
    rintro a _ w9 ⟨u, hu, rfl⟩ hbw9 Z
    have huz := hu.size
    refine sv_r (v := .int .u32 ((n : Nat) : Int)) Z (ex_mv (Z.g 0 rfl)) fun a Z => ?_
    refine sv_r (v := .int .u32 ((n / 32 : Nat) : Int)) Z (ni_shr 5 (Z.g 21 rfl) rfl (by simp only [IntKind.bits]; omega) rfl) fun a Z => ?_
    refine sv_r (v := .int .u64 ((n / 32 : Nat) : Int)) Z (ex_cv (Z.g 22 rfl) (cv_uint32_uint64 _ (by rw [IntKind.wrap_u64]; omega))) fun a Z => ?_
    refine sv_callq (v := .string (dec (n / 32))) Z rfl rfl (by decide) (ex_call1 cf_spec_Decimal (Z.g 23 rfl)) (Calls.mono (decimal_any (n / 32) _ (by omega)) (by rintro e w' ⟨rfl, rfl⟩; exact ⟨rfl, rfl⟩)) fun a Z => ?_
    have hdd10 := dec_le (n := n / 32) (by omega)
    refine sv_r (v := .string ((⟨#[48, 120]⟩ : ByteArray) ++ (dec (n / 32)))) Z (ex_add rfl (Z.g 24 rfl) (by simp only [ByteArray.size_append', ByteArray.size_mk', List.size_toArray, List.length_cons, List.length_nil]; omega)) fun a Z => sv_r (v := .int .u32 ((n : Nat) : Int)) Z (ex_mv (Z.g 0 rfl)) fun a Z => ?_
    refine sv_r (v := .int .u32 ((n / 128 : Nat) : Int)) Z (ni_shr 7 (Z.g 26 rfl) rfl (by simp only [IntKind.bits]; omega) rfl) fun a Z => sv_r (v := .int .u32 ((n / 128 % 9 : Nat) : Int)) Z (ni_rem 9 (Z.g 27 rfl) rfl (by decide)) fun a Z => ?_
    refine sv_r (v := .int .u64 ((n / 128 % 9 : Nat) : Int)) Z (ex_cv (Z.g 28 rfl) (cv_uint32_uint64 _ (by rw [IntKind.wrap_u64]; omega))) fun a Z => ?_
    refine sv_callq (v := .string (dec (n / 128 % 9))) Z rfl rfl (by decide) (ex_call1 cf_spec_Decimal (Z.g 29 rfl)) (Calls.mono (decimal_any (n / 128 % 9) _ (by omega)) (by rintro e w' ⟨rfl, rfl⟩; exact ⟨rfl, rfl⟩)) fun a Z => ?_
    have hdd11 := dec_le (n := n / 128 % 9) (by omega)
    refine sv_r (v := .string ((⟨#[99, 111, 109, 46, 102]⟩ : ByteArray) ++ (dec (n / 128 % 9)))) Z (ex_add rfl (Z.g 30 rfl) (by simp only [ByteArray.size_append', ByteArray.size_mk', List.size_toArray, List.length_cons, List.length_nil]; omega)) fun a Z => sv_r (v := .int .u32 ((n : Nat) : Int)) Z (ex_mv (Z.g 0 rfl)) fun a Z => ?_
    refine sv_r (v := .int .u32 ((n / 512 : Nat) : Int)) Z (ni_shr 9 (Z.g 32 rfl) rfl (by simp only [IntKind.bits]; omega) rfl) fun a Z => sv_r (v := .int .u32 ((n / 512 % 9 : Nat) : Int)) Z (ni_rem 9 (Z.g 33 rfl) rfl (by decide)) fun a Z => ?_
    refine sv_r (v := .int .u64 ((n / 512 % 9 : Nat) : Int)) Z (ex_cv (Z.g 34 rfl) (cv_uint32_uint64 _ (by rw [IntKind.wrap_u64]; omega))) fun a Z => ?_
    refine sv_callq (v := .string (dec (n / 512 % 9))) Z rfl rfl (by decide) (ex_call1 cf_spec_Decimal (Z.g 35 rfl)) (Calls.mono (decimal_any (n / 512 % 9) _ (by omega)) (by rintro e w' ⟨rfl, rfl⟩; exact ⟨rfl, rfl⟩)) fun a Z => ?_
    have hdd12 := dec_le (n := n / 512 % 9) (by omega)
    refine sv_r (v := .string ((⟨#[49, 47]⟩ : ByteArray) ++ (dec (n / 512 % 9)))) Z (ex_add rfl (Z.g 36 rfl) (by simp only [ByteArray.size_append', ByteArray.size_mk', List.size_toArray, List.length_cons, List.length_nil]; omega)) fun a Z => ?_
    refine sv_r (v := .agg #[.string (⟨#[83, 65, 77, 80, 76, 69, 45, 65, 69, 83]⟩), .string u, .string ((⟨#[48, 120]⟩ : ByteArray) ++ (dec (n / 32))), .string ((⟨#[99, 111, 109, 46, 102]⟩ : ByteArray) ++ (dec (n / 128 % 9))), .string ((⟨#[49, 47]⟩ : ByteArray) ++ (dec (n / 512 % 9)))]) Z (by simp only [execOp, List.map_toArray, List.map_cons, List.map_nil, Z.g 20 rfl, Z.g 25 rfl, Z.g 31 rfl, Z.g 37 rfl]; go_simp) fun a Z => sv_box Z (Z.g 38 rfl) (bx_spec_Key _) (by decide) fun g13 a w14 hg13 hbw14 hwg13 Z => sv_r Z (ex_as (Z.g 39 rfl)) fun a Z => Z.nx [2, 16, 9, 5, 4, 0] rfl fun Z => sh (wp_ret ?_)
    try simp only [Exit.inBlock, Exit.then]
    exact ret_of_ev Z.ev rfl (Z.g 2 rfl) ⟨_, rfl, Z.toBelow, some ⟨((⟨#[83, 65, 77, 80, 76, 69, 45, 65, 69, 83]⟩)), (u), (((⟨#[48, 120]⟩ : ByteArray) ++ (dec (n / 32)))), (((⟨#[99, 111, 109, 46, 102]⟩ : ByteArray) ++ (dec (n / 128 % 9)))), (((⟨#[49, 47]⟩ : ByteArray) ++ (dec (n / 512 % 9))))⟩, (by intro y hy; obtain rfl := Option.some.inj hy; exact .inr (.inr ⟨u, n / 32, n / 128 % 9, n / 512 % 9, hu, (by omega), (by omega), (by omega), rfl⟩)), .new (Z.at 0 rfl)⟩
   ·have hb8 := of_decide_eq_false hb8
    refine wp_skip (sh (wr (sv_r (v := .pointer none) Z ex_ac fun a Z => Z.nx [2, 16, 9, 5, 4, 0] rfl fun Z => sh (wp_ret ?_))))
    try simp only [Exit.inBlock, Exit.then]
    exact ret_of_ev Z.ev rfl (Z.g 2 rfl) ⟨_, rfl, Z.toBelow, none, (by intro y hy; cases hy), .nil⟩
theorem mapOf_any (n : Nat) (hn : n < 4294967296) (w : World) : Calls Tryz.prog 27 #[.int .u32 n] w fun e w' => ∃ v, e = .returned v ∧ Below w.heap.size w w' ∧ ∃ k, (∀ y, k = some y → MapOk y) ∧ PtrTo 109 (k.map Mp.cells) v w' := by
 refine calls_of_ev Tryz.func27 rfl (show 1 ≤ 26 from by decide) fun a hE => ?_
 have hE : Ev 26 ((0, .int .u32 ((n : Nat) : Int)) :: []) a := hE
 have Z : Sv 26 ((0, .int .u32 ((n : Nat) : Int)) :: []) [] (fun _ => False) w a w := Sv.start hE _ _
 clear hE
 refine wr (sv_r (v := .pointer none) Z ex_ac fun a Z => Z.nx [2, 0] rfl fun Z => sh (wp_seq (wr (sv_r (v := .int .u32 ((n : Nat) : Int)) Z (ex_mv (Z.g 0 rfl)) fun a Z => sv_r (v := .int .u32 ((n % 3 : Nat) : Int)) Z (ni_rem 3 (Z.g 3 rfl) rfl (by decide)) fun a Z => Z.nx [4, 2, 0] rfl fun Z => sh (wp_block (wr ?_))))))
 refine sv_r (v := .bool (decide ((n % 3 : Nat) = 0))) Z (ei_eql (Z.g 4 rfl) rfl (by rw [decide_eq_decide]; omega)) fun a Z => sv_r Z (ex_as (Z.g 6 rfl)) fun a Z => Z.nx [5, 4, 2, 0] rfl fun Z => sh ?_
 refine wp_cond_split (Z.g 5 rfl) (fun hb1 => ?_) (fun hb1 => ?_)
 ·have hb1 := of_decide_eq_true hb1
  refine wr (sv_r (v := .int .u32 ((n : Nat) : Int)) Z (ex_mv (Z.g 0 rfl)) fun a Z => ?_)
  refine sv_r (v := .int .u32 ((n / 4 : Nat) : Int)) Z (ni_shr 2 (Z.g 7 rfl) rfl (by simp only [IntKind.bits]; omega) rfl) fun a Z => ?_
  have hlt := Z.lt
  have hsz := Z.size
  refine sv_call (S := fun v w' => ∃ u, IsUri u ∧ v = .string u) Z rfl rfl (by decide) (ex_call1 cf_laws_uriOf (Z.g 8 rfl)) (Calls.mono (uriOf_any (n / 4) _ (by omega)) (by rintro e w' ⟨u, hu, rfl, rfl⟩; exact ⟨_, rfl, Below.refl _ _, u, hu, rfl⟩)) ?_
  rintro a _ w2 ⟨u, hu, rfl⟩ hbw2 Z
  have huz := hu.size
  refine sv_r (v := .agg #[.string u, .int .i64 0, .int .i64 0]) Z (by simp only [execOp, List.map_toArray, List.map_cons, List.map_nil, Z.g 9 rfl]; go_simp) fun a Z => sv_box Z (Z.g 10 rfl) (bx_spec_Map _) (by decide) fun g3 a w4 hg3 hbw4 hwg3 Z => sv_r Z (ex_as (Z.g 11 rfl)) fun a Z => Z.nx [2, 5, 4, 0] rfl fun Z => sh (wp_ret ?_)
  try simp only [Exit.inBlock, Exit.then]
  exact ret_of_ev Z.ev rfl (Z.g 2 rfl) ⟨_, rfl, Z.toBelow, some ⟨u, 0, 0⟩, (by intro y hy; obtain rfl := Option.some.inj hy; exact ⟨hu, .inl ⟨rfl, rfl⟩⟩), .new (Z.at 0 rfl)⟩
 ·have hb1 := of_decide_eq_false hb1
  refine wr ?_
  refine sv_r (v := .bool (decide ((n % 3 : Nat) = 1))) Z (ei_eql (Z.g 4 rfl) rfl (by rw [decide_eq_decide]; omega)) fun a Z => sv_r Z (ex_as (Z.g 13 rfl)) fun a Z => Z.nx [12, 5, 4, 2, 0] rfl fun Z => sh ?_
  refine wp_cond_split (Z.g 12 rfl) (fun hb5 => ?_) (fun hb5 => ?_)
  ·have hb5 := of_decide_eq_true hb5
   refine wr (sv_r (v := .int .u32 ((n : Nat) : Int)) Z (ex_mv (Z.g 0 rfl)) fun a Z => ?_)
   refine sv_r (v := .int .u32 ((n / 4 : Nat) : Int)) Z (ni_shr 2 (Z.g 14 rfl) rfl (by simp only [IntKind.bits]; omega) rfl) fun a Z => ?_
   have hlt := Z.lt
   have hsz := Z.size
   refine sv_call (S := fun v w' => ∃ u, IsUri u ∧ v = .string u) Z rfl rfl (by decide) (ex_call1 cf_laws_uriOf (Z.g 15 rfl)) (Calls.mono (uriOf_any (n / 4) _ (by omega)) (by rintro e w' ⟨u, hu, rfl, rfl⟩; exact ⟨_, rfl, Below.refl _ _, u, hu, rfl⟩)) ?_
   rintro a _ w6 ⟨u, hu, rfl⟩ hbw6 Z
   have huz := hu.size
   refine sv_r (v := .int .u32 ((n : Nat) : Int)) Z (ex_mv (Z.g 0 rfl)) fun a Z => ?_
   refine sv_r (v := .int .u32 ((n / 8 : Nat) : Int)) Z (ni_shr 3 (Z.g 17 rfl) rfl (by simp only [IntKind.bits]; omega) rfl) fun a Z => ?_
   refine sv_r (v := .int .i64 ((n / 8 : Nat) : Int)) Z (ex_cv (Z.g 18 rfl) (cv_uint32_int64 _ (by rw [IntKind.wrap_i64]; omega))) fun a Z => ?_
   refine sv_r (v := .int .i64 ((1 + (n / 8) : Nat) : Int)) Z (ei_add rfl (Z.g 19 rfl) (by rw [IntKind.wrap_i64]; omega)) fun a Z => sv_r (v := .int .u32 ((n : Nat) : Int)) Z (ex_mv (Z.g 0 rfl)) fun a Z => ?_
   refine sv_r (v := .int .u32 ((n / 128 : Nat) : Int)) Z (ni_shr 7 (Z.g 21 rfl) rfl (by simp only [IntKind.bits]; omega) rfl) fun a Z => ?_
   refine sv_r (v := .int .i64 ((n / 128 : Nat) : Int)) Z (ex_cv (Z.g 22 rfl) (cv_uint32_int64 _ (by rw [IntKind.wrap_i64]; omega))) fun a Z => ?_
   refine sv_r (v := .agg #[.string u, .int .i64 ((1 + (n / 8) : Nat) : Int), .int .i64 ((n / 128 : Nat) : Int)]) Z (by simp only [execOp, List.map_toArray, List.map_cons, List.map_nil, Z.g 16 rfl, Z.g 20 rfl, Z.g 23 rfl]; go_simp) fun a Z => sv_box Z (Z.g 24 rfl) (bx_spec_Map _) (by decide) fun g7 a w8 hg7 hbw8 hwg7 Z => sv_r Z (ex_as (Z.g 25 rfl)) fun a Z => Z.nx [2, 12, 5, 4, 0] rfl fun Z => sh (wp_ret ?_)
   try simp only [Exit.inBlock, Exit.then]
   exact ret_of_ev Z.ev rfl (Z.g 2 rfl) ⟨_, rfl, Z.toBelow, some ⟨u, 1 + n / 8, n / 128⟩, (by intro y hy; obtain rfl := Option.some.inj hy; exact ⟨hu, .inr ⟨by show 1 ≤ 1 + n / 8; omega, by show 1 + n / 8 ≤ 4294967296; omega, by show n / 128 < 4294967296; omega⟩⟩), .new (Z.at 0 rfl)⟩
  ·have hb5 := of_decide_eq_false hb5
   refine wp_skip (sh (wr (sv_r (v := .pointer none) Z ex_ac fun a Z => Z.nx [2, 12, 5, 4, 0] rfl fun Z => sh (wp_ret ?_))))
   try simp only [Exit.inBlock, Exit.then]
   exact ret_of_ev Z.ev rfl (Z.g 2 rfl) ⟨_, rfl, Z.toBelow, none, (by intro y hy; cases hy), .nil⟩
theorem segmentOf_any (n : Nat) (hn : n < 4294967296) (w : World) : Calls Tryz.prog 11 #[.int .u32 n] w fun e w' => ∃ v, e = .returned v ∧ Below w.heap.size w w' ∧ ∃ x : Sx, v = .agg x.cells ∧ SegOk x.1 ∧ x.At w' := by
 refine calls_of_ev Tryz.func11 rfl (show 1 ≤ 66 from by decide) fun a hE => ?_
 have hE : Ev 66 ((0, .int .u32 ((n : Nat) : Int)) :: []) a := hE
 have Z : Sv 66 ((0, .int .u32 ((n : Nat) : Int)) :: []) [] (fun _ => False) w a w := Sv.start hE _ _
 clear hE
 refine wr (sv_al Z al_spec_Segment (by decide) fun g1 a w2 hg1 hbw2 hwg1 Z => Z.nx [2, 0] rfl fun Z => sh (wr (sv_r (v := .int .u32 ((n : Nat) : Int)) Z (ex_mv (Z.g 0 rfl)) fun a Z => ?_)))
 have hlt := Z.lt
 have hsz := Z.size
 refine sv_call (S := fun v w' => ∃ u, IsUri u ∧ v = .string u) Z rfl rfl (by decide) (ex_call1 cf_laws_uriOf (Z.g 4 rfl)) (Calls.mono (uriOf_any (n) _ (by omega)) (by rintro e w' ⟨u, hu, rfl, rfl⟩; exact ⟨_, rfl, Below.refl _ _, u, hu, rfl⟩)) ?_
 rintro a _ w3 ⟨u, hu, rfl⟩ hbw3 Z
 have huz := hu.size
 refine sv_r (v := .int .u32 ((n : Nat) : Int)) Z (ex_mv (Z.g 0 rfl)) fun a Z => ?_
 refine sv_r (v := .int .u32 ((n / 16 : Nat) : Int)) Z (ni_shr 4 (Z.g 6 rfl) rfl (by simp only [IntKind.bits]; omega) rfl) fun a Z => sv_r (v := .int .u32 ((n / 16 % 160 : Nat) : Int)) Z (ni_rem 160 (Z.g 7 rfl) rfl (by decide)) fun a Z => ?_
 refine sv_r (v := .int .i64 ((n / 16 % 160 : Nat) : Int)) Z (ex_cv (Z.g 8 rfl) (cv_uint32_int _ (by rw [IntKind.wrap_i64]; omega))) fun a Z => sv_r (v := .int .u32 ((n : Nat) : Int)) Z (ex_mv (Z.g 0 rfl)) fun a Z => ?_
 refine sv_r (v := .int .u32 ((n / 2048 : Nat) : Int)) Z (ni_shr 11 (Z.g 10 rfl) rfl (by simp only [IntKind.bits]; omega) rfl) fun a Z => ?_
 refine sv_r (v := .int .u32 ((n / 2048 % 4 : Nat) : Int)) Z (ei_and (Z.g 11 rfl) rfl (by rw [u32_and3 (by omega) (by omega)]; omega)) fun a Z => ?_
 refine sv_r (v := .bool (decide ((n / 2048 % 4 : Nat) = 1))) Z (ei_eql (Z.g 12 rfl) rfl (by rw [decide_eq_decide]; omega)) fun a Z => ?_
 refine sv_r (v := .agg #[.string ⟨#[]⟩, .string u, .int .i64 ((n / 16 % 160 : Nat) : Int), .int .i64 0, .int .i64 0, .pointer none, .pointer none, .bool (decide ((n / 2048 % 4 : Nat) = 1)), .string ⟨#[]⟩]) Z (by simp only [execOp, List.map_toArray, List.map_cons, List.map_nil, Z.g 5 rfl, Z.g 9 rfl, Z.g 13 rfl]; go_simp) fun a Z => sv_al Z al_spec_Segment (by decide) fun g4 a w5 hg4 hbw5 hwg4 Z => ?_
 refine sv_sb (i := 0) Z ag_spec_Segment (Z.g 3 rfl) (Z.g 14 rfl) rfl rfl rfl (by intro u hu; simp only [List.mem_cons, List.not_mem_nil, or_false] at hu; rcases hu with rfl | rfl | rfl | rfl | rfl | rfl | rfl | rfl | rfl <;> rfl) rfl fun w6 hty Z => Z.nx [3, 2, 0] rfl fun Z => ?_
 obtain ⟨x0, hx0, hA0, Z⟩ : ∃ x : Sx, SegOk x.1 ∧ x.At w6 ∧ Sv 66 ((3, pt g4 0) :: (2, pt g1 0) :: (0, .int .u32 ((n : Nat) : Int)) :: []) [⟨g4, x.cells, 50, true⟩, ⟨g1, #[.string ⟨#[]⟩, .string ⟨#[]⟩, .int .i64 0, .int .i64 0, .int .i64 0, .pointer none, .pointer none, .bool false, .string ⟨#[]⟩], 50, true⟩] (fun _ => False) w a w6 := ⟨(⟨⟨#[]⟩, u, n / 16 % 160, 0, 0, none, none, decide (n / 2048 % 4 = 1), ⟨#[]⟩⟩, .pointer none, .pointer none), ⟨word_nil rfl, hu, by show n / 16 % 160 < 160; omega, .inl ⟨rfl, rfl⟩, (by intro k hk; cases hk), (by intro k hk; cases hk), .inl rfl⟩, ⟨.nil, .nil⟩, Z⟩
 refine sh (wp_seq (wr (sv_r (v := .int .u32 ((n : Nat) : Int)) Z (ex_mv (Z.g 0 rfl)) fun a Z => ?_)))
 refine sv_r (v := .int .u32 ((n / 8192 : Nat) : Int)) Z (ni_shr 13 (Z.g 15 rfl) rfl (by simp only [IntKind.bits]; omega) rfl) fun a Z => ?_
 refine sv_r (v := .int .u32 ((n / 8192 % 2 : Nat) : Int)) Z (ei_and (Z.g 16 rfl) rfl (by rw [u32_and1 (by omega) (by omega)]; omega)) fun a Z => ?_
 refine sv_r (v := .bool (decide ((n / 8192 % 2 : Nat) = 1))) Z (ei_eql (Z.g 17 rfl) rfl (by rw [decide_eq_decide]; omega)) fun a Z => Z.nx [18, 3, 2, 0] rfl fun Z => sh ?_
 refine if_join (fun a w' => ∃ x : Sx, SegOk x.1 ∧ x.At w' ∧ Sv 66 ((3, pt g4 0) :: (2, pt g1 0) :: (0, .int .u32 ((n : Nat) : Int)) :: []) [⟨g4, x.cells, 50, true⟩, ⟨g1, #[.string ⟨#[]⟩, .string ⟨#[]⟩, .int .i64 0, .int .i64 0, .int .i64 0, .pointer none, .pointer none, .bool false, .string ⟨#[]⟩], 50, true⟩] (fun _ => False) w a w') (Z.g 18 rfl) ?_ ?_ ?_
 ·intro hb7 Q' hQ'
  have hb7 := of_decide_eq_true hb7
  refine wp_region_lit (sv_r (v := .int .u32 ((n : Nat) : Int)) Z (ex_mv (Z.g 0 rfl)) fun a Z => ?_)
  refine sv_r (v := .int .u32 ((n / 32768 : Nat) : Int)) Z (ni_shr 15 (Z.g 19 rfl) rfl (by simp only [IntKind.bits]; omega) rfl) fun a Z => ?_
  have hlt := Z.lt
  have hsz := Z.size
  refine sv_call (S := fun v w' => ∃ s, Word 20 s ∧ v = .string s) Z rfl rfl (by decide) (ex_call2 cf_laws_wordOf (Z.g 20 rfl) rfl) (Calls.mono (wordOf_any (n / 32768) 0 _ (by omega) (by omega)) (by rintro e w' ⟨u, hu, rfl, rfl⟩; exact ⟨_, rfl, Below.refl _ _, u, hu, rfl⟩)) ?_
  rintro a _ w8 ⟨t, ht, rfl⟩ hbw8 Z
  replace hA0 := hA0.ty (TyOnly.of_below (ts := []) hbw8) (by decide)
  refine sv_r (v := pt g4 0) Z (ex_fo (Z.g 3 rfl) (fo rfl) rfl) fun a Z => sv_st (i := 0) (v := .string t) (cs' := #[.string t, .string x0.1.uri, .int .i64 ((x0.1.e : Nat) : Int), .int .i64 ((x0.1.limit : Nat) : Int), .int .i64 ((x0.1.offset : Nat) : Int), x0.2.1, x0.2.2, .bool (x0.1.disc), .string x0.1.date]) Z (su_string _) (Z.g 22 rfl) (Z.g 21 rfl) rfl (show 0 < 9 from by decide) rfl rfl fun w9 hty Z => ?_
  replace hA0 := hA0.ty hty (by decide)
  refine Z.nx [18, 3, 2, 0] rfl fun Z => ?_
  refine hQ' _ _ ⟨({ x0.1 with title := t }, x0.2), ⟨ht, hx0.uri, hx0.e, hx0.part, hx0.key, hx0.map, hx0.date⟩, hA0, Z.pick rfl⟩
 ·intro hb7 Q' hQ'
  have hb7 := of_decide_eq_false hb7
  refine wp_skip ?_
  exact hQ' _ _ ⟨x0, hx0, hA0, Z.pick rfl⟩
 ·rintro a w10 ⟨x1, hx1, hA1, Z⟩
  refine sh (wp_seq (wr (sv_r (v := .int .u32 ((n : Nat) : Int)) Z (ex_mv (Z.g 0 rfl)) fun a Z => ?_)))
  refine sv_r (v := .int .u32 ((n / 16384 : Nat) : Int)) Z (ni_shr 14 (Z.g 23 rfl) rfl (by simp only [IntKind.bits]; omega) rfl) fun a Z => ?_
  refine sv_r (v := .int .u32 ((n / 16384 % 4 : Nat) : Int)) Z (ei_and (Z.g 24 rfl) rfl (by rw [u32_and3 (by omega) (by omega)]; omega)) fun a Z => ?_
  refine sv_r (v := .bool (decide ((n / 16384 % 4 : Nat) = 1))) Z (ei_eql (Z.g 25 rfl) rfl (by rw [decide_eq_decide]; omega)) fun a Z => Z.nx [26, 3, 2, 0] rfl fun Z => sh ?_
  refine if_join (fun a w' => ∃ x : Sx, SegOk x.1 ∧ x.At w' ∧ Sv 66 ((3, pt g4 0) :: (2, pt g1 0) :: (0, .int .u32 ((n : Nat) : Int)) :: []) [⟨g4, x.cells, 50, true⟩, ⟨g1, #[.string ⟨#[]⟩, .string ⟨#[]⟩, .int .i64 0, .int .i64 0, .int .i64 0, .pointer none, .pointer none, .bool false, .string ⟨#[]⟩], 50, true⟩] (fun _ => False) w a w') (Z.g 26 rfl) ?_ ?_ ?_
  ·intro hb11 Q' hQ'
   have hb11 := of_decide_eq_true hb11
   refine wp_region_lit (sv_r (v := .int .u32 ((n : Nat) : Int)) Z (ex_mv (Z.g 0 rfl)) fun a Z => ?_)
   refine sv_r (v := .int .u32 ((n / 32 : Nat) : Int)) Z (ni_shr 5 (Z.g 27 rfl) rfl (by simp only [IntKind.bits]; omega) rfl) fun a Z => ?_
   refine sv_r (v := .int .i64 ((n / 32 : Nat) : Int)) Z (ex_cv (Z.g 28 rfl) (cv_uint32_int64 _ (by rw [IntKind.wrap_i64]; omega))) fun a Z => ?_
   refine sv_r (v := .int .i64 ((1 + (n / 32) : Nat) : Int)) Z (ei_add rfl (Z.g 29 rfl) (by rw [IntKind.wrap_i64]; omega)) fun a Z => sv_r (v := .int .u32 ((n : Nat) : Int)) Z (ex_mv (Z.g 0 rfl)) fun a Z => ?_
   refine sv_r (v := .int .u32 ((n / 512 : Nat) : Int)) Z (ni_shr 9 (Z.g 31 rfl) rfl (by simp only [IntKind.bits]; omega) rfl) fun a Z => ?_
   refine sv_r (v := .int .i64 ((n / 512 : Nat) : Int)) Z (ex_cv (Z.g 32 rfl) (cv_uint32_int64 _ (by rw [IntKind.wrap_i64]; omega))) fun a Z => sv_r (v := pt g4 3) Z (ex_fo (Z.g 3 rfl) (fo rfl) rfl) fun a Z => sv_st (i := 0) (v := .int .i64 ((1 + (n / 32) : Nat) : Int)) (cs' := #[.string x1.1.title, .string x1.1.uri, .int .i64 ((x1.1.e : Nat) : Int), .int .i64 ((1 + (n / 32) : Nat) : Int), .int .i64 ((x1.1.offset : Nat) : Int), x1.2.1, x1.2.2, .bool (x1.1.disc), .string x1.1.date]) Z (su_int64 _) (Z.g 34 rfl) (Z.g 30 rfl) rfl (show 3 < 9 from by decide) rfl rfl fun w12 hty Z => ?_
   replace hA1 := hA1.ty hty (by decide)
   refine sv_r (v := pt g4 4) Z (ex_fo (Z.g 3 rfl) (fo rfl) rfl) fun a Z => sv_st (i := 0) (v := .int .i64 ((n / 512 : Nat) : Int)) (cs' := #[.string x1.1.title, .string x1.1.uri, .int .i64 ((x1.1.e : Nat) : Int), .int .i64 ((1 + (n / 32) : Nat) : Int), .int .i64 ((n / 512 : Nat) : Int), x1.2.1, x1.2.2, .bool (x1.1.disc), .string x1.1.date]) Z (su_int64 _) (Z.g 35 rfl) (Z.g 33 rfl) rfl (show 4 < 9 from by decide) rfl rfl fun w13 hty Z => ?_
   replace hA1 := hA1.ty hty (by decide)
   refine Z.nx [26, 3, 2, 0] rfl fun Z => ?_
   refine hQ' _ _ ⟨({ x1.1 with limit := 1 + n / 32, offset := n / 512 }, x1.2), ⟨hx1.title, hx1.uri, hx1.e, .inr ⟨by show 1 ≤ 1 + n / 32; omega, by show 1 + n / 32 ≤ 4294967296; omega, by show n / 512 < 4294967296; omega⟩, hx1.key, hx1.map, hx1.date⟩, hA1, Z.pick rfl⟩
  ·intro hb11 Q' hQ'
   have hb11 := of_decide_eq_false hb11
   refine wp_skip ?_
   exact hQ' _ _ ⟨x1, hx1, hA1, Z.pick rfl⟩
  ·rintro a w14 ⟨x2, hx2, hA2, Z⟩
   refine sh (wp_seq (wr (sv_r (v := .int .u32 ((n : Nat) : Int)) Z (ex_mv (Z.g 0 rfl)) fun a Z => ?_)))
   refine sv_r (v := .int .u32 ((n / 65536 : Nat) : Int)) Z (ni_shr 16 (Z.g 36 rfl) rfl (by simp only [IntKind.bits]; omega) rfl) fun a Z => ?_
   refine sv_r (v := .int .u32 ((n / 65536 % 4 : Nat) : Int)) Z (ei_and (Z.g 37 rfl) rfl (by rw [u32_and3 (by omega) (by omega)]; omega)) fun a Z => ?_
   refine sv_r (v := .bool (decide ((n / 65536 % 4 : Nat) = 1))) Z (ei_eql (Z.g 38 rfl) rfl (by rw [decide_eq_decide]; omega)) fun a Z => Z.nx [39, 3, 2, 0] rfl fun Z => sh ?_
   refine if_join (fun a w' => ∃ x : Sx, SegOk x.1 ∧ x.At w' ∧ Sv 66 ((3, pt g4 0) :: (2, pt g1 0) :: (0, .int .u32 ((n : Nat) : Int)) :: []) [⟨g4, x.cells, 50, true⟩, ⟨g1, #[.string ⟨#[]⟩, .string ⟨#[]⟩, .int .i64 0, .int .i64 0, .int .i64 0, .pointer none, .pointer none, .bool false, .string ⟨#[]⟩], 50, true⟩] (fun _ => False) w a w') (Z.g 39 rfl) ?_ ?_ ?_
   ·intro hb15 Q' hQ'
    have hb15 := of_decide_eq_true hb15
    refine wp_region_lit (sv_r (v := .int .u32 ((n : Nat) : Int)) Z (ex_mv (Z.g 0 rfl)) fun a Z => ?_)
    refine sv_r (v := .int .u32 ((n / 262144 : Nat) : Int)) Z (ni_shr 18 (Z.g 40 rfl) rfl (by simp only [IntKind.bits]; omega) rfl) fun a Z => ?_
    have hlt := Z.lt
    have hsz := Z.size
    refine sv_call (S := fun v w' => ∃ k, (∀ y, k = some y → KeyOk y) ∧ PtrTo 106 (k.map Ky.cells) v w') Z rfl rfl (by decide) (ex_call1 cf_laws_keyOf (Z.g 41 rfl)) (keyOf_any (n / 262144) (by omega) _) ?_
    rintro a vk w16 ⟨ky, hky, hkp⟩ hbw16 Z
    replace hA2 := hA2.ty (TyOnly.of_below (ts := []) hbw16) (by decide)
    have hst : St 25 vk := by rcases hkp with ⟨_, rfl⟩ | ⟨g, _, _, rfl, _⟩ <;> exact su_p_spec_Key _
    refine sv_r (v := pt g4 5) Z (ex_fo (Z.g 3 rfl) (fo rfl) rfl) fun a Z => sv_st (i := 0) (v := vk) (cs' := #[.string x2.1.title, .string x2.1.uri, .int .i64 ((x2.1.e : Nat) : Int), .int .i64 ((x2.1.limit : Nat) : Int), .int .i64 ((x2.1.offset : Nat) : Int), vk, x2.2.2, .bool (x2.1.disc), .string x2.1.date]) Z hst (Z.g 43 rfl) (Z.g 42 rfl) rfl (show 5 < 9 from by decide) rfl rfl fun w17 hty Z => ?_
    replace hA2 := hA2.ty hty (by decide)
    replace hkp := hkp.ty hty (by decide)
    refine Z.nx [39, 3, 2, 0] rfl fun Z => ?_
    refine hQ' _ _ ⟨({ x2.1 with key := ky }, (vk, x2.2.2)), ⟨hx2.title, hx2.uri, hx2.e, hx2.part, hky, hx2.map, hx2.date⟩, ⟨hkp, hA2.2⟩, Z.pick rfl⟩
   ·intro hb15 Q' hQ'
    have hb15 := of_decide_eq_false hb15
    refine wp_skip ?_
    exact hQ' _ _ ⟨x2, hx2, hA2, Z.pick rfl⟩
   ·rintro a w18 ⟨x3, hx3, hA3, Z⟩
    refine sh (wp_seq (wr (sv_r (v := .int .u32 ((n : Nat) : Int)) Z (ex_mv (Z.g 0 rfl)) fun a Z => ?_)))
    refine sv_r (v := .int .u32 ((n / 131072 : Nat) : Int)) Z (ni_shr 17 (Z.g 44 rfl) rfl (by simp only [IntKind.bits]; omega) rfl) fun a Z => ?_
    refine sv_r (v := .int .u32 ((n / 131072 % 4 : Nat) : Int)) Z (ei_and (Z.g 45 rfl) rfl (by rw [u32_and3 (by omega) (by omega)]; omega)) fun a Z => ?_
    refine sv_r (v := .bool (decide ((n / 131072 % 4 : Nat) = 1))) Z (ei_eql (Z.g 46 rfl) rfl (by rw [decide_eq_decide]; omega)) fun a Z => Z.nx [47, 3, 2, 0] rfl fun Z => sh ?_
    refine if_join (fun a w' => ∃ x : Sx, SegOk x.1 ∧ x.At w' ∧ Sv 66 ((3, pt g4 0) :: (2, pt g1 0) :: (0, .int .u32 ((n : Nat) : Int)) :: []) [⟨g4, x.cells, 50, true⟩, ⟨g1, #[.string ⟨#[]⟩, .string ⟨#[]⟩, .int .i64 0, .int .i64 0, .int .i64 0, .pointer none, .pointer none, .bool false, .string ⟨#[]⟩], 50, true⟩] (fun _ => False) w a w') (Z.g 47 rfl) ?_ ?_ ?_
    ·intro hb19 Q' hQ'
     have hb19 := of_decide_eq_true hb19
     refine wp_region_lit (sv_r (v := .int .u32 ((n : Nat) : Int)) Z (ex_mv (Z.g 0 rfl)) fun a Z => ?_)
     refine sv_r (v := .int .u32 ((n / 524288 : Nat) : Int)) Z (ni_shr 19 (Z.g 48 rfl) rfl (by simp only [IntKind.bits]; omega) rfl) fun a Z => ?_
     have hlt := Z.lt
     have hsz := Z.size
     refine sv_call (S := fun v w' => ∃ k, (∀ y, k = some y → MapOk y) ∧ PtrTo 109 (k.map Mp.cells) v w') Z rfl rfl (by decide) (ex_call1 cf_laws_mapOf (Z.g 49 rfl)) (mapOf_any (n / 524288) (by omega) _) ?_
     rintro a vk w20 ⟨ky, hky, hkp⟩ hbw20 Z
     replace hA3 := hA3.ty (TyOnly.of_below (ts := []) hbw20) (by decide)
     have hst : St 26 vk := by rcases hkp with ⟨_, rfl⟩ | ⟨g, _, _, rfl, _⟩ <;> exact su_p_spec_Map _
     refine sv_r (v := pt g4 6) Z (ex_fo (Z.g 3 rfl) (fo rfl) rfl) fun a Z => sv_st (i := 0) (v := vk) (cs' := #[.string x3.1.title, .string x3.1.uri, .int .i64 ((x3.1.e : Nat) : Int), .int .i64 ((x3.1.limit : Nat) : Int), .int .i64 ((x3.1.offset : Nat) : Int), x3.2.1, vk, .bool (x3.1.disc), .string x3.1.date]) Z hst (Z.g 51 rfl) (Z.g 50 rfl) rfl (show 6 < 9 from by decide) rfl rfl fun w21 hty Z => ?_
     replace hA3 := hA3.ty hty (by decide)
     replace hkp := hkp.ty hty (by decide)
     refine Z.nx [47, 3, 2, 0] rfl fun Z => ?_
     refine hQ' _ _ ⟨({ x3.1 with map := ky }, (x3.2.1, vk)), ⟨hx3.title, hx3.uri, hx3.e, hx3.part, hx3.key, hky, hx3.date⟩, ⟨hA3.1, hkp⟩, Z.pick rfl⟩
    ·intro hb19 Q' hQ'
     have hb19 := of_decide_eq_false hb19
     refine wp_skip ?_
     exact hQ' _ _ ⟨x3, hx3, hA3, Z.pick rfl⟩
    ·rintro a w22 ⟨x4, hx4, hA4, Z⟩
     refine sh (wp_seq (wr (sv_r (v := .int .u32 ((n : Nat) : Int)) Z (ex_mv (Z.g 0 rfl)) fun a Z => ?_)))
     refine sv_r (v := .int .u32 ((n / 262144 : Nat) : Int)) Z (ni_shr 18 (Z.g 52 rfl) rfl (by simp only [IntKind.bits]; omega) rfl) fun a Z => ?_
     refine sv_r (v := .int .u32 ((n / 262144 % 4 : Nat) : Int)) Z (ei_and (Z.g 53 rfl) rfl (by rw [u32_and3 (by omega) (by omega)]; omega)) fun a Z => ?_
     refine sv_r (v := .bool (decide ((n / 262144 % 4 : Nat) = 1))) Z (ei_eql (Z.g 54 rfl) rfl (by rw [decide_eq_decide]; omega)) fun a Z => Z.nx [55, 3, 2, 0] rfl fun Z => sh ?_
     refine if_join (fun a w' => ∃ x : Sx, SegOk x.1 ∧ x.At w' ∧ Sv 66 ((3, pt g4 0) :: (2, pt g1 0) :: (0, .int .u32 ((n : Nat) : Int)) :: []) [⟨g4, x.cells, 50, true⟩, ⟨g1, #[.string ⟨#[]⟩, .string ⟨#[]⟩, .int .i64 0, .int .i64 0, .int .i64 0, .pointer none, .pointer none, .bool false, .string ⟨#[]⟩], 50, true⟩] (fun _ => False) w a w') (Z.g 55 rfl) ?_ ?_ ?_
     ·intro hb23 Q' hQ'
      have hb23 := of_decide_eq_true hb23
      refine wp_region_lit (sv_r (v := .int .u32 ((n : Nat) : Int)) Z (ex_mv (Z.g 0 rfl)) fun a Z => ?_)
      refine sv_r (v := .int .u32 ((n / 1048576 : Nat) : Int)) Z (ni_shr 20 (Z.g 56 rfl) rfl (by simp only [IntKind.bits]; omega) rfl) fun a Z => sv_r (v := .int .u32 ((n / 1048576 % 80 : Nat) : Int)) Z (ni_rem 80 (Z.g 57 rfl) rfl (by decide)) fun a Z => ?_
      refine sv_r (v := .int .u32 ((10 + (n / 1048576 % 80) : Nat) : Int)) Z (ei_add rfl (Z.g 58 rfl) (by rw [IntKind.wrap_u32]; omega)) fun a Z => ?_
      refine sv_r (v := .int .u64 ((10 + (n / 1048576 % 80) : Nat) : Int)) Z (ex_cv (Z.g 59 rfl) (cv_uint32_uint64 _ (by rw [IntKind.wrap_u64]; omega))) fun a Z => ?_
      refine sv_callq (v := .string (dec (10 + (n / 1048576 % 80)))) Z rfl rfl (by decide) (ex_call1 cf_spec_Decimal (Z.g 60 rfl)) (Calls.mono (decimal_any (10 + (n / 1048576 % 80)) _ (by omega)) (by rintro e w' ⟨rfl, rfl⟩; exact ⟨rfl, rfl⟩)) fun a Z => ?_
      have hdd24 := dec_le (n := 10 + (n / 1048576 % 80)) (by omega)
      refine sv_r (v := .string ((⟨#[50, 48]⟩ : ByteArray) ++ (dec (10 + (n / 1048576 % 80))))) Z (ex_add rfl (Z.g 61 rfl) (by simp only [ByteArray.size_append', ByteArray.size_mk', List.size_toArray, List.length_cons, List.length_nil]; omega)) fun a Z => ?_
      refine sv_r (v := .string ((⟨#[50, 48]⟩ : ByteArray) ++ (dec (10 + (n / 1048576 % 80))) ++ (⟨#[45, 48, 49, 45, 48, 50, 84, 48, 51, 58, 48, 52, 58, 48, 53, 46, 54, 55, 56, 43, 48, 49, 58, 48, 48]⟩ : ByteArray))) Z (ex_add (Z.g 62 rfl) rfl (by simp only [ByteArray.size_append', ByteArray.size_mk', List.size_toArray, List.length_cons, List.length_nil]; omega)) fun a Z => sv_r (v := pt g4 8) Z (ex_fo (Z.g 3 rfl) (fo rfl) rfl) fun a Z => sv_st (i := 0) (v := .string ((⟨#[50, 48]⟩ : ByteArray) ++ (dec (10 + (n / 1048576 % 80))) ++ (⟨#[45, 48, 49, 45, 48, 50, 84, 48, 51, 58, 48, 52, 58, 48, 53, 46, 54, 55, 56, 43, 48, 49, 58, 48, 48]⟩ : ByteArray))) (cs' := #[.string x4.1.title, .string x4.1.uri, .int .i64 ((x4.1.e : Nat) : Int), .int .i64 ((x4.1.limit : Nat) : Int), .int .i64 ((x4.1.offset : Nat) : Int), x4.2.1, x4.2.2, .bool (x4.1.disc), .string ((⟨#[50, 48]⟩ : ByteArray) ++ (dec (10 + (n / 1048576 % 80))) ++ (⟨#[45, 48, 49, 45, 48, 50, 84, 48, 51, 58, 48, 52, 58, 48, 53, 46, 54, 55, 56, 43, 48, 49, 58, 48, 48]⟩ : ByteArray))]) Z (su_string _) (Z.g 64 rfl) (Z.g 63 rfl) rfl (show 8 < 9 from by decide) rfl rfl fun w25 hty Z => ?_
      replace hA4 := hA4.ty hty (by decide)
      refine Z.nx [55, 3, 2, 0] rfl fun Z => ?_
      refine hQ' _ _ ⟨({ x4.1 with date := ((⟨#[50, 48]⟩ : ByteArray) ++ (dec (10 + n / 1048576 % 80))) ++ ⟨#[45, 48, 49, 45, 48, 50, 84, 48, 51, 58, 48, 52, 58, 48, 53, 46, 54, 55, 56, 43, 48, 49, 58, 48, 48]⟩ }, x4.2), ⟨hx4.title, hx4.uri, hx4.e, hx4.part, hx4.key, hx4.map, .inr ⟨10 + n / 1048576 % 80, by omega, by omega, rfl⟩⟩, hA4, Z.pick rfl⟩
     ·intro hb23 Q' hQ'
      have hb23 := of_decide_eq_false hb23
      refine wp_skip ?_
      exact hQ' _ _ ⟨x4, hx4, hA4, Z.pick rfl⟩
     ·rintro a w26 ⟨x5, hx5, hA5, Z⟩
      refine sh (wr (sv_r (v := .agg x5.cells) Z (ex_lb ag_spec_Segment (Z.g 3 rfl) (Z.at 0 rfl) rfl) fun a Z => sv_sb (i := 1) Z ag_spec_Segment (Z.g 2 rfl) (Z.g 65 rfl) rfl rfl rfl hA5.one rfl fun w27 hty Z => ?_))
      replace hA5 := hA5.ty hty (by decide)
      refine Z.nx [3, 2, 0] rfl fun Z => sh (wp_ret ?_)
      try simp only [Exit.inBlock, Exit.then]
      exact ret_cell Z.ev rfl ag_spec_Segment (Z.g 2 rfl) (Z.at 1 rfl) rfl ⟨_, rfl, Z.toBelow, x5, rfl, hx5, hA5⟩
structure Md where
 version : Nat
 target : Nat
 seq : Nat
 disc : Nat
 typ : Nat
 start : Nat
 precise : Bool
 iframe : Bool
 closed : Bool
def Md.cells (m : Md) (sl : Value) : Array Value := #[.int .i64 (m.version : Int), .int .i64 (m.target : Int), .int .u64 (m.seq : Int), .int .u64 (m.disc : Int), .int .i64 (m.typ : Int), .int .i64 (m.start : Int), .bool m.precise, .bool m.iframe, .bool m.closed, .pointer none, .pointer none, sl]
structure MdOk (m : Md) : Prop where
 version : m.version < 8
 target : 20 ≤ m.target ∧ m.target < 70
 seq : m.seq < 4294967296
 disc : m.disc < 1000
 typ : m.typ < 3
 start : m.start ≤ 300
 precise : m.start = 0 → m.precise = false
def AllAt (xs : List Sx) (w : World) : Prop := ∀ x ∈ xs, x.At w
theorem AllAt.ty {xs : List Sx} {w w' : World} {ts : List TypeId} (h : AllAt xs w) (hb : TyOnly ts w w') (ht : (ts.all fun u => u != 106 && u != 109) = true) : AllAt xs w' := fun x hx => (h x hx).ty hb ht
theorem AllAt.snoc {xs : List Sx} {x : Sx} {w : World} (h : AllAt xs w) (hx : x.At w) : AllAt (xs ++ [x]) w := by
 intro z hz
 rcases List.mem_append.1 hz with hz | hz
 ·exact h z hz
 ·rw [List.mem_singleton.1 hz]; exact hx
structure SegsAt (B : Nat) (v : Value) (xs : List Sx) (w : World) : Prop where
 own : Own Sx.list 50 9 w B v xs
 ats : AllAt xs w
theorem SegsAt.ty {B : Nat} {v : Value} {xs : List Sx} {w w' : World} {ts : List TypeId} (h : SegsAt B v xs w) (hb : TyOnly ts w w') (ht : (ts.all fun u => u != 50 && (u != 106 && u != 109)) = true) : SegsAt B v xs w' := by
 rw [List.all_eq_true] at ht
 refine ⟨h.own.ty hb ?_, fun x hx => (h.ats x hx).ty hb ?_⟩
 ·rw [List.all_eq_true]; intro u hu; have := ht u hu; simp only [Bool.and_eq_true] at this; exact this.1
 ·rw [List.all_eq_true]; intro u hu; have := ht u hu; simp only [Bool.and_eq_true] at this; simp only [Bool.and_eq_true]; exact this.2
theorem Md.one (m : Md) {sl : Value} (h : sl.oneCell' = true) : ∀ u ∈ (m.cells sl).toList, u.oneCell' = true := by
 intro u hu
 simp only [Md.cells, List.mem_cons, List.not_mem_nil, or_false] at hu
 rcases hu with rfl | rfl | rfl | rfl | rfl | rfl | rfl | rfl | rfl | rfl | rfl | rfl <;> first | rfl | exact h
theorem mediaOf_any (A : Option Addr) (len cap n : Nat) (hn : n < 4294967296) (hlen : len ≤ cap) (w : World) (hA : U32s w A len) : Calls Tryz.prog 5 #[.slice A len cap, .int .u32 n] w fun e w' => ∃ v, e = .returned v ∧ Below w.heap.size w w' ∧ ∃ (m : Md) (sl : Value) (xs : List Sx), v = .agg (m.cells sl) ∧ MdOk m ∧ xs.length = min len 12 ∧ (∀ x ∈ xs, SegOk x.1) ∧ SegsAt w.heap.size sl xs w' := by
 refine calls_of_ev Tryz.func5 rfl (show 2 ≤ 76 from by decide) fun a hE => ?_
 have hE : Ev 76 ((0, .slice A len cap) :: (1, .int .u32 ((n : Nat) : Int)) :: []) a := hE
 have Z : Sv 76 ((0, .slice A len cap) :: (1, .int .u32 ((n : Nat) : Int)) :: []) [] (fun _ => False) w a w := Sv.start hE _ _
 clear hE
 refine wr (sv_al Z al_spec_Media (by decide) fun g1 a w2 hg1 hbw2 hwg1 Z => Z.nx [4, 0, 1] rfl fun Z => sh (wr (sv_n 1 Z rfl fun a Z => sv_r (v := .int .u32 ((n % 8 : Nat) : Int)) Z (ni_rem 8 (Z.g 8 rfl) rfl (by decide)) fun a Z => ?_)))
 refine sv_r (v := .int .i64 ((n % 8 : Nat) : Int)) Z (ex_cv (Z.g 9 rfl) (cv_uint32_int _ (by rw [IntKind.wrap_i64]; omega))) fun a Z => sv_n 1 Z rfl fun a Z => ?_
 refine sv_r (v := .int .u32 ((n / 8 : Nat) : Int)) Z (ni_shr 3 (Z.g 11 rfl) rfl (by simp only [IntKind.bits]; omega) rfl) fun a Z => sv_r (v := .int .u32 ((n / 8 % 50 : Nat) : Int)) Z (ni_rem 50 (Z.g 12 rfl) rfl (by decide)) fun a Z => ?_
 refine sv_r (v := .int .i64 ((n / 8 % 50 : Nat) : Int)) Z (ex_cv (Z.g 13 rfl) (cv_uint32_int _ (by rw [IntKind.wrap_i64]; omega))) fun a Z => ?_
 refine sv_r (v := .int .i64 ((20 + (n / 8 % 50) : Nat) : Int)) Z (ei_add rfl (Z.g 14 rfl) (by rw [IntKind.wrap_i64]; omega)) fun a Z => sv_n 1 Z rfl fun a Z => ?_
 refine sv_r (v := .int .u32 ((n / 32 : Nat) : Int)) Z (ni_shr 5 (Z.g 16 rfl) rfl (by simp only [IntKind.bits]; omega) rfl) fun a Z => ?_
 refine sv_r (v := .int .u64 ((n / 32 : Nat) : Int)) Z (ex_cv (Z.g 17 rfl) (cv_uint32_uint64 _ (by rw [IntKind.wrap_u64]; omega))) fun a Z => sv_n 1 Z rfl fun a Z => ?_
 refine sv_r (v := .int .u32 ((n / 16 : Nat) : Int)) Z (ni_shr 4 (Z.g 19 rfl) rfl (by simp only [IntKind.bits]; omega) rfl) fun a Z => sv_r (v := .int .u32 ((n / 16 % 3 : Nat) : Int)) Z (ni_rem 3 (Z.g 20 rfl) rfl (by decide)) fun a Z => ?_
 refine sv_r (v := .int .i64 ((n / 16 % 3 : Nat) : Int)) Z (ex_cv (Z.g 21 rfl) (cv_uint32_int _ (by rw [IntKind.wrap_i64]; omega))) fun a Z => sv_n 1 Z rfl fun a Z => ?_
 refine sv_r (v := .int .u32 ((n / 128 : Nat) : Int)) Z (ni_shr 7 (Z.g 23 rfl) rfl (by simp only [IntKind.bits]; omega) rfl) fun a Z => ?_
 refine sv_r (v := .int .u32 ((n / 128 % 4 : Nat) : Int)) Z (ei_and (Z.g 24 rfl) rfl (by rw [u32_and3 (by omega) (by omega)]; omega)) fun a Z => ?_
 refine sv_r (v := .bool (decide ((n / 128 % 4 : Nat) = 1))) Z (ei_eql (Z.g 25 rfl) rfl (by rw [decide_eq_decide]; omega)) fun a Z => sv_n 1 Z rfl fun a Z => ?_
 refine sv_r (v := .int .u32 ((n / 512 : Nat) : Int)) Z (ni_shr 9 (Z.g 27 rfl) rfl (by simp only [IntKind.bits]; omega) rfl) fun a Z => ?_
 refine sv_r (v := .int .u32 ((n / 512 % 2 : Nat) : Int)) Z (ei_and (Z.g 28 rfl) rfl (by rw [u32_and1 (by omega) (by omega)]; omega)) fun a Z => ?_
 refine sv_r (v := .bool (decide ((n / 512 % 2 : Nat) = 1))) Z (ei_eql (Z.g 29 rfl) rfl (by rw [decide_eq_decide]; omega)) fun a Z => ?_
 refine sv_r (v := .agg #[.int .i64 ((n % 8 : Nat) : Int), .int .i64 ((20 + (n / 8 % 50) : Nat) : Int), .int .u64 ((n / 32 : Nat) : Int), .int .u64 0, .int .i64 ((n / 16 % 3 : Nat) : Int), .int .i64 0, .bool false, .bool (decide ((n / 128 % 4 : Nat) = 1)), .bool (decide ((n / 512 % 2 : Nat) = 1)), .pointer none, .pointer none, .slice none 0 0]) Z (by simp only [execOp, List.map_toArray, List.map_cons, List.map_nil, Z.g 10 rfl, Z.g 15 rfl, Z.g 18 rfl, Z.g 22 rfl, Z.g 26 rfl, Z.g 30 rfl]; go_simp) fun a Z => sv_al Z al_spec_Media (by decide) fun g3 a w4 hg3 hbw4 hwg3 Z => ?_
 refine sv_sb (i := 0) Z ag_spec_Media (Z.g 5 rfl) (Z.g 31 rfl) rfl rfl rfl (by intro u hu; simp only [List.mem_cons, List.not_mem_nil, or_false] at hu; rcases hu with rfl | rfl | rfl | rfl | rfl | rfl | rfl | rfl | rfl | rfl | rfl | rfl <;> rfl) rfl fun w5 hty Z => Z.nx [5, 4, 0, 1] rfl fun Z => ?_
 obtain ⟨m0, hm0, Z⟩ : ∃ m : Md, MdOk m ∧ Sv 76 ((5, pt g3 0) :: (4, pt g1 0) :: (0, .slice A len cap) :: (1, .int .u32 ((n : Nat) : Int)) :: []) [⟨g3, (m.cells (.slice none 0 0)), 29, true⟩, ⟨g1, #[.int .i64 0, .int .i64 0, .int .u64 0, .int .u64 0, .int .i64 0, .int .i64 0, .bool false, .bool false, .bool false, .pointer none, .pointer none, .slice none 0 0], 29, true⟩] (fun _ => False) w a w5 := ⟨⟨n % 8, 20 + n / 8 % 50, n / 32, 0, n / 16 % 3, 0, false, decide (n / 128 % 4 = 1), decide (n / 512 % 2 = 1)⟩, ⟨by show n % 8 < 8; omega, ⟨by show 20 ≤ 20 + n / 8 % 50; omega, by show 20 + n / 8 % 50 < 70; omega⟩, by show n / 32 < _; omega, by show 0 < 1000; omega, by show n / 16 % 3 < 3; omega, by show 0 ≤ 300; omega, fun _ => rfl⟩, Z⟩
 refine sh (wp_seq (wr (sv_n 1 Z rfl fun a Z => ?_)))
 refine sv_r (v := .int .u32 ((n / 1024 : Nat) : Int)) Z (ni_shr 10 (Z.g 32 rfl) rfl (by simp only [IntKind.bits]; omega) rfl) fun a Z => ?_
 refine sv_r (v := .int .u32 ((n / 1024 % 2 : Nat) : Int)) Z (ei_and (Z.g 33 rfl) rfl (by rw [u32_and1 (by omega) (by omega)]; omega)) fun a Z => ?_
 refine sv_r (v := .bool (decide ((n / 1024 % 2 : Nat) = 1))) Z (ei_eql (Z.g 34 rfl) rfl (by rw [decide_eq_decide]; omega)) fun a Z => Z.nx [35, 5, 4, 1, 0] rfl fun Z => sh ?_
 refine if_join (fun a w' => ∃ m : Md, MdOk m ∧ Sv 76 ((5, pt g3 0) :: (4, pt g1 0) :: (1, .int .u32 ((n : Nat) : Int)) :: (0, .slice A len cap) :: []) [⟨g3, m.cells (.slice none 0 0), 29, true⟩, ⟨g1, #[.int .i64 0, .int .i64 0, .int .u64 0, .int .u64 0, .int .i64 0, .int .i64 0, .bool false, .bool false, .bool false, .pointer none, .pointer none, .slice none 0 0], 29, true⟩] (fun _ => False) w a w') (Z.g 35 rfl) ?_ ?_ ?_
 ·intro hb6 Q' hQ'
  have hb6 := of_decide_eq_true hb6
  refine wp_region_lit (sv_n 1 Z rfl fun a Z => ?_)
  refine sv_r (v := .int .u32 ((n / 4096 : Nat) : Int)) Z (ni_shr 12 (Z.g 36 rfl) rfl (by simp only [IntKind.bits]; omega) rfl) fun a Z => sv_r (v := .int .u32 ((n / 4096 % 300 : Nat) : Int)) Z (ni_rem 300 (Z.g 37 rfl) rfl (by decide)) fun a Z => ?_
  refine sv_r (v := .int .i64 ((n / 4096 % 300 : Nat) : Int)) Z (ex_cv (Z.g 38 rfl) (cv_uint32_int _ (by rw [IntKind.wrap_i64]; omega))) fun a Z => ?_
  refine sv_r (v := .int .i64 ((1 + (n / 4096 % 300) : Nat) : Int)) Z (ei_add rfl (Z.g 39 rfl) (by rw [IntKind.wrap_i64]; omega)) fun a Z => sv_n 1 Z rfl fun a Z => ?_
  refine sv_r (v := .int .u32 ((n / 2048 : Nat) : Int)) Z (ni_shr 11 (Z.g 41 rfl) rfl (by simp only [IntKind.bits]; omega) rfl) fun a Z => ?_
  refine sv_r (v := .int .u32 ((n / 2048 % 2 : Nat) : Int)) Z (ei_and (Z.g 42 rfl) rfl (by rw [u32_and1 (by omega) (by omega)]; omega)) fun a Z => ?_
  refine sv_r (v := .bool (decide ((n / 2048 % 2 : Nat) = 1))) Z (ei_eql (Z.g 43 rfl) rfl (by rw [decide_eq_decide]; omega)) fun a Z => sv_n 1 Z rfl fun a Z => sv_st (i := 0) (v := .int .i64 ((1 + (n / 4096 % 300) : Nat) : Int)) (cs' := #[.int .i64 ((m0.version : Nat) : Int), .int .i64 ((m0.target : Nat) : Int), .int .u64 ((m0.seq : Nat) : Int), .int .u64 ((m0.disc : Nat) : Int), .int .i64 ((m0.typ : Nat) : Int), .int .i64 ((1 + (n / 4096 % 300) : Nat) : Int), .bool (m0.precise), .bool (m0.iframe), .bool (m0.closed), .pointer none, .pointer none, .slice none 0 0]) Z (su_int _) (Z.g 45 rfl) (Z.g 40 rfl) rfl (show 5 < 12 from by decide) rfl rfl fun w7 hty Z => sv_n 1 Z rfl fun a Z => ?_
  refine sv_st (i := 0) (v := .bool (decide ((n / 2048 % 2 : Nat) = 1))) (cs' := #[.int .i64 ((m0.version : Nat) : Int), .int .i64 ((m0.target : Nat) : Int), .int .u64 ((m0.seq : Nat) : Int), .int .u64 ((m0.disc : Nat) : Int), .int .i64 ((m0.typ : Nat) : Int), .int .i64 ((1 + (n / 4096 % 300) : Nat) : Int), .bool (decide ((n / 2048 % 2 : Nat) = 1)), .bool (m0.iframe), .bool (m0.closed), .pointer none, .pointer none, .slice none 0 0]) Z (su_bool _) (Z.g 46 rfl) (Z.g 44 rfl) rfl (show 6 < 12 from by decide) rfl rfl fun w8 hty Z => Z.nx [35, 5, 4, 1, 0] rfl fun Z => ?_
  refine hQ' _ _ ⟨{ m0 with start := 1 + n / 4096 % 300, precise := decide (n / 2048 % 2 = 1) }, ⟨hm0.version, hm0.target, hm0.seq, hm0.disc, hm0.typ, by show 1 + n / 4096 % 300 ≤ 300; omega, fun h => by have h : 1 + n / 4096 % 300 = 0 := h; omega⟩, Z.pick rfl⟩
 ·intro hb6 Q' hQ'
  have hb6 := of_decide_eq_false hb6
  refine wp_skip ?_
  exact hQ' _ _ ⟨m0, hm0, Z.pick rfl⟩
 ·rintro a w9 ⟨m1, hm1, Z⟩
  refine sh (wp_seq (wr (sv_n 1 Z rfl fun a Z => ?_)))
  refine sv_r (v := .int .u32 ((n / 8192 : Nat) : Int)) Z (ni_shr 13 (Z.g 47 rfl) rfl (by simp only [IntKind.bits]; omega) rfl) fun a Z => ?_
  refine sv_r (v := .int .u32 ((n / 8192 % 4 : Nat) : Int)) Z (ei_and (Z.g 48 rfl) rfl (by rw [u32_and3 (by omega) (by omega)]; omega)) fun a Z => ?_
  refine sv_r (v := .bool (decide ((n / 8192 % 4 : Nat) = 1))) Z (ei_eql (Z.g 49 rfl) rfl (by rw [decide_eq_decide]; omega)) fun a Z => Z.nx [50, 5, 4, 1, 0] rfl fun Z => sh ?_
  refine if_join (fun a w' => ∃ m : Md, MdOk m ∧ Sv 76 ((5, pt g3 0) :: (4, pt g1 0) :: (1, .int .u32 ((n : Nat) : Int)) :: (0, .slice A len cap) :: []) [⟨g3, m.cells (.slice none 0 0), 29, true⟩, ⟨g1, #[.int .i64 0, .int .i64 0, .int .u64 0, .int .u64 0, .int .i64 0, .int .i64 0, .bool false, .bool false, .bool false, .pointer none, .pointer none, .slice none 0 0], 29, true⟩] (fun _ => False) w a w') (Z.g 50 rfl) ?_ ?_ ?_
  ·intro hb10 Q' hQ'
   have hb10 := of_decide_eq_true hb10
   refine wp_region_lit (sv_n 1 Z rfl fun a Z => ?_)
   refine sv_r (v := .int .u32 ((n / 32768 : Nat) : Int)) Z (ni_shr 15 (Z.g 51 rfl) rfl (by simp only [IntKind.bits]; omega) rfl) fun a Z => sv_r (v := .int .u32 ((n / 32768 % 999 : Nat) : Int)) Z (ni_rem 999 (Z.g 52 rfl) rfl (by decide)) fun a Z => ?_
   refine sv_r (v := .int .u32 ((1 + (n / 32768 % 999) : Nat) : Int)) Z (ei_add rfl (Z.g 53 rfl) (by rw [IntKind.wrap_u32]; omega)) fun a Z => ?_
   refine sv_r (v := .int .u64 ((1 + (n / 32768 % 999) : Nat) : Int)) Z (ex_cv (Z.g 54 rfl) (cv_uint32_uint64 _ (by rw [IntKind.wrap_u64]; omega))) fun a Z => sv_n 1 Z rfl fun a Z => sv_st (i := 0) (v := .int .u64 ((1 + (n / 32768 % 999) : Nat) : Int)) (cs' := #[.int .i64 ((m1.version : Nat) : Int), .int .i64 ((m1.target : Nat) : Int), .int .u64 ((m1.seq : Nat) : Int), .int .u64 ((1 + (n / 32768 % 999) : Nat) : Int), .int .i64 ((m1.typ : Nat) : Int), .int .i64 ((m1.start : Nat) : Int), .bool (m1.precise), .bool (m1.iframe), .bool (m1.closed), .pointer none, .pointer none, .slice none 0 0]) Z (su_uint64 _) (Z.g 56 rfl) (Z.g 55 rfl) rfl (show 3 < 12 from by decide) rfl rfl fun w11 hty Z => Z.nx [50, 5, 4, 1, 0] rfl fun Z => ?_
   refine hQ' _ _ ⟨{ m1 with disc := 1 + n / 32768 % 999 }, ⟨hm1.version, hm1.target, hm1.seq, by show 1 + n / 32768 % 999 < 1000; omega, hm1.typ, hm1.start, hm1.precise⟩, Z.pick rfl⟩
  ·intro hb10 Q' hQ'
   have hb10 := of_decide_eq_false hb10
   refine wp_skip ?_
   exact hQ' _ _ ⟨m1, hm1, Z.pick rfl⟩
  ·rintro a w12 ⟨m2, hm2, Z⟩
   refine sh (wp_seq (wr (sv_n 2 Z rfl fun a Z => sv_r (v := .int .i64 ((len : Nat) : Int)) Z (ex_len Tryz.underlying22 (Z.g 58 rfl)) fun a Z => sv_r (v := .int .i64 ((min len 12 : Nat) : Int)) Z (ex_min (m := 12) (Z.g 59 rfl) rfl) fun a Z => ?_)))
   refine sv_r (v := .slice A (min len 12) cap) Z (ex_slh (E := 23) Tryz.underlying22 Tryz.sizeOf23 (Z.g 57 rfl) (Z.g 60 rfl) (by omega)) fun a Z => sv_r (v := .int .i64 ((min len 12 : Nat) : Int)) Z (ex_len Tryz.underlying22 (Z.g 61 rfl)) fun a Z => sv_r (v := .int .i64 0) Z ex_mc fun a Z => Z.nx [63, 62, 61, 5, 4, 1] rfl fun Z => sh ?_
   have hE : Ev 76 ((63, .int .i64 ((0 : Nat) : Int)) :: (62, .int .i64 ((min len 12 : Nat) : Int)) :: (61, .slice A (min len 12) cap) :: (5, pt g3 0) :: (4, pt g1 0) :: (1, .int .u32 ((n : Nat) : Int)) :: []) a := Z.ev.pick rfl
   refine range_wp (N := 76) (n := min len 12) (l := (61, .slice A (min len 12) cap) :: (5, pt g3 0) :: (4, pt g1 0) :: (1, .int .u32 ((n : Nat) : Int)) :: []) (fun k w' => ∃ (sl : Value) (xs : List Sx), xs.length = k ∧ (∀ x ∈ xs, SegOk x.1) ∧ SegsAt w.heap.size sl xs w' ∧ Hv [⟨g3, m2.cells sl, 29, true⟩, ⟨g1, #[.int .i64 0, .int .i64 0, .int .u64 0, .int .u64 0, .int .i64 0, .int .i64 0, .bool false, .bool false, .bool false, .pointer none, .pointer none, .slice none 0 0], 29, true⟩] (fun _ => False) w w') (by omega) hE (⟨.slice none 0 0, [], rfl, (by intro x hx; cases hx), ⟨Own.nil _ _ _ _ _, (by intro x hx; cases hx)⟩, Z.hv⟩) rfl (by decide) (by decide) ?_ ?_
   ·clear hE Z
    rintro k a w13 hk hE ⟨sl, xs, hl, hx, hT, hV⟩ Q' hQ'
    obtain ⟨p, y0, hp, hc0, hy0⟩ := (hA.old hV) k (by omega)
    subst hp
    have hE : Ev 76 ((63, .int .i64 ((k : Nat) : Int)) :: (62, .int .i64 ((min len 12 : Nat) : Int)) :: (61, .slice (some p) (min len 12) cap) :: (5, pt g3 0) :: (4, pt g1 0) :: (1, .int .u32 ((n : Nat) : Int)) :: []) a := hE
    have Z : Sv 76 ((63, .int .i64 ((k : Nat) : Int)) :: (62, .int .i64 ((min len 12 : Nat) : Int)) :: (61, .slice (some p) (min len 12) cap) :: (5, pt g3 0) :: (4, pt g1 0) :: (1, .int .u32 ((n : Nat) : Int)) :: []) [⟨g3, m2.cells sl, 29, true⟩, ⟨g1, #[.int .i64 0, .int .i64 0, .int .u64 0, .int .u64 0, .int .i64 0, .int .i64 0, .bool false, .bool false, .bool false, .pointer none, .pointer none, .slice none 0 0], 29, true⟩] (fun _ => False) w a w13 := hV.sv hE
    refine wp_block (wr ?_)
    refine sv_r (v := .pointer (some (p.add (k * 1)))) Z (ex_ia (E := 23) Tryz.underlying22 Tryz.sizeOf23 (Z.g 61 rfl) (Z.g 63 rfl) (by omega)) fun a Z => ?_
    refine sv_r (v := .int .u32 ((y0 : Nat) : Int)) Z (ex_ld (Z.g 65 rfl) ld_u32 (by rw [Nat.mul_one]; exact hc0)) fun a Z => sv_n 1 Z rfl fun a Z => Z.nx [7, 63, 62, 61, 5, 4, 1] rfl fun Z => sh ?_
    refine wp_region_og1 (n := 76) 5 [Asr.eq (pt g3 11), Asr.eq (sl), Asr.eq (.int .u32 ((y0 : Nat) : Int)), Asr.any (fun v w' => ∃ x : Sx, v = .agg x.cells ∧ SegOk x.1 ∧ x.At w'), Asr.any (fun v w' => ∃ (x : Sx) (g : Nat), v = .slice (some ⟨g, 0, none⟩) 1 1 ∧ w'.heap[g]? = some (.cells x.cells 50 (0, 0)) ∧ SegOk x.1 ∧ x.At w')] (by kernel_rfl) (by kernel_rfl) (by kernel_rfl) (by simp) (by kernel_rfl) Z.ev.size ⟨(fun i _ _ v w w' _ ho hp => by obtain ⟨x, h1, h2, h3⟩ := hp; exact ⟨x, h1, h2, h3.keep (only_below0 ho)⟩), (fun i _ _ v w w' _ ho hp => by obtain ⟨x, g, h1, h2, h3, h4⟩ := hp; exact ⟨x, g, h1, hp_below h2 (only_below0 ho), h3, h4.keep (only_below0 ho)⟩), ⟨⟩⟩ ?_ ?_
    ·simp only [List.take_succ_cons, List.take_zero]
     refine ⟨?_, ?_, ?_, ?_, ?_, trivial⟩
     ·exact fun _ _ c => og_val (ex_fo (c.o (Z.g 5 rfl)) (fo rfl) rfl) rfl
     ·exact ql 0 lt_sl_spec_Segment Z 0
     ·exact qm (Z.g 7 rfl)
     ·intro a wx c
      have e_69 : a.eval (.tmp 69) = .int .u32 ((y0 : Nat) : Int) := c.s 2 rfl
      have hO := Z.ogc c
      have hbx := drew_below c.only
      clear c
      exact og_call (ex_call1 cf_laws_segmentOf e_69) (segmentOf_any y0 hy0 _)
     ·intro a wx c
      obtain ⟨x, e_70, hx0, hAx⟩ : ∃ x : Sx, (a.eval (.tmp 70)) = .agg x.cells ∧ SegOk x.1 ∧ x.At wx := c.s 3 rfl
      clear c
      refine og_ext (v := .slice (some ⟨wx.heap.size, 0, none⟩) 1 1) (w' := wx.alloc (.cells x.cells 50)) (by simp only [execOp, List.map_toArray, List.map_cons, List.map_nil, e_70]; unfold Sx.cells; go_simp) ((Below.refl _ _).alloc (Nat.le_refl _) _) ?_
      exact ⟨x, _, rfl, heap_alloc_new _ _, hx0, hAx.keep ((Below.refl _ _).alloc (Nat.le_refl _) _)⟩
    ·intro a w14 c hbw14
     replace hT := hT.ty (TyOnly.of_below (ts := []) hbw14) (by decide)
     obtain ⟨x, gx, e_71, hgx, hx0, hAx⟩ : ∃ (x : Sx) (g : Nat), (a.eval (.tmp 71)) = .slice (some ⟨g, 0, none⟩) 1 1 ∧ w14.heap[g]? = some (.cells x.cells 50 (0, 0)) ∧ SegOk x.1 ∧ x.At w14 := c.s 4 rfl
     replace Z : Sv 76 ((71, .slice (some ⟨gx, 0, none⟩) 1 1) :: (68, sl) :: (1, .int .u32 ((n : Nat) : Int)) :: (4, pt g1 0) :: (5, pt g3 0) :: (61, .slice (some p) (min len 12) cap) :: (62, .int .i64 ((min len 12 : Nat) : Int)) :: (63, .int .i64 ((k : Nat) : Int)) :: (7, .int .u32 ((y0 : Nat) : Int)) :: []) [⟨g3, (m2.cells sl), 29, true⟩, ⟨g1, #[.int .i64 0, .int .i64 0, .int .u64 0, .int .u64 0, .int .i64 0, .int .i64 0, .bool false, .bool false, .bool false, .pointer none, .pointer none, .slice none 0 0], 29, true⟩] (fun _ => False) w a w14 := ((((((((((Z.ogh c).know (c.o (Z.g 7 rfl))).know (c.o (Z.g 63 rfl))).know (c.o (Z.g 62 rfl))).know (c.o (Z.g 61 rfl))).know (c.o (Z.g 5 rfl))).know (c.o (Z.g 4 rfl))).know (c.o (Z.g 1 rfl))).know (c.s 1 rfl)).know e_71)
     clear c
     simp only [List.drop_succ_cons, List.drop_zero]
     have hTa := hT.ats
     refine sv_append (f := Sx.list) (L := xs) sli_sl_spec_Segment (by decide) (fun _ => rfl) [x] Z (Z.g 68 rfl) (Z.g 71 rfl) hgx rfl rfl (by intro z hz; rw [List.mem_singleton.1 hz]; exact hAx.one) hT.own rfl (by decide) (by omega) (by omega) fun a sl' w15 hty hown Z => ?_
     replace hTa := hTa.ty hty (by decide)
     replace hAx := hAx.ty hty (by decide)
     refine sv_n 1 Z rfl fun a Z => sv_st (i := 0) (v := sl') (cs' := #[.int .i64 ((m2.version : Nat) : Int), .int .i64 ((m2.target : Nat) : Int), .int .u64 ((m2.seq : Nat) : Int), .int .u64 ((m2.disc : Nat) : Int), .int .i64 ((m2.typ : Nat) : Int), .int .i64 ((m2.start : Nat) : Int), .bool (m2.precise), .bool (m2.iframe), .bool (m2.closed), .pointer none, .pointer none, sl']) Z (hown.st su_sl_spec_Segment) (Z.g 73 rfl) (Z.g 72 rfl) rfl (show 11 < 12 from by decide) rfl rfl fun w16 hty Z => ?_
     replace hTa := hTa.ty hty (by decide)
     replace hAx := hAx.ty hty (by decide)
     replace hown := hown.ty hty (by decide)
     refine Z.nx [1, 4, 5, 61, 62, 63] rfl fun Z => ?_
     show Q' .normal a w16
     exact hQ' a w16 (Z.ev.pick rfl) (⟨sl', xs ++ [x], by simp [hl], (by intro z hz; rcases List.mem_append.1 hz with hz | hz; exact hx z hz; rw [List.mem_singleton.1 hz]; exact hx0), ⟨hown, hTa.snoc hAx⟩, Z.hv⟩)
   ·clear hE Z
    rintro a w17 hE ⟨sl, xs, hl, hx, hT, hV⟩
    have Z : Sv 76 ((63, .int .i64 ((min len 12 : Nat) : Int)) :: (62, .int .i64 ((min len 12 : Nat) : Int)) :: (61, .slice A (min len 12) cap) :: (5, pt g3 0) :: (4, pt g1 0) :: (1, .int .u32 ((n : Nat) : Int)) :: []) [⟨g3, m2.cells sl, 29, true⟩, ⟨g1, #[.int .i64 0, .int .i64 0, .int .u64 0, .int .u64 0, .int .i64 0, .int .i64 0, .bool false, .bool false, .bool false, .pointer none, .pointer none, .slice none 0 0], 29, true⟩] (fun _ => False) w a w17 := hV.sv hE
    refine sh (wr (sv_r (v := .agg (m2.cells sl)) Z (ex_lb ag_spec_Media (Z.g 5 rfl) (Z.at 0 rfl) rfl) fun a Z => sv_sb (i := 1) Z ag_spec_Media (Z.g 4 rfl) (Z.g 75 rfl) rfl rfl rfl (m2.one hT.own.one') rfl fun w18 hty Z => ?_))
    replace hT := hT.ty hty (by decide)
    refine Z.nx [63, 62, 61, 5, 4, 1] rfl fun Z => sh (wp_ret ?_)
    try simp only [Exit.inBlock, Exit.then]
    exact ret_cell Z.ev rfl ag_spec_Media (Z.g 4 rfl) (Z.at 1 rfl) rfl ⟨_, rfl, Z.toBelow, m2, sl, xs, rfl, hm2, hl, hx, hT⟩
end Go.Proofs.YtflppablgdegcaaGreatDoor
