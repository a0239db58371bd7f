/- Joined: Sg. -/
import Derived.Test.YtfonjeoiallhhaaGreatDoorB11
/- The walks of laws.keyOf, laws.mapOf and laws.segmentOf. -/
set_option maxRecDepth 100000
set_option maxHeartbeats 8000000
namespace Go.Proofs.YtfonjeoiallhhaaGreatDoor
open Go.RowKit

theorem keyOf_any (n : Nat) (hn : n < 4294967296) (w : World) : Calls Tryz.prog 32 #[.int .u32 n] w fun e w' => ∃ v, e = .returned v ∧ Below w.heap.size w w' ∧ ∃ k, (∀ y, k = some y → KeyOk y) ∧ PtrTo 96 (k.map Ky.cells) v w' := by
 refine calls_of_ev Tryz.func32 rfl (show 1 ≤ 40 from by decide) ?_
 intro a hE
 have hE : Ev 40 ((0, .int .u32 ((n : Nat) : Int)) :: []) a := hE
 have hS : Sv 40 ((0, .int .u32 ((n : Nat) : Int)) :: []) [] (fun _ => False) w a w := Sv.start hE _ _
 clear hE
 refine wp_seq ?_
 refine wp_region_lit ?_
 refine sv_r (v := .pointer none) hS ex_ac fun a hS => ?_
 refine wpList_nil ?_
 replace hS := hS.cut [2, 0]
 show Code.wp _ _ _ _ _
 refine wp_seq ?_
 refine wp_seq ?_
 refine wp_region_lit ?_
 refine sv_r (v := .int .u32 ((n : Nat) : Int)) hS (ex_mv (hS.get 0 rfl)) fun a hS => ?_
 refine sv_r (v := .int .u32 ((n % 4 : Nat) : Int)) hS (ni_rem 4 (hS.get 3 rfl) rfl (by decide)) fun a hS => ?_
 refine wpList_nil ?_
 replace hS := hS.cut [4, 2, 0]
 show Code.wp _ _ _ _ _
 refine wp_block ?_
 refine wp_seq ?_
 refine wp_region_lit ?_
 refine sv_r (v := .bool (decide ((n % 4 : Nat) = 0))) hS (ei_eql (hS.get 4 rfl) rfl (by rw [decide_eq_decide]; omega)) fun a hS => ?_
 refine sv_r (v := .bool (decide ((n % 4 : Nat) = 0))) hS (ex_as (hS.get 6 rfl)) fun a hS => ?_
 refine wpList_nil ?_
 replace hS := hS.cut [5, 4, 2, 0]
 show Code.wp _ _ _ _ _
 refine wp_cond_split (hS.get 5 rfl) (fun hb1 => ?_) (fun hb1 => ?_)
 ·have hb1 := of_decide_eq_true hb1
  refine wp_seq ?_
  refine wp_region_lit ?_
  refine sv_r (v := .agg #[.string (⟨#[78, 79, 78, 69]⟩), .string ⟨#[]⟩, .string ⟨#[]⟩, .string ⟨#[]⟩, .string ⟨#[]⟩]) hS (by simp only [execOp, List.map_toArray, List.map_cons, List.map_nil, ]; go_simp) fun a hS => ?_
  refine sv_box hS (hS.get 7 rfl) (bx_spec_Key _) (by decide) ?_
  intro g2 a w3 hg2 hbw3 hwg2 hS
  refine sv_r (v := pt g2 0) hS (ex_as (hS.get 8 rfl)) fun a hS => ?_
  refine wpList_nil ?_
  replace hS := hS.cut [2, 5, 4, 0]
  show Code.wp _ _ _ _ _
  refine wp_ret ?_
  try simp only [Exit.inBlock, Exit.then]
  exact ret_of_ev hS.ev rfl (hS.get 2 rfl) ⟨_, rfl, hS.toBelow, some ⟨((⟨#[78, 79, 78, 69]⟩)), (⟨#[]⟩), (⟨#[]⟩), (⟨#[]⟩), (⟨#[]⟩)⟩, (by intro y hy; obtain rfl := Option.some.inj hy; exact .inl rfl), .new (hS.at 0 rfl)⟩
 ·have hb1 := of_decide_eq_false hb1
  refine wp_seq ?_
  refine wp_region_lit ?_
  refine sv_r (v := .bool (decide ((n % 4 : Nat) = 1))) hS (ei_eql (hS.get 4 rfl) rfl (by rw [decide_eq_decide]; omega)) fun a hS => ?_
  refine sv_r (v := .bool (decide ((n % 4 : Nat) = 1))) hS (ex_as (hS.get 10 rfl)) fun a hS => ?_
  refine wpList_nil ?_
  replace hS := hS.cut [9, 5, 4, 2, 0]
  show Code.wp _ _ _ _ _
  refine wp_cond_split (hS.get 9 rfl) (fun hb4 => ?_) (fun hb4 => ?_)
  ·have hb4 := of_decide_eq_true hb4
   refine wp_seq ?_
   refine wp_region_lit ?_
   refine sv_r (v := .int .u32 ((n : Nat) : Int)) hS (ex_mv (hS.get 0 rfl)) fun a hS => ?_
   refine sv_r (v := .int .u32 ((n / 4 : Nat) : Int)) hS (ni_shr 2 (hS.get 11 rfl) rfl (by simp only [IntKind.bits]; omega) rfl) fun a hS => ?_
   have hlt := hS.lt
   have hsz := hS.size
   refine sv_call (S := fun v w' => ∃ u, IsUri u ∧ v = .string u) hS rfl rfl (by decide) (ex_call1 cf_laws_uriOf (hS.get 12 rfl)) (Calls.mono (uriOf_any (n / 4) _ (by omega)) (by rintro e w' ⟨u, hu, rfl, rfl⟩; exact ⟨_, rfl, Below.refl _ _, u, hu, rfl⟩)) ?_
   rintro a _ w5 ⟨u, hu, rfl⟩ hbw5 hS
   have huz := hu.size
   refine sv_r (v := .agg #[.string (⟨#[65, 69, 83, 45, 49, 50, 56]⟩), .string u, .string ⟨#[]⟩, .string ⟨#[]⟩, .string ⟨#[]⟩]) hS (by simp only [execOp, List.map_toArray, List.map_cons, List.map_nil, hS.get 13 rfl]; go_simp) fun a hS => ?_
   refine sv_box hS (hS.get 14 rfl) (bx_spec_Key _) (by decide) ?_
   intro g6 a w7 hg6 hbw7 hwg6 hS
   refine sv_r (v := pt g6 0) hS (ex_as (hS.get 15 rfl)) fun a hS => ?_
   refine wpList_nil ?_
   replace hS := hS.cut [2, 9, 5, 4, 0]
   show Code.wp _ _ _ _ _
   refine wp_ret ?_
   try simp only [Exit.inBlock, Exit.then]
   exact ret_of_ev hS.ev rfl (hS.get 2 rfl) ⟨_, rfl, hS.toBelow, some ⟨((⟨#[65, 69, 83, 45, 49, 50, 56]⟩)), (u), (⟨#[]⟩), (⟨#[]⟩), (⟨#[]⟩)⟩, (by intro y hy; obtain rfl := Option.some.inj hy; exact .inr (.inl ⟨u, hu, rfl⟩)), .new (hS.at 0 rfl)⟩
  ·have hb4 := of_decide_eq_false hb4
   refine wp_seq ?_
   refine wp_region_lit ?_
   refine sv_r (v := .bool (decide ((n % 4 : Nat) = 2))) hS (ei_eql (hS.get 4 rfl) rfl (by rw [decide_eq_decide]; omega)) fun a hS => ?_
   refine sv_r (v := .bool (decide ((n % 4 : Nat) = 2))) hS (ex_as (hS.get 17 rfl)) fun a hS => ?_
   refine wpList_nil ?_
   replace hS := hS.cut [16, 9, 5, 4, 2, 0]
   show Code.wp _ _ _ _ _
   refine wp_cond_split (hS.get 16 rfl) (fun hb8 => ?_) (fun hb8 => ?_)
   ·have hb8 := of_decide_eq_true hb8
    refine wp_seq ?_
    refine wp_region_lit ?_
    refine sv_r (v := .int .u32 ((n : Nat) : Int)) hS (ex_mv (hS.get 0 rfl)) fun a hS => ?_
    refine sv_r (v := .int .u32 ((n / 4 : Nat) : Int)) hS (ni_shr 2 (hS.get 18 rfl) rfl (by simp only [IntKind.bits]; omega) rfl) fun a hS => ?_
    have hlt := hS.lt
    have hsz := hS.size
    refine sv_call (S := fun v w' => ∃ u, IsUri u ∧ v = .string u) hS rfl rfl (by decide) (ex_call1 cf_laws_uriOf (hS.get 19 rfl)) (Calls.mono (uriOf_any (n / 4) _ (by omega)) (by rintro e w' ⟨u, hu, rfl, rfl⟩; exact ⟨_, rfl, Below.refl _ _, u, hu, rfl⟩)) ?_
    rintro a _ w9 ⟨u, hu, rfl⟩ hbw9 hS
    have huz := hu.size
    refine sv_r (v := .int .u32 ((n : Nat) : Int)) hS (ex_mv (hS.get 0 rfl)) fun a hS => ?_
    refine sv_r (v := .int .u32 ((n / 32 : Nat) : Int)) hS (ni_shr 5 (hS.get 21 rfl) rfl (by simp only [IntKind.bits]; omega) rfl) fun a hS => ?_
    refine sv_r (v := .int .u64 ((n / 32 : Nat) : Int)) hS (ex_cv (hS.get 22 rfl) (cv_uint32_uint64 _ (by rw [IntKind.wrap_u64]; omega))) fun a hS => ?_
    refine sv_callq (v := .string (dec (n / 32))) hS rfl rfl (by decide) (ex_call1 cf_spec_Decimal (hS.get 23 rfl)) (Calls.mono (decimal_any (n / 32) _ (by omega)) (by rintro e w' ⟨rfl, rfl⟩; exact ⟨rfl, rfl⟩)) ?_
    intro a hS
    have hdd10 := dec_le (n := n / 32) (by omega)
    refine sv_r (v := .string ((⟨#[48, 120]⟩ : ByteArray) ++ (dec (n / 32)))) hS (ex_add rfl (hS.get 24 rfl) (by simp only [ByteArray.size_append', ByteArray.size_mk', List.size_toArray, List.length_cons, List.length_nil]; omega)) fun a hS => ?_
    refine sv_r (v := .int .u32 ((n : Nat) : Int)) hS (ex_mv (hS.get 0 rfl)) fun a hS => ?_
    refine sv_r (v := .int .u32 ((n / 128 : Nat) : Int)) hS (ni_shr 7 (hS.get 26 rfl) rfl (by simp only [IntKind.bits]; omega) rfl) fun a hS => ?_
    refine sv_r (v := .int .u32 ((n / 128 % 9 : Nat) : Int)) hS (ni_rem 9 (hS.get 27 rfl) rfl (by decide)) fun a hS => ?_
    refine sv_r (v := .int .u64 ((n / 128 % 9 : Nat) : Int)) hS (ex_cv (hS.get 28 rfl) (cv_uint32_uint64 _ (by rw [IntKind.wrap_u64]; omega))) fun a hS => ?_
    refine sv_callq (v := .string (dec (n / 128 % 9))) hS rfl rfl (by decide) (ex_call1 cf_spec_Decimal (hS.get 29 rfl)) (Calls.mono (decimal_any (n / 128 % 9) _ (by omega)) (by rintro e w' ⟨rfl, rfl⟩; exact ⟨rfl, rfl⟩)) ?_
    intro a hS
    have hdd11 := dec_le (n := n / 128 % 9) (by omega)
    refine sv_r (v := .string ((⟨#[99, 111, 109, 46, 102]⟩ : ByteArray) ++ (dec (n / 128 % 9)))) hS (ex_add rfl (hS.get 30 rfl) (by simp only [ByteArray.size_append', ByteArray.size_mk', List.size_toArray, List.length_cons, List.length_nil]; omega)) fun a hS => ?_
    refine sv_r (v := .int .u32 ((n : Nat) : Int)) hS (ex_mv (hS.get 0 rfl)) fun a hS => ?_
    refine sv_r (v := .int .u32 ((n / 512 : Nat) : Int)) hS (ni_shr 9 (hS.get 32 rfl) rfl (by simp only [IntKind.bits]; omega) rfl) fun a hS => ?_
    refine sv_r (v := .int .u32 ((n / 512 % 9 : Nat) : Int)) hS (ni_rem 9 (hS.get 33 rfl) rfl (by decide)) fun a hS => ?_
    refine sv_r (v := .int .u64 ((n / 512 % 9 : Nat) : Int)) hS (ex_cv (hS.get 34 rfl) (cv_uint32_uint64 _ (by rw [IntKind.wrap_u64]; omega))) fun a hS => ?_
    refine sv_callq (v := .string (dec (n / 512 % 9))) hS rfl rfl (by decide) (ex_call1 cf_spec_Decimal (hS.get 35 rfl)) (Calls.mono (decimal_any (n / 512 % 9) _ (by omega)) (by rintro e w' ⟨rfl, rfl⟩; exact ⟨rfl, rfl⟩)) ?_
    intro a hS
    have hdd12 := dec_le (n := n / 512 % 9) (by omega)
    refine sv_r (v := .string ((⟨#[49, 47]⟩ : ByteArray) ++ (dec (n / 512 % 9)))) hS (ex_add rfl (hS.get 36 rfl) (by simp only [ByteArray.size_append', ByteArray.size_mk', List.size_toArray, List.length_cons, List.length_nil]; omega)) fun a hS => ?_
    refine sv_r (v := .agg #[.string (⟨#[83, 65, 77, 80, 76, 69, 45, 65, 69, 83]⟩), .string u, .string ((⟨#[48, 120]⟩ : ByteArray) ++ (dec (n / 32))), .string ((⟨#[99, 111, 109, 46, 102]⟩ : ByteArray) ++ (dec (n / 128 % 9))), .string ((⟨#[49, 47]⟩ : ByteArray) ++ (dec (n / 512 % 9)))]) hS (by simp only [execOp, List.map_toArray, List.map_cons, List.map_nil, hS.get 20 rfl, hS.get 25 rfl, hS.get 31 rfl, hS.get 37 rfl]; go_simp) fun a hS => ?_
    refine sv_box hS (hS.get 38 rfl) (bx_spec_Key _) (by decide) ?_
    intro g13 a w14 hg13 hbw14 hwg13 hS
    refine sv_r (v := pt g13 0) hS (ex_as (hS.get 39 rfl)) fun a hS => ?_
    refine wpList_nil ?_
    replace hS := hS.cut [2, 16, 9, 5, 4, 0]
    show Code.wp _ _ _ _ _
    refine wp_ret ?_
    try simp only [Exit.inBlock, Exit.then]
    exact ret_of_ev hS.ev rfl (hS.get 2 rfl) ⟨_, rfl, hS.toBelow, some ⟨((⟨#[83, 65, 77, 80, 76, 69, 45, 65, 69, 83]⟩)), (u), (((⟨#[48, 120]⟩ : ByteArray) ++ (dec (n / 32)))), (((⟨#[99, 111, 109, 46, 102]⟩ : ByteArray) ++ (dec (n / 128 % 9)))), (((⟨#[49, 47]⟩ : ByteArray) ++ (dec (n / 512 % 9))))⟩, (by intro y hy; obtain rfl := Option.some.inj hy; exact .inr (.inr ⟨u, n / 32, n / 128 % 9, n / 512 % 9, hu, (by omega), (by omega), (by omega), rfl⟩)), .new (hS.at 0 rfl)⟩
   ·have hb8 := of_decide_eq_false hb8
    refine wp_skip ?_
    show Code.wp _ _ _ _ _
    refine wp_seq ?_
    refine wp_region_lit ?_
    refine sv_r (v := .pointer none) hS ex_ac fun a hS => ?_
    refine wpList_nil ?_
    replace hS := hS.cut [2, 16, 9, 5, 4, 0]
    show Code.wp _ _ _ _ _
    refine wp_ret ?_
    try simp only [Exit.inBlock, Exit.then]
    exact ret_of_ev hS.ev rfl (hS.get 2 rfl) ⟨_, rfl, hS.toBelow, none, (by intro y hy; cases hy), .nil⟩
theorem mapOf_any (n : Nat) (hn : n < 4294967296) (w : World) : Calls Tryz.prog 33 #[.int .u32 n] w fun e w' => ∃ v, e = .returned v ∧ Below w.heap.size w w' ∧ ∃ k, (∀ y, k = some y → MapOk y) ∧ PtrTo 99 (k.map Mp.cells) v w' := by
 refine calls_of_ev Tryz.func33 rfl (show 1 ≤ 26 from by decide) ?_
 intro a hE
 have hE : Ev 26 ((0, .int .u32 ((n : Nat) : Int)) :: []) a := hE
 have hS : Sv 26 ((0, .int .u32 ((n : Nat) : Int)) :: []) [] (fun _ => False) w a w := Sv.start hE _ _
 clear hE
 refine wp_seq ?_
 refine wp_region_lit ?_
 refine sv_r (v := .pointer none) hS ex_ac fun a hS => ?_
 refine wpList_nil ?_
 replace hS := hS.cut [2, 0]
 show Code.wp _ _ _ _ _
 refine wp_seq ?_
 refine wp_seq ?_
 refine wp_region_lit ?_
 refine sv_r (v := .int .u32 ((n : Nat) : Int)) hS (ex_mv (hS.get 0 rfl)) fun a hS => ?_
 refine sv_r (v := .int .u32 ((n % 3 : Nat) : Int)) hS (ni_rem 3 (hS.get 3 rfl) rfl (by decide)) fun a hS => ?_
 refine wpList_nil ?_
 replace hS := hS.cut [4, 2, 0]
 show Code.wp _ _ _ _ _
 refine wp_block ?_
 refine wp_seq ?_
 refine wp_region_lit ?_
 refine sv_r (v := .bool (decide ((n % 3 : Nat) = 0))) hS (ei_eql (hS.get 4 rfl) rfl (by rw [decide_eq_decide]; omega)) fun a hS => ?_
 refine sv_r (v := .bool (decide ((n % 3 : Nat) = 0))) hS (ex_as (hS.get 6 rfl)) fun a hS => ?_
 refine wpList_nil ?_
 replace hS := hS.cut [5, 4, 2, 0]
 show Code.wp _ _ _ _ _
 refine wp_cond_split (hS.get 5 rfl) (fun hb1 => ?_) (fun hb1 => ?_)
 ·have hb1 := of_decide_eq_true hb1
  refine wp_seq ?_
  refine wp_region_lit ?_
  refine sv_r (v := .int .u32 ((n : Nat) : Int)) hS (ex_mv (hS.get 0 rfl)) fun a hS => ?_
  refine sv_r (v := .int .u32 ((n / 4 : Nat) : Int)) hS (ni_shr 2 (hS.get 7 rfl) rfl (by simp only [IntKind.bits]; omega) rfl) fun a hS => ?_
  have hlt := hS.lt
  have hsz := hS.size
  refine sv_call (S := fun v w' => ∃ u, IsUri u ∧ v = .string u) hS rfl rfl (by decide) (ex_call1 cf_laws_uriOf (hS.get 8 rfl)) (Calls.mono (uriOf_any (n / 4) _ (by omega)) (by rintro e w' ⟨u, hu, rfl, rfl⟩; exact ⟨_, rfl, Below.refl _ _, u, hu, rfl⟩)) ?_
  rintro a _ w2 ⟨u, hu, rfl⟩ hbw2 hS
  have huz := hu.size
  refine sv_r (v := .agg #[.string u, .int .i64 0, .int .i64 0]) hS (by simp only [execOp, List.map_toArray, List.map_cons, List.map_nil, hS.get 9 rfl]; go_simp) fun a hS => ?_
  refine sv_box hS (hS.get 10 rfl) (bx_spec_Map _) (by decide) ?_
  intro g3 a w4 hg3 hbw4 hwg3 hS
  refine sv_r (v := pt g3 0) hS (ex_as (hS.get 11 rfl)) fun a hS => ?_
  refine wpList_nil ?_
  replace hS := hS.cut [2, 5, 4, 0]
  show Code.wp _ _ _ _ _
  refine wp_ret ?_
  try simp only [Exit.inBlock, Exit.then]
  exact ret_of_ev hS.ev rfl (hS.get 2 rfl) ⟨_, rfl, hS.toBelow, some ⟨u, 0, 0⟩, (by intro y hy; obtain rfl := Option.some.inj hy; exact ⟨hu, .inl ⟨rfl, rfl⟩⟩), .new (hS.at 0 rfl)⟩
 ·have hb1 := of_decide_eq_false hb1
  refine wp_seq ?_
  refine wp_region_lit ?_
  refine sv_r (v := .bool (decide ((n % 3 : Nat) = 1))) hS (ei_eql (hS.get 4 rfl) rfl (by rw [decide_eq_decide]; omega)) fun a hS => ?_
  refine sv_r (v := .bool (decide ((n % 3 : Nat) = 1))) hS (ex_as (hS.get 13 rfl)) fun a hS => ?_
  refine wpList_nil ?_
  replace hS := hS.cut [12, 5, 4, 2, 0]
  show Code.wp _ _ _ _ _
  refine wp_cond_split (hS.get 12 rfl) (fun hb5 => ?_) (fun hb5 => ?_)
  ·have hb5 := of_decide_eq_true hb5
   refine wp_seq ?_
   refine wp_region_lit ?_
   refine sv_r (v := .int .u32 ((n : Nat) : Int)) hS (ex_mv (hS.get 0 rfl)) fun a hS => ?_
   refine sv_r (v := .int .u32 ((n / 4 : Nat) : Int)) hS (ni_shr 2 (hS.get 14 rfl) rfl (by simp only [IntKind.bits]; omega) rfl) fun a hS => ?_
   have hlt := hS.lt
   have hsz := hS.size
   refine sv_call (S := fun v w' => ∃ u, IsUri u ∧ v = .string u) hS rfl rfl (by decide) (ex_call1 cf_laws_uriOf (hS.get 15 rfl)) (Calls.mono (uriOf_any (n / 4) _ (by omega)) (by rintro e w' ⟨u, hu, rfl, rfl⟩; exact ⟨_, rfl, Below.refl _ _, u, hu, rfl⟩)) ?_
   rintro a _ w6 ⟨u, hu, rfl⟩ hbw6 hS
   have huz := hu.size
   refine sv_r (v := .int .u32 ((n : Nat) : Int)) hS (ex_mv (hS.get 0 rfl)) fun a hS => ?_
   refine sv_r (v := .int .u32 ((n / 8 : Nat) : Int)) hS (ni_shr 3 (hS.get 17 rfl) rfl (by simp only [IntKind.bits]; omega) rfl) fun a hS => ?_
   refine sv_r (v := .int .i64 ((n / 8 : Nat) : Int)) hS (ex_cv (hS.get 18 rfl) (cv_uint32_int64 _ (by rw [IntKind.wrap_i64]; omega))) fun a hS => ?_
   refine sv_r (v := .int .i64 ((1 + (n / 8) : Nat) : Int)) hS (ei_add rfl (hS.get 19 rfl) (by rw [IntKind.wrap_i64]; omega)) fun a hS => ?_
   refine sv_r (v := .int .u32 ((n : Nat) : Int)) hS (ex_mv (hS.get 0 rfl)) fun a hS => ?_
   refine sv_r (v := .int .u32 ((n / 128 : Nat) : Int)) hS (ni_shr 7 (hS.get 21 rfl) rfl (by simp only [IntKind.bits]; omega) rfl) fun a hS => ?_
   refine sv_r (v := .int .i64 ((n / 128 : Nat) : Int)) hS (ex_cv (hS.get 22 rfl) (cv_uint32_int64 _ (by rw [IntKind.wrap_i64]; omega))) fun a hS => ?_
   refine sv_r (v := .agg #[.string u, .int .i64 ((1 + (n / 8) : Nat) : Int), .int .i64 ((n / 128 : Nat) : Int)]) hS (by simp only [execOp, List.map_toArray, List.map_cons, List.map_nil, hS.get 16 rfl, hS.get 20 rfl, hS.get 23 rfl]; go_simp) fun a hS => ?_
   refine sv_box hS (hS.get 24 rfl) (bx_spec_Map _) (by decide) ?_
   intro g7 a w8 hg7 hbw8 hwg7 hS
   refine sv_r (v := pt g7 0) hS (ex_as (hS.get 25 rfl)) fun a hS => ?_
   refine wpList_nil ?_
   replace hS := hS.cut [2, 12, 5, 4, 0]
   show Code.wp _ _ _ _ _
   refine wp_ret ?_
   try simp only [Exit.inBlock, Exit.then]
   exact ret_of_ev hS.ev rfl (hS.get 2 rfl) ⟨_, rfl, hS.toBelow, some ⟨u, 1 + n / 8, n / 128⟩, (by intro y hy; obtain rfl := Option.some.inj hy; exact ⟨hu, .inr ⟨by show 1 ≤ 1 + n / 8; omega, by show 1 + n / 8 ≤ 4294967296; omega, by show n / 128 < 4294967296; omega⟩⟩), .new (hS.at 0 rfl)⟩
  ·have hb5 := of_decide_eq_false hb5
   refine wp_skip ?_
   show Code.wp _ _ _ _ _
   refine wp_seq ?_
   refine wp_region_lit ?_
   refine sv_r (v := .pointer none) hS ex_ac fun a hS => ?_
   refine wpList_nil ?_
   replace hS := hS.cut [2, 12, 5, 4, 0]
   show Code.wp _ _ _ _ _
   refine wp_ret ?_
   try simp only [Exit.inBlock, Exit.then]
   exact ret_of_ev hS.ev rfl (hS.get 2 rfl) ⟨_, rfl, hS.toBelow, none, (by intro y hy; cases hy), .nil⟩
theorem segmentOf_any (n : Nat) (hn : n < 4294967296) (w : World) : Calls Tryz.prog 10 #[.int .u32 n] w fun e w' => ∃ v, e = .returned v ∧ Below w.heap.size w w' ∧ ∃ x : Sx, v = .agg x.cells ∧ SegOk x.1 ∧ x.At w' := by
 refine calls_of_ev Tryz.func10 rfl (show 1 ≤ 66 from by decide) ?_
 intro a hE
 have hE : Ev 66 ((0, .int .u32 ((n : Nat) : Int)) :: []) a := hE
 have hS : Sv 66 ((0, .int .u32 ((n : Nat) : Int)) :: []) [] (fun _ => False) w a w := Sv.start hE _ _
 clear hE
 refine wp_seq ?_
 refine wp_region_lit ?_
 refine sv_al hS al_spec_Segment (by decide) ?_
 intro g1 a w2 hg1 hbw2 hwg1 hS
 refine wpList_nil ?_
 replace hS := hS.cut [2, 0]
 show Code.wp _ _ _ _ _
 refine wp_seq ?_
 refine wp_region_lit ?_
 refine sv_r (v := .int .u32 ((n : Nat) : Int)) hS (ex_mv (hS.get 0 rfl)) fun a hS => ?_
 have hlt := hS.lt
 have hsz := hS.size
 refine sv_call (S := fun v w' => ∃ u, IsUri u ∧ v = .string u) hS rfl rfl (by decide) (ex_call1 cf_laws_uriOf (hS.get 4 rfl)) (Calls.mono (uriOf_any (n) _ (by omega)) (by rintro e w' ⟨u, hu, rfl, rfl⟩; exact ⟨_, rfl, Below.refl _ _, u, hu, rfl⟩)) ?_
 rintro a _ w3 ⟨u, hu, rfl⟩ hbw3 hS
 have huz := hu.size
 refine sv_r (v := .int .u32 ((n : Nat) : Int)) hS (ex_mv (hS.get 0 rfl)) fun a hS => ?_
 refine sv_r (v := .int .u32 ((n / 16 : Nat) : Int)) hS (ni_shr 4 (hS.get 6 rfl) rfl (by simp only [IntKind.bits]; omega) rfl) fun a hS => ?_
 refine sv_r (v := .int .u32 ((n / 16 % 160 : Nat) : Int)) hS (ni_rem 160 (hS.get 7 rfl) rfl (by decide)) fun a hS => ?_
 refine sv_r (v := .int .i64 ((n / 16 % 160 : Nat) : Int)) hS (ex_cv (hS.get 8 rfl) (cv_uint32_int _ (by rw [IntKind.wrap_i64]; omega))) fun a hS => ?_
 refine sv_r (v := .int .u32 ((n : Nat) : Int)) hS (ex_mv (hS.get 0 rfl)) fun a hS => ?_
 refine sv_r (v := .int .u32 ((n / 2048 : Nat) : Int)) hS (ni_shr 11 (hS.get 10 rfl) rfl (by simp only [IntKind.bits]; omega) rfl) fun a hS => ?_
 refine sv_r (v := .int .u32 ((n / 2048 % 4 : Nat) : Int)) hS (ei_and (hS.get 11 rfl) rfl (by rw [u32_and3 (by omega) (by omega)]; omega)) fun a hS => ?_
 refine sv_r (v := .bool (decide ((n / 2048 % 4 : Nat) = 1))) hS (ei_eql (hS.get 12 rfl) rfl (by rw [decide_eq_decide]; omega)) fun a hS => ?_
 refine sv_r (v := .agg #[.string ⟨#[]⟩, .string u, .int .i64 ((n / 16 % 160 : Nat) : Int), .int .i64 0, .int .i64 0, .pointer none, .pointer none, .bool (decide ((n / 2048 % 4 : Nat) = 1)), .string ⟨#[]⟩]) hS (by simp only [execOp, List.map_toArray, List.map_cons, List.map_nil, hS.get 5 rfl, hS.get 9 rfl, hS.get 13 rfl]; go_simp) fun a hS => ?_
 refine sv_al hS al_spec_Segment (by decide) ?_
 intro g4 a w5 hg4 hbw5 hwg4 hS
 refine sv_sb (i := 0) (m' := [⟨g4, #[.string ⟨#[]⟩, .string u, .int .i64 ((n / 16 % 160 : Nat) : Int), .int .i64 0, .int .i64 0, .pointer none, .pointer none, .bool (decide ((n / 2048 % 4 : Nat) = 1)), .string ⟨#[]⟩], 40, true⟩, ⟨g1, #[.string ⟨#[]⟩, .string ⟨#[]⟩, .int .i64 0, .int .i64 0, .int .i64 0, .pointer none, .pointer none, .bool false, .string ⟨#[]⟩], 40, true⟩]) hS ag_spec_Segment (hS.get 3 rfl) (hS.get 14 rfl) rfl rfl rfl (by intro u hu; simp only [List.mem_cons, List.not_mem_nil, or_false] at hu; rcases hu with rfl | rfl | rfl | rfl | rfl | rfl | rfl | rfl | rfl <;> rfl) rfl ?_
 intro w6 hty hS
 refine wpList_nil ?_
 replace hS := hS.cut [3, 2, 0]
 obtain ⟨x0, hx0, hA0, hS⟩ : ∃ x : Sx, SegOk x.1 ∧ x.At w6 ∧ Sv 66 ((3, pt g4 0) :: (2, pt g1 0) :: (0, .int .u32 ((n : Nat) : Int)) :: []) [⟨g4, x.cells, 40, true⟩, ⟨g1, #[.string ⟨#[]⟩, .string ⟨#[]⟩, .int .i64 0, .int .i64 0, .int .i64 0, .pointer none, .pointer none, .bool false, .string ⟨#[]⟩], 40, true⟩] (fun _ => False) w a w6 := ⟨(⟨⟨#[]⟩, u, n / 16 % 160, 0, 0, none, none, decide (n / 2048 % 4 = 1), ⟨#[]⟩⟩, .pointer none, .pointer none), ⟨word_nil rfl, hu, by show n / 16 % 160 < 160; omega, .inl ⟨rfl, rfl⟩, (by intro k hk; cases hk), (by intro k hk; cases hk), .inl rfl⟩, ⟨.nil, .nil⟩, hS⟩
 show Code.wp _ _ _ _ _
 refine wp_seq ?_
 refine wp_seq ?_
 refine wp_region_lit ?_
 refine sv_r (v := .int .u32 ((n : Nat) : Int)) hS (ex_mv (hS.get 0 rfl)) fun a hS => ?_
 refine sv_r (v := .int .u32 ((n / 8192 : Nat) : Int)) hS (ni_shr 13 (hS.get 15 rfl) rfl (by simp only [IntKind.bits]; omega) rfl) fun a hS => ?_
 refine sv_r (v := .int .u32 ((n / 8192 % 2 : Nat) : Int)) hS (ei_and (hS.get 16 rfl) rfl (by rw [u32_and1 (by omega) (by omega)]; omega)) fun a hS => ?_
 refine sv_r (v := .bool (decide ((n / 8192 % 2 : Nat) = 1))) hS (ei_eql (hS.get 17 rfl) rfl (by rw [decide_eq_decide]; omega)) fun a hS => ?_
 refine wpList_nil ?_
 replace hS := hS.cut [18, 3, 2, 0]
 show Code.wp _ _ _ _ _
 refine if_join (fun a w' => ∃ x : Sx, SegOk x.1 ∧ x.At w' ∧ Sv 66 ((3, pt g4 0) :: (2, pt g1 0) :: (0, .int .u32 ((n : Nat) : Int)) :: []) [⟨g4, x.cells, 40, true⟩, ⟨g1, #[.string ⟨#[]⟩, .string ⟨#[]⟩, .int .i64 0, .int .i64 0, .int .i64 0, .pointer none, .pointer none, .bool false, .string ⟨#[]⟩], 40, true⟩] (fun _ => False) w a w') (hS.get 18 rfl) ?_ ?_ ?_
 ·intro hb7 Q' hQ'
  have hb7 := of_decide_eq_true hb7
  refine wp_region_lit ?_
  refine sv_r (v := .int .u32 ((n : Nat) : Int)) hS (ex_mv (hS.get 0 rfl)) fun a hS => ?_
  refine sv_r (v := .int .u32 ((n / 32768 : Nat) : Int)) hS (ni_shr 15 (hS.get 19 rfl) rfl (by simp only [IntKind.bits]; omega) rfl) fun a hS => ?_
  have hlt := hS.lt
  have hsz := hS.size
  refine sv_call (S := fun v w' => ∃ s, Word 20 s ∧ v = .string s) hS rfl rfl (by decide) (ex_call2 cf_laws_wordOf (hS.get 20 rfl) rfl) (Calls.mono (wordOf_any (n / 32768) 0 _ (by omega) (by omega)) (by rintro e w' ⟨u, hu, rfl, rfl⟩; exact ⟨_, rfl, Below.refl _ _, u, hu, rfl⟩)) ?_
  rintro a _ w8 ⟨t, ht, rfl⟩ hbw8 hS
  replace hA0 := hA0.ty (TyOnly.of_below (ts := []) hbw8) (by decide)
  refine sv_r (v := pt g4 0) hS (ex_fo (hS.get 3 rfl) fo_spec_Segment_0 rfl) fun a hS => ?_
  refine sv_st (i := 0) (v := .string t) (cs' := #[.string t, .string x0.1.uri, .int .i64 ((x0.1.e : Nat) : Int), .int .i64 ((x0.1.limit : Nat) : Int), .int .i64 ((x0.1.offset : Nat) : Int), x0.2.1, x0.2.2, .bool (x0.1.disc), .string x0.1.date]) (m' := [⟨g4, #[.string t, .string x0.1.uri, .int .i64 ((x0.1.e : Nat) : Int), .int .i64 ((x0.1.limit : Nat) : Int), .int .i64 ((x0.1.offset : Nat) : Int), x0.2.1, x0.2.2, .bool (x0.1.disc), .string x0.1.date], 40, true⟩, ⟨g1, #[.string ⟨#[]⟩, .string ⟨#[]⟩, .int .i64 0, .int .i64 0, .int .i64 0, .pointer none, .pointer none, .bool false, .string ⟨#[]⟩], 40, true⟩]) hS (su_string _) (hS.get 22 rfl) (hS.get 21 rfl) rfl (show 0 < 9 from by decide) rfl rfl ?_
  intro w9 hty hS
  replace hA0 := hA0.ty hty (by decide)
  refine wpList_nil ?_
  replace hS := hS.cut [18, 3, 2, 0]
  refine hQ' _ _ ⟨({ x0.1 with title := t }, x0.2), ⟨ht, hx0.uri, hx0.e, hx0.part, hx0.key, hx0.map, hx0.date⟩, hA0, hS.pick rfl⟩
 ·intro hb7 Q' hQ'
  have hb7 := of_decide_eq_false hb7
  refine wp_skip ?_
  exact hQ' _ _ ⟨x0, hx0, hA0, hS.pick rfl⟩
 ·rintro a w10 ⟨x1, hx1, hA1, hS⟩
  show Code.wp _ _ _ _ _
  refine wp_seq ?_
  refine wp_seq ?_
  refine wp_region_lit ?_
  refine sv_r (v := .int .u32 ((n : Nat) : Int)) hS (ex_mv (hS.get 0 rfl)) fun a hS => ?_
  refine sv_r (v := .int .u32 ((n / 16384 : Nat) : Int)) hS (ni_shr 14 (hS.get 23 rfl) rfl (by simp only [IntKind.bits]; omega) rfl) fun a hS => ?_
  refine sv_r (v := .int .u32 ((n / 16384 % 4 : Nat) : Int)) hS (ei_and (hS.get 24 rfl) rfl (by rw [u32_and3 (by omega) (by omega)]; omega)) fun a hS => ?_
  refine sv_r (v := .bool (decide ((n / 16384 % 4 : Nat) = 1))) hS (ei_eql (hS.get 25 rfl) rfl (by rw [decide_eq_decide]; omega)) fun a hS => ?_
  refine wpList_nil ?_
  replace hS := hS.cut [26, 3, 2, 0]
  show Code.wp _ _ _ _ _
  refine if_join (fun a w' => ∃ x : Sx, SegOk x.1 ∧ x.At w' ∧ Sv 66 ((3, pt g4 0) :: (2, pt g1 0) :: (0, .int .u32 ((n : Nat) : Int)) :: []) [⟨g4, x.cells, 40, true⟩, ⟨g1, #[.string ⟨#[]⟩, .string ⟨#[]⟩, .int .i64 0, .int .i64 0, .int .i64 0, .pointer none, .pointer none, .bool false, .string ⟨#[]⟩], 40, true⟩] (fun _ => False) w a w') (hS.get 26 rfl) ?_ ?_ ?_
  ·intro hb11 Q' hQ'
   have hb11 := of_decide_eq_true hb11
   refine wp_region_lit ?_
   refine sv_r (v := .int .u32 ((n : Nat) : Int)) hS (ex_mv (hS.get 0 rfl)) fun a hS => ?_
   refine sv_r (v := .int .u32 ((n / 32 : Nat) : Int)) hS (ni_shr 5 (hS.get 27 rfl) rfl (by simp only [IntKind.bits]; omega) rfl) fun a hS => ?_
   refine sv_r (v := .int .i64 ((n / 32 : Nat) : Int)) hS (ex_cv (hS.get 28 rfl) (cv_uint32_int64 _ (by rw [IntKind.wrap_i64]; omega))) fun a hS => ?_
   refine sv_r (v := .int .i64 ((1 + (n / 32) : Nat) : Int)) hS (ei_add rfl (hS.get 29 rfl) (by rw [IntKind.wrap_i64]; omega)) fun a hS => ?_
   refine sv_r (v := .int .u32 ((n : Nat) : Int)) hS (ex_mv (hS.get 0 rfl)) fun a hS => ?_
   refine sv_r (v := .int .u32 ((n / 512 : Nat) : Int)) hS (ni_shr 9 (hS.get 31 rfl) rfl (by simp only [IntKind.bits]; omega) rfl) fun a hS => ?_
   refine sv_r (v := .int .i64 ((n / 512 : Nat) : Int)) hS (ex_cv (hS.get 32 rfl) (cv_uint32_int64 _ (by rw [IntKind.wrap_i64]; omega))) fun a hS => ?_
   refine sv_r (v := pt g4 3) hS (ex_fo (hS.get 3 rfl) fo_spec_Segment_3 rfl) fun a hS => ?_
   refine sv_st (i := 0) (v := .int .i64 ((1 + (n / 32) : Nat) : Int)) (cs' := #[.string x1.1.title, .string x1.1.uri, .int .i64 ((x1.1.e : Nat) : Int), .int .i64 ((1 + (n / 32) : Nat) : Int), .int .i64 ((x1.1.offset : Nat) : Int), x1.2.1, x1.2.2, .bool (x1.1.disc), .string x1.1.date]) (m' := [⟨g4, #[.string x1.1.title, .string x1.1.uri, .int .i64 ((x1.1.e : Nat) : Int), .int .i64 ((1 + (n / 32) : Nat) : Int), .int .i64 ((x1.1.offset : Nat) : Int), x1.2.1, x1.2.2, .bool (x1.1.disc), .string x1.1.date], 40, true⟩, ⟨g1, #[.string ⟨#[]⟩, .string ⟨#[]⟩, .int .i64 0, .int .i64 0, .int .i64 0, .pointer none, .pointer none, .bool false, .string ⟨#[]⟩], 40, true⟩]) hS (su_int64 _) (hS.get 34 rfl) (hS.get 30 rfl) rfl (show 3 < 9 from by decide) rfl rfl ?_
   intro w12 hty hS
   replace hA1 := hA1.ty hty (by decide)
   refine sv_r (v := pt g4 4) hS (ex_fo (hS.get 3 rfl) fo_spec_Segment_4 rfl) fun a hS => ?_
   refine sv_st (i := 0) (v := .int .i64 ((n / 512 : Nat) : Int)) (cs' := #[.string x1.1.title, .string x1.1.uri, .int .i64 ((x1.1.e : Nat) : Int), .int .i64 ((1 + (n / 32) : Nat) : Int), .int .i64 ((n / 512 : Nat) : Int), x1.2.1, x1.2.2, .bool (x1.1.disc), .string x1.1.date]) (m' := [⟨g4, #[.string x1.1.title, .string x1.1.uri, .int .i64 ((x1.1.e : Nat) : Int), .int .i64 ((1 + (n / 32) : Nat) : Int), .int .i64 ((n / 512 : Nat) : Int), x1.2.1, x1.2.2, .bool (x1.1.disc), .string x1.1.date], 40, true⟩, ⟨g1, #[.string ⟨#[]⟩, .string ⟨#[]⟩, .int .i64 0, .int .i64 0, .int .i64 0, .pointer none, .pointer none, .bool false, .string ⟨#[]⟩], 40, true⟩]) hS (su_int64 _) (hS.get 35 rfl) (hS.get 33 rfl) rfl (show 4 < 9 from by decide) rfl rfl ?_
   intro w13 hty hS
   replace hA1 := hA1.ty hty (by decide)
   refine wpList_nil ?_
   replace hS := hS.cut [26, 3, 2, 0]
   refine hQ' _ _ ⟨({ x1.1 with limit := 1 + n / 32, offset := n / 512 }, x1.2), ⟨hx1.title, hx1.uri, hx1.e, .inr ⟨by show 1 ≤ 1 + n / 32; omega, by show 1 + n / 32 ≤ 4294967296; omega, by show n / 512 < 4294967296; omega⟩, hx1.key, hx1.map, hx1.date⟩, hA1, hS.pick rfl⟩
  ·intro hb11 Q' hQ'
   have hb11 := of_decide_eq_false hb11
   refine wp_skip ?_
   exact hQ' _ _ ⟨x1, hx1, hA1, hS.pick rfl⟩
  ·rintro a w14 ⟨x2, hx2, hA2, hS⟩
   show Code.wp _ _ _ _ _
   refine wp_seq ?_
   refine wp_seq ?_
   refine wp_region_lit ?_
   refine sv_r (v := .int .u32 ((n : Nat) : Int)) hS (ex_mv (hS.get 0 rfl)) fun a hS => ?_
   refine sv_r (v := .int .u32 ((n / 65536 : Nat) : Int)) hS (ni_shr 16 (hS.get 36 rfl) rfl (by simp only [IntKind.bits]; omega) rfl) fun a hS => ?_
   refine sv_r (v := .int .u32 ((n / 65536 % 4 : Nat) : Int)) hS (ei_and (hS.get 37 rfl) rfl (by rw [u32_and3 (by omega) (by omega)]; omega)) fun a hS => ?_
   refine sv_r (v := .bool (decide ((n / 65536 % 4 : Nat) = 1))) hS (ei_eql (hS.get 38 rfl) rfl (by rw [decide_eq_decide]; omega)) fun a hS => ?_
   refine wpList_nil ?_
   replace hS := hS.cut [39, 3, 2, 0]
   show Code.wp _ _ _ _ _
   refine if_join (fun a w' => ∃ x : Sx, SegOk x.1 ∧ x.At w' ∧ Sv 66 ((3, pt g4 0) :: (2, pt g1 0) :: (0, .int .u32 ((n : Nat) : Int)) :: []) [⟨g4, x.cells, 40, true⟩, ⟨g1, #[.string ⟨#[]⟩, .string ⟨#[]⟩, .int .i64 0, .int .i64 0, .int .i64 0, .pointer none, .pointer none, .bool false, .string ⟨#[]⟩], 40, true⟩] (fun _ => False) w a w') (hS.get 39 rfl) ?_ ?_ ?_
   ·intro hb15 Q' hQ'
    have hb15 := of_decide_eq_true hb15
    refine wp_region_lit ?_
    refine sv_r (v := .int .u32 ((n : Nat) : Int)) hS (ex_mv (hS.get 0 rfl)) fun a hS => ?_
    refine sv_r (v := .int .u32 ((n / 262144 : Nat) : Int)) hS (ni_shr 18 (hS.get 40 rfl) rfl (by simp only [IntKind.bits]; omega) rfl) fun a hS => ?_
    have hlt := hS.lt
    have hsz := hS.size
    refine sv_call (S := fun v w' => ∃ k, (∀ y, k = some y → KeyOk y) ∧ PtrTo 96 (k.map Ky.cells) v w') hS rfl rfl (by decide) (ex_call1 cf_laws_keyOf (hS.get 41 rfl)) (keyOf_any (n / 262144) (by omega) _) ?_
    rintro a vk w16 ⟨ky, hky, hkp⟩ hbw16 hS
    replace hA2 := hA2.ty (TyOnly.of_below (ts := []) hbw16) (by decide)
    have hst : St 26 vk := by rcases hkp with ⟨_, rfl⟩ | ⟨g, _, _, rfl, _⟩ <;> exact su_p_spec_Key _
    refine sv_r (v := pt g4 5) hS (ex_fo (hS.get 3 rfl) fo_spec_Segment_5 rfl) fun a hS => ?_
    refine sv_st (i := 0) (v := vk) (cs' := #[.string x2.1.title, .string x2.1.uri, .int .i64 ((x2.1.e : Nat) : Int), .int .i64 ((x2.1.limit : Nat) : Int), .int .i64 ((x2.1.offset : Nat) : Int), vk, x2.2.2, .bool (x2.1.disc), .string x2.1.date]) (m' := [⟨g4, #[.string x2.1.title, .string x2.1.uri, .int .i64 ((x2.1.e : Nat) : Int), .int .i64 ((x2.1.limit : Nat) : Int), .int .i64 ((x2.1.offset : Nat) : Int), vk, x2.2.2, .bool (x2.1.disc), .string x2.1.date], 40, true⟩, ⟨g1, #[.string ⟨#[]⟩, .string ⟨#[]⟩, .int .i64 0, .int .i64 0, .int .i64 0, .pointer none, .pointer none, .bool false, .string ⟨#[]⟩], 40, true⟩]) hS hst (hS.get 43 rfl) (hS.get 42 rfl) rfl (show 5 < 9 from by decide) rfl rfl ?_
    intro w17 hty hS
    replace hA2 := hA2.ty hty (by decide)
    replace hkp := hkp.ty hty (by decide)
    refine wpList_nil ?_
    replace hS := hS.cut [39, 3, 2, 0]
    refine hQ' _ _ ⟨({ x2.1 with key := ky }, (vk, x2.2.2)), ⟨hx2.title, hx2.uri, hx2.e, hx2.part, hky, hx2.map, hx2.date⟩, ⟨hkp, hA2.2⟩, hS.pick rfl⟩
   ·intro hb15 Q' hQ'
    have hb15 := of_decide_eq_false hb15
    refine wp_skip ?_
    exact hQ' _ _ ⟨x2, hx2, hA2, hS.pick rfl⟩
   ·rintro a w18 ⟨x3, hx3, hA3, hS⟩
    show Code.wp _ _ _ _ _
    refine wp_seq ?_
    refine wp_seq ?_
    refine wp_region_lit ?_
    refine sv_r (v := .int .u32 ((n : Nat) : Int)) hS (ex_mv (hS.get 0 rfl)) fun a hS => ?_
    refine sv_r (v := .int .u32 ((n / 131072 : Nat) : Int)) hS (ni_shr 17 (hS.get 44 rfl) rfl (by simp only [IntKind.bits]; omega) rfl) fun a hS => ?_
    refine sv_r (v := .int .u32 ((n / 131072 % 4 : Nat) : Int)) hS (ei_and (hS.get 45 rfl) rfl (by rw [u32_and3 (by omega) (by omega)]; omega)) fun a hS => ?_
    refine sv_r (v := .bool (decide ((n / 131072 % 4 : Nat) = 1))) hS (ei_eql (hS.get 46 rfl) rfl (by rw [decide_eq_decide]; omega)) fun a hS => ?_
    refine wpList_nil ?_
    replace hS := hS.cut [47, 3, 2, 0]
    show Code.wp _ _ _ _ _
    refine if_join (fun a w' => ∃ x : Sx, SegOk x.1 ∧ x.At w' ∧ Sv 66 ((3, pt g4 0) :: (2, pt g1 0) :: (0, .int .u32 ((n : Nat) : Int)) :: []) [⟨g4, x.cells, 40, true⟩, ⟨g1, #[.string ⟨#[]⟩, .string ⟨#[]⟩, .int .i64 0, .int .i64 0, .int .i64 0, .pointer none, .pointer none, .bool false, .string ⟨#[]⟩], 40, true⟩] (fun _ => False) w a w') (hS.get 47 rfl) ?_ ?_ ?_
    ·intro hb19 Q' hQ'
     have hb19 := of_decide_eq_true hb19
     refine wp_region_lit ?_
     refine sv_r (v := .int .u32 ((n : Nat) : Int)) hS (ex_mv (hS.get 0 rfl)) fun a hS => ?_
     refine sv_r (v := .int .u32 ((n / 524288 : Nat) : Int)) hS (ni_shr 19 (hS.get 48 rfl) rfl (by simp only [IntKind.bits]; omega) rfl) fun a hS => ?_
     have hlt := hS.lt
     have hsz := hS.size
     refine sv_call (S := fun v w' => ∃ k, (∀ y, k = some y → MapOk y) ∧ PtrTo 99 (k.map Mp.cells) v w') hS rfl rfl (by decide) (ex_call1 cf_laws_mapOf (hS.get 49 rfl)) (mapOf_any (n / 524288) (by omega) _) ?_
     rintro a vk w20 ⟨ky, hky, hkp⟩ hbw20 hS
     replace hA3 := hA3.ty (TyOnly.of_below (ts := []) hbw20) (by decide)
     have hst : St 27 vk := by rcases hkp with ⟨_, rfl⟩ | ⟨g, _, _, rfl, _⟩ <;> exact su_p_spec_Map _
     refine sv_r (v := pt g4 6) hS (ex_fo (hS.get 3 rfl) fo_spec_Segment_6 rfl) fun a hS => ?_
     refine sv_st (i := 0) (v := vk) (cs' := #[.string x3.1.title, .string x3.1.uri, .int .i64 ((x3.1.e : Nat) : Int), .int .i64 ((x3.1.limit : Nat) : Int), .int .i64 ((x3.1.offset : Nat) : Int), x3.2.1, vk, .bool (x3.1.disc), .string x3.1.date]) (m' := [⟨g4, #[.string x3.1.title, .string x3.1.uri, .int .i64 ((x3.1.e : Nat) : Int), .int .i64 ((x3.1.limit : Nat) : Int), .int .i64 ((x3.1.offset : Nat) : Int), x3.2.1, vk, .bool (x3.1.disc), .string x3.1.date], 40, true⟩, ⟨g1, #[.string ⟨#[]⟩, .string ⟨#[]⟩, .int .i64 0, .int .i64 0, .int .i64 0, .pointer none, .pointer none, .bool false, .string ⟨#[]⟩], 40, true⟩]) hS hst (hS.get 51 rfl) (hS.get 50 rfl) rfl (show 6 < 9 from by decide) rfl rfl ?_
     intro w21 hty hS
     replace hA3 := hA3.ty hty (by decide)
     replace hkp := hkp.ty hty (by decide)
     refine wpList_nil ?_
     replace hS := hS.cut [47, 3, 2, 0]
     refine hQ' _ _ ⟨({ x3.1 with map := ky }, (x3.2.1, vk)), ⟨hx3.title, hx3.uri, hx3.e, hx3.part, hx3.key, hky, hx3.date⟩, ⟨hA3.1, hkp⟩, hS.pick rfl⟩
    ·intro hb19 Q' hQ'
     have hb19 := of_decide_eq_false hb19
     refine wp_skip ?_
     exact hQ' _ _ ⟨x3, hx3, hA3, hS.pick rfl⟩
    ·rintro a w22 ⟨x4, hx4, hA4, hS⟩
     show Code.wp _ _ _ _ _
     refine wp_seq ?_
     refine wp_seq ?_
     refine wp_region_lit ?_
     refine sv_r (v := .int .u32 ((n : Nat) : Int)) hS (ex_mv (hS.get 0 rfl)) fun a hS => ?_
     refine sv_r (v := .int .u32 ((n / 262144 : Nat) : Int)) hS (ni_shr 18 (hS.get 52 rfl) rfl (by simp only [IntKind.bits]; omega) rfl) fun a hS => ?_
     refine sv_r (v := .int .u32 ((n / 262144 % 4 : Nat) : Int)) hS (ei_and (hS.get 53 rfl) rfl (by rw [u32_and3 (by omega) (by omega)]; omega)) fun a hS => ?_
     refine sv_r (v := .bool (decide ((n / 262144 % 4 : Nat) = 1))) hS (ei_eql (hS.get 54 rfl) rfl (by rw [decide_eq_decide]; omega)) fun a hS => ?_
     refine wpList_nil ?_
     replace hS := hS.cut [55, 3, 2, 0]
     show Code.wp _ _ _ _ _
     refine if_join (fun a w' => ∃ x : Sx, SegOk x.1 ∧ x.At w' ∧ Sv 66 ((3, pt g4 0) :: (2, pt g1 0) :: (0, .int .u32 ((n : Nat) : Int)) :: []) [⟨g4, x.cells, 40, true⟩, ⟨g1, #[.string ⟨#[]⟩, .string ⟨#[]⟩, .int .i64 0, .int .i64 0, .int .i64 0, .pointer none, .pointer none, .bool false, .string ⟨#[]⟩], 40, true⟩] (fun _ => False) w a w') (hS.get 55 rfl) ?_ ?_ ?_
     ·intro hb23 Q' hQ'
      have hb23 := of_decide_eq_true hb23
      refine wp_region_lit ?_
      refine sv_r (v := .int .u32 ((n : Nat) : Int)) hS (ex_mv (hS.get 0 rfl)) fun a hS => ?_
      refine sv_r (v := .int .u32 ((n / 1048576 : Nat) : Int)) hS (ni_shr 20 (hS.get 56 rfl) rfl (by simp only [IntKind.bits]; omega) rfl) fun a hS => ?_
      refine sv_r (v := .int .u32 ((n / 1048576 % 80 : Nat) : Int)) hS (ni_rem 80 (hS.get 57 rfl) rfl (by decide)) fun a hS => ?_
      refine sv_r (v := .int .u32 ((10 + (n / 1048576 % 80) : Nat) : Int)) hS (ei_add rfl (hS.get 58 rfl) (by rw [IntKind.wrap_u32]; omega)) fun a hS => ?_
      refine sv_r (v := .int .u64 ((10 + (n / 1048576 % 80) : Nat) : Int)) hS (ex_cv (hS.get 59 rfl) (cv_uint32_uint64 _ (by rw [IntKind.wrap_u64]; omega))) fun a hS => ?_
      refine sv_callq (v := .string (dec (10 + (n / 1048576 % 80)))) hS rfl rfl (by decide) (ex_call1 cf_spec_Decimal (hS.get 60 rfl)) (Calls.mono (decimal_any (10 + (n / 1048576 % 80)) _ (by omega)) (by rintro e w' ⟨rfl, rfl⟩; exact ⟨rfl, rfl⟩)) ?_
      intro a hS
      have hdd24 := dec_le (n := 10 + (n / 1048576 % 80)) (by omega)
      refine sv_r (v := .string ((⟨#[50, 48]⟩ : ByteArray) ++ (dec (10 + (n / 1048576 % 80))))) hS (ex_add rfl (hS.get 61 rfl) (by simp only [ByteArray.size_append', ByteArray.size_mk', List.size_toArray, List.length_cons, List.length_nil]; omega)) fun a hS => ?_
      refine sv_r (v := .string ((⟨#[50, 48]⟩ : ByteArray) ++ (dec (10 + (n / 1048576 % 80))) ++ (⟨#[45, 48, 49, 45, 48, 50, 84, 48, 51, 58, 48, 52, 58, 48, 53, 46, 54, 55, 56, 43, 48, 49, 58, 48, 48]⟩ : ByteArray))) hS (ex_add (hS.get 62 rfl) rfl (by simp only [ByteArray.size_append', ByteArray.size_mk', List.size_toArray, List.length_cons, List.length_nil]; omega)) fun a hS => ?_
      refine sv_r (v := pt g4 8) hS (ex_fo (hS.get 3 rfl) fo_spec_Segment_8 rfl) fun a hS => ?_
      refine sv_st (i := 0) (v := .string ((⟨#[50, 48]⟩ : ByteArray) ++ (dec (10 + (n / 1048576 % 80))) ++ (⟨#[45, 48, 49, 45, 48, 50, 84, 48, 51, 58, 48, 52, 58, 48, 53, 46, 54, 55, 56, 43, 48, 49, 58, 48, 48]⟩ : ByteArray))) (cs' := #[.string x4.1.title, .string x4.1.uri, .int .i64 ((x4.1.e : Nat) : Int), .int .i64 ((x4.1.limit : Nat) : Int), .int .i64 ((x4.1.offset : Nat) : Int), x4.2.1, x4.2.2, .bool (x4.1.disc), .string ((⟨#[50, 48]⟩ : ByteArray) ++ (dec (10 + (n / 1048576 % 80))) ++ (⟨#[45, 48, 49, 45, 48, 50, 84, 48, 51, 58, 48, 52, 58, 48, 53, 46, 54, 55, 56, 43, 48, 49, 58, 48, 48]⟩ : ByteArray))]) (m' := [⟨g4, #[.string x4.1.title, .string x4.1.uri, .int .i64 ((x4.1.e : Nat) : Int), .int .i64 ((x4.1.limit : Nat) : Int), .int .i64 ((x4.1.offset : Nat) : Int), x4.2.1, x4.2.2, .bool (x4.1.disc), .string ((⟨#[50, 48]⟩ : ByteArray) ++ (dec (10 + (n / 1048576 % 80))) ++ (⟨#[45, 48, 49, 45, 48, 50, 84, 48, 51, 58, 48, 52, 58, 48, 53, 46, 54, 55, 56, 43, 48, 49, 58, 48, 48]⟩ : ByteArray))], 40, true⟩, ⟨g1, #[.string ⟨#[]⟩, .string ⟨#[]⟩, .int .i64 0, .int .i64 0, .int .i64 0, .pointer none, .pointer none, .bool false, .string ⟨#[]⟩], 40, true⟩]) hS (su_string _) (hS.get 64 rfl) (hS.get 63 rfl) rfl (show 8 < 9 from by decide) rfl rfl ?_
      intro w25 hty hS
      replace hA4 := hA4.ty hty (by decide)
      refine wpList_nil ?_
      replace hS := hS.cut [55, 3, 2, 0]
      refine hQ' _ _ ⟨({ x4.1 with date := ((⟨#[50, 48]⟩ : ByteArray) ++ (dec (10 + n / 1048576 % 80))) ++ ⟨#[45, 48, 49, 45, 48, 50, 84, 48, 51, 58, 48, 52, 58, 48, 53, 46, 54, 55, 56, 43, 48, 49, 58, 48, 48]⟩ }, x4.2), ⟨hx4.title, hx4.uri, hx4.e, hx4.part, hx4.key, hx4.map, .inr ⟨10 + n / 1048576 % 80, by omega, by omega, rfl⟩⟩, hA4, hS.pick rfl⟩
     ·intro hb23 Q' hQ'
      have hb23 := of_decide_eq_false hb23
      refine wp_skip ?_
      exact hQ' _ _ ⟨x4, hx4, hA4, hS.pick rfl⟩
     ·rintro a w26 ⟨x5, hx5, hA5, hS⟩
      show Code.wp _ _ _ _ _
      refine wp_seq ?_
      refine wp_region_lit ?_
      refine sv_r (v := .agg x5.cells) hS (ex_lb ag_spec_Segment (hS.get 3 rfl) (hS.at 0 rfl) rfl) fun a hS => ?_
      refine sv_sb (i := 1) (m' := [⟨g4, x5.cells, 40, true⟩, ⟨g1, x5.cells, 40, true⟩]) hS ag_spec_Segment (hS.get 2 rfl) (hS.get 65 rfl) rfl rfl rfl hA5.one rfl ?_
      intro w27 hty hS
      replace hA5 := hA5.ty hty (by decide)
      refine wpList_nil ?_
      replace hS := hS.cut [3, 2, 0]
      show Code.wp _ _ _ _ _
      refine wp_ret ?_
      try simp only [Exit.inBlock, Exit.then]
      exact ret_cell hS.ev rfl ag_spec_Segment (hS.get 2 rfl) (hS.at 1 rfl) rfl ⟨_, rfl, hS.toBelow, x5, rfl, hx5, hA5⟩
end Go.Proofs.YtfonjeoiallhhaaGreatDoor
