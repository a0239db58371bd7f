/- Joined: Cu. -/
import Derived.Test.YtfonjeoiallhhaaGreatDoorB24
/- The walks of laws.wordless, cueOf, toCues and of the reference's text of a cue. -/
set_option maxRecDepth 100000
set_option maxHeartbeats 8000000
namespace Go.Proofs.YtfonjeoiallhhaaGreatDoor
open Go.RowKit
theorem cv_int_uint32 (n : Int) {z : Int} (h : IntKind.u32.wrap n = z) : Cv 3 23 (.int .i64 n) (.int .u32 z) := by subst h; intro w; go_simp
def wsg : ByteArray := ⟨#[97, 98, 99, 100, 101, 102, 88, 89, 90, 48, 49, 56, 57]⟩
theorem wsg_lt : ∀ (i : Nat) (h : i < wsg.size), (wsg[i]'h).toNat < 128 := by decide
/-- What cueOf gives. -/
structure CueG (c : Cq) : Prop where
 ok : CueOk c
 cue : c.syn = 1 → c.typ = 0 → ne c.cue = true
 tm : 1 ≤ c.time ∨ c.typ = 2 ∨ c.syn = 0
/-- A cue's lines. -/
def Cq.text (c : Cq) : ByteArray :=
 if c.syn = 0 then
  let o := ((⟨#[35, 69, 88, 84, 45, 83, 67, 84, 69, 51, 53, 58, 67, 85, 69, 61, 34]⟩ : ByteArray) ++ c.cue) ++ (⟨#[34]⟩ : ByteArray)
  let o := if ne c.id = true then o ++ (((⟨#[44, 73, 68, 61, 34]⟩ : ByteArray) ++ c.id) ++ (⟨#[34]⟩ : ByteArray)) else o
  let o := if c.time ≠ 0 then o ++ ((⟨#[44, 84, 73, 77, 69, 61]⟩ : ByteArray) ++ (shorts c.time)) else o
  o ++ (⟨#[10]⟩ : ByteArray)
 else if c.typ = 0 then ((((⟨#[35, 69, 88, 84, 45, 79, 65, 84, 67, 76, 83, 45, 83, 67, 84, 69, 51, 53, 58]⟩ : ByteArray) ++ c.cue) ++ (⟨#[10, 35, 69, 88, 84, 45, 88, 45, 67, 85, 69, 45, 79, 85, 84, 58]⟩ : ByteArray)) ++ (shorts c.time)) ++ (⟨#[10]⟩ : ByteArray)
 else if c.typ = 1 then ((((((⟨#[35, 69, 88, 84, 45, 88, 45, 67, 85, 69, 45, 79, 85, 84, 45, 67, 79, 78, 84, 58, 69, 108, 97, 112, 115, 101, 100, 84, 105, 109, 101, 61]⟩ : ByteArray) ++ (shorts c.elapsed)) ++ (⟨#[44, 68, 117, 114, 97, 116, 105, 111, 110, 61]⟩ : ByteArray)) ++ (shorts c.time)) ++ (⟨#[44, 83, 67, 84, 69, 51, 53, 61]⟩ : ByteArray)) ++ c.cue) ++ (⟨#[10]⟩ : ByteArray)
 else (⟨#[35, 69, 88, 84, 45, 88, 45, 67, 85, 69, 45, 73, 78, 10]⟩ : ByteArray)
theorem wordless_any (n : Nat) (hn : n < 4294967296) (w : World) : Calls Tryz.prog 45 #[.int .u32 n] w fun e w' => ∃ v, e = .returned v ∧ Below w.heap.size w w' ∧ ∃ s : ByteArray, v = .string s ∧ s.size ≤ 8 := by
 refine calls_of_ev Tryz.func45 rfl (show 1 ≤ 25 from by decide) ?_
 intro a hE
 have hE : Ev 25 ((0, .int .u32 ((n : Nat) : Int)) :: []) a := hE
 have hS : Sv 25 ((0, .int .u32 ((n : Nat) : Int)) :: []) [] (fun _ => False) w a w := Sv.start hE _ _
 clear hE
 refine wp_seq ?_
 refine wp_region_lit ?_
 refine sv_r (v := .string (⟨#[]⟩)) hS ex_ac fun a hS => ?_
 refine wpList_nil ?_
 replace hS := hS.cut [2, 0]
 show Code.wp _ _ _ _ _
 refine wp_seq ?_
 refine wp_region_lit ?_
 refine sv_r (v := .string (⟨#[]⟩)) hS ex_ac fun a hS => ?_
 refine wpList_nil ?_
 replace hS := hS.cut [3, 2, 0]
 show Code.wp _ _ _ _ _
 refine wp_seq ?_
 refine wp_seq ?_
 refine wp_region_lit ?_
 refine sv_r (v := .int .u32 ((n : Nat) : Int)) hS (ex_mv (hS.get 0 rfl)) fun a hS => ?_
 refine sv_r (v := .int .u32 ((n % 9 : Nat) : Int)) hS (ni_rem 9 (hS.get 5 rfl) rfl (by decide)) fun a hS => ?_
 refine sv_r (v := .int .i64 ((n % 9 : Nat) : Int)) hS (ex_cv (hS.get 6 rfl) (cv_uint32_int _ (by rw [IntKind.wrap_i64]; omega))) fun a hS => ?_
 refine sv_r (v := .int .i64 0) hS ex_mc fun a hS => ?_
 refine wpList_nil ?_
 replace hS := hS.cut [8, 7, 3, 2, 0]
 show Code.wp _ _ _ _ _
 have hE : Ev 25 ((8, .int .i64 ((0 : Nat) : Int)) :: (7, .int .i64 ((n % 9 : Nat) : Int)) :: ((3, .string (⟨#[]⟩)) :: (0, .int .u32 ((n : Nat) : Int)) :: [])) a := hS.ev.pick rfl
 refine range_wp2 (N := 25) (n := n % 9) [3, 0] (l0 := ((3, .string (⟨#[]⟩)) :: (0, .int .u32 ((n : Nat) : Int)) :: [])) (fun k l w' => ∃ s : ByteArray, l = ((3, .string s) :: (0, .int .u32 ((n : Nat) : Int)) :: []) ∧ s.size = k ∧ Below w.heap.size w w') (by omega) hE rfl ⟨⟨#[]⟩, rfl, rfl, hS.toBelow⟩ (by decide) (by decide) (by decide) ?_ ?_
 ·clear hE hS
  rintro k l a w1 hk hE ⟨s, rfl, hssz, hbw⟩ Q' hQ'
  have hkk : k < 9 := by omega
  have hlt : (n / 16 + k * 5) % 13 < wsg.size := by show (n / 16 + k * 5) % 13 < 13; omega
  obtain ⟨c, hc⟩ : ∃ c : Nat, c = (wsg[(n / 16 + k * 5) % 13]'hlt).toNat := ⟨_, rfl⟩
  have hc1 : c < 128 := by rw [hc]; exact wsg_lt _ hlt
  have hS : Sv 25 ((8, .int .i64 ((k : Nat) : Int)) :: (7, .int .i64 ((n % 9 : Nat) : Int)) :: (3, .string s) :: (0, .int .u32 ((n : Nat) : Int)) :: []) [] (fun _ => False) w1 a w1 := Sv.start hE _ _
  refine wp_block ?_
  refine wp_seq ?_
  refine wp_region_lit ?_
  refine sv_r (v := .int .i64 ((k : Nat) : Int)) hS (ex_mv (hS.get 8 rfl)) fun a hS => ?_
  refine sv_r (v := .int .i64 ((k : Nat) : Int)) hS (ex_as (hS.get 10 rfl)) fun a hS => ?_
  refine wpList_nil ?_
  replace hS := hS.cut [4, 8, 7, 3, 0]
  show Code.wp _ _ _ _ _
  refine wp_region_lit ?_
  refine sv_r (v := .string s) hS (ex_mv (hS.get 3 rfl)) fun a hS => ?_
  refine sv_r (v := .int .u32 ((n : Nat) : Int)) hS (ex_mv (hS.get 0 rfl)) fun a hS => ?_
  refine sv_r (v := .int .u32 ((n / 16 : Nat) : Int)) hS (ni_shr 4 (hS.get 12 rfl) rfl (by simp only [IntKind.bits]; omega) rfl) fun a hS => ?_
  refine sv_r (v := .int .i64 ((k : Nat) : Int)) hS (ex_mv (hS.get 4 rfl)) fun a hS => ?_
  refine sv_r (v := .int .u32 ((k : Nat) : Int)) hS (ex_cv (hS.get 14 rfl) (cv_int_uint32 _ (by rw [IntKind.wrap_u32]; omega))) fun a hS => ?_
  refine sv_r (v := .int .u32 ((k * 5 : Nat) : Int)) hS (ei_mul (hS.get 15 rfl) rfl (by rw [IntKind.wrap_u32]; omega)) fun a hS => ?_
  refine sv_r (v := .int .u32 (((n / 16) + (k * 5) : Nat) : Int)) hS (ei_add (hS.get 13 rfl) (hS.get 16 rfl) (by rw [IntKind.wrap_u32]; omega)) fun a hS => ?_
  refine sv_r (v := .int .u32 ((((n / 16) + (k * 5)) % 13 : Nat) : Int)) hS (ni_rem 13 (hS.get 17 rfl) rfl (by decide)) fun a hS => ?_
  refine sv_r (v := .int .u8 ((c : Nat) : Int)) hS (by rw [hc]; exact ex_sidx (s := wsg) (i := (n / 16 + k * 5) % 13) rfl (hS.get 18 rfl) hlt) fun a hS => ?_
  refine sv_r (v := .int .i32 ((c : Nat) : Int)) hS (ex_cv (hS.get 19 rfl) (cv_uint8_int32 c (by omega))) fun a hS => ?_
  refine sv_r (v := .string ⟨#[UInt8.ofNat c]⟩) hS (ex_chr1 (hS.get 20 rfl) hc1) fun a hS => ?_
  refine sv_r (v := .string (s ++ (⟨#[UInt8.ofNat c]⟩ : ByteArray))) hS (ex_add (hS.get 11 rfl) (hS.get 21 rfl) (by rw [hssz]; show k + 1 ≤ _; omega)) fun a hS => ?_
  refine sv_r (v := .string (s ++ (⟨#[UInt8.ofNat c]⟩ : ByteArray))) hS (ex_as (hS.get 22 rfl)) fun a hS => ?_
  refine wpList_nil ?_
  replace hS := hS.cut [3, 8, 7, 0]
  show Q' .normal a w1
  exact hQ' _ a w1 rfl (hS.ev.pick (l' := (8, .int .i64 ((k : Nat) : Int)) :: (7, .int .i64 ((n % 9 : Nat) : Int)) :: ((3, .string (s ++ (⟨#[UInt8.ofNat c]⟩ : ByteArray))) :: (0, .int .u32 ((n : Nat) : Int)) :: [])) rfl) ⟨s ++ (⟨#[UInt8.ofNat c]⟩ : ByteArray), rfl, by rw [ByteArray.size_append', hssz]; rfl, hbw⟩
 ·clear hE hS
  rintro l a w2 hE ⟨s, rfl, hssz, hbw⟩
  have hS : Sv 25 ((8, .int .i64 ((n % 9 : Nat) : Int)) :: (7, .int .i64 ((n % 9 : Nat) : Int)) :: (3, .string s) :: (0, .int .u32 ((n : Nat) : Int)) :: []) [] (fun _ => False) w2 a w2 := Sv.start hE _ _
  show Code.wp _ _ _ _ _
  refine wp_seq ?_
  refine wp_region_lit ?_
  refine sv_r (v := .string s) hS (ex_mv (hS.get 3 rfl)) fun a hS => ?_
  refine sv_r (v := .string s) hS (ex_as (hS.get 24 rfl)) fun a hS => ?_
  refine wpList_nil ?_
  replace hS := hS.cut [2, 8, 7, 3, 0]
  show Code.wp _ _ _ _ _
  refine wp_ret ?_
  try simp only [Exit.inBlock, Exit.then]
  exact ret_of_ev hS.ev rfl (hS.get 2 rfl) ⟨_, rfl, hbw.trans (hS.toBelow.mono hbw.size), s, rfl, by omega⟩
theorem cueOf_any (n : Nat) (hn : n < 4294967296) (w : World) : Calls Tryz.prog 27 #[.int .u32 n] w fun e w' => ∃ v, e = .returned v ∧ Below w.heap.size w w' ∧ ∃ k, (∀ y, k = some y → CueG y) ∧ PtrTo 116 (k.map Cq.cells) v w' := by
 refine calls_of_ev Tryz.func27 rfl (show 1 ≤ 58 from by decide) ?_
 intro a hE
 have hE : Ev 58 ((0, .int .u32 ((n : Nat) : Int)) :: []) a := hE
 have hS : Sv 58 ((0, .int .u32 ((n : Nat) : Int)) :: []) [] (fun _ => False) w a w := Sv.start hE _ _
 clear hE
 refine wp_seq ?_
 refine wp_region_lit ?_
 refine sv_r (v := .pointer none) hS ex_ac fun a hS => ?_
 refine wpList_nil ?_
 replace hS := hS.cut [2, 0]
 show Code.wp _ _ _ _ _
 refine wp_seq ?_
 refine wp_region_lit ?_
 refine sv_r (v := .int .u32 ((n : Nat) : Int)) hS (ex_mv (hS.get 0 rfl)) fun a hS => ?_
 refine sv_r (v := .int .u32 ((n / 512 : Nat) : Int)) hS (ni_shr 9 (hS.get 4 rfl) rfl (by simp only [IntKind.bits]; omega) rfl) fun a hS => ?_
 have hlt := hS.lt
 have hsz := hS.size
 refine sv_call (S := fun v w' => ∃ s : ByteArray, v = .string s ∧ s.size ≤ 8) hS rfl rfl (by decide) (ex_call1 cf_laws_wordless (hS.get 5 rfl)) (wordless_any (n / 512) (by omega) _) ?_
 rintro a _ w1 ⟨cw, rfl, hcw⟩ hbw1 hS
 refine sv_r (v := .string ((⟨#[47, 68, 65]⟩ : ByteArray) ++ cw)) hS (ex_add rfl (hS.get 6 rfl) (by (try simp only [ByteArray.size_append', ByteArray.size_mk', List.size_toArray, List.length_cons, List.length_nil]); omega)) fun a hS => ?_
 refine sv_r (v := .string ((⟨#[47, 68, 65]⟩ : ByteArray) ++ cw ++ (⟨#[61]⟩ : ByteArray))) hS (ex_add (hS.get 7 rfl) rfl (by (try simp only [ByteArray.size_append', ByteArray.size_mk', List.size_toArray, List.length_cons, List.length_nil]); omega)) fun a hS => ?_
 refine sv_r (v := .int .u32 ((n : Nat) : Int)) hS (ex_mv (hS.get 0 rfl)) fun a hS => ?_
 refine sv_r (v := .int .u32 ((n / 32 : Nat) : Int)) hS (ni_shr 5 (hS.get 9 rfl) rfl (by simp only [IntKind.bits]; omega) rfl) fun a hS => ?_
 refine sv_r (v := .int .u32 ((n / 32 % 400 : Nat) : Int)) hS (ni_rem 400 (hS.get 10 rfl) rfl (by decide)) fun a hS => ?_
 refine sv_r (v := .int .i64 ((n / 32 % 400 : Nat) : Int)) hS (ex_cv (hS.get 11 rfl) (cv_uint32_int _ (by rw [IntKind.wrap_i64]; omega))) fun a hS => ?_
 refine sv_r (v := .int .i64 ((1 + (n / 32 % 400) : Nat) : Int)) hS (ei_add rfl (hS.get 12 rfl) (by rw [IntKind.wrap_i64]; omega)) fun a hS => ?_
 refine sv_r (v := .agg #[.int .i64 0, .int .i64 0, .string ((⟨#[47, 68, 65]⟩ : ByteArray) ++ cw ++ (⟨#[61]⟩ : ByteArray)), .string ⟨#[]⟩, .int .i64 ((1 + (n / 32 % 400) : Nat) : Int), .int .i64 0]) hS (by simp only [execOp, List.map_toArray, List.map_cons, List.map_nil, hS.get 8 rfl, hS.get 13 rfl]; go_simp) fun a hS => ?_
 refine sv_box hS (hS.get 14 rfl) (bx_spec_Cue _) (by decide) ?_
 intro g2 a w3 hg2 hbw3 hwg2 hS
 refine sv_r (v := pt g2 0) hS (ex_as (hS.get 15 rfl)) fun a hS => ?_
 refine wpList_nil ?_
 replace hS := hS.cut [3, 2, 0]
 show Code.wp _ _ _ _ _
 refine wp_seq ?_
 refine wp_seq ?_
 refine wp_region_lit ?_
 refine sv_r (v := .int .u32 ((n : Nat) : Int)) hS (ex_mv (hS.get 0 rfl)) fun a hS => ?_
 refine sv_r (v := .int .u32 ((n % 6 : Nat) : Int)) hS (ni_rem 6 (hS.get 16 rfl) rfl (by decide)) fun a hS => ?_
 refine wpList_nil ?_
 replace hS := hS.cut [17, 3, 2, 0]
 show Code.wp _ _ _ _ _
 refine wp_block ?_
 refine wp_seq ?_
 refine wp_region_lit ?_
 refine sv_r (v := .bool (decide ((n % 6 : Nat) = 0))) hS (ei_eql (hS.get 17 rfl) rfl (by rw [decide_eq_decide]; omega)) fun a hS => ?_
 refine sv_r (v := .bool (decide ((n % 6 : Nat) = 0))) hS (ex_as (hS.get 19 rfl)) fun a hS => ?_
 refine wpList_nil ?_
 replace hS := hS.cut [18, 17, 3, 2, 0]
 show Code.wp _ _ _ _ _
 refine wp_cond_split (hS.get 18 rfl) (fun hb4 => ?_) (fun hb4 => ?_)
 ·have hb4 := of_decide_eq_true hb4
  refine wp_seq ?_
  refine wp_region_lit ?_
  refine sv_r (v := pt g2 0) hS (ex_mv (hS.get 3 rfl)) fun a hS => ?_
  refine sv_r (v := .int .u32 ((n : Nat) : Int)) hS (ex_mv (hS.get 0 rfl)) fun a hS => ?_
  refine sv_r (v := .int .u32 ((n / 128 : Nat) : Int)) hS (ni_shr 7 (hS.get 21 rfl) rfl (by simp only [IntKind.bits]; omega) rfl) fun a hS => ?_
  have hlt := hS.lt
  have hsz := hS.size
  refine sv_call (S := fun v w' => ∃ s : ByteArray, v = .string s ∧ s.size ≤ 8) hS rfl rfl (by decide) (ex_call1 cf_laws_wordless (hS.get 22 rfl)) (wordless_any (n / 128) (by omega) _) ?_
  rintro a _ w5 ⟨iw, rfl, hiw⟩ hbw5 hS
  refine sv_r (v := pt g2 0) hS (ex_nc (hS.get 20 rfl)) fun a hS => ?_
  refine sv_r (v := pt g2 3) hS (ex_fo (hS.get 24 rfl) fo_spec_Cue_3 rfl) fun a hS => ?_
  refine sv_st (i := 0) (v := .string iw) (cs' := #[.int .i64 0, .int .i64 0, .string ((⟨#[47, 68, 65]⟩ : ByteArray) ++ cw ++ (⟨#[61]⟩ : ByteArray)), .string iw, .int .i64 ((1 + (n / 32 % 400) : Nat) : Int), .int .i64 0]) (m' := [⟨g2, #[.int .i64 0, .int .i64 0, .string ((⟨#[47, 68, 65]⟩ : ByteArray) ++ cw ++ (⟨#[61]⟩ : ByteArray)), .string iw, .int .i64 ((1 + (n / 32 % 400) : Nat) : Int), .int .i64 0], 116, true⟩]) hS (su_string _) (hS.get 25 rfl) (hS.get 23 rfl) rfl (show 3 < 6 from by decide) rfl rfl ?_
  intro w6 hty hS
  refine wpList_nil ?_
  replace hS := hS.cut [18, 17, 3, 2, 0]
  show Code.wp _ _ _ _ _
  refine wp_seq ?_
  refine wp_region_lit ?_
  refine sv_r (v := .int .u32 ((n : Nat) : Int)) hS (ex_mv (hS.get 0 rfl)) fun a hS => ?_
  refine sv_r (v := .int .u32 ((n / 1048576 : Nat) : Int)) hS (ni_shr 20 (hS.get 26 rfl) rfl (by simp only [IntKind.bits]; omega) rfl) fun a hS => ?_
  refine sv_r (v := .int .u32 ((n / 1048576 % 2 : Nat) : Int)) hS (ei_and (hS.get 27 rfl) rfl (by rw [u32_and1 (by omega) (by omega)]; omega)) fun a hS => ?_
  refine sv_r (v := .bool (decide ((n / 1048576 % 2 : Nat) = 1))) hS (ei_eql (hS.get 28 rfl) rfl (by rw [decide_eq_decide]; omega)) fun a hS => ?_
  refine wpList_nil ?_
  replace hS := hS.cut [29, 18, 17, 3, 2, 0]
  show Code.wp _ _ _ _ _
  refine wp_cond_split (hS.get 29 rfl) (fun hb7 => ?_) (fun hb7 => ?_)
  ·have hb7 := of_decide_eq_true hb7
   refine wp_region_lit ?_
   refine sv_r (v := pt g2 0) hS (ex_mv (hS.get 3 rfl)) fun a hS => ?_
   refine sv_r (v := pt g2 0) hS (ex_nc (hS.get 30 rfl)) fun a hS => ?_
   refine sv_r (v := pt g2 4) hS (ex_fo (hS.get 31 rfl) fo_spec_Cue_4 rfl) fun a hS => ?_
   refine sv_st (i := 0) (v := .int .i64 0) (cs' := #[.int .i64 0, .int .i64 0, .string ((⟨#[47, 68, 65]⟩ : ByteArray) ++ cw ++ (⟨#[61]⟩ : ByteArray)), .string iw, .int .i64 0, .int .i64 0]) (m' := [⟨g2, #[.int .i64 0, .int .i64 0, .string ((⟨#[47, 68, 65]⟩ : ByteArray) ++ cw ++ (⟨#[61]⟩ : ByteArray)), .string iw, .int .i64 0, .int .i64 0], 116, true⟩]) hS (su_int _) (hS.get 32 rfl) rfl rfl (show 4 < 6 from by decide) rfl rfl ?_
   intro w8 hty hS
   refine wpList_nil ?_
   replace hS := hS.cut [29, 18, 17, 3, 2, 0]
   show Code.wp _ _ _ _ _
   refine wp_seq ?_
   refine wp_region_lit ?_
   refine sv_r (v := pt g2 0) hS (ex_mv (hS.get 3 rfl)) fun a hS => ?_
   refine sv_r (v := pt g2 0) hS (ex_as (hS.get 57 rfl)) fun a hS => ?_
   refine wpList_nil ?_
   replace hS := hS.cut [2, 29, 18, 17, 3, 0]
   show Code.wp _ _ _ _ _
   refine wp_ret ?_
   try simp only [Exit.inBlock, Exit.then]
   refine ret_of_ev hS.ev rfl (hS.get 2 rfl) ⟨_, rfl, hS.toBelow, some ⟨0, 0, ((⟨#[47, 68, 65]⟩ : ByteArray) ++ cw ++ (⟨#[61]⟩ : ByteArray)), iw, 0, 0⟩, ?_, .new (hS.at 0 rfl)⟩
   intro y hy
   obtain rfl := Option.some.inj hy
   have hcz : ∀ s : ByteArray, s.size ≤ 8 → ((⟨#[47, 68, 65]⟩ : ByteArray) ++ s ++ (⟨#[61]⟩ : ByteArray)).size ≤ 100 := by intro s hs; (try simp only [ByteArray.size_append', ByteArray.size_mk', List.size_toArray, List.length_cons, List.length_nil]); omega
   have hcn : ∀ s : ByteArray, ne ((⟨#[47, 68, 65]⟩ : ByteArray) ++ s ++ (⟨#[61]⟩ : ByteArray)) = true := by intro s; simp [ne]
   refine ⟨⟨?_, ?_, ?_, ?_, ?_, ?_⟩, ?_, ?_⟩ <;> dsimp only <;> first | exact .inr (.inr rfl) | exact .inr (.inl rfl) | exact .inl (by omega) | omega | decide | exact hcz _ hcw | exact Nat.le_trans hiw (by decide) | exact fun _ _ => hcn _ | exact fun h => absurd h (by decide) | exact fun _ h => absurd h (by decide)
  ·have hb7 := of_decide_eq_false hb7
   refine wp_skip ?_
   show Code.wp _ _ _ _ _
   refine wp_seq ?_
   refine wp_region_lit ?_
   refine sv_r (v := pt g2 0) hS (ex_mv (hS.get 3 rfl)) fun a hS => ?_
   refine sv_r (v := pt g2 0) hS (ex_as (hS.get 57 rfl)) fun a hS => ?_
   refine wpList_nil ?_
   replace hS := hS.cut [2, 29, 18, 17, 3, 0]
   show Code.wp _ _ _ _ _
   refine wp_ret ?_
   try simp only [Exit.inBlock, Exit.then]
   refine ret_of_ev hS.ev rfl (hS.get 2 rfl) ⟨_, rfl, hS.toBelow, some ⟨0, 0, ((⟨#[47, 68, 65]⟩ : ByteArray) ++ cw ++ (⟨#[61]⟩ : ByteArray)), iw, (1 + (n / 32 % 400)), 0⟩, ?_, .new (hS.at 0 rfl)⟩
   intro y hy
   obtain rfl := Option.some.inj hy
   have hcz : ∀ s : ByteArray, s.size ≤ 8 → ((⟨#[47, 68, 65]⟩ : ByteArray) ++ s ++ (⟨#[61]⟩ : ByteArray)).size ≤ 100 := by intro s hs; (try simp only [ByteArray.size_append', ByteArray.size_mk', List.size_toArray, List.length_cons, List.length_nil]); omega
   have hcn : ∀ s : ByteArray, ne ((⟨#[47, 68, 65]⟩ : ByteArray) ++ s ++ (⟨#[61]⟩ : ByteArray)) = true := by intro s; simp [ne]
   refine ⟨⟨?_, ?_, ?_, ?_, ?_, ?_⟩, ?_, ?_⟩ <;> dsimp only <;> first | exact .inr (.inr rfl) | exact .inr (.inl rfl) | exact .inl (by omega) | omega | decide | exact hcz _ hcw | exact Nat.le_trans hiw (by decide) | exact fun _ _ => hcn _ | exact fun h => absurd h (by decide) | exact fun _ h => absurd h (by decide)
 ·have hb4 := of_decide_eq_false hb4
  refine wp_seq ?_
  refine wp_region_lit ?_
  refine sv_r (v := .bool (decide ((n % 6 : Nat) = 1))) hS (ei_eql (hS.get 17 rfl) rfl (by rw [decide_eq_decide]; omega)) fun a hS => ?_
  refine sv_r (v := .bool (decide ((n % 6 : Nat) = 1))) hS (ex_as (hS.get 34 rfl)) fun a hS => ?_
  refine wpList_nil ?_
  replace hS := hS.cut [33, 18, 17, 3, 2, 0]
  show Code.wp _ _ _ _ _
  refine wp_cond_split (hS.get 33 rfl) (fun hb9 => ?_) (fun hb9 => ?_)
  ·have hb9 := of_decide_eq_true hb9
   refine wp_region_lit ?_
   refine sv_r (v := pt g2 0) hS (ex_mv (hS.get 3 rfl)) fun a hS => ?_
   refine sv_r (v := pt g2 0) hS (ex_nc (hS.get 35 rfl)) fun a hS => ?_
   refine sv_r (v := pt g2 0) hS (ex_fo (hS.get 36 rfl) fo_spec_Cue_0 rfl) fun a hS => ?_
   refine sv_st (i := 0) (v := .int .i64 1) (cs' := #[.int .i64 1, .int .i64 0, .string ((⟨#[47, 68, 65]⟩ : ByteArray) ++ cw ++ (⟨#[61]⟩ : ByteArray)), .string ⟨#[]⟩, .int .i64 ((1 + (n / 32 % 400) : Nat) : Int), .int .i64 0]) (m' := [⟨g2, #[.int .i64 1, .int .i64 0, .string ((⟨#[47, 68, 65]⟩ : ByteArray) ++ cw ++ (⟨#[61]⟩ : ByteArray)), .string ⟨#[]⟩, .int .i64 ((1 + (n / 32 % 400) : Nat) : Int), .int .i64 0], 116, true⟩]) hS (su_int _) (hS.get 37 rfl) rfl rfl (show 0 < 6 from by decide) rfl rfl ?_
   intro w10 hty hS
   refine wpList_nil ?_
   replace hS := hS.cut [33, 18, 17, 3, 2, 0]
   show Code.wp _ _ _ _ _
   refine wp_seq ?_
   refine wp_region_lit ?_
   refine sv_r (v := pt g2 0) hS (ex_mv (hS.get 3 rfl)) fun a hS => ?_
   refine sv_r (v := pt g2 0) hS (ex_as (hS.get 57 rfl)) fun a hS => ?_
   refine wpList_nil ?_
   replace hS := hS.cut [2, 33, 18, 17, 3, 0]
   show Code.wp _ _ _ _ _
   refine wp_ret ?_
   try simp only [Exit.inBlock, Exit.then]
   refine ret_of_ev hS.ev rfl (hS.get 2 rfl) ⟨_, rfl, hS.toBelow, some ⟨1, 0, ((⟨#[47, 68, 65]⟩ : ByteArray) ++ cw ++ (⟨#[61]⟩ : ByteArray)), ⟨#[]⟩, (1 + (n / 32 % 400)), 0⟩, ?_, .new (hS.at 0 rfl)⟩
   intro y hy
   obtain rfl := Option.some.inj hy
   have hcz : ∀ s : ByteArray, s.size ≤ 8 → ((⟨#[47, 68, 65]⟩ : ByteArray) ++ s ++ (⟨#[61]⟩ : ByteArray)).size ≤ 100 := by intro s hs; (try simp only [ByteArray.size_append', ByteArray.size_mk', List.size_toArray, List.length_cons, List.length_nil]); omega
   have hcn : ∀ s : ByteArray, ne ((⟨#[47, 68, 65]⟩ : ByteArray) ++ s ++ (⟨#[61]⟩ : ByteArray)) = true := by intro s; simp [ne]
   refine ⟨⟨?_, ?_, ?_, ?_, ?_, ?_⟩, ?_, ?_⟩ <;> dsimp only <;> first | exact .inr (.inr rfl) | exact .inr (.inl rfl) | exact .inl (by omega) | omega | decide | exact hcz _ hcw | exact Nat.le_trans hiw (by decide) | exact fun _ _ => hcn _ | exact fun h => absurd h (by decide) | exact fun _ h => absurd h (by decide)
  ·have hb9 := of_decide_eq_false hb9
   refine wp_seq ?_
   refine wp_region_lit ?_
   refine sv_r (v := .bool (decide ((n % 6 : Nat) = 2))) hS (ei_eql (hS.get 17 rfl) rfl (by rw [decide_eq_decide]; omega)) fun a hS => ?_
   refine sv_r (v := .bool (decide ((n % 6 : Nat) = 2))) hS (ex_as (hS.get 39 rfl)) fun a hS => ?_
   refine wpList_nil ?_
   replace hS := hS.cut [38, 33, 18, 17, 3, 2, 0]
   show Code.wp _ _ _ _ _
   refine wp_cond_split (hS.get 38 rfl) (fun hb11 => ?_) (fun hb11 => ?_)
   ·have hb11 := of_decide_eq_true hb11
    refine wp_region_lit ?_
    refine sv_r (v := pt g2 0) hS (ex_mv (hS.get 3 rfl)) fun a hS => ?_
    refine sv_r (v := pt g2 0) hS (ex_mv (hS.get 3 rfl)) fun a hS => ?_
    refine sv_r (v := pt g2 0) hS (ex_mv (hS.get 3 rfl)) fun a hS => ?_
    refine sv_r (v := .int .u32 ((n : Nat) : Int)) hS (ex_mv (hS.get 0 rfl)) fun a hS => ?_
    refine sv_r (v := .int .u32 ((n / 8192 : Nat) : Int)) hS (ni_shr 13 (hS.get 43 rfl) rfl (by simp only [IntKind.bits]; omega) rfl) fun a hS => ?_
    refine sv_r (v := .int .u32 ((n / 8192 % 300 : Nat) : Int)) hS (ni_rem 300 (hS.get 44 rfl) rfl (by decide)) fun a hS => ?_
    refine sv_r (v := .int .i64 ((n / 8192 % 300 : Nat) : Int)) hS (ex_cv (hS.get 45 rfl) (cv_uint32_int _ (by rw [IntKind.wrap_i64]; omega))) fun a hS => ?_
    refine sv_r (v := pt g2 0) hS (ex_nc (hS.get 40 rfl)) fun a hS => ?_
    refine sv_r (v := pt g2 0) hS (ex_fo (hS.get 47 rfl) fo_spec_Cue_0 rfl) fun a hS => ?_
    refine sv_st (i := 0) (v := .int .i64 1) (cs' := #[.int .i64 1, .int .i64 0, .string ((⟨#[47, 68, 65]⟩ : ByteArray) ++ cw ++ (⟨#[61]⟩ : ByteArray)), .string ⟨#[]⟩, .int .i64 ((1 + (n / 32 % 400) : Nat) : Int), .int .i64 0]) (m' := [⟨g2, #[.int .i64 1, .int .i64 0, .string ((⟨#[47, 68, 65]⟩ : ByteArray) ++ cw ++ (⟨#[61]⟩ : ByteArray)), .string ⟨#[]⟩, .int .i64 ((1 + (n / 32 % 400) : Nat) : Int), .int .i64 0], 116, true⟩]) hS (su_int _) (hS.get 48 rfl) rfl rfl (show 0 < 6 from by decide) rfl rfl ?_
    intro w12 hty hS
    refine sv_r (v := pt g2 0) hS (ex_nc (hS.get 41 rfl)) fun a hS => ?_
    refine sv_r (v := pt g2 1) hS (ex_fo (hS.get 49 rfl) fo_spec_Cue_1 rfl) fun a hS => ?_
    refine sv_st (i := 0) (v := .int .i64 1) (cs' := #[.int .i64 1, .int .i64 1, .string ((⟨#[47, 68, 65]⟩ : ByteArray) ++ cw ++ (⟨#[61]⟩ : ByteArray)), .string ⟨#[]⟩, .int .i64 ((1 + (n / 32 % 400) : Nat) : Int), .int .i64 0]) (m' := [⟨g2, #[.int .i64 1, .int .i64 1, .string ((⟨#[47, 68, 65]⟩ : ByteArray) ++ cw ++ (⟨#[61]⟩ : ByteArray)), .string ⟨#[]⟩, .int .i64 ((1 + (n / 32 % 400) : Nat) : Int), .int .i64 0], 116, true⟩]) hS (su_int _) (hS.get 50 rfl) rfl rfl (show 1 < 6 from by decide) rfl rfl ?_
    intro w13 hty hS
    refine sv_r (v := pt g2 0) hS (ex_nc (hS.get 42 rfl)) fun a hS => ?_
    refine sv_r (v := pt g2 5) hS (ex_fo (hS.get 51 rfl) fo_spec_Cue_5 rfl) fun a hS => ?_
    refine sv_st (i := 0) (v := .int .i64 ((n / 8192 % 300 : Nat) : Int)) (cs' := #[.int .i64 1, .int .i64 1, .string ((⟨#[47, 68, 65]⟩ : ByteArray) ++ cw ++ (⟨#[61]⟩ : ByteArray)), .string ⟨#[]⟩, .int .i64 ((1 + (n / 32 % 400) : Nat) : Int), .int .i64 ((n / 8192 % 300 : Nat) : Int)]) (m' := [⟨g2, #[.int .i64 1, .int .i64 1, .string ((⟨#[47, 68, 65]⟩ : ByteArray) ++ cw ++ (⟨#[61]⟩ : ByteArray)), .string ⟨#[]⟩, .int .i64 ((1 + (n / 32 % 400) : Nat) : Int), .int .i64 ((n / 8192 % 300 : Nat) : Int)], 116, true⟩]) hS (su_int _) (hS.get 52 rfl) (hS.get 46 rfl) rfl (show 5 < 6 from by decide) rfl rfl ?_
    intro w14 hty hS
    refine wpList_nil ?_
    replace hS := hS.cut [38, 33, 18, 17, 3, 2, 0]
    show Code.wp _ _ _ _ _
    refine wp_seq ?_
    refine wp_region_lit ?_
    refine sv_r (v := pt g2 0) hS (ex_mv (hS.get 3 rfl)) fun a hS => ?_
    refine sv_r (v := pt g2 0) hS (ex_as (hS.get 57 rfl)) fun a hS => ?_
    refine wpList_nil ?_
    replace hS := hS.cut [2, 38, 33, 18, 17, 3, 0]
    show Code.wp _ _ _ _ _
    refine wp_ret ?_
    try simp only [Exit.inBlock, Exit.then]
    refine ret_of_ev hS.ev rfl (hS.get 2 rfl) ⟨_, rfl, hS.toBelow, some ⟨1, 1, ((⟨#[47, 68, 65]⟩ : ByteArray) ++ cw ++ (⟨#[61]⟩ : ByteArray)), ⟨#[]⟩, (1 + (n / 32 % 400)), (n / 8192 % 300)⟩, ?_, .new (hS.at 0 rfl)⟩
    intro y hy
    obtain rfl := Option.some.inj hy
    have hcz : ∀ s : ByteArray, s.size ≤ 8 → ((⟨#[47, 68, 65]⟩ : ByteArray) ++ s ++ (⟨#[61]⟩ : ByteArray)).size ≤ 100 := by intro s hs; (try simp only [ByteArray.size_append', ByteArray.size_mk', List.size_toArray, List.length_cons, List.length_nil]); omega
    have hcn : ∀ s : ByteArray, ne ((⟨#[47, 68, 65]⟩ : ByteArray) ++ s ++ (⟨#[61]⟩ : ByteArray)) = true := by intro s; simp [ne]
    refine ⟨⟨?_, ?_, ?_, ?_, ?_, ?_⟩, ?_, ?_⟩ <;> dsimp only <;> first | exact .inr (.inr rfl) | exact .inr (.inl rfl) | exact .inl (by omega) | omega | decide | exact hcz _ hcw | exact Nat.le_trans hiw (by decide) | exact fun _ _ => hcn _ | exact fun h => absurd h (by decide) | exact fun _ h => absurd h (by decide)
   ·have hb11 := of_decide_eq_false hb11
    refine wp_seq ?_
    refine wp_region_lit ?_
    refine sv_r (v := .bool (decide ((n % 6 : Nat) = 3))) hS (ei_eql (hS.get 17 rfl) rfl (by rw [decide_eq_decide]; omega)) fun a hS => ?_
    refine sv_r (v := .bool (decide ((n % 6 : Nat) = 3))) hS (ex_as (hS.get 54 rfl)) fun a hS => ?_
    refine wpList_nil ?_
    replace hS := hS.cut [53, 38, 33, 18, 17, 3, 2, 0]
    show Code.wp _ _ _ _ _
    refine wp_cond_split (hS.get 53 rfl) (fun hb15 => ?_) (fun hb15 => ?_)
    ·have hb15 := of_decide_eq_true hb15
     refine wp_region_lit ?_
     refine sv_r (v := .agg #[.int .i64 1, .int .i64 2, .string ⟨#[]⟩, .string ⟨#[]⟩, .int .i64 0, .int .i64 0]) hS (by simp only [execOp, List.map_toArray, List.map_cons, List.map_nil, ]; go_simp) fun a hS => ?_
     refine sv_box hS (hS.get 55 rfl) (bx_spec_Cue _) (by decide) ?_
     intro g16 a w17 hg16 hbw17 hwg16 hS
     refine sv_r (v := pt g16 0) hS (ex_as (hS.get 56 rfl)) fun a hS => ?_
     refine wpList_nil ?_
     replace hS := hS.cut [3, 53, 38, 33, 18, 17, 2, 0]
     show Code.wp _ _ _ _ _
     refine wp_seq ?_
     refine wp_region_lit ?_
     refine sv_r (v := pt g16 0) hS (ex_mv (hS.get 3 rfl)) fun a hS => ?_
     refine sv_r (v := pt g16 0) hS (ex_as (hS.get 57 rfl)) fun a hS => ?_
     refine wpList_nil ?_
     replace hS := hS.cut [2, 3, 53, 38, 33, 18, 17, 0]
     show Code.wp _ _ _ _ _
     refine wp_ret ?_
     try simp only [Exit.inBlock, Exit.then]
     refine ret_of_ev hS.ev rfl (hS.get 2 rfl) ⟨_, rfl, hS.toBelow, some ⟨1, 2, ⟨#[]⟩, ⟨#[]⟩, 0, 0⟩, ?_, .new (hS.at 0 rfl)⟩
     intro y hy
     obtain rfl := Option.some.inj hy
     have hcz : ∀ s : ByteArray, s.size ≤ 8 → ((⟨#[47, 68, 65]⟩ : ByteArray) ++ s ++ (⟨#[61]⟩ : ByteArray)).size ≤ 100 := by intro s hs; (try simp only [ByteArray.size_append', ByteArray.size_mk', List.size_toArray, List.length_cons, List.length_nil]); omega
     have hcn : ∀ s : ByteArray, ne ((⟨#[47, 68, 65]⟩ : ByteArray) ++ s ++ (⟨#[61]⟩ : ByteArray)) = true := by intro s; simp [ne]
     refine ⟨⟨?_, ?_, ?_, ?_, ?_, ?_⟩, ?_, ?_⟩ <;> dsimp only <;> first | exact .inr (.inr rfl) | exact .inr (.inl rfl) | exact .inl (by omega) | omega | decide | exact hcz _ hcw | exact Nat.le_trans hiw (by decide) | exact fun _ _ => hcn _ | exact fun h => absurd h (by decide) | exact fun _ h => absurd h (by decide)
    ·have hb15 := of_decide_eq_false hb15
     refine wp_seq ?_
     refine wp_region_lit ?_
     refine sv_r (v := .pointer none) hS ex_ac fun a hS => ?_
     refine wpList_nil ?_
     replace hS := hS.cut [2, 53, 38, 33, 18, 17, 3, 0]
     show Code.wp _ _ _ _ _
     refine wp_ret ?_
     try simp only [Exit.inBlock, Exit.then]
     exact ret_of_ev hS.ev rfl (hS.get 2 rfl) ⟨_, rfl, hS.toBelow, none, (by intro y hy; cases hy), .nil⟩
theorem toCues_any (k : Option Cq) (hok : ∀ c, k = some c → CueG c) (v : Value) (w : World) (h : PtrTo 116 (k.map Cq.cells) v w) : Calls Tryz.prog 28 #[v] w fun e w' => ∃ v', e = .returned v' ∧ Below w.heap.size w w' ∧ OneOf1 74 (k.map Cq.icells) v' w' := by
 cases k with
 | none =>
  obtain ⟨_, rfl⟩ | ⟨_, _, h, _⟩ := h
  rotate_left
  ·cases h
  refine calls_of_ev Tryz.func28 rfl (show 1 ≤ 35 from by decide) ?_
  intro a hE
  have hE : Ev 35 ((0, .pointer none) :: []) a := hE
  have hS : Sv 35 ((0, .pointer none) :: []) [] (fun _ => False) w a w := Sv.start hE _ _
  clear hE
  refine wp_seq ?_
  refine wp_region_lit ?_
  refine sv_r (v := .slice none 0 0) hS ex_ac fun a hS => ?_
  refine wpList_nil ?_
  replace hS := hS.cut [2, 0]
  show Code.wp _ _ _ _ _
  refine wp_seq ?_
  refine wp_seq ?_
  refine wp_region_lit ?_
  refine sv_r (v := .pointer none) hS (ex_mv (hS.get 0 rfl)) fun a hS => ?_
  refine sv_r (v := .bool true) hS (ex_pe eqp_p_spec_Cue (hS.get 3 rfl)) fun a hS => ?_
  refine wpList_nil ?_
  replace hS := hS.cut [4, 2, 0]
  show Code.wp _ _ _ _ _
  refine cond_t (hS.get 4 rfl) ?_
  refine wp_seq ?_
  refine wp_region_lit ?_
  refine sv_r (v := .slice none 0 0) hS ex_ac fun a hS => ?_
  refine wpList_nil ?_
  replace hS := hS.cut [2, 4, 0]
  show Code.wp _ _ _ _ _
  refine wp_ret ?_
  try simp only [Exit.inBlock, Exit.then]
  exact ret_of_ev hS.ev rfl (hS.get 2 rfl) ⟨_, rfl, hS.toBelow, .nil⟩
 | some k =>
  obtain ⟨h, _⟩ | ⟨g, cs, hcs, rfl, hg⟩ := h
  ·cases h
  obtain rfl := Option.some.inj hcs
  have hk := hok k rfl
  have hk3 := hk.ok.time
  have hk4 := hk.ok.elapsed
  refine calls_of_ev Tryz.func28 rfl (show 1 ≤ 35 from by decide) ?_
  intro a hE
  have hE : Ev 35 ((0, pt g 0) :: []) a := hE
  have hS : Sv 35 ((0, pt g 0) :: []) [] (fun _ => False) w a w := Sv.start hE _ _
  clear hE
  replace hS : Sv 35 ((0, pt g 0) :: []) [⟨g, k.cells, 116, false⟩] (fun _ => False) w a w := (hS.addR hg (by intro b hb; cases hb)).pick rfl
  refine wp_seq ?_
  refine wp_region_lit ?_
  refine sv_r (v := .slice none 0 0) hS ex_ac fun a hS => ?_
  refine wpList_nil ?_
  replace hS := hS.cut [2, 0]
  show Code.wp _ _ _ _ _
  refine wp_seq ?_
  refine wp_seq ?_
  refine wp_region_lit ?_
  refine sv_r (v := pt g 0) hS (ex_mv (hS.get 0 rfl)) fun a hS => ?_
  refine sv_r (v := .bool false) hS (ex_pe eqp_p_spec_Cue (hS.get 3 rfl)) fun a hS => ?_
  refine wpList_nil ?_
  replace hS := hS.cut [4, 2, 0]
  show Code.wp _ _ _ _ _
  refine cond_f (hS.get 4 rfl) ?_
  refine wp_skip ?_
  show Code.wp _ _ _ _ _
  refine wp_seq ?_
  refine wp_region_og1 (n := 35) 28 [Asr.eq (pt g 0), Asr.eq (pt g 0), Asr.eq (pt g 0), Asr.eq (.int .i64 ((k.syn : Nat) : Int)), Asr.eq (pt g 0), Asr.eq (pt g 0), Asr.eq (pt g 1), Asr.eq (.int .i64 ((k.typ : Nat) : Int)), Asr.eq (pt g 0), Asr.eq (pt g 0), Asr.eq (pt g 2), Asr.eq (.string k.cue), Asr.eq (pt g 0), Asr.eq (pt g 0), Asr.eq (pt g 3), Asr.eq (.string k.id), Asr.eq (pt g 0), Asr.eq (pt g 0), Asr.eq (pt g 4), Asr.eq (.int .i64 ((k.time : Nat) : Int)), Asr.eq (.float .f64 (floatOfInt .f64 (((k.time : Nat) : Int)))), Asr.eq (.float .f64 (e8 k.time)), Asr.eq (pt g 0), Asr.eq (pt g 0), Asr.eq (pt g 5), Asr.eq (.int .i64 ((k.elapsed : Nat) : Int)), Asr.eq (.float .f64 (floatOfInt .f64 (((k.elapsed : Nat) : Int)))), Asr.eq (.float .f64 (e8 k.elapsed))] (by kernel_rfl) (by kernel_rfl) (by kernel_rfl) (by simp) (by kernel_rfl) hS.ev.size ⟨⟩ ?_ ?_
  ·simp only [List.take_succ_cons, List.take_zero]
   refine ⟨?_, ?_, ?_, ?_, ?_, ?_, ?_, ?_, ?_, ?_, ?_, ?_, ?_, ?_, ?_, ?_, ?_, ?_, ?_, ?_, ?_, ?_, ?_, ?_, ?_, ?_, ?_, ?_, trivial⟩
   ·intro a wx c
    have e_0 : a.eval (.tmp 0) = pt g 0 := c.outE (by decide +kernel) (hS.get 0 rfl)
    clear c
    exact og_val (ex_mv e_0) rfl
   ·intro a wx c
    have e_5 : a.eval (.tmp 5) = pt g 0 := c.slot 0 _ (by decide +kernel) rfl
    clear c
    exact og_val (ex_nc e_5) rfl
   ·intro a wx c
    have e_6 : a.eval (.tmp 6) = pt g 0 := c.slot 1 _ (by decide +kernel) rfl
    clear c
    exact og_val (ex_fo e_6 fo_spec_Cue_0 rfl) rfl
   ·intro a wx c
    have e_7 : a.eval (.tmp 7) = pt g 0 := c.slot 2 _ (by decide +kernel) rfl
    have hO := hS.ogc c
    clear c
    exact og_val (ex_ld e_7 lt_int (cell_of_heap (v := .int .i64 ((k.syn : Nat) : Int)) (hO.at 0 rfl) rfl)) rfl
   ·intro a wx c
    have e_0 : a.eval (.tmp 0) = pt g 0 := c.outE (by decide +kernel) (hS.get 0 rfl)
    clear c
    exact og_val (ex_mv e_0) rfl
   ·intro a wx c
    have e_9 : a.eval (.tmp 9) = pt g 0 := c.slot 4 _ (by decide +kernel) rfl
    clear c
    exact og_val (ex_nc e_9) rfl
   ·intro a wx c
    have e_10 : a.eval (.tmp 10) = pt g 0 := c.slot 5 _ (by decide +kernel) rfl
    clear c
    exact og_val (ex_fo e_10 fo_spec_Cue_1 rfl) rfl
   ·intro a wx c
    have e_11 : a.eval (.tmp 11) = pt g 1 := c.slot 6 _ (by decide +kernel) rfl
    have hO := hS.ogc c
    clear c
    exact og_val (ex_ld e_11 lt_int (cell_of_heap (v := .int .i64 ((k.typ : Nat) : Int)) (hO.at 0 rfl) rfl)) rfl
   ·intro a wx c
    have e_0 : a.eval (.tmp 0) = pt g 0 := c.outE (by decide +kernel) (hS.get 0 rfl)
    clear c
    exact og_val (ex_mv e_0) rfl
   ·intro a wx c
    have e_13 : a.eval (.tmp 13) = pt g 0 := c.slot 8 _ (by decide +kernel) rfl
    clear c
    exact og_val (ex_nc e_13) rfl
   ·intro a wx c
    have e_14 : a.eval (.tmp 14) = pt g 0 := c.slot 9 _ (by decide +kernel) rfl
    clear c
    exact og_val (ex_fo e_14 fo_spec_Cue_2 rfl) rfl
   ·intro a wx c
    have e_15 : a.eval (.tmp 15) = pt g 2 := c.slot 10 _ (by decide +kernel) rfl
    have hO := hS.ogc c
    clear c
    exact og_val (ex_ld e_15 lt_string (cell_of_heap (v := .string k.cue) (hO.at 0 rfl) rfl)) rfl
   ·intro a wx c
    have e_0 : a.eval (.tmp 0) = pt g 0 := c.outE (by decide +kernel) (hS.get 0 rfl)
    clear c
    exact og_val (ex_mv e_0) rfl
   ·intro a wx c
    have e_17 : a.eval (.tmp 17) = pt g 0 := c.slot 12 _ (by decide +kernel) rfl
    clear c
    exact og_val (ex_nc e_17) rfl
   ·intro a wx c
    have e_18 : a.eval (.tmp 18) = pt g 0 := c.slot 13 _ (by decide +kernel) rfl
    clear c
    exact og_val (ex_fo e_18 fo_spec_Cue_3 rfl) rfl
   ·intro a wx c
    have e_19 : a.eval (.tmp 19) = pt g 3 := c.slot 14 _ (by decide +kernel) rfl
    have hO := hS.ogc c
    clear c
    exact og_val (ex_ld e_19 lt_string (cell_of_heap (v := .string k.id) (hO.at 0 rfl) rfl)) rfl
   ·intro a wx c
    have e_0 : a.eval (.tmp 0) = pt g 0 := c.outE (by decide +kernel) (hS.get 0 rfl)
    clear c
    exact og_val (ex_mv e_0) rfl
   ·intro a wx c
    have e_21 : a.eval (.tmp 21) = pt g 0 := c.slot 16 _ (by decide +kernel) rfl
    clear c
    exact og_val (ex_nc e_21) rfl
   ·intro a wx c
    have e_22 : a.eval (.tmp 22) = pt g 0 := c.slot 17 _ (by decide +kernel) rfl
    clear c
    exact og_val (ex_fo e_22 fo_spec_Cue_4 rfl) rfl
   ·intro a wx c
    have e_23 : a.eval (.tmp 23) = pt g 4 := c.slot 18 _ (by decide +kernel) rfl
    have hO := hS.ogc c
    clear c
    exact og_val (ex_ld e_23 lt_int (cell_of_heap (v := .int .i64 ((k.time : Nat) : Int)) (hO.at 0 rfl) rfl)) rfl
   ·intro a wx c
    have e_24 : a.eval (.tmp 24) = .int .i64 ((k.time : Nat) : Int) := c.slot 19 _ (by decide +kernel) rfl
    clear c
    exact og_val (ex_cv e_24 (cv_int_float64 _)) rfl
   ·intro a wx c
    have e_25 : a.eval (.tmp 25) = .float .f64 (floatOfInt .f64 (((k.time : Nat) : Int))) := c.slot 20 _ (by decide +kernel) rfl
    clear c
    exact og_val (ex_quo8 e_25 (by omega)) rfl
   ·intro a wx c
    have e_0 : a.eval (.tmp 0) = pt g 0 := c.outE (by decide +kernel) (hS.get 0 rfl)
    clear c
    exact og_val (ex_mv e_0) rfl
   ·intro a wx c
    have e_27 : a.eval (.tmp 27) = pt g 0 := c.slot 22 _ (by decide +kernel) rfl
    clear c
    exact og_val (ex_nc e_27) rfl
   ·intro a wx c
    have e_28 : a.eval (.tmp 28) = pt g 0 := c.slot 23 _ (by decide +kernel) rfl
    clear c
    exact og_val (ex_fo e_28 fo_spec_Cue_5 rfl) rfl
   ·intro a wx c
    have e_29 : a.eval (.tmp 29) = pt g 5 := c.slot 24 _ (by decide +kernel) rfl
    have hO := hS.ogc c
    clear c
    exact og_val (ex_ld e_29 lt_int (cell_of_heap (v := .int .i64 ((k.elapsed : Nat) : Int)) (hO.at 0 rfl) rfl)) rfl
   ·intro a wx c
    have e_30 : a.eval (.tmp 30) = .int .i64 ((k.elapsed : Nat) : Int) := c.slot 25 _ (by decide +kernel) rfl
    clear c
    exact og_val (ex_cv e_30 (cv_int_float64 _)) rfl
   ·intro a wx c
    have e_31 : a.eval (.tmp 31) = .float .f64 (floatOfInt .f64 (((k.elapsed : Nat) : Int))) := c.slot 26 _ (by decide +kernel) rfl
    clear c
    exact og_val (ex_quo8 e_31 (by omega)) rfl
  ·intro a w1 c hbw1
   replace hS : Sv 35 ((32, .float .f64 (e8 k.elapsed)) :: (26, .float .f64 (e8 k.time)) :: (20, .string k.id) :: (16, .string k.cue) :: (12, .int .i64 ((k.typ : Nat) : Int)) :: (8, .int .i64 ((k.syn : Nat) : Int)) :: (0, pt g 0) :: (2, .slice none 0 0) :: (4, .bool false) :: []) [⟨g, k.cells, 116, false⟩] (fun _ => False) w a w1 := ((((((((((hS.ogh c).know (c.outE (by decide +kernel) (hS.get 4 rfl))).know (c.outE (by decide +kernel) (hS.get 2 rfl))).know (c.outE (by decide +kernel) (hS.get 0 rfl))).know (c.slot 3 _ (by decide +kernel) rfl)).know (c.slot 7 _ (by decide +kernel) rfl)).know (c.slot 11 _ (by decide +kernel) rfl)).know (c.slot 15 _ (by decide +kernel) rfl)).know (c.slot 21 _ (by decide +kernel) rfl)).know (c.slot 27 _ (by decide +kernel) rfl))
   clear c
   simp only [List.drop_succ_cons, List.drop_zero]
   refine sv_r (v := .agg #[.int .i64 ((k.syn : Nat) : Int), .int .i64 ((k.typ : Nat) : Int), .string k.cue, .string k.id, .float .f64 (e8 k.time), .float .f64 (e8 k.elapsed)]) hS (by simp only [execOp, List.map_toArray, List.map_cons, List.map_nil, hS.get 8 rfl, hS.get 12 rfl, hS.get 16 rfl, hS.get 20 rfl, hS.get 26 rfl, hS.get 32 rfl]; go_simp) fun a hS => ?_
   refine sv_new (T := 74) (cs := #[.int .i64 ((k.syn : Nat) : Int), .int .i64 ((k.typ : Nat) : Int), .string k.cue, .string k.id, .float .f64 (e8 k.time), .float .f64 (e8 k.elapsed)]) hS rfl rfl (by decide) (fun g => .slice (some ⟨g, 0, none⟩) 1 1) (by simp only [execOp, List.map_toArray, List.map_cons, List.map_nil, hS.get 33 rfl]; go_simp) ?_
   intro g2 a w3 hg2 hbw3 hwg2 hS
   refine sv_r (v := .slice (some ⟨g2, 0, none⟩) 1 1) hS (ex_as (hS.get 34 rfl)) fun a hS => ?_
   refine wpList_nil ?_
   replace hS := hS.cut [2, 0, 4]
   show Code.wp _ _ _ _ _
   refine wp_ret ?_
   try simp only [Exit.inBlock, Exit.then]
   exact ret_of_ev hS.ev rfl (hS.get 2 rfl) ⟨_, rfl, hS.toBelow, .new (hS.at 0 rfl)⟩
theorem cueText_any (k : Cq) (hk : CueOk k) (w : World) : Calls Tryz.prog 46 #[.agg k.cells] w fun e w' => e = .returned (.string k.text) ∧ Below w.heap.size w w' := by
 obtain ⟨q1, q2, q3, q4, q5, q6⟩ := hk
 have hs1 := shorts_size (e := k.time) (by omega)
 have hs2 := shorts_size (e := k.elapsed) (by omega)
 refine calls_of_ev Tryz.func46 rfl (show 1 ≤ 63 from by decide) ?_
 intro a hE
 have hE : Ev 63 ((0, .agg k.cells) :: []) a := hE
 have hS : Sv 63 ((0, .agg k.cells) :: []) [] (fun _ => False) w a w := Sv.start hE _ _
 clear hE
 refine wp_seq ?_
 refine wp_region_lit ?_
 refine sv_box hS (hS.get 0 rfl) (bx_spec_Cue _) (by decide) ?_
 intro g1 a w2 hg1 hbw2 hwg1 hS
 refine sv_r (v := .string (⟨#[]⟩)) hS ex_ac fun a hS => ?_
 refine wpList_nil ?_
 replace hS := hS.cut [2, 1]
 show Code.wp _ _ _ _ _
 refine wp_seq ?_
 refine wp_block ?_
 refine wp_seq ?_
 refine wp_region_lit ?_
 refine sv_r (v := pt g1 0) hS (ex_fo (hS.get 1 rfl) fo_spec_Cue_0 rfl) fun a hS => ?_
 refine sv_r (v := .int .i64 ((k.syn : Nat) : Int)) hS (ex_ld (hS.get 5 rfl) lt_int (cell_of_heap (v := .int .i64 ((k.syn : Nat) : Int)) (hS.at 0 rfl) rfl)) fun a hS => ?_
 refine sv_r (v := .bool (decide ((k.syn : Nat) = 0))) hS (ei_eql (hS.get 6 rfl) rfl (by rw [decide_eq_decide]; omega)) fun a hS => ?_
 refine sv_r (v := .bool (decide ((k.syn : Nat) = 0))) hS (ex_as (hS.get 7 rfl)) fun a hS => ?_
 refine wpList_nil ?_
 replace hS := hS.cut [4, 2, 1]
 show Code.wp _ _ _ _ _
 refine wp_cond_split (hS.get 4 rfl) (fun hb3 => ?_) (fun hb3 => ?_)
 ·have hb3 := of_decide_eq_true hb3
  refine wp_seq ?_
  refine wp_region_lit ?_
  refine sv_r (v := pt g1 2) hS (ex_fo (hS.get 1 rfl) fo_spec_Cue_2 rfl) fun a hS => ?_
  refine sv_r (v := .string k.cue) hS (ex_ld (hS.get 8 rfl) lt_string (cell_of_heap (v := .string k.cue) (hS.at 0 rfl) rfl)) fun a hS => ?_
  refine sv_r (v := .string ((⟨#[35, 69, 88, 84, 45, 83, 67, 84, 69, 51, 53, 58, 67, 85, 69, 61, 34]⟩ : ByteArray) ++ k.cue)) hS (ex_add rfl (hS.get 9 rfl) (by (try simp only [ByteArray.size_append', ByteArray.size_mk', List.size_toArray, List.length_cons, List.length_nil]); omega)) fun a hS => ?_
  refine sv_r (v := .string ((⟨#[35, 69, 88, 84, 45, 83, 67, 84, 69, 51, 53, 58, 67, 85, 69, 61, 34]⟩ : ByteArray) ++ k.cue ++ (⟨#[34]⟩ : ByteArray))) hS (ex_add (hS.get 10 rfl) rfl (by (try simp only [ByteArray.size_append', ByteArray.size_mk', List.size_toArray, List.length_cons, List.length_nil]); omega)) fun a hS => ?_
  refine sv_r (v := .string ((⟨#[35, 69, 88, 84, 45, 83, 67, 84, 69, 51, 53, 58, 67, 85, 69, 61, 34]⟩ : ByteArray) ++ k.cue ++ (⟨#[34]⟩ : ByteArray))) hS (ex_as (hS.get 11 rfl)) fun a hS => ?_
  refine wpList_nil ?_
  replace hS := hS.cut [3, 4, 2, 1]
  show Code.wp _ _ _ _ _
  refine wp_seq ?_
  refine wp_seq ?_
  refine wp_region_lit ?_
  refine sv_r (v := pt g1 3) hS (ex_fo (hS.get 1 rfl) fo_spec_Cue_3 rfl) fun a hS => ?_
  refine sv_r (v := .string k.id) hS (ex_ld (hS.get 12 rfl) lt_string (cell_of_heap (v := .string k.id) (hS.at 0 rfl) rfl)) fun a hS => ?_
  refine sv_r (v := .bool (ne k.id)) hS (ex_ne0 (hS.get 13 rfl)) fun a hS => ?_
  refine wpList_nil ?_
  replace hS := hS.cut [14, 3, 4, 2, 1]
  show Code.wp _ _ _ _ _
  refine if_join (fun a w' => ∃ zz : ByteArray, zz = (if (ne k.id) = true then (⟨#[35, 69, 88, 84, 45, 83, 67, 84, 69, 51, 53, 58, 67, 85, 69, 61, 34]⟩ : ByteArray) ++ k.cue ++ (⟨#[34]⟩ : ByteArray) ++ ((⟨#[44, 73, 68, 61, 34]⟩ : ByteArray) ++ k.id ++ (⟨#[34]⟩ : ByteArray)) else (⟨#[35, 69, 88, 84, 45, 83, 67, 84, 69, 51, 53, 58, 67, 85, 69, 61, 34]⟩ : ByteArray) ++ k.cue ++ (⟨#[34]⟩ : ByteArray)) ∧ zz.size ≤ 300 ∧ Sv 63 ((3, .string zz) :: (4, .bool (decide ((k.syn : Nat) = 0))) :: (2, .string (⟨#[]⟩)) :: (1, pt g1 0) :: []) [⟨g1, k.cells, 116, true⟩] (fun _ => False) w a w') (hS.get 14 rfl) ?_ ?_ ?_
  ·intro hb4 Q' hQ'
   refine wp_region_lit ?_
   refine sv_r (v := .string ((⟨#[35, 69, 88, 84, 45, 83, 67, 84, 69, 51, 53, 58, 67, 85, 69, 61, 34]⟩ : ByteArray) ++ k.cue ++ (⟨#[34]⟩ : ByteArray))) hS (ex_mv (hS.get 3 rfl)) fun a hS => ?_
   refine sv_r (v := pt g1 3) hS (ex_fo (hS.get 1 rfl) fo_spec_Cue_3 rfl) fun a hS => ?_
   refine sv_r (v := .string k.id) hS (ex_ld (hS.get 16 rfl) lt_string (cell_of_heap (v := .string k.id) (hS.at 0 rfl) rfl)) fun a hS => ?_
   refine sv_r (v := .string ((⟨#[44, 73, 68, 61, 34]⟩ : ByteArray) ++ k.id)) hS (ex_add rfl (hS.get 17 rfl) (by (try simp only [ByteArray.size_append', ByteArray.size_mk', List.size_toArray, List.length_cons, List.length_nil]); omega)) fun a hS => ?_
   refine sv_r (v := .string ((⟨#[44, 73, 68, 61, 34]⟩ : ByteArray) ++ k.id ++ (⟨#[34]⟩ : ByteArray))) hS (ex_add (hS.get 18 rfl) rfl (by (try simp only [ByteArray.size_append', ByteArray.size_mk', List.size_toArray, List.length_cons, List.length_nil]); omega)) fun a hS => ?_
   refine sv_r (v := .string ((⟨#[35, 69, 88, 84, 45, 83, 67, 84, 69, 51, 53, 58, 67, 85, 69, 61, 34]⟩ : ByteArray) ++ k.cue ++ (⟨#[34]⟩ : ByteArray) ++ ((⟨#[44, 73, 68, 61, 34]⟩ : ByteArray) ++ k.id ++ (⟨#[34]⟩ : ByteArray)))) hS (ex_add (hS.get 15 rfl) (hS.get 19 rfl) (by (try simp only [ByteArray.size_append', ByteArray.size_mk', List.size_toArray, List.length_cons, List.length_nil]); omega)) fun a hS => ?_
   refine sv_r (v := .string ((⟨#[35, 69, 88, 84, 45, 83, 67, 84, 69, 51, 53, 58, 67, 85, 69, 61, 34]⟩ : ByteArray) ++ k.cue ++ (⟨#[34]⟩ : ByteArray) ++ ((⟨#[44, 73, 68, 61, 34]⟩ : ByteArray) ++ k.id ++ (⟨#[34]⟩ : ByteArray)))) hS (ex_as (hS.get 20 rfl)) fun a hS => ?_
   refine wpList_nil ?_
   replace hS := hS.cut [3, 14, 4, 2, 1]
   exact hQ' _ _ ⟨_, rfl, by rw [if_pos hb4]; (try simp only [ByteArray.size_append', ByteArray.size_mk', List.size_toArray, List.length_cons, List.length_nil]); omega, by rw [if_pos hb4]; exact hS.pick rfl⟩
  ·intro hb4 Q' hQ'
   refine wp_skip ?_
   exact hQ' _ _ ⟨_, rfl, by rw [if_neg (by rw [hb4]; decide)]; (try simp only [ByteArray.size_append', ByteArray.size_mk', List.size_toArray, List.length_cons, List.length_nil]); omega, by rw [if_neg (by rw [hb4]; decide)]; exact hS.pick rfl⟩
  ·rintro a w5 ⟨o1, ho1, hzo1, hS⟩
   show Code.wp _ _ _ _ _
   refine wp_seq ?_
   refine wp_seq ?_
   refine wp_region_lit ?_
   refine sv_r (v := pt g1 4) hS (ex_fo (hS.get 1 rfl) fo_spec_Cue_4 rfl) fun a hS => ?_
   refine sv_r (v := .int .i64 ((k.time : Nat) : Int)) hS (ex_ld (hS.get 21 rfl) lt_int (cell_of_heap (v := .int .i64 ((k.time : Nat) : Int)) (hS.at 0 rfl) rfl)) fun a hS => ?_
   refine sv_r (v := .bool (decide ((k.time : Nat) ≠ 0))) hS (ei_neq (hS.get 22 rfl) rfl (by rw [decide_eq_decide]; omega)) fun a hS => ?_
   refine wpList_nil ?_
   replace hS := hS.cut [23, 3, 4, 2, 1]
   show Code.wp _ _ _ _ _
   refine if_join (fun a w' => ∃ zz : ByteArray, zz = (if (k.time : Nat) ≠ 0 then o1 ++ ((⟨#[44, 84, 73, 77, 69, 61]⟩ : ByteArray) ++ shorts k.time) else o1) ∧ zz.size ≤ 400 ∧ Sv 63 ((3, .string zz) :: (4, .bool (decide ((k.syn : Nat) = 0))) :: (2, .string (⟨#[]⟩)) :: (1, pt g1 0) :: []) [⟨g1, k.cells, 116, true⟩] (fun _ => False) w a w') (hS.get 23 rfl) ?_ ?_ ?_
   ·intro hb6 Q' hQ'
    have hb6 := of_decide_eq_true hb6
    refine wp_region_lit ?_
    refine sv_r (v := .string o1) hS (ex_mv (hS.get 3 rfl)) fun a hS => ?_
    refine sv_r (v := pt g1 4) hS (ex_fo (hS.get 1 rfl) fo_spec_Cue_4 rfl) fun a hS => ?_
    refine sv_r (v := .int .i64 ((k.time : Nat) : Int)) hS (ex_ld (hS.get 25 rfl) lt_int (cell_of_heap (v := .int .i64 ((k.time : Nat) : Int)) (hS.at 0 rfl) rfl)) fun a hS => ?_
    refine sv_callv (v := .string (shorts k.time)) hS rfl rfl (by decide) (ex_call1 cf_spec_short (hS.get 26 rfl)) (short_any k.time (by omega) _) ?_
    intro a w7 hbw7 hS
    refine sv_r (v := .string ((⟨#[44, 84, 73, 77, 69, 61]⟩ : ByteArray) ++ shorts k.time)) hS (ex_add rfl (hS.get 27 rfl) (by (try simp only [ByteArray.size_append', ByteArray.size_mk', List.size_toArray, List.length_cons, List.length_nil]); omega)) fun a hS => ?_
    refine sv_r (v := .string (o1 ++ ((⟨#[44, 84, 73, 77, 69, 61]⟩ : ByteArray) ++ shorts k.time))) hS (ex_add (hS.get 24 rfl) (hS.get 28 rfl) (by (try simp only [ByteArray.size_append', ByteArray.size_mk', List.size_toArray, List.length_cons, List.length_nil]); omega)) fun a hS => ?_
    refine sv_r (v := .string (o1 ++ ((⟨#[44, 84, 73, 77, 69, 61]⟩ : ByteArray) ++ shorts k.time))) hS (ex_as (hS.get 29 rfl)) fun a hS => ?_
    refine wpList_nil ?_
    replace hS := hS.cut [3, 23, 4, 2, 1]
    exact hQ' _ _ ⟨_, rfl, by rw [if_pos hb6]; (try simp only [ByteArray.size_append', ByteArray.size_mk', List.size_toArray, List.length_cons, List.length_nil]); omega, by rw [if_pos hb6]; exact hS.pick rfl⟩
   ·intro hb6 Q' hQ'
    have hb6 := of_decide_eq_false hb6
    refine wp_skip ?_
    exact hQ' _ _ ⟨_, rfl, by rw [if_neg hb6]; (try simp only [ByteArray.size_append', ByteArray.size_mk', List.size_toArray, List.length_cons, List.length_nil]); omega, by rw [if_neg hb6]; exact hS.pick rfl⟩
   ·rintro a w8 ⟨o2, ho2, hzo2, hS⟩
    show Code.wp _ _ _ _ _
    refine wp_seq ?_
    refine wp_region_lit ?_
    refine sv_r (v := .string o2) hS (ex_mv (hS.get 3 rfl)) fun a hS => ?_
    refine sv_r (v := .string (o2 ++ (⟨#[10]⟩ : ByteArray))) hS (ex_add (hS.get 30 rfl) rfl (by (try simp only [ByteArray.size_append', ByteArray.size_mk', List.size_toArray, List.length_cons, List.length_nil]); omega)) fun a hS => ?_
    refine sv_r (v := .string (o2 ++ (⟨#[10]⟩ : ByteArray))) hS (ex_as (hS.get 31 rfl)) fun a hS => ?_
    refine wpList_nil ?_
    replace hS := hS.cut [2, 3, 4, 1]
    show Code.wp _ _ _ _ _
    refine wp_ret ?_
    try simp only [Exit.inBlock, Exit.then]
    refine ret_of_ev hS.ev rfl (hS.get 2 rfl) ⟨?_, hS.toBelow⟩
    simp only [Cq.text, if_pos hb3] ; rw [ho2, ho1]
 ·have hb3 := of_decide_eq_false hb3
  refine wp_seq ?_
  refine wp_region_lit ?_
  refine sv_r (v := pt g1 1) hS (ex_fo (hS.get 1 rfl) fo_spec_Cue_1 rfl) fun a hS => ?_
  refine sv_r (v := .int .i64 ((k.typ : Nat) : Int)) hS (ex_ld (hS.get 33 rfl) lt_int (cell_of_heap (v := .int .i64 ((k.typ : Nat) : Int)) (hS.at 0 rfl) rfl)) fun a hS => ?_
  refine sv_r (v := .bool (decide ((k.typ : Nat) = 0))) hS (ei_eql (hS.get 34 rfl) rfl (by rw [decide_eq_decide]; omega)) fun a hS => ?_
  refine sv_r (v := .bool (decide ((k.typ : Nat) = 0))) hS (ex_as (hS.get 35 rfl)) fun a hS => ?_
  refine wpList_nil ?_
  replace hS := hS.cut [32, 4, 2, 1]
  show Code.wp _ _ _ _ _
  refine wp_cond_split (hS.get 32 rfl) (fun hb9 => ?_) (fun hb9 => ?_)
  ·have hb9 := of_decide_eq_true hb9
   refine wp_seq ?_
   refine wp_region_og1 (n := 63) 7 [Asr.eq (pt g1 2), Asr.eq (.string k.cue), Asr.eq (.string ((⟨#[35, 69, 88, 84, 45, 79, 65, 84, 67, 76, 83, 45, 83, 67, 84, 69, 51, 53, 58]⟩ : ByteArray) ++ k.cue)), Asr.eq (.string ((⟨#[35, 69, 88, 84, 45, 79, 65, 84, 67, 76, 83, 45, 83, 67, 84, 69, 51, 53, 58]⟩ : ByteArray) ++ k.cue ++ (⟨#[10, 35, 69, 88, 84, 45, 88, 45, 67, 85, 69, 45, 79, 85, 84, 58]⟩ : ByteArray))), Asr.eq (pt g1 4), Asr.eq (.int .i64 ((k.time : Nat) : Int)), Asr.eq (.string (shorts k.time))] (by kernel_rfl) (by kernel_rfl) (by kernel_rfl) (by simp) (by kernel_rfl) hS.ev.size ⟨⟩ ?_ ?_
   ·simp only [List.take_succ_cons, List.take_zero]
    refine ⟨?_, ?_, ?_, ?_, ?_, ?_, ?_, trivial⟩
    ·intro a wx c
     have e_1 : a.eval (.tmp 1) = pt g1 0 := c.outE (by decide +kernel) (hS.get 1 rfl)
     clear c
     exact og_val (ex_fo e_1 fo_spec_Cue_2 rfl) rfl
    ·intro a wx c
     have e_36 : a.eval (.tmp 36) = pt g1 2 := c.slot 0 _ (by decide +kernel) rfl
     have hO := hS.ogc c
     clear c
     exact og_val (ex_ld e_36 lt_string (cell_of_heap (v := .string k.cue) (hO.at 0 rfl) rfl)) rfl
    ·intro a wx c
     have e_37 : a.eval (.tmp 37) = .string k.cue := c.slot 1 _ (by decide +kernel) rfl
     clear c
     exact og_val (ex_add rfl e_37 (by (try simp only [ByteArray.size_append', ByteArray.size_mk', List.size_toArray, List.length_cons, List.length_nil]); omega)) rfl
    ·intro a wx c
     have e_38 : a.eval (.tmp 38) = .string ((⟨#[35, 69, 88, 84, 45, 79, 65, 84, 67, 76, 83, 45, 83, 67, 84, 69, 51, 53, 58]⟩ : ByteArray) ++ k.cue) := c.slot 2 _ (by decide +kernel) rfl
     clear c
     exact og_val (ex_add e_38 rfl (by (try simp only [ByteArray.size_append', ByteArray.size_mk', List.size_toArray, List.length_cons, List.length_nil]); omega)) rfl
    ·intro a wx c
     have e_1 : a.eval (.tmp 1) = pt g1 0 := c.outE (by decide +kernel) (hS.get 1 rfl)
     clear c
     exact og_val (ex_fo e_1 fo_spec_Cue_4 rfl) rfl
    ·intro a wx c
     have e_40 : a.eval (.tmp 40) = pt g1 4 := c.slot 4 _ (by decide +kernel) rfl
     have hO := hS.ogc c
     clear c
     exact og_val (ex_ld e_40 lt_int (cell_of_heap (v := .int .i64 ((k.time : Nat) : Int)) (hO.at 0 rfl) rfl)) rfl
    ·intro a wx c
     have e_41 : a.eval (.tmp 41) = .int .i64 ((k.time : Nat) : Int) := c.slot 5 _ (by decide +kernel) rfl
     have hO := hS.ogc c
     have hbx := drew_below c.only
     clear c
     have hcl : Calls Tryz.prog _ _ wx (fun e w' => e = .returned (.string (shorts k.time)) ∧ Below wx.heap.size wx w') := (short_any k.time (by omega) _)
     refine og_call (ex_call1 cf_spec_short e_41) (Calls.mono hcl ?_)
     rintro e w' ⟨rfl, hb⟩
     exact ⟨_, rfl, hb, rfl⟩
   ·intro a w10 c hbw10
    replace hS : Sv 63 ((42, .string (shorts k.time)) :: (39, .string ((⟨#[35, 69, 88, 84, 45, 79, 65, 84, 67, 76, 83, 45, 83, 67, 84, 69, 51, 53, 58]⟩ : ByteArray) ++ k.cue ++ (⟨#[10, 35, 69, 88, 84, 45, 88, 45, 67, 85, 69, 45, 79, 85, 84, 58]⟩ : ByteArray))) :: (1, pt g1 0) :: (2, .string (⟨#[]⟩)) :: (4, .bool (decide ((k.syn : Nat) = 0))) :: (32, .bool (decide ((k.typ : Nat) = 0))) :: []) [⟨g1, k.cells, 116, true⟩] (fun _ => False) w a w10 := (((((((hS.ogh c).know (c.outE (by decide +kernel) (hS.get 32 rfl))).know (c.outE (by decide +kernel) (hS.get 4 rfl))).know (c.outE (by decide +kernel) (hS.get 2 rfl))).know (c.outE (by decide +kernel) (hS.get 1 rfl))).know (c.slot 3 _ (by decide +kernel) rfl)).know (c.slot 6 _ (by decide +kernel) rfl))
    clear c
    simp only [List.drop_succ_cons, List.drop_zero]
    refine sv_r (v := .string ((⟨#[35, 69, 88, 84, 45, 79, 65, 84, 67, 76, 83, 45, 83, 67, 84, 69, 51, 53, 58]⟩ : ByteArray) ++ k.cue ++ (⟨#[10, 35, 69, 88, 84, 45, 88, 45, 67, 85, 69, 45, 79, 85, 84, 58]⟩ : ByteArray) ++ shorts k.time)) hS (ex_add (hS.get 39 rfl) (hS.get 42 rfl) (by (try simp only [ByteArray.size_append', ByteArray.size_mk', List.size_toArray, List.length_cons, List.length_nil]); omega)) fun a hS => ?_
    refine sv_r (v := .string ((⟨#[35, 69, 88, 84, 45, 79, 65, 84, 67, 76, 83, 45, 83, 67, 84, 69, 51, 53, 58]⟩ : ByteArray) ++ k.cue ++ (⟨#[10, 35, 69, 88, 84, 45, 88, 45, 67, 85, 69, 45, 79, 85, 84, 58]⟩ : ByteArray) ++ shorts k.time ++ (⟨#[10]⟩ : ByteArray))) hS (ex_add (hS.get 43 rfl) rfl (by (try simp only [ByteArray.size_append', ByteArray.size_mk', List.size_toArray, List.length_cons, List.length_nil]); omega)) fun a hS => ?_
    refine sv_r (v := .string ((⟨#[35, 69, 88, 84, 45, 79, 65, 84, 67, 76, 83, 45, 83, 67, 84, 69, 51, 53, 58]⟩ : ByteArray) ++ k.cue ++ (⟨#[10, 35, 69, 88, 84, 45, 88, 45, 67, 85, 69, 45, 79, 85, 84, 58]⟩ : ByteArray) ++ shorts k.time ++ (⟨#[10]⟩ : ByteArray))) hS (ex_as (hS.get 44 rfl)) fun a hS => ?_
    refine wpList_nil ?_
    replace hS := hS.cut [2, 1, 4, 32]
    show Code.wp _ _ _ _ _
    refine wp_ret ?_
    try simp only [Exit.inBlock, Exit.then]
    refine ret_of_ev hS.ev rfl (hS.get 2 rfl) ⟨?_, hS.toBelow⟩
    simp only [Cq.text, if_neg hb3, if_pos hb9]
  ·have hb9 := of_decide_eq_false hb9
   refine wp_seq ?_
   refine wp_region_lit ?_
   refine sv_r (v := pt g1 1) hS (ex_fo (hS.get 1 rfl) fo_spec_Cue_1 rfl) fun a hS => ?_
   refine sv_r (v := .int .i64 ((k.typ : Nat) : Int)) hS (ex_ld (hS.get 46 rfl) lt_int (cell_of_heap (v := .int .i64 ((k.typ : Nat) : Int)) (hS.at 0 rfl) rfl)) fun a hS => ?_
   refine sv_r (v := .bool (decide ((k.typ : Nat) = 1))) hS (ei_eql (hS.get 47 rfl) rfl (by rw [decide_eq_decide]; omega)) fun a hS => ?_
   refine sv_r (v := .bool (decide ((k.typ : Nat) = 1))) hS (ex_as (hS.get 48 rfl)) fun a hS => ?_
   refine wpList_nil ?_
   replace hS := hS.cut [45, 32, 4, 2, 1]
   show Code.wp _ _ _ _ _
   refine wp_cond_split (hS.get 45 rfl) (fun hb11 => ?_) (fun hb11 => ?_)
   ·have hb11 := of_decide_eq_true hb11
    refine wp_seq ?_
    refine wp_region_og1 (n := 63) 12 [Asr.eq (pt g1 5), Asr.eq (.int .i64 ((k.elapsed : Nat) : Int)), Asr.eq (.string (shorts k.elapsed)), Asr.eq (.string ((⟨#[35, 69, 88, 84, 45, 88, 45, 67, 85, 69, 45, 79, 85, 84, 45, 67, 79, 78, 84, 58, 69, 108, 97, 112, 115, 101, 100, 84, 105, 109, 101, 61]⟩ : ByteArray) ++ shorts k.elapsed)), Asr.eq (.string ((⟨#[35, 69, 88, 84, 45, 88, 45, 67, 85, 69, 45, 79, 85, 84, 45, 67, 79, 78, 84, 58, 69, 108, 97, 112, 115, 101, 100, 84, 105, 109, 101, 61]⟩ : ByteArray) ++ shorts k.elapsed ++ (⟨#[44, 68, 117, 114, 97, 116, 105, 111, 110, 61]⟩ : ByteArray))), Asr.eq (pt g1 4), Asr.eq (.int .i64 ((k.time : Nat) : Int)), Asr.eq (.string (shorts k.time)), Asr.eq (.string ((⟨#[35, 69, 88, 84, 45, 88, 45, 67, 85, 69, 45, 79, 85, 84, 45, 67, 79, 78, 84, 58, 69, 108, 97, 112, 115, 101, 100, 84, 105, 109, 101, 61]⟩ : ByteArray) ++ shorts k.elapsed ++ (⟨#[44, 68, 117, 114, 97, 116, 105, 111, 110, 61]⟩ : ByteArray) ++ shorts k.time)), Asr.eq (.string ((⟨#[35, 69, 88, 84, 45, 88, 45, 67, 85, 69, 45, 79, 85, 84, 45, 67, 79, 78, 84, 58, 69, 108, 97, 112, 115, 101, 100, 84, 105, 109, 101, 61]⟩ : ByteArray) ++ shorts k.elapsed ++ (⟨#[44, 68, 117, 114, 97, 116, 105, 111, 110, 61]⟩ : ByteArray) ++ shorts k.time ++ (⟨#[44, 83, 67, 84, 69, 51, 53, 61]⟩ : ByteArray))), Asr.eq (pt g1 2), Asr.eq (.string k.cue)] (by kernel_rfl) (by kernel_rfl) (by kernel_rfl) (by simp) (by kernel_rfl) hS.ev.size ⟨⟩ ?_ ?_
    ·simp only [List.take_succ_cons, List.take_zero]
     refine ⟨?_, ?_, ?_, ?_, ?_, ?_, ?_, ?_, ?_, ?_, ?_, ?_, trivial⟩
     ·intro a wx c
      have e_1 : a.eval (.tmp 1) = pt g1 0 := c.outE (by decide +kernel) (hS.get 1 rfl)
      clear c
      exact og_val (ex_fo e_1 fo_spec_Cue_5 rfl) rfl
     ·intro a wx c
      have e_49 : a.eval (.tmp 49) = pt g1 5 := c.slot 0 _ (by decide +kernel) rfl
      have hO := hS.ogc c
      clear c
      exact og_val (ex_ld e_49 lt_int (cell_of_heap (v := .int .i64 ((k.elapsed : Nat) : Int)) (hO.at 0 rfl) rfl)) rfl
     ·intro a wx c
      have e_50 : a.eval (.tmp 50) = .int .i64 ((k.elapsed : Nat) : Int) := c.slot 1 _ (by decide +kernel) rfl
      have hO := hS.ogc c
      have hbx := drew_below c.only
      clear c
      have hcl : Calls Tryz.prog _ _ wx (fun e w' => e = .returned (.string (shorts k.elapsed)) ∧ Below wx.heap.size wx w') := (short_any k.elapsed (by omega) _)
      refine og_call (ex_call1 cf_spec_short e_50) (Calls.mono hcl ?_)
      rintro e w' ⟨rfl, hb⟩
      exact ⟨_, rfl, hb, rfl⟩
     ·intro a wx c
      have e_51 : a.eval (.tmp 51) = .string (shorts k.elapsed) := c.slot 2 _ (by decide +kernel) rfl
      clear c
      exact og_val (ex_add rfl e_51 (by (try simp only [ByteArray.size_append', ByteArray.size_mk', List.size_toArray, List.length_cons, List.length_nil]); omega)) rfl
     ·intro a wx c
      have e_52 : a.eval (.tmp 52) = .string ((⟨#[35, 69, 88, 84, 45, 88, 45, 67, 85, 69, 45, 79, 85, 84, 45, 67, 79, 78, 84, 58, 69, 108, 97, 112, 115, 101, 100, 84, 105, 109, 101, 61]⟩ : ByteArray) ++ shorts k.elapsed) := c.slot 3 _ (by decide +kernel) rfl
      clear c
      exact og_val (ex_add e_52 rfl (by (try simp only [ByteArray.size_append', ByteArray.size_mk', List.size_toArray, List.length_cons, List.length_nil]); omega)) rfl
     ·intro a wx c
      have e_1 : a.eval (.tmp 1) = pt g1 0 := c.outE (by decide +kernel) (hS.get 1 rfl)
      clear c
      exact og_val (ex_fo e_1 fo_spec_Cue_4 rfl) rfl
     ·intro a wx c
      have e_54 : a.eval (.tmp 54) = pt g1 4 := c.slot 5 _ (by decide +kernel) rfl
      have hO := hS.ogc c
      clear c
      exact og_val (ex_ld e_54 lt_int (cell_of_heap (v := .int .i64 ((k.time : Nat) : Int)) (hO.at 0 rfl) rfl)) rfl
     ·intro a wx c
      have e_55 : a.eval (.tmp 55) = .int .i64 ((k.time : Nat) : Int) := c.slot 6 _ (by decide +kernel) rfl
      have hO := hS.ogc c
      have hbx := drew_below c.only
      clear c
      have hcl : Calls Tryz.prog _ _ wx (fun e w' => e = .returned (.string (shorts k.time)) ∧ Below wx.heap.size wx w') := (short_any k.time (by omega) _)
      refine og_call (ex_call1 cf_spec_short e_55) (Calls.mono hcl ?_)
      rintro e w' ⟨rfl, hb⟩
      exact ⟨_, rfl, hb, rfl⟩
     ·intro a wx c
      have e_53 : a.eval (.tmp 53) = .string ((⟨#[35, 69, 88, 84, 45, 88, 45, 67, 85, 69, 45, 79, 85, 84, 45, 67, 79, 78, 84, 58, 69, 108, 97, 112, 115, 101, 100, 84, 105, 109, 101, 61]⟩ : ByteArray) ++ shorts k.elapsed ++ (⟨#[44, 68, 117, 114, 97, 116, 105, 111, 110, 61]⟩ : ByteArray)) := c.slot 4 _ (by decide +kernel) rfl
      have e_56 : a.eval (.tmp 56) = .string (shorts k.time) := c.slot 7 _ (by decide +kernel) rfl
      clear c
      exact og_val (ex_add e_53 e_56 (by (try simp only [ByteArray.size_append', ByteArray.size_mk', List.size_toArray, List.length_cons, List.length_nil]); omega)) rfl
     ·intro a wx c
      have e_57 : a.eval (.tmp 57) = .string ((⟨#[35, 69, 88, 84, 45, 88, 45, 67, 85, 69, 45, 79, 85, 84, 45, 67, 79, 78, 84, 58, 69, 108, 97, 112, 115, 101, 100, 84, 105, 109, 101, 61]⟩ : ByteArray) ++ shorts k.elapsed ++ (⟨#[44, 68, 117, 114, 97, 116, 105, 111, 110, 61]⟩ : ByteArray) ++ shorts k.time) := c.slot 8 _ (by decide +kernel) rfl
      clear c
      exact og_val (ex_add e_57 rfl (by (try simp only [ByteArray.size_append', ByteArray.size_mk', List.size_toArray, List.length_cons, List.length_nil]); omega)) rfl
     ·intro a wx c
      have e_1 : a.eval (.tmp 1) = pt g1 0 := c.outE (by decide +kernel) (hS.get 1 rfl)
      clear c
      exact og_val (ex_fo e_1 fo_spec_Cue_2 rfl) rfl
     ·intro a wx c
      have e_59 : a.eval (.tmp 59) = pt g1 2 := c.slot 10 _ (by decide +kernel) rfl
      have hO := hS.ogc c
      clear c
      exact og_val (ex_ld e_59 lt_string (cell_of_heap (v := .string k.cue) (hO.at 0 rfl) rfl)) rfl
    ·intro a w12 c hbw12
     replace hS : Sv 63 ((60, .string k.cue) :: (58, .string ((⟨#[35, 69, 88, 84, 45, 88, 45, 67, 85, 69, 45, 79, 85, 84, 45, 67, 79, 78, 84, 58, 69, 108, 97, 112, 115, 101, 100, 84, 105, 109, 101, 61]⟩ : ByteArray) ++ shorts k.elapsed ++ (⟨#[44, 68, 117, 114, 97, 116, 105, 111, 110, 61]⟩ : ByteArray) ++ shorts k.time ++ (⟨#[44, 83, 67, 84, 69, 51, 53, 61]⟩ : ByteArray))) :: (1, pt g1 0) :: (2, .string (⟨#[]⟩)) :: (4, .bool (decide ((k.syn : Nat) = 0))) :: (32, .bool (decide ((k.typ : Nat) = 0))) :: (45, .bool (decide ((k.typ : Nat) = 1))) :: []) [⟨g1, k.cells, 116, true⟩] (fun _ => False) w a w12 := ((((((((hS.ogh c).know (c.outE (by decide +kernel) (hS.get 45 rfl))).know (c.outE (by decide +kernel) (hS.get 32 rfl))).know (c.outE (by decide +kernel) (hS.get 4 rfl))).know (c.outE (by decide +kernel) (hS.get 2 rfl))).know (c.outE (by decide +kernel) (hS.get 1 rfl))).know (c.slot 9 _ (by decide +kernel) rfl)).know (c.slot 11 _ (by decide +kernel) rfl))
     clear c
     simp only [List.drop_succ_cons, List.drop_zero]
     refine sv_r (v := .string ((⟨#[35, 69, 88, 84, 45, 88, 45, 67, 85, 69, 45, 79, 85, 84, 45, 67, 79, 78, 84, 58, 69, 108, 97, 112, 115, 101, 100, 84, 105, 109, 101, 61]⟩ : ByteArray) ++ shorts k.elapsed ++ (⟨#[44, 68, 117, 114, 97, 116, 105, 111, 110, 61]⟩ : ByteArray) ++ shorts k.time ++ (⟨#[44, 83, 67, 84, 69, 51, 53, 61]⟩ : ByteArray) ++ k.cue)) hS (ex_add (hS.get 58 rfl) (hS.get 60 rfl) (by (try simp only [ByteArray.size_append', ByteArray.size_mk', List.size_toArray, List.length_cons, List.length_nil]); omega)) fun a hS => ?_
     refine sv_r (v := .string ((⟨#[35, 69, 88, 84, 45, 88, 45, 67, 85, 69, 45, 79, 85, 84, 45, 67, 79, 78, 84, 58, 69, 108, 97, 112, 115, 101, 100, 84, 105, 109, 101, 61]⟩ : ByteArray) ++ shorts k.elapsed ++ (⟨#[44, 68, 117, 114, 97, 116, 105, 111, 110, 61]⟩ : ByteArray) ++ shorts k.time ++ (⟨#[44, 83, 67, 84, 69, 51, 53, 61]⟩ : ByteArray) ++ k.cue ++ (⟨#[10]⟩ : ByteArray))) hS (ex_add (hS.get 61 rfl) rfl (by (try simp only [ByteArray.size_append', ByteArray.size_mk', List.size_toArray, List.length_cons, List.length_nil]); omega)) fun a hS => ?_
     refine sv_r (v := .string ((⟨#[35, 69, 88, 84, 45, 88, 45, 67, 85, 69, 45, 79, 85, 84, 45, 67, 79, 78, 84, 58, 69, 108, 97, 112, 115, 101, 100, 84, 105, 109, 101, 61]⟩ : ByteArray) ++ shorts k.elapsed ++ (⟨#[44, 68, 117, 114, 97, 116, 105, 111, 110, 61]⟩ : ByteArray) ++ shorts k.time ++ (⟨#[44, 83, 67, 84, 69, 51, 53, 61]⟩ : ByteArray) ++ k.cue ++ (⟨#[10]⟩ : ByteArray))) hS (ex_as (hS.get 62 rfl)) fun a hS => ?_
     refine wpList_nil ?_
     replace hS := hS.cut [2, 1, 4, 32, 45]
     show Code.wp _ _ _ _ _
     refine wp_ret ?_
     try simp only [Exit.inBlock, Exit.then]
     refine ret_of_ev hS.ev rfl (hS.get 2 rfl) ⟨?_, hS.toBelow⟩
     simp only [Cq.text, if_neg hb3, if_neg hb9, if_pos hb11]
   ·have hb11 := of_decide_eq_false hb11
    refine wp_skip ?_
    show Code.wp _ _ _ _ _
    refine wp_seq ?_
    refine wp_region_lit ?_
    refine sv_r (v := .string (⟨#[35, 69, 88, 84, 45, 88, 45, 67, 85, 69, 45, 73, 78, 10]⟩)) hS ex_ac fun a hS => ?_
    refine wpList_nil ?_
    replace hS := hS.cut [2, 45, 32, 4, 1]
    show Code.wp _ _ _ _ _
    refine wp_ret ?_
    try simp only [Exit.inBlock, Exit.then]
    refine ret_of_ev hS.ev rfl (hS.get 2 rfl) ⟨?_, hS.toBelow⟩
    simp only [Cq.text, if_neg hb3, if_neg hb9, if_neg hb11]
end Go.Proofs.YtfonjeoiallhhaaGreatDoor
