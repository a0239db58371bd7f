/- Joined: Re. -/
import Derived.Test.YtflppablgdegcaaGreatDoorR10
import Derived.Test.YtflppablgdegcaaGreatDoorR23
set_option maxRecDepth 100000
set_option maxHeartbeats 8000000
namespace Go.Proofs.YtflppablgdegcaaGreatDoor
open Go.RowKit
def rdS (inf bo : Bool) (seg : Nat) : List ByteArray → Bool
 | [] => true
 | l :: ls =>
  if (!inf && Lib.hasPrefix l.data.toList (⟨#[35, 69, 88, 84, 73, 78, 70, 58]⟩ : ByteArray).data.toList) = true then rdS true bo seg ls
  else if Lib.hasPrefix l.data.toList (⟨#[35]⟩ : ByteArray).data.toList = true then rdS inf (bo || (Lib.hasPrefix l.data.toList (⟨#[35, 69, 88, 84, 45, 88, 45, 75, 69, 89, 58]⟩ : ByteArray).data.toList || Lib.hasPrefix l.data.toList (⟨#[35, 69, 88, 84, 45, 88, 45, 77, 65, 80, 58]⟩ : ByteArray).data.toList)) seg ls
  else if (bo && decide ((if inf = true then seg + 1 else seg) = 0)) = true then false else rdS false false (if inf = true then seg + 1 else seg) ls
theorem rdS_inf {bo : Bool} {seg : Nat} {l : ByteArray} {ls : List ByteArray} (h : rdS false bo seg (l :: ls) = true) (hb : Lib.hasPrefix l.data.toList (⟨#[35, 69, 88, 84, 73, 78, 70, 58]⟩ : ByteArray).data.toList = true) : rdS true bo seg ls = true := by
 unfold rdS at h
 simpa only [hb, Bool.not_false, Bool.and_self, if_true] using h
theorem rdS_tag {inf bo : Bool} {seg : Nat} {l : ByteArray} {ls : List ByteArray} (h : rdS inf bo seg (l :: ls) = true) (hb : (!inf && Lib.hasPrefix l.data.toList (⟨#[35, 69, 88, 84, 73, 78, 70, 58]⟩ : ByteArray).data.toList) = false) (h2 : Lib.hasPrefix l.data.toList (⟨#[35]⟩ : ByteArray).data.toList = true) : rdS inf (bo || (Lib.hasPrefix l.data.toList (⟨#[35, 69, 88, 84, 45, 88, 45, 75, 69, 89, 58]⟩ : ByteArray).data.toList || Lib.hasPrefix l.data.toList (⟨#[35, 69, 88, 84, 45, 88, 45, 77, 65, 80, 58]⟩ : ByteArray).data.toList)) seg ls = true := by
 unfold rdS at h
 simpa only [hb, h2, Bool.false_eq_true, if_false, if_true] using h
theorem rdS_uri {inf bo : Bool} {seg : Nat} {l : ByteArray} {ls : List ByteArray} (h : rdS inf bo seg (l :: ls) = true) (hb : (!inf && Lib.hasPrefix l.data.toList (⟨#[35, 69, 88, 84, 73, 78, 70, 58]⟩ : ByteArray).data.toList) = false) (h2 : Lib.hasPrefix l.data.toList (⟨#[35]⟩ : ByteArray).data.toList = false) : (bo = true → (if inf = true then seg + 1 else seg) ≠ 0) ∧ rdS false false (if inf = true then seg + 1 else seg) ls = true := by
 unfold rdS at h
 simp only [hb, h2, Bool.false_eq_true, if_false] at h
 by_cases hc : (bo && decide ((if inf = true then seg + 1 else seg) = 0)) = true
 ·rw [if_pos hc] at h; cases h
 ·rw [if_neg hc] at h
  refine ⟨fun e e2 => hc (by rw [e, e2]; rfl), h⟩
theorem readable_any (lns : List (List UInt8)) (last : List UInt8) (s : ByteArray) (hs : s.data.toList = flatLn lns last) (hno : ∀ ln ∈ lns, ∀ x ∈ ln, x ≠ 10) (hnl : ∀ x ∈ last, x ≠ 10) (hz : s.size ≤ 8192) (ha : Asc s) (hlc : lns.length ≤ 8192) (hkm : rdS false false 0 ((lns ++ [last]).map trL) = true) {B : Nat} {G : Ge} (w : World) (hG : Env B G w) :
  Calls Tryz.prog 16 #[.string s] w fun e w' => e = .returned (.bool true) ∧ Below w.heap.size w w' := by
 have hLn : ((lns ++ [last]).map trL).length = lns.length + 1 := by simp
 refine calls_of_ev Tryz.func16 rfl (show 1 ≤ 45 from by decide) fun a hE => ?_
 have hE : Ev 45 ((0, .string s) :: []) a := hE
 have Z : Sv 45 ((0, .string s) :: []) [] (fun _ => False) w a w := Sv.start hE _ _
 clear hE
 refine wr (sv_n 1 Z rfl fun a Z => Z.nx [2, 0] rfl fun Z => sh (wp_seq (wr (sv_n 1 Z rfl fun a Z => sv_r (v := .int .i64 ((s.size : Nat) : Int)) Z (ex_slen (ats := #[]) (Z.g 8 rfl)) fun a Z => ?_))))
 refine sv_r (v := .bool false) Z (ei_gtr (Z.g 9 rfl) rfl (by rw [decide_eq_false_iff_not]; omega)) fun a Z => Z.nx [10, 2, 0] rfl fun Z => sh (cond_f (Z.g 10 rfl) (wp_skip (sh (wr (sv_n 3 Z rfl fun a Z => Z.nx [5, 4, 3, 10, 2, 0] rfl fun Z => sh (wp_seq (wr ?_)))))))
 refine sv_n 1 Z rfl fun a Z => ?_
 have hlt := Z.lt
 have hsz := Z.size
 refine sv_call (S := fun v w' => Own strL 9 1 w' w.heap.size v ((lns ++ [last]).map trL)) Z rfl rfl (by decide) (ex_call1 cf_impl_lines (Z.g 11 rfl)) (ilines_any lns last s hs hno hnl (by omega) ha _ (hG.below Z.toBelow)) ?_
 rintro a lv w1 ho hbw1 Z
 refine sv_r (v := .int .i64 ((((lns ++ [last]).map trL).length : Nat) : Int)) Z (ex_lenO Tryz.underlying46 (Z.g 12 rfl) ho) fun a Z => sv_r (v := .int .i64 0) Z ex_mc fun a Z => Z.nx [14, 13, 12, 5, 4, 3, 10, 2, 0] rfl fun Z => sh (wp_block ?_)
 refine wp_loop (fun a w' => ∃ (inf bo : Bool) (seg k : Nat), k ≤ lns.length + 1 ∧ seg ≤ k ∧ rdS inf bo seg (((lns ++ [last]).map trL).drop k) = true ∧ Own strL 9 1 w' w.heap.size lv ((lns ++ [last]).map trL) ∧ Sv 45 ((3, .bool inf) :: (4, .bool bo) :: (5, .int .i64 ((seg : Nat) : Int)) :: (12, lv) :: (13, .int .i64 ((((lns ++ [last]).map trL).length : Nat) : Int)) :: (14, .int .i64 ((k : Nat) : Int)) :: []) [] (fun _ => False) w a w') (fun a _ => lns.length + 2 - (intOf (a.eval (.tmp 14))).toNat) ⟨false, false, 0, 0, Nat.zero_le _, Nat.le_refl _, hkm, ho, Z.pick rfl⟩ ?_
 clear Z ho
 rintro a w5 ⟨inf, bo, seg, k, hk, hsk, hr, ho, Z⟩
 have h14 := Z.g 14 rfl
 rcases Nat.lt_or_ge k (lns.length + 1) with hlt | hge
 ·obtain ⟨ln, hln⟩ : ∃ ln, ((lns ++ [last]).map trL)[k]? = some ln := ⟨_, List.getElem?_eq_getElem (by rw [hLn]; exact hlt)⟩
  have hlk := (List.getElem?_eq_some_iff.1 hln).1
  rw [List.drop_eq_getElem_cons hlk, (List.getElem?_eq_some_iff.1 hln).2] at hr
  refine wr ?_
  refine sv_r (v := .bool true) Z (ei_lss (Z.g 14 rfl) (Z.g 13 rfl) (by rw [decide_eq_true_iff, hLn]; omega)) fun a Z => Z.nx [15, 3, 4, 5, 12, 13, 14] rfl fun Z => sh (wp_seq (cond_t (Z.g 15 rfl) (wp_skip (sh (wp_seq (wp_block (wr (sv_elemS Tryz.underlying46 Tryz.sizeOf9 lt_string Z ho hln (Z.g 12 rfl) (Z.g 14 rfl) (by decide) (by decide) fun a p Z => sv_n 1 Z rfl fun a Z => ?_))))))))
  refine Z.nx [7, 15, 3, 4, 5, 12, 13, 14] rfl fun Z => sh (wp_block (wp_seq ?_))
  obtain ⟨b1, hb1⟩ : ∃ b, Lib.hasPrefix ln.data.toList (⟨#[35, 69, 88, 84, 73, 78, 70, 58]⟩ : ByteArray).data.toList = b := ⟨_, rfl⟩
  cases inf
  ·refine wp_region_lit (sv_n 1 Z rfl fun a Z => sv_r (v := .bool true) Z (ex_not (Z.g 19 rfl)) fun a Z => sv_n 2 Z rfl fun a Z => sv_gcallv (v := .bool b1) Z rfl rfl (Z.g 21 rfl) rfl (by decide) (ex_call2 cf_impl_begins (Z.g 22 rfl) rfl) (begins_any (by decide) hb1 _) fun a w9 hbw9 Z => ?_)
   replace ho := ho.ty (TyOnly.of_below (ts := []) hbw9) (by decide)
   refine sv_r (v := .bool b1) Z (ex_pickT (Z.g 21 rfl) (Z.g 23 rfl)) fun a Z => sv_n 1 Z rfl fun a Z => Z.nx [18, 7, 15, 3, 4, 5, 12, 13, 14] rfl fun Z => ?_
   cases b1
   ·have hbb : (!false && Lib.hasPrefix ln.data.toList (⟨#[35, 69, 88, 84, 73, 78, 70, 58]⟩ : ByteArray).data.toList) = false := by rw [hb1]; rfl
    refine sh (cond_f (Z.g 18 rfl) (wp_seq ?_))
    obtain ⟨b2, hb2⟩ : ∃ b, Lib.hasPrefix ln.data.toList (⟨#[35]⟩ : ByteArray).data.toList = b := ⟨_, rfl⟩
    refine wp_region_lit (sv_n 1 Z rfl fun a Z => sv_callv (v := .bool b2) Z rfl rfl (by decide) (ex_call2 cf_impl_begins (Z.g 26 rfl) rfl) (begins_any (by decide) hb2 _) fun a w10 hbw10 Z => ?_)
    replace ho := ho.ty (TyOnly.of_below (ts := []) hbw10) (by decide)
    refine sv_r (v := .bool (!b2)) Z (ex_not (Z.g 27 rfl)) fun a Z => sv_n 1 Z rfl fun a Z => Z.nx [25, 18, 7, 15, 3, 4, 5, 12, 13, 14] rfl fun Z => ?_
    cases b2
    ·replace Z := Z.ct [25, 18, 7, 15, 3, 4, 5, 12, 13, 14] rfl
     obtain ⟨hnz, hr1⟩ := rdS_uri hr hbb hb2
     refine sh (cond_t (Z.g 25 rfl) (wp_seq (wr (sv_n 1 Z rfl fun a Z => Z.nx [29, 25, 18, 7, 15, 3, 4, 5, 12, 13, 14] rfl fun Z => sh (cond_f (Z.g 29 rfl) (wp_skip (sh (wp_seq (wp_seq ?_)))))))))
     cases bo
     ·refine wp_region_lit (sv_n 5 Z rfl fun a Z => Z.nx [36, 29, 25, 18, 7, 15, 3, 4, 5, 12, 13, 14] rfl fun Z => sh (cond_f (Z.g 36 rfl) (wp_skip (sh (wp_region_lit (sv_n 2 Z rfl fun a Z => Z.nx [4, 3, 36, 29, 25, 18, 7, 15, 5, 12, 13, 14] rfl fun Z => sh (wp_region_lit ?_)))))))
      refine sv_r (v := .int .i64 ((k + 1 : Nat) : Int)) Z (ei_add (Z.g 14 rfl) rfl (by rw [IntKind.wrap_i64]; omega)) fun a Z => sv_n 1 Z rfl fun a Z => Z.nx [14, 4, 3, 36, 29, 25, 18, 7, 15, 5, 12, 13] rfl fun Z => ?_
      refine ⟨⟨false, false, seg, k + 1, by omega, by omega, hr1, ho, Z.pick rfl⟩, ?_⟩
      have h14' := Z.g 14 rfl
      rw [h14, h14']
      simp only [intOf]
      omega
     ·have hnz := hnz rfl
      simp only [if_true, Bool.false_eq_true, if_false] at hnz
      refine wp_region_lit (sv_n 3 Z rfl fun a Z => ?_)
      refine sv_g (v := .bool false) Z (Z.g 33 rfl) (ei_eql (Z.g 34 rfl) rfl (by rw [decide_eq_false_iff_not]; omega)) fun a Z => sv_n 1 Z rfl fun a Z => Z.nx [36, 29, 25, 18, 7, 15, 3, 4, 5, 12, 13, 14] rfl fun Z => sh (cond_f (Z.g 36 rfl) (wp_skip (sh (wp_region_lit (sv_n 2 Z rfl fun a Z => Z.nx [4, 3, 36, 29, 25, 18, 7, 15, 5, 12, 13, 14] rfl fun Z => sh (wp_region_lit ?_))))))
      refine sv_r (v := .int .i64 ((k + 1 : Nat) : Int)) Z (ei_add (Z.g 14 rfl) rfl (by rw [IntKind.wrap_i64]; omega)) fun a Z => sv_n 1 Z rfl fun a Z => Z.nx [14, 4, 3, 36, 29, 25, 18, 7, 15, 5, 12, 13] rfl fun Z => ?_
      refine ⟨⟨false, false, seg, k + 1, by omega, by omega, hr1, ho, Z.pick rfl⟩, ?_⟩
      have h14' := Z.g 14 rfl
      rw [h14, h14']
      simp only [intOf]
      omega
    ·replace Z := Z.ct [25, 18, 7, 15, 3, 4, 5, 12, 13, 14] rfl
     have hr1 := rdS_tag hr hbb hb2
     refine sh (cond_f (Z.g 25 rfl) (wp_seq ?_))
     obtain ⟨b3, hb3⟩ : ∃ b, Lib.hasPrefix ln.data.toList (⟨#[35, 69, 88, 84, 45, 88, 45, 75, 69, 89, 58]⟩ : ByteArray).data.toList = b := ⟨_, rfl⟩
     obtain ⟨b4, hb4⟩ : ∃ b, Lib.hasPrefix ln.data.toList (⟨#[35, 69, 88, 84, 45, 88, 45, 77, 65, 80, 58]⟩ : ByteArray).data.toList = b := ⟨_, rfl⟩
     rw [hb3, hb4] at hr1
     cases b3
     ·cases b4
      ·refine wp_region_lit (sv_n 1 Z rfl fun a Z => sv_callv (v := .bool false) Z rfl rfl (by decide) (ex_call2 cf_impl_begins (Z.g 38 rfl) rfl) (begins_any (by decide) hb3 _) fun a w11 hbw11 Z => ?_)
       replace ho := ho.ty (TyOnly.of_below (ts := []) hbw11) (by decide)
       refine sv_n 2 Z rfl fun a Z => sv_gcallv (v := .bool false) Z rfl rfl (Z.g 40 rfl) rfl (by decide) (ex_call2 cf_impl_begins (Z.g 41 rfl) rfl) (begins_any (by decide) hb4 _) fun a w12 hbw12 Z => ?_
       replace ho := ho.ty (TyOnly.of_below (ts := []) hbw12) (by decide)
       refine sv_n 2 Z rfl fun a Z => Z.nx [37, 25, 18, 7, 15, 3, 4, 5, 12, 13, 14] rfl fun Z => ?_
       rw [Bool.false_or, Bool.or_false] at hr1
       refine sh (cond_f (Z.g 37 rfl) (wp_skip (sh (wp_region_lit ?_))))
       refine sv_r (v := .int .i64 ((k + 1 : Nat) : Int)) Z (ei_add (Z.g 14 rfl) rfl (by rw [IntKind.wrap_i64]; omega)) fun a Z => sv_n 1 Z rfl fun a Z => Z.nx [14, 37, 25, 18, 7, 15, 3, 4, 5, 12, 13] rfl fun Z => ?_
       refine ⟨⟨false, bo, seg, k + 1, by omega, by omega, hr1, ho, Z.pick rfl⟩, ?_⟩
       have h14' := Z.g 14 rfl
       rw [h14, h14']
       simp only [intOf]
       omega
      ·refine wp_region_lit (sv_n 1 Z rfl fun a Z => sv_callv (v := .bool false) Z rfl rfl (by decide) (ex_call2 cf_impl_begins (Z.g 38 rfl) rfl) (begins_any (by decide) hb3 _) fun a w11 hbw11 Z => ?_)
       replace ho := ho.ty (TyOnly.of_below (ts := []) hbw11) (by decide)
       refine sv_n 2 Z rfl fun a Z => sv_gcallv (v := .bool true) Z rfl rfl (Z.g 40 rfl) rfl (by decide) (ex_call2 cf_impl_begins (Z.g 41 rfl) rfl) (begins_any (by decide) hb4 _) fun a w12 hbw12 Z => ?_
       replace ho := ho.ty (TyOnly.of_below (ts := []) hbw12) (by decide)
       refine sv_n 2 Z rfl fun a Z => Z.nx [37, 25, 18, 7, 15, 3, 4, 5, 12, 13, 14] rfl fun Z => ?_
       rw [Bool.false_or, Bool.or_true] at hr1
       refine sh (cond_t (Z.g 37 rfl) (wp_region_lit (sv_n 1 Z rfl fun a Z => Z.nx [4, 37, 25, 18, 7, 15, 3, 5, 12, 13, 14] rfl fun Z => sh (wp_region_lit ?_))))
       refine sv_r (v := .int .i64 ((k + 1 : Nat) : Int)) Z (ei_add (Z.g 14 rfl) rfl (by rw [IntKind.wrap_i64]; omega)) fun a Z => sv_n 1 Z rfl fun a Z => Z.nx [14, 4, 37, 25, 18, 7, 15, 3, 5, 12, 13] rfl fun Z => ?_
       refine ⟨⟨false, true, seg, k + 1, by omega, by omega, hr1, ho, Z.pick rfl⟩, ?_⟩
       have h14' := Z.g 14 rfl
       rw [h14, h14']
       simp only [intOf]
       omega
     ·refine wp_region_lit (sv_n 1 Z rfl fun a Z => sv_callv (v := .bool true) Z rfl rfl (by decide) (ex_call2 cf_impl_begins (Z.g 38 rfl) rfl) (begins_any (by decide) hb3 _) fun a w11 hbw11 Z => ?_)
      replace ho := ho.ty (TyOnly.of_below (ts := []) hbw11) (by decide)
      refine sv_n 5 Z rfl fun a Z => Z.nx [37, 25, 18, 7, 15, 3, 4, 5, 12, 13, 14] rfl fun Z => ?_
      rw [Bool.true_or, Bool.or_true] at hr1
      refine sh (cond_t (Z.g 37 rfl) (wp_region_lit (sv_n 1 Z rfl fun a Z => Z.nx [4, 37, 25, 18, 7, 15, 3, 5, 12, 13, 14] rfl fun Z => sh (wp_region_lit ?_))))
      refine sv_r (v := .int .i64 ((k + 1 : Nat) : Int)) Z (ei_add (Z.g 14 rfl) rfl (by rw [IntKind.wrap_i64]; omega)) fun a Z => sv_n 1 Z rfl fun a Z => Z.nx [14, 4, 37, 25, 18, 7, 15, 3, 5, 12, 13] rfl fun Z => ?_
      refine ⟨⟨false, true, seg, k + 1, by omega, by omega, hr1, ho, Z.pick rfl⟩, ?_⟩
      have h14' := Z.g 14 rfl
      rw [h14, h14']
      simp only [intOf]
      omega
   ·have hr1 := rdS_inf hr hb1
    refine sh (cond_t (Z.g 18 rfl) (wp_region_lit (sv_n 1 Z rfl fun a Z => Z.nx [3, 18, 7, 15, 4, 5, 12, 13, 14] rfl fun Z => sh (wp_region_lit ?_))))
    refine sv_r (v := .int .i64 ((k + 1 : Nat) : Int)) Z (ei_add (Z.g 14 rfl) rfl (by rw [IntKind.wrap_i64]; omega)) fun a Z => sv_n 1 Z rfl fun a Z => Z.nx [14, 3, 18, 7, 15, 4, 5, 12, 13] rfl fun Z => ?_
    refine ⟨⟨true, bo, seg, k + 1, by omega, by omega, hr1, ho, Z.pick rfl⟩, ?_⟩
    have h14' := Z.g 14 rfl
    rw [h14, h14']
    simp only [intOf]
    omega
  ·refine wp_region_lit (sv_n 1 Z rfl fun a Z => sv_r (v := .bool false) Z (ex_not (Z.g 19 rfl)) fun a Z => sv_n 5 Z rfl fun a Z => Z.nx [18, 7, 15, 3, 4, 5, 12, 13, 14] rfl fun Z => ?_)
   have hbb : (!true && Lib.hasPrefix ln.data.toList (⟨#[35, 69, 88, 84, 73, 78, 70, 58]⟩ : ByteArray).data.toList) = false := rfl
   refine sh (cond_f (Z.g 18 rfl) (wp_seq ?_))
   obtain ⟨b2, hb2⟩ : ∃ b, Lib.hasPrefix ln.data.toList (⟨#[35]⟩ : ByteArray).data.toList = b := ⟨_, rfl⟩
   refine wp_region_lit (sv_n 1 Z rfl fun a Z => sv_callv (v := .bool b2) Z rfl rfl (by decide) (ex_call2 cf_impl_begins (Z.g 26 rfl) rfl) (begins_any (by decide) hb2 _) fun a w9 hbw9 Z => ?_)
   replace ho := ho.ty (TyOnly.of_below (ts := []) hbw9) (by decide)
   refine sv_r (v := .bool (!b2)) Z (ex_not (Z.g 27 rfl)) fun a Z => sv_n 1 Z rfl fun a Z => Z.nx [25, 18, 7, 15, 3, 4, 5, 12, 13, 14] rfl fun Z => ?_
   cases b2
   ·replace Z := Z.ct [25, 18, 7, 15, 3, 4, 5, 12, 13, 14] rfl
    obtain ⟨hnz, hr1⟩ := rdS_uri hr hbb hb2
    refine sh (cond_t (Z.g 25 rfl) (wp_seq (wr (sv_n 1 Z rfl fun a Z => Z.nx [29, 25, 18, 7, 15, 3, 4, 5, 12, 13, 14] rfl fun Z => sh (cond_t (Z.g 29 rfl) (wp_region_lit (sv_n 1 Z rfl fun a Z => ?_)))))))
    refine sv_r (v := .int .i64 ((seg + 1 : Nat) : Int)) Z (ei_add (Z.g 30 rfl) rfl (by rw [IntKind.wrap_i64]; omega)) fun a Z => sv_n 1 Z rfl fun a Z => Z.nx [5, 29, 25, 18, 7, 15, 3, 4, 12, 13, 14] rfl fun Z => sh (wp_seq (wp_seq ?_))
    cases bo
    ·refine wp_region_lit (sv_n 5 Z rfl fun a Z => Z.nx [36, 5, 29, 25, 18, 7, 15, 3, 4, 12, 13, 14] rfl fun Z => sh (cond_f (Z.g 36 rfl) (wp_skip (sh (wp_region_lit (sv_n 2 Z rfl fun a Z => Z.nx [4, 3, 36, 5, 29, 25, 18, 7, 15, 12, 13, 14] rfl fun Z => sh (wp_region_lit ?_)))))))
     refine sv_r (v := .int .i64 ((k + 1 : Nat) : Int)) Z (ei_add (Z.g 14 rfl) rfl (by rw [IntKind.wrap_i64]; omega)) fun a Z => sv_n 1 Z rfl fun a Z => Z.nx [14, 4, 3, 36, 5, 29, 25, 18, 7, 15, 12, 13] rfl fun Z => ?_
     refine ⟨⟨false, false, seg + 1, k + 1, by omega, by omega, hr1, ho, Z.pick rfl⟩, ?_⟩
     have h14' := Z.g 14 rfl
     rw [h14, h14']
     simp only [intOf]
     omega
    ·have hnz := hnz rfl
     simp only [if_true, Bool.false_eq_true, if_false] at hnz
     refine wp_region_lit (sv_n 3 Z rfl fun a Z => ?_)
     refine sv_g (v := .bool false) Z (Z.g 33 rfl) (ei_eql (Z.g 34 rfl) rfl (by rw [decide_eq_false_iff_not]; omega)) fun a Z => sv_n 1 Z rfl fun a Z => Z.nx [36, 5, 29, 25, 18, 7, 15, 3, 4, 12, 13, 14] rfl fun Z => sh (cond_f (Z.g 36 rfl) (wp_skip (sh (wp_region_lit (sv_n 2 Z rfl fun a Z => Z.nx [4, 3, 36, 5, 29, 25, 18, 7, 15, 12, 13, 14] rfl fun Z => sh (wp_region_lit ?_))))))
     refine sv_r (v := .int .i64 ((k + 1 : Nat) : Int)) Z (ei_add (Z.g 14 rfl) rfl (by rw [IntKind.wrap_i64]; omega)) fun a Z => sv_n 1 Z rfl fun a Z => Z.nx [14, 4, 3, 36, 5, 29, 25, 18, 7, 15, 12, 13] rfl fun Z => ?_
     refine ⟨⟨false, false, seg + 1, k + 1, by omega, by omega, hr1, ho, Z.pick rfl⟩, ?_⟩
     have h14' := Z.g 14 rfl
     rw [h14, h14']
     simp only [intOf]
     omega
   ·replace Z := Z.ct [25, 18, 7, 15, 3, 4, 5, 12, 13, 14] rfl
    have hr1 := rdS_tag hr hbb hb2
    refine sh (cond_f (Z.g 25 rfl) (wp_seq ?_))
    obtain ⟨b3, hb3⟩ : ∃ b, Lib.hasPrefix ln.data.toList (⟨#[35, 69, 88, 84, 45, 88, 45, 75, 69, 89, 58]⟩ : ByteArray).data.toList = b := ⟨_, rfl⟩
    obtain ⟨b4, hb4⟩ : ∃ b, Lib.hasPrefix ln.data.toList (⟨#[35, 69, 88, 84, 45, 88, 45, 77, 65, 80, 58]⟩ : ByteArray).data.toList = b := ⟨_, rfl⟩
    rw [hb3, hb4] at hr1
    cases b3
    ·cases b4
     ·refine wp_region_lit (sv_n 1 Z rfl fun a Z => sv_callv (v := .bool false) Z rfl rfl (by decide) (ex_call2 cf_impl_begins (Z.g 38 rfl) rfl) (begins_any (by decide) hb3 _) fun a w10 hbw10 Z => ?_)
      replace ho := ho.ty (TyOnly.of_below (ts := []) hbw10) (by decide)
      refine sv_n 2 Z rfl fun a Z => sv_gcallv (v := .bool false) Z rfl rfl (Z.g 40 rfl) rfl (by decide) (ex_call2 cf_impl_begins (Z.g 41 rfl) rfl) (begins_any (by decide) hb4 _) fun a w11 hbw11 Z => ?_
      replace ho := ho.ty (TyOnly.of_below (ts := []) hbw11) (by decide)
      refine sv_n 2 Z rfl fun a Z => Z.nx [37, 25, 18, 7, 15, 3, 4, 5, 12, 13, 14] rfl fun Z => ?_
      rw [Bool.false_or, Bool.or_false] at hr1
      refine sh (cond_f (Z.g 37 rfl) (wp_skip (sh (wp_region_lit ?_))))
      refine sv_r (v := .int .i64 ((k + 1 : Nat) : Int)) Z (ei_add (Z.g 14 rfl) rfl (by rw [IntKind.wrap_i64]; omega)) fun a Z => sv_n 1 Z rfl fun a Z => Z.nx [14, 37, 25, 18, 7, 15, 3, 4, 5, 12, 13] rfl fun Z => ?_
      refine ⟨⟨true, bo, seg, k + 1, by omega, by omega, hr1, ho, Z.pick rfl⟩, ?_⟩
      have h14' := Z.g 14 rfl
      rw [h14, h14']
      simp only [intOf]
      omega
     ·refine wp_region_lit (sv_n 1 Z rfl fun a Z => sv_callv (v := .bool false) Z rfl rfl (by decide) (ex_call2 cf_impl_begins (Z.g 38 rfl) rfl) (begins_any (by decide) hb3 _) fun a w10 hbw10 Z => ?_)
      replace ho := ho.ty (TyOnly.of_below (ts := []) hbw10) (by decide)
      refine sv_n 2 Z rfl fun a Z => sv_gcallv (v := .bool true) Z rfl rfl (Z.g 40 rfl) rfl (by decide) (ex_call2 cf_impl_begins (Z.g 41 rfl) rfl) (begins_any (by decide) hb4 _) fun a w11 hbw11 Z => ?_
      replace ho := ho.ty (TyOnly.of_below (ts := []) hbw11) (by decide)
      refine sv_n 2 Z rfl fun a Z => Z.nx [37, 25, 18, 7, 15, 3, 4, 5, 12, 13, 14] rfl fun Z => ?_
      rw [Bool.false_or, Bool.or_true] at hr1
      refine sh (cond_t (Z.g 37 rfl) (wp_region_lit (sv_n 1 Z rfl fun a Z => Z.nx [4, 37, 25, 18, 7, 15, 3, 5, 12, 13, 14] rfl fun Z => sh (wp_region_lit ?_))))
      refine sv_r (v := .int .i64 ((k + 1 : Nat) : Int)) Z (ei_add (Z.g 14 rfl) rfl (by rw [IntKind.wrap_i64]; omega)) fun a Z => sv_n 1 Z rfl fun a Z => Z.nx [14, 4, 37, 25, 18, 7, 15, 3, 5, 12, 13] rfl fun Z => ?_
      refine ⟨⟨true, true, seg, k + 1, by omega, by omega, hr1, ho, Z.pick rfl⟩, ?_⟩
      have h14' := Z.g 14 rfl
      rw [h14, h14']
      simp only [intOf]
      omega
    ·refine wp_region_lit (sv_n 1 Z rfl fun a Z => sv_callv (v := .bool true) Z rfl rfl (by decide) (ex_call2 cf_impl_begins (Z.g 38 rfl) rfl) (begins_any (by decide) hb3 _) fun a w10 hbw10 Z => ?_)
     replace ho := ho.ty (TyOnly.of_below (ts := []) hbw10) (by decide)
     refine sv_n 5 Z rfl fun a Z => Z.nx [37, 25, 18, 7, 15, 3, 4, 5, 12, 13, 14] rfl fun Z => ?_
     rw [Bool.true_or, Bool.or_true] at hr1
     refine sh (cond_t (Z.g 37 rfl) (wp_region_lit (sv_n 1 Z rfl fun a Z => Z.nx [4, 37, 25, 18, 7, 15, 3, 5, 12, 13, 14] rfl fun Z => sh (wp_region_lit ?_))))
     refine sv_r (v := .int .i64 ((k + 1 : Nat) : Int)) Z (ei_add (Z.g 14 rfl) rfl (by rw [IntKind.wrap_i64]; omega)) fun a Z => sv_n 1 Z rfl fun a Z => Z.nx [14, 4, 37, 25, 18, 7, 15, 3, 5, 12, 13] rfl fun Z => ?_
     refine ⟨⟨true, true, seg, k + 1, by omega, by omega, hr1, ho, Z.pick rfl⟩, ?_⟩
     have h14' := Z.g 14 rfl
     rw [h14, h14']
     simp only [intOf]
     omega
 ·refine wr ?_
  refine sv_r (v := .bool false) Z (ei_lss (Z.g 14 rfl) (Z.g 13 rfl) (by rw [decide_eq_false_iff_not, hLn]; omega)) fun a Z => Z.nx [15, 3, 4, 5, 12, 13, 14] rfl fun Z => sh (wp_seq (cond_f (Z.g 15 rfl) (wp_exit (sh (wr (sv_n 1 Z rfl fun a Z => Z.nx [2, 15, 3, 4, 5, 12, 13, 14] rfl fun Z => sh (wp_ret ?_)))))))
  try simp only [Exit.inBlock, Exit.then]
  exact ret_of_ev Z.ev rfl (Z.g 2 rfl) ⟨rfl, Z.toBelow⟩
end Go.Proofs.YtflppablgdegcaaGreatDoor
