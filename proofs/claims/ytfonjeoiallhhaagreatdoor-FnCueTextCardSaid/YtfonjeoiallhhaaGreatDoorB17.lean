/- Joined: Kt, Sh. -/
import Derived.Test.YtfonjeoiallhhaaGreatDoorB13
import Derived.Test.YtfonjeoiallhhaaGreatDoorB16
/- The walks of the reference's texts: a key's line, a head's line, a segment's lines, a playlist's head. -/
set_option maxRecDepth 100000
set_option maxHeartbeats 8000000
namespace Go.Proofs.YtfonjeoiallhhaaGreatDoor
open Go.RowKit
theorem cv_int64_uint64 (n : Int) {z : Int} (h : IntKind.u64.wrap n = z) : Cv 2 25 (.int .i64 n) (.int .u64 z) := by subst h; intro w; go_simp
theorem cv_int_uint64 (n : Int) {z : Int} (h : IntKind.u64.wrap n = z) : Cv 3 25 (.int .i64 n) (.int .u64 z) := by subst h; intro w; go_simp
/-- A key's texts are short. -/
structure KySz (k : Ky) : Prop where
 method : k.method.size ≤ 30
 uri : k.uri.size ≤ 30
 iv : k.iv.size ≤ 30
 format : k.format.size ≤ 30
 versions : k.versions.size ≤ 30
theorem KeyOk.sz {k : Ky} (h : KeyOk k) : KySz k := by
 rcases h with rfl | ⟨u, hu, rfl⟩ | ⟨u, a, b, c, hu, ha, hb, hc, rfl⟩
 ·exact ⟨by decide, by decide, by decide, by decide, by decide⟩
 ·have := hu.size; exact ⟨(by show (ByteArray.size ⟨#[65, 69, 83, 45, 49, 50, 56]⟩) ≤ 30; decide), by show u.size ≤ 30; omega, by show ByteArray.size ⟨#[]⟩ ≤ 30; decide, by show ByteArray.size ⟨#[]⟩ ≤ 30; decide, by show ByteArray.size ⟨#[]⟩ ≤ 30; decide⟩
 ·have := hu.size; have h1 := dec_le (n := a) (by omega); have h2 := dec_le (n := b) (by omega); have h3 := dec_le (n := c) (by omega)
  refine ⟨?_, ?_, ?_, ?_, ?_⟩ <;> (simp only [ByteArray.size_append', ByteArray.size_mk', List.size_toArray, List.length_cons, List.length_nil]; omega)
/-- A key's line. -/
def Ky.text (k : Ky) : ByteArray :=
 let o := (⟨#[35, 69, 88, 84, 45, 88, 45, 75, 69, 89, 58, 77, 69, 84, 72, 79, 68, 61]⟩ : ByteArray) ++ k.method
 if decide (k.method.data.toList = (⟨#[78, 79, 78, 69]⟩ : ByteArray).data.toList) = true then o ++ (⟨#[10]⟩ : ByteArray) else
 let o := o ++ (((⟨#[44, 85, 82, 73, 61, 34]⟩ : ByteArray) ++ k.uri) ++ (⟨#[34]⟩ : ByteArray))
 let o := if ne k.iv = true then o ++ ((⟨#[44, 73, 86, 61]⟩ : ByteArray) ++ k.iv) else o
 let o := if ne k.format = true then o ++ (((⟨#[44, 75, 69, 89, 70, 79, 82, 77, 65, 84, 61, 34]⟩ : ByteArray) ++ k.format) ++ (⟨#[34]⟩ : ByteArray)) else o
 let o := if ne k.versions = true then o ++ (((⟨#[44, 75, 69, 89, 70, 79, 82, 77, 65, 84, 86, 69, 82, 83, 73, 79, 78, 83, 61, 34]⟩ : ByteArray) ++ k.versions) ++ (⟨#[34]⟩ : ByteArray)) else o
 o ++ (⟨#[10]⟩ : ByteArray)
/-- A head's line. -/
def Mp.text (m : Mp) : ByteArray :=
 let o := ((⟨#[35, 69, 88, 84, 45, 88, 45, 77, 65, 80, 58, 85, 82, 73, 61, 34]⟩ : ByteArray) ++ m.uri) ++ (⟨#[34]⟩ : ByteArray)
 let o := if 0 < m.limit then o ++ ((((⟨#[44, 66, 89, 84, 69, 82, 65, 78, 71, 69, 61]⟩ : ByteArray) ++ (dec m.limit)) ++ (⟨#[64]⟩ : ByteArray)) ++ (dec m.offset)) else o
 o ++ (⟨#[10]⟩ : ByteArray)
theorem keyText_any (k : Ky) (hk : KySz k) (g : Nat) (w : World) (hg : w.heap[g]? = some (.cells k.cells 96 (0, 0))) : Calls Tryz.prog 41 #[pt g 0] w fun e w' => e = .returned (.string k.text) ∧ Below w.heap.size w w' := by
 obtain ⟨q1, q2, q3, q4, q5⟩ := hk
 refine calls_of_ev Tryz.func41 rfl (show 1 ≤ 64 from by decide) ?_
 intro a hE
 have hE : Ev 64 ((0, pt g 0) :: []) a := hE
 have hS : Sv 64 ((0, pt g 0) :: []) [] (fun _ => False) w a w := Sv.start hE _ _
 clear hE
 replace hS : Sv 64 ((0, pt g 0) :: []) [⟨g, k.cells, 96, false⟩] (fun _ => False) w a w := hS.addR hg (by intro b hb; cases hb)
 refine wp_seq ?_
 refine wp_region_lit ?_
 refine sv_r (v := .string (⟨#[]⟩)) hS ex_ac fun a hS => ?_
 refine wpList_nil ?_
 replace hS := hS.cut [2, 0]
 show Code.wp _ _ _ _ _
 refine wp_seq ?_
 refine wp_region_lit ?_
 refine sv_r (v := pt g 0) hS (ex_mv (hS.get 0 rfl)) fun a hS => ?_
 refine sv_r (v := pt g 0) hS (ex_nc (hS.get 4 rfl)) fun a hS => ?_
 refine sv_r (v := pt g 0) hS (ex_fo (hS.get 5 rfl) fo_spec_Key_0 rfl) fun a hS => ?_
 refine sv_r (v := .string k.method) hS (ex_ld (hS.get 6 rfl) lt_string (cell_of_heap (v := .string k.method) (hS.at 0 rfl) rfl)) fun a hS => ?_
 refine sv_r (v := .string ((⟨#[35, 69, 88, 84, 45, 88, 45, 75, 69, 89, 58, 77, 69, 84, 72, 79, 68, 61]⟩ : ByteArray) ++ k.method)) hS (ex_add rfl (hS.get 7 rfl) (by simp only [ByteArray.size_append', ByteArray.size_mk', List.size_toArray, List.length_cons, List.length_nil]; omega)) fun a hS => ?_
 refine sv_r (v := .string ((⟨#[35, 69, 88, 84, 45, 88, 45, 75, 69, 89, 58, 77, 69, 84, 72, 79, 68, 61]⟩ : ByteArray) ++ k.method)) hS (ex_as (hS.get 8 rfl)) fun a hS => ?_
 refine wpList_nil ?_
 replace hS := hS.cut [3, 2, 0]
 show Code.wp _ _ _ _ _
 refine wp_seq ?_
 refine wp_seq ?_
 refine wp_region_lit ?_
 refine sv_r (v := pt g 0) hS (ex_mv (hS.get 0 rfl)) fun a hS => ?_
 refine sv_r (v := pt g 0) hS (ex_nc (hS.get 9 rfl)) fun a hS => ?_
 refine sv_r (v := pt g 0) hS (ex_fo (hS.get 10 rfl) fo_spec_Key_0 rfl) fun a hS => ?_
 refine sv_r (v := .string k.method) hS (ex_ld (hS.get 11 rfl) lt_string (cell_of_heap (v := .string k.method) (hS.at 0 rfl) rfl)) fun a hS => ?_
 refine sv_r (v := .bool (decide (k.method.data.toList = (⟨#[78, 79, 78, 69]⟩ : ByteArray).data.toList))) hS (ex_eqs (hS.get 12 rfl) rfl) fun a hS => ?_
 refine wpList_nil ?_
 replace hS := hS.cut [13, 3, 2, 0]
 show Code.wp _ _ _ _ _
 refine wp_cond_split (hS.get 13 rfl) (fun hb0 => ?_) (fun hb0 => ?_)
 ·have hb0 := of_decide_eq_true hb0
  refine wp_seq ?_
  refine wp_region_lit ?_
  refine sv_r (v := .string ((⟨#[35, 69, 88, 84, 45, 88, 45, 75, 69, 89, 58, 77, 69, 84, 72, 79, 68, 61]⟩ : ByteArray) ++ k.method)) hS (ex_mv (hS.get 3 rfl)) fun a hS => ?_
  refine sv_r (v := .string ((⟨#[35, 69, 88, 84, 45, 88, 45, 75, 69, 89, 58, 77, 69, 84, 72, 79, 68, 61]⟩ : ByteArray) ++ k.method ++ (⟨#[10]⟩ : ByteArray))) hS (ex_add (hS.get 14 rfl) rfl (by simp only [ByteArray.size_append', ByteArray.size_mk', List.size_toArray, List.length_cons, List.length_nil]; omega)) fun a hS => ?_
  refine sv_r (v := .string ((⟨#[35, 69, 88, 84, 45, 88, 45, 75, 69, 89, 58, 77, 69, 84, 72, 79, 68, 61]⟩ : ByteArray) ++ k.method ++ (⟨#[10]⟩ : ByteArray))) hS (ex_as (hS.get 15 rfl)) fun a hS => ?_
  refine wpList_nil ?_
  replace hS := hS.cut [2, 13, 3, 0]
  show Code.wp _ _ _ _ _
  refine wp_ret ?_
  try simp only [Exit.inBlock, Exit.then]
  refine ret_of_ev hS.ev rfl (hS.get 2 rfl) ⟨?_, hS.toBelow⟩
  simp only [Ky.text, if_pos (show decide (k.method.data.toList = (⟨#[78, 79, 78, 69]⟩ : ByteArray).data.toList) = true from by simpa using hb0)]
 ·have hb0 := of_decide_eq_false hb0
  refine wp_skip ?_
  show Code.wp _ _ _ _ _
  refine wp_seq ?_
  refine wp_region_lit ?_
  refine sv_r (v := .string ((⟨#[35, 69, 88, 84, 45, 88, 45, 75, 69, 89, 58, 77, 69, 84, 72, 79, 68, 61]⟩ : ByteArray) ++ k.method)) hS (ex_mv (hS.get 3 rfl)) fun a hS => ?_
  refine sv_r (v := pt g 0) hS (ex_mv (hS.get 0 rfl)) fun a hS => ?_
  refine sv_r (v := pt g 0) hS (ex_nc (hS.get 17 rfl)) fun a hS => ?_
  refine sv_r (v := pt g 1) hS (ex_fo (hS.get 18 rfl) fo_spec_Key_1 rfl) fun a hS => ?_
  refine sv_r (v := .string k.uri) hS (ex_ld (hS.get 19 rfl) lt_string (cell_of_heap (v := .string k.uri) (hS.at 0 rfl) rfl)) fun a hS => ?_
  refine sv_r (v := .string ((⟨#[44, 85, 82, 73, 61, 34]⟩ : ByteArray) ++ k.uri)) hS (ex_add rfl (hS.get 20 rfl) (by simp only [ByteArray.size_append', ByteArray.size_mk', List.size_toArray, List.length_cons, List.length_nil]; omega)) fun a hS => ?_
  refine sv_r (v := .string ((⟨#[44, 85, 82, 73, 61, 34]⟩ : ByteArray) ++ k.uri ++ (⟨#[34]⟩ : ByteArray))) hS (ex_add (hS.get 21 rfl) rfl (by simp only [ByteArray.size_append', ByteArray.size_mk', List.size_toArray, List.length_cons, List.length_nil]; omega)) fun a hS => ?_
  refine sv_r (v := .string ((⟨#[35, 69, 88, 84, 45, 88, 45, 75, 69, 89, 58, 77, 69, 84, 72, 79, 68, 61]⟩ : ByteArray) ++ k.method ++ ((⟨#[44, 85, 82, 73, 61, 34]⟩ : ByteArray) ++ k.uri ++ (⟨#[34]⟩ : ByteArray)))) hS (ex_add (hS.get 16 rfl) (hS.get 22 rfl) (by simp only [ByteArray.size_append', ByteArray.size_mk', List.size_toArray, List.length_cons, List.length_nil]; omega)) fun a hS => ?_
  refine sv_r (v := .string ((⟨#[35, 69, 88, 84, 45, 88, 45, 75, 69, 89, 58, 77, 69, 84, 72, 79, 68, 61]⟩ : ByteArray) ++ k.method ++ ((⟨#[44, 85, 82, 73, 61, 34]⟩ : ByteArray) ++ k.uri ++ (⟨#[34]⟩ : ByteArray)))) hS (ex_as (hS.get 23 rfl)) fun a hS => ?_
  refine wpList_nil ?_
  replace hS := hS.cut [3, 13, 2, 0]
  show Code.wp _ _ _ _ _
  refine wp_seq ?_
  refine wp_seq ?_
  refine wp_region_lit ?_
  refine sv_r (v := pt g 0) hS (ex_mv (hS.get 0 rfl)) fun a hS => ?_
  refine sv_r (v := pt g 0) hS (ex_nc (hS.get 24 rfl)) fun a hS => ?_
  refine sv_r (v := pt g 2) hS (ex_fo (hS.get 25 rfl) fo_spec_Key_2 rfl) fun a hS => ?_
  refine sv_r (v := .string k.iv) hS (ex_ld (hS.get 26 rfl) lt_string (cell_of_heap (v := .string k.iv) (hS.at 0 rfl) rfl)) fun a hS => ?_
  refine sv_r (v := .bool (ne k.iv)) hS (ex_ne0 (hS.get 27 rfl)) fun a hS => ?_
  refine wpList_nil ?_
  replace hS := hS.cut [28, 3, 13, 2, 0]
  show Code.wp _ _ _ _ _
  refine if_join (fun a w' => ∃ zz : ByteArray, zz = (if (ne k.iv) = true then (⟨#[35, 69, 88, 84, 45, 88, 45, 75, 69, 89, 58, 77, 69, 84, 72, 79, 68, 61]⟩ : ByteArray) ++ k.method ++ ((⟨#[44, 85, 82, 73, 61, 34]⟩ : ByteArray) ++ k.uri ++ (⟨#[34]⟩ : ByteArray)) ++ ((⟨#[44, 73, 86, 61]⟩ : ByteArray) ++ k.iv) else (⟨#[35, 69, 88, 84, 45, 88, 45, 75, 69, 89, 58, 77, 69, 84, 72, 79, 68, 61]⟩ : ByteArray) ++ k.method ++ ((⟨#[44, 85, 82, 73, 61, 34]⟩ : ByteArray) ++ k.uri ++ (⟨#[34]⟩ : ByteArray))) ∧ zz.size ≤ 200 ∧ Sv 64 ((3, .string zz) :: (13, .bool (decide (k.method.data.toList = (⟨#[78, 79, 78, 69]⟩ : ByteArray).data.toList))) :: (2, .string (⟨#[]⟩)) :: (0, pt g 0) :: []) [⟨g, k.cells, 96, false⟩] (fun _ => False) w a w') (hS.get 28 rfl) ?_ ?_ ?_
  ·intro hb1 Q' hQ'
   refine wp_region_lit ?_
   refine sv_r (v := .string ((⟨#[35, 69, 88, 84, 45, 88, 45, 75, 69, 89, 58, 77, 69, 84, 72, 79, 68, 61]⟩ : ByteArray) ++ k.method ++ ((⟨#[44, 85, 82, 73, 61, 34]⟩ : ByteArray) ++ k.uri ++ (⟨#[34]⟩ : ByteArray)))) hS (ex_mv (hS.get 3 rfl)) fun a hS => ?_
   refine sv_r (v := pt g 0) hS (ex_mv (hS.get 0 rfl)) fun a hS => ?_
   refine sv_r (v := pt g 0) hS (ex_nc (hS.get 30 rfl)) fun a hS => ?_
   refine sv_r (v := pt g 2) hS (ex_fo (hS.get 31 rfl) fo_spec_Key_2 rfl) fun a hS => ?_
   refine sv_r (v := .string k.iv) hS (ex_ld (hS.get 32 rfl) lt_string (cell_of_heap (v := .string k.iv) (hS.at 0 rfl) rfl)) fun a hS => ?_
   refine sv_r (v := .string ((⟨#[44, 73, 86, 61]⟩ : ByteArray) ++ k.iv)) hS (ex_add rfl (hS.get 33 rfl) (by simp only [ByteArray.size_append', ByteArray.size_mk', List.size_toArray, List.length_cons, List.length_nil]; omega)) fun a hS => ?_
   refine sv_r (v := .string ((⟨#[35, 69, 88, 84, 45, 88, 45, 75, 69, 89, 58, 77, 69, 84, 72, 79, 68, 61]⟩ : ByteArray) ++ k.method ++ ((⟨#[44, 85, 82, 73, 61, 34]⟩ : ByteArray) ++ k.uri ++ (⟨#[34]⟩ : ByteArray)) ++ ((⟨#[44, 73, 86, 61]⟩ : ByteArray) ++ k.iv))) hS (ex_add (hS.get 29 rfl) (hS.get 34 rfl) (by simp only [ByteArray.size_append', ByteArray.size_mk', List.size_toArray, List.length_cons, List.length_nil]; omega)) fun a hS => ?_
   refine sv_r (v := .string ((⟨#[35, 69, 88, 84, 45, 88, 45, 75, 69, 89, 58, 77, 69, 84, 72, 79, 68, 61]⟩ : ByteArray) ++ k.method ++ ((⟨#[44, 85, 82, 73, 61, 34]⟩ : ByteArray) ++ k.uri ++ (⟨#[34]⟩ : ByteArray)) ++ ((⟨#[44, 73, 86, 61]⟩ : ByteArray) ++ k.iv))) hS (ex_as (hS.get 35 rfl)) fun a hS => ?_
   refine wpList_nil ?_
   replace hS := hS.cut [3, 28, 13, 2, 0]
   exact hQ' _ _ ⟨_, rfl, by rw [if_pos hb1]; (try simp only [ByteArray.size_append', ByteArray.size_mk', List.size_toArray, List.length_cons, List.length_nil]); omega, by rw [if_pos hb1]; exact hS.pick rfl⟩
  ·intro hb1 Q' hQ'
   refine wp_skip ?_
   exact hQ' _ _ ⟨_, rfl, by rw [if_neg (by rw [hb1]; decide)]; (try simp only [ByteArray.size_append', ByteArray.size_mk', List.size_toArray, List.length_cons, List.length_nil]); omega, by rw [if_neg (by rw [hb1]; decide)]; exact hS.pick rfl⟩
  ·rintro a w2 ⟨o1, ho1, hzo1, hS⟩
   show Code.wp _ _ _ _ _
   refine wp_seq ?_
   refine wp_seq ?_
   refine wp_region_lit ?_
   refine sv_r (v := pt g 0) hS (ex_mv (hS.get 0 rfl)) fun a hS => ?_
   refine sv_r (v := pt g 0) hS (ex_nc (hS.get 36 rfl)) fun a hS => ?_
   refine sv_r (v := pt g 3) hS (ex_fo (hS.get 37 rfl) fo_spec_Key_3 rfl) fun a hS => ?_
   refine sv_r (v := .string k.format) hS (ex_ld (hS.get 38 rfl) lt_string (cell_of_heap (v := .string k.format) (hS.at 0 rfl) rfl)) fun a hS => ?_
   refine sv_r (v := .bool (ne k.format)) hS (ex_ne0 (hS.get 39 rfl)) fun a hS => ?_
   refine wpList_nil ?_
   replace hS := hS.cut [40, 3, 13, 2, 0]
   show Code.wp _ _ _ _ _
   refine if_join (fun a w' => ∃ zz : ByteArray, zz = (if (ne k.format) = true then o1 ++ ((⟨#[44, 75, 69, 89, 70, 79, 82, 77, 65, 84, 61, 34]⟩ : ByteArray) ++ k.format ++ (⟨#[34]⟩ : ByteArray)) else o1) ∧ zz.size ≤ 300 ∧ Sv 64 ((3, .string zz) :: (13, .bool (decide (k.method.data.toList = (⟨#[78, 79, 78, 69]⟩ : ByteArray).data.toList))) :: (2, .string (⟨#[]⟩)) :: (0, pt g 0) :: []) [⟨g, k.cells, 96, false⟩] (fun _ => False) w a w') (hS.get 40 rfl) ?_ ?_ ?_
   ·intro hb3 Q' hQ'
    refine wp_region_lit ?_
    refine sv_r (v := .string o1) hS (ex_mv (hS.get 3 rfl)) fun a hS => ?_
    refine sv_r (v := pt g 0) hS (ex_mv (hS.get 0 rfl)) fun a hS => ?_
    refine sv_r (v := pt g 0) hS (ex_nc (hS.get 42 rfl)) fun a hS => ?_
    refine sv_r (v := pt g 3) hS (ex_fo (hS.get 43 rfl) fo_spec_Key_3 rfl) fun a hS => ?_
    refine sv_r (v := .string k.format) hS (ex_ld (hS.get 44 rfl) lt_string (cell_of_heap (v := .string k.format) (hS.at 0 rfl) rfl)) fun a hS => ?_
    refine sv_r (v := .string ((⟨#[44, 75, 69, 89, 70, 79, 82, 77, 65, 84, 61, 34]⟩ : ByteArray) ++ k.format)) hS (ex_add rfl (hS.get 45 rfl) (by simp only [ByteArray.size_append', ByteArray.size_mk', List.size_toArray, List.length_cons, List.length_nil]; omega)) fun a hS => ?_
    refine sv_r (v := .string ((⟨#[44, 75, 69, 89, 70, 79, 82, 77, 65, 84, 61, 34]⟩ : ByteArray) ++ k.format ++ (⟨#[34]⟩ : ByteArray))) hS (ex_add (hS.get 46 rfl) rfl (by simp only [ByteArray.size_append', ByteArray.size_mk', List.size_toArray, List.length_cons, List.length_nil]; omega)) fun a hS => ?_
    refine sv_r (v := .string (o1 ++ ((⟨#[44, 75, 69, 89, 70, 79, 82, 77, 65, 84, 61, 34]⟩ : ByteArray) ++ k.format ++ (⟨#[34]⟩ : ByteArray)))) hS (ex_add (hS.get 41 rfl) (hS.get 47 rfl) (by simp only [ByteArray.size_append', ByteArray.size_mk', List.size_toArray, List.length_cons, List.length_nil]; omega)) fun a hS => ?_
    refine sv_r (v := .string (o1 ++ ((⟨#[44, 75, 69, 89, 70, 79, 82, 77, 65, 84, 61, 34]⟩ : ByteArray) ++ k.format ++ (⟨#[34]⟩ : ByteArray)))) hS (ex_as (hS.get 48 rfl)) fun a hS => ?_
    refine wpList_nil ?_
    replace hS := hS.cut [3, 40, 13, 2, 0]
    exact hQ' _ _ ⟨_, rfl, by rw [if_pos hb3]; (try simp only [ByteArray.size_append', ByteArray.size_mk', List.size_toArray, List.length_cons, List.length_nil]); omega, by rw [if_pos hb3]; exact hS.pick rfl⟩
   ·intro hb3 Q' hQ'
    refine wp_skip ?_
    exact hQ' _ _ ⟨_, rfl, by rw [if_neg (by rw [hb3]; decide)]; (try simp only [ByteArray.size_append', ByteArray.size_mk', List.size_toArray, List.length_cons, List.length_nil]); omega, by rw [if_neg (by rw [hb3]; decide)]; exact hS.pick rfl⟩
   ·rintro a w4 ⟨o2, ho2, hzo2, hS⟩
    show Code.wp _ _ _ _ _
    refine wp_seq ?_
    refine wp_seq ?_
    refine wp_region_lit ?_
    refine sv_r (v := pt g 0) hS (ex_mv (hS.get 0 rfl)) fun a hS => ?_
    refine sv_r (v := pt g 0) hS (ex_nc (hS.get 49 rfl)) fun a hS => ?_
    refine sv_r (v := pt g 4) hS (ex_fo (hS.get 50 rfl) fo_spec_Key_4 rfl) fun a hS => ?_
    refine sv_r (v := .string k.versions) hS (ex_ld (hS.get 51 rfl) lt_string (cell_of_heap (v := .string k.versions) (hS.at 0 rfl) rfl)) fun a hS => ?_
    refine sv_r (v := .bool (ne k.versions)) hS (ex_ne0 (hS.get 52 rfl)) fun a hS => ?_
    refine wpList_nil ?_
    replace hS := hS.cut [53, 3, 13, 2, 0]
    show Code.wp _ _ _ _ _
    refine if_join (fun a w' => ∃ zz : ByteArray, zz = (if (ne k.versions) = true then o2 ++ ((⟨#[44, 75, 69, 89, 70, 79, 82, 77, 65, 84, 86, 69, 82, 83, 73, 79, 78, 83, 61, 34]⟩ : ByteArray) ++ k.versions ++ (⟨#[34]⟩ : ByteArray)) else o2) ∧ zz.size ≤ 400 ∧ Sv 64 ((3, .string zz) :: (13, .bool (decide (k.method.data.toList = (⟨#[78, 79, 78, 69]⟩ : ByteArray).data.toList))) :: (2, .string (⟨#[]⟩)) :: (0, pt g 0) :: []) [⟨g, k.cells, 96, false⟩] (fun _ => False) w a w') (hS.get 53 rfl) ?_ ?_ ?_
    ·intro hb5 Q' hQ'
     refine wp_region_lit ?_
     refine sv_r (v := .string o2) hS (ex_mv (hS.get 3 rfl)) fun a hS => ?_
     refine sv_r (v := pt g 0) hS (ex_mv (hS.get 0 rfl)) fun a hS => ?_
     refine sv_r (v := pt g 0) hS (ex_nc (hS.get 55 rfl)) fun a hS => ?_
     refine sv_r (v := pt g 4) hS (ex_fo (hS.get 56 rfl) fo_spec_Key_4 rfl) fun a hS => ?_
     refine sv_r (v := .string k.versions) hS (ex_ld (hS.get 57 rfl) lt_string (cell_of_heap (v := .string k.versions) (hS.at 0 rfl) rfl)) fun a hS => ?_
     refine sv_r (v := .string ((⟨#[44, 75, 69, 89, 70, 79, 82, 77, 65, 84, 86, 69, 82, 83, 73, 79, 78, 83, 61, 34]⟩ : ByteArray) ++ k.versions)) hS (ex_add rfl (hS.get 58 rfl) (by simp only [ByteArray.size_append', ByteArray.size_mk', List.size_toArray, List.length_cons, List.length_nil]; omega)) fun a hS => ?_
     refine sv_r (v := .string ((⟨#[44, 75, 69, 89, 70, 79, 82, 77, 65, 84, 86, 69, 82, 83, 73, 79, 78, 83, 61, 34]⟩ : ByteArray) ++ k.versions ++ (⟨#[34]⟩ : ByteArray))) hS (ex_add (hS.get 59 rfl) rfl (by simp only [ByteArray.size_append', ByteArray.size_mk', List.size_toArray, List.length_cons, List.length_nil]; omega)) fun a hS => ?_
     refine sv_r (v := .string (o2 ++ ((⟨#[44, 75, 69, 89, 70, 79, 82, 77, 65, 84, 86, 69, 82, 83, 73, 79, 78, 83, 61, 34]⟩ : ByteArray) ++ k.versions ++ (⟨#[34]⟩ : ByteArray)))) hS (ex_add (hS.get 54 rfl) (hS.get 60 rfl) (by simp only [ByteArray.size_append', ByteArray.size_mk', List.size_toArray, List.length_cons, List.length_nil]; omega)) fun a hS => ?_
     refine sv_r (v := .string (o2 ++ ((⟨#[44, 75, 69, 89, 70, 79, 82, 77, 65, 84, 86, 69, 82, 83, 73, 79, 78, 83, 61, 34]⟩ : ByteArray) ++ k.versions ++ (⟨#[34]⟩ : ByteArray)))) hS (ex_as (hS.get 61 rfl)) fun a hS => ?_
     refine wpList_nil ?_
     replace hS := hS.cut [3, 53, 13, 2, 0]
     exact hQ' _ _ ⟨_, rfl, by rw [if_pos hb5]; (try simp only [ByteArray.size_append', ByteArray.size_mk', List.size_toArray, List.length_cons, List.length_nil]); omega, by rw [if_pos hb5]; exact hS.pick rfl⟩
    ·intro hb5 Q' hQ'
     refine wp_skip ?_
     exact hQ' _ _ ⟨_, rfl, by rw [if_neg (by rw [hb5]; decide)]; (try simp only [ByteArray.size_append', ByteArray.size_mk', List.size_toArray, List.length_cons, List.length_nil]); omega, by rw [if_neg (by rw [hb5]; decide)]; exact hS.pick rfl⟩
    ·rintro a w6 ⟨o3, ho3, hzo3, hS⟩
     show Code.wp _ _ _ _ _
     refine wp_seq ?_
     refine wp_region_lit ?_
     refine sv_r (v := .string o3) hS (ex_mv (hS.get 3 rfl)) fun a hS => ?_
     refine sv_r (v := .string (o3 ++ (⟨#[10]⟩ : ByteArray))) hS (ex_add (hS.get 62 rfl) rfl (by simp only [ByteArray.size_append', ByteArray.size_mk', List.size_toArray, List.length_cons, List.length_nil]; omega)) fun a hS => ?_
     refine sv_r (v := .string (o3 ++ (⟨#[10]⟩ : ByteArray))) hS (ex_as (hS.get 63 rfl)) fun a hS => ?_
     refine wpList_nil ?_
     replace hS := hS.cut [2, 3, 13, 0]
     show Code.wp _ _ _ _ _
     refine wp_ret ?_
     try simp only [Exit.inBlock, Exit.then]
     refine ret_of_ev hS.ev rfl (hS.get 2 rfl) ⟨?_, hS.toBelow⟩
     rw [ho3, ho2, ho1]; simp only [Ky.text, if_neg (show ¬ decide (k.method.data.toList = (⟨#[78, 79, 78, 69]⟩ : ByteArray).data.toList) = true from by simpa using hb0)]
theorem mapText_any (k : Mp) (hu : k.uri.size ≤ 30) (hl : k.limit < 9223372036854775808) (ho : k.offset < 9223372036854775808) (g : Nat) (w : World) (hg : w.heap[g]? = some (.cells k.cells 99 (0, 0))) : Calls Tryz.prog 42 #[pt g 0] w fun e w' => e = .returned (.string k.text) ∧ Below w.heap.size w w' := by
 have hd1 := dec_le (n := k.limit) (by omega)
 have hd2 := dec_le (n := k.offset) (by omega)
 refine calls_of_ev Tryz.func42 rfl (show 1 ≤ 34 from by decide) ?_
 intro a hE
 have hE : Ev 34 ((0, pt g 0) :: []) a := hE
 have hS : Sv 34 ((0, pt g 0) :: []) [] (fun _ => False) w a w := Sv.start hE _ _
 clear hE
 replace hS : Sv 34 ((0, pt g 0) :: []) [⟨g, k.cells, 99, false⟩] (fun _ => False) w a w := hS.addR hg (by intro b hb; cases hb)
 refine wp_seq ?_
 refine wp_region_lit ?_
 refine sv_r (v := .string (⟨#[]⟩)) hS ex_ac fun a hS => ?_
 refine wpList_nil ?_
 replace hS := hS.cut [2, 0]
 show Code.wp _ _ _ _ _
 refine wp_seq ?_
 refine wp_region_lit ?_
 refine sv_r (v := pt g 0) hS (ex_mv (hS.get 0 rfl)) fun a hS => ?_
 refine sv_r (v := pt g 0) hS (ex_nc (hS.get 4 rfl)) fun a hS => ?_
 refine sv_r (v := pt g 0) hS (ex_fo (hS.get 5 rfl) fo_spec_Map_0 rfl) fun a hS => ?_
 refine sv_r (v := .string k.uri) hS (ex_ld (hS.get 6 rfl) lt_string (cell_of_heap (v := .string k.uri) (hS.at 0 rfl) rfl)) fun a hS => ?_
 refine sv_r (v := .string ((⟨#[35, 69, 88, 84, 45, 88, 45, 77, 65, 80, 58, 85, 82, 73, 61, 34]⟩ : ByteArray) ++ k.uri)) hS (ex_add rfl (hS.get 7 rfl) (by simp only [ByteArray.size_append', ByteArray.size_mk', List.size_toArray, List.length_cons, List.length_nil]; omega)) fun a hS => ?_
 refine sv_r (v := .string ((⟨#[35, 69, 88, 84, 45, 88, 45, 77, 65, 80, 58, 85, 82, 73, 61, 34]⟩ : ByteArray) ++ k.uri ++ (⟨#[34]⟩ : ByteArray))) hS (ex_add (hS.get 8 rfl) rfl (by simp only [ByteArray.size_append', ByteArray.size_mk', List.size_toArray, List.length_cons, List.length_nil]; omega)) fun a hS => ?_
 refine sv_r (v := .string ((⟨#[35, 69, 88, 84, 45, 88, 45, 77, 65, 80, 58, 85, 82, 73, 61, 34]⟩ : ByteArray) ++ k.uri ++ (⟨#[34]⟩ : ByteArray))) hS (ex_as (hS.get 9 rfl)) fun a hS => ?_
 refine wpList_nil ?_
 replace hS := hS.cut [3, 2, 0]
 show Code.wp _ _ _ _ _
 refine wp_seq ?_
 refine wp_seq ?_
 refine wp_region_lit ?_
 refine sv_r (v := pt g 0) hS (ex_mv (hS.get 0 rfl)) fun a hS => ?_
 refine sv_r (v := pt g 0) hS (ex_nc (hS.get 10 rfl)) fun a hS => ?_
 refine sv_r (v := pt g 1) hS (ex_fo (hS.get 11 rfl) fo_spec_Map_1 rfl) fun a hS => ?_
 refine sv_r (v := .int .i64 ((k.limit : Nat) : Int)) hS (ex_ld (hS.get 12 rfl) lt_int64 (cell_of_heap (v := .int .i64 ((k.limit : Nat) : Int)) (hS.at 0 rfl) rfl)) fun a hS => ?_
 refine sv_r (v := .bool (decide ((0 : Nat) < k.limit))) hS (ei_gtr (hS.get 13 rfl) rfl (by rw [decide_eq_decide]; omega)) fun a hS => ?_
 refine wpList_nil ?_
 replace hS := hS.cut [14, 3, 2, 0]
 show Code.wp _ _ _ _ _
 refine if_join (fun a w' => ∃ zz : ByteArray, zz = (if (0 : Nat) < k.limit then (⟨#[35, 69, 88, 84, 45, 88, 45, 77, 65, 80, 58, 85, 82, 73, 61, 34]⟩ : ByteArray) ++ k.uri ++ (⟨#[34]⟩ : ByteArray) ++ ((⟨#[44, 66, 89, 84, 69, 82, 65, 78, 71, 69, 61]⟩ : ByteArray) ++ dec k.limit ++ (⟨#[64]⟩ : ByteArray) ++ dec k.offset) else (⟨#[35, 69, 88, 84, 45, 88, 45, 77, 65, 80, 58, 85, 82, 73, 61, 34]⟩ : ByteArray) ++ k.uri ++ (⟨#[34]⟩ : ByteArray)) ∧ zz.size ≤ 200 ∧ Sv 34 ((3, .string zz) :: (2, .string (⟨#[]⟩)) :: (0, pt g 0) :: []) [⟨g, k.cells, 99, false⟩] (fun _ => False) w a w') (hS.get 14 rfl) ?_ ?_ ?_
 ·intro hb1 Q' hQ'
  have hb1 := of_decide_eq_true hb1
  refine wp_region_og1 (n := 34) 16 [Asr.eq (.string ((⟨#[35, 69, 88, 84, 45, 88, 45, 77, 65, 80, 58, 85, 82, 73, 61, 34]⟩ : ByteArray) ++ k.uri ++ (⟨#[34]⟩ : ByteArray))), Asr.eq (pt g 0), Asr.eq (pt g 0), Asr.eq (pt g 1), Asr.eq (.int .i64 ((k.limit : Nat) : Int)), Asr.eq (.int .u64 ((k.limit : Nat) : Int)), Asr.eq (.string (dec k.limit)), Asr.eq (.string ((⟨#[44, 66, 89, 84, 69, 82, 65, 78, 71, 69, 61]⟩ : ByteArray) ++ dec k.limit)), Asr.eq (.string ((⟨#[44, 66, 89, 84, 69, 82, 65, 78, 71, 69, 61]⟩ : ByteArray) ++ dec k.limit ++ (⟨#[64]⟩ : ByteArray))), Asr.eq (pt g 0), Asr.eq (pt g 0), Asr.eq (pt g 2), Asr.eq (.int .i64 ((k.offset : Nat) : Int)), Asr.eq (.int .u64 ((k.offset : Nat) : Int)), Asr.eq (.string (dec k.offset)), Asr.eq (.string ((⟨#[44, 66, 89, 84, 69, 82, 65, 78, 71, 69, 61]⟩ : ByteArray) ++ dec k.limit ++ (⟨#[64]⟩ : ByteArray) ++ dec k.offset))] (by kernel_rfl) (by kernel_rfl) (by kernel_rfl) (by simp) (by kernel_rfl) hS.ev.size ⟨⟩ ?_ ?_
  ·simp only [List.take_succ_cons, List.take_zero]
   refine ⟨?_, ?_, ?_, ?_, ?_, ?_, ?_, ?_, ?_, ?_, ?_, ?_, ?_, ?_, ?_, ?_, trivial⟩
   ·intro a wx c
    have e_3 : a.eval (.tmp 3) = .string ((⟨#[35, 69, 88, 84, 45, 88, 45, 77, 65, 80, 58, 85, 82, 73, 61, 34]⟩ : ByteArray) ++ k.uri ++ (⟨#[34]⟩ : ByteArray)) := c.outE (by decide +kernel) (hS.get 3 rfl)
    clear c
    exact og_val (ex_mv e_3) rfl
   ·intro a wx c
    have e_0 : a.eval (.tmp 0) = pt g 0 := c.outE (by decide +kernel) (hS.get 0 rfl)
    clear c
    exact og_val (ex_mv e_0) rfl
   ·intro a wx c
    have e_16 : a.eval (.tmp 16) = pt g 0 := c.slot 1 _ (by decide +kernel) rfl
    clear c
    exact og_val (ex_nc e_16) rfl
   ·intro a wx c
    have e_17 : a.eval (.tmp 17) = pt g 0 := c.slot 2 _ (by decide +kernel) rfl
    clear c
    exact og_val (ex_fo e_17 fo_spec_Map_1 rfl) rfl
   ·intro a wx c
    have e_18 : a.eval (.tmp 18) = pt g 1 := c.slot 3 _ (by decide +kernel) rfl
    have hO := hS.ogc c
    clear c
    exact og_val (ex_ld e_18 lt_int64 (cell_of_heap (v := .int .i64 ((k.limit : Nat) : Int)) (hO.at 0 rfl) rfl)) rfl
   ·intro a wx c
    have e_19 : a.eval (.tmp 19) = .int .i64 ((k.limit : Nat) : Int) := c.slot 4 _ (by decide +kernel) rfl
    clear c
    exact og_val (ex_cv e_19 (cv_int64_uint64 _ (by rw [IntKind.wrap_u64]; omega))) rfl
   ·intro a wx c
    have e_20 : a.eval (.tmp 20) = .int .u64 ((k.limit : Nat) : Int) := c.slot 5 _ (by decide +kernel) rfl
    have hO := hS.ogc c
    have hbx := drew_below c.only
    clear c
    have hcl : Calls Tryz.prog _ _ wx (fun e w' => e = .returned (.string (dec k.limit)) ∧ w' = wx) := (Calls.mono (decimal_any (k.limit) _ (by omega)) (by rintro e w' ⟨rfl, rfl⟩; exact ⟨rfl, rfl⟩))
    refine og_call (ex_call1 cf_spec_Decimal e_20) (Calls.mono hcl ?_)
    rintro e w' ⟨rfl, rfl⟩
    exact ⟨_, rfl, Below.refl _ _, rfl⟩
   ·intro a wx c
    have e_21 : a.eval (.tmp 21) = .string (dec k.limit) := c.slot 6 _ (by decide +kernel) rfl
    clear c
    exact og_val (ex_add rfl e_21 (by simp only [ByteArray.size_append', ByteArray.size_mk', List.size_toArray, List.length_cons, List.length_nil]; omega)) rfl
   ·intro a wx c
    have e_22 : a.eval (.tmp 22) = .string ((⟨#[44, 66, 89, 84, 69, 82, 65, 78, 71, 69, 61]⟩ : ByteArray) ++ dec k.limit) := c.slot 7 _ (by decide +kernel) rfl
    clear c
    exact og_val (ex_add e_22 rfl (by simp only [ByteArray.size_append', ByteArray.size_mk', List.size_toArray, List.length_cons, List.length_nil]; omega)) rfl
   ·intro a wx c
    have e_0 : a.eval (.tmp 0) = pt g 0 := c.outE (by decide +kernel) (hS.get 0 rfl)
    clear c
    exact og_val (ex_mv e_0) rfl
   ·intro a wx c
    have e_24 : a.eval (.tmp 24) = pt g 0 := c.slot 9 _ (by decide +kernel) rfl
    clear c
    exact og_val (ex_nc e_24) rfl
   ·intro a wx c
    have e_25 : a.eval (.tmp 25) = pt g 0 := c.slot 10 _ (by decide +kernel) rfl
    clear c
    exact og_val (ex_fo e_25 fo_spec_Map_2 rfl) rfl
   ·intro a wx c
    have e_26 : a.eval (.tmp 26) = pt g 2 := c.slot 11 _ (by decide +kernel) rfl
    have hO := hS.ogc c
    clear c
    exact og_val (ex_ld e_26 lt_int64 (cell_of_heap (v := .int .i64 ((k.offset : Nat) : Int)) (hO.at 0 rfl) rfl)) rfl
   ·intro a wx c
    have e_27 : a.eval (.tmp 27) = .int .i64 ((k.offset : Nat) : Int) := c.slot 12 _ (by decide +kernel) rfl
    clear c
    exact og_val (ex_cv e_27 (cv_int64_uint64 _ (by rw [IntKind.wrap_u64]; omega))) rfl
   ·intro a wx c
    have e_28 : a.eval (.tmp 28) = .int .u64 ((k.offset : Nat) : Int) := c.slot 13 _ (by decide +kernel) rfl
    have hO := hS.ogc c
    have hbx := drew_below c.only
    clear c
    have hcl : Calls Tryz.prog _ _ wx (fun e w' => e = .returned (.string (dec k.offset)) ∧ w' = wx) := (Calls.mono (decimal_any (k.offset) _ (by omega)) (by rintro e w' ⟨rfl, rfl⟩; exact ⟨rfl, rfl⟩))
    refine og_call (ex_call1 cf_spec_Decimal e_28) (Calls.mono hcl ?_)
    rintro e w' ⟨rfl, rfl⟩
    exact ⟨_, rfl, Below.refl _ _, rfl⟩
   ·intro a wx c
    have e_23 : a.eval (.tmp 23) = .string ((⟨#[44, 66, 89, 84, 69, 82, 65, 78, 71, 69, 61]⟩ : ByteArray) ++ dec k.limit ++ (⟨#[64]⟩ : ByteArray)) := c.slot 8 _ (by decide +kernel) rfl
    have e_29 : a.eval (.tmp 29) = .string (dec k.offset) := c.slot 14 _ (by decide +kernel) rfl
    clear c
    exact og_val (ex_add e_23 e_29 (by simp only [ByteArray.size_append', ByteArray.size_mk', List.size_toArray, List.length_cons, List.length_nil]; omega)) rfl
  ·intro a w4 c hbw4
   replace hS : Sv 34 ((30, .string ((⟨#[44, 66, 89, 84, 69, 82, 65, 78, 71, 69, 61]⟩ : ByteArray) ++ dec k.limit ++ (⟨#[64]⟩ : ByteArray) ++ dec k.offset)) :: (15, .string ((⟨#[35, 69, 88, 84, 45, 88, 45, 77, 65, 80, 58, 85, 82, 73, 61, 34]⟩ : ByteArray) ++ k.uri ++ (⟨#[34]⟩ : ByteArray))) :: (0, pt g 0) :: (2, .string (⟨#[]⟩)) :: (3, .string ((⟨#[35, 69, 88, 84, 45, 88, 45, 77, 65, 80, 58, 85, 82, 73, 61, 34]⟩ : ByteArray) ++ k.uri ++ (⟨#[34]⟩ : ByteArray))) :: (14, .bool (decide ((0 : Nat) < k.limit))) :: []) [⟨g, k.cells, 99, false⟩] (fun _ => False) w a w4 := (((((((hS.ogh c).know (c.outE (by decide +kernel) (hS.get 14 rfl))).know (c.outE (by decide +kernel) (hS.get 3 rfl))).know (c.outE (by decide +kernel) (hS.get 2 rfl))).know (c.outE (by decide +kernel) (hS.get 0 rfl))).know (c.slot 0 _ (by decide +kernel) rfl)).know (c.slot 15 _ (by decide +kernel) rfl))
   clear c
   simp only [List.drop_succ_cons, List.drop_zero]
   refine sv_r (v := .string ((⟨#[35, 69, 88, 84, 45, 88, 45, 77, 65, 80, 58, 85, 82, 73, 61, 34]⟩ : ByteArray) ++ k.uri ++ (⟨#[34]⟩ : ByteArray) ++ ((⟨#[44, 66, 89, 84, 69, 82, 65, 78, 71, 69, 61]⟩ : ByteArray) ++ dec k.limit ++ (⟨#[64]⟩ : ByteArray) ++ dec k.offset))) hS (ex_add (hS.get 15 rfl) (hS.get 30 rfl) (by simp only [ByteArray.size_append', ByteArray.size_mk', List.size_toArray, List.length_cons, List.length_nil]; omega)) fun a hS => ?_
   refine sv_r (v := .string ((⟨#[35, 69, 88, 84, 45, 88, 45, 77, 65, 80, 58, 85, 82, 73, 61, 34]⟩ : ByteArray) ++ k.uri ++ (⟨#[34]⟩ : ByteArray) ++ ((⟨#[44, 66, 89, 84, 69, 82, 65, 78, 71, 69, 61]⟩ : ByteArray) ++ dec k.limit ++ (⟨#[64]⟩ : ByteArray) ++ dec k.offset))) hS (ex_as (hS.get 31 rfl)) fun a hS => ?_
   refine wpList_nil ?_
   replace hS := hS.cut [3, 0, 2, 14]
   exact hQ' _ _ ⟨_, rfl, by rw [if_pos hb1]; (try simp only [ByteArray.size_append', ByteArray.size_mk', List.size_toArray, List.length_cons, List.length_nil]); omega, by rw [if_pos hb1]; exact hS.pick rfl⟩
 ·intro hb1 Q' hQ'
  have hb1 := of_decide_eq_false hb1
  refine wp_skip ?_
  exact hQ' _ _ ⟨_, rfl, by rw [if_neg hb1]; (try simp only [ByteArray.size_append', ByteArray.size_mk', List.size_toArray, List.length_cons, List.length_nil]); omega, by rw [if_neg hb1]; exact hS.pick rfl⟩
 ·rintro a w5 ⟨o1, ho1, hzo1, hS⟩
  show Code.wp _ _ _ _ _
  refine wp_seq ?_
  refine wp_region_lit ?_
  refine sv_r (v := .string o1) hS (ex_mv (hS.get 3 rfl)) fun a hS => ?_
  refine sv_r (v := .string (o1 ++ (⟨#[10]⟩ : ByteArray))) hS (ex_add (hS.get 32 rfl) rfl (by simp only [ByteArray.size_append', ByteArray.size_mk', List.size_toArray, List.length_cons, List.length_nil]; omega)) fun a hS => ?_
  refine sv_r (v := .string (o1 ++ (⟨#[10]⟩ : ByteArray))) hS (ex_as (hS.get 33 rfl)) fun a hS => ?_
  refine wpList_nil ?_
  replace hS := hS.cut [2, 3, 0]
  show Code.wp _ _ _ _ _
  refine wp_ret ?_
  try simp only [Exit.inBlock, Exit.then]
  refine ret_of_ev hS.ev rfl (hS.get 2 rfl) ⟨?_, hS.toBelow⟩
  rw [ho1]; rfl
end Go.Proofs.YtfonjeoiallhhaaGreatDoor
/- The walk of spec.short: eighths of seconds without noughts at the end. -/
set_option maxRecDepth 100000
set_option maxHeartbeats 8000000
namespace Go.Proofs.YtfonjeoiallhhaaGreatDoor
open Go.RowKit
/-- A text without noughts at the end. -/
def stripZ (l : List UInt8) : List UInt8 := (l.reverse.dropWhile fun b => b == 48).reverse
def stripP (l : List UInt8) : List UInt8 := if l.getLast? = some 46 then l.dropLast else l
def shorts (e : Nat) : ByteArray := ⟨(stripP (stripZ (secs e).data.toList)).toArray⟩
theorem stripZ_snoc (l : List UInt8) : stripZ (l ++ [48]) = stripZ l := by simp [stripZ]
theorem stripZ_ne (l : List UInt8) {b : UInt8} (h : b ≠ 48) : stripZ (l ++ [b]) = l ++ [b] := by
 have : (b == 48) = false := by simpa using h
 simp [stripZ, this]
/-- A text that is not empty: what stands ahead of its last byte. -/
theorem last_split {s : ByteArray} (h : s.size - 1 < s.size) : s.data.toList = (s.extract 0 (s.size - 1)).data.toList ++ [s[s.size - 1]] := by
 have hs : s.data.toList.length = s.size := by rw [Array.length_toList]; rfl
 have h1 : (s.extract 0 (s.size - 1)).data.toList = s.data.toList.take (s.size - 1) := by
  rw [ByteArray.data_extract, Array.toList_extract]
  simp
 rw [h1]
 have h2 : s[s.size - 1] = s.data.toList[s.size - 1]'(by omega) := by simp [ByteArray.getElem_eq_getElem_data]
 rw [h2]
 have h3 := List.take_append_drop (s.size - 1) s.data.toList
 have h4 : s.data.toList.drop (s.size - 1) = [s.data.toList[s.size - 1]'(by omega)] := by
  rw [List.drop_eq_getElem_cons (by omega)]
  congr 1
  exact List.drop_eq_nil_of_le (by omega)
 rw [h4] at h3
 exact h3.symm
theorem size_pos_of_mem {s : ByteArray} {b : UInt8} (h : b ∈ s.data.toList) : s.size - 1 < s.size := by
 have h1 := List.length_pos_of_mem h
 have hs : s.data.toList.length = s.size := by rw [Array.length_toList]; rfl
 omega
theorem toNat_inj8 {b c : UInt8} (h : b.toNat = c.toNat) : b = c := UInt8.toNat_inj.1 h
theorem secs_dot (e : Nat) : (46 : UInt8) ∈ (secs e).data.toList := by
 simp [secs, ByteArray.data_append]
theorem extract_size {s : ByteArray} (h : s.size - 1 < s.size) : (s.extract 0 (s.size - 1)).size = s.size - 1 := by
 rw [ByteArray.size_extract]; omega
theorem ba_eq {s t : ByteArray} (h : s.data.toList = t.data.toList) : s = t := by
 apply ByteArray.ext
 exact Array.ext' h
theorem short_any (e : Nat) (he : e < 1000000) (w : World) : Calls Tryz.prog 43 #[.int .i64 (e : Int)] w fun e' w' => e' = .returned (.string (shorts e)) ∧ Below w.heap.size w w' := by
 refine calls_of_ev Tryz.func43 rfl (show 1 ≤ 29 from by decide) ?_
 intro a hE
 have hE : Ev 29 ((0, .int .i64 ((e : Nat) : Int)) :: []) a := hE
 have hS : Sv 29 ((0, .int .i64 ((e : Nat) : Int)) :: []) [] (fun _ => False) w a w := Sv.start hE _ _
 clear hE
 refine wp_seq ?_
 refine wp_region_lit ?_
 refine sv_r (v := .string (⟨#[]⟩)) hS ex_ac fun a hS => ?_
 refine wpList_nil ?_
 replace hS := hS.cut [2, 0]
 show Code.wp _ _ _ _ _
 refine wp_seq ?_
 refine wp_region_lit ?_
 refine sv_r (v := .int .i64 ((e : Nat) : Int)) hS (ex_mv (hS.get 0 rfl)) fun a hS => ?_
 refine sv_callq (v := .string (secs e)) hS rfl rfl (by decide) (ex_call1 cf_spec_seconds (hS.get 4 rfl)) (Calls.mono (seconds_any e _ he) (by rintro e w' ⟨rfl, rfl⟩; exact ⟨rfl, rfl⟩)) ?_
 intro a hS
 refine sv_r (v := .string (secs e)) hS (ex_as (hS.get 5 rfl)) fun a hS => ?_
 refine wpList_nil ?_
 replace hS := hS.cut [3, 2]
 show Code.wp _ _ _ _ _
 refine wp_seq ?_
 refine wp_block ?_
 refine wp_loop (fun a w' => ∃ s : ByteArray, stripZ s.data.toList = stripZ (secs e).data.toList ∧ (46 : UInt8) ∈ s.data.toList ∧ s.size ≤ 30 ∧ Sv 29 ((3, .string s) :: []) [] (fun _ => False) w a w') (fun a _ => (strOf (a.eval (.tmp 3))).size) ⟨secs e, rfl, secs_dot e, Nat.le_trans (secs_size he) (by omega), hS.pick rfl⟩ ?_
 clear hS
 rintro a w1 ⟨s, hst, h46, hz, hS⟩
 have hlt := size_pos_of_mem h46
 have hS0 := hS.get 3 rfl
 refine wp_seq ?_
 refine wp_seq ?_
 refine wp_region_lit ?_
 refine sv_r (v := .string s) hS (ex_mv (hS.get 3 rfl)) fun a hS => ?_
 refine sv_r (v := .string s) hS (ex_mv (hS.get 3 rfl)) fun a hS => ?_
 refine sv_r (v := .int .i64 ((s.size : Nat) : Int)) hS (ex_slen (ats := #[]) (hS.get 7 rfl)) fun a hS => ?_
 refine sv_r (v := .int .i64 ((s.size - 1 : Nat) : Int)) hS (ei_sub (hS.get 8 rfl) rfl (by rw [IntKind.wrap_i64]; omega)) fun a hS => ?_
 refine sv_r (v := .int .u8 (((s[s.size - 1]'hlt).toNat : Nat) : Int)) hS (ex_sidx (hS.get 6 rfl) (hS.get 9 rfl) hlt) fun a hS => ?_
 refine sv_r (v := .bool (decide (((s[s.size - 1]'hlt).toNat : Nat) = 48))) hS (ei_eql (hS.get 10 rfl) rfl (by rw [decide_eq_decide]; omega)) fun a hS => ?_
 refine wpList_nil ?_
 replace hS := hS.cut [11, 3]
 show Code.wp _ _ _ _ _
 refine wp_cond_split (hS.get 11 rfl) (fun hb3 => ?_) (fun hb3 => ?_)
 ·have hb3 := of_decide_eq_true hb3
  refine wp_skip ?_
  show Code.wp _ _ _ _ _
  refine wp_block ?_
  refine wp_region_lit ?_
  refine sv_r (v := .string s) hS (ex_mv (hS.get 3 rfl)) fun a hS => ?_
  refine sv_r (v := .string s) hS (ex_mv (hS.get 3 rfl)) fun a hS => ?_
  refine sv_r (v := .int .i64 ((s.size : Nat) : Int)) hS (ex_slen (ats := #[]) (hS.get 13 rfl)) fun a hS => ?_
  refine sv_r (v := .int .i64 ((s.size - 1 : Nat) : Int)) hS (ei_sub (hS.get 14 rfl) rfl (by rw [IntKind.wrap_i64]; omega)) fun a hS => ?_
  refine sv_r (v := .string (s.extract 0 (s.size - 1))) hS (ex_ssh (hS.get 12 rfl) (hS.get 15 rfl) (by omega)) fun a hS => ?_
  refine sv_r (v := .string (s.extract 0 (s.size - 1))) hS (ex_as (hS.get 16 rfl)) fun a hS => ?_
  refine wpList_nil ?_
  replace hS := hS.cut [3, 11]
  refine ⟨⟨s.extract 0 (s.size - 1), ?_, ?_, by rw [extract_size hlt]; omega, hS.pick rfl⟩, ?_⟩
  ·rw [← hst, last_split hlt, toNat_inj8 (c := 48) hb3, stripZ_snoc]
  ·rw [last_split hlt, List.mem_append] at h46; rcases h46 with h46 | h46; · exact h46
   ·rw [List.mem_singleton] at h46; rw [← h46] at hb3; exact absurd hb3 (by decide)
  ·have h1 := hS.get 3 rfl; rw [h1]; have h2 := hS0; rw [h2]; simp only [strOf]; rw [extract_size hlt]; omega
 ·have hb3 := of_decide_eq_false hb3
  refine wp_exit ?_
  simp only [Exit.inBlock, Exit.then, if_true]
  show Code.wp _ _ _ _ _
  refine wp_seq ?_
  refine wp_seq ?_
  refine wp_region_lit ?_
  refine sv_r (v := .string s) hS (ex_mv (hS.get 3 rfl)) fun a hS => ?_
  refine sv_r (v := .string s) hS (ex_mv (hS.get 3 rfl)) fun a hS => ?_
  refine sv_r (v := .int .i64 ((s.size : Nat) : Int)) hS (ex_slen (ats := #[]) (hS.get 18 rfl)) fun a hS => ?_
  refine sv_r (v := .int .i64 ((s.size - 1 : Nat) : Int)) hS (ei_sub (hS.get 19 rfl) rfl (by rw [IntKind.wrap_i64]; omega)) fun a hS => ?_
  refine sv_r (v := .int .u8 (((s[s.size - 1]'hlt).toNat : Nat) : Int)) hS (ex_sidx (hS.get 17 rfl) (hS.get 20 rfl) hlt) fun a hS => ?_
  refine sv_r (v := .bool (decide (((s[s.size - 1]'hlt).toNat : Nat) = 46))) hS (ei_eql (hS.get 21 rfl) rfl (by rw [decide_eq_decide]; omega)) fun a hS => ?_
  refine wpList_nil ?_
  replace hS := hS.cut [22, 11, 3]
  show Code.wp _ _ _ _ _
  have hss : stripZ (secs e).data.toList = s.data.toList := by rw [← hst, last_split hlt, stripZ_ne _ (fun h => hb3 (by rw [h]; rfl))]
  refine wp_cond_split (hS.get 22 rfl) (fun hd => ?_) (fun hd => ?_)
  ·have hd := of_decide_eq_true hd
   refine wp_region_lit ?_
   refine sv_r (v := .string s) hS (ex_mv (hS.get 3 rfl)) fun a hS => ?_
   refine sv_r (v := .string s) hS (ex_mv (hS.get 3 rfl)) fun a hS => ?_
   refine sv_r (v := .int .i64 ((s.size : Nat) : Int)) hS (ex_slen (ats := #[]) (hS.get 24 rfl)) fun a hS => ?_
   refine sv_r (v := .int .i64 ((s.size - 1 : Nat) : Int)) hS (ei_sub (hS.get 25 rfl) rfl (by rw [IntKind.wrap_i64]; omega)) fun a hS => ?_
   refine sv_r (v := .string (s.extract 0 (s.size - 1))) hS (ex_ssh (hS.get 23 rfl) (hS.get 26 rfl) (by omega)) fun a hS => ?_
   refine sv_r (v := .string (s.extract 0 (s.size - 1))) hS (ex_as (hS.get 27 rfl)) fun a hS => ?_
   refine wpList_nil ?_
   replace hS := hS.cut [3, 22, 11]
   show Code.wp _ _ _ _ _
   refine wp_seq ?_
   refine wp_region_lit ?_
   refine sv_r (v := .string (s.extract 0 (s.size - 1))) hS (ex_mv (hS.get 3 rfl)) fun a hS => ?_
   refine sv_r (v := .string (s.extract 0 (s.size - 1))) hS (ex_as (hS.get 28 rfl)) fun a hS => ?_
   refine wpList_nil ?_
   replace hS := hS.cut [2, 3, 22, 11]
   show Code.wp _ _ _ _ _
   refine wp_ret ?_
   try simp only [Exit.inBlock, Exit.then]
   refine ret_of_ev hS.ev rfl (hS.get 2 rfl) ⟨?_, hS.toBelow⟩
   congr 2; refine ba_eq ?_; show _ = stripP (stripZ (secs e).data.toList); rw [hss, stripP, last_split hlt, toNat_inj8 (c := 46) hd]; simp
  ·have hd := of_decide_eq_false hd
   refine wp_skip ?_
   show Code.wp _ _ _ _ _
   refine wp_seq ?_
   refine wp_region_lit ?_
   refine sv_r (v := .string s) hS (ex_mv (hS.get 3 rfl)) fun a hS => ?_
   refine sv_r (v := .string s) hS (ex_as (hS.get 28 rfl)) fun a hS => ?_
   refine wpList_nil ?_
   replace hS := hS.cut [2, 22, 11, 3]
   show Code.wp _ _ _ _ _
   refine wp_ret ?_
   try simp only [Exit.inBlock, Exit.then]
   refine ret_of_ev hS.ev rfl (hS.get 2 rfl) ⟨?_, hS.toBelow⟩
   congr 2; refine ba_eq ?_; show _ = stripP (stripZ (secs e).data.toList); rw [hss, stripP, if_neg]; rw [last_split hlt]; simp; exact fun h => hd (by rw [h]; rfl)
end Go.Proofs.YtfonjeoiallhhaaGreatDoor
