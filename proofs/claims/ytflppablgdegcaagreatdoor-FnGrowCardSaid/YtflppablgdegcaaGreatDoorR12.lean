/- Joined: Kt, Sh. -/
import Derived.Test.YtflppablgdegcaaGreatDoorR11
import Derived.Test.YtflppablgdegcaaGreatDoorR06
set_option maxRecDepth 100000
set_option maxHeartbeats 8000000
namespace Go.Proofs.YtflppablgdegcaaGreatDoor
open Go.RowKit
theorem cv_int64_uint64 (n : Int) {z : Int} (h : IntKind.u64.wrap n = z) : Cv 2 24 (.int .i64 n) (.int .u64 z) := by subst h; intro w; go_simp
theorem cv_int_uint64 (n : Int) {z : Int} (h : IntKind.u64.wrap n = z) : Cv 3 24 (.int .i64 n) (.int .u64 z) := by subst h; intro w; go_simp
structure KySz (k : Ky) : Prop where
 method : k.method.size ≤ 30
 uri : k.uri.size ≤ 30
 iv : k.iv.size ≤ 30
 format : k.format.size ≤ 30
 versions : k.versions.size ≤ 30
theorem KeyOk.sz {k : Ky} (h : KeyOk k) : KySz k := by
 rcases h with rfl | ⟨u, hu, rfl⟩ | ⟨u, a, b, c, hu, ha, hb, hc, rfl⟩
 ·exact ⟨by decide, by decide, by decide, by decide, by decide⟩
 ·have := hu.size; exact ⟨(by show (ByteArray.size ⟨#[65, 69, 83, 45, 49, 50, 56]⟩) ≤ 30; decide), by show u.size ≤ 30; omega, by show ByteArray.size ⟨#[]⟩ ≤ 30; decide, by show ByteArray.size ⟨#[]⟩ ≤ 30; decide, by show ByteArray.size ⟨#[]⟩ ≤ 30; decide⟩
 ·have := hu.size; have h1 := dec_le (n := a) (by omega); have h2 := dec_le (n := b) (by omega); have h3 := dec_le (n := c) (by omega)
  refine ⟨?_, ?_, ?_, ?_, ?_⟩ <;> (simp only [ByteArray.size_append', ByteArray.size_mk', List.size_toArray, List.length_cons, List.length_nil]; omega)
def Ky.text (k : Ky) : ByteArray :=
 let o := (⟨#[35, 69, 88, 84, 45, 88, 45, 75, 69, 89, 58, 77, 69, 84, 72, 79, 68, 61]⟩ : ByteArray) ++ k.method
 if decide (k.method.data.toList = (⟨#[78, 79, 78, 69]⟩ : ByteArray).data.toList) = true then o ++ (⟨#[10]⟩ : ByteArray) else
 let o := o ++ (((⟨#[44, 85, 82, 73, 61, 34]⟩ : ByteArray) ++ k.uri) ++ (⟨#[34]⟩ : ByteArray))
 let o := if ne k.iv = true then o ++ ((⟨#[44, 73, 86, 61]⟩ : ByteArray) ++ k.iv) else o
 let o := if ne k.format = true then o ++ (((⟨#[44, 75, 69, 89, 70, 79, 82, 77, 65, 84, 61, 34]⟩ : ByteArray) ++ k.format) ++ (⟨#[34]⟩ : ByteArray)) else o
 let o := if ne k.versions = true then o ++ (((⟨#[44, 75, 69, 89, 70, 79, 82, 77, 65, 84, 86, 69, 82, 83, 73, 79, 78, 83, 61, 34]⟩ : ByteArray) ++ k.versions) ++ (⟨#[34]⟩ : ByteArray)) else o
 o ++ (⟨#[10]⟩ : ByteArray)
def Mp.text (m : Mp) : ByteArray :=
 let o := ((⟨#[35, 69, 88, 84, 45, 88, 45, 77, 65, 80, 58, 85, 82, 73, 61, 34]⟩ : ByteArray) ++ m.uri) ++ (⟨#[34]⟩ : ByteArray)
 let o := if 0 < m.limit then o ++ ((((⟨#[44, 66, 89, 84, 69, 82, 65, 78, 71, 69, 61]⟩ : ByteArray) ++ (dec m.limit)) ++ (⟨#[64]⟩ : ByteArray)) ++ (dec m.offset)) else o
 o ++ (⟨#[10]⟩ : ByteArray)
theorem keyText_any (k : Ky) (hk : KySz k) (g : Nat) (w : World) (hg : w.heap[g]? = some (.cells k.cells 106 (0, 0))) : Calls Tryz.prog 28 #[pt g 0] w fun e w' => e = .returned (.string k.text) ∧ Below w.heap.size w w' := by
 obtain ⟨q1, q2, q3, q4, q5⟩ := hk
 refine calls_of_ev Tryz.func28 rfl (show 1 ≤ 64 from by decide) fun a hE => ?_
 have hE : Ev 64 ((0, pt g 0) :: []) a := hE
 have Z : Sv 64 ((0, pt g 0) :: []) [] (fun _ => False) w a w := Sv.start hE _ _
 clear hE
 replace Z := Z.addR hg (by intro b hb; cases hb)
 refine wr (sv_n 1 Z rfl fun a Z => Z.nx [2, 0] rfl fun Z => sh (wr (sv_n 3 Z rfl fun a Z => sv_l (v := .string k.method) 0 Z rfl (Z.g 6 rfl) lt_string rfl fun a Z => ?_)))
 refine sv_r (v := .string ((⟨#[35, 69, 88, 84, 45, 88, 45, 75, 69, 89, 58, 77, 69, 84, 72, 79, 68, 61]⟩ : ByteArray) ++ k.method)) Z (ex_add rfl (Z.g 7 rfl) (by simp only [ByteArray.size_append', ByteArray.size_mk', List.size_toArray, List.length_cons, List.length_nil]; omega)) fun a Z => sv_n 1 Z rfl fun a Z => Z.nx [3, 2, 0] rfl fun Z => sh (wp_seq (wr (sv_n 3 Z rfl fun a Z => sv_l (v := .string k.method) 0 Z rfl (Z.g 11 rfl) lt_string rfl fun a Z => sv_r (v := .bool (decide (k.method.data.toList = (⟨#[78, 79, 78, 69]⟩ : ByteArray).data.toList))) Z (ex_eqs (Z.g 12 rfl) rfl) fun a Z => Z.nx [13, 3, 2, 0] rfl fun Z => sh ?_)))
 refine wp_cond_split (Z.g 13 rfl) (fun hb0 => ?_) (fun hb0 => ?_)
 ·have hb0 := of_decide_eq_true hb0
  refine wr (sv_n 1 Z rfl fun a Z => ?_)
  refine sv_r (v := .string ((⟨#[35, 69, 88, 84, 45, 88, 45, 75, 69, 89, 58, 77, 69, 84, 72, 79, 68, 61]⟩ : ByteArray) ++ k.method ++ (⟨#[10]⟩ : ByteArray))) Z (ex_add (Z.g 14 rfl) rfl (by simp only [ByteArray.size_append', ByteArray.size_mk', List.size_toArray, List.length_cons, List.length_nil]; omega)) fun a Z => sv_n 1 Z rfl fun a Z => Z.nx [2, 13, 3, 0] rfl fun Z => sh (wp_ret ?_)
  try simp only [Exit.inBlock, Exit.then]
  refine ret_of_ev Z.ev rfl (Z.g 2 rfl) ⟨?_, Z.toBelow⟩
  simp only [Ky.text, if_pos (show decide (k.method.data.toList = (⟨#[78, 79, 78, 69]⟩ : ByteArray).data.toList) = true from by simpa using hb0)]
 ·have hb0 := of_decide_eq_false hb0
  refine wp_skip (sh (wr (sv_n 4 Z rfl fun a Z => sv_l (v := .string k.uri) 0 Z rfl (Z.g 19 rfl) lt_string rfl fun a Z => ?_)))
  refine sv_r (v := .string ((⟨#[44, 85, 82, 73, 61, 34]⟩ : ByteArray) ++ k.uri)) Z (ex_add rfl (Z.g 20 rfl) (by simp only [ByteArray.size_append', ByteArray.size_mk', List.size_toArray, List.length_cons, List.length_nil]; omega)) fun a Z => ?_
  refine sv_r (v := .string ((⟨#[44, 85, 82, 73, 61, 34]⟩ : ByteArray) ++ k.uri ++ (⟨#[34]⟩ : ByteArray))) Z (ex_add (Z.g 21 rfl) rfl (by simp only [ByteArray.size_append', ByteArray.size_mk', List.size_toArray, List.length_cons, List.length_nil]; omega)) fun a Z => ?_
  refine sv_r (v := .string ((⟨#[35, 69, 88, 84, 45, 88, 45, 75, 69, 89, 58, 77, 69, 84, 72, 79, 68, 61]⟩ : ByteArray) ++ k.method ++ ((⟨#[44, 85, 82, 73, 61, 34]⟩ : ByteArray) ++ k.uri ++ (⟨#[34]⟩ : ByteArray)))) Z (ex_add (Z.g 16 rfl) (Z.g 22 rfl) (by simp only [ByteArray.size_append', ByteArray.size_mk', List.size_toArray, List.length_cons, List.length_nil]; omega)) fun a Z => sv_n 1 Z rfl fun a Z => Z.nx [3, 13, 2, 0] rfl fun Z => sh (wp_seq (wr (sv_n 3 Z rfl fun a Z => sv_l (v := .string k.iv) 0 Z rfl (Z.g 26 rfl) lt_string rfl fun a Z => sv_r (v := .bool (ne k.iv)) Z (ex_ne0 (Z.g 27 rfl)) fun a Z => Z.nx [28, 3, 13, 2, 0] rfl fun Z => sh ?_)))
  refine if_join (fun a w' => ∃ zz : ByteArray, zz = (if (ne k.iv) = true then (⟨#[35, 69, 88, 84, 45, 88, 45, 75, 69, 89, 58, 77, 69, 84, 72, 79, 68, 61]⟩ : ByteArray) ++ k.method ++ ((⟨#[44, 85, 82, 73, 61, 34]⟩ : ByteArray) ++ k.uri ++ (⟨#[34]⟩ : ByteArray)) ++ ((⟨#[44, 73, 86, 61]⟩ : ByteArray) ++ k.iv) else (⟨#[35, 69, 88, 84, 45, 88, 45, 75, 69, 89, 58, 77, 69, 84, 72, 79, 68, 61]⟩ : ByteArray) ++ k.method ++ ((⟨#[44, 85, 82, 73, 61, 34]⟩ : ByteArray) ++ k.uri ++ (⟨#[34]⟩ : ByteArray))) ∧ zz.size ≤ 200 ∧ Sv 64 ((3, .string zz) :: (13, .bool (decide (k.method.data.toList = (⟨#[78, 79, 78, 69]⟩ : ByteArray).data.toList))) :: (2, .string (⟨#[]⟩)) :: (0, pt g 0) :: []) [⟨g, k.cells, 106, false⟩] (fun _ => False) w a w') (Z.g 28 rfl) ?_ ?_ ?_
  ·intro hb1 Q' hQ'
   refine wp_region_lit (sv_n 4 Z rfl fun a Z => sv_l (v := .string k.iv) 0 Z rfl (Z.g 32 rfl) lt_string rfl fun a Z => ?_)
   refine sv_r (v := .string ((⟨#[44, 73, 86, 61]⟩ : ByteArray) ++ k.iv)) Z (ex_add rfl (Z.g 33 rfl) (by simp only [ByteArray.size_append', ByteArray.size_mk', List.size_toArray, List.length_cons, List.length_nil]; omega)) fun a Z => ?_
   refine sv_r (v := .string ((⟨#[35, 69, 88, 84, 45, 88, 45, 75, 69, 89, 58, 77, 69, 84, 72, 79, 68, 61]⟩ : ByteArray) ++ k.method ++ ((⟨#[44, 85, 82, 73, 61, 34]⟩ : ByteArray) ++ k.uri ++ (⟨#[34]⟩ : ByteArray)) ++ ((⟨#[44, 73, 86, 61]⟩ : ByteArray) ++ k.iv))) Z (ex_add (Z.g 29 rfl) (Z.g 34 rfl) (by simp only [ByteArray.size_append', ByteArray.size_mk', List.size_toArray, List.length_cons, List.length_nil]; omega)) fun a Z => sv_n 1 Z rfl fun a Z => Z.nx [3, 28, 13, 2, 0] rfl fun Z => ?_
   exact hQ' _ _ ⟨_, rfl, by rw [if_pos hb1]; (try simp only [ByteArray.size_append', ByteArray.size_mk', List.size_toArray, List.length_cons, List.length_nil]); omega, by rw [if_pos hb1]; exact Z.pick rfl⟩
  ·intro hb1 Q' hQ'
   refine wp_skip ?_
   exact hQ' _ _ ⟨_, rfl, by rw [if_neg (by rw [hb1]; decide)]; (try simp only [ByteArray.size_append', ByteArray.size_mk', List.size_toArray, List.length_cons, List.length_nil]); omega, by rw [if_neg (by rw [hb1]; decide)]; exact Z.pick rfl⟩
  ·rintro a w2 ⟨o1, ho1, hzo1, Z⟩
   refine sh (wp_seq (wr (sv_n 3 Z rfl fun a Z => sv_l (v := .string k.format) 0 Z rfl (Z.g 38 rfl) lt_string rfl fun a Z => sv_r (v := .bool (ne k.format)) Z (ex_ne0 (Z.g 39 rfl)) fun a Z => Z.nx [40, 3, 13, 2, 0] rfl fun Z => sh ?_)))
   refine if_join (fun a w' => ∃ zz : ByteArray, zz = (if (ne k.format) = true then o1 ++ ((⟨#[44, 75, 69, 89, 70, 79, 82, 77, 65, 84, 61, 34]⟩ : ByteArray) ++ k.format ++ (⟨#[34]⟩ : ByteArray)) else o1) ∧ zz.size ≤ 300 ∧ Sv 64 ((3, .string zz) :: (13, .bool (decide (k.method.data.toList = (⟨#[78, 79, 78, 69]⟩ : ByteArray).data.toList))) :: (2, .string (⟨#[]⟩)) :: (0, pt g 0) :: []) [⟨g, k.cells, 106, false⟩] (fun _ => False) w a w') (Z.g 40 rfl) ?_ ?_ ?_
   ·intro hb3 Q' hQ'
    refine wp_region_lit (sv_n 4 Z rfl fun a Z => sv_l (v := .string k.format) 0 Z rfl (Z.g 44 rfl) lt_string rfl fun a Z => ?_)
    refine sv_r (v := .string ((⟨#[44, 75, 69, 89, 70, 79, 82, 77, 65, 84, 61, 34]⟩ : ByteArray) ++ k.format)) Z (ex_add rfl (Z.g 45 rfl) (by simp only [ByteArray.size_append', ByteArray.size_mk', List.size_toArray, List.length_cons, List.length_nil]; omega)) fun a Z => ?_
    refine sv_r (v := .string ((⟨#[44, 75, 69, 89, 70, 79, 82, 77, 65, 84, 61, 34]⟩ : ByteArray) ++ k.format ++ (⟨#[34]⟩ : ByteArray))) Z (ex_add (Z.g 46 rfl) rfl (by simp only [ByteArray.size_append', ByteArray.size_mk', List.size_toArray, List.length_cons, List.length_nil]; omega)) fun a Z => ?_
    refine sv_r (v := .string (o1 ++ ((⟨#[44, 75, 69, 89, 70, 79, 82, 77, 65, 84, 61, 34]⟩ : ByteArray) ++ k.format ++ (⟨#[34]⟩ : ByteArray)))) Z (ex_add (Z.g 41 rfl) (Z.g 47 rfl) (by simp only [ByteArray.size_append', ByteArray.size_mk', List.size_toArray, List.length_cons, List.length_nil]; omega)) fun a Z => sv_n 1 Z rfl fun a Z => Z.nx [3, 40, 13, 2, 0] rfl fun Z => ?_
    exact hQ' _ _ ⟨_, rfl, by rw [if_pos hb3]; (try simp only [ByteArray.size_append', ByteArray.size_mk', List.size_toArray, List.length_cons, List.length_nil]); omega, by rw [if_pos hb3]; exact Z.pick rfl⟩
   ·intro hb3 Q' hQ'
    refine wp_skip ?_
    exact hQ' _ _ ⟨_, rfl, by rw [if_neg (by rw [hb3]; decide)]; (try simp only [ByteArray.size_append', ByteArray.size_mk', List.size_toArray, List.length_cons, List.length_nil]); omega, by rw [if_neg (by rw [hb3]; decide)]; exact Z.pick rfl⟩
   ·rintro a w4 ⟨o2, ho2, hzo2, Z⟩
    refine sh (wp_seq (wr (sv_n 3 Z rfl fun a Z => sv_l (v := .string k.versions) 0 Z rfl (Z.g 51 rfl) lt_string rfl fun a Z => sv_r (v := .bool (ne k.versions)) Z (ex_ne0 (Z.g 52 rfl)) fun a Z => Z.nx [53, 3, 13, 2, 0] rfl fun Z => sh ?_)))
    refine if_join (fun a w' => ∃ zz : ByteArray, zz = (if (ne k.versions) = true then o2 ++ ((⟨#[44, 75, 69, 89, 70, 79, 82, 77, 65, 84, 86, 69, 82, 83, 73, 79, 78, 83, 61, 34]⟩ : ByteArray) ++ k.versions ++ (⟨#[34]⟩ : ByteArray)) else o2) ∧ zz.size ≤ 400 ∧ Sv 64 ((3, .string zz) :: (13, .bool (decide (k.method.data.toList = (⟨#[78, 79, 78, 69]⟩ : ByteArray).data.toList))) :: (2, .string (⟨#[]⟩)) :: (0, pt g 0) :: []) [⟨g, k.cells, 106, false⟩] (fun _ => False) w a w') (Z.g 53 rfl) ?_ ?_ ?_
    ·intro hb5 Q' hQ'
     refine wp_region_lit (sv_n 4 Z rfl fun a Z => sv_l (v := .string k.versions) 0 Z rfl (Z.g 57 rfl) lt_string rfl fun a Z => ?_)
     refine sv_r (v := .string ((⟨#[44, 75, 69, 89, 70, 79, 82, 77, 65, 84, 86, 69, 82, 83, 73, 79, 78, 83, 61, 34]⟩ : ByteArray) ++ k.versions)) Z (ex_add rfl (Z.g 58 rfl) (by simp only [ByteArray.size_append', ByteArray.size_mk', List.size_toArray, List.length_cons, List.length_nil]; omega)) fun a Z => ?_
     refine sv_r (v := .string ((⟨#[44, 75, 69, 89, 70, 79, 82, 77, 65, 84, 86, 69, 82, 83, 73, 79, 78, 83, 61, 34]⟩ : ByteArray) ++ k.versions ++ (⟨#[34]⟩ : ByteArray))) Z (ex_add (Z.g 59 rfl) rfl (by simp only [ByteArray.size_append', ByteArray.size_mk', List.size_toArray, List.length_cons, List.length_nil]; omega)) fun a Z => ?_
     refine sv_r (v := .string (o2 ++ ((⟨#[44, 75, 69, 89, 70, 79, 82, 77, 65, 84, 86, 69, 82, 83, 73, 79, 78, 83, 61, 34]⟩ : ByteArray) ++ k.versions ++ (⟨#[34]⟩ : ByteArray)))) Z (ex_add (Z.g 54 rfl) (Z.g 60 rfl) (by simp only [ByteArray.size_append', ByteArray.size_mk', List.size_toArray, List.length_cons, List.length_nil]; omega)) fun a Z => sv_n 1 Z rfl fun a Z => Z.nx [3, 53, 13, 2, 0] rfl fun Z => ?_
     exact hQ' _ _ ⟨_, rfl, by rw [if_pos hb5]; (try simp only [ByteArray.size_append', ByteArray.size_mk', List.size_toArray, List.length_cons, List.length_nil]); omega, by rw [if_pos hb5]; exact Z.pick rfl⟩
    ·intro hb5 Q' hQ'
     refine wp_skip ?_
     exact hQ' _ _ ⟨_, rfl, by rw [if_neg (by rw [hb5]; decide)]; (try simp only [ByteArray.size_append', ByteArray.size_mk', List.size_toArray, List.length_cons, List.length_nil]); omega, by rw [if_neg (by rw [hb5]; decide)]; exact Z.pick rfl⟩
    ·rintro a w6 ⟨o3, ho3, hzo3, Z⟩
     refine sh (wr (sv_n 1 Z rfl fun a Z => ?_))
     refine sv_r (v := .string (o3 ++ (⟨#[10]⟩ : ByteArray))) Z (ex_add (Z.g 62 rfl) rfl (by simp only [ByteArray.size_append', ByteArray.size_mk', List.size_toArray, List.length_cons, List.length_nil]; omega)) fun a Z => sv_n 1 Z rfl fun a Z => Z.nx [2, 3, 13, 0] rfl fun Z => sh (wp_ret ?_)
     try simp only [Exit.inBlock, Exit.then]
     refine ret_of_ev Z.ev rfl (Z.g 2 rfl) ⟨?_, Z.toBelow⟩
     rw [ho3, ho2, ho1]; simp only [Ky.text, if_neg (show ¬ decide (k.method.data.toList = (⟨#[78, 79, 78, 69]⟩ : ByteArray).data.toList) = true from by simpa using hb0)]
theorem mapText_any (k : Mp) (hu : k.uri.size ≤ 30) (hl : k.limit < 9223372036854775808) (ho : k.offset < 9223372036854775808) (g : Nat) (w : World) (hg : w.heap[g]? = some (.cells k.cells 109 (0, 0))) : Calls Tryz.prog 29 #[pt g 0] w fun e w' => e = .returned (.string k.text) ∧ Below w.heap.size w w' := by
 have hd1 := dec_le (n := k.limit) (by omega)
 have hd2 := dec_le (n := k.offset) (by omega)
 refine calls_of_ev Tryz.func29 rfl (show 1 ≤ 34 from by decide) fun a hE => ?_
 have hE : Ev 34 ((0, pt g 0) :: []) a := hE
 have Z : Sv 34 ((0, pt g 0) :: []) [] (fun _ => False) w a w := Sv.start hE _ _
 clear hE
 replace Z := Z.addR hg (by intro b hb; cases hb)
 refine wr (sv_n 1 Z rfl fun a Z => Z.nx [2, 0] rfl fun Z => sh (wr (sv_n 3 Z rfl fun a Z => sv_l (v := .string k.uri) 0 Z rfl (Z.g 6 rfl) lt_string rfl fun a Z => ?_)))
 refine sv_r (v := .string ((⟨#[35, 69, 88, 84, 45, 88, 45, 77, 65, 80, 58, 85, 82, 73, 61, 34]⟩ : ByteArray) ++ k.uri)) Z (ex_add rfl (Z.g 7 rfl) (by simp only [ByteArray.size_append', ByteArray.size_mk', List.size_toArray, List.length_cons, List.length_nil]; omega)) fun a Z => ?_
 refine sv_r (v := .string ((⟨#[35, 69, 88, 84, 45, 88, 45, 77, 65, 80, 58, 85, 82, 73, 61, 34]⟩ : ByteArray) ++ k.uri ++ (⟨#[34]⟩ : ByteArray))) Z (ex_add (Z.g 8 rfl) rfl (by simp only [ByteArray.size_append', ByteArray.size_mk', List.size_toArray, List.length_cons, List.length_nil]; omega)) fun a Z => sv_n 1 Z rfl fun a Z => Z.nx [3, 2, 0] rfl fun Z => sh (wp_seq (wr (sv_n 3 Z rfl fun a Z => sv_l (v := .int .i64 ((k.limit : Nat) : Int)) 0 Z rfl (Z.g 12 rfl) lt_int64 rfl fun a Z => ?_)))
 refine sv_r (v := .bool (decide ((0 : Nat) < k.limit))) Z (ei_gtr (Z.g 13 rfl) rfl (by rw [decide_eq_decide]; omega)) fun a Z => Z.nx [14, 3, 2, 0] rfl fun Z => sh ?_
 refine if_join (fun a w' => ∃ zz : ByteArray, zz = (if (0 : Nat) < k.limit then (⟨#[35, 69, 88, 84, 45, 88, 45, 77, 65, 80, 58, 85, 82, 73, 61, 34]⟩ : ByteArray) ++ k.uri ++ (⟨#[34]⟩ : ByteArray) ++ ((⟨#[44, 66, 89, 84, 69, 82, 65, 78, 71, 69, 61]⟩ : ByteArray) ++ dec k.limit ++ (⟨#[64]⟩ : ByteArray) ++ dec k.offset) else (⟨#[35, 69, 88, 84, 45, 88, 45, 77, 65, 80, 58, 85, 82, 73, 61, 34]⟩ : ByteArray) ++ k.uri ++ (⟨#[34]⟩ : ByteArray)) ∧ zz.size ≤ 200 ∧ Sv 34 ((3, .string zz) :: (2, .string (⟨#[]⟩)) :: (0, pt g 0) :: []) [⟨g, k.cells, 109, false⟩] (fun _ => False) w a w') (Z.g 14 rfl) ?_ ?_ ?_
 ·intro hb1 Q' hQ'
  have hb1 := of_decide_eq_true hb1
  refine qg 16 [.string ((⟨#[35, 69, 88, 84, 45, 88, 45, 77, 65, 80, 58, 85, 82, 73, 61, 34]⟩ : ByteArray) ++ k.uri ++ (⟨#[34]⟩ : ByteArray)), pt g 0, pt g 0, pt g 1, .int .i64 ((k.limit : Nat) : Int), .int .u64 ((k.limit : Nat) : Int), .string (dec k.limit), .string ((⟨#[44, 66, 89, 84, 69, 82, 65, 78, 71, 69, 61]⟩ : ByteArray) ++ dec k.limit), .string ((⟨#[44, 66, 89, 84, 69, 82, 65, 78, 71, 69, 61]⟩ : ByteArray) ++ dec k.limit ++ (⟨#[64]⟩ : ByteArray)), pt g 0, pt g 0, pt g 2, .int .i64 ((k.offset : Nat) : Int), .int .u64 ((k.offset : Nat) : Int), .string (dec k.offset), .string ((⟨#[44, 66, 89, 84, 69, 82, 65, 78, 71, 69, 61]⟩ : ByteArray) ++ dec k.limit ++ (⟨#[64]⟩ : ByteArray) ++ dec k.offset)] Z ?_ ?_
  ·simp only [List.take_succ_cons, List.take_zero]
   refine ⟨?_, ?_, ?_, ?_, ?_, ?_, ?_, ?_, ?_, ?_, ?_, ?_, ?_, ?_, ?_, ?_, trivial⟩
   ·exact qm (Z.g 3 rfl)
   ·exact qm (Z.g 0 rfl)
   ·exact qn 1
   ·exact qf 2
   ·exact ql 3 lt_int64 Z 0
   ·exact fun _ _ c => og_val (ex_cv (c.s 4 rfl) (cv_int64_uint64 _ (by rw [IntKind.wrap_u64]; omega))) rfl
   ·intro a wx c
    have e_20 : a.eval (.tmp 20) = .int .u64 ((k.limit : Nat) : Int) := c.s 5 rfl
    have hO := Z.ogc c
    have hbx := drew_below c.only
    clear c
    have hcl : Calls Tryz.prog _ _ wx (fun e w' => e = .returned (.string (dec k.limit)) ∧ w' = wx) := (Calls.mono (decimal_any (k.limit) _ (by omega)) (by rintro e w' ⟨rfl, rfl⟩; exact ⟨rfl, rfl⟩))
    refine og_call (ex_call1 cf_spec_Decimal e_20) (Calls.mono hcl ?_)
    rintro e w' ⟨rfl, rfl⟩
    exact ⟨_, rfl, Below.refl _ _, rfl⟩
   ·exact fun _ _ c => og_val (ex_add rfl (c.s 6 rfl) (by simp only [ByteArray.size_append', ByteArray.size_mk', List.size_toArray, List.length_cons, List.length_nil]; omega)) rfl
   ·exact fun _ _ c => og_val (ex_add (c.s 7 rfl) rfl (by simp only [ByteArray.size_append', ByteArray.size_mk', List.size_toArray, List.length_cons, List.length_nil]; omega)) rfl
   ·exact qm (Z.g 0 rfl)
   ·exact qn 9
   ·exact qf 10
   ·exact ql 11 lt_int64 Z 0
   ·exact fun _ _ c => og_val (ex_cv (c.s 12 rfl) (cv_int64_uint64 _ (by rw [IntKind.wrap_u64]; omega))) rfl
   ·intro a wx c
    have e_28 : a.eval (.tmp 28) = .int .u64 ((k.offset : Nat) : Int) := c.s 13 rfl
    have hO := Z.ogc c
    have hbx := drew_below c.only
    clear c
    have hcl : Calls Tryz.prog _ _ wx (fun e w' => e = .returned (.string (dec k.offset)) ∧ w' = wx) := (Calls.mono (decimal_any (k.offset) _ (by omega)) (by rintro e w' ⟨rfl, rfl⟩; exact ⟨rfl, rfl⟩))
    refine og_call (ex_call1 cf_spec_Decimal e_28) (Calls.mono hcl ?_)
    rintro e w' ⟨rfl, rfl⟩
    exact ⟨_, rfl, Below.refl _ _, rfl⟩
   ·exact fun _ _ c => og_val (ex_add (c.s 8 rfl) (c.s 14 rfl) (by simp only [ByteArray.size_append', ByteArray.size_mk', List.size_toArray, List.length_cons, List.length_nil]; omega)) rfl
  ·intro a w4 c hbw4
   replace Z := ((Z.ogk c [0, 2, 3, 14]).kS c 0 rfl rfl).kS c 15 rfl rfl
   clear c
   simp only [List.drop_succ_cons, List.drop_zero]
   refine sv_r (v := .string ((⟨#[35, 69, 88, 84, 45, 88, 45, 77, 65, 80, 58, 85, 82, 73, 61, 34]⟩ : ByteArray) ++ k.uri ++ (⟨#[34]⟩ : ByteArray) ++ ((⟨#[44, 66, 89, 84, 69, 82, 65, 78, 71, 69, 61]⟩ : ByteArray) ++ dec k.limit ++ (⟨#[64]⟩ : ByteArray) ++ dec k.offset))) Z (ex_add (Z.g 15 rfl) (Z.g 30 rfl) (by simp only [ByteArray.size_append', ByteArray.size_mk', List.size_toArray, List.length_cons, List.length_nil]; omega)) fun a Z => sv_n 1 Z rfl fun a Z => Z.nx [3, 0, 2, 14] rfl fun Z => ?_
   exact hQ' _ _ ⟨_, rfl, by rw [if_pos hb1]; (try simp only [ByteArray.size_append', ByteArray.size_mk', List.size_toArray, List.length_cons, List.length_nil]); omega, by rw [if_pos hb1]; exact Z.pick rfl⟩
 ·intro hb1 Q' hQ'
  have hb1 := of_decide_eq_false hb1
  refine wp_skip ?_
  exact hQ' _ _ ⟨_, rfl, by rw [if_neg hb1]; (try simp only [ByteArray.size_append', ByteArray.size_mk', List.size_toArray, List.length_cons, List.length_nil]); omega, by rw [if_neg hb1]; exact Z.pick rfl⟩
 ·rintro a w5 ⟨o1, ho1, hzo1, Z⟩
  refine sh (wr (sv_n 1 Z rfl fun a Z => ?_))
  refine sv_r (v := .string (o1 ++ (⟨#[10]⟩ : ByteArray))) Z (ex_add (Z.g 32 rfl) rfl (by simp only [ByteArray.size_append', ByteArray.size_mk', List.size_toArray, List.length_cons, List.length_nil]; omega)) fun a Z => sv_n 1 Z rfl fun a Z => Z.nx [2, 3, 0] rfl fun Z => sh (wp_ret ?_)
  try simp only [Exit.inBlock, Exit.then]
  refine ret_of_ev Z.ev rfl (Z.g 2 rfl) ⟨?_, Z.toBelow⟩
  rw [ho1]; rfl
def stripZ (l : List UInt8) : List UInt8 := (l.reverse.dropWhile fun b => b == 48).reverse
def stripP (l : List UInt8) : List UInt8 := if l.getLast? = some 46 then l.dropLast else l
def shorts (e : Nat) : ByteArray := ⟨(stripP (stripZ (secs e).data.toList)).toArray⟩
theorem stripZ_snoc (l : List UInt8) : stripZ (l ++ [48]) = stripZ l := by simp [stripZ]
theorem stripZ_ne (l : List UInt8) {b : UInt8} (h : b ≠ 48) : stripZ (l ++ [b]) = l ++ [b] := by
 have : (b == 48) = false := by simpa using h
 simp [stripZ, this]
theorem secs_dot (e : Nat) : (46 : UInt8) ∈ (secs e).data.toList := by
 simp [secs, ByteArray.data_append]
theorem short_any (e : Nat) (he : e < 1000000) (w : World) : Calls Tryz.prog 30 #[.int .i64 (e : Int)] w fun e' w' => e' = .returned (.string (shorts e)) ∧ Below w.heap.size w w' := by
 refine calls_of_ev Tryz.func30 rfl (show 1 ≤ 29 from by decide) fun a hE => ?_
 have hE : Ev 29 ((0, .int .i64 ((e : Nat) : Int)) :: []) a := hE
 have Z : Sv 29 ((0, .int .i64 ((e : Nat) : Int)) :: []) [] (fun _ => False) w a w := Sv.start hE _ _
 clear hE
 refine wr (sv_n 1 Z rfl fun a Z => Z.nx [2, 0] rfl fun Z => sh (wr (sv_n 1 Z rfl fun a Z => ?_)))
 refine sv_callq (v := .string (secs e)) Z rfl rfl (by decide) (ex_call1 cf_spec_seconds (Z.g 4 rfl)) (Calls.mono (seconds_any e _ he) (by rintro e w' ⟨rfl, rfl⟩; exact ⟨rfl, rfl⟩)) fun a Z => sv_n 1 Z rfl fun a Z => Z.nx [3, 2] rfl fun Z => sh (wp_seq (wp_block ?_))
 refine wp_loop (fun a w' => ∃ s : ByteArray, stripZ s.data.toList = stripZ (secs e).data.toList ∧ (46 : UInt8) ∈ s.data.toList ∧ s.size ≤ 30 ∧ Sv 29 ((3, .string s) :: []) [] (fun _ => False) w a w') (fun a _ => (strOf (a.eval (.tmp 3))).size) ⟨secs e, rfl, secs_dot e, Nat.le_trans (secs_size he) (by omega), Z.pick rfl⟩ ?_
 clear Z
 rintro a w1 ⟨s, hst, h46, hz, Z⟩
 have hlt := size_pos_of_mem h46
 have hS0 := Z.g 3 rfl
 refine wp_seq (wr (sv_n 2 Z rfl fun a Z => sv_r (v := .int .i64 ((s.size : Nat) : Int)) Z (ex_slen (ats := #[]) (Z.g 7 rfl)) fun a Z => ?_))
 refine sv_r (v := .int .i64 ((s.size - 1 : Nat) : Int)) Z (ei_sub (Z.g 8 rfl) rfl (by rw [IntKind.wrap_i64]; omega)) fun a Z => sv_r (v := .int .u8 (((s[s.size - 1]'hlt).toNat : Nat) : Int)) Z (ex_sidx (Z.g 6 rfl) (Z.g 9 rfl) hlt) fun a Z => ?_
 refine sv_r (v := .bool (decide (((s[s.size - 1]'hlt).toNat : Nat) = 48))) Z (ei_eql (Z.g 10 rfl) rfl (by rw [decide_eq_decide]; omega)) fun a Z => Z.nx [11, 3] rfl fun Z => sh ?_
 refine wp_cond_split (Z.g 11 rfl) (fun hb3 => ?_) (fun hb3 => ?_)
 ·have hb3 := of_decide_eq_true hb3
  refine wp_skip (sh (wp_block (wp_region_lit (sv_n 2 Z rfl fun a Z => sv_r (v := .int .i64 ((s.size : Nat) : Int)) Z (ex_slen (ats := #[]) (Z.g 13 rfl)) fun a Z => ?_))))
  refine sv_r (v := .int .i64 ((s.size - 1 : Nat) : Int)) Z (ei_sub (Z.g 14 rfl) rfl (by rw [IntKind.wrap_i64]; omega)) fun a Z => ?_
  refine sv_r (v := .string (s.extract 0 (s.size - 1))) Z (ex_ssh (Z.g 12 rfl) (Z.g 15 rfl) (by omega)) fun a Z => sv_n 1 Z rfl fun a Z => Z.nx [3, 11] rfl fun Z => ?_
  refine ⟨⟨s.extract 0 (s.size - 1), ?_, ?_, by rw [extract_size hlt]; omega, Z.pick rfl⟩, ?_⟩
  ·rw [← hst, last_split hlt, toNat_inj8 (c := 48) hb3, stripZ_snoc]
  ·rw [last_split hlt, List.mem_append] at h46; rcases h46 with h46 | h46; · exact h46
   ·rw [List.mem_singleton] at h46; rw [← h46] at hb3; exact absurd hb3 (by decide)
  ·have h1 := Z.g 3 rfl; rw [h1]; have h2 := hS0; rw [h2]; simp only [strOf]; rw [extract_size hlt]; omega
 ·have hb3 := of_decide_eq_false hb3
  refine wp_exit ?_
  simp only [Exit.inBlock, Exit.then, if_true]
  refine sh (wp_seq (wr (sv_n 2 Z rfl fun a Z => sv_r (v := .int .i64 ((s.size : Nat) : Int)) Z (ex_slen (ats := #[]) (Z.g 18 rfl)) fun a Z => ?_)))
  refine sv_r (v := .int .i64 ((s.size - 1 : Nat) : Int)) Z (ei_sub (Z.g 19 rfl) rfl (by rw [IntKind.wrap_i64]; omega)) fun a Z => sv_r (v := .int .u8 (((s[s.size - 1]'hlt).toNat : Nat) : Int)) Z (ex_sidx (Z.g 17 rfl) (Z.g 20 rfl) hlt) fun a Z => ?_
  refine sv_r (v := .bool (decide (((s[s.size - 1]'hlt).toNat : Nat) = 46))) Z (ei_eql (Z.g 21 rfl) rfl (by rw [decide_eq_decide]; omega)) fun a Z => Z.nx [22, 11, 3] rfl fun Z => sh ?_
  have hss : stripZ (secs e).data.toList = s.data.toList := by rw [← hst, last_split hlt, stripZ_ne _ (fun h => hb3 (by rw [h]; rfl))]
  refine wp_cond_split (Z.g 22 rfl) (fun hd => ?_) (fun hd => ?_)
  ·have hd := of_decide_eq_true hd
   refine wp_region_lit (sv_n 2 Z rfl fun a Z => sv_r (v := .int .i64 ((s.size : Nat) : Int)) Z (ex_slen (ats := #[]) (Z.g 24 rfl)) fun a Z => ?_)
   refine sv_r (v := .int .i64 ((s.size - 1 : Nat) : Int)) Z (ei_sub (Z.g 25 rfl) rfl (by rw [IntKind.wrap_i64]; omega)) fun a Z => ?_
   refine sv_r (v := .string (s.extract 0 (s.size - 1))) Z (ex_ssh (Z.g 23 rfl) (Z.g 26 rfl) (by omega)) fun a Z => sv_n 1 Z rfl fun a Z => Z.nx [3, 22, 11] rfl fun Z => sh (wr (sv_n 2 Z rfl fun a Z => Z.nx [2, 3, 22, 11] rfl fun Z => sh (wp_ret ?_)))
   try simp only [Exit.inBlock, Exit.then]
   refine ret_of_ev Z.ev rfl (Z.g 2 rfl) ⟨?_, Z.toBelow⟩
   congr 2; refine ba_eq ?_; show _ = stripP (stripZ (secs e).data.toList); rw [hss, stripP, last_split hlt, toNat_inj8 (c := 46) hd]; simp
  ·have hd := of_decide_eq_false hd
   refine wp_skip (sh (wr (sv_n 2 Z rfl fun a Z => Z.nx [2, 22, 11, 3] rfl fun Z => sh (wp_ret ?_))))
   try simp only [Exit.inBlock, Exit.then]
   refine ret_of_ev Z.ev rfl (Z.g 2 rfl) ⟨?_, Z.toBelow⟩
   congr 2; refine ba_eq ?_; show _ = stripP (stripZ (secs e).data.toList); rw [hss, stripP, if_neg]; rw [last_split hlt]; simp; exact fun h => hd (by rw [h]; rfl)
end Go.Proofs.YtflppablgdegcaaGreatDoor
