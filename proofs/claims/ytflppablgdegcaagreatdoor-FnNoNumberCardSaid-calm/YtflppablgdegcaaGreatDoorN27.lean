/- Joined: Nn. -/
import Derived.Test.YtflppablgdegcaaGreatDoorN26
/- laws.FnNoNumber: the walk. -/
set_option maxRecDepth 100000
set_option maxHeartbeats 8000000
namespace Go.Proofs.YtflppablgdegcaaGreatDoor
open Go.RowKit
def lnB : Nat → ByteArray
 | 0 => (⟨#[35, 69, 88, 84, 45, 88, 45, 86, 69, 82, 83, 73, 79, 78, 58, 51, 10]⟩ : ByteArray)
 | 1 => (⟨#[35, 69, 88, 84, 45, 88, 45, 84, 65, 82, 71, 69, 84, 68, 85, 82, 65, 84, 73, 79, 78, 58, 57, 10]⟩ : ByteArray)
 | 2 => (⟨#[35, 69, 88, 84, 45, 88, 45, 77, 69, 68, 73, 65, 45, 83, 69, 81, 85, 69, 78, 67, 69, 58, 52, 10]⟩ : ByteArray)
 | 3 => (⟨#[35, 69, 88, 84, 45, 88, 45, 68, 73, 83, 67, 79, 78, 84, 73, 78, 85, 73, 84, 89, 45, 83, 69, 81, 85, 69, 78, 67, 69, 58, 50, 10]⟩ : ByteArray)
 | _ => (⟨#[35, 69, 88, 84, 73, 78, 70, 58, 56, 46, 48, 48, 48, 44, 10]⟩ : ByteArray)
def bdB (sw : ByteArray) : Nat → ByteArray
 | 0 => ((⟨#[35, 69, 88, 84, 45, 88, 45, 86, 69, 82, 83, 73, 79, 78, 58]⟩ : ByteArray) ++ sw) ++ ⟨#[10]⟩
 | 1 => ((⟨#[35, 69, 88, 84, 45, 88, 45, 84, 65, 82, 71, 69, 84, 68, 85, 82, 65, 84, 73, 79, 78, 58]⟩ : ByteArray) ++ sw) ++ ⟨#[10]⟩
 | 2 => ((⟨#[35, 69, 88, 84, 45, 88, 45, 77, 69, 68, 73, 65, 45, 83, 69, 81, 85, 69, 78, 67, 69, 58]⟩ : ByteArray) ++ sw) ++ ⟨#[10]⟩
 | 3 => ((⟨#[35, 69, 88, 84, 45, 88, 45, 68, 73, 83, 67, 79, 78, 84, 73, 78, 85, 73, 84, 89, 45, 83, 69, 81, 85, 69, 78, 67, 69, 58]⟩ : ByteArray) ++ sw) ++ ⟨#[10]⟩
 | _ => ((⟨#[35, 69, 88, 84, 73, 78, 70, 58]⟩ : ByteArray) ++ sw) ++ ⟨#[44, 10]⟩
def rtB : Nat → ByteArray
 | 0 => ⟨#[35, 69, 88, 84, 77, 51, 85, 10]⟩
 | k + 1 => rtB k ++ lnB k
def wrB (kk : Nat) (sw : ByteArray) : Nat → ByteArray
 | 0 => ⟨#[35, 69, 88, 84, 77, 51, 85, 10]⟩
 | k + 1 => wrB kk sw k ++ (if k = kk then bdB sw k else lnB k)
theorem ln_cell {k : Nat} (hk : k < 5) : (#[.string ⟨#[35, 69, 88, 84, 45, 88, 45, 86, 69, 82, 83, 73, 79, 78, 58, 51, 10]⟩, .string ⟨#[35, 69, 88, 84, 45, 88, 45, 84, 65, 82, 71, 69, 84, 68, 85, 82, 65, 84, 73, 79, 78, 58, 57, 10]⟩, .string ⟨#[35, 69, 88, 84, 45, 88, 45, 77, 69, 68, 73, 65, 45, 83, 69, 81, 85, 69, 78, 67, 69, 58, 52, 10]⟩, .string ⟨#[35, 69, 88, 84, 45, 88, 45, 68, 73, 83, 67, 79, 78, 84, 73, 78, 85, 73, 84, 89, 45, 83, 69, 81, 85, 69, 78, 67, 69, 58, 50, 10]⟩, .string ⟨#[35, 69, 88, 84, 73, 78, 70, 58, 56, 46, 48, 48, 48, 44, 10]⟩] : Array Value)[k]? = some (.string (lnB k)) := by
 rcases k with _ | _ | _ | _ | _ | k <;> first | rfl | omega
theorem bd_cell {k : Nat} (sw : ByteArray) (hk : k < 5) : (#[.string (((⟨#[35, 69, 88, 84, 45, 88, 45, 86, 69, 82, 83, 73, 79, 78, 58]⟩ : ByteArray) ++ sw) ++ ⟨#[10]⟩), .string (((⟨#[35, 69, 88, 84, 45, 88, 45, 84, 65, 82, 71, 69, 84, 68, 85, 82, 65, 84, 73, 79, 78, 58]⟩ : ByteArray) ++ sw) ++ ⟨#[10]⟩), .string (((⟨#[35, 69, 88, 84, 45, 88, 45, 77, 69, 68, 73, 65, 45, 83, 69, 81, 85, 69, 78, 67, 69, 58]⟩ : ByteArray) ++ sw) ++ ⟨#[10]⟩), .string (((⟨#[35, 69, 88, 84, 45, 88, 45, 68, 73, 83, 67, 79, 78, 84, 73, 78, 85, 73, 84, 89, 45, 83, 69, 81, 85, 69, 78, 67, 69, 58]⟩ : ByteArray) ++ sw) ++ ⟨#[10]⟩), .string (((⟨#[35, 69, 88, 84, 73, 78, 70, 58]⟩ : ByteArray) ++ sw) ++ ⟨#[44, 10]⟩)] : Array Value)[k]? = some (.string (bdB sw k)) := by
 rcases k with _ | _ | _ | _ | _ | k <;> first | rfl | omega
theorem lnB_size (k : Nat) : (lnB k).size ≤ 60 := by
 unfold lnB; split <;> decide
theorem bdB_size (sw : ByteArray) (h : sw.size ≤ 10) (k : Nat) : (bdB sw k).size ≤ 60 := by
 unfold bdB
 split <;> (rw [ByteArray.size_append', ByteArray.size_append'])
 ·show 15 + sw.size + 1 ≤ 60; omega
 ·show 22 + sw.size + 1 ≤ 60; omega
 ·show 22 + sw.size + 1 ≤ 60; omega
 ·show 30 + sw.size + 1 ≤ 60; omega
 ·show 8 + sw.size + 2 ≤ 60; omega
theorem rtB_size : ∀ k : Nat, (rtB k).size ≤ 8 + 60 * k
 | 0 => by decide
 | k + 1 => by
  show (rtB k ++ lnB k).size ≤ _
  rw [ByteArray.size_append']
  have := rtB_size k
  have := lnB_size k
  omega
theorem wrB_size (kk : Nat) (sw : ByteArray) (h : sw.size ≤ 10) : ∀ k : Nat, (wrB kk sw k).size ≤ 8 + 60 * k
 | 0 => Nat.le_refl 8
 | k + 1 => by
  show (wrB kk sw k ++ _).size ≤ _
  rw [ByteArray.size_append']
  have := wrB_size kk sw h k
  have := lnB_size k
  have := bdB_size sw h k
  split <;> omega
theorem dl_app (a b : ByteArray) : (a ++ b).data.toList = a.data.toList ++ b.data.toList := by simp
theorem rt_flat (wd : List UInt8) : (rtB 5 ++ ⟨#[97, 46, 116, 115, 10]⟩).data.toList = flatLn (lnsOf 5 wd) [] := by
 rfl
theorem wr_flat (kk : Nat) (hk : kk < 5) (wd : List UInt8) : (wrB kk ⟨wd.toArray⟩ 5 ++ ⟨#[97, 46, 116, 115, 10]⟩).data.toList = flatLn (lnsOf kk wd) [] := by
 rcases kk with _ | _ | _ | _ | _ | kk
 any_goals simp [wrB, lnB, bdB, dl_app, lnsOf, lnVer, lnTgt, lnSeq, lnDsq, lnInf, lnHd, lnUri, pVer, pTgt, pSeq, pDsq, pInf, flatLn]
theorem app_one (wd : List UInt8) (x : UInt8) : (⟨wd.toArray⟩ : ByteArray) ++ ⟨#[x]⟩ = ⟨(wd ++ [x]).toArray⟩ := ba_eq (by simp)
theorem fnNoNumber_any (n0 : Nat) (hn0 : n0 < 256) (A2 : Option Addr) (len2 cap2 : Nat) {B : Nat} {G : Ge} (w : World) (hG : Env B G w) (hA2 : U8s w A2 len2) : Calls Tryz.prog 4 #[.int .u8 ((n0 : Nat) : Int), .slice A2 len2 cap2] w fun e w' => e = .returned (.bool true) ∧ Below w.heap.size w w' := by
 by_cases h0 : 2147483647 < len2
 ·refine calls_of_ev Tryz.func4 rfl (show 2 ≤ 122 from by decide) ?_
  intro a hE
  have hE : Ev 122 ((0, .int .u8 ((n0 : Nat) : Int)) :: (1, .slice A2 len2 cap2) :: []) a := hE
  have hS : Sv 122 ((0, .int .u8 ((n0 : Nat) : Int)) :: (1, .slice A2 len2 cap2) :: []) [] (fun _ => False) w a w := Sv.start hE _ _
  clear hE
  refine wp_seq ?_
  refine wp_region_lit ?_
  refine sv_r (v := .bool false) hS ex_ac fun a hS => ?_
  refine wpList_nil ?_
  replace hS := hS.cut [4, 0, 1]
  show Code.wp _ _ _ _ _
  refine wp_seq ?_
  refine wp_seq ?_
  refine wp_region_lit ?_
  refine sv_r (v := .slice A2 len2 cap2) hS (ex_mv (hS.get 1 rfl)) fun a hS => ?_
  refine sv_r (v := .int .i64 ((len2 : Nat) : Int)) hS (ex_len Tryz.underlying45 (hS.get 19 rfl)) fun a hS => ?_
  refine sv_r (v := .bool true) hS (ei_gtr (hS.get 20 rfl) rfl (by rw [decide_eq_true_iff]; omega)) fun a hS => ?_
  refine wpList_nil ?_
  replace hS := hS.cut [21, 4, 0, 1]
  show Code.wp _ _ _ _ _
  refine cond_t (hS.get 21 rfl) ?_
  refine wp_seq ?_
  refine wp_region_lit ?_
  refine sv_r (v := .bool true) hS ex_ac fun a hS => ?_
  refine wpList_nil ?_
  replace hS : Sv 122 ((4, .bool true) :: (21, .bool true) :: (0, .int .u8 ((n0 : Nat) : Int)) :: (1, .slice A2 len2 cap2) :: []) [] (fun _ => False) w a w := hS.pick rfl
  show Code.wp _ _ _ _ _
  refine wp_ret ?_
  try simp only [Exit.inBlock, Exit.then]
  exact ret_of_ev hS.ev rfl (hS.get 4 rfl) ⟨rfl, hS.toBelow⟩
 by_cases h1 : len2 = 0
 ·refine calls_of_ev Tryz.func4 rfl (show 2 ≤ 122 from by decide) ?_
  intro a hE
  have hE : Ev 122 ((0, .int .u8 ((n0 : Nat) : Int)) :: (1, .slice A2 len2 cap2) :: []) a := hE
  have hS : Sv 122 ((0, .int .u8 ((n0 : Nat) : Int)) :: (1, .slice A2 len2 cap2) :: []) [] (fun _ => False) w a w := Sv.start hE _ _
  clear hE
  refine wp_seq ?_
  refine wp_region_lit ?_
  refine sv_r (v := .bool false) hS ex_ac fun a hS => ?_
  refine wpList_nil ?_
  replace hS := hS.cut [4, 0, 1]
  show Code.wp _ _ _ _ _
  refine wp_seq ?_
  refine wp_seq ?_
  refine wp_region_lit ?_
  refine sv_r (v := .slice A2 len2 cap2) hS (ex_mv (hS.get 1 rfl)) fun a hS => ?_
  refine sv_r (v := .int .i64 ((len2 : Nat) : Int)) hS (ex_len Tryz.underlying45 (hS.get 19 rfl)) fun a hS => ?_
  refine sv_r (v := .bool false) hS (ei_gtr (hS.get 20 rfl) rfl (by rw [decide_eq_false_iff_not]; omega)) fun a hS => ?_
  refine wpList_nil ?_
  replace hS := hS.cut [21, 4, 0, 1]
  show Code.wp _ _ _ _ _
  refine cond_f (hS.get 21 rfl) ?_
  refine wp_skip ?_
  show Code.wp _ _ _ _ _
  refine wp_seq ?_
  refine wp_seq ?_
  refine wp_region_lit ?_
  refine sv_r (v := .slice A2 len2 cap2) hS (ex_mv (hS.get 1 rfl)) fun a hS => ?_
  refine sv_r (v := .int .i64 ((len2 : Nat) : Int)) hS (ex_len Tryz.underlying45 (hS.get 22 rfl)) fun a hS => ?_
  refine sv_r (v := .bool true) hS (ei_eql (hS.get 23 rfl) rfl (by rw [decide_eq_true_iff]; omega)) fun a hS => ?_
  refine sv_r (v := .bool true) hS (ex_mv (hS.get 24 rfl)) fun a hS => ?_
  refine sv_goff hS rfl rfl (hS.get 25 rfl) rfl rfl (by decide) ?_
  intro a hS
  refine sv_goff hS rfl rfl (hS.get 25 rfl) rfl rfl (by decide) ?_
  intro a hS
  refine sv_goff hS rfl rfl (hS.get 25 rfl) rfl rfl (by decide) ?_
  intro a hS
  refine sv_r (v := .bool true) hS (ex_pickT (hS.get 25 rfl) rfl) fun a hS => ?_
  refine wpList_nil ?_
  replace hS : Sv 122 ((29, .bool true) :: (21, .bool false) :: (4, .bool false) :: (0, .int .u8 ((n0 : Nat) : Int)) :: (1, .slice A2 len2 cap2) :: []) [] (fun _ => False) w a w := hS.pick rfl
  show Code.wp _ _ _ _ _
  refine cond_t (hS.get 29 rfl) ?_
  refine wp_seq ?_
  refine wp_region_lit ?_
  refine sv_r (v := .bool true) hS ex_ac fun a hS => ?_
  refine wpList_nil ?_
  replace hS := hS.cut [4, 29, 21, 0, 1]
  show Code.wp _ _ _ _ _
  refine wp_ret ?_
  try simp only [Exit.inBlock, Exit.then]
  exact ret_of_ev hS.ev rfl (hS.get 4 rfl) ⟨rfl, hS.toBelow⟩
 by_cases h2 : 10 < len2
 ·refine calls_of_ev Tryz.func4 rfl (show 2 ≤ 122 from by decide) ?_
  intro a hE
  have hE : Ev 122 ((0, .int .u8 ((n0 : Nat) : Int)) :: (1, .slice A2 len2 cap2) :: []) a := hE
  have hS : Sv 122 ((0, .int .u8 ((n0 : Nat) : Int)) :: (1, .slice A2 len2 cap2) :: []) [] (fun _ => False) w a w := Sv.start hE _ _
  clear hE
  refine wp_seq ?_
  refine wp_region_lit ?_
  refine sv_r (v := .bool false) hS ex_ac fun a hS => ?_
  refine wpList_nil ?_
  replace hS := hS.cut [4, 0, 1]
  show Code.wp _ _ _ _ _
  refine wp_seq ?_
  refine wp_seq ?_
  refine wp_region_lit ?_
  refine sv_r (v := .slice A2 len2 cap2) hS (ex_mv (hS.get 1 rfl)) fun a hS => ?_
  refine sv_r (v := .int .i64 ((len2 : Nat) : Int)) hS (ex_len Tryz.underlying45 (hS.get 19 rfl)) fun a hS => ?_
  refine sv_r (v := .bool false) hS (ei_gtr (hS.get 20 rfl) rfl (by rw [decide_eq_false_iff_not]; omega)) fun a hS => ?_
  refine wpList_nil ?_
  replace hS := hS.cut [21, 4, 0, 1]
  show Code.wp _ _ _ _ _
  refine cond_f (hS.get 21 rfl) ?_
  refine wp_skip ?_
  show Code.wp _ _ _ _ _
  refine wp_seq ?_
  refine wp_seq ?_
  refine wp_region_lit ?_
  refine sv_r (v := .slice A2 len2 cap2) hS (ex_mv (hS.get 1 rfl)) fun a hS => ?_
  refine sv_r (v := .int .i64 ((len2 : Nat) : Int)) hS (ex_len Tryz.underlying45 (hS.get 22 rfl)) fun a hS => ?_
  refine sv_r (v := .bool false) hS (ei_eql (hS.get 23 rfl) rfl (by rw [decide_eq_false_iff_not]; omega)) fun a hS => ?_
  refine sv_r (v := .bool false) hS (ex_mv (hS.get 24 rfl)) fun a hS => ?_
  refine sv_g (v := .slice A2 len2 cap2) hS (hS.get 25 rfl) (ex_mv (hS.get 1 rfl)) fun a hS => ?_
  refine sv_g (v := .int .i64 ((len2 : Nat) : Int)) hS (hS.get 25 rfl) (ex_len Tryz.underlying45 (hS.get 26 rfl)) fun a hS => ?_
  refine sv_g (v := .bool true) hS (hS.get 25 rfl) (ei_gtr (hS.get 27 rfl) rfl (by rw [decide_eq_true_iff]; omega)) fun a hS => ?_
  refine sv_r (v := .bool true) hS (ex_pickF (hS.get 25 rfl) (hS.get 28 rfl)) fun a hS => ?_
  refine wpList_nil ?_
  replace hS : Sv 122 ((29, .bool true) :: (21, .bool false) :: (4, .bool false) :: (0, .int .u8 ((n0 : Nat) : Int)) :: (1, .slice A2 len2 cap2) :: []) [] (fun _ => False) w a w := hS.pick rfl
  show Code.wp _ _ _ _ _
  refine cond_t (hS.get 29 rfl) ?_
  refine wp_seq ?_
  refine wp_region_lit ?_
  refine sv_r (v := .bool true) hS ex_ac fun a hS => ?_
  refine wpList_nil ?_
  replace hS := hS.cut [4, 29, 21, 0, 1]
  show Code.wp _ _ _ _ _
  refine wp_ret ?_
  try simp only [Exit.inBlock, Exit.then]
  exact ret_of_ev hS.ev rfl (hS.get 4 rfl) ⟨rfl, hS.toBelow⟩
 refine calls_of_ev Tryz.func4 rfl (show 2 ≤ 122 from by decide) ?_
 intro a hE
 have hE : Ev 122 ((0, .int .u8 ((n0 : Nat) : Int)) :: (1, .slice A2 len2 cap2) :: []) a := hE
 have hS : Sv 122 ((0, .int .u8 ((n0 : Nat) : Int)) :: (1, .slice A2 len2 cap2) :: []) [] (fun _ => False) w a w := Sv.start hE _ _
 clear hE
 refine wp_seq ?_
 refine wp_region_lit ?_
 refine sv_r (v := .bool false) hS ex_ac fun a hS => ?_
 refine wpList_nil ?_
 replace hS := hS.cut [4, 0, 1]
 show Code.wp _ _ _ _ _
 refine wp_seq ?_
 refine wp_seq ?_
 refine wp_region_lit ?_
 refine sv_r (v := .slice A2 len2 cap2) hS (ex_mv (hS.get 1 rfl)) fun a hS => ?_
 refine sv_r (v := .int .i64 ((len2 : Nat) : Int)) hS (ex_len Tryz.underlying45 (hS.get 19 rfl)) fun a hS => ?_
 refine sv_r (v := .bool false) hS (ei_gtr (hS.get 20 rfl) rfl (by rw [decide_eq_false_iff_not]; omega)) fun a hS => ?_
 refine wpList_nil ?_
 replace hS := hS.cut [21, 4, 0, 1]
 show Code.wp _ _ _ _ _
 refine cond_f (hS.get 21 rfl) ?_
 refine wp_skip ?_
 show Code.wp _ _ _ _ _
 refine wp_seq ?_
 refine wp_seq ?_
 refine wp_region_lit ?_
 refine sv_r (v := .slice A2 len2 cap2) hS (ex_mv (hS.get 1 rfl)) fun a hS => ?_
 refine sv_r (v := .int .i64 ((len2 : Nat) : Int)) hS (ex_len Tryz.underlying45 (hS.get 22 rfl)) fun a hS => ?_
 refine sv_r (v := .bool false) hS (ei_eql (hS.get 23 rfl) rfl (by rw [decide_eq_false_iff_not]; omega)) fun a hS => ?_
 refine sv_r (v := .bool false) hS (ex_mv (hS.get 24 rfl)) fun a hS => ?_
 refine sv_g (v := .slice A2 len2 cap2) hS (hS.get 25 rfl) (ex_mv (hS.get 1 rfl)) fun a hS => ?_
 refine sv_g (v := .int .i64 ((len2 : Nat) : Int)) hS (hS.get 25 rfl) (ex_len Tryz.underlying45 (hS.get 26 rfl)) fun a hS => ?_
 refine sv_g (v := .bool false) hS (hS.get 25 rfl) (ei_gtr (hS.get 27 rfl) rfl (by rw [decide_eq_false_iff_not]; omega)) fun a hS => ?_
 refine sv_r (v := .bool false) hS (ex_pickF (hS.get 25 rfl) (hS.get 28 rfl)) fun a hS => ?_
 refine wpList_nil ?_
 replace hS : Sv 122 ((29, .bool false) :: (21, .bool false) :: (4, .bool false) :: (0, .int .u8 ((n0 : Nat) : Int)) :: (1, .slice A2 len2 cap2) :: []) [] (fun _ => False) w a w := hS.pick rfl
 show Code.wp _ _ _ _ _
 refine cond_f (hS.get 29 rfl) ?_
 refine wp_skip ?_
 show Code.wp _ _ _ _ _
 refine wp_seq ?_
 refine wp_region_lit ?_
 refine sv_r (v := .string (⟨#[]⟩)) hS ex_ac fun a hS => ?_
 refine wpList_nil ?_
 replace hS := hS.cut [5, 29, 21, 4, 0, 1]
 show Code.wp _ _ _ _ _
 refine wp_seq ?_
 refine wp_seq ?_
 refine wp_region_lit ?_
 refine sv_r (v := .slice A2 len2 cap2) hS (ex_mv (hS.get 1 rfl)) fun a hS => ?_
 refine sv_r (v := .int .i64 ((len2 : Nat) : Int)) hS (ex_len Tryz.underlying45 (hS.get 30 rfl)) fun a hS => ?_
 refine sv_r (v := .int .i64 0) hS ex_mc fun a hS => ?_
 refine wpList_nil ?_
 replace hS := hS.cut [32, 31, 30, 5, 29, 21, 4, 0, 1]
 show Code.wp _ _ _ _ _
 have hE : Ev 122 ((32, .int .i64 ((0 : Nat) : Int)) :: (31, .int .i64 ((len2 : Nat) : Int)) :: ((5, .string (⟨#[]⟩)) :: (30, .slice A2 len2 cap2) :: (0, .int .u8 ((n0 : Nat) : Int)) :: (1, .slice A2 len2 cap2) :: [])) a := hS.ev.pick rfl
 refine range_wp2 (N := 122) (n := len2) [5, 30, 0, 1] (l0 := ((5, .string (⟨#[]⟩)) :: (30, .slice A2 len2 cap2) :: (0, .int .u8 ((n0 : Nat) : Int)) :: (1, .slice A2 len2 cap2) :: [])) (fun k l w' => ∃ wd : List UInt8, l = ((5, .string (⟨wd.toArray⟩)) :: (30, .slice A2 len2 cap2) :: (0, .int .u8 ((n0 : Nat) : Int)) :: (1, .slice A2 len2 cap2) :: []) ∧ wd.length = k ∧ (∀ x ∈ wd, 103 ≤ x.toNat ∧ x.toNat ≤ 120) ∧ Below w.heap.size w w') (by omega) hE rfl ⟨[], rfl, rfl, (by intro x hx; cases hx), Below.refl _ _⟩ (by decide) (by decide) (by decide) ?_ ?_
 ·clear hE hS
  rintro k l a w1 hk hE ⟨wd, rfl, hwl, hwc, hbw⟩ Q' hQ'
  have hAw : U8s w1 A2 len2 := hA2.below hbw
  obtain ⟨p, b, hp, hcb, hbl⟩ := hAw k hk
  have hwk : (⟨wd.toArray⟩ : ByteArray).size ≤ 10 := by rw [size_of]; omega
  have hS : Sv 122 ((32, .int .i64 ((k : Nat) : Int)) :: (31, .int .i64 ((len2 : Nat) : Int)) :: (5, .string (⟨wd.toArray⟩)) :: (30, .slice A2 len2 cap2) :: (0, .int .u8 ((n0 : Nat) : Int)) :: (1, .slice A2 len2 cap2) :: []) [] (fun _ => False) w1 a w1 := Sv.start hE _ _
  refine wp_block ?_
  refine wp_seq ?_
  refine wp_region_lit ?_
  refine sv_r (v := .pointer (some (p.add (k * 1)))) hS (ex_ia Tryz.underlying45 Tryz.sizeOf5 (by rw [← hp]; exact hS.get 30 rfl) (hS.get 32 rfl) hk) fun a hS => ?_
  refine sv_r (v := .int .u8 ((b : Nat) : Int)) hS (ex_ld (hS.get 34 rfl) lt_uint8 (by rw [Nat.mul_one]; exact hcb)) fun a hS => ?_
  refine sv_r (v := .int .u8 ((b : Nat) : Int)) hS (ex_as (hS.get 35 rfl)) fun a hS => ?_
  refine wpList_nil ?_
  replace hS : Sv 122 ((7, .int .u8 ((b : Nat) : Int)) :: (32, .int .i64 ((k : Nat) : Int)) :: (31, .int .i64 ((len2 : Nat) : Int)) :: (5, .string (⟨wd.toArray⟩)) :: (30, .slice A2 len2 cap2) :: (0, .int .u8 ((n0 : Nat) : Int)) :: (1, .slice A2 len2 cap2) :: []) [] (fun _ => False) w1 a w1 := hS.pick rfl
  show Code.wp _ _ _ _ _
  refine wp_region_lit ?_
  refine sv_r (v := .string (⟨wd.toArray⟩)) hS (ex_mv (hS.get 5 rfl)) fun a hS => ?_
  refine sv_r (v := .int .u8 ((b : Nat) : Int)) hS (ex_mv (hS.get 7 rfl)) fun a hS => ?_
  refine sv_r (v := .int .u8 ((b % 18 : Nat) : Int)) hS (ni_rem 18 (hS.get 37 rfl) rfl (by decide)) fun a hS => ?_
  refine sv_r (v := .int .u8 ((103 + b % 18 : Nat) : Int)) hS (ei_add rfl (hS.get 38 rfl) (by rw [IntKind.wrap_u8]; omega)) fun a hS => ?_
  refine sv_r (v := .int .i32 ((103 + b % 18 : Nat) : Int)) hS (ex_cv (hS.get 39 rfl) (cv_uint8_int32 _ (by omega))) fun a hS => ?_
  refine sv_r (v := .string ⟨#[UInt8.ofNat (103 + b % 18)]⟩) hS (ex_chr1 (hS.get 40 rfl) (by omega)) fun a hS => ?_
  refine sv_r (v := .string ⟨(wd ++ [UInt8.ofNat (103 + b % 18)]).toArray⟩) hS (by rw [← app_one]; exact ex_add (hS.get 36 rfl) (hS.get 41 rfl) (by show _ + 1 ≤ _; omega)) fun a hS => ?_
  refine sv_r (v := .string ((⟨(wd ++ [UInt8.ofNat (103 + b % 18)]).toArray⟩ : ByteArray))) hS (ex_as (hS.get 42 rfl)) fun a hS => ?_
  refine wpList_nil ?_
  replace hS := hS.cut [5, 32, 31, 30, 0, 1]
  show Q' .normal a w1
  exact hQ' _ a w1 rfl (hS.ev.pick (l' := (32, .int .i64 ((k : Nat) : Int)) :: (31, .int .i64 ((len2 : Nat) : Int)) :: ((5, .string ((⟨(wd ++ [UInt8.ofNat (103 + b % 18)]).toArray⟩ : ByteArray))) :: (30, .slice A2 len2 cap2) :: (0, .int .u8 ((n0 : Nat) : Int)) :: (1, .slice A2 len2 cap2) :: [])) rfl) ⟨wd ++ [UInt8.ofNat (103 + b % 18)], rfl, by rw [List.length_append, hwl]; rfl, (by intro x hx; rcases List.mem_append.1 hx with hx | hx; (· exact hwc x hx); (· rw [List.mem_singleton.1 hx, UInt8.toNat_ofNat']; omega)), hbw⟩
 ·clear hE hS
  rintro l a w2 hE ⟨wd, rfl, hwl, hwc, hbw⟩
  obtain ⟨sw, hsw⟩ : ∃ sw : ByteArray, sw = ⟨wd.toArray⟩ := ⟨_, rfl⟩
  rw [← hsw] at hE
  have hswz : sw.size ≤ 10 := by rw [hsw, size_of]; omega
  have hwd : Wd wd := ⟨by intro h; rw [h] at hwl; simp at hwl; omega, by omega, hwc⟩
  have hS : Sv 122 ((32, .int .i64 ((len2 : Nat) : Int)) :: (31, .int .i64 ((len2 : Nat) : Int)) :: (5, .string sw) :: (30, .slice A2 len2 cap2) :: (0, .int .u8 ((n0 : Nat) : Int)) :: (1, .slice A2 len2 cap2) :: []) [] (fun _ => False) w2 a w2 := Sv.start hE _ _
  show Code.wp _ _ _ _ _
  refine wp_seq ?_
  refine wp_region_lit ?_
  refine sv_new (T := 9) (cs := #[.string (⟨#[35, 69, 88, 84, 45, 88, 45, 86, 69, 82, 83, 73, 79, 78, 58, 51, 10]⟩), .string (⟨#[35, 69, 88, 84, 45, 88, 45, 84, 65, 82, 71, 69, 84, 68, 85, 82, 65, 84, 73, 79, 78, 58, 57, 10]⟩), .string (⟨#[35, 69, 88, 84, 45, 88, 45, 77, 69, 68, 73, 65, 45, 83, 69, 81, 85, 69, 78, 67, 69, 58, 52, 10]⟩), .string (⟨#[35, 69, 88, 84, 45, 88, 45, 68, 73, 83, 67, 79, 78, 84, 73, 78, 85, 73, 84, 89, 45, 83, 69, 81, 85, 69, 78, 67, 69, 58, 50, 10]⟩), .string (⟨#[35, 69, 88, 84, 73, 78, 70, 58, 56, 46, 48, 48, 48, 44, 10]⟩)]) hS rfl rfl (by decide) (fun g => .slice (some ⟨g, 0, none⟩) 5 5) (by simp only [execOp, List.map_toArray, List.map_cons, List.map_nil, ]; go_simp) ?_
  intro g3 a w4 hg3 hbw4 hwg3 hS
  refine sv_r (v := .slice (some ⟨g3, 0, none⟩) 5 5) hS (ex_as (hS.get 44 rfl)) fun a hS => ?_
  refine wpList_nil ?_
  replace hS : Sv 122 ((8, .slice (some ⟨g3, 0, none⟩) 5 5) :: (32, .int .i64 ((len2 : Nat) : Int)) :: (31, .int .i64 ((len2 : Nat) : Int)) :: (5, .string sw) :: (30, .slice A2 len2 cap2) :: (0, .int .u8 ((n0 : Nat) : Int)) :: (1, .slice A2 len2 cap2) :: []) [⟨g3, #[.string (⟨#[35, 69, 88, 84, 45, 88, 45, 86, 69, 82, 83, 73, 79, 78, 58, 51, 10]⟩), .string (⟨#[35, 69, 88, 84, 45, 88, 45, 84, 65, 82, 71, 69, 84, 68, 85, 82, 65, 84, 73, 79, 78, 58, 57, 10]⟩), .string (⟨#[35, 69, 88, 84, 45, 88, 45, 77, 69, 68, 73, 65, 45, 83, 69, 81, 85, 69, 78, 67, 69, 58, 52, 10]⟩), .string (⟨#[35, 69, 88, 84, 45, 88, 45, 68, 73, 83, 67, 79, 78, 84, 73, 78, 85, 73, 84, 89, 45, 83, 69, 81, 85, 69, 78, 67, 69, 58, 50, 10]⟩), .string (⟨#[35, 69, 88, 84, 73, 78, 70, 58, 56, 46, 48, 48, 48, 44, 10]⟩)], 9, true⟩] (fun _ => False) w2 a w4 := hS.pick rfl
  show Code.wp _ _ _ _ _
  refine wp_seq ?_
  refine wp_region_lit ?_
  refine sv_r (v := .string sw) hS (ex_mv (hS.get 5 rfl)) fun a hS => ?_
  refine sv_r (v := .string ((⟨#[35, 69, 88, 84, 45, 88, 45, 86, 69, 82, 83, 73, 79, 78, 58]⟩ : ByteArray) ++ sw)) hS (ex_add rfl (hS.get 45 rfl) (by (try simp only [ByteArray.size_append', ByteArray.size_mk', List.size_toArray, List.length_cons, List.length_nil]); omega)) fun a hS => ?_
  refine sv_r (v := .string ((⟨#[35, 69, 88, 84, 45, 88, 45, 86, 69, 82, 83, 73, 79, 78, 58]⟩ : ByteArray) ++ sw ++ (⟨#[10]⟩ : ByteArray))) hS (ex_add (hS.get 46 rfl) rfl (by (try simp only [ByteArray.size_append', ByteArray.size_mk', List.size_toArray, List.length_cons, List.length_nil]); omega)) fun a hS => ?_
  refine sv_r (v := .string sw) hS (ex_mv (hS.get 5 rfl)) fun a hS => ?_
  refine sv_r (v := .string ((⟨#[35, 69, 88, 84, 45, 88, 45, 84, 65, 82, 71, 69, 84, 68, 85, 82, 65, 84, 73, 79, 78, 58]⟩ : ByteArray) ++ sw)) hS (ex_add rfl (hS.get 48 rfl) (by (try simp only [ByteArray.size_append', ByteArray.size_mk', List.size_toArray, List.length_cons, List.length_nil]); omega)) fun a hS => ?_
  refine sv_r (v := .string ((⟨#[35, 69, 88, 84, 45, 88, 45, 84, 65, 82, 71, 69, 84, 68, 85, 82, 65, 84, 73, 79, 78, 58]⟩ : ByteArray) ++ sw ++ (⟨#[10]⟩ : ByteArray))) hS (ex_add (hS.get 49 rfl) rfl (by (try simp only [ByteArray.size_append', ByteArray.size_mk', List.size_toArray, List.length_cons, List.length_nil]); omega)) fun a hS => ?_
  refine sv_r (v := .string sw) hS (ex_mv (hS.get 5 rfl)) fun a hS => ?_
  refine sv_r (v := .string ((⟨#[35, 69, 88, 84, 45, 88, 45, 77, 69, 68, 73, 65, 45, 83, 69, 81, 85, 69, 78, 67, 69, 58]⟩ : ByteArray) ++ sw)) hS (ex_add rfl (hS.get 51 rfl) (by (try simp only [ByteArray.size_append', ByteArray.size_mk', List.size_toArray, List.length_cons, List.length_nil]); omega)) fun a hS => ?_
  refine sv_r (v := .string ((⟨#[35, 69, 88, 84, 45, 88, 45, 77, 69, 68, 73, 65, 45, 83, 69, 81, 85, 69, 78, 67, 69, 58]⟩ : ByteArray) ++ sw ++ (⟨#[10]⟩ : ByteArray))) hS (ex_add (hS.get 52 rfl) rfl (by (try simp only [ByteArray.size_append', ByteArray.size_mk', List.size_toArray, List.length_cons, List.length_nil]); omega)) fun a hS => ?_
  refine sv_r (v := .string sw) hS (ex_mv (hS.get 5 rfl)) fun a hS => ?_
  refine sv_r (v := .string ((⟨#[35, 69, 88, 84, 45, 88, 45, 68, 73, 83, 67, 79, 78, 84, 73, 78, 85, 73, 84, 89, 45, 83, 69, 81, 85, 69, 78, 67, 69, 58]⟩ : ByteArray) ++ sw)) hS (ex_add rfl (hS.get 54 rfl) (by (try simp only [ByteArray.size_append', ByteArray.size_mk', List.size_toArray, List.length_cons, List.length_nil]); omega)) fun a hS => ?_
  refine sv_r (v := .string ((⟨#[35, 69, 88, 84, 45, 88, 45, 68, 73, 83, 67, 79, 78, 84, 73, 78, 85, 73, 84, 89, 45, 83, 69, 81, 85, 69, 78, 67, 69, 58]⟩ : ByteArray) ++ sw ++ (⟨#[10]⟩ : ByteArray))) hS (ex_add (hS.get 55 rfl) rfl (by (try simp only [ByteArray.size_append', ByteArray.size_mk', List.size_toArray, List.length_cons, List.length_nil]); omega)) fun a hS => ?_
  refine sv_r (v := .string sw) hS (ex_mv (hS.get 5 rfl)) fun a hS => ?_
  refine sv_r (v := .string ((⟨#[35, 69, 88, 84, 73, 78, 70, 58]⟩ : ByteArray) ++ sw)) hS (ex_add rfl (hS.get 57 rfl) (by (try simp only [ByteArray.size_append', ByteArray.size_mk', List.size_toArray, List.length_cons, List.length_nil]); omega)) fun a hS => ?_
  refine sv_r (v := .string ((⟨#[35, 69, 88, 84, 73, 78, 70, 58]⟩ : ByteArray) ++ sw ++ (⟨#[44, 10]⟩ : ByteArray))) hS (ex_add (hS.get 58 rfl) rfl (by (try simp only [ByteArray.size_append', ByteArray.size_mk', List.size_toArray, List.length_cons, List.length_nil]); omega)) fun a hS => ?_
  refine sv_new (T := 9) (cs := #[.string ((⟨#[35, 69, 88, 84, 45, 88, 45, 86, 69, 82, 83, 73, 79, 78, 58]⟩ : ByteArray) ++ sw ++ (⟨#[10]⟩ : ByteArray)), .string ((⟨#[35, 69, 88, 84, 45, 88, 45, 84, 65, 82, 71, 69, 84, 68, 85, 82, 65, 84, 73, 79, 78, 58]⟩ : ByteArray) ++ sw ++ (⟨#[10]⟩ : ByteArray)), .string ((⟨#[35, 69, 88, 84, 45, 88, 45, 77, 69, 68, 73, 65, 45, 83, 69, 81, 85, 69, 78, 67, 69, 58]⟩ : ByteArray) ++ sw ++ (⟨#[10]⟩ : ByteArray)), .string ((⟨#[35, 69, 88, 84, 45, 88, 45, 68, 73, 83, 67, 79, 78, 84, 73, 78, 85, 73, 84, 89, 45, 83, 69, 81, 85, 69, 78, 67, 69, 58]⟩ : ByteArray) ++ sw ++ (⟨#[10]⟩ : ByteArray)), .string ((⟨#[35, 69, 88, 84, 73, 78, 70, 58]⟩ : ByteArray) ++ sw ++ (⟨#[44, 10]⟩ : ByteArray))]) hS rfl rfl (by decide) (fun g => .slice (some ⟨g, 0, none⟩) 5 5) (by simp only [execOp, List.map_toArray, List.map_cons, List.map_nil, hS.get 47 rfl, hS.get 50 rfl, hS.get 53 rfl, hS.get 56 rfl, hS.get 59 rfl]; go_simp) ?_
  intro g5 a w6 hg5 hbw6 hwg5 hS
  refine sv_r (v := .slice (some ⟨g5, 0, none⟩) 5 5) hS (ex_as (hS.get 60 rfl)) fun a hS => ?_
  refine wpList_nil ?_
  replace hS := hS.cut [9, 8, 32, 31, 5, 30, 0, 1]
  show Code.wp _ _ _ _ _
  refine wp_seq ?_
  refine wp_region_lit ?_
  refine sv_r (v := .string (⟨#[35, 69, 88, 84, 77, 51, 85, 10]⟩)) hS ex_ac fun a hS => ?_
  refine sv_r (v := .string (⟨#[35, 69, 88, 84, 77, 51, 85, 10]⟩)) hS ex_ac fun a hS => ?_
  refine wpList_nil ?_
  replace hS := hS.cut [11, 10, 9, 8, 32, 31, 5, 30, 0, 1]
  show Code.wp _ _ _ _ _
  refine wp_seq ?_
  refine wp_seq ?_
  refine wp_region_lit ?_
  refine sv_r (v := .slice (some ⟨g3, 0, none⟩) 5 5) hS (ex_mv (hS.get 8 rfl)) fun a hS => ?_
  refine sv_r (v := .int .i64 5) hS (ex_len Tryz.underlying46 (hS.get 61 rfl)) fun a hS => ?_
  refine sv_r (v := .int .i64 0) hS ex_mc fun a hS => ?_
  refine wpList_nil ?_
  replace hS : Sv 122 ((63, .int .i64 0) :: (62, .int .i64 5) :: (61, .slice (some ⟨g3, 0, none⟩) 5 5) :: (11, .string (⟨#[35, 69, 88, 84, 77, 51, 85, 10]⟩)) :: (10, .string (⟨#[35, 69, 88, 84, 77, 51, 85, 10]⟩)) :: (9, .slice (some ⟨g5, 0, none⟩) 5 5) :: (8, .slice (some ⟨g3, 0, none⟩) 5 5) :: (32, .int .i64 ((len2 : Nat) : Int)) :: (31, .int .i64 ((len2 : Nat) : Int)) :: (5, .string sw) :: (30, .slice A2 len2 cap2) :: (0, .int .u8 ((n0 : Nat) : Int)) :: (1, .slice A2 len2 cap2) :: []) [⟨g5, #[.string ((⟨#[35, 69, 88, 84, 45, 88, 45, 86, 69, 82, 83, 73, 79, 78, 58]⟩ : ByteArray) ++ sw ++ (⟨#[10]⟩ : ByteArray)), .string ((⟨#[35, 69, 88, 84, 45, 88, 45, 84, 65, 82, 71, 69, 84, 68, 85, 82, 65, 84, 73, 79, 78, 58]⟩ : ByteArray) ++ sw ++ (⟨#[10]⟩ : ByteArray)), .string ((⟨#[35, 69, 88, 84, 45, 88, 45, 77, 69, 68, 73, 65, 45, 83, 69, 81, 85, 69, 78, 67, 69, 58]⟩ : ByteArray) ++ sw ++ (⟨#[10]⟩ : ByteArray)), .string ((⟨#[35, 69, 88, 84, 45, 88, 45, 68, 73, 83, 67, 79, 78, 84, 73, 78, 85, 73, 84, 89, 45, 83, 69, 81, 85, 69, 78, 67, 69, 58]⟩ : ByteArray) ++ sw ++ (⟨#[10]⟩ : ByteArray)), .string ((⟨#[35, 69, 88, 84, 73, 78, 70, 58]⟩ : ByteArray) ++ sw ++ (⟨#[44, 10]⟩ : ByteArray))], 9, true⟩, ⟨g3, #[.string (⟨#[35, 69, 88, 84, 45, 88, 45, 86, 69, 82, 83, 73, 79, 78, 58, 51, 10]⟩), .string (⟨#[35, 69, 88, 84, 45, 88, 45, 84, 65, 82, 71, 69, 84, 68, 85, 82, 65, 84, 73, 79, 78, 58, 57, 10]⟩), .string (⟨#[35, 69, 88, 84, 45, 88, 45, 77, 69, 68, 73, 65, 45, 83, 69, 81, 85, 69, 78, 67, 69, 58, 52, 10]⟩), .string (⟨#[35, 69, 88, 84, 45, 88, 45, 68, 73, 83, 67, 79, 78, 84, 73, 78, 85, 73, 84, 89, 45, 83, 69, 81, 85, 69, 78, 67, 69, 58, 50, 10]⟩), .string (⟨#[35, 69, 88, 84, 73, 78, 70, 58, 56, 46, 48, 48, 48, 44, 10]⟩)], 9, true⟩] (fun _ => False) w2 a w6 := hS.pick rfl
  show Code.wp _ _ _ _ _
  have hE : Ev 122 ((63, .int .i64 ((0 : Nat) : Int)) :: (62, .int .i64 5) :: ((10, .string (⟨#[35, 69, 88, 84, 77, 51, 85, 10]⟩)) :: (11, .string (⟨#[35, 69, 88, 84, 77, 51, 85, 10]⟩)) :: (0, .int .u8 ((n0 : Nat) : Int)) :: (5, .string sw) :: (8, .slice (some ⟨g3, 0, none⟩) 5 5) :: (9, .slice (some ⟨g5, 0, none⟩) 5 5) :: (61, .slice (some ⟨g3, 0, none⟩) 5 5) :: [])) a := hS.ev.pick rfl
  refine range_wp2 (N := 122) (n := 5) [10, 11, 0, 5, 8, 9, 61] (l0 := ((10, .string (⟨#[35, 69, 88, 84, 77, 51, 85, 10]⟩)) :: (11, .string (⟨#[35, 69, 88, 84, 77, 51, 85, 10]⟩)) :: (0, .int .u8 ((n0 : Nat) : Int)) :: (5, .string sw) :: (8, .slice (some ⟨g3, 0, none⟩) 5 5) :: (9, .slice (some ⟨g5, 0, none⟩) 5 5) :: (61, .slice (some ⟨g3, 0, none⟩) 5 5) :: [])) (fun k l w' => ∃ rt wr : ByteArray, l = ((10, .string rt) :: (11, .string wr) :: (0, .int .u8 ((n0 : Nat) : Int)) :: (5, .string sw) :: (8, .slice (some ⟨g3, 0, none⟩) 5 5) :: (9, .slice (some ⟨g5, 0, none⟩) 5 5) :: (61, .slice (some ⟨g3, 0, none⟩) 5 5) :: []) ∧ rt = rtB k ∧ wr = wrB (n0 % 5) sw k ∧ Hv [⟨g5, #[.string ((⟨#[35, 69, 88, 84, 45, 88, 45, 86, 69, 82, 83, 73, 79, 78, 58]⟩ : ByteArray) ++ sw ++ (⟨#[10]⟩ : ByteArray)), .string ((⟨#[35, 69, 88, 84, 45, 88, 45, 84, 65, 82, 71, 69, 84, 68, 85, 82, 65, 84, 73, 79, 78, 58]⟩ : ByteArray) ++ sw ++ (⟨#[10]⟩ : ByteArray)), .string ((⟨#[35, 69, 88, 84, 45, 88, 45, 77, 69, 68, 73, 65, 45, 83, 69, 81, 85, 69, 78, 67, 69, 58]⟩ : ByteArray) ++ sw ++ (⟨#[10]⟩ : ByteArray)), .string ((⟨#[35, 69, 88, 84, 45, 88, 45, 68, 73, 83, 67, 79, 78, 84, 73, 78, 85, 73, 84, 89, 45, 83, 69, 81, 85, 69, 78, 67, 69, 58]⟩ : ByteArray) ++ sw ++ (⟨#[10]⟩ : ByteArray)), .string ((⟨#[35, 69, 88, 84, 73, 78, 70, 58]⟩ : ByteArray) ++ sw ++ (⟨#[44, 10]⟩ : ByteArray))], 9, true⟩, ⟨g3, #[.string (⟨#[35, 69, 88, 84, 45, 88, 45, 86, 69, 82, 83, 73, 79, 78, 58, 51, 10]⟩), .string (⟨#[35, 69, 88, 84, 45, 88, 45, 84, 65, 82, 71, 69, 84, 68, 85, 82, 65, 84, 73, 79, 78, 58, 57, 10]⟩), .string (⟨#[35, 69, 88, 84, 45, 88, 45, 77, 69, 68, 73, 65, 45, 83, 69, 81, 85, 69, 78, 67, 69, 58, 52, 10]⟩), .string (⟨#[35, 69, 88, 84, 45, 88, 45, 68, 73, 83, 67, 79, 78, 84, 73, 78, 85, 73, 84, 89, 45, 83, 69, 81, 85, 69, 78, 67, 69, 58, 50, 10]⟩), .string (⟨#[35, 69, 88, 84, 73, 78, 70, 58, 56, 46, 48, 48, 48, 44, 10]⟩)], 9, true⟩] (fun _ => False) w2 w') (by omega) hE rfl ⟨_, _, rfl, rfl, rfl, hS.hv⟩ (by decide) (by decide) (by decide) ?_ ?_
  ·clear hE hS
   rintro k l a w7 hk hE ⟨rt, wr, rfl, hrt, hwr, hV⟩ Q' hQ'
   have hS : Sv 122 ((63, .int .i64 ((k : Nat) : Int)) :: (62, .int .i64 5) :: (10, .string rt) :: (11, .string wr) :: (0, .int .u8 ((n0 : Nat) : Int)) :: (5, .string sw) :: (8, .slice (some ⟨g3, 0, none⟩) 5 5) :: (9, .slice (some ⟨g5, 0, none⟩) 5 5) :: (61, .slice (some ⟨g3, 0, none⟩) 5 5) :: []) [⟨g5, #[.string ((⟨#[35, 69, 88, 84, 45, 88, 45, 86, 69, 82, 83, 73, 79, 78, 58]⟩ : ByteArray) ++ sw ++ (⟨#[10]⟩ : ByteArray)), .string ((⟨#[35, 69, 88, 84, 45, 88, 45, 84, 65, 82, 71, 69, 84, 68, 85, 82, 65, 84, 73, 79, 78, 58]⟩ : ByteArray) ++ sw ++ (⟨#[10]⟩ : ByteArray)), .string ((⟨#[35, 69, 88, 84, 45, 88, 45, 77, 69, 68, 73, 65, 45, 83, 69, 81, 85, 69, 78, 67, 69, 58]⟩ : ByteArray) ++ sw ++ (⟨#[10]⟩ : ByteArray)), .string ((⟨#[35, 69, 88, 84, 45, 88, 45, 68, 73, 83, 67, 79, 78, 84, 73, 78, 85, 73, 84, 89, 45, 83, 69, 81, 85, 69, 78, 67, 69, 58]⟩ : ByteArray) ++ sw ++ (⟨#[10]⟩ : ByteArray)), .string ((⟨#[35, 69, 88, 84, 73, 78, 70, 58]⟩ : ByteArray) ++ sw ++ (⟨#[44, 10]⟩ : ByteArray))], 9, true⟩, ⟨g3, #[.string (⟨#[35, 69, 88, 84, 45, 88, 45, 86, 69, 82, 83, 73, 79, 78, 58, 51, 10]⟩), .string (⟨#[35, 69, 88, 84, 45, 88, 45, 84, 65, 82, 71, 69, 84, 68, 85, 82, 65, 84, 73, 79, 78, 58, 57, 10]⟩), .string (⟨#[35, 69, 88, 84, 45, 88, 45, 77, 69, 68, 73, 65, 45, 83, 69, 81, 85, 69, 78, 67, 69, 58, 52, 10]⟩), .string (⟨#[35, 69, 88, 84, 45, 88, 45, 68, 73, 83, 67, 79, 78, 84, 73, 78, 85, 73, 84, 89, 45, 83, 69, 81, 85, 69, 78, 67, 69, 58, 50, 10]⟩), .string (⟨#[35, 69, 88, 84, 73, 78, 70, 58, 56, 46, 48, 48, 48, 44, 10]⟩)], 9, true⟩] (fun _ => False) w2 a w7 := hV.sv hE
   have hrz := rtB_size k
   have hwz := wrB_size (n0 % 5) sw hswz k
   rw [← hrt] at hrz
   rw [← hwr] at hwz
   have hlz := lnB_size k
   have hbz := bdB_size sw hswz k
   have hn5 : n0 % 5 < 5 := Nat.mod_lt _ (by decide)
   refine wp_block ?_
   refine wp_seq ?_
   refine wp_region_lit ?_
   refine sv_r (v := .int .i64 ((k : Nat) : Int)) hS (ex_mv (hS.get 63 rfl)) fun a hS => ?_
   refine sv_r (v := .int .i64 ((k : Nat) : Int)) hS (ex_as (hS.get 65 rfl)) fun a hS => ?_
   refine wpList_nil ?_
   replace hS := hS.cut [12, 63, 62, 10, 11, 0, 5, 8, 9, 61]
   show Code.wp _ _ _ _ _
   refine wp_seq ?_
   refine wp_region_lit ?_
   refine sv_r (v := .string rt) hS (ex_mv (hS.get 10 rfl)) fun a hS => ?_
   refine sv_r (v := .slice (some ⟨g3, 0, none⟩) 5 5) hS (ex_mv (hS.get 8 rfl)) fun a hS => ?_
   refine sv_r (v := .int .i64 ((k : Nat) : Int)) hS (ex_mv (hS.get 12 rfl)) fun a hS => ?_
   refine sv_r (v := pt g3 k) hS (ex_ia1 (E := 9) (i := k) Tryz.underlying46 Tryz.sizeOf9 (hS.get 67 rfl) (hS.get 68 rfl) (by omega)) fun a hS => ?_
   refine sv_r (v := .string (lnB k)) hS (ex_ld (hS.get 69 rfl) lt_string (cell_of_heap (v := .string (lnB k)) (hS.at 1 rfl) (ln_cell hk))) fun a hS => ?_
   refine sv_r (v := .string (rt ++ lnB k)) hS (ex_add (hS.get 66 rfl) (hS.get 70 rfl) (by omega)) fun a hS => ?_
   refine sv_r (v := .string (rt ++ lnB k)) hS (ex_as (hS.get 71 rfl)) fun a hS => ?_
   refine wpList_nil ?_
   replace hS := hS.cut [10, 12, 63, 62, 11, 0, 5, 8, 9, 61]
   show Code.wp _ _ _ _ _
   refine wp_seq ?_
   refine wp_region_lit ?_
   refine sv_r (v := .int .i64 ((k : Nat) : Int)) hS (ex_mv (hS.get 12 rfl)) fun a hS => ?_
   refine sv_r (v := .int .u8 ((n0 : Nat) : Int)) hS (ex_mv (hS.get 0 rfl)) fun a hS => ?_
   refine sv_r (v := .int .u8 ((n0 % 5 : Nat) : Int)) hS (ni_rem 5 (hS.get 73 rfl) rfl (by decide)) fun a hS => ?_
   refine sv_r (v := .int .i64 ((n0 % 5 : Nat) : Int)) hS (ex_cv (hS.get 74 rfl) (cv_uint8_int _ (by rw [IntKind.wrap_i64]; omega))) fun a hS => ?_
   refine sv_r (v := .bool (decide ((k : Nat) = n0 % 5))) hS (ei_eql (hS.get 72 rfl) (hS.get 75 rfl) (by rw [decide_eq_decide]; omega)) fun a hS => ?_
   refine wpList_nil ?_
   replace hS : Sv 122 ((76, .bool (decide ((k : Nat) = n0 % 5))) :: (10, .string (rt ++ lnB k)) :: (12, .int .i64 ((k : Nat) : Int)) :: (63, .int .i64 ((k : Nat) : Int)) :: (62, .int .i64 5) :: (11, .string wr) :: (0, .int .u8 ((n0 : Nat) : Int)) :: (5, .string sw) :: (8, .slice (some ⟨g3, 0, none⟩) 5 5) :: (9, .slice (some ⟨g5, 0, none⟩) 5 5) :: (61, .slice (some ⟨g3, 0, none⟩) 5 5) :: []) [⟨g5, #[.string ((⟨#[35, 69, 88, 84, 45, 88, 45, 86, 69, 82, 83, 73, 79, 78, 58]⟩ : ByteArray) ++ sw ++ (⟨#[10]⟩ : ByteArray)), .string ((⟨#[35, 69, 88, 84, 45, 88, 45, 84, 65, 82, 71, 69, 84, 68, 85, 82, 65, 84, 73, 79, 78, 58]⟩ : ByteArray) ++ sw ++ (⟨#[10]⟩ : ByteArray)), .string ((⟨#[35, 69, 88, 84, 45, 88, 45, 77, 69, 68, 73, 65, 45, 83, 69, 81, 85, 69, 78, 67, 69, 58]⟩ : ByteArray) ++ sw ++ (⟨#[10]⟩ : ByteArray)), .string ((⟨#[35, 69, 88, 84, 45, 88, 45, 68, 73, 83, 67, 79, 78, 84, 73, 78, 85, 73, 84, 89, 45, 83, 69, 81, 85, 69, 78, 67, 69, 58]⟩ : ByteArray) ++ sw ++ (⟨#[10]⟩ : ByteArray)), .string ((⟨#[35, 69, 88, 84, 73, 78, 70, 58]⟩ : ByteArray) ++ sw ++ (⟨#[44, 10]⟩ : ByteArray))], 9, true⟩, ⟨g3, #[.string (⟨#[35, 69, 88, 84, 45, 88, 45, 86, 69, 82, 83, 73, 79, 78, 58, 51, 10]⟩), .string (⟨#[35, 69, 88, 84, 45, 88, 45, 84, 65, 82, 71, 69, 84, 68, 85, 82, 65, 84, 73, 79, 78, 58, 57, 10]⟩), .string (⟨#[35, 69, 88, 84, 45, 88, 45, 77, 69, 68, 73, 65, 45, 83, 69, 81, 85, 69, 78, 67, 69, 58, 52, 10]⟩), .string (⟨#[35, 69, 88, 84, 45, 88, 45, 68, 73, 83, 67, 79, 78, 84, 73, 78, 85, 73, 84, 89, 45, 83, 69, 81, 85, 69, 78, 67, 69, 58, 50, 10]⟩), .string (⟨#[35, 69, 88, 84, 73, 78, 70, 58, 56, 46, 48, 48, 48, 44, 10]⟩)], 9, true⟩] (fun _ => False) w2 a w7 := hS.pick rfl
   show Code.wp _ _ _ _ _
   refine wp_cond_split (hS.get 76 rfl) (fun hb8 => ?_) (fun hb8 => ?_)
   ·have hb8 := of_decide_eq_true hb8
    refine wp_region_lit ?_
    refine sv_r (v := .string wr) hS (ex_mv (hS.get 11 rfl)) fun a hS => ?_
    refine sv_r (v := .slice (some ⟨g5, 0, none⟩) 5 5) hS (ex_mv (hS.get 9 rfl)) fun a hS => ?_
    refine sv_r (v := .int .i64 ((k : Nat) : Int)) hS (ex_mv (hS.get 12 rfl)) fun a hS => ?_
    refine sv_r (v := pt g5 k) hS (ex_ia1 (E := 9) (i := k) Tryz.underlying46 Tryz.sizeOf9 (hS.get 78 rfl) (hS.get 79 rfl) (by omega)) fun a hS => ?_
    refine sv_r (v := .string (bdB sw k)) hS (ex_ld (hS.get 80 rfl) lt_string (cell_of_heap (v := .string (bdB sw k)) (hS.at 0 rfl) (bd_cell sw hk))) fun a hS => ?_
    refine sv_r (v := .string (wr ++ bdB sw k)) hS (ex_add (hS.get 77 rfl) (hS.get 81 rfl) (by omega)) fun a hS => ?_
    refine sv_r (v := .string (wr ++ bdB sw k)) hS (ex_as (hS.get 82 rfl)) fun a hS => ?_
    refine wpList_nil ?_
    replace hS := hS.cut [11, 76, 10, 12, 63, 62, 0, 5, 8, 9, 61]
    show Q' .normal a w7
    exact hQ' _ a w7 rfl (hS.ev.pick (l' := (63, .int .i64 ((k : Nat) : Int)) :: (62, .int .i64 5) :: ((10, .string (rt ++ lnB k)) :: (11, .string (wr ++ bdB sw k)) :: (0, .int .u8 ((n0 : Nat) : Int)) :: (5, .string sw) :: (8, .slice (some ⟨g3, 0, none⟩) 5 5) :: (9, .slice (some ⟨g5, 0, none⟩) 5 5) :: (61, .slice (some ⟨g3, 0, none⟩) 5 5) :: [])) rfl) ⟨rt ++ lnB k, wr ++ bdB sw k, rfl, by rw [hrt]; rfl, by rw [hwr]; show _ = _ ++ (if k = n0 % 5 then _ else _); rw [if_pos hb8], hS.hv⟩
   ·have hb8 := of_decide_eq_false hb8
    refine wp_region_lit ?_
    refine sv_r (v := .string wr) hS (ex_mv (hS.get 11 rfl)) fun a hS => ?_
    refine sv_r (v := .slice (some ⟨g3, 0, none⟩) 5 5) hS (ex_mv (hS.get 8 rfl)) fun a hS => ?_
    refine sv_r (v := .int .i64 ((k : Nat) : Int)) hS (ex_mv (hS.get 12 rfl)) fun a hS => ?_
    refine sv_r (v := pt g3 k) hS (ex_ia1 (E := 9) (i := k) Tryz.underlying46 Tryz.sizeOf9 (hS.get 84 rfl) (hS.get 85 rfl) (by omega)) fun a hS => ?_
    refine sv_r (v := .string (lnB k)) hS (ex_ld (hS.get 86 rfl) lt_string (cell_of_heap (v := .string (lnB k)) (hS.at 1 rfl) (ln_cell hk))) fun a hS => ?_
    refine sv_r (v := .string (wr ++ lnB k)) hS (ex_add (hS.get 83 rfl) (hS.get 87 rfl) (by omega)) fun a hS => ?_
    refine sv_r (v := .string (wr ++ lnB k)) hS (ex_as (hS.get 88 rfl)) fun a hS => ?_
    refine wpList_nil ?_
    replace hS := hS.cut [11, 76, 10, 12, 63, 62, 0, 5, 8, 9, 61]
    show Q' .normal a w7
    exact hQ' _ a w7 rfl (hS.ev.pick (l' := (63, .int .i64 ((k : Nat) : Int)) :: (62, .int .i64 5) :: ((10, .string (rt ++ lnB k)) :: (11, .string (wr ++ lnB k)) :: (0, .int .u8 ((n0 : Nat) : Int)) :: (5, .string sw) :: (8, .slice (some ⟨g3, 0, none⟩) 5 5) :: (9, .slice (some ⟨g5, 0, none⟩) 5 5) :: (61, .slice (some ⟨g3, 0, none⟩) 5 5) :: [])) rfl) ⟨rt ++ lnB k, wr ++ lnB k, rfl, by rw [hrt]; rfl, by rw [hwr]; show _ = _ ++ (if k = n0 % 5 then _ else _); rw [if_neg hb8], hS.hv⟩
  ·clear hE hS
   rintro l a w9 hE ⟨rt, wr, rfl, hrt, hwr, hV⟩
   have hS : Sv 122 ((63, .int .i64 5) :: (62, .int .i64 5) :: (10, .string rt) :: (11, .string wr) :: (0, .int .u8 ((n0 : Nat) : Int)) :: (5, .string sw) :: (8, .slice (some ⟨g3, 0, none⟩) 5 5) :: (9, .slice (some ⟨g5, 0, none⟩) 5 5) :: (61, .slice (some ⟨g3, 0, none⟩) 5 5) :: []) [⟨g5, #[.string ((⟨#[35, 69, 88, 84, 45, 88, 45, 86, 69, 82, 83, 73, 79, 78, 58]⟩ : ByteArray) ++ sw ++ (⟨#[10]⟩ : ByteArray)), .string ((⟨#[35, 69, 88, 84, 45, 88, 45, 84, 65, 82, 71, 69, 84, 68, 85, 82, 65, 84, 73, 79, 78, 58]⟩ : ByteArray) ++ sw ++ (⟨#[10]⟩ : ByteArray)), .string ((⟨#[35, 69, 88, 84, 45, 88, 45, 77, 69, 68, 73, 65, 45, 83, 69, 81, 85, 69, 78, 67, 69, 58]⟩ : ByteArray) ++ sw ++ (⟨#[10]⟩ : ByteArray)), .string ((⟨#[35, 69, 88, 84, 45, 88, 45, 68, 73, 83, 67, 79, 78, 84, 73, 78, 85, 73, 84, 89, 45, 83, 69, 81, 85, 69, 78, 67, 69, 58]⟩ : ByteArray) ++ sw ++ (⟨#[10]⟩ : ByteArray)), .string ((⟨#[35, 69, 88, 84, 73, 78, 70, 58]⟩ : ByteArray) ++ sw ++ (⟨#[44, 10]⟩ : ByteArray))], 9, true⟩, ⟨g3, #[.string (⟨#[35, 69, 88, 84, 45, 88, 45, 86, 69, 82, 83, 73, 79, 78, 58, 51, 10]⟩), .string (⟨#[35, 69, 88, 84, 45, 88, 45, 84, 65, 82, 71, 69, 84, 68, 85, 82, 65, 84, 73, 79, 78, 58, 57, 10]⟩), .string (⟨#[35, 69, 88, 84, 45, 88, 45, 77, 69, 68, 73, 65, 45, 83, 69, 81, 85, 69, 78, 67, 69, 58, 52, 10]⟩), .string (⟨#[35, 69, 88, 84, 45, 88, 45, 68, 73, 83, 67, 79, 78, 84, 73, 78, 85, 73, 84, 89, 45, 83, 69, 81, 85, 69, 78, 67, 69, 58, 50, 10]⟩), .string (⟨#[35, 69, 88, 84, 73, 78, 70, 58, 56, 46, 48, 48, 48, 44, 10]⟩)], 9, true⟩] (fun _ => False) w2 a w9 := hV.sv hE
   have hrz := rtB_size 5
   have hwz := wrB_size (n0 % 5) sw hswz 5
   rw [← hrt] at hrz
   rw [← hwr] at hwz
   show Code.wp _ _ _ _ _
   refine wp_seq ?_
   have hn5 : n0 % 5 < 5 := Nat.mod_lt _ (by decide)
   replace hS : Sv 122 ((63, .int .i64 5) :: (62, .int .i64 5) :: (10, .string rt) :: (11, .string wr) :: (0, .int .u8 ((n0 : Nat) : Int)) :: (5, .string sw) :: (8, .slice (some ⟨g3, 0, none⟩) 5 5) :: (9, .slice (some ⟨g5, 0, none⟩) 5 5) :: (61, .slice (some ⟨g3, 0, none⟩) 5 5) :: []) [] (fun _ => False) w2 a w9 := (hS.mask []).pick rfl
   refine wp_region_lit ?_
   refine sv_r (v := .string rt) hS (ex_mv (hS.get 10 rfl)) fun a hS => ?_
   refine sv_r (v := .string (rt ++ (⟨#[97, 46, 116, 115, 10]⟩ : ByteArray))) hS (ex_add (hS.get 91 rfl) rfl (by rw [show (⟨#[97, 46, 116, 115, 10]⟩ : ByteArray).size = 5 from rfl]; omega)) fun a hS => ?_
   have hlt := hS.lt
   have hsz := hS.size
   refine sv_call (S := fun v w' => ∃ tgt seq disc p c, v = .tuple #[.agg (mcs tgt seq disc 3 (.slice p 1 c)), .bool true]) hS rfl rfl (by decide) (ex_call4 cf_impl_ReadMedia (hS.get 92 rfl) rfl rfl rfl) ((readMediaNN 5 hwd true _ (by rw [hrt]; exact rt_flat wd) w9 (hG.below (hbw.trans (hS.toBelow.mono hbw.size)))).mono fun e w' ⟨v, h1, h2, h3⟩ => ⟨v, h1, h2, h3.resolve_left (fun h => absurd h.1.2 (by decide)) |>.2⟩) ?_
   rintro a _ w10 ⟨ton, son, don, pon, con, rfl⟩ hbw10 hS
   refine sv_r (v := .tuple #[.agg (mcs ton son don 3 (.slice pon 1 con)), .bool true]) hS (ex_mv (hS.get 93 rfl)) fun a hS => ?_
   refine sv_r (v := .agg (mcs ton son don 3 (.slice pon 1 con))) hS (ei_ext (hS.get 90 rfl) rfl) fun a hS => ?_
   refine sv_r (v := .bool true) hS (ei_ext (hS.get 90 rfl) rfl) fun a hS => ?_
   refine sv_al hS al_impl_Media (by decide) ?_
   intro g11 a w12 hg11 hbw12 hwg11 hS
   refine sv_sb (i := 0) (m' := [⟨g11, (mcs ton son don 3 (.slice pon 1 con)), 40, true⟩]) hS ag_impl_Media (hS.get 13 rfl) (hS.get 94 rfl) rfl rfl rfl (mcs_one _ _ _ _ _ _ _) rfl ?_
   intro w13 hty hS
   refine sv_r (v := .bool true) hS (ex_as (hS.get 95 rfl)) fun a hS => ?_
   refine wpList_nil ?_
   replace hS := hS.cut [14, 63, 62, 10, 11, 0, 5, 8, 9, 61]
   show Code.wp _ _ _ _ _
   refine wp_seq ?_
   refine wp_region_lit ?_
   refine sv_r (v := .string wr) hS (ex_mv (hS.get 11 rfl)) fun a hS => ?_
   refine sv_r (v := .string (wr ++ (⟨#[97, 46, 116, 115, 10]⟩ : ByteArray))) hS (ex_add (hS.get 97 rfl) rfl (by rw [show (⟨#[97, 46, 116, 115, 10]⟩ : ByteArray).size = 5 from rfl]; omega)) fun a hS => ?_
   have hlt := hS.lt
   have hsz := hS.size
   refine sv_call (S := fun v w' => v = .tuple #[.agg zmc, .bool false]) hS rfl rfl (by decide) (ex_call4 cf_impl_ReadMedia (hS.get 98 rfl) rfl rfl rfl) ((readMediaNN (n0 % 5) hwd true _ (by rw [hwr, hsw]; exact wr_flat _ hn5 wd) w13 (hG.below (hbw.trans (hS.toBelow.mono hbw.size)))).mono fun e w' ⟨v, h1, h2, h3⟩ => ⟨v, h1, h2, (h3.resolve_right (fun h => h.1 ⟨rfl, hn5⟩)).2⟩) ?_
   rintro a _ w14 rfl hbw14 hS
   refine sv_r (v := .tuple #[.agg zmc, .bool false]) hS (ex_mv (hS.get 99 rfl)) fun a hS => ?_
   refine sv_r (v := .agg zmc) hS (ei_ext (hS.get 96 rfl) rfl) fun a hS => ?_
   refine sv_r (v := .bool false) hS (ei_ext (hS.get 96 rfl) rfl) fun a hS => ?_
   refine sv_al hS al_impl_Media (by decide) ?_
   intro g15 a w16 hg15 hbw16 hwg15 hS
   refine sv_sb (i := 0) (m' := [⟨g15, zmc, 40, true⟩, ⟨g11, (mcs ton son don 3 (.slice pon 1 con)), 40, true⟩]) hS ag_impl_Media (hS.get 15 rfl) (hS.get 100 rfl) rfl rfl rfl zmc_one rfl ?_
   intro w17 hty hS
   refine sv_r (v := .bool false) hS (ex_as (hS.get 101 rfl)) fun a hS => ?_
   refine wpList_nil ?_
   replace hS := hS.cut [16, 14, 63, 62, 10, 11, 0, 5, 8, 9, 61]
   show Code.wp _ _ _ _ _
   refine wp_seq ?_
   refine wp_region_lit ?_
   refine sv_r (v := .string wr) hS (ex_mv (hS.get 11 rfl)) fun a hS => ?_
   refine sv_r (v := .string (wr ++ (⟨#[97, 46, 116, 115, 10]⟩ : ByteArray))) hS (ex_add (hS.get 103 rfl) rfl (by rw [show (⟨#[97, 46, 116, 115, 10]⟩ : ByteArray).size = 5 from rfl]; omega)) fun a hS => ?_
   have hlt := hS.lt
   have hsz := hS.size
   refine sv_call (S := fun v w' => ∃ tgt seq disc p c, v = .tuple #[.agg (mcs tgt seq disc 3 (.slice p 1 c)), .bool true]) hS rfl rfl (by decide) (ex_call4 cf_impl_ReadMedia (hS.get 104 rfl) rfl rfl rfl) ((readMediaNN (n0 % 5) hwd false _ (by rw [hwr, hsw]; exact wr_flat _ hn5 wd) w17 (hG.below (hbw.trans (hS.toBelow.mono hbw.size)))).mono fun e w' ⟨v, h1, h2, h3⟩ => ⟨v, h1, h2, (h3.resolve_left (fun h => by cases h.1.1)).2⟩) ?_
   rintro a _ w18 ⟨tth, sth, dth, pth, cth, rfl⟩ hbw18 hS
   refine sv_r (v := .tuple #[.agg (mcs tth sth dth 3 (.slice pth 1 cth)), .bool true]) hS (ex_mv (hS.get 105 rfl)) fun a hS => ?_
   refine sv_r (v := .agg (mcs tth sth dth 3 (.slice pth 1 cth))) hS (ei_ext (hS.get 102 rfl) rfl) fun a hS => ?_
   refine sv_r (v := .bool true) hS (ei_ext (hS.get 102 rfl) rfl) fun a hS => ?_
   refine sv_al hS al_impl_Media (by decide) ?_
   intro g19 a w20 hg19 hbw20 hwg19 hS
   refine sv_sb (i := 0) (m' := [⟨g19, (mcs tth sth dth 3 (.slice pth 1 cth)), 40, true⟩, ⟨g15, zmc, 40, true⟩, ⟨g11, (mcs ton son don 3 (.slice pon 1 con)), 40, true⟩]) hS ag_impl_Media (hS.get 17 rfl) (hS.get 106 rfl) rfl rfl rfl (mcs_one _ _ _ _ _ _ _) rfl ?_
   intro w21 hty hS
   refine sv_r (v := .bool true) hS (ex_as (hS.get 107 rfl)) fun a hS => ?_
   refine wpList_nil ?_
   replace hS : Sv 122 ((18, .bool true) :: (17, pt g19 0) :: (16, .bool false) :: (14, .bool true) :: (63, .int .i64 5) :: (62, .int .i64 5) :: (10, .string rt) :: (11, .string wr) :: (0, .int .u8 ((n0 : Nat) : Int)) :: (5, .string sw) :: (8, .slice (some ⟨g3, 0, none⟩) 5 5) :: (9, .slice (some ⟨g5, 0, none⟩) 5 5) :: (61, .slice (some ⟨g3, 0, none⟩) 5 5) :: []) [⟨g19, (mcs tth sth dth 3 (.slice pth 1 cth)), 40, true⟩, ⟨g15, zmc, 40, true⟩, ⟨g11, (mcs ton son don 3 (.slice pon 1 con)), 40, true⟩] (fun _ => False) w2 a w21 := hS.pick rfl
   show Code.wp _ _ _ _ _
   refine wp_seq ?_
   refine wp_region_lit ?_
   refine sv_r (v := .bool true) hS (ex_mv (hS.get 14 rfl)) fun a hS => ?_
   refine sv_r (v := .bool true) hS (ex_mv (hS.get 108 rfl)) fun a hS => ?_
   refine sv_g (v := .bool false) hS (hS.get 109 rfl) (ex_mv (hS.get 16 rfl)) fun a hS => ?_
   refine sv_g (v := .bool true) hS (hS.get 109 rfl) (ex_not (hS.get 110 rfl)) fun a hS => ?_
   refine sv_r (v := .bool true) hS (ex_pickT (hS.get 109 rfl) (hS.get 111 rfl)) fun a hS => ?_
   refine sv_r (v := .bool true) hS (ex_mv (hS.get 112 rfl)) fun a hS => ?_
   refine sv_g (v := .bool true) hS (hS.get 113 rfl) (ex_mv (hS.get 18 rfl)) fun a hS => ?_
   refine sv_r (v := .bool true) hS (ex_pickT (hS.get 113 rfl) (hS.get 114 rfl)) fun a hS => ?_
   refine sv_r (v := .bool true) hS (ex_mv (hS.get 115 rfl)) fun a hS => ?_
   refine sv_g (v := pt g19 2) hS (hS.get 116 rfl) (ex_fo (hS.get 17 rfl) fo_impl_Media_2 rfl) fun a hS => ?_
   refine sv_g (v := .slice pth 1 cth) hS (hS.get 116 rfl) (ex_ld (hS.get 117 rfl) lt_sl_impl_Segment (cell_of_heap (v := .slice pth 1 cth) (hS.at 0 rfl) rfl)) fun a hS => ?_
   refine sv_g (v := .int .i64 1) hS (hS.get 116 rfl) (ex_len Tryz.underlying36 (hS.get 118 rfl)) fun a hS => ?_
   refine sv_g (v := .bool true) hS (hS.get 116 rfl) (ei_eql (hS.get 119 rfl) rfl (by decide)) fun a hS => ?_
   refine sv_r (v := .bool true) hS (ex_pickT (hS.get 116 rfl) (hS.get 120 rfl)) fun a hS => ?_
   refine sv_r (v := .bool true) hS (ex_as (hS.get 121 rfl)) fun a hS => ?_
   refine wpList_nil ?_
   replace hS := hS.cut [4, 17, 63, 62, 10, 11, 0, 5, 8, 9, 61]
   show Code.wp _ _ _ _ _
   refine wp_ret ?_
   try simp only [Exit.inBlock, Exit.then]
   exact ret_of_ev hS.ev rfl (hS.get 4 rfl) ⟨rfl, hbw.trans (hS.toBelow.mono hbw.size)⟩
end Go.Proofs.YtflppablgdegcaaGreatDoor
