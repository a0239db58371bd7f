/- Joined: At, Pf, Zf, Bd, Rb, Rc. -/
import Derived.Test.YtflppablgdegcaaGreatDoorR07
import Derived.Test.YtflppablgdegcaaGreatDoorR06
import Derived.Laws.CopyRow
import Derived.Lib.ConvBytes
import Derived.Lib.BufferWrite
import Derived.Lib.BufferRead
set_option maxRecDepth 100000
set_option maxHeartbeats 8000000
namespace Go.Proofs.YtflppablgdegcaaGreatDoor
open Go.RowKit
theorem cv_uint64_float64 (n : Int) : Cv 24 35 (.int .u64 n) (.float .f64 (floatOfInt .f64 n)) := by intro w; go_simp
theorem lt_sl_float64 : Ld 268 := by intro w p v h; go_simp
section
variable {a : Act} {w : World} {v : Value} {x y : Operand} {ty : TypeId} {ps : String} {af : Array Edge} {dst : Option Nat} {gd : Option (Nat × Bool)} {T T' : TypeId}
theorem ex_fog {T k o n : Nat} (hf : Fo T k o) : (execOp a.eval ⟨dst, .fieldAddr T (.global n) k, ty, ps, af, gd⟩).run Tryz.prog w = .ok (.value (pt n o)) w := by
 have h := hf n 0 w
 rw [Nat.zero_add] at h
 have hx : a.eval (.global n) = pt n 0 := rfl
 simp only [execOp, hx]; exact run_andValue h
theorem ex_ldg {T n : Nat} (hL : Ld T) (hc : w.cell? ⟨n, 0, none⟩ = some v) : (execOp a.eval ⟨dst, .load T (.global n), ty, ps, af, gd⟩).run Tryz.prog w = .ok (.value v) w := by
 have hx : a.eval (.global n) = pt n 0 := rfl
 simp only [execOp, hx]; exact run_andValue (hL w _ _ hc)
theorem ex_quof {u z p : Nat} (hx : a.eval x = .float .f64 u) (hy : a.eval y = .float .f64 p) (h : floatBits .quo .f64 u p = some z) : (execOp a.eval ⟨dst, .binOp .quo T x y T', ty, ps, af, gd⟩).run Tryz.prog w = .ok (.value (.float .f64 z)) w := by
 have hr := run_float_arith (P := Tryz.prog) w .quo T .f64 _ _ z h
 simp only [execOp, hx, hy]
 simp [eqGuard, hr, Result.andThen]
theorem ex_neg {t : Nat} {i : Int} (hx : a.eval (.tmp t) = .int .i64 (-i)) (hw : IntKind.i64.wrap i = i) : (execOp a.eval ⟨dst, .unOp .neg T (.tmp t), ty, ps, af, gd⟩).run Tryz.prog w = .ok (.value (.int .i64 i)) w := by
 have hw2 : IntKind.i64.wrap (- -i) = i := by rw [Int.neg_neg]; exact hw
 simp only [execOp, hx]
 generalize hj : -i = j at hw2 ⊢
 go_simp
 try rw [hw2]
end
def Qb (m k z : Nat) : Prop := (k = 0 ∧ z = floatOfInt .f64 (m : Int)) ∨ (0 < k ∧ k ≤ 22 ∧ ∃ p, p10bits[k]? = some p ∧ floatBits .quo .f64 (floatOfInt .f64 (m : Int)) p = some z)
theorem shr52 {m : Nat} (hm : m < 4503599627370496) : (m : Int) / 2 ^ (52 : Int).toNat = 0 := by
 have : (2 : Int) ^ (52 : Int).toNat = 4503599627370496 := by decide
 rw [this]; omega
theorem atofexact_any (m k z : Nat) (hm : m < 4503599627370496) (hz : Qb m k z) {B : Nat} {G : Ge} (w : World) (hG : Env B G w) : Calls Tryz.prog 138 #[.int .u64 m, .int .i64 (-(k : Int)), .bool false] w fun e w' => e = .returned (.tuple #[.float .f64 z, .bool true]) ∧ Below w.heap.size w w' := by
 obtain ⟨rfl, rfl⟩ | ⟨hk0, hk, p, hp, hq⟩ := hz
 ·refine calls_of_ev Tryz.func138 rfl (show 3 ≤ 64 from by decide) fun a hE => ?_
  have hE : Ev 64 ((0, .int .u64 ((m : Nat) : Int)) :: (1, .int .i64 0) :: (2, .bool false) :: []) a := hE
  have Z : Sv 64 ((0, .int .u64 ((m : Nat) : Int)) :: (1, .int .i64 0) :: (2, .bool false) :: []) [] (fun _ => False) w a w := Sv.start hE _ _
  clear hE
  have Z : Sv 64 ((0, .int .u64 ((m : Nat) : Int)) :: (1, .int .i64 0) :: (2, .bool false) :: []) [] (fun _ => False) w a w := Z
  refine wr (sv_r (v := .float .f64 0) Z ex_ac fun a Z => sv_n 1 Z rfl fun a Z => Z.nx [7, 6, 0, 1, 2] rfl fun Z => sh (wp_seq (wr (sv_n 1 Z rfl fun a Z => sv_r (v := pt 15 0) Z (ex_fog (fo rfl)) fun a Z => sv_r (v := .int .u64 52) Z (ex_ld (Z.g 9 rfl) lt_uint (hG.below Z.toBelow).bits) fun a Z => sv_r (v := .int .u64 0) Z (ei_shr (Z.g 8 rfl) (Z.g 10 rfl) (by decide) (by decide) (shr52 hm)) fun a Z => sv_r (v := .bool false) Z (ei_neq (Z.g 11 rfl) rfl (by decide)) fun a Z => ?_))))
  refine Z.nx [12, 7, 6, 0, 1, 2] rfl fun Z => sh (cond_f (Z.g 12 rfl) (wp_skip (sh (wr (sv_n 1 Z rfl fun a Z => sv_r (v := .float .f64 (floatOfInt .f64 (m : Int))) Z (ex_cv (Z.g 13 rfl) (cv_uint64_float64 _)) fun a Z => sv_n 1 Z rfl fun a Z => Z.nx [6, 12, 7, 0, 1, 2] rfl fun Z => sh (wp_seq ?_))))))
  refine wr (sv_n 1 Z rfl fun a Z => Z.nx [15, 6, 12, 7, 0, 1] rfl fun Z => sh (cond_f (Z.g 15 rfl) (wp_skip (sh (wp_seq (wp_block (wr (sv_n 1 Z rfl fun a Z => sv_r (v := .bool true) Z (ei_eql (Z.g 19 rfl) rfl (by decide)) fun a Z => ?_))))))))
  refine sv_n 1 Z rfl fun a Z => Z.nx [18, 15, 6, 12, 7, 0, 1] rfl fun Z => sh (cond_t (Z.g 18 rfl) (wr (sv_n 3 Z rfl fun a Z => Z.nx [7, 6, 18, 15, 12, 0, 1] rfl fun Z => sh (wp_ret ?_))))
  try simp only [Exit.inBlock, Exit.then]
  exact ret2_of_ev Z.ev rfl (Z.g 6 rfl) (Z.g 7 rfl) ⟨rfl, Z.toBelow⟩
 ·refine calls_of_ev Tryz.func138 rfl (show 3 ≤ 64 from by decide) fun a hE => ?_
  have hE : Ev 64 ((0, .int .u64 ((m : Nat) : Int)) :: (1, .int .i64 (-(k : Int))) :: (2, .bool false) :: []) a := hE
  have Z : Sv 64 ((0, .int .u64 ((m : Nat) : Int)) :: (1, .int .i64 (-(k : Int))) :: (2, .bool false) :: []) [] (fun _ => False) w a w := Sv.start hE _ _
  clear hE
  refine wr (sv_r (v := .float .f64 0) Z ex_ac fun a Z => sv_n 1 Z rfl fun a Z => Z.nx [7, 6, 0, 1, 2] rfl fun Z => sh (wp_seq (wr (sv_n 1 Z rfl fun a Z => sv_r (v := pt 15 0) Z (ex_fog (fo rfl)) fun a Z => sv_r (v := .int .u64 52) Z (ex_ld (Z.g 9 rfl) lt_uint (hG.below Z.toBelow).bits) fun a Z => sv_r (v := .int .u64 0) Z (ei_shr (Z.g 8 rfl) (Z.g 10 rfl) (by decide) (by decide) (shr52 hm)) fun a Z => sv_r (v := .bool false) Z (ei_neq (Z.g 11 rfl) rfl (by decide)) fun a Z => ?_))))
  refine Z.nx [12, 7, 6, 0, 1, 2] rfl fun Z => sh (cond_f (Z.g 12 rfl) (wp_skip (sh (wr (sv_n 1 Z rfl fun a Z => sv_r (v := .float .f64 (floatOfInt .f64 (m : Int))) Z (ex_cv (Z.g 13 rfl) (cv_uint64_float64 _)) fun a Z => sv_n 1 Z rfl fun a Z => Z.nx [6, 12, 7, 0, 1, 2] rfl fun Z => sh (wp_seq ?_))))))
  refine wr (sv_n 1 Z rfl fun a Z => Z.nx [15, 6, 12, 7, 0, 1] rfl fun Z => sh (cond_f (Z.g 15 rfl) (wp_skip (sh (wp_seq (wp_block (wr (sv_n 1 Z rfl fun a Z => ?_))))))))
  refine sv_r (v := .bool false) Z (ei_eql (Z.g 19 rfl) rfl (by rw [decide_eq_false_iff_not]; omega)) fun a Z => sv_n 1 Z rfl fun a Z => Z.nx [18, 15, 6, 12, 7, 0, 1] rfl fun Z => sh (cond_f (Z.g 18 rfl) (wr (sv_n 1 Z rfl fun a Z => ?_)))
  refine sv_r (v := .bool false) Z (ei_gtr (Z.g 23 rfl) rfl (by rw [decide_eq_false_iff_not]; omega)) fun a Z => sv_n 5 Z rfl fun a Z => Z.nx [22, 18, 15, 6, 12, 7, 0, 1] rfl fun Z => sh (cond_f (Z.g 22 rfl) (wr (sv_n 1 Z rfl fun a Z => ?_)))
  refine sv_r (v := .bool true) Z (ei_lss (Z.g 51 rfl) rfl (by rw [decide_eq_true_iff]; omega)) fun a Z => sv_n 2 Z rfl fun a Z => ?_
  refine sv_g (v := .bool true) Z (Z.g 53 rfl) (ei_geq (Z.g 54 rfl) rfl (by rw [decide_eq_true_iff]; omega)) fun a Z => sv_n 2 Z rfl fun a Z => Z.nx [50, 22, 18, 15, 6, 12, 7, 0, 1] rfl fun Z => sh (cond_t (Z.g 50 rfl) (wr (sv_n 1 Z rfl fun a Z => sv_r (v := .slice (some G.pow) G.pn G.pc) Z (ex_ldg lt_sl_float64 (hG.below Z.toBelow).pow) fun a Z => sv_n 1 Z rfl fun a Z => ?_)))
  refine sv_r (v := .int .i64 (k : Int)) Z (ex_neg (Z.g 59 rfl) (by rw [IntKind.wrap_i64]; omega)) fun a Z => ?_
  refine sv_r (v := .pointer (some (G.pow.add (k * 1)))) Z (ex_ia (E := 35) Tryz.underlying268 Tryz.sizeOf35 (Z.g 58 rfl) (Z.g 60 rfl) (by have := hG.powN; omega)) fun a Z => ?_
  refine sv_r (v := .float .f64 p) Z (ex_ld (Z.g 61 rfl) lt_float64 (by rw [Nat.mul_one]; exact (hG.below Z.toBelow).pows k p hp)) fun a Z => sv_r (v := .float .f64 z) Z (ex_quof (Z.g 57 rfl) (Z.g 62 rfl) hq) fun a Z => sv_n 2 Z rfl fun a Z => Z.nx [7, 6, 50, 22, 18, 15, 12, 0, 1] rfl fun Z => sh (wp_ret ?_)
  try simp only [Exit.inBlock, Exit.then]
  exact ret2_of_ev Z.ev rfl (Z.g 6 rfl) (Z.g 7 rfl) ⟨rfl, Z.toBelow⟩
def FloatOf1 (s : ByteArray) (z : Nat) : Prop := numB s = true ∧ ∃ k : Nat, (Rf.of s.data.toList).exp = -(k : Int) ∧ k ≤ 22 ∧ (Rf.of s.data.toList).m < 4503599627370496 ∧ (Rf.of s.data.toList).m ≠ 0 ∧ Qb (Rf.of s.data.toList).m k z
def FloatOf (s : ByteArray) (z : Nat) : Prop := FloatOf1 s z ∨ (numB s = true ∧ (Rf.of s.data.toList).m = 0 ∧ z = 0)
theorem bool2_f (w : World) : Calls Tryz.prog 136 #[.bool false] w fun e w' => e = .returned (.int .u64 0) ∧ Below w.heap.size w w' := by
 refine calls_of_ev Tryz.func136 rfl (show 1 ≤ 4 from by decide) fun a hE => ?_
 have hE : Ev 4 ((0, .bool false) :: []) a := hE
 have Z : Sv 4 ((0, .bool false) :: []) [] (fun _ => False) w a w := Sv.start hE _ _
 clear hE
 refine wr (sv_n 1 Z rfl fun a Z => Z.nx [2, 0] rfl fun Z => sh (wp_seq (wr (sv_n 1 Z rfl fun a Z => Z.nx [3, 2] rfl fun Z => sh (cond_f (Z.g 3 rfl) (wp_skip (sh ?_)))))))
 refine wr (sv_n 1 Z rfl fun a Z => Z.nx [2, 3] rfl fun Z => sh (wp_ret ?_))
 try simp only [Exit.inBlock, Exit.then]
 exact ret_of_ev Z.ev rfl (Z.g 2 rfl) ⟨rfl, Z.toBelow⟩
theorem sh0 {a : Act} {w : World} {dst : Option Nat} {ty : TypeId} {ps : String} {af : Array Edge} {gd : Option (Nat × Bool)} {x : Operand} {T T' : TypeId} (hx : a.eval x = .int .u64 0) : (execOp a.eval ⟨dst, .binOp .shl T x (.const (.int .u64 63)) T', ty, ps, af, gd⟩).run Tryz.prog w = .ok (.value (.int .u64 0)) w := by
 simp only [execOp, hx]
 go_simp
 rfl
theorem atof64_num1 (s : ByteArray) (z : Nat) (hz : FloatOf1 s z) {B : Nat} {G : Ge} (w : World) (hG : Env B G w) : Calls Tryz.prog 119 #[.string s] w fun e w' => e = .returned (.tuple #[.float .f64 z, .int .i64 (s.size : Int), .nilIface]) ∧ Below w.heap.size w w' := by
 obtain ⟨hN, k, he, hk, hm, hm0, hq⟩ := hz
 refine calls_of_ev Tryz.func119 rfl (show 1 ≤ 143 from by decide) fun a hE => ?_
 have hE : Ev 143 ((0, .string s) :: []) a := hE
 have Z : Sv 143 ((0, .string s) :: []) [] (fun _ => False) w a w := Sv.start hE _ _
 clear hE
 refine wr (sv_r (v := .float .f64 0) Z ex_ac fun a Z => sv_n 2 Z rfl fun a Z => Z.nx [4, 3, 2, 0] rfl fun Z => sh (wp_seq (wr (sv_n 1 Z rfl fun a Z => sv_callv (v := .tuple #[.float .f64 0, .int .i64 0, .bool false]) Z rfl rfl (by decide) (ex_call1 cf_istrconv_special (Z.g 27 rfl)) (special_num s hN _) fun a w1 hbw1 Z => sv_n 1 Z rfl fun a Z => sv_r (v := .float .f64 0) Z (ei_ext (Z.g 26 rfl) rfl) fun a Z => sv_n 5 Z rfl fun a Z => ?_))))
 refine Z.nx [7, 6, 5, 4, 3, 2, 0] rfl fun Z => sh (wr (sv_n 1 Z rfl fun a Z => Z.nx [32, 6, 5, 4, 3, 2, 0] rfl fun Z => sh (cond_f (Z.g 32 rfl) (wp_skip (sh (wr (sv_n 1 Z rfl fun a Z => ?_)))))))
 refine sv_callv (v := .tuple #[.int .u64 (((Rf.of s.data.toList).m : Nat) : Int), .int .i64 (-(k : Int)), .bool false, .bool false, .bool false, .int .i64 (s.size : Int), .bool true]) Z rfl rfl (by decide) (ex_call1 cf_istrconv_readFloat (Z.g 36 rfl)) (Calls.mono (readFloat_num s hN _) (by rintro e w' ⟨h1, h2⟩; rw [he] at h1; exact ⟨h1, h2⟩)) fun a w2 hbw2 Z => sv_n 15 Z rfl fun a Z => Z.nx [13, 3, 12, 11, 10, 9, 8, 32, 6, 5, 4, 2, 0] rfl fun Z => sh (wp_seq (wr (sv_n 1 Z rfl fun a Z => sv_r (v := .bool false) Z (ex_not (Z.g 45 rfl)) fun a Z => Z.nx [46, 3, 12, 11, 10, 9, 8, 32, 6, 5, 4, 2, 0] rfl fun Z => sh (cond_f (Z.g 46 rfl) (wp_skip ?_)))))
 refine sh (wp_seq (wr (sv_n 1 Z rfl fun a Z => Z.nx [49, 46, 3, 11, 10, 9, 8, 32, 6, 5, 4, 2, 0] rfl fun Z => sh (cond_f (Z.g 49 rfl) (wp_skip (sh (wp_seq (wr (sv_r (v := .bool true) Z (ex_ldg lt_bool (hG.below Z.toBelow).opt) fun a Z => ?_)))))))))
 refine Z.nx [64, 49, 46, 3, 11, 10, 9, 8, 32, 6, 5, 4, 2, 0] rfl fun Z => sh (cond_t (Z.g 64 rfl) (wr (sv_n 1 Z rfl fun a Z => sv_callv (v := .int .u64 0) Z rfl rfl (by decide) (ex_call1 cf_istrconv_bool2_uint64 (Z.g 65 rfl)) (bool2_f _) fun a w3 hbw3 Z => sv_r (v := .int .u64 0) Z (sh0 (Z.g 66 rfl)) fun a Z => sv_n 1 Z rfl fun a Z => Z.nx [16, 64, 49, 46, 3, 11, 10, 9, 8, 32, 6, 5, 4, 2, 0] rfl fun Z => sh (wp_seq (wr ?_)))))
 refine sv_n 1 Z rfl fun a Z => ?_
 refine sv_r (v := .bool false) Z (ei_eql (Z.g 68 rfl) rfl (by rw [decide_eq_false_iff_not]; omega)) fun a Z => Z.nx [69, 16, 64, 49, 46, 3, 11, 10, 9, 8, 32, 6, 5, 4, 2, 0] rfl fun Z => sh (cond_f (Z.g 69 rfl) (wp_skip (sh (wp_seq (wr (sv_n 1 Z rfl fun a Z => ?_))))))
 refine sv_r (v := .bool false) Z (ei_gtr (Z.g 74 rfl) rfl (by rw [decide_eq_false_iff_not]; omega)) fun a Z => Z.nx [75, 69, 16, 64, 49, 46, 3, 11, 10, 9, 8, 32, 6, 5, 4, 2, 0] rfl fun Z => sh (cond_f (Z.g 75 rfl) (wp_skip (sh (wp_seq (wr (sv_n 1 Z rfl fun a Z => ?_))))))
 refine sv_r (v := .bool false) Z (ei_lss (Z.g 81 rfl) rfl (by rw [decide_eq_false_iff_not]; omega)) fun a Z => Z.nx [82, 75, 69, 16, 64, 49, 46, 3, 11, 10, 9, 8, 32, 6, 5, 4, 2, 0] rfl fun Z => sh (cond_f (Z.g 82 rfl) (wp_skip (sh (wp_seq (wr (sv_n 1 Z rfl fun a Z => sv_r (v := .bool true) Z (ex_not (Z.g 87 rfl)) fun a Z => Z.nx [88, 82, 75, 69, 16, 64, 49, 46, 3, 11, 10, 9, 8, 32, 6, 5, 4, 2, 0] rfl fun Z => sh ?_))))))
 refine cond_t (Z.g 88 rfl) (wr (sv_n 3 Z rfl fun a Z => sv_callv (v := .tuple #[.float .f64 z, .bool true]) Z rfl rfl (by decide) (ex_call3 cf_istrconv_atof64exact (Z.g 90 rfl) (Z.g 91 rfl) (Z.g 92 rfl)) (atofexact_any _ k z hm hq _ (hG.below Z.toBelow)) fun a w4 hbw4 Z => sv_n 1 Z rfl fun a Z => sv_r (v := .float .f64 (z)) Z (ei_ext (Z.g 89 rfl) rfl) fun a Z => sv_n 3 Z rfl fun a Z => Z.nx [18, 17, 88, 82, 75, 69, 16, 64, 49, 46, 3, 11, 10, 9, 8, 32, 6, 5, 4, 2, 0] rfl fun Z => sh (wr (sv_n 1 Z rfl fun a Z => Z.nx [96, 17, 88, 82, 75, 69, 16, 64, 49, 46, 3, 11, 10, 9, 8, 32, 6, 5, 4, 2, 0] rfl fun Z => ?_))))
 refine sh (cond_t (Z.g 96 rfl) (wr (sv_n 5 Z rfl fun a Z => Z.nx [4, 3, 2, 96, 88, 82, 75, 69, 16, 64, 49, 46, 11, 10, 9, 8, 32, 6, 5, 0] rfl fun Z => sh (wp_ret ?_))))
 try simp only [Exit.inBlock, Exit.then]
 exact ret3_of_ev Z.ev rfl (Z.g 2 rfl) (Z.g 3 rfl) (Z.g 4 rfl) ⟨rfl, Z.toBelow⟩
theorem run_from0 (w : World) : (callFunc 137 #[.int .u64 0]).run Tryz.prog w = .ok (.value (.float .f64 0)) w := by
 rw [run_callFunc_extern Tryz.func137 (by kernel_rfl) (by kernel_rfl) (by kernel_rfl) (e := Go.Extern.MathFloatBits.float64frombits) (by kernel_rfl)]
 rfl
theorem atof64_zero (s : ByteArray) (hN : numB s = true) (hm : (Rf.of s.data.toList).m = 0) {B : Nat} {G : Ge} (w : World) (hG : Env B G w) : Calls Tryz.prog 119 #[.string s] w fun e w' => e = .returned (.tuple #[.float .f64 0, .int .i64 (s.size : Int), .nilIface]) ∧ Below w.heap.size w w' := by
 refine calls_of_ev Tryz.func119 rfl (show 1 ≤ 143 from by decide) fun a hE => ?_
 have hE : Ev 143 ((0, .string s) :: []) a := hE
 have Z : Sv 143 ((0, .string s) :: []) [] (fun _ => False) w a w := Sv.start hE _ _
 clear hE
 refine wr (sv_r (v := .float .f64 0) Z ex_ac fun a Z => sv_n 2 Z rfl fun a Z => Z.nx [4, 3, 2, 0] rfl fun Z => sh (wp_seq (wr (sv_n 1 Z rfl fun a Z => sv_callv (v := .tuple #[.float .f64 0, .int .i64 0, .bool false]) Z rfl rfl (by decide) (ex_call1 cf_istrconv_special (Z.g 27 rfl)) (special_num s hN _) fun a w1 hbw1 Z => sv_n 1 Z rfl fun a Z => sv_r (v := .float .f64 0) Z (ei_ext (Z.g 26 rfl) rfl) fun a Z => sv_n 5 Z rfl fun a Z => ?_))))
 refine Z.nx [7, 6, 5, 4, 3, 2, 0] rfl fun Z => sh (wr (sv_n 1 Z rfl fun a Z => Z.nx [32, 6, 5, 4, 3, 2, 0] rfl fun Z => sh (cond_f (Z.g 32 rfl) (wp_skip (sh (wr (sv_n 1 Z rfl fun a Z => ?_)))))))
 refine sv_callv (v := .tuple #[.int .u64 0, .int .i64 0, .bool false, .bool false, .bool false, .int .i64 (s.size : Int), .bool true]) Z rfl rfl (by decide) (ex_call1 cf_istrconv_readFloat (Z.g 36 rfl)) (Calls.mono (readFloat_num s hN _) (by rintro e w' ⟨h1, h2⟩; rw [hm, show (Rf.of s.data.toList).exp = 0 from by unfold Rf.exp; rw [if_neg (by rw [hm]; exact fun h => h rfl)]] at h1; exact ⟨h1, h2⟩)) fun a w2 hbw2 Z => sv_n 15 Z rfl fun a Z => Z.nx [13, 3, 12, 11, 10, 9, 8, 32, 6, 5, 4, 2, 0] rfl fun Z => sh (wp_seq (wr (sv_n 1 Z rfl fun a Z => sv_r (v := .bool false) Z (ex_not (Z.g 45 rfl)) fun a Z => Z.nx [46, 3, 12, 11, 10, 9, 8, 32, 6, 5, 4, 2, 0] rfl fun Z => sh (cond_f (Z.g 46 rfl) (wp_skip ?_)))))
 refine sh (wp_seq (wr (sv_n 1 Z rfl fun a Z => Z.nx [49, 46, 3, 11, 10, 9, 8, 32, 6, 5, 4, 2, 0] rfl fun Z => sh (cond_f (Z.g 49 rfl) (wp_skip (sh (wp_seq (wr (sv_r (v := .bool true) Z (ex_ldg lt_bool (hG.below Z.toBelow).opt) fun a Z => ?_)))))))))
 refine Z.nx [64, 49, 46, 3, 11, 10, 9, 8, 32, 6, 5, 4, 2, 0] rfl fun Z => sh (cond_t (Z.g 64 rfl) (wr (sv_n 1 Z rfl fun a Z => sv_callv (v := .int .u64 0) Z rfl rfl (by decide) (ex_call1 cf_istrconv_bool2_uint64 (Z.g 65 rfl)) (bool2_f _) fun a w3 hbw3 Z => sv_r (v := .int .u64 0) Z (sh0 (Z.g 66 rfl)) fun a Z => sv_n 1 Z rfl fun a Z => Z.nx [16, 64, 49, 46, 3, 11, 10, 9, 8, 32, 6, 5, 4, 2, 0] rfl fun Z => sh (wp_seq (wr ?_)))))
 refine sv_n 1 Z rfl fun a Z => sv_r (v := .bool true) Z (ei_eql (Z.g 68 rfl) rfl (by decide)) fun a Z => Z.nx [69, 16, 64, 49, 46, 3, 11, 10, 9, 8, 32, 6, 5, 4, 2, 0] rfl fun Z => sh (cond_t (Z.g 69 rfl) (wr (sv_n 1 Z rfl fun a Z => sv_r (v := .int .u64 0) Z (ei_or (Z.g 70 rfl) rfl (by decide)) fun a Z => ?_)))
 refine sv_r (v := .float .f64 0) Z (by simp only [execOp, resolve, List.map_toArray, List.map_cons, List.map_nil, Z.g 71 rfl]; first | exact run_from0 _ | (have h := run_from0 w3; go_simp; exact h)) fun a Z => sv_n 4 Z rfl fun a Z => Z.nx [4, 3, 2, 69, 16, 64, 49, 46, 11, 10, 9, 8, 32, 6, 5, 0] rfl fun Z => sh (wp_ret ?_)
 try simp only [Exit.inBlock, Exit.then]
 exact ret3_of_ev Z.ev rfl (Z.g 2 rfl) (Z.g 3 rfl) (Z.g 4 rfl) ⟨rfl, Z.toBelow⟩
theorem atof64_num (s : ByteArray) (z : Nat) (hz : FloatOf s z) {B : Nat} {G : Ge} (w : World) (hG : Env B G w) : Calls Tryz.prog 119 #[.string s] w fun e w' => e = .returned (.tuple #[.float .f64 z, .int .i64 (s.size : Int), .nilIface]) ∧ Below w.heap.size w w' := by
 rcases hz with hz | ⟨hN, hm, rfl⟩
 ·exact atof64_num1 s z hz w hG
 ·exact atof64_zero s hN hm w hG
theorem FloatOf.numB {s : ByteArray} {z : Nat} (h : FloatOf s z) : numB s = true := h.elim (fun h => h.1) (fun h => h.1)
theorem pfPrefix_num (s : ByteArray) (z : Nat) (hz : FloatOf s z) {B : Nat} {G : Ge} (w : World) (hG : Env B G w) : Calls Tryz.prog 104 #[.string s, .int .i64 64] w fun e w' => e = .returned (.tuple #[.float .f64 (z), .int .i64 ((s.size : Nat) : Int), .nilIface]) ∧ Below w.heap.size w w' := by
 refine calls_of_ev Tryz.func104 rfl (show 2 ≤ 27 from by decide) fun a hE => ?_
 have hE : Ev 27 ((0, .string s) :: (1, .int .i64 64) :: []) a := hE
 have Z : Sv 27 ((0, .string s) :: (1, .int .i64 64) :: []) [] (fun _ => False) w a w := Sv.start hE _ _
 clear hE
 refine wr (sv_r (v := .float .f64 0) Z ex_ac fun a Z => sv_n 2 Z rfl fun a Z => Z.nx [6, 5, 4, 0, 1] rfl fun Z => sh (wp_seq (wr (sv_n 1 Z rfl fun a Z => sv_r (v := .bool false) Z (ei_eql (Z.g 10 rfl) rfl (by decide)) fun a Z => Z.nx [11, 6, 5, 4, 0] rfl fun Z => sh (cond_f (Z.g 11 rfl) ?_)))))
 refine wp_skip (sh (wr (sv_n 1 Z rfl fun a Z => sv_callv (v := .tuple #[.float .f64 (z), .int .i64 ((s.size : Nat) : Int), .nilIface]) Z rfl rfl (by decide) (ex_call1 cf_istrconv_atof64 (Z.g 22 rfl)) (atof64_num s z hz _ (hG.below Z.toBelow)) fun a w1 hbw1 Z => sv_r (v := .float .f64 (z)) Z (ei_ext (Z.g 23 rfl) rfl) fun a Z => sv_n 5 Z rfl fun a Z => Z.nx [6, 5, 4, 11, 0] rfl fun Z => sh (wp_ret ?_))))
 try simp only [Exit.inBlock, Exit.then]
 exact ret3_of_ev Z.ev rfl (Z.g 4 rfl) (Z.g 5 rfl) (Z.g 6 rfl) ⟨rfl, Z.toBelow⟩
theorem iParseFloat_num (s : ByteArray) (z : Nat) (hz : FloatOf s z) {B : Nat} {G : Ge} (w : World) (hG : Env B G w) : Calls Tryz.prog 84 #[.string s, .int .i64 64] w fun e w' => e = .returned (.tuple #[.float .f64 (z), .nilIface]) ∧ Below w.heap.size w w' := by
 refine calls_of_ev Tryz.func84 rfl (show 2 ≤ 23 from by decide) fun a hE => ?_
 have hE : Ev 23 ((0, .string s) :: (1, .int .i64 64) :: []) a := hE
 have Z : Sv 23 ((0, .string s) :: (1, .int .i64 64) :: []) [] (fun _ => False) w a w := Sv.start hE _ _
 clear hE
 refine wr (sv_r (v := .float .f64 0) Z ex_ac fun a Z => sv_n 1 Z rfl fun a Z => Z.nx [5, 4, 0, 1] rfl fun Z => sh (wr (sv_n 2 Z rfl fun a Z => sv_callv (v := .tuple #[.float .f64 (z), .int .i64 ((s.size : Nat) : Int), .nilIface]) Z rfl rfl (by decide) (ex_call2 cf_istrconv_parseFloatPrefix (Z.g 10 rfl) (Z.g 11 rfl)) (pfPrefix_num s z hz _ (hG.below Z.toBelow)) fun a w1 hbw1 Z => sv_n 1 Z rfl fun a Z => sv_r (v := .float .f64 (z)) Z (ei_ext (Z.g 9 rfl) rfl) fun a Z => sv_n 5 Z rfl fun a Z => Z.nx [8, 7, 6, 5, 4, 0] rfl fun Z => ?_)))
 refine sh (wp_seq (wr (sv_n 2 Z rfl fun a Z => sv_r (v := .int .i64 ((s.size : Nat) : Int)) Z (ex_slen (ats := #[]) (Z.g 17 rfl)) fun a Z => ?_)))
 refine sv_r (v := .bool false) Z (ei_neq (Z.g 16 rfl) (Z.g 18 rfl) (by simp)) fun a Z => Z.nx [19, 8, 6, 5, 4, 0] rfl fun Z => sh (cond_f (Z.g 19 rfl) (wp_skip (sh (wr (sv_n 4 Z rfl fun a Z => Z.nx [5, 4, 19, 0] rfl fun Z => sh (wp_ret ?_))))))
 try simp only [Exit.inBlock, Exit.then]
 exact ret2_of_ev Z.ev rfl (Z.g 4 rfl) (Z.g 5 rfl) ⟨rfl, Z.toBelow⟩
theorem parseFloat_num (s : ByteArray) (z : Nat) (hz : FloatOf s z) {B : Nat} {G : Ge} (w : World) (hG : Env B G w) : Calls Tryz.prog 60 #[.string s, .int .i64 64] w fun e w' => e = .returned (.tuple #[.float .f64 z, .nilIface]) ∧ Below w.heap.size w w' := by
 refine calls_of_ev Tryz.func60 rfl (show 2 ≤ 22 from by decide) fun a hE => ?_
 have hE : Ev 22 ((0, .string s) :: (1, .int .i64 64) :: []) a := hE
 have Z : Sv 22 ((0, .string s) :: (1, .int .i64 64) :: []) [] (fun _ => False) w a w := Sv.start hE _ _
 clear hE
 refine wr (sv_r (v := .float .f64 0) Z ex_ac fun a Z => sv_n 1 Z rfl fun a Z => Z.nx [5, 4, 0, 1] rfl fun Z => sh (wr (sv_n 2 Z rfl fun a Z => sv_callv (v := .tuple #[.float .f64 z, .nilIface]) Z rfl rfl (by decide) (ex_call2 cf_istrconv_ParseFloat (Z.g 9 rfl) (Z.g 10 rfl)) (iParseFloat_num s z hz _ (hG.below Z.toBelow)) fun a w1 hbw1 Z => sv_n 1 Z rfl fun a Z => sv_r (v := .float .f64 (z)) Z (ei_ext (Z.g 8 rfl) rfl) fun a Z => sv_n 3 Z rfl fun a Z => Z.nx [7, 6, 5, 4, 0, 1] rfl fun Z => ?_)))
 refine sh (wp_seq (wr (sv_n 1 Z rfl fun a Z => sv_r (v := .bool false) Z (ex_ine eqi_error (Z.g 14 rfl)) fun a Z => Z.nx [15, 7, 6, 5, 4, 0, 1] rfl fun Z => sh (cond_f (Z.g 15 rfl) (wp_skip (sh (wr (sv_n 3 Z rfl fun a Z => ?_))))))))
 refine Z.nx [5, 4, 15, 7, 6, 0, 1] rfl fun Z => sh (wp_ret ?_)
 try simp only [Exit.inBlock, Exit.then]
 exact ret2_of_ev Z.ev rfl (Z.g 4 rfl) (Z.g 5 rfl) ⟨rfl, Z.toBelow⟩
def pms : ByteArray := ⟨#[43, 45]⟩
theorem ext_self (s : ByteArray) : s.extract 0 s.size = s := ba_eq (by simp [ByteArray.data_extract])
theorem ext_zero (s : ByteArray) : s.extract 0 0 = (⟨#[]⟩ : ByteArray) := ba_eq (by simp [ByteArray.data_extract])
theorem ext_end (s : ByteArray) : s.extract s.size s.size = (⟨#[]⟩ : ByteArray) := ba_eq (by simp [ByteArray.data_extract])
theorem nil_app (s : ByteArray) : (⟨#[]⟩ : ByteArray) ++ s = s := ba_eq (by simp)
theorem token_none (s chars : ByteArray) (hs : s.size ≤ 1000000000) (hc : chars.size ≤ 1000000000) (hb : ∀ h : 0 < s.size, (s[0]'h).toNat ≠ 32 ∧ (s[0]'h).toNat ≠ 9) (hr : runN (inS chars) s = 0) (w : World) : Calls Tryz.prog 88 #[.string s, .string chars] w fun e w' => e = .returned (.tuple #[.string ⟨#[]⟩, .string s]) ∧ Below w.heap.size w w' := by
 have h := zzToken_any s chars hs hc hb w
 rw [hr, ext_zero, ext_self] at h; exact h
theorem digits_all (s : ByteArray) (hs : s.size ≤ 1000000000) (hr : runN isD s = s.size) (w : World) : Calls Tryz.prog 89 #[.string s] w fun e w' => e = .returned (.tuple #[.string s, .string ⟨#[]⟩]) ∧ Below w.heap.size w w' := by
 have h := zzDigitsOf_any s hs w
 rw [hr, ext_end, ext_self] at h; exact h
theorem zzFloat_ok (s : ByteArray) (z old : Nat) (hs : s.size ≤ 1000000000) (hb : ∀ h : 0 < s.size, (s[0]'h).toNat ≠ 32 ∧ (s[0]'h).toNat ≠ 9) (hr : runN (inS pms) s = 0) (hd : runN isD s = s.size) (hz : FloatOf s z) {B : Nat} {G : Ge} (w : World) (hG : Env B G w) : Calls Tryz.prog 69 #[.string s, .float .f64 old] w fun e w' => e = .returned (.tuple #[.float .f64 z, .nilIface]) ∧ Below w.heap.size w w' := by
 refine calls_of_ev Tryz.func69 rfl (show 2 ≤ 105 from by decide) fun a hE => ?_
 have hE : Ev 105 ((0, .string s) :: (1, .float .f64 (old)) :: []) a := hE
 have Z : Sv 105 ((0, .string s) :: (1, .float .f64 (old)) :: []) [] (fun _ => False) w a w := Sv.start hE _ _
 clear hE
 refine wr (sv_r (v := .float .f64 0) Z ex_ac fun a Z => sv_n 1 Z rfl fun a Z => Z.nx [5, 4, 0, 1] rfl fun Z => sh (wr (sv_n 1 Z rfl fun a Z => sv_callv (v := .tuple #[.string (⟨#[]⟩), .string s]) Z rfl rfl (by decide) (ex_call2 cf_m3u8_zzToken (Z.g 12 rfl) rfl) (token_none s pms hs (by decide) hb hr _) fun a w1 hbw1 Z => sv_n 1 Z rfl fun a Z => sv_r (v := .string (⟨#[]⟩)) Z (ei_ext (Z.g 11 rfl) rfl) fun a Z => sv_n 3 Z rfl fun a Z => Z.nx [7, 6, 5, 4, 1] rfl fun Z => ?_)))
 refine sh (wp_seq (wr (sv_n 1 Z rfl fun a Z => sv_r (v := .int .i64 0) Z (ex_slen (ats := #[]) (Z.g 16 rfl)) fun a Z => sv_r (v := .bool false) Z (ei_gtr (Z.g 17 rfl) rfl (by decide)) fun a Z => Z.nx [18, 7, 6, 5, 4, 1] rfl fun Z => sh (cond_f (Z.g 18 rfl) (wp_skip (sh (wr ?_)))))))
 refine sv_n 1 Z rfl fun a Z => sv_callv (v := .tuple #[.string s, .string (⟨#[]⟩)]) Z rfl rfl (by decide) (ex_call1 cf_m3u8_zzDigitsOf (Z.g 26 rfl)) (digits_all s hs hd _) fun a w2 hbw2 Z => sv_n 2 Z rfl fun a Z => sv_r (v := .string (⟨#[]⟩)) Z (ei_ext (Z.g 25 rfl) rfl) fun a Z => sv_n 2 Z rfl fun a Z => Z.nx [7, 8, 18, 6, 5, 4, 1] rfl fun Z => sh (wr (sv_n 2 Z rfl fun a Z => ?_))
 refine sv_r (v := .string ((⟨#[]⟩ : ByteArray) ++ s)) Z (ex_add (Z.g 30 rfl) (Z.g 31 rfl) (by have h0 : (⟨#[]⟩ : ByteArray).size = 0 := rfl; omega)) fun a Z => sv_n 1 Z rfl fun a Z => Z.nx [6, 7, 8, 18, 5, 4, 1] rfl fun Z => sh (wp_seq (wr (sv_n 1 Z rfl fun a Z => sv_r (v := .int .i64 0) Z (ex_slen (ats := #[]) (Z.g 33 rfl)) fun a Z => sv_r (v := .bool false) Z (ei_gtr (Z.g 34 rfl) rfl (by decide)) fun a Z => sv_n 5 Z rfl fun a Z => Z.nx [40, 6, 7, 8, 18, 5, 4, 1] rfl fun Z => sh ?_)))
 refine cond_f (Z.g 40 rfl) (wp_skip (sh (wp_seq (wr (sv_n 1 Z rfl fun a Z => sv_r (v := .int .i64 0) Z (ex_slen (ats := #[]) (Z.g 51 rfl)) fun a Z => sv_r (v := .bool false) Z (ei_gtr (Z.g 52 rfl) rfl (by decide)) fun a Z => sv_n 5 Z rfl fun a Z => sv_goffu Z rfl rfl (Z.g 58 rfl) rfl (by decide) fun a Z => sv_goffu Z rfl rfl (Z.g 58 rfl) rfl (by decide) fun a Z => sv_goffu Z rfl rfl (Z.g 58 rfl) rfl (by decide) fun a Z => ?_)))))
 refine sv_n 2 Z rfl fun a Z => Z.nx [63, 40, 6, 7, 8, 18, 5, 4, 1] rfl fun Z => sh (cond_f (Z.g 63 rfl) (wp_skip (sh (wr (sv_n 1 Z rfl fun a Z => ?_)))))
 refine sv_callv (v := .tuple #[.float .f64 (z), .nilIface]) Z rfl rfl (by decide) (ex_call2 cf_strconv_ParseFloat (Z.g 96 rfl) rfl) (by rw [nil_app]; exact parseFloat_num s z hz _ (hG.below Z.toBelow)) fun a w3 hbw3 Z => sv_n 1 Z rfl fun a Z => sv_r (v := .float .f64 (z)) Z (ei_ext (Z.g 95 rfl) rfl) fun a Z => sv_n 3 Z rfl fun a Z => Z.nx [10, 9, 63, 40, 6, 7, 8, 18, 5, 4, 1] rfl fun Z => sh (wp_seq (wr (sv_n 1 Z rfl fun a Z => sv_r (v := .bool false) Z (ex_ine eqi_error (Z.g 100 rfl)) fun a Z => Z.nx [101, 10, 9, 63, 40, 6, 7, 8, 18, 5, 4, 1] rfl fun Z => sh ?_)))
 refine cond_f (Z.g 101 rfl) (wp_skip (sh (wr (sv_n 3 Z rfl fun a Z => Z.nx [5, 4, 101, 10, 63, 40, 6, 7, 8, 18, 1] rfl fun Z => sh (wp_ret ?_)))))
 try simp only [Exit.inBlock, Exit.then]
 exact ret2_of_ev Z.ev rfl (Z.g 4 rfl) (Z.g 5 rfl) ⟨rfl, Z.toBelow⟩
def bsl (g l h c : Nat) : Value := .slice (some (if c = l then ⟨g, 0, none⟩ else ⟨g, l, none⟩)) (h - l) (c - l)
theorem bsl_ne {g l h c : Nat} (hc : c ≠ l) : bsl g l h c = .slice (some ⟨g, l, none⟩) (h - l) (c - l) := by unfold bsl; rw [if_neg hc]
theorem addr_add (g i : Nat) : (⟨g, 0, none⟩ : Addr).add i = ⟨g, i, none⟩ := by unfold Addr.add; split <;> simp_all
theorem sliced_bsl (g l h c : Nat) : sliced (some ⟨g, 0, none⟩) l h c 1 = bsl g l h c := by
 unfold sliced bsl
 split
 ·rfl
 ·simp only [Option.map_some, Nat.mul_one, addr_add]
section
variable {N : Nat} {l : List (Nat × Value)} {m : List Bk} {M : Nat → Prop} {w0 w w' : World} {a : Act} {ops : Array Oper} {rest : List Oper} {o : Oper} {Q : Exit → Act → World → Prop} {d : Nat} {v u : Value} {x y z : Operand} {dst : Option Nat} {T ty : TypeId} {ps : String} {af : Array Edge} {gd : Option (Nat × Bool)}
theorem ex_bl {E g n c i : Nat} {k : IntKind} (hu : Tryz.prog.underlying T = some (.slice E)) (hz : ∀ w, (sizeOf E).run Tryz.prog w = .ok 1 w) (hx : a.eval x = .slice (some ⟨g, 0, none⟩) n c) (hy : a.eval y = .int k i) (hc : i ≤ n) :
  (execOp a.eval ⟨dst, .slice T x (some y) none none, ty, ps, af, gd⟩).run Tryz.prog w = .ok (.value (bsl g i n c)) w := by
 have he : Tryz.prog.elem T = E := by simp [Program.elem, hu]
 have hu' : Tryz.prog.underlying T = some (.slice (Tryz.prog.elem T)) := by rw [he]; exact hu
 have h1 := run_slice_l (P := Tryz.prog) w T (some ⟨g, 0, none⟩) n c hu' k (i : Int) (by omega) (by omega)
 rw [he, hz] at h1
 have h2 : (Instr.sliceAt T (.slice (some ⟨g, 0, none⟩) n c) (some (.int k (i : Int))) none none).run Tryz.prog w = .ok (bsl g i n c) w := by
  rw [run_sliceAt_slice (h := hu'), h1]
  simp only [Result.andThen, Int.toNat_natCast, sliced_bsl]
 simp only [execOp, hx, hy, Option.map_some, Option.map_none]
 exact run_andValue h2
theorem ex_blh {E g n c i j : Nat} {k k' : IntKind} (hu : Tryz.prog.underlying T = some (.slice E)) (hz : ∀ w, (sizeOf E).run Tryz.prog w = .ok 1 w) (hx : a.eval x = .slice (some ⟨g, 0, none⟩) n c) (hy : a.eval y = .int k i) (hy2 : a.eval z = .int k' j) (hi : i ≤ j) (hc : j ≤ c) :
  (execOp a.eval ⟨dst, .slice T x (some y) (some z) none, ty, ps, af, gd⟩).run Tryz.prog w = .ok (.value (bsl g i j c)) w := by
 have he : Tryz.prog.elem T = E := by simp [Program.elem, hu]
 have hu' : Tryz.prog.underlying T = some (.slice (Tryz.prog.elem T)) := by rw [he]; exact hu
 have h1 := run_slice_lh (P := Tryz.prog) w T (some ⟨g, 0, none⟩) n c hu' k k' (i : Int) (j : Int) (by omega) (by omega) (by omega)
 rw [he, hz] at h1
 have h2 : (Instr.sliceAt T (.slice (some ⟨g, 0, none⟩) n c) (some (.int k (i : Int))) (some (.int k' (j : Int))) none).run Tryz.prog w = .ok (bsl g i j c) w := by
  rw [run_sliceAt_slice (h := hu'), h1]
  simp only [Result.andThen, Int.toNat_natCast, sliced_bsl]
 simp only [execOp, hx, hy, hy2, Option.map_some, Option.map_none]
 exact run_andValue h2
theorem ex_cap {A : Option Addr} {E n c : Nat} (hu : Tryz.prog.underlying T = some (.slice E)) (hx : a.eval x = .slice A n c) : (execOp a.eval ⟨dst, .call { callee := .builtin .cap, args := #[x], argTypes := #[T] }, ty, ps, af, gd⟩).run Tryz.prog w = .ok (.value (.int .i64 c)) w := by
 simp only [execOp, resolve, List.map_toArray, List.map_cons, List.map_nil, hx]
 go_simp
theorem ex_lenS {A : Option Addr} {E n c : Nat} (hu : Tryz.prog.underlying T = some (.slice E)) (hx : a.eval x = .slice A n c) : (execOp a.eval ⟨dst, .call { callee := .builtin .len, args := #[x], argTypes := #[T] }, ty, ps, af, gd⟩).run Tryz.prog w = .ok (.value (.int .i64 n)) w := by
 simp only [execOp, resolve, List.map_toArray, List.map_cons, List.map_nil, hx]
 go_simp
theorem sv_callo {X : Nat → Prop} {f : FuncId} {args : Array Value} {S : Value → World → Prop} (h : Sv N l m M w0 a w) (hg : o.guard = none) (hd : o.dst = some d) (hdN : d < N) (hr : (execOp a.eval o).run Tryz.prog w = .ok (.enter f args) w) (hc : Calls Tryz.prog f args w fun e w' => ∃ v, e = .returned v ∧ Only X w w' ∧ S v w')
  (hX : ∀ b ∈ m, ¬ X b.g) (hM : ∀ g, X g → g < w0.heap.size → M g)
  (hK : ∀ a' v w', S v w' → Only X w w' → Sv N ((d, v) :: l) m M w0 a' w' → wpList Tryz.prog ops Q rest a' w') : wpList Tryz.prog ops Q (o :: rest) a w :=
 ev_call (S := fun v w' => Only X w w' ∧ S v w') h.ev hg hd hdN hr hc fun a' v w' Z h' => hK a' v w' Z.2 Z.1 ((h.slot h').go Z.1 hX hM)
theorem only_setRow (w : World) (g : Nat) (arr : Array Value) : Only (fun x => x = g) w (w.setRow g arr) := ⟨rfl, rfl, rfl, by simp, fun k _ hk => setRow_other _ _ _ _ hk⟩
theorem sv_copy {g i k L C n c : Nat} {p : Addr} {E e : TypeId} {cur new : Array Value} {cs : List Value} {m' : List Bk} (h : Sv N l m M w0 a w) (hg : o.guard = none) (hd : o.dst = some d) (hdN : d < N) (ho : o.op = .call { callee := .builtin .copy, args := #[x, y], argTypes := #[T, T] })
  (hx : a.eval x = .slice (some ⟨g, k, none⟩) L C) (hy : a.eval y = .slice (some p) n c) (hu : Tryz.prog.underlying T = some (.slice E)) (hs : (Tryz.prog.info? E).map (·.size) = some 1) (hb : m[i]? = some ⟨g, cur, e, true⟩)
  (hn : cs.length = min n L) (hsrc : ∀ j v, cs[j]? = some v → w.cell? (p.add j) = some v) (hfit : k + cs.length ≤ cur.size) (h1 : ∀ v ∈ cs, v.oneCell' = true) (hnew : (cur.toList.take k ++ cs ++ cur.toList.drop (k + cs.length)).toArray = new) (hm : m.set i ⟨g, new, e, true⟩ = m')
  (hK : ∀ a' w', Only (fun q => q = g) w w' → Sv N ((d, .int .i64 (cs.length : Nat)) :: l) m' M w0 a' w' → wpList Tryz.prog ops Q rest a' w') : wpList Tryz.prog ops Q (o :: rest) a w := by
 subst hnew
 have hgc := h.at i hb
 have hr := run_copy_row (P := Tryz.prog) (ty := o.type) w T T E g k L C p n c cur e cs hu hs hgc hn hsrc hfit h1
 have hO := only_setRow w g (cur.toList.take k ++ cs ++ cur.toList.drop (k + cs.length)).toArray
 have Z : Sv N l m' M w0 a _ := h.put hb hm (setRow_heap w g cur _ e (0, 0) hgc) hO (fun b _ hne hX => hne hX) (fun g' hX hlt => by
  subst hX
  rcases h.wr _ (List.mem_of_getElem? hb) rfl with h2 | h2
  ·exact h2
  ·exact absurd hlt (Nat.not_lt.2 h2))
 have hrun : (execOp a.eval o).run Tryz.prog w = .ok (.value (.int .i64 (cs.length : Nat))) (w.setRow g (cur.toList.take k ++ cs ++ cur.toList.drop (k + cs.length)).toArray) := by
  unfold execOp
  simp only [ho, resolve, invoke, builtin, Sem.run_bind, Sem.run_pure, Result.andThen_ok, List.map_toArray, List.map_cons, List.map_nil, hx, hy, hr]
  rfl
 exact ev_run h.ev hg hd hdN hrun fun a' h' => hK _ _ hO (Z.slot h')
end
namespace G2
section
variable {ops : Array Oper} {a0 a : Act} {w w0 w1 : World} {Φ : Nat → Value → World → Prop} {N i : Nat} {l : List (Nat × Value)} {m : List Bk} {M : Nat → Prop}
theorem sv_ogc (h : Sv N l m M w0 a0 w) (c : OgCtx ops a0 w.drew (fun _ _ => False) Φ i a w1) : Sv N [] m M w0 a w1 := (h.empty c.size c.defers).below (drew_below c.only)
theorem sv_oge (h : Sv N l m M w0 a0 w) (c : OgEnd ops a0 w.drew (fun _ _ => False) Φ a w1) : Sv N [] m M w0 a w1 := (h.empty c.size c.defers).below (drew_below c.only)
theorem OgEnd.outG {E : Nat → Nat → Prop} (c : OgEnd ops a0 w E Φ a w1) {t : Nat} {v : Value} (h : (ops.toList.all fun o => o.dst != some t) = true) (hv : a0.eval (.tmp t) = v) : a.eval (.tmp t) = v := by
 have := c.out t (fun j o ho hd => by
  rw [List.all_eq_true] at h
  have h1 := h o (by have := Array.mem_of_getElem? ho; simpa using this)
  simp [hd] at h1)
 rw [← hv]
 simp only [Act.eval, Array.getD_eq_getD_getElem?, this]
end
end G2
theorem lt_error : Ld 58 := by intro w p v h; go_simp
namespace G2
section
variable {ops : Array Oper} {a0 : Act} {w0 w00 w : World} {E : Nat → Nat → Prop} {Φ : Nat → Value → World → Prop} {i j t N B k : Nat} {Q : Exit → Act → World → Prop} {dst : Option Nat} {ty : TypeId} {ps : String} {af : Array Edge} {v : Value} {l : List (Nat × Value)} {m : List Bk} {M : Nat → Prop} {As : List Asr}
theorem OgCtx.o {a : Act} (c : OgCtx ops a0 w0 E Φ i a w) (hv : a0.eval (.tmp t) = v) (h : ogOut ops i t = true := by decide +kernel) : a.eval (.tmp t) = v := c.outE h hv
theorem OgCtx.s {a : Act} (c : OgCtx ops a0 w0 E Φ i a w) (j : Nat) {o : Oper} (hj : ops[j]? = some o) (h : ahead ops i j = true := by decide +kernel) : Φ j (slotOf a o) w := c.slot j o h hj
theorem OgCtx.e {a : Act} (c : OgCtx ops a0 w0 E (asrAt As B) i a w) {j : Nat} (hd : (ops[j]?).bind (·.dst) = some t) (hA : As[j]? = some (.eq v)) (h : ahead ops i j = true) : a.eval (.tmp t) = v := by
 cases ho : ops[j]? with
 | none => rw [ho] at hd; cases hd
 | some o =>
  rw [ho] at hd
  have hd : o.dst = some t := hd
  have := c.slot j o h ho
  unfold asrAt slotOf at this
  rw [hA, hd] at this
  exact this
theorem asr_eq (hA : As[i]? = some (.eq v)) : asrAt As B i v w := by unfold asrAt; rw [hA]; rfl
theorem qm (hv : a0.eval (.tmp t) = v) (hi : As[i]? = some (.eq v) := by rfl) (h : ogOut ops i t = true := by decide +kernel) : ∀ a w, OgCtx ops a0 w0 E (asrAt As B) i a w → Oper.wp Tryz.prog ⟨dst, .move (.tmp t), ty, ps, af, none⟩ a w (OgPost E (asrAt As B) i ⟨dst, .move (.tmp t), ty, ps, af, none⟩ a w) Q :=
 fun _ _ c => og_val (ex_mv (c.outE h hv)) (asr_eq hi)
theorem qn (j : Nat) {p : Addr} (hi : As[i]? = some (.eq (.pointer (some p))) := by rfl) (hd : (ops[j]?).bind (·.dst) = some t := by rfl) (hj : As[j]? = some (.eq (.pointer (some p))) := by rfl) (h : ahead ops i j = true := by decide +kernel) : ∀ a w, OgCtx ops a0 w0 E (asrAt As B) i a w → Oper.wp Tryz.prog ⟨dst, .nilCheck (.tmp t), ty, ps, af, none⟩ a w (OgPost E (asrAt As B) i ⟨dst, .nilCheck (.tmp t), ty, ps, af, none⟩ a w) Q :=
 fun _ _ c => og_val (ex_nc (c.e hd hj h)) (asr_eq hi)
theorem qf (j : Nat) {T k o g x y : Nat} (hf : foF T k = some o := by rfl) (hd : (ops[j]?).bind (·.dst) = some t := by rfl) (hj : As[j]? = some (.eq (pt g x)) := by rfl) (hi : As[i]? = some (.eq (pt g y)) := by rfl) (hx : x + o = y := by rfl) (h : ahead ops i j = true := by decide +kernel) : ∀ a w, OgCtx ops a0 w0 E (asrAt As B) i a w → Oper.wp Tryz.prog ⟨dst, .fieldAddr T (.tmp t) k, ty, ps, af, none⟩ a w (OgPost E (asrAt As B) i ⟨dst, .fieldAddr T (.tmp t) k, ty, ps, af, none⟩ a w) Q :=
 by
 intro a w c
 have hf := fo hf
 unfold Oper.wp
 rw [ex_fo (c.e hd hj h) hf hx]
 exact ⟨_, rfl, Only.refl _ _, asr_eq hi⟩
theorem ql (j : Nat) {T x : Nat} (hL : Ld T) (Z : Sv N l m M w00 a0 w) (x' : Nat) {b : Bk} (hb : m[x']? = some b := by rfl) (hd : (ops[j]?).bind (·.dst) = some t := by rfl) (hj : As[j]? = some (.eq (pt b.g x)) := by rfl) (hi : As[i]? = some (.eq v) := by rfl) (hv : b.cs[x]? = some v := by rfl) (h : ahead ops i j = true := by decide +kernel) : ∀ a w1, OgCtx ops a0 w.drew (fun _ _ => False) (asrAt As B) i a w1 → Oper.wp Tryz.prog ⟨dst, .load T (.tmp t), ty, ps, af, none⟩ a w1 (OgPost (fun _ _ => False) (asrAt As B) i ⟨dst, .load T (.tmp t), ty, ps, af, none⟩ a w1) Q :=
 fun _ _ c => og_val (ex_ld (c.e hd hj h) hL (cell_of_heap ((sv_ogc Z c).at x' hb) hv)) (asr_eq hi)
end
end G2
abbrev BufIs (B b : Nat) (bs : List Value) (w : World) : Prop := Lib.IsBuffer 84 5 B b bs w
theorem only_ge {B : Nat} {w w' : World} (h : Below B w w') : Only (fun g => B ≤ g) w w' := ⟨h.os, h.tape, h.output, h.size, fun g _ hg => h.block g (Nat.lt_of_not_le hg)⟩
theorem u8size : (Tryz.prog.info? 5).map (·.size) = some 1 := by kernel_rfl
theorem bufLen {B b : Nat} {bs : List Value} {w : World} (h : BufIs B b bs w) : Calls Tryz.prog 52 #[pt b 0] w fun e w' => ∃ v, e = .returned v ∧ Below w.heap.size w w' ∧ v = .int .i64 (bs.length : Nat) ∧ ∃ k, w' = w.drewN k :=
 Calls.mono (Any.Buffer_Len Tryz.lays181 B b bs w h) fun e w' ⟨h1, k, h2⟩ => ⟨_, h1, by rw [h2]; exact ⟨rfl, rfl, rfl, Nat.le_refl _, fun _ _ => rfl⟩, rfl, k, h2⟩
theorem bufTry {B b n : Nat} {bs : List Value} {w : World} (h : BufIs B b bs w) (hr : ¬ Lib.NoRoom b n w) : Calls Tryz.prog 54 #[pt b 0, .int .i64 n] w fun e w' => ∃ v, e = .returned v ∧ Only (fun g => B ≤ g) w w' ∧ v = .tuple #[.int .i64 (bs.length : Nat), .bool true] ∧ ∃ xs, xs.length = n ∧ BufIs B b (bs ++ xs) w' ∧ Below B w w' :=
 Calls.mono (Any.Buffer_tryGrow Tryz.lays251 B b n bs w h) fun e w' hd => by
  rcases hd with ⟨h1, xs, h2, h3, h4⟩ | ⟨_, _, h3⟩
  ·exact ⟨_, h1, only_ge h4, rfl, xs, h2, h3, h4⟩
  ·exact absurd h3 hr
theorem grow_any {B b n : Nat} {bs : List Value} {w : World} (h : BufIs B b bs w) (hBw : B ≤ w.heap.size) (h1 : ∀ v ∈ bs, v.oneCell' = true) (hlim : bs.length + n ≤ 1000000000) : Calls Tryz.prog 45 #[pt b 0, .int .i64 (n : Nat)] w fun e w' => e = .returned (.int .i64 (bs.length : Nat)) ∧ ∃ xs, xs.length = n ∧ BufIs B b (bs ++ xs) w' ∧ Below B w w' := by
 by_cases hr : Lib.NoRoom b n w
 ·exact Any.Buffer_grow Tryz.lays252 B b n bs w h hr hBw h1 (by omega)
 have h0 := h
 obtain ⟨hB, v, lr, hbk, hown, hne⟩ := h0
 have hz : bs.length = 0 ∨ bs.length ≠ 0 := Nat.eq_zero_or_pos _ |>.imp id (fun h => by omega)
 rcases hz with hz | hz
 ·refine calls_of_ev Tryz.func45 rfl (show 2 ≤ 110 from by decide) fun a hE => ?_
  have hE : Ev 110 ((0, pt b 0) :: (1, .int .i64 ((n : Nat) : Int)) :: []) a := hE
  have Z : Sv 110 ((0, pt b 0) :: (1, .int .i64 ((n : Nat) : Int)) :: []) [] (fun g => B ≤ g) w a w := Sv.start hE _ _
  clear hE
  replace Z := (Z.addR hbk (by intro b hb; cases hb)).ct [0, 1] rfl
  refine wr (sv_n 1 Z rfl fun a Z => Z.nx [4, 0, 1] rfl fun Z => sh (wr (sv_n 1 Z rfl fun a Z => ?_)))
  have hlt := Z.lt
  have hsz := Z.size
  refine sv_call (S := fun v w' => v = .int .i64 (bs.length : Nat) ∧ ∃ k, w' = w.drewN k) Z rfl rfl (by decide) (ex_call1 cf_bytes_Buffer_Len (Z.g 9 rfl)) (bufLen h) ?_
  rintro a _ w1 ⟨rfl, kk, rfl⟩ hbw1 Z
  refine sv_n 1 Z rfl fun a Z => Z.nx [5, 4, 0, 1] rfl fun Z => sh (wp_seq (wr (sv_n 1 Z rfl fun a Z => ?_)))
  refine sv_r (v := .bool true) Z (ei_eql (Z.g 11 rfl) rfl (by rw [decide_eq_true_iff]; omega)) fun a Z => sv_n 4 Z rfl fun a Z => sv_g (v := .int .i64 0) Z (Z.g 13 rfl) (ex_ld (Z.g 16 rfl) lt_int (cell_of_heap (v := .int .i64 0) (Z.at 0 rfl) rfl)) fun a Z => sv_g (v := .bool false) Z (Z.g 13 rfl) (ei_neq (Z.g 17 rfl) rfl (by decide)) fun a Z => sv_n 1 Z rfl fun a Z => Z.nx [19, 5, 4, 0, 1] rfl fun Z => sh (cond_f (Z.g 19 rfl) (wp_skip (sh (wp_seq (wr ?_)))))
  refine sv_n 2 Z rfl fun a Z => ?_
  replace Z := (Z.mz [false] rfl).ct [24, 23, 19, 5, 4, 0, 1] rfl
  refine sv_callo (X := fun g => B ≤ g) Z rfl rfl (by decide) (ex_call2 cf_bytes_Buffer_tryGrowByReslice (Z.g 23 rfl) (Z.g 24 rfl)) (bufTry (w := w.drewN kk) h hr) (by intro b hb; cases hb) (fun g hg _ => hg) ?_
  rintro a _ w1 ⟨rfl, xs, hx, hI, hbl⟩ hO Z
  refine sv_n 5 Z rfl fun a Z => Z.nx [7, 6, 19, 5, 4, 0, 1] rfl fun Z => sh (wr (sv_n 1 Z rfl fun a Z => Z.nx [28, 6, 19, 5, 4, 0, 1] rfl fun Z => sh (cond_t (Z.g 28 rfl) (wr (sv_n 2 Z rfl fun a Z => Z.nx [4, 28, 19, 5, 0, 1] rfl fun Z => sh ?_)))))
  refine wp_ret ?_
  try simp only [Exit.inBlock, Exit.then]
  exact ret_of_ev Z.ev rfl (Z.g 4 rfl) ⟨rfl, xs, hx, hI, ⟨hbl.os, hbl.tape, hbl.output, hbl.size, hbl.block⟩⟩
 ·refine calls_of_ev Tryz.func45 rfl (show 2 ≤ 110 from by decide) fun a hE => ?_
  have hE : Ev 110 ((0, pt b 0) :: (1, .int .i64 ((n : Nat) : Int)) :: []) a := hE
  have Z : Sv 110 ((0, pt b 0) :: (1, .int .i64 ((n : Nat) : Int)) :: []) [] (fun g => B ≤ g) w a w := Sv.start hE _ _
  clear hE
  replace Z := (Z.addR hbk (by intro b hb; cases hb)).ct [0, 1] rfl
  refine wr (sv_n 1 Z rfl fun a Z => Z.nx [4, 0, 1] rfl fun Z => sh (wr (sv_n 1 Z rfl fun a Z => ?_)))
  have hlt := Z.lt
  have hsz := Z.size
  refine sv_call (S := fun v w' => v = .int .i64 (bs.length : Nat) ∧ ∃ k, w' = w.drewN k) Z rfl rfl (by decide) (ex_call1 cf_bytes_Buffer_Len (Z.g 9 rfl)) (bufLen h) ?_
  rintro a _ w1 ⟨rfl, kk, rfl⟩ hbw1 Z
  refine sv_n 1 Z rfl fun a Z => Z.nx [5, 4, 0, 1] rfl fun Z => sh (wp_seq (wr (sv_n 1 Z rfl fun a Z => ?_)))
  refine sv_r (v := .bool false) Z (ei_eql (Z.g 11 rfl) rfl (by rw [decide_eq_false_iff_not]; omega)) fun a Z => sv_n 7 Z rfl fun a Z => Z.nx [19, 5, 4, 0, 1] rfl fun Z => sh (cond_f (Z.g 19 rfl) (wp_skip (sh (wp_seq (wr (sv_n 2 Z rfl fun a Z => ?_))))))
  replace Z := (Z.mz [false] rfl).ct [24, 23, 19, 5, 4, 0, 1] rfl
  refine sv_callo (X := fun g => B ≤ g) Z rfl rfl (by decide) (ex_call2 cf_bytes_Buffer_tryGrowByReslice (Z.g 23 rfl) (Z.g 24 rfl)) (bufTry (w := w.drewN kk) h hr) (by intro b hb; cases hb) (fun g hg _ => hg) ?_
  rintro a _ w1 ⟨rfl, xs, hx, hI, hbl⟩ hO Z
  refine sv_n 5 Z rfl fun a Z => Z.nx [7, 6, 19, 5, 4, 0, 1] rfl fun Z => sh (wr (sv_n 1 Z rfl fun a Z => Z.nx [28, 6, 19, 5, 4, 0, 1] rfl fun Z => sh (cond_t (Z.g 28 rfl) (wr (sv_n 2 Z rfl fun a Z => Z.nx [4, 28, 19, 5, 0, 1] rfl fun Z => sh ?_)))))
  refine wp_ret ?_
  try simp only [Exit.inBlock, Exit.then]
  exact ret_of_ev Z.ev rfl (Z.g 4 rfl) ⟨rfl, xs, hx, hI, ⟨hbl.os, hbl.tape, hbl.output, hbl.size, hbl.block⟩⟩
theorem rdRead_end {r g n cc pos : Nat} {prev : Int} {p : Value} {w : World} (hr : w.heap[r]? = some (.cells #[.slice (some ⟨g, 0, none⟩) n cc, .int .i64 ((pos : Nat) : Int), .int .i64 prev] 97 (0, 0))) (hp : n ≤ pos) (hn : pos ≤ 1000000000) {B : Nat} {G : Ge} (hG : Env B G w) : Calls Tryz.prog 202 #[pt r 0, p] w fun e w' => e = .returned (.tuple #[.int .i64 0, eofV G]) ∧ Below w.heap.size w w' := by
 refine calls_of_ev Tryz.func202 rfl (show 2 ≤ 39 from by decide) fun a hE => ?_
 have hE : Ev 39 ((0, pt r 0) :: (1, p) :: []) a := hE
 have Z : Sv 39 ((0, pt r 0) :: (1, p) :: []) [] (fun _ => False) w a w := Sv.start hE _ _
 clear hE
 replace Z := (Z.addR hr (by intro b hb; cases hb)).ct [0, 1] rfl
 refine wr (sv_n 2 Z rfl fun a Z => Z.nx [5, 4, 0, 1] rfl fun Z => sh (wp_seq (wp_seq ?_)))
 refine qg 9 [pt r 0, pt r 0, pt r 1, .int .i64 ((pos : Nat) : Int), pt r 0, pt r 0, pt r 0, .slice (some ⟨g, 0, none⟩) n cc, .int .i64 ((n : Nat) : Int)] Z ?_ ?_
 ·simp only [List.take_succ_cons, List.take_zero]
  exact ⟨qm (Z.g 0 rfl), qn 0, qf 1, ql 2 lt_int64 Z 0, qm (Z.g 0 rfl), qn 4, qf 5, ql 6 lt_sl_uint8 Z 0, fun _ _ c => og_val (ex_len Tryz.underlying45 (c.s 7 rfl)) rfl, trivial⟩
 ·intro a w1 c hbw1
  replace Z := ((Z.ogk c [1, 0, 4, 5]).kS c 3 rfl rfl).kS c 8 rfl rfl
  clear c
  simp only [List.drop_succ_cons, List.drop_zero]
  refine sv_r (v := .bool true) Z (ei_geq (Z.g 9 rfl) (Z.g 14 rfl) (by rw [decide_eq_true_iff]; omega)) fun a Z => Z.nx [15, 1, 0, 4, 5] rfl fun Z => sh (cond_t (Z.g 15 rfl) (wp_seq ?_))
  refine G2.wp_region_og0 (n := 39) [G2.Asr.eq (eofV G), G2.Asr.eq (.int .i64 0), G2.Asr.eq (eofV G)] (by kernel_rfl) (by kernel_rfl) (by kernel_rfl) Z.ev.size ⟨⟩ ?_ ?_
  ·refine ⟨?_, ?_, ?_, trivial⟩
   ·intro a wx c
    have hO := G2.sv_ogc Z c
    have hO := G2.sv_ogc Z c
    clear c
    exact G2.og_val (ex_ldg lt_error (hG.below hO.toBelow).eof) rfl
   ·exact fun _ _ c => G2.og_val ex_ac rfl
   ·exact fun _ _ c => G2.og_val (ex_as (c.s 0 rfl)) rfl
  ·intro a w2 c hbw2
   replace Z : Sv 39 ((5, eofV G) :: (4, .int .i64 0) :: (0, pt r 0) :: (1, p) :: (15, .bool true) :: []) [⟨r, #[.slice (some ⟨g, 0, none⟩) n cc, .int .i64 ((pos : Nat) : Int), .int .i64 prev], 97, false⟩] (fun _ => False) w a w2 := ((((((G2.sv_oge Z c).know (c.outG (by decide +kernel) (Z.g 15 rfl))).know (c.outG (by decide +kernel) (Z.g 1 rfl))).know (c.outG (by decide +kernel) (Z.g 0 rfl))).know (c.slot 1 _ rfl)).know (c.slot 2 _ rfl))
   clear c
   replace Z := Z.ct [5, 4, 0, 1, 15] rfl
   refine sh (wp_ret ?_)
   try simp only [Exit.inBlock, Exit.then]
   exact ret2_of_ev Z.ev rfl (Z.g 4 rfl) (Z.g 5 rfl) ⟨rfl, Z.toBelow⟩
theorem rdRead_some {r g n cc pos H k L C : Nat} {prev : Int} {cur : Array Value} {s : ByteArray} {w : World} (hr : w.heap[r]? = some (.cells #[.slice (some ⟨g, 0, none⟩) n cc, .int .i64 ((pos : Nat) : Int), .int .i64 prev] 97 (0, 0))) (hD : Lib.Bytes w g 0 s) (hs : s.size = n) (hc : n ≤ cc) (hH : w.heap[H]? = some (.cells cur 5 (0, 0))) (hHr : H ≠ r) (hHg : H ≠ g) (hp : pos < n) (hn : n ≤ 1000000000) (hfit : k + L ≤ cur.size) :
  Calls Tryz.prog 202 #[pt r 0, .slice (some ⟨H, k, none⟩) L C] w fun e w' => e = .returned (.tuple #[.int .i64 ((min (n - pos) L : Nat) : Int), .nilIface]) ∧ Only (fun q => q = r ∨ q = H) w w' ∧ w'.heap[r]? = some (.cells #[.slice (some ⟨g, 0, none⟩) n cc, .int .i64 ((pos + min (n - pos) L : Nat) : Int), .int .i64 (-1)] 97 (0, 0)) ∧
   w'.heap[H]? = some (.cells (cur.toList.take k ++ Lib.byteCells ((s.data.toList.drop pos).take (min (n - pos) L)) ++ cur.toList.drop (k + min (n - pos) L)).toArray 5 (0, 0)) := by
 have hcl : (Lib.byteCells ((s.data.toList.drop pos).take (min (n - pos) L))).length = min (n - pos) L := by
  simp only [Lib.byteCells, List.length_map, List.length_take, List.length_drop, len_list, hs]; omega
 have hgr : g ≠ r := by
  rintro rfl
  have h1 := hD 0 (by omega)
  simp [World.cell?, hr] at h1
 have hsrc : ∀ w' : World, Only (fun q => q = r ∨ q = H) w w' → ∀ j v, (Lib.byteCells ((s.data.toList.drop pos).take (min (n - pos) L)))[j]? = some v → w'.cell? ((⟨g, pos, none⟩ : Addr).add j) = some v := by
  intro w' ho j v hj
  have hjl := (List.getElem?_eq_some_iff.1 hj).1
  rw [hcl] at hjl
  have h1 := hD (pos + j) (by omega)
  have hgl : g < w.heap.size := by
   by_cases hgl : g < w.heap.size
   ·exact hgl
   ·rw [World.cell?, Array.getElem?_eq_none (show w.heap.size ≤ g by omega)] at h1; cases h1
  have e1 : (⟨g, pos, none⟩ : Addr).add j = ⟨g, 0 + (pos + j), none⟩ := by unfold Addr.add; split <;> simp_all
  rw [e1, World.cell?_of_block (w := w) (ho.block g hgl (fun e => e.elim hgr (fun e => hHg e.symm))), h1, ← hj]
  simp only [Lib.byteCells, List.getElem?_map, List.getElem?_take, List.getElem?_drop]
  rw [if_pos (by omega), at_list (by omega)]
  rfl
 refine calls_of_ev Tryz.func202 rfl (show 2 ≤ 39 from by decide) fun a hE => ?_
 have hE : Ev 39 ((0, pt r 0) :: (1, .slice (some ⟨H, k, none⟩) L C) :: []) a := hE
 have Z : Sv 39 ((0, pt r 0) :: (1, .slice (some ⟨H, k, none⟩) L C) :: []) [] (fun q => q = r ∨ q = H) w a w := Sv.start hE _ _
 clear hE
 replace Z : Sv 39 ((0, pt r 0) :: (1, .slice (some ⟨H, k, none⟩) L C) :: []) [⟨H, cur, 5, true⟩, ⟨r, #[.slice (some ⟨g, 0, none⟩) n cc, .int .i64 ((pos : Nat) : Int), .int .i64 prev], 97, true⟩] (fun q => q = r ∨ q = H) w a w := ((Z.addB hr (by intro b hb; cases hb) (fun _ => .inl (.inl rfl))).addB hH (by intro b hb; cases List.mem_singleton.1 hb; exact hHr.symm) (fun _ => .inl (.inr rfl))).pick rfl
 refine wr (sv_n 2 Z rfl fun a Z => Z.nx [5, 4, 0, 1] rfl fun Z => sh (wp_seq (wp_seq ?_)))
 refine qg 9 [pt r 0, pt r 0, pt r 1, .int .i64 ((pos : Nat) : Int), pt r 0, pt r 0, pt r 0, .slice (some ⟨g, 0, none⟩) n cc, .int .i64 ((n : Nat) : Int)] Z ?_ ?_
 ·simp only [List.take_succ_cons, List.take_zero]
  exact ⟨qm (Z.g 0 rfl), qn 0, qf 1, ql 2 lt_int64 Z 1, qm (Z.g 0 rfl), qn 4, qf 5, ql 6 lt_sl_uint8 Z 1, fun _ _ c => og_val (ex_len Tryz.underlying45 (c.s 7 rfl)) rfl, trivial⟩
 ·intro a w1 c hbw1
  replace Z := ((Z.ogk c [1, 0, 4, 5]).kS c 3 rfl rfl).kS c 8 rfl rfl
  clear c
  simp only [List.drop_succ_cons, List.drop_zero]
  refine sv_r (v := .bool false) Z (ei_geq (Z.g 9 rfl) (Z.g 14 rfl) (by rw [decide_eq_false_iff_not]; omega)) fun a Z => Z.nx [15, 1, 0, 4, 5] rfl fun Z => sh (cond_f (Z.g 15 rfl) (wp_skip (sh (wr (sv_n 3 Z rfl fun a Z => sv_st (i := 1) (v := .int .i64 (-1)) (cs' := #[.slice (some ⟨g, 0, none⟩) n cc, .int .i64 ((pos : Nat) : Int), .int .i64 (-1)]) Z (su_int _) (Z.g 19 rfl) rfl rfl (show 2 < 3 from by decide) rfl rfl fun w2 hty Z => Z.nx [15, 1, 0, 4, 5] rfl fun Z => sh (wp_seq ?_))))))
  refine qg 10 [.slice (some ⟨H, k, none⟩) L C, pt r 0, pt r 0, pt r 0, .slice (some ⟨g, 0, none⟩) n cc, pt r 0, pt r 0, pt r 1, .int .i64 ((pos : Nat) : Int), bsl g pos n cc] Z ?_ ?_
  ·simp only [List.take_succ_cons, List.take_zero]
   exact ⟨qm (Z.g 1 rfl), qm (Z.g 0 rfl), qn 1, qf 2, ql 3 lt_sl_uint8 Z 1, qm (Z.g 0 rfl), qn 5, qf 6, ql 7 lt_int64 Z 1, fun _ _ c => og_val (ex_bl Tryz.underlying45 Tryz.sizeOf5 (c.s 4 rfl) (c.s 8 rfl) (by omega)) rfl, trivial⟩
  ·intro a w3 c hbw3
   replace Z := ((Z.ogk c [5, 4, 0, 1, 15]).kS c 0 rfl rfl).kS c 9 rfl rfl
   clear c
   simp only [List.drop_succ_cons, List.drop_zero]
   refine sv_copy (i := 0) (cs := Lib.byteCells ((s.data.toList.drop pos).take (min (n - pos) L))) (m' := [⟨H, (cur.toList.take k ++ Lib.byteCells ((s.data.toList.drop pos).take (min (n - pos) L)) ++ cur.toList.drop (k + min (n - pos) L)).toArray, 5, true⟩, ⟨r, #[.slice (some ⟨g, 0, none⟩) n cc, .int .i64 ((pos : Nat) : Int), .int .i64 (-1)], 97, true⟩]) Z rfl rfl (by decide) rfl (Z.g 20 rfl) (by rw [Z.g 29 rfl, bsl_ne (by omega)]) Tryz.underlying45 u8size rfl (by rw [hcl]) (hsrc _ Z.only) (by rw [hcl]; omega) (Lib.byteCells_one _) (by rw [hcl]) rfl fun a w4 hO Z => ?_
   rw [hcl] at Z
   refine sv_n 1 Z rfl fun a Z => Z.nx [4, 5, 0, 15] rfl fun Z => sh (wr (sv_n 3 Z rfl fun a Z => sv_l (v := .int .i64 ((pos : Nat) : Int)) 1 Z rfl (Z.g 33 rfl) lt_int64 rfl fun a Z => sv_n 1 Z rfl fun a Z => ?_))
   refine sv_r (v := .int .i64 ((pos + (min (n - pos) L) : Nat) : Int)) Z (ei_add (Z.g 34 rfl) (Z.g 35 rfl) (by rw [IntKind.wrap_i64]; omega)) fun a Z => sv_n 2 Z rfl fun a Z => sv_st (i := 1) (v := .int .i64 ((pos + (min (n - pos) L) : Nat) : Int)) (cs' := #[.slice (some ⟨g, 0, none⟩) n cc, .int .i64 ((pos + (min (n - pos) L) : Nat) : Int), .int .i64 (-1)]) Z (su_int64 _) (Z.g 38 rfl) (Z.g 36 rfl) rfl (show 1 < 3 from by decide) rfl rfl fun w5 hty Z => Z.nx [4, 5, 0, 15] rfl fun Z => sh (wp_ret ?_)
   try simp only [Exit.inBlock, Exit.then]
   exact ret2_of_ev Z.ev rfl (Z.g 4 rfl) (Z.g 5 rfl) ⟨rfl, Z.only, Z.at 1 rfl, Z.at 0 rfl⟩
section
variable {a : Act} {w : World} {v u : Value} {x y : Operand} {ty : TypeId} {ps : String} {af : Array Edge} {dst : Option Nat} {gd : Option (Nat × Bool)} {T T' : TypeId} {ats : Array TypeId}
theorem cf_bytes_Reader_Read : Cf 202 := by intro args w; go_simp
theorem rd_m (r : Nat) (w : World) : (Go.method (Tryz.prog.types.size + Made.depth) 62 (pt r 0) "Read").run Tryz.prog w = .ok (202, pt r 0) w := by kernel_rfl
theorem rd_n (r : Nat) (w : World) : (nilAhead (Tryz.prog.types.size + Made.depth) 62 (pt r 0) "Read").run Tryz.prog w = .ok (some false) w := by kernel_rfl
theorem ex_inv {t r : Nat} (hx : a.eval (.tmp t) = .iface 62 (pt r 0)) (hy : a.eval y = u) : (execOp a.eval ⟨dst, .call { callee := .invoke (.tmp t) "Read", args := #[y], argTypes := ats }, ty, ps, af, gd⟩).run Tryz.prog w = .ok (.enter 202 #[pt r 0, u]) w := by
 have hc := cf_bytes_Reader_Read #[pt r 0, u] w
 have hm := rd_m r w
 simp only [execOp, resolve, List.map_toArray, List.map_cons, List.map_nil, hx, hy]
 simp [go_sem] at hm hc
 simp [invoke, callMethod, go_sem, hm, hc, Result.andThen]
theorem ex_mf {t : Nat} (hx : a.eval (.tmp t) = v) : (execOp a.eval ⟨dst, .makeFunc (.method "Read") #[.tmp t] #[], ty, ps, af, gd⟩).run Tryz.prog w = .ok (.value (.func (.method "Read") #[v] #[])) w := by
 simp only [execOp, List.map_toArray, List.map_cons, List.map_nil, hx]
 rfl
theorem ex_ncf {t r : Nat} (hx : a.eval (.tmp t) = .func (.method "Read") #[.iface 62 (pt r 0)] #[]) : (execOp a.eval ⟨dst, .nilCheck (.tmp t), ty, ps, af, gd⟩).run Tryz.prog w = .ok (.value (.func (.method "Read") #[.iface 62 (pt r 0)] #[])) w := by
 have hn := rd_n r w
 simp [go_sem] at hn
 simp only [execOp, hx]
 simp [go_sem, hn, Result.andThen]
end
end Go.Proofs.YtflppablgdegcaaGreatDoor
