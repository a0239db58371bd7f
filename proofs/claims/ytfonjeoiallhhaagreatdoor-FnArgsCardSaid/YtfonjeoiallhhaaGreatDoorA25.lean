/- Joined: Fgu, Fgv, Lfa, Args, ArgsCard. -/
import Derived.Test.YtfonjeoiallhhaaGreatDoorA10
import Derived.Test.YtfonjeoiallhhaaGreatDoorA24
import Derived.Test.YtfonjeoiallhhaaGreatDoorRows
import Derived.ProofKit
import Derived.LaidMore
import Derived.MakeChecks
import Derived.Lib.LaidTab
import Derived.ChangeArms
import Derived.WalkKit
import Derived.WalkSmall
import Derived.Lay
import Derived.OpenShut
import Derived.ShutString
import Derived.ChangeOld
import Derived.ChangeVars
import Derived.Below
import Derived.Stop.Joined
import Derived.Test.YtfonjeoiallhhaaGreatDoorCards
import Derived.Test.YtfonjeoiallhhaaGreatDoorTie
import Derived.SevenTiedAt
/- The shortest decimal text of an eighth: from the digits. -/
namespace Go.Proofs.YtfonjeoiallhhaaGreatDoor
open Go.Shelf Go.RowKit Go.Sort Go.Lib
theorem dd_ten (a : Nat) (ha : 1 ≤ a) : ∀ k : Nat, decDigits (a * 10 ^ k) = decDigits a ++ List.replicate k (48 : UInt8)
 | 0 => by simp
 | k + 1 => by
  have e : a * 10 ^ (k + 1) = a * 10 ^ k * 10 := by rw [Nat.pow_succ, Nat.mul_assoc]
  have hp : 1 ≤ a * 10 ^ k := Nat.mul_pos ha (Nat.pow_pos (by decide))
  rw [e, dd_big (by omega), Nat.mul_div_cancel _ (by decide), Nat.mul_mod_left, dd_ten a ha k, List.append_assoc, List.replicate_succ']
  rfl
theorem dd_ge : ∀ u : Nat, ∀ b ∈ decDigits u, b ≠ 46 := by
 intro u
 induction u using Nat.strongRecOn with
 | _ u ih =>
  have key : ∀ t : Nat, t < 10 → UInt8.ofNat (48 + t) ≠ 46 := by
   intro t ht e
   have := congrArg UInt8.toNat e
   rw [UInt8.toNat_ofNat_of_lt' (by show 48 + t < 256; omega)] at this
   have h46 : (46 : UInt8).toNat = 46 := rfl
   omega
  intro b hb
  by_cases h : u < 10
  ·rw [dd_small h] at hb
   rw [List.mem_singleton.1 hb]
   exact key u h
  ·rw [dd_big (by omega)] at hb
   rcases List.mem_append.1 hb with hb | hb
   ·exact ih (u / 10) (by omega) b hb
   ·rw [List.mem_singleton.1 hb]
    exact key _ (Nat.mod_lt _ (by decide))
theorem stripZ_rep (l : List UInt8) : ∀ k : Nat, stripZ (l ++ List.replicate k 48) = stripZ l
 | 0 => by simp
 | k + 1 => by rw [List.replicate_succ', ← List.append_assoc, stripZ_snoc, stripZ_rep l k]
theorem lst_le {D : List UInt8} {k nd : Nat} (h1 : 1 ≤ nd) (hz : Q3.Lst nd (D ++ List.replicate k 48)) : nd ≤ D.length := by
 obtain ⟨_, b, hb, hne⟩ := hz
 rcases Nat.lt_or_ge D.length nd with h | h
 ·rw [List.getElem?_append_right (by omega), List.getElem?_replicate] at hb
  split at hb
  ·exact absurd (Option.some.inj hb).symm hne
  ·cases hb
 ·exact h
theorem efg_short (r nd k : Nat) (h1 : 1 ≤ r) (hn1 : 1 ≤ nd) (hz : Q3.Lst nd (decDigits (125 * r) ++ List.replicate k 48)) : Q.efg ((nd - ((decDigits (125 * r)).length - 3) : Nat) : Int) (decDigits (125 * r) ++ List.replicate k 48) ((decDigits (125 * r)).length - 3) nd = (shorts r).data.toList := by
 have hnl := lst_le hn1 hz
 have hl3 : 3 ≤ (decDigits (125 * r)).length := by rw [dd_three (125 * r) (by omega)]; simp
 have hs := efg_secs r nd h1 (fun j b hj hb => hz.1 j b hj (by rw [List.getElem?_append_left (List.getElem?_eq_some_iff.1 hb).1]; exact hb))
 have hge := dd_ge (125 * r)
 obtain ⟨_, b, hb, hne⟩ := hz
 rw [List.getElem?_append_left (by omega)] at hb
 generalize decDigits (125 * r) = D at *
 obtain ⟨dp, hdp⟩ : ∃ dp, dp = D.length - 3 := ⟨_, rfl⟩
 rw [← hdp] at hs ⊢
 show _ = stripP (stripZ (secs r).data.toList)
 rw [← hs]
 unfold efg efgTail Q.efg Q.efgTail
 rw [List.take_append_of_le_length (show min nd dp ≤ D.length by omega)]
 generalize (if 0 < dp then D.take (min nd dp) ++ List.replicate (dp - min nd dp) 48 else [48]) = I
 rcases Nat.lt_or_ge dp nd with hlt | hge2
 ·rw [if_pos (by omega), Int.toNat_natCast]
  have hm : min 3 (nd - dp) = nd - dp := by omega
  rw [hm, Nat.min_self, Nat.sub_self, List.replicate_zero, List.append_nil]
  rw [List.drop_append_of_le_length (by omega), List.take_append_of_le_length (by rw [List.length_drop]; omega)]
  have hF : (D.drop dp).take (nd - dp) = (D.drop dp).take (nd - dp - 1) ++ [b] := by
   have e : nd - dp = (nd - dp - 1) + 1 := by omega
   conv => lhs; rw [e]
   rw [List.take_add_one]
   have : (D.drop dp)[nd - dp - 1]? = some b := by rw [List.getElem?_drop, show dp + (nd - dp - 1) = nd - 1 by omega]; exact hb
   rw [this]
   rfl
  rw [hF]
  have e2 : I ++ ([46] ++ ((D.drop dp).take (nd - dp - 1) ++ [b]) ++ List.replicate (3 - (nd - dp)) 48) = (I ++ [46] ++ (D.drop dp).take (nd - dp - 1)) ++ [b] ++ List.replicate (3 - (nd - dp)) 48 := by simp
  rw [e2, stripZ_rep, stripZ_ne _ hne]
  unfold stripP
  rw [if_neg (by rw [List.getLast?_append]; simp; exact hge b (List.mem_of_getElem? hb))]
  simp
 ·rw [if_neg (by omega), List.append_nil]
  have hm : min 3 (nd - dp) = 0 := by omega
  rw [hm, List.take_zero, List.append_nil, Nat.sub_zero, ← List.append_assoc, stripZ_rep, stripZ_ne _ (by decide)]
  unfold stripP
  rw [if_pos (by simp)]
  simp
end Go.Proofs.YtfonjeoiallhhaaGreatDoor
/- strconv.FormatFloat at 'f', -1, 64 for eighths up to 400. Printed by wip/tools/gen_fgv.py. -/
set_option maxRecDepth 100000
set_option maxHeartbeats 1000000
namespace Go.Proofs.YtfonjeoiallhhaaGreatDoor
open Go.Shelf Go.RowKit Go.Sort Go.Lib
def mS (x : Nat) : Nat := mtN x * 2048
def pwS (x : Nat) : Bool := decide (mS x = 9223372036854775808)
def eS (x : Nat) : Int := EI x - 63
def pS (x : Nat) : Int := if pwS x = true then -(((eS x + 11) * 631305 - 261663) / 2097152) else -((eS x + 11) * 78913 / 262144)
def shS (x : Nat) : Nat := (-(eS x + pS x * 108853 / 32768 + 3)).toNat
def aS (x : Nat) : Nat := mS x - (if pwS x = true then 512 else 1024)
def okS (x : Nat) : Prop := x = 0 ∨ (4096 ≤ mS x ∧ mS x < 18446744073709500000 ∧ bits BinOp.and IntKind.i64 ((mS x / 2048 : Nat) : Int) 1 = 0 ∧ (pS x = 15 ∨ pS x = 16 ∨ pS x = 17) ∧ -(eS x + pS x * 108853 / 32768 + 3) = (shS x : Int) ∧ shS x < 64 ∧ aS x + (if pwS x = true then 512 else 1024) = mS x ∧
 us (aS x) (hiP (pS x)) (shS x) < 4611686018427387000 ∧ us (mS x + 1024) (hiP (pS x)) (shS x) < 4611686018427387000 ∧ (us (aS x) (hiP (pS x)) (shS x) + 3) / 4 ≤ us (mS x + 1024) (hiP (pS x)) (shS x) / 4 / 10 * 10 ∧ us (mS x + 1024) (hiP (pS x)) (shS x) / 4 / 10 = 125 * x * 10 ^ (pS x - 4).toNat)
instance : DecidablePred okS := fun r => by unfold okS; infer_instance
theorem okS_all : ∀ r ∈ List.range 401, okS r := by decide +kernel
theorem shorts_ne_all : (List.range 401).all (fun r => !(shorts r).data.toList.isEmpty) = true := by decide +kernel
theorem shorts_ne {r : Nat} (h : r ≤ 400) : (shorts r).data.toList ≠ [] := by
 have := List.all_eq_true.1 shorts_ne_all r (List.mem_range.2 (by omega))
 intro e
 rw [e] at this
 simp at this
theorem formatShort_in (r : Nat) (hne : (shorts r).data.toList ≠ []) (w : World)
  (hft : ∀ (B : Nat) (s0 : Value) (wz : World), B ≤ wz.heap.size → Own ul 5 1 wz B s0 [] → Below w.heap.size w wz → Calls Tryz.prog 74 #[s0, .float .f64 (e8 r), .int .u8 102, .int .i64 (-1)] wz fun e w' => ∃ (s : Value), e = .returned s ∧ Own ul 5 1 w' B s (shorts r).data.toList ∧ Below B wz w') :
  Calls Tryz.prog 64 #[.float .f64 (e8 r), .int .u8 102, .int .i64 (-1), .int .i64 64] w fun e w' => e = .returned (.string (shorts r)) ∧ Below w.heap.size w w' := by
 refine calls_of_ev Tryz.func64 rfl (show 4 ≤ 33 from by decide) ?_
 intro a hE
 have hE : Ev 33 ((0, .float .f64 (e8 r)) :: (1, .int .u8 102) :: (2, .int .i64 (-1)) :: (3, .int .i64 64) :: []) a := hE
 refine wp_seq ?_
 refine wp_region_lit ?_
 refine ev_ac hE (by decide) ?_
 intro a hE
 refine nx1 ?_
 refine wp_seq ?_
 refine wp_seq ?_
 refine wp_region_lit ?_
 refine ev_r (w' := w) hE (ex_mv (hE.get 3 rfl)) fun a hE => ?_
 refine ev_r (v := .bool false) (w' := w) hE (by simp only [execOp, hE.get 9 rfl]; go_simp) fun a hE => ?_
 refine nx1 ?_
 refine wp_cond_split (hE.get 10 rfl) (fun h => by cases h) (fun _ => ?_)
 refine wp_skip ?_
 show Code.wp _ _ _ _ _
 refine wp_seq ?_
 refine wp_seq ?_
 refine wp_region_lit ?_
 refine ev_r (w' := w) hE (ex_mv (hE.get 3 rfl)) fun a hE => ?_
 refine ev_r (v := .bool true) (w' := w) hE (by simp only [execOp, hE.get 21 rfl]; go_simp) fun a hE => ?_
 refine nx1 ?_
 refine wp_cond_split (hE.get 22 rfl) (fun _ => ?_) (fun h => by cases h)
 refine wp_seq ?_
 refine wp_region_lit ?_
 refine ev_r (w' := w) hE (ex_mv (hE.get 2 rfl)) fun a hE => ?_
 refine ev_r (v := .int .i64 3) (w' := w) hE (ei_add (hE.get 23 rfl) rfl (by decide)) fun a hE => ?_
 refine ev_r (v := .int .i64 24) (w' := w) hE (fx_max (hE.get 24 rfl) rfl (by decide)) fun a hE => ?_
 obtain ⟨w1, hmk, hown, hb1⟩ := mk24 w
 refine ev_r (v := .slice (some ⟨w.heap.size, 0, none⟩) 0 24) (w' := w1) hE (by simp only [execOp, hE.get 25 rfl]; have e0 : a.eval (.const (.int .i64 0)) = .int .i64 0 := rfl; simp [e0, hmk, Result.andThen]) fun a hE => ?_
 refine ev_r (w' := w1) hE (ex_mv (hE.get 0 rfl)) fun a hE => ?_
 refine ev_r (w' := w1) hE (ex_mv (hE.get 1 rfl)) fun a hE => ?_
 refine ev_r (w' := w1) hE (ex_mv (hE.get 2 rfl)) fun a hE => ?_
 refine ev_call (S := fun u w' => Own ul 5 1 w' w.heap.size u (shorts r).data.toList ∧ Below w.heap.size w1 w') hE rfl rfl (by decide) (f := 74) (args := #[.slice (some ⟨w.heap.size, 0, none⟩) 0 24, .float .f64 (e8 r), .int .u8 102, .int .i64 (-1)]) (by simp only [execOp, resolve, List.map_toArray, List.map_cons, List.map_nil, hE.get 26 rfl, hE.get 27 rfl, hE.get 28 rfl, hE.get 29 rfl]; go_simp) ((hft w.heap.size _ w1 hb1.size hown hb1).mono (by rintro e w' ⟨s, rfl, h⟩; exact ⟨_, rfl, h⟩)) ?_
 rintro a s w2 ⟨hown2, hb2⟩ hE
 refine ev_r (v := .string (shorts r)) (w' := w2) hE (by simp only [execOp, hE.get 30 rfl]; exact run_andValue (cv_own hown2 hne)) fun a hE => ?_
 refine ev_as hE (hE.get 31 rfl) (by decide) ?_
 intro a hE
 refine nx1 ?_
 refine wp_ret ?_
 simp only [Exit.then]
 exact ret_of_ev hE rfl (hE.get 8 rfl) ⟨rfl, hb1.trans hb2⟩
theorem formatShort_out (r : Nat) (w : World) (hin : Calls Tryz.prog 64 #[.float .f64 (e8 r), .int .u8 102, .int .i64 (-1), .int .i64 64] w fun e w' => e = .returned (.string (shorts r)) ∧ Below w.heap.size w w') :
  Calls Tryz.prog 56 #[.float .f64 (e8 r), .int .u8 102, .int .i64 (-1), .int .i64 64] w fun e w' => e = .returned (.string (shorts r)) ∧ Below w.heap.size w w' := by
 refine calls_of_ev Tryz.func56 rfl (show 4 ≤ 14 from by decide) ?_
 intro a hE
 have hE : Ev 14 ((0, .float .f64 (e8 r)) :: (1, .int .u8 102) :: (2, .int .i64 (-1)) :: (3, .int .i64 64) :: []) a := hE
 refine wp_seq ?_
 refine wp_region_lit ?_
 refine ev_ac hE (by decide) ?_
 intro a hE
 refine nx3 ?_
 refine ev_r (w' := w) hE (ex_mv (hE.get 0 rfl)) fun a hE => ?_
 refine ev_r (w' := w) hE (ex_mv (hE.get 1 rfl)) fun a hE => ?_
 refine ev_r (w' := w) hE (ex_mv (hE.get 2 rfl)) fun a hE => ?_
 refine ev_r (w' := w) hE (ex_mv (hE.get 3 rfl)) fun a hE => ?_
 refine ev_call (S := fun u w' => u = .string (shorts r) ∧ Below w.heap.size w w') hE rfl rfl (by decide) (f := 64) (args := #[.float .f64 (e8 r), .int .u8 102, .int .i64 (-1), .int .i64 64]) (by simp only [execOp, resolve, List.map_toArray, List.map_cons, List.map_nil, hE.get 9 rfl, hE.get 10 rfl, hE.get 11 rfl, hE.get 12 rfl]; go_simp) (hin.mono (by rintro e w' ⟨rfl, h⟩; exact ⟨_, rfl, rfl, h⟩)) ?_
 rintro a u w1 ⟨rfl, hb⟩ hE
 refine ev_as hE (hE.get 13 rfl) (by decide) ?_
 intro a hE
 refine nx1 ?_
 refine wp_ret ?_
 exact ret_of_ev hE rfl (hE.get 8 rfl) ⟨rfl, hb⟩

/-- What the tables hold. -/
structure FfTab2 (w : World) : Prop where
 ff : FfTab w
 pm : PmTab2 w
theorem ftoa_short_any (r : Nat) (h1 : 1 ≤ r) (h2 : r ≤ 400) (w : World) (hT : ∀ w', Below w.heap.size w w' → FfTab2 w') (B : Nat) (s0 : Value) (hB : B ≤ w.heap.size) (hs0 : Own ul 5 1 w B s0 []) : Calls Tryz.prog 74 #[s0, .float .f64 (e8 r), .int .u8 102, .int .i64 (-1)] w fun e w' => ∃ (s : Value), e = .returned s ∧ Own ul 5 1 w' B s (shorts r).data.toList ∧ Below B w w' := by
 rcases okP_all r (List.mem_range.2 (by omega)) with h | ⟨q1, q2, q3, q4, q5, q6, q7, q8, q9, _⟩
 ·omega
 rcases okS_all r (List.mem_range.2 (by omega)) with h | ⟨p1, p2, p3, p4, p5, p6, p7, p8, p9, p10, p11⟩
 ·omega
 have s1 : e8 r / 4503599627370496 = exN r := by unfold exN; rfl
 have s2 : frN r < 4503599627370496 := by unfold frN; exact Nat.mod_lt _ (by decide)
 have s3 : mtN r = frN r + 4503599627370496 := by unfold mtN; rfl
 have s4 : (exN r : Int) - 1023 = EI r := by unfold EI; rfl
 have s5 : mtN r * 2048 = mS r := by unfold mS; rfl
 have s6 : eS r = EI r - 63 := by unfold eS; rfl
 have s7 : pwS r = decide (mS r = 9223372036854775808) := by unfold pwS; rfl
 have s8 : (if pwS r = true then -(((eS r + 11) * 631305 - 261663) / 2097152) else -((eS r + 11) * 78913 / 262144)) = pS r := by unfold pS; rfl
 generalize e8 r = X at *
 generalize exN r = ex at *
 generalize frN r = fr at *
 generalize mtN r = mt at *
 generalize EI r = E at *
 generalize mS r = m at *
 generalize eS r = e at *
 generalize pS r = p at *
 generalize pwS r = pw at *
 generalize shS r = sh at *
 generalize aS r = a at *
 obtain ⟨k, hk⟩ : ∃ k, k = (p - 4).toNat := ⟨_, rfl⟩
 have hkp : p = k + 4 := by omega
 obtain ⟨d, hd⟩ : ∃ d, d = 125 * r * 10 ^ k := ⟨_, rfl⟩
 have hdd : decDigits d = decDigits (125 * r) ++ List.replicate k 48 := by rw [hd]; exact dd_ten (125 * r) (by omega) k
 have hd1 : 1 ≤ d := by rw [hd]; exact Nat.mul_pos (by omega) (Nat.pow_pos (by decide))
 have hl5 := dd_len_le 4 (125 * r) (by omega)
 have hl3 : 3 ≤ (decDigits (125 * r)).length := by rw [dd_three (125 * r) (by omega)]; simp
 have hnl : nDigits d = (decDigits (125 * r)).length + k := by rw [← decDigits_length, hdd]; simp
 rw [← hk, ← hd] at p11
 obtain ⟨b0, hb0, hb1⟩ := dd_head d hd1
 refine (ftoa64_short X ex fr mt m d (nDigits d) ((decDigits (125 * r)).length - 3) E (-(p - 1)) q1 s1 q2 q3 q4 q5 q6 s2 s4 (by omega) q9 (by omega) (by omega) s5 B s0 w hB hs0 (fun w' hb => (hT w' hb).ff.pow) ?_ (by omega) (by omega) (by omega) rfl (by omega) (by omega) (lt_pow_nDigits _) b0 hb0 hb1 (by omega) (by omega) ?_).mono ?_
 ·intro w' hb
  rw [← s6]
  exact shortFloat_any m e p pw sh a (m + 1024) _ _ d p1 p2 p3 s7 (by omega) p4 s8 p5 p6 p7 rfl rfl rfl p8 p9 p11.symm (by rw [← p11]; exact p10) w' (fun w'' hb' => (hT w'' (hb.trans (hb'.mono hb.size))).pm)
 ·intro nd hz
  rw [hdd] at hz
  rcases Nat.eq_zero_or_pos nd with h | h
  ·omega
  ·have := lst_le h hz
   omega
 ·rintro e w' ⟨s, nd, rfl, hz, hn1, _, hown, hb⟩
  refine ⟨s, rfl, ?_, hb⟩
  rw [hdd] at hz hown
  rw [efg_short r nd k h1 hn1 hz] at hown
  exact hown
theorem shorts_zero : Q.efg (-1) [] 0 0 = (shorts 0).data.toList := by decide +kernel
theorem formatShort_any (r : Nat) (h2 : r ≤ 400) (w : World) (hT : ∀ w', Below w.heap.size w w' → FfTab2 w') : Calls Tryz.prog 56 #[.float .f64 (e8 r), .int .u8 102, .int .i64 (-1), .int .i64 64] w fun e w' => e = .returned (.string (shorts r)) ∧ Below w.heap.size w w' := by
 refine formatShort_out r w (formatShort_in r (shorts_ne h2) w fun B s0 wz hB hs hbz => ?_)
 rcases Nat.eq_zero_or_pos r with h | h
 ·subst h
  have h := ftoa64_zero B s0 wz hB hs
  rw [shorts_zero] at h
  exact h
 ·exact ftoa_short_any r h h2 wz (fun w' hb => hT w' (hbz.trans (hb.mono hbz.size))) B s0 hB hs
end Go.Proofs.YtfonjeoiallhhaaGreatDoor
/- The laid tables, off the row's condition. -/
namespace Go.Proofs.YtfonjeoiallhhaaGreatDoor
open Go.Shelf Go.RowKit Go.Sort Go.Lib
abbrev laid8 : List (String × DataW Unit) := [("math/bits.deBruijn32tab", Rows.laid_math_bits_deBruijn32tab), ("math/bits.deBruijn64tab", Rows.laid_math_bits_deBruijn64tab), ("internal/strconv.optimize", Rows.laid_internal_strconv_optimize), ("internal/strconv.uint64pow10", Rows.laid_internal_strconv_uint64pow10), ("bytes.ErrTooLarge", Rows.laid_bytes_ErrTooLarge), ("loop.example/pub-g03455/pub/m3u8.ErrPlaylistFull", Rows.laid_loop_example_pub_g03455_pub_m3u8_ErrPlaylistFull), ("internal/strconv.leftcheats", Rows.laid_internal_strconv_leftcheats), ("internal/strconv.pow10Tab", Rows.laid_internal_strconv_pow10Tab)]
theorem pm_struct : ∃ fs : Array Field, Tryz.prog.underlying 193 = some (.struct fs) ∧ fs.size = 2 ∧ (fs[0]?).map (fun f => (f.type, f.offset)) = some (25, 0) ∧ (fs[1]?).map (fun f => (f.type, f.offset)) = some (25, 1) := ⟨_, Tryz.underlying193, rfl, rfl, rfl⟩
theorem c64 : Tryz.prog.cellsOf 25 = 1 := by kernel_rfl
theorem cpm : Tryz.prog.cellsOf 193 = 2 := by kernel_rfl
theorem ctab : Tryz.prog.cellsOf 194 = 1392 := by kernel_rfl
/-- One row of the table. -/
theorem row_at {w : World} {base fuel i : Nat} {sp : Nat → Bool} {cs : List Value} {hi lo : Int} {p : List MemPlace} {rows : List (Nat × Nat)} {x : Nat × Nat}
  (h : DataW.trod (fun _ => ()) Tryz.prog w base sp false fuel 194 cs = some (.agg (rows.map fun x => .agg [.lit (.int .u64 x.1), .lit (.int .u64 x.2)]), p)) (hx : rows[i]? = some x) (hi696 : i < 696) :
  cs[i * 2]? = some (.int .u64 x.1) ∧ cs[i * 2 + 1]? = some (.int .u64 x.2) := by
 obtain ⟨fs, hst, hsz, hf0, hf1⟩ := pm_struct
 cases fuel with
 | zero => simp [DataW.trod] at h
 | succ fuel =>
  simp only [DataW.trod, Tryz.underlying194, cpm, ctab] at h
  split at h
  ·obtain ⟨xs, hm, he⟩ := Option.map_eq_some_iff.1 h
   have hxs := congrArg Prod.fst he
   simp only [DataW.agg.injEq] at hxs
   obtain ⟨b, hb, hf⟩ := mapM_at hm i i (by simp [hi696])
   have h2 : (xs.map (·.1))[i]? = some b.1 := by rw [List.getElem?_map, hb]; rfl
   rw [hxs, List.getElem?_map, hx] at h2
   have hb1 := Option.some.inj h2
   cases fuel with
   | zero => simp [DataW.trod] at hf
   | succ fuel =>
    simp only [DataW.trod, hst, cpm] at hf
    split at hf
    ·obtain ⟨ys, hm2, he2⟩ := Option.map_eq_some_iff.1 hf
     have hys : (DataW.agg (ys.map (·.1)) : DataW Unit) = b.1 := congrArg Prod.fst he2
     rw [← hb1, DataW.agg.injEq] at hys
     have hfl : fs.toList.length = 2 := by rw [Array.length_toList, hsz]
     obtain ⟨f0, e0⟩ : ∃ f, fs.toList[0]? = some f := ⟨_, List.getElem?_eq_getElem (by omega)⟩
     obtain ⟨f1, e1⟩ : ∃ f, fs.toList[1]? = some f := ⟨_, List.getElem?_eq_getElem (by omega)⟩
     have g0 : fs[0]? = some f0 := by simpa using e0
     have g1 : fs[1]? = some f1 := by simpa using e1
     rw [g0] at hf0
     rw [g1] at hf1
     have t0 := Option.some.inj hf0
     have t1 := Option.some.inj hf1
     simp only [Prod.mk.injEq] at t0 t1
     obtain ⟨y0, hy0, q0⟩ := mapM_at hm2 0 f0 e0
     obtain ⟨y1, hy1, q1⟩ := mapM_at hm2 1 f1 e1
     rw [t0.1, t0.2, c64] at q0
     rw [t1.1, t1.2, c64] at q1
     obtain ⟨z0, hc0, rfl, _⟩ := DataW.trod_int Tryz.underlying25 q0
     obtain ⟨z1, hc1, rfl, _⟩ := DataW.trod_int Tryz.underlying25 q1
     have r0 : (ys.map (·.1))[0]? = some (DataW.lit (.int .u64 z0) : DataW Unit) := by rw [List.getElem?_map, hy0]; rfl
     have r1 : (ys.map (·.1))[1]? = some (DataW.lit (.int .u64 z1) : DataW Unit) := by rw [List.getElem?_map, hy1]; rfl
     rw [hys] at r0 r1
     simp only [List.getElem?_cons_zero, List.getElem?_cons_succ, Option.some.injEq, DataW.lit.injEq, Lit.int.injEq, true_and] at r0 r1
     have k0 := congrArg (·[0]?) hc0
     have k1 := congrArg (·[0]?) hc1
     simp [List.getElem?_take, List.getElem?_drop] at k0 k1
     rw [r0, r1]
     exact ⟨by simpa using k0, by simpa using k1⟩
    ·cases hf
  ·cases h
theorem row351 : Pinned.pow10Rows[351]? = some (18014398509481984000, 0) := by kernel_rfl
theorem row352 : Pinned.pow10Rows[352]? = some (11258999068426240000, 0) := by kernel_rfl
theorem row363 : Pinned.pow10Rows[363]? = some (16384000000000000000, 0) := by kernel_rfl
theorem row364 : Pinned.pow10Rows[364]? = some (10240000000000000000, 0) := by kernel_rfl
theorem row365 : Pinned.pow10Rows[365]? = some (12800000000000000000, 0) := by kernel_rfl
theorem ff2_of_laid {W : World} (h : laidMetH Tryz.prog laid8 W) : FfTab2 W := by
 rw [Go.MakeChecks.laidMetH_plain _ _ _ (by kernel_rfl)] at h
 obtain ⟨ps, h, _⟩ := h
 obtain ⟨_, _, _, _, _, _, _, _, _, _, h, _⟩ := h
 obtain ⟨_, _, _, _, _, _, _, _, _, _, h, _⟩ := h
 obtain ⟨g3, t3, cs3, fuel3, p3, q3, hg3, ht3, hv3, hd3, h, _⟩ := h
 obtain ⟨g4, t4, cs4, fuel4, p4, q4, hg4, ht4, hv4, hd4, h, _⟩ := h
 obtain ⟨_, _, _, _, _, _, _, _, _, _, h, _⟩ := h
 obtain ⟨_, _, _, _, _, _, _, _, _, _, h, _⟩ := h
 obtain ⟨_, _, _, _, _, _, _, _, _, _, h, _⟩ := h
 obtain ⟨g7, t7, cs7, fuel7, p7, q7, hg7, ht7, hv7, hd7, h, _⟩ := h
 have n3 : Tryz.prog.globalNamed "internal/strconv.optimize" = some 4 := by kernel_rfl
 have n4 : Tryz.prog.globalNamed "internal/strconv.uint64pow10" = some 3 := by kernel_rfl
 have n7 : Tryz.prog.globalNamed "internal/strconv.pow10Tab" = some 7 := by kernel_rfl
 obtain rfl := Option.some.inj (n3.symm.trans hg3)
 obtain rfl := Option.some.inj (n4.symm.trans hg4)
 obtain rfl := Option.some.inj (n7.symm.trans hg7)
 obtain rfl := Option.some.inj ((show (Tryz.prog.globals[4]?).map (·.type) = some 4 by kernel_rfl).symm.trans ht3)
 obtain rfl := Option.some.inj ((show (Tryz.prog.globals[3]?).map (·.type) = some 152 by kernel_rfl).symm.trans ht4)
 obtain rfl := Option.some.inj ((show (Tryz.prog.globals[7]?).map (·.type) = some 194 by kernel_rfl).symm.trans ht7)
 have hpow : PowTab W := by
  show W.var? Tryz.prog "internal/strconv.uint64pow10" = some (pow10Tab.map fun z => Value.int .u64 z).toArray
  rw [hv4, ← cells_of_tab (zs := pow10Tab) Tryz.underlying152 Tryz.underlying25 c64 (by kernel_rfl) hd4]
 obtain ⟨b, hb, hx⟩ := DataW.trod_bool Tryz.underlying4 hd3
 have hbt : b = true := by
  have h5 : (DataW.lit (.bool true) : DataW Unit) = .lit (.bool b) := congrArg Prod.fst hx
  simp only [DataW.lit.injEq, Lit.bool.injEq] at h5
  exact h5.symm
 have hopt : W.cell? ⟨4, 0, none⟩ = some (.bool true) := by
  rw [World.var?_cell n3 hv3 0]
  have : cs3[0]? = cs3.toList[0]? := by simp
  rw [this, hb, hbt]
  rfl
 have hrow : ∀ (i : Nat) (x : Nat × Nat), Pinned.pow10Rows[i]? = some x → i < 696 → W.cell? ⟨7, i * 2, none⟩ = some (.int .u64 x.1) ∧ W.cell? ⟨7, i * 2 + 1, none⟩ = some (.int .u64 x.2) := by
  intro i x hx hi
  obtain ⟨h1, h2⟩ := row_at (hi := 0) (lo := 0) hd7 hx hi
  rw [World.var?_cell n7 hv7, World.var?_cell n7 hv7]
  exact ⟨by simpa using h1, by simpa using h2⟩
 obtain ⟨a1, a2⟩ := hrow 351 _ row351 (by decide)
 obtain ⟨a3, a4⟩ := hrow 352 _ row352 (by decide)
 obtain ⟨b1, b2⟩ := hrow 363 _ row363 (by decide)
 obtain ⟨b3, b4⟩ := hrow 364 _ row364 (by decide)
 obtain ⟨b5, b6⟩ := hrow 365 _ row365 (by decide)
 exact ⟨⟨hpow, ⟨a1, a2, a3, a4⟩, hopt⟩, ⟨b1, b2, b3, b4, b5, b6⟩⟩
end Go.Proofs.YtfonjeoiallhhaaGreatDoor
/- 'laws.FnArgs' returns true, for every input. Condition: the listed package-level variables hold what the program's text lays (tied by the card). The frame of the proof was written by the kit's proof-skeleton. -/
set_option maxRecDepth 100000
namespace Go.Proofs.YtfonjeoiallhhaaGreatDoor.fnArgs
open Go.ChangeShapes Go.WideShapes Go.ChangeAt Go.RowKit
open Go.ChangeMaps (open_string shut_string)
set_option linter.unusedVariables false

theorem own : ownKnob Tryz.prog.godebug = none := by kernel_rfl
theorem gFull : Tryz.prog.globalNamed "loop.example/pub-g03455/pub/m3u8.ErrPlaylistFull" = some 0 := by kernel_rfl
theorem tFull : (Tryz.prog.globals[0]?).map (·.type) = some 60 := by kernel_rfl
theorem laidOut : laidOutB Tryz.prog = true := by kernel_rfl

/-- WHAT THE WALK IS TOLD OF A SLICE OF INTEGERS THAT CAME IN: it is nil; or it leads to a row of 'cap' cells, the numbers 'zs' (the first 'len' are its elements, the rest its spare room), each fitting its kind. -/
def IsRow (k : IntKind) (w : World) (a : Option Addr) (len cap : Nat) (zs : List Int) : Prop :=
 (a = none ∧ len = 0 ∧ cap = 0 ∧ zs = []) ∨
 ∃ x, a = some x ∧ len ≤ cap ∧ cap ≤ maxLen ∧ zs.length = cap ∧ (∀ i, i < zs.length → w.cell? (x.add i) = some (.int k (zs.getD i 0))) ∧ ∀ n ∈ zs, (Lit.int k n).wf = true

theorem u32_nat {x : Int} (h : (Lit.int .u32 x).wf = true) : ∃ n : Nat, x = n ∧ n < 4294967296 := by
 simp only [Lit.wf, Bool.and_eq_true, decide_eq_true_eq] at h
 have h0 : IntKind.u32.min = 0 := by decide
 have h1 : IntKind.u32.max = 4294967295 := by decide
 rw [h0, h1] at h
 exact ⟨x.toNat, by omega, by omega⟩

theorem u8_nat {x : Int} (h : (Lit.int .u8 x).wf = true) : ∃ n : Nat, x = n ∧ n < 256 := by
 simp only [Lit.wf, Bool.and_eq_true, decide_eq_true_eq] at h
 have h0 : IntKind.u8.min = 0 := by decide
 have h1 : IntKind.u8.max = 255 := by decide
 rw [h0, h1] at h
 exact ⟨x.toNat, by omega, by omega⟩
theorem cell_next {w w' : World} {p : Addr} {v : Value} (hb : Below w.heap.size w w') (h : w.cell? p = some v) : w'.cell? p = some v := by
 rw [World.cell?_of_block (w := w)]
 ·exact h
 ·exact hb.block _ (World.block_lt_of_cell? w _ h)
theorem ff2_next {w w' : World} (h : FfTab2 w) (hb : Below w.heap.size w w') : FfTab2 w' :=
 ⟨h.ff.next hb, ⟨cell_next hb h.pm.h15, cell_next hb h.pm.l15, cell_next hb h.pm.h16, cell_next hb h.pm.l16, cell_next hb h.pm.h17, cell_next hb h.pm.l17⟩⟩
theorem walk (a0 : Option Addr) (len0 cap0 : Nat) (z0 : List Int) (a1 : Int) (a2 : Option Addr) (len2 cap2 : Nat) (z2 : List Int) (w : World) (w0 : IsRow .u32 w a0 len0 cap0 z0) (w1 : (Lit.int .u32 a1).wf = true) (w2 : IsRow .u8 w a2 len2 cap2 z2) (hT : laidMetH Tryz.prog laid8 w) :
  Calls Tryz.prog 3 #[.slice a0 len0 cap0, .int .u32 a1, .slice a2 len2 cap2] w fun e w' => e = .returned (.bool true) ∧ Below w.heap.size w w' := by
 have hU : U32s w a0 len0 := by
  rcases w0 with ⟨rfl, rfl, _, _⟩ | ⟨x, rfl, hl, _, hz, hc, hw⟩
  ·intro j hj; omega
  ·intro j hj
   have hjz : j < z0.length := by omega
   have h1 := hc j hjz
   have h2 := hw _ (List.getElem_mem hjz)
   rw [List.getD_eq_getElem?_getD, List.getElem?_eq_getElem hjz, Option.getD_some] at h1
   obtain ⟨y, hy, hy2⟩ := u32_nat h2
   exact ⟨x, y, rfl, by rw [h1, hy], hy2⟩
 have hU2 : U8s w a2 len2 := by
  rcases w2 with ⟨rfl, rfl, _, _⟩ | ⟨x, rfl, hl, _, hz, hc, hw⟩
  ·intro j hj; omega
  ·intro j hj
   have hjz : j < z2.length := by omega
   have h1 := hc j hjz
   have h2 := hw _ (List.getElem_mem hjz)
   rw [List.getD_eq_getElem?_getD, List.getElem?_eq_getElem hjz, Option.getD_some] at h1
   obtain ⟨y, hy, hy2⟩ := u8_nat h2
   exact ⟨x, y, rfl, by rw [h1, hy], hy2⟩
 have hle : len0 ≤ cap0 := by
  rcases w0 with ⟨_, rfl, rfl, _⟩ | ⟨x, _, hl, hm, _⟩
  ·omega
  ·exact hl
 obtain ⟨n, rfl, hn⟩ := u32_nat w1
 have hF := ff2_of_laid hT
 exact fnArgs_any wm_law a0 a2 len0 cap0 len2 cap2 n hn hle w hU hU2 (fun w' hb => (ff2_next hF hb).ff.pow) (fun x hx w' hb => formatShort_any x hx w' (fun w'' hb' => ff2_next (ff2_next hF hb) hb')) (fun x hx w' hb => formatSecs_all x hx w' (ff2_next hF hb).ff)

/-! ### THE ROW's STEP -/
theorem lifted (os : Go.Os) (started : os.Started) (H : Type) (enc : TypeId × Value → H) :
  ReturnsInHanded {} Tryz.checked os 3 .any (fun w args => (Rows.fnArgsSpec.pre enc Tryz.prog Tryz.f3 [] false w args ∧ laidMetH Tryz.prog laid8 w) ∧ sizedMet enc Tryz.prog Tryz.f3 (OpenSpec.ofChange Rows.fnArgsSpec) false w args)
   (Rows.fnArgsSpec.post enc Tryz.prog Tryz.f3 false true false false) := by
 refine returnsInHanded_of_change_and (C := Tryz.checked) (X := fun w _ => laidMetH Tryz.prog laid8 w) (fun _ _ _ hh h => h.of_heap hh) own started (by kernel_rfl) Tryz.func3
  (ChangeSpec.witness_shaped (enc := enc) (C := Tryz.checked) (os := os) (X := fun w _ => laidMetH Tryz.prog laid8 w) false (World.laidAll Tryz.prog os laid8) #[.slice none 0 0, .int .u32 0, .slice none 0 0] 8 (World.laidAll_os _ _ _)
   (World.shaped_of_ZipB (by kernel_rfl) (by kernel_rfl)) (by kernel_rfl) (by kernel_rfl) (by kernel_rfl)
   (by rw [MakeChecks.laidMetH_plain _ _ _ (by kernel_rfl)]; exact laidMet_laidAll _ (by kernel_rfl) (by kernel_rfl))) ?_
 intro W base args ds gs before hval0 hW _ _ hL _
 have hval : ∀ (j : Nat) t v, Tryz.f3.params[j]? = some t → args[j]? = some v → Value.okWide Tryz.prog W .any base t v := hval0
 have hW' := hW
 obtain ⟨p, q, hA0, hV0, rfl, hfz, hnd⟩ := hW
 have hA : DataW.TrodAll enc Tryz.prog W 0 (fun _ => true) true Tryz.f3.params.toList args.toList ds p := hA0
 have hV : DataW.TrodVars enc Tryz.prog W (fun _ => true) ["loop.example/pub-g03455/pub/m3u8.ErrPlaylistFull"] gs q := hV0
 rw [Tryz.params3] at hA hval
 obtain ⟨v0, vs0, d0, ds0, p0, q0, hargs, rfl, rfl, h0, r0⟩ := trodAll_cons hA
 obtain ⟨v1, vs1, d1, ds1, p1, q1, rfl, rfl, rfl, h1, r1⟩ := trodAll_cons r0
 obtain ⟨v2, vs2, d2, ds2, p2, q2, rfl, rfl, rfl, h2, r2⟩ := trodAll_cons r1
 obtain ⟨rfl, rfl, rfl⟩ := trodAll_nil r2
 obtain rfl : args = #[v0, v1, v2] := by cases args; simp_all
 obtain ⟨g, t, cs, fuel, d, p', rfl, hg, ht, hvar, hd, rfl⟩ := trodVars_one hV
 obtain rfl := Option.some.inj (gFull.symm.trans hg)
 obtain rfl := Option.some.inj (tFull.symm.trans ht)
 obtain ⟨old, hcs, ho, hx⟩ := held_of_trod_list Tryz.underlying60 hd
 simp only [Prod.mk.injEq] at hx
 obtain ⟨rfl, rfl⟩ := hx
 have hcs' : cs = #[old] := by
  cases cs
  simp_all
 subst hcs'
 obtain ⟨a0, len0, cap0, rfl⟩ := okWide_slice Tryz.underlying22 (hval 0 22 v0 rfl rfl)
 have k0 := h0
 have lt0 : ∀ x ∈ p0, x.block < W.heap.size := by obtain ⟨m, hm⟩ := k0; exact DataW.trod_lt m _ _ _ hm
 obtain ⟨z0, w0⟩ : ∃ zs, IsRow .u32 W a0 len0 cap0 zs := by
  obtain ⟨fuel, hf⟩ := h0
  rcases open_ints Tryz.underlying22 Tryz.underlying23 (by kernel_rfl) hf with ⟨hcs, _⟩ | ⟨x, l, c, zs, hcs, _, hl, hm, hz, _, hcell, hwz⟩
  ·simp [Value.cells] at hcs
   obtain ⟨rfl, rfl, rfl⟩ := hcs
   exact ⟨[], .inl ⟨rfl, rfl, rfl, rfl⟩⟩
  ·simp [Value.cells] at hcs
   obtain ⟨rfl, rfl, rfl⟩ := hcs
   exact ⟨zs, .inr ⟨_, rfl, hl, hm, by simpa using hz, hcell, hwz⟩⟩
 obtain ⟨a1, rfl, rfl, rfl, w1⟩ := open_int Tryz.underlying23 (hval 1 23 v1 rfl rfl) h1
 obtain ⟨a2, len2, cap2, rfl⟩ := okWide_slice Tryz.underlying24 (hval 2 24 v2 rfl rfl)
 have k2 := h2
 have lt2 : ∀ x ∈ p2, x.block < W.heap.size := by obtain ⟨m, hm⟩ := k2; exact DataW.trod_lt m _ _ _ hm
 obtain ⟨z2, w2⟩ : ∃ zs, IsRow .u8 W a2 len2 cap2 zs := by
  obtain ⟨fuel, hf⟩ := h2
  rcases open_ints Tryz.underlying24 Tryz.underlying5 (by kernel_rfl) hf with ⟨hcs, _⟩ | ⟨x, l, c, zs, hcs, _, hl, hm, hz, _, hcell, hwz⟩
  ·simp [Value.cells] at hcs
   obtain ⟨rfl, rfl, rfl⟩ := hcs
   exact ⟨[], .inl ⟨rfl, rfl, rfl, rfl⟩⟩
  ·simp [Value.cells] at hcs
   obtain ⟨rfl, rfl, rfl⟩ := hcs
   exact ⟨zs, .inr ⟨_, rfl, hl, hm, by simpa using hz, hcell, hwz⟩⟩
 have hlt : 0 < W.heap.size := by
  rcases Nat.eq_zero_or_pos W.heap.size with h | h
  ·simp [World.var?, gFull, Array.getElem?_eq_none (show W.heap.size ≤ 0 by omega)] at hvar
  ·exact h
 clear hA0 hval0
 refine (walk a0 len0 cap0 z0 a1 a2 len2 cap2 z2 W w0 w1 w2 hL).mono fun e W' ⟨he, bel⟩ => ?_
 subst he
 have hvar' := var?_below bel hg hlt hvar
 exact ⟨_, rfl, _, _, _, [], _, _, hW', trodAll_mk1 (shut_bool Tryz.underlying4 _), (trodAll_cons_mk (Below.trod laidOut (by kernel_rfl) (of_decide_eq_true (by kernel_rfl)) k0 bel lt0) (trodAll_cons_mk (shut_int Tryz.underlying23 w1) (trodAll_cons_mk (Below.trod laidOut (by kernel_rfl) (of_decide_eq_true (by kernel_rfl)) k2 bel lt2) trodAll_mk0))),
  trodVars_mk1 (enc := enc) (fuel := 1) (d := tok enc old) (p := []) hg ht hvar' (trod_held Tryz.underlying60 ho 0), bel.frame _, fun h => by cases h⟩

theorem over : Rows.fnArgsRow.holds Tryz.pinned (OpenSpec.ofChange Rows.fnArgsSpec) :=
 OpenClaim.holds_of_wide 3 Tryz.f3 rfl rfl rfl rfl rfl rfl rfl ⟨rfl, rfl, rfl, rfl, rfl⟩ rfl rfl rfl rfl rfl (by kernel_rfl) Tryz.func3 (by kernel_rfl)
  (of_decide_eq_true (by kernel_rfl)) (by unfold Func.isWrapper; first | (rw [if_pos (by decide +kernel)]; kernel_rfl) | (rw [if_neg (by decide +kernel)]; exact ⟨rfl, rfl⟩))
  (fun os started H enc _ => lifted os started H enc)

theorem proved : Rows.FnArgsSaid := over
end Go.Proofs.YtfonjeoiallhhaaGreatDoor.fnArgs
namespace Go.Proofs.YtfonjeoiallhhaaGreatDoor
theorem fnArgs_holds : Rows.FnArgsSaid := fnArgs.proved
#print axioms fnArgs_holds
end Go.Proofs.YtfonjeoiallhhaaGreatDoor
/- THE TIED CARD of 'laws.FnArgs': the row holds and what it lists of package-level variables is tied to the program's text. No further condition. -/
namespace Go.Proofs.YtfonjeoiallhhaaGreatDoor
open Go

theorem fnArgs_card : Rows.FnArgsCardSaid :=
 Claim7.holds_tied_plain_at .later [] [.data, .data, .data, .data, .sentinel, .sentinel, .pinned, .pinned] true (true, "114864beb26c37fdc888932894c52f18c8d382e6e34cd83a3ecfc6e03f49b97f") false
  fnArgs_holds (fun _ h => by cases h) (by kernel_rfl) (fun _ h => by cases h) fnArgs_row_tie rfl ⟨rfl, rfl⟩ (by kernel_rfl) rfl
  (fun f fn hf hfn => by
   obtain rfl : f = 3 := Option.some.inj ((show Tryz.prog.funcNamed "loop.example/pub-g03455/laws.FnArgs" = some 3 by kernel_rfl).symm.trans hf) |>.symm
   obtain rfl : fn = Tryz.f3 := (Option.some.inj (Tryz.func3.symm.trans hfn)).symm
   exact ⟨by kernel_rfl, fun j t ht => by
    rw [Tryz.params3] at ht
    have hm : t ∈ [22, 23, 24] := by simpa using Array.mem_of_getElem? ht
    have hall : ([22, 23, 24].all fun u => !Tryz.prog.wantsStandIn u) = true := by kernel_rfl
    exact (show Tryz.prog.wantsStandIn t = false by simpa using List.all_eq_true.1 hall t hm)⟩)
  (by kernel_rfl)
#print axioms fnArgs_card
end Go.Proofs.YtfonjeoiallhhaaGreatDoor
