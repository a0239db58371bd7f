/- Joined: Zd, En, Lb. -/
import Derived.Test.YtflppablgdegcaaGreatDoorN05
import Derived.Test.YtflppablgdegcaaGreatDoorLays
import Derived.Lib.LaidTab
import Derived.Lib.Space
import Derived.LaidEql
import Derived.Lib.AtoiErrMem
import Derived.Lib.SlBytesRow
/- The walks of zzDigitsOf and zzToken. -/
set_option maxRecDepth 100000
set_option maxHeartbeats 8000000
namespace Go.Proofs.YtflppablgdegcaaGreatDoor
open Go.RowKit
def isD (b : UInt8) : Bool := decide (48 ≤ b.toNat) && decide (b.toNat ≤ 57)
/-- How many signs of a kind stand ahead of a text. -/
def runN (p : UInt8 → Bool) (s : ByteArray) : Nat := (s.data.toList.takeWhile p).length
theorem takeWhile_len {p : UInt8 → Bool} : ∀ (l : List UInt8) (n : Nat), (∀ j b, j < n → l[j]? = some b → p b = true) → n ≤ l.length → (∀ b, l[n]? = some b → p b = false) → (l.takeWhile p).length = n
 | [], n, _, hl, _ => by simp at hl; simp [hl]
 | b :: l, 0, _, _, he => by
  have := he b rfl
  simp [this]
 | b :: l, n + 1, h, hl, he => by
  have h0 := h 0 b (by omega) rfl
  rw [List.takeWhile_cons, if_pos h0, List.length_cons, takeWhile_len l n (fun j c hj hc => h (j + 1) c (by omega) hc) (by simpa using hl) he]
theorem runN_eq {p : UInt8 → Bool} {s : ByteArray} {n : Nat} (hn : n ≤ s.size) (h : ∀ j (hj : j < s.size), j < n → p (s[j]'hj) = true) (he : ∀ (hj : n < s.size), p (s[n]'hj) = false) : runN p s = n := by
 refine takeWhile_len _ n (fun j b hj hb => ?_) (by rw [len_list]; exact hn) (fun b hb => ?_)
 ·have hjs : j < s.size := by omega
  rw [at_list hjs] at hb
  rw [← Option.some.inj hb]; exact h j hjs hj
 ·have hjs : n < s.size := by rw [← len_list]; exact (List.getElem?_eq_some_iff.1 hb).1
  rw [at_list hjs] at hb
  rw [← Option.some.inj hb]; exact he hjs
theorem dig_cases (s : ByteArray) (n : Nat) (hn : n ≤ s.size) : (n = s.size) ∨ (∃ h : n < s.size, (s[n]'h).toNat < 48) ∨ (∃ h : n < s.size, 48 ≤ (s[n]'h).toNat ∧ 57 < (s[n]'h).toNat) ∨ (∃ h : n < s.size, 48 ≤ (s[n]'h).toNat ∧ (s[n]'h).toNat ≤ 57) := by
 rcases Nat.lt_or_ge n s.size with h | h
 ·rcases Nat.lt_or_ge (s[n]'h).toNat 48 with h1 | h1
  ·exact .inr (.inl ⟨h, h1⟩)
  ·rcases Nat.lt_or_ge 57 (s[n]'h).toNat with h2 | h2
   ·exact .inr (.inr (.inl ⟨h, h1, h2⟩))
   ·exact .inr (.inr (.inr ⟨h, h1, h2⟩))
 ·exact .inl (by omega)
theorem zzDigitsOf_any (s : ByteArray) (hs : s.size ≤ 1000000000) (w : World) : Calls Tryz.prog 89 #[.string s] w fun e w' => e = .returned (.tuple #[.string (s.extract 0 (runN isD s)), .string (s.extract (runN isD s) s.size)]) ∧ Below w.heap.size w w' := by
 refine calls_of_ev Tryz.func89 rfl (show 1 ≤ 29 from by decide) ?_
 intro a hE
 have hE : Ev 29 ((0, .string s) :: []) a := hE
 have hS : Sv 29 ((0, .string s) :: []) [] (fun _ => False) w a w := Sv.start hE _ _
 clear hE
 refine wp_seq ?_
 refine wp_region_lit ?_
 refine sv_r (v := .string (⟨#[]⟩)) hS ex_ac fun a hS => ?_
 refine sv_r (v := .string (⟨#[]⟩)) hS ex_ac fun a hS => ?_
 refine wpList_nil ?_
 replace hS := hS.cut [3, 2, 0]
 show Code.wp _ _ _ _ _
 refine wp_seq ?_
 refine wp_region_lit ?_
 refine sv_r (v := .int .i64 0) hS ex_ac fun a hS => ?_
 refine wpList_nil ?_
 replace hS := hS.cut [4, 3, 2, 0]
 show Code.wp _ _ _ _ _
 refine wp_seq ?_
 refine wp_block ?_
 refine wp_loop (fun a w' => ∃ n : Nat, n ≤ s.size ∧ (∀ j (hj : j < s.size), j < n → isD (s[j]'hj) = true) ∧ Sv 29 ((4, .int .i64 ((n : Nat) : Int)) :: (0, .string s) :: []) [] (fun _ => False) w a w') (fun a _ => (s.size + 1 - (intOf (a.eval (.tmp 4))).toNat)) ⟨0, by omega, (fun j hj h => absurd h (Nat.not_lt_zero _)), hS.pick rfl⟩ ?_
 clear hS
 rintro a w1 ⟨n, hn, hd, hS⟩
 have hS0 := hS.get 4 rfl
 obtain hq | ⟨hlt, hq⟩ | ⟨hlt, hq1, hq2⟩ | ⟨hlt, hq1, hq2⟩ := dig_cases s n hn
 ·have hrun : runN isD s = n := runN_eq hn hd (fun hj => absurd hj (by omega))
  refine wp_seq ?_
  refine wp_seq ?_
  refine wp_region_lit ?_
  refine sv_r (v := .int .i64 ((n : Nat) : Int)) hS (ex_mv (hS.get 4 rfl)) fun a hS => ?_
  refine sv_r (v := .string s) hS (ex_mv (hS.get 0 rfl)) fun a hS => ?_
  refine sv_r (v := .int .i64 ((s.size : Nat) : Int)) hS (ex_slen (ats := #[]) (hS.get 6 rfl)) fun a hS => ?_
  refine sv_r (v := .bool false) hS (ei_lss (hS.get 5 rfl) (hS.get 7 rfl) (by rw [decide_eq_false_iff_not]; omega)) fun a hS => ?_
  refine sv_r (v := .bool false) hS (ex_mv (hS.get 8 rfl)) fun a hS => ?_
  refine sv_goff hS rfl rfl (hS.get 9 rfl) rfl rfl (by decide) ?_
  intro a hS
  refine sv_goff hS rfl rfl (hS.get 9 rfl) rfl rfl (by decide) ?_
  intro a hS
  refine sv_goff hS rfl rfl (hS.get 9 rfl) rfl rfl (by decide) ?_
  intro a hS
  refine sv_goff hS rfl rfl (hS.get 9 rfl) rfl rfl (by decide) ?_
  intro a hS
  refine sv_r (v := .bool false) hS (ex_pickF (hS.get 9 rfl) rfl) fun a hS => ?_
  refine sv_r (v := .bool false) hS (ex_mv (hS.get 14 rfl)) fun a hS => ?_
  refine sv_goff hS rfl rfl (hS.get 15 rfl) rfl rfl (by decide) ?_
  intro a hS
  refine sv_goff hS rfl rfl (hS.get 15 rfl) rfl rfl (by decide) ?_
  intro a hS
  refine sv_goff hS rfl rfl (hS.get 15 rfl) rfl rfl (by decide) ?_
  intro a hS
  refine sv_goff hS rfl rfl (hS.get 15 rfl) rfl rfl (by decide) ?_
  intro a hS
  refine sv_r (v := .bool false) hS (ex_pickF (hS.get 15 rfl) rfl) fun a hS => ?_
  refine wpList_nil ?_
  replace hS := hS.cut [20, 4, 0]
  show Code.wp _ _ _ _ _
  refine cond_f (hS.get 20 rfl) ?_
  refine wp_exit ?_
  simp only [Exit.inBlock, Exit.then, if_true]
  show Code.wp _ _ _ _ _
  refine wp_seq ?_
  refine wp_region_og1 (n := 29) 7 [Asr.eq (.string s), Asr.eq (.int .i64 ((n : Nat) : Int)), Asr.eq (.string (s.extract 0 n)), Asr.eq (.string s), Asr.eq (.int .i64 ((n : Nat) : Int)), Asr.eq (.string (s.extract n s.size)), Asr.eq (.string (s.extract 0 n))] (by kernel_rfl) (by kernel_rfl) (by kernel_rfl) (by simp) (by kernel_rfl) hS.ev.size ⟨⟩ ?_ ?_
  ·simp only [List.take_succ_cons, List.take_zero]
   refine ⟨?_, ?_, ?_, ?_, ?_, ?_, ?_, trivial⟩
   ·intro a wx c
    have e_0 : a.eval (.tmp 0) = .string s := c.outE (by decide +kernel) (hS.get 0 rfl)
    clear c
    exact og_val (ex_mv e_0) rfl
   ·intro a wx c
    have e_4 : a.eval (.tmp 4) = .int .i64 ((n : Nat) : Int) := c.outE (by decide +kernel) (hS.get 4 rfl)
    clear c
    exact og_val (ex_mv e_4) rfl
   ·intro a wx c
    have e_23 : a.eval (.tmp 23) = .string s := c.slot 0 _ (by decide +kernel) rfl
    have e_24 : a.eval (.tmp 24) = .int .i64 ((n : Nat) : Int) := c.slot 1 _ (by decide +kernel) rfl
    clear c
    exact og_val (ex_ssh e_23 e_24 (by omega)) rfl
   ·intro a wx c
    have e_0 : a.eval (.tmp 0) = .string s := c.outE (by decide +kernel) (hS.get 0 rfl)
    clear c
    exact og_val (ex_mv e_0) rfl
   ·intro a wx c
    have e_4 : a.eval (.tmp 4) = .int .i64 ((n : Nat) : Int) := c.outE (by decide +kernel) (hS.get 4 rfl)
    clear c
    exact og_val (ex_mv e_4) rfl
   ·intro a wx c
    have e_26 : a.eval (.tmp 26) = .string s := c.slot 3 _ (by decide +kernel) rfl
    have e_27 : a.eval (.tmp 27) = .int .i64 ((n : Nat) : Int) := c.slot 4 _ (by decide +kernel) rfl
    clear c
    exact og_val (ex_ssl e_26 e_27 (by omega)) rfl
   ·intro a wx c
    have e_25 : a.eval (.tmp 25) = .string (s.extract 0 n) := c.slot 2 _ (by decide +kernel) rfl
    clear c
    exact og_val (ex_as e_25) rfl
  ·intro a w2 c hbw2
   replace hS : Sv 29 ((2, .string (s.extract 0 n)) :: (28, .string (s.extract n s.size)) :: (0, .string s) :: (4, .int .i64 ((n : Nat) : Int)) :: (20, .bool false) :: []) [] (fun _ => False) w a w2 := ((((((hS.ogh c).know (c.outE (by decide +kernel) (hS.get 20 rfl))).know (c.outE (by decide +kernel) (hS.get 4 rfl))).know (c.outE (by decide +kernel) (hS.get 0 rfl))).know (c.slot 5 _ (by decide +kernel) rfl)).know (c.slot 6 _ (by decide +kernel) rfl))
   clear c
   simp only [List.drop_succ_cons, List.drop_zero]
   refine sv_r (v := .string (s.extract n s.size)) hS (ex_as (hS.get 28 rfl)) fun a hS => ?_
   refine wpList_nil ?_
   replace hS := hS.cut [3, 2, 0, 4, 20]
   show Code.wp _ _ _ _ _
   refine wp_ret ?_
   try simp only [Exit.inBlock, Exit.then]
   exact ret2_of_ev hS.ev rfl (hS.get 2 rfl) (hS.get 3 rfl) ⟨by rw [hrun], hS.toBelow⟩
 ·have hrun : runN isD s = n := runN_eq hn hd (fun _ => by simp [isD]; omega)
  refine wp_seq ?_
  refine wp_seq ?_
  refine wp_region_lit ?_
  refine sv_r (v := .int .i64 ((n : Nat) : Int)) hS (ex_mv (hS.get 4 rfl)) fun a hS => ?_
  refine sv_r (v := .string s) hS (ex_mv (hS.get 0 rfl)) fun a hS => ?_
  refine sv_r (v := .int .i64 ((s.size : Nat) : Int)) hS (ex_slen (ats := #[]) (hS.get 6 rfl)) fun a hS => ?_
  refine sv_r (v := .bool true) hS (ei_lss (hS.get 5 rfl) (hS.get 7 rfl) (by rw [decide_eq_true_iff]; omega)) fun a hS => ?_
  refine sv_r (v := .bool true) hS (ex_mv (hS.get 8 rfl)) fun a hS => ?_
  refine sv_g (v := .string s) hS (hS.get 9 rfl) (ex_mv (hS.get 0 rfl)) fun a hS => ?_
  refine sv_g (v := .int .i64 ((n : Nat) : Int)) hS (hS.get 9 rfl) (ex_mv (hS.get 4 rfl)) fun a hS => ?_
  refine sv_g (v := .int .u8 (((s[n]'hlt).toNat : Nat) : Int)) hS (hS.get 9 rfl) (ex_sidx (hS.get 10 rfl) (hS.get 11 rfl) hlt) fun a hS => ?_
  refine sv_g (v := .bool false) hS (hS.get 9 rfl) (ei_geq (hS.get 12 rfl) rfl (by rw [decide_eq_false_iff_not]; omega)) fun a hS => ?_
  refine sv_r (v := .bool false) hS (ex_pickT (hS.get 9 rfl) (hS.get 13 rfl)) fun a hS => ?_
  refine sv_r (v := .bool false) hS (ex_mv (hS.get 14 rfl)) fun a hS => ?_
  refine sv_goff hS rfl rfl (hS.get 15 rfl) rfl rfl (by decide) ?_
  intro a hS
  refine sv_goff hS rfl rfl (hS.get 15 rfl) rfl rfl (by decide) ?_
  intro a hS
  refine sv_goff hS rfl rfl (hS.get 15 rfl) rfl rfl (by decide) ?_
  intro a hS
  refine sv_goff hS rfl rfl (hS.get 15 rfl) rfl rfl (by decide) ?_
  intro a hS
  refine sv_r (v := .bool false) hS (ex_pickF (hS.get 15 rfl) rfl) fun a hS => ?_
  refine wpList_nil ?_
  replace hS := hS.cut [20, 4, 0]
  show Code.wp _ _ _ _ _
  refine cond_f (hS.get 20 rfl) ?_
  refine wp_exit ?_
  simp only [Exit.inBlock, Exit.then, if_true]
  show Code.wp _ _ _ _ _
  refine wp_seq ?_
  refine wp_region_og1 (n := 29) 7 [Asr.eq (.string s), Asr.eq (.int .i64 ((n : Nat) : Int)), Asr.eq (.string (s.extract 0 n)), Asr.eq (.string s), Asr.eq (.int .i64 ((n : Nat) : Int)), Asr.eq (.string (s.extract n s.size)), Asr.eq (.string (s.extract 0 n))] (by kernel_rfl) (by kernel_rfl) (by kernel_rfl) (by simp) (by kernel_rfl) hS.ev.size ⟨⟩ ?_ ?_
  ·simp only [List.take_succ_cons, List.take_zero]
   refine ⟨?_, ?_, ?_, ?_, ?_, ?_, ?_, trivial⟩
   ·intro a wx c
    have e_0 : a.eval (.tmp 0) = .string s := c.outE (by decide +kernel) (hS.get 0 rfl)
    clear c
    exact og_val (ex_mv e_0) rfl
   ·intro a wx c
    have e_4 : a.eval (.tmp 4) = .int .i64 ((n : Nat) : Int) := c.outE (by decide +kernel) (hS.get 4 rfl)
    clear c
    exact og_val (ex_mv e_4) rfl
   ·intro a wx c
    have e_23 : a.eval (.tmp 23) = .string s := c.slot 0 _ (by decide +kernel) rfl
    have e_24 : a.eval (.tmp 24) = .int .i64 ((n : Nat) : Int) := c.slot 1 _ (by decide +kernel) rfl
    clear c
    exact og_val (ex_ssh e_23 e_24 (by omega)) rfl
   ·intro a wx c
    have e_0 : a.eval (.tmp 0) = .string s := c.outE (by decide +kernel) (hS.get 0 rfl)
    clear c
    exact og_val (ex_mv e_0) rfl
   ·intro a wx c
    have e_4 : a.eval (.tmp 4) = .int .i64 ((n : Nat) : Int) := c.outE (by decide +kernel) (hS.get 4 rfl)
    clear c
    exact og_val (ex_mv e_4) rfl
   ·intro a wx c
    have e_26 : a.eval (.tmp 26) = .string s := c.slot 3 _ (by decide +kernel) rfl
    have e_27 : a.eval (.tmp 27) = .int .i64 ((n : Nat) : Int) := c.slot 4 _ (by decide +kernel) rfl
    clear c
    exact og_val (ex_ssl e_26 e_27 (by omega)) rfl
   ·intro a wx c
    have e_25 : a.eval (.tmp 25) = .string (s.extract 0 n) := c.slot 2 _ (by decide +kernel) rfl
    clear c
    exact og_val (ex_as e_25) rfl
  ·intro a w3 c hbw3
   replace hS : Sv 29 ((2, .string (s.extract 0 n)) :: (28, .string (s.extract n s.size)) :: (0, .string s) :: (4, .int .i64 ((n : Nat) : Int)) :: (20, .bool false) :: []) [] (fun _ => False) w a w3 := ((((((hS.ogh c).know (c.outE (by decide +kernel) (hS.get 20 rfl))).know (c.outE (by decide +kernel) (hS.get 4 rfl))).know (c.outE (by decide +kernel) (hS.get 0 rfl))).know (c.slot 5 _ (by decide +kernel) rfl)).know (c.slot 6 _ (by decide +kernel) rfl))
   clear c
   simp only [List.drop_succ_cons, List.drop_zero]
   refine sv_r (v := .string (s.extract n s.size)) hS (ex_as (hS.get 28 rfl)) fun a hS => ?_
   refine wpList_nil ?_
   replace hS := hS.cut [3, 2, 0, 4, 20]
   show Code.wp _ _ _ _ _
   refine wp_ret ?_
   try simp only [Exit.inBlock, Exit.then]
   exact ret2_of_ev hS.ev rfl (hS.get 2 rfl) (hS.get 3 rfl) ⟨by rw [hrun], hS.toBelow⟩
 ·have hrun : runN isD s = n := runN_eq hn hd (fun _ => by simp [isD]; omega)
  refine wp_seq ?_
  refine wp_seq ?_
  refine wp_region_lit ?_
  refine sv_r (v := .int .i64 ((n : Nat) : Int)) hS (ex_mv (hS.get 4 rfl)) fun a hS => ?_
  refine sv_r (v := .string s) hS (ex_mv (hS.get 0 rfl)) fun a hS => ?_
  refine sv_r (v := .int .i64 ((s.size : Nat) : Int)) hS (ex_slen (ats := #[]) (hS.get 6 rfl)) fun a hS => ?_
  refine sv_r (v := .bool true) hS (ei_lss (hS.get 5 rfl) (hS.get 7 rfl) (by rw [decide_eq_true_iff]; omega)) fun a hS => ?_
  refine sv_r (v := .bool true) hS (ex_mv (hS.get 8 rfl)) fun a hS => ?_
  refine sv_g (v := .string s) hS (hS.get 9 rfl) (ex_mv (hS.get 0 rfl)) fun a hS => ?_
  refine sv_g (v := .int .i64 ((n : Nat) : Int)) hS (hS.get 9 rfl) (ex_mv (hS.get 4 rfl)) fun a hS => ?_
  refine sv_g (v := .int .u8 (((s[n]'hlt).toNat : Nat) : Int)) hS (hS.get 9 rfl) (ex_sidx (hS.get 10 rfl) (hS.get 11 rfl) hlt) fun a hS => ?_
  refine sv_g (v := .bool true) hS (hS.get 9 rfl) (ei_geq (hS.get 12 rfl) rfl (by rw [decide_eq_true_iff]; omega)) fun a hS => ?_
  refine sv_r (v := .bool true) hS (ex_pickT (hS.get 9 rfl) (hS.get 13 rfl)) fun a hS => ?_
  refine sv_r (v := .bool true) hS (ex_mv (hS.get 14 rfl)) fun a hS => ?_
  refine sv_g (v := .string s) hS (hS.get 15 rfl) (ex_mv (hS.get 0 rfl)) fun a hS => ?_
  refine sv_g (v := .int .i64 ((n : Nat) : Int)) hS (hS.get 15 rfl) (ex_mv (hS.get 4 rfl)) fun a hS => ?_
  refine sv_g (v := .int .u8 (((s[n]'hlt).toNat : Nat) : Int)) hS (hS.get 15 rfl) (ex_sidx (hS.get 16 rfl) (hS.get 17 rfl) hlt) fun a hS => ?_
  refine sv_g (v := .bool false) hS (hS.get 15 rfl) (ei_leq (hS.get 18 rfl) rfl (by rw [decide_eq_false_iff_not]; omega)) fun a hS => ?_
  refine sv_r (v := .bool false) hS (ex_pickT (hS.get 15 rfl) (hS.get 19 rfl)) fun a hS => ?_
  refine wpList_nil ?_
  replace hS := hS.cut [20, 4, 0]
  show Code.wp _ _ _ _ _
  refine cond_f (hS.get 20 rfl) ?_
  refine wp_exit ?_
  simp only [Exit.inBlock, Exit.then, if_true]
  show Code.wp _ _ _ _ _
  refine wp_seq ?_
  refine wp_region_og1 (n := 29) 7 [Asr.eq (.string s), Asr.eq (.int .i64 ((n : Nat) : Int)), Asr.eq (.string (s.extract 0 n)), Asr.eq (.string s), Asr.eq (.int .i64 ((n : Nat) : Int)), Asr.eq (.string (s.extract n s.size)), Asr.eq (.string (s.extract 0 n))] (by kernel_rfl) (by kernel_rfl) (by kernel_rfl) (by simp) (by kernel_rfl) hS.ev.size ⟨⟩ ?_ ?_
  ·simp only [List.take_succ_cons, List.take_zero]
   refine ⟨?_, ?_, ?_, ?_, ?_, ?_, ?_, trivial⟩
   ·intro a wx c
    have e_0 : a.eval (.tmp 0) = .string s := c.outE (by decide +kernel) (hS.get 0 rfl)
    clear c
    exact og_val (ex_mv e_0) rfl
   ·intro a wx c
    have e_4 : a.eval (.tmp 4) = .int .i64 ((n : Nat) : Int) := c.outE (by decide +kernel) (hS.get 4 rfl)
    clear c
    exact og_val (ex_mv e_4) rfl
   ·intro a wx c
    have e_23 : a.eval (.tmp 23) = .string s := c.slot 0 _ (by decide +kernel) rfl
    have e_24 : a.eval (.tmp 24) = .int .i64 ((n : Nat) : Int) := c.slot 1 _ (by decide +kernel) rfl
    clear c
    exact og_val (ex_ssh e_23 e_24 (by omega)) rfl
   ·intro a wx c
    have e_0 : a.eval (.tmp 0) = .string s := c.outE (by decide +kernel) (hS.get 0 rfl)
    clear c
    exact og_val (ex_mv e_0) rfl
   ·intro a wx c
    have e_4 : a.eval (.tmp 4) = .int .i64 ((n : Nat) : Int) := c.outE (by decide +kernel) (hS.get 4 rfl)
    clear c
    exact og_val (ex_mv e_4) rfl
   ·intro a wx c
    have e_26 : a.eval (.tmp 26) = .string s := c.slot 3 _ (by decide +kernel) rfl
    have e_27 : a.eval (.tmp 27) = .int .i64 ((n : Nat) : Int) := c.slot 4 _ (by decide +kernel) rfl
    clear c
    exact og_val (ex_ssl e_26 e_27 (by omega)) rfl
   ·intro a wx c
    have e_25 : a.eval (.tmp 25) = .string (s.extract 0 n) := c.slot 2 _ (by decide +kernel) rfl
    clear c
    exact og_val (ex_as e_25) rfl
  ·intro a w4 c hbw4
   replace hS : Sv 29 ((2, .string (s.extract 0 n)) :: (28, .string (s.extract n s.size)) :: (0, .string s) :: (4, .int .i64 ((n : Nat) : Int)) :: (20, .bool false) :: []) [] (fun _ => False) w a w4 := ((((((hS.ogh c).know (c.outE (by decide +kernel) (hS.get 20 rfl))).know (c.outE (by decide +kernel) (hS.get 4 rfl))).know (c.outE (by decide +kernel) (hS.get 0 rfl))).know (c.slot 5 _ (by decide +kernel) rfl)).know (c.slot 6 _ (by decide +kernel) rfl))
   clear c
   simp only [List.drop_succ_cons, List.drop_zero]
   refine sv_r (v := .string (s.extract n s.size)) hS (ex_as (hS.get 28 rfl)) fun a hS => ?_
   refine wpList_nil ?_
   replace hS := hS.cut [3, 2, 0, 4, 20]
   show Code.wp _ _ _ _ _
   refine wp_ret ?_
   try simp only [Exit.inBlock, Exit.then]
   exact ret2_of_ev hS.ev rfl (hS.get 2 rfl) (hS.get 3 rfl) ⟨by rw [hrun], hS.toBelow⟩
 ·have hdn : isD (s[n]'hlt) = true := by simp [isD]; omega
  refine wp_seq ?_
  refine wp_seq ?_
  refine wp_region_lit ?_
  refine sv_r (v := .int .i64 ((n : Nat) : Int)) hS (ex_mv (hS.get 4 rfl)) fun a hS => ?_
  refine sv_r (v := .string s) hS (ex_mv (hS.get 0 rfl)) fun a hS => ?_
  refine sv_r (v := .int .i64 ((s.size : Nat) : Int)) hS (ex_slen (ats := #[]) (hS.get 6 rfl)) fun a hS => ?_
  refine sv_r (v := .bool true) hS (ei_lss (hS.get 5 rfl) (hS.get 7 rfl) (by rw [decide_eq_true_iff]; omega)) fun a hS => ?_
  refine sv_r (v := .bool true) hS (ex_mv (hS.get 8 rfl)) fun a hS => ?_
  refine sv_g (v := .string s) hS (hS.get 9 rfl) (ex_mv (hS.get 0 rfl)) fun a hS => ?_
  refine sv_g (v := .int .i64 ((n : Nat) : Int)) hS (hS.get 9 rfl) (ex_mv (hS.get 4 rfl)) fun a hS => ?_
  refine sv_g (v := .int .u8 (((s[n]'hlt).toNat : Nat) : Int)) hS (hS.get 9 rfl) (ex_sidx (hS.get 10 rfl) (hS.get 11 rfl) hlt) fun a hS => ?_
  refine sv_g (v := .bool true) hS (hS.get 9 rfl) (ei_geq (hS.get 12 rfl) rfl (by rw [decide_eq_true_iff]; omega)) fun a hS => ?_
  refine sv_r (v := .bool true) hS (ex_pickT (hS.get 9 rfl) (hS.get 13 rfl)) fun a hS => ?_
  refine sv_r (v := .bool true) hS (ex_mv (hS.get 14 rfl)) fun a hS => ?_
  refine sv_g (v := .string s) hS (hS.get 15 rfl) (ex_mv (hS.get 0 rfl)) fun a hS => ?_
  refine sv_g (v := .int .i64 ((n : Nat) : Int)) hS (hS.get 15 rfl) (ex_mv (hS.get 4 rfl)) fun a hS => ?_
  refine sv_g (v := .int .u8 (((s[n]'hlt).toNat : Nat) : Int)) hS (hS.get 15 rfl) (ex_sidx (hS.get 16 rfl) (hS.get 17 rfl) hlt) fun a hS => ?_
  refine sv_g (v := .bool true) hS (hS.get 15 rfl) (ei_leq (hS.get 18 rfl) rfl (by rw [decide_eq_true_iff]; omega)) fun a hS => ?_
  refine sv_r (v := .bool true) hS (ex_pickT (hS.get 15 rfl) (hS.get 19 rfl)) fun a hS => ?_
  refine wpList_nil ?_
  replace hS := hS.cut [20, 4, 0]
  show Code.wp _ _ _ _ _
  refine cond_t (hS.get 20 rfl) ?_
  refine wp_skip ?_
  show Code.wp _ _ _ _ _
  refine wp_block ?_
  refine wp_region_lit ?_
  refine sv_r (v := .int .i64 ((n : Nat) : Int)) hS (ex_mv (hS.get 4 rfl)) fun a hS => ?_
  refine sv_r (v := .int .i64 ((n + 1 : Nat) : Int)) hS (ei_add (hS.get 21 rfl) rfl (by rw [IntKind.wrap_i64]; omega)) fun a hS => ?_
  refine sv_r (v := .int .i64 ((n + 1 : Nat) : Int)) hS (ex_as (hS.get 22 rfl)) fun a hS => ?_
  refine wpList_nil ?_
  replace hS := hS.cut [4, 20, 0]
  refine ⟨⟨n + 1, by omega, (fun j hj hji => by by_cases e : j = n; (· subst e; exact hdn); (· exact hd j hj (by omega))), hS.pick rfl⟩, ?_⟩
  have h1 := hS.get 4 rfl; rw [h1]; rw [hS0]; simp only [intOf]; omega
/-- The signs that stand in a text. -/
def inS (chars : ByteArray) (b : UInt8) : Bool := decide (0 ≤ zix chars b)
theorem ext_one_eq {s : ByteArray} {n : Nat} (h : n < s.size) : s.extract n (n + 1) = ⟨#[s[n]'h]⟩ := ba_eq (by rw [ext_one h])
theorem tok_cases (chars s : ByteArray) (n : Nat) (hn : n ≤ s.size) : (n = s.size) ∨ (∃ h : n < s.size, inS chars (s[n]'h) = false) ∨ (∃ h : n < s.size, inS chars (s[n]'h) = true) := by
 rcases Nat.lt_or_ge n s.size with h | h
 ·cases hc : inS chars (s[n]'h) with
  | false => exact .inr (.inl ⟨h, hc⟩)
  | true => exact .inr (.inr ⟨h, hc⟩)
 ·exact .inl (by omega)
theorem zzToken_any (s chars : ByteArray) (hs : s.size ≤ 1000000000) (hc : chars.size ≤ 1000000000) (hb : ∀ h : 0 < s.size, (s[0]'h).toNat ≠ 32 ∧ (s[0]'h).toNat ≠ 9) (w : World) : Calls Tryz.prog 88 #[.string s, .string chars] w fun e w' => e = .returned (.tuple #[.string (s.extract 0 (runN (inS chars) s)), .string (s.extract (runN (inS chars) s) s.size)]) ∧ Below w.heap.size w w' := by
 refine calls_of_ev Tryz.func88 rfl (show 2 ≤ 44 from by decide) ?_
 intro a hE
 have hE : Ev 44 ((0, .string s) :: (1, .string chars) :: []) a := hE
 have hS : Sv 44 ((0, .string s) :: (1, .string chars) :: []) [] (fun _ => False) w a w := Sv.start hE _ _
 clear hE
 refine wp_seq ?_
 refine wp_region_lit ?_
 refine sv_r (v := .string (⟨#[]⟩)) hS ex_ac fun a hS => ?_
 refine sv_r (v := .string (⟨#[]⟩)) hS ex_ac fun a hS => ?_
 refine wpList_nil ?_
 replace hS := hS.cut [5, 4, 0, 1]
 show Code.wp _ _ _ _ _
 refine wp_seq ?_
 refine wp_block ?_
 refine wp_loop (fun a w' => ∃ u : Unit, u = u ∧ Sv 44 ((0, .string s) :: (1, .string chars) :: []) [] (fun _ => False) w a w') (fun a _ => 0) ⟨(), rfl, hS.pick rfl⟩ ?_
 clear hS
 rintro a w1 ⟨u, hu, hS⟩
 rcases Nat.eq_zero_or_pos s.size with h0 | h0
 ·refine wp_seq ?_
  refine wp_seq ?_
  refine wp_region_lit ?_
  refine sv_r (v := .string s) hS (ex_mv (hS.get 0 rfl)) fun a hS => ?_
  refine sv_r (v := .int .i64 ((s.size : Nat) : Int)) hS (ex_slen (ats := #[]) (hS.get 7 rfl)) fun a hS => ?_
  refine sv_r (v := .bool false) hS (ei_gtr (hS.get 8 rfl) rfl (by rw [decide_eq_false_iff_not]; omega)) fun a hS => ?_
  refine sv_r (v := .bool false) hS (ex_mv (hS.get 9 rfl)) fun a hS => ?_
  refine sv_goff hS rfl rfl (hS.get 10 rfl) rfl rfl (by decide) ?_
  intro a hS
  refine sv_goff hS rfl rfl (hS.get 10 rfl) rfl rfl (by decide) ?_
  intro a hS
  refine sv_goff hS rfl rfl (hS.get 10 rfl) rfl rfl (by decide) ?_
  intro a hS
  refine sv_goff hS rfl rfl (hS.get 10 rfl) rfl rfl (by decide) ?_
  intro a hS
  refine sv_goffu hS rfl rfl (hS.get 14 rfl) rfl (by decide) ?_
  intro a hS
  refine sv_goffu hS rfl rfl (hS.get 14 rfl) rfl (by decide) ?_
  intro a hS
  refine sv_goffu hS rfl rfl (hS.get 14 rfl) rfl (by decide) ?_
  intro a hS
  refine sv_goff hS rfl rfl (hS.get 10 rfl) rfl rfl (by decide) ?_
  intro a hS
  refine sv_r (v := .bool false) hS (ex_pickF (hS.get 10 rfl) rfl) fun a hS => ?_
  refine wpList_nil ?_
  replace hS := hS.cut [19, 0, 1]
  show Code.wp _ _ _ _ _
  refine cond_f (hS.get 19 rfl) ?_
  refine wp_exit ?_
  simp only [Exit.inBlock, Exit.then, if_true]
  show Code.wp _ _ _ _ _
  refine wp_seq ?_
  refine wp_region_lit ?_
  refine sv_r (v := .int .i64 0) hS ex_ac fun a hS => ?_
  refine wpList_nil ?_
  replace hS := hS.cut [6, 19, 0, 1]
  show Code.wp _ _ _ _ _
  refine wp_seq ?_
  refine wp_block ?_
  refine wp_loop (fun a w' => ∃ n : Nat, n ≤ s.size ∧ (∀ j (hj : j < s.size), j < n → inS chars (s[j]'hj) = true) ∧ Sv 44 ((6, .int .i64 ((n : Nat) : Int)) :: (0, .string s) :: (1, .string chars) :: []) [] (fun _ => False) w a w') (fun a _ => (s.size + 1 - (intOf (a.eval (.tmp 6))).toNat)) ⟨0, by omega, (fun j hj h => absurd h (Nat.not_lt_zero _)), hS.pick rfl⟩ ?_
  clear hS
  rintro a w2 ⟨n, hn, hd, hS⟩
  have hS0 := hS.get 6 rfl
  obtain hq | ⟨hlt, hq⟩ | ⟨hlt, hq⟩ := tok_cases chars s n hn
  ·have hrun : runN (inS chars) s = n := runN_eq hn hd (fun hj => absurd hj (by omega))
   refine wp_seq ?_
   refine wp_seq ?_
   refine wp_region_lit ?_
   refine sv_r (v := .int .i64 ((n : Nat) : Int)) hS (ex_mv (hS.get 6 rfl)) fun a hS => ?_
   refine sv_r (v := .string s) hS (ex_mv (hS.get 0 rfl)) fun a hS => ?_
   refine sv_r (v := .int .i64 ((s.size : Nat) : Int)) hS (ex_slen (ats := #[]) (hS.get 23 rfl)) fun a hS => ?_
   refine sv_r (v := .bool false) hS (ei_lss (hS.get 22 rfl) (hS.get 24 rfl) (by rw [decide_eq_false_iff_not]; omega)) fun a hS => ?_
   refine sv_r (v := .bool false) hS (ex_mv (hS.get 25 rfl)) fun a hS => ?_
   refine sv_goff hS rfl rfl (hS.get 26 rfl) rfl rfl (by decide) ?_
   intro a hS
   refine sv_goff hS rfl rfl (hS.get 26 rfl) rfl rfl (by decide) ?_
   intro a hS
   refine sv_goff hS rfl rfl (hS.get 26 rfl) rfl rfl (by decide) ?_
   intro a hS
   refine sv_goff hS rfl rfl (hS.get 26 rfl) rfl rfl (by decide) ?_
   intro a hS
   refine sv_goff hS rfl rfl (hS.get 26 rfl) rfl rfl (by decide) ?_
   intro a hS
   refine sv_goff hS rfl rfl (hS.get 26 rfl) rfl rfl (by decide) ?_
   intro a hS
   refine sv_goff hS rfl rfl (hS.get 26 rfl) rfl rfl (by decide) ?_
   intro a hS
   refine sv_goff hS rfl rfl (hS.get 26 rfl) rfl rfl (by decide) ?_
   intro a hS
   refine sv_r (v := .bool false) hS (ex_pickF (hS.get 26 rfl) rfl) fun a hS => ?_
   refine wpList_nil ?_
   replace hS := hS.cut [35, 6, 0, 1]
   show Code.wp _ _ _ _ _
   refine cond_f (hS.get 35 rfl) ?_
   refine wp_exit ?_
   simp only [Exit.inBlock, Exit.then, if_true]
   show Code.wp _ _ _ _ _
   refine wp_seq ?_
   refine wp_region_og1 (n := 44) 7 [Asr.eq (.string s), Asr.eq (.int .i64 ((n : Nat) : Int)), Asr.eq (.string (s.extract 0 n)), Asr.eq (.string s), Asr.eq (.int .i64 ((n : Nat) : Int)), Asr.eq (.string (s.extract n s.size)), Asr.eq (.string (s.extract 0 n))] (by kernel_rfl) (by kernel_rfl) (by kernel_rfl) (by simp) (by kernel_rfl) hS.ev.size ⟨⟩ ?_ ?_
   ·simp only [List.take_succ_cons, List.take_zero]
    refine ⟨?_, ?_, ?_, ?_, ?_, ?_, ?_, trivial⟩
    ·intro a wx c
     have e_0 : a.eval (.tmp 0) = .string s := c.outE (by decide +kernel) (hS.get 0 rfl)
     clear c
     exact og_val (ex_mv e_0) rfl
    ·intro a wx c
     have e_6 : a.eval (.tmp 6) = .int .i64 ((n : Nat) : Int) := c.outE (by decide +kernel) (hS.get 6 rfl)
     clear c
     exact og_val (ex_mv e_6) rfl
    ·intro a wx c
     have e_38 : a.eval (.tmp 38) = .string s := c.slot 0 _ (by decide +kernel) rfl
     have e_39 : a.eval (.tmp 39) = .int .i64 ((n : Nat) : Int) := c.slot 1 _ (by decide +kernel) rfl
     clear c
     exact og_val (ex_ssh e_38 e_39 (by omega)) rfl
    ·intro a wx c
     have e_0 : a.eval (.tmp 0) = .string s := c.outE (by decide +kernel) (hS.get 0 rfl)
     clear c
     exact og_val (ex_mv e_0) rfl
    ·intro a wx c
     have e_6 : a.eval (.tmp 6) = .int .i64 ((n : Nat) : Int) := c.outE (by decide +kernel) (hS.get 6 rfl)
     clear c
     exact og_val (ex_mv e_6) rfl
    ·intro a wx c
     have e_41 : a.eval (.tmp 41) = .string s := c.slot 3 _ (by decide +kernel) rfl
     have e_42 : a.eval (.tmp 42) = .int .i64 ((n : Nat) : Int) := c.slot 4 _ (by decide +kernel) rfl
     clear c
     exact og_val (ex_ssl e_41 e_42 (by omega)) rfl
    ·intro a wx c
     have e_40 : a.eval (.tmp 40) = .string (s.extract 0 n) := c.slot 2 _ (by decide +kernel) rfl
     clear c
     exact og_val (ex_as e_40) rfl
   ·intro a w3 c hbw3
    replace hS : Sv 44 ((4, .string (s.extract 0 n)) :: (43, .string (s.extract n s.size)) :: (1, .string chars) :: (0, .string s) :: (6, .int .i64 ((n : Nat) : Int)) :: (35, .bool false) :: []) [] (fun _ => False) w a w3 := (((((((hS.ogh c).know (c.outE (by decide +kernel) (hS.get 35 rfl))).know (c.outE (by decide +kernel) (hS.get 6 rfl))).know (c.outE (by decide +kernel) (hS.get 0 rfl))).know (c.outE (by decide +kernel) (hS.get 1 rfl))).know (c.slot 5 _ (by decide +kernel) rfl)).know (c.slot 6 _ (by decide +kernel) rfl))
    clear c
    simp only [List.drop_succ_cons, List.drop_zero]
    refine sv_r (v := .string (s.extract n s.size)) hS (ex_as (hS.get 43 rfl)) fun a hS => ?_
    refine wpList_nil ?_
    replace hS := hS.cut [5, 4, 1, 0, 6, 35]
    show Code.wp _ _ _ _ _
    refine wp_ret ?_
    try simp only [Exit.inBlock, Exit.then]
    exact ret2_of_ev hS.ev rfl (hS.get 4 rfl) (hS.get 5 rfl) ⟨by rw [hrun], hS.toBelow⟩
  ·have hrun : runN (inS chars) s = n := runN_eq hn hd (fun _ => hq)
   have hq1 : ¬ (0 ≤ zix chars (s[n]'hlt)) := of_decide_eq_false hq
   refine wp_seq ?_
   refine wp_seq ?_
   refine wp_region_lit ?_
   refine sv_r (v := .int .i64 ((n : Nat) : Int)) hS (ex_mv (hS.get 6 rfl)) fun a hS => ?_
   refine sv_r (v := .string s) hS (ex_mv (hS.get 0 rfl)) fun a hS => ?_
   refine sv_r (v := .int .i64 ((s.size : Nat) : Int)) hS (ex_slen (ats := #[]) (hS.get 23 rfl)) fun a hS => ?_
   refine sv_r (v := .bool true) hS (ei_lss (hS.get 22 rfl) (hS.get 24 rfl) (by rw [decide_eq_true_iff]; omega)) fun a hS => ?_
   refine sv_r (v := .bool true) hS (ex_mv (hS.get 25 rfl)) fun a hS => ?_
   refine sv_g (v := .string chars) hS (hS.get 26 rfl) (ex_mv (hS.get 1 rfl)) fun a hS => ?_
   refine sv_g (v := .string s) hS (hS.get 26 rfl) (ex_mv (hS.get 0 rfl)) fun a hS => ?_
   refine sv_g (v := .int .i64 ((n : Nat) : Int)) hS (hS.get 26 rfl) (ex_mv (hS.get 6 rfl)) fun a hS => ?_
   refine sv_g (v := .int .i64 ((n : Nat) : Int)) hS (hS.get 26 rfl) (ex_mv (hS.get 6 rfl)) fun a hS => ?_
   refine sv_g (v := .int .i64 ((n + 1 : Nat) : Int)) hS (hS.get 26 rfl) (ei_add (hS.get 30 rfl) rfl (by rw [IntKind.wrap_i64]; omega)) fun a hS => ?_
   refine sv_g (v := .string (s.extract n (n + 1))) hS (hS.get 26 rfl) (ex_sslh (hS.get 28 rfl) (hS.get 29 rfl) (hS.get 31 rfl) (by omega) (by omega)) fun a hS => ?_
   refine sv_gcallv (v := .int .i64 (zix chars (s[n]'hlt))) hS rfl rfl (hS.get 26 rfl) rfl (by decide) (ex_call2 cf_m3u8_zzIndex (hS.get 27 rfl) (hS.get 32 rfl)) (by rw [ext_one_eq hlt]; exact zzIndex_any chars _ hc _) ?_
   intro a w4 hbw4 hS
   refine sv_g (v := .bool false) hS (hS.get 26 rfl) (ei_geq (hS.get 33 rfl) rfl (by rw [decide_eq_false_iff_not]; exact hq1)) fun a hS => ?_
   refine sv_r (v := .bool false) hS (ex_pickT (hS.get 26 rfl) (hS.get 34 rfl)) fun a hS => ?_
   refine wpList_nil ?_
   replace hS := hS.cut [35, 6, 0, 1]
   show Code.wp _ _ _ _ _
   refine cond_f (hS.get 35 rfl) ?_
   refine wp_exit ?_
   simp only [Exit.inBlock, Exit.then, if_true]
   show Code.wp _ _ _ _ _
   refine wp_seq ?_
   refine wp_region_og1 (n := 44) 7 [Asr.eq (.string s), Asr.eq (.int .i64 ((n : Nat) : Int)), Asr.eq (.string (s.extract 0 n)), Asr.eq (.string s), Asr.eq (.int .i64 ((n : Nat) : Int)), Asr.eq (.string (s.extract n s.size)), Asr.eq (.string (s.extract 0 n))] (by kernel_rfl) (by kernel_rfl) (by kernel_rfl) (by simp) (by kernel_rfl) hS.ev.size ⟨⟩ ?_ ?_
   ·simp only [List.take_succ_cons, List.take_zero]
    refine ⟨?_, ?_, ?_, ?_, ?_, ?_, ?_, trivial⟩
    ·intro a wx c
     have e_0 : a.eval (.tmp 0) = .string s := c.outE (by decide +kernel) (hS.get 0 rfl)
     clear c
     exact og_val (ex_mv e_0) rfl
    ·intro a wx c
     have e_6 : a.eval (.tmp 6) = .int .i64 ((n : Nat) : Int) := c.outE (by decide +kernel) (hS.get 6 rfl)
     clear c
     exact og_val (ex_mv e_6) rfl
    ·intro a wx c
     have e_38 : a.eval (.tmp 38) = .string s := c.slot 0 _ (by decide +kernel) rfl
     have e_39 : a.eval (.tmp 39) = .int .i64 ((n : Nat) : Int) := c.slot 1 _ (by decide +kernel) rfl
     clear c
     exact og_val (ex_ssh e_38 e_39 (by omega)) rfl
    ·intro a wx c
     have e_0 : a.eval (.tmp 0) = .string s := c.outE (by decide +kernel) (hS.get 0 rfl)
     clear c
     exact og_val (ex_mv e_0) rfl
    ·intro a wx c
     have e_6 : a.eval (.tmp 6) = .int .i64 ((n : Nat) : Int) := c.outE (by decide +kernel) (hS.get 6 rfl)
     clear c
     exact og_val (ex_mv e_6) rfl
    ·intro a wx c
     have e_41 : a.eval (.tmp 41) = .string s := c.slot 3 _ (by decide +kernel) rfl
     have e_42 : a.eval (.tmp 42) = .int .i64 ((n : Nat) : Int) := c.slot 4 _ (by decide +kernel) rfl
     clear c
     exact og_val (ex_ssl e_41 e_42 (by omega)) rfl
    ·intro a wx c
     have e_40 : a.eval (.tmp 40) = .string (s.extract 0 n) := c.slot 2 _ (by decide +kernel) rfl
     clear c
     exact og_val (ex_as e_40) rfl
   ·intro a w5 c hbw5
    replace hS : Sv 44 ((4, .string (s.extract 0 n)) :: (43, .string (s.extract n s.size)) :: (1, .string chars) :: (0, .string s) :: (6, .int .i64 ((n : Nat) : Int)) :: (35, .bool false) :: []) [] (fun _ => False) w a w5 := (((((((hS.ogh c).know (c.outE (by decide +kernel) (hS.get 35 rfl))).know (c.outE (by decide +kernel) (hS.get 6 rfl))).know (c.outE (by decide +kernel) (hS.get 0 rfl))).know (c.outE (by decide +kernel) (hS.get 1 rfl))).know (c.slot 5 _ (by decide +kernel) rfl)).know (c.slot 6 _ (by decide +kernel) rfl))
    clear c
    simp only [List.drop_succ_cons, List.drop_zero]
    refine sv_r (v := .string (s.extract n s.size)) hS (ex_as (hS.get 43 rfl)) fun a hS => ?_
    refine wpList_nil ?_
    replace hS := hS.cut [5, 4, 1, 0, 6, 35]
    show Code.wp _ _ _ _ _
    refine wp_ret ?_
    try simp only [Exit.inBlock, Exit.then]
    exact ret2_of_ev hS.ev rfl (hS.get 4 rfl) (hS.get 5 rfl) ⟨by rw [hrun], hS.toBelow⟩
  ·have hq1 : 0 ≤ zix chars (s[n]'hlt) := of_decide_eq_true hq
   refine wp_seq ?_
   refine wp_seq ?_
   refine wp_region_lit ?_
   refine sv_r (v := .int .i64 ((n : Nat) : Int)) hS (ex_mv (hS.get 6 rfl)) fun a hS => ?_
   refine sv_r (v := .string s) hS (ex_mv (hS.get 0 rfl)) fun a hS => ?_
   refine sv_r (v := .int .i64 ((s.size : Nat) : Int)) hS (ex_slen (ats := #[]) (hS.get 23 rfl)) fun a hS => ?_
   refine sv_r (v := .bool true) hS (ei_lss (hS.get 22 rfl) (hS.get 24 rfl) (by rw [decide_eq_true_iff]; omega)) fun a hS => ?_
   refine sv_r (v := .bool true) hS (ex_mv (hS.get 25 rfl)) fun a hS => ?_
   refine sv_g (v := .string chars) hS (hS.get 26 rfl) (ex_mv (hS.get 1 rfl)) fun a hS => ?_
   refine sv_g (v := .string s) hS (hS.get 26 rfl) (ex_mv (hS.get 0 rfl)) fun a hS => ?_
   refine sv_g (v := .int .i64 ((n : Nat) : Int)) hS (hS.get 26 rfl) (ex_mv (hS.get 6 rfl)) fun a hS => ?_
   refine sv_g (v := .int .i64 ((n : Nat) : Int)) hS (hS.get 26 rfl) (ex_mv (hS.get 6 rfl)) fun a hS => ?_
   refine sv_g (v := .int .i64 ((n + 1 : Nat) : Int)) hS (hS.get 26 rfl) (ei_add (hS.get 30 rfl) rfl (by rw [IntKind.wrap_i64]; omega)) fun a hS => ?_
   refine sv_g (v := .string (s.extract n (n + 1))) hS (hS.get 26 rfl) (ex_sslh (hS.get 28 rfl) (hS.get 29 rfl) (hS.get 31 rfl) (by omega) (by omega)) fun a hS => ?_
   refine sv_gcallv (v := .int .i64 (zix chars (s[n]'hlt))) hS rfl rfl (hS.get 26 rfl) rfl (by decide) (ex_call2 cf_m3u8_zzIndex (hS.get 27 rfl) (hS.get 32 rfl)) (by rw [ext_one_eq hlt]; exact zzIndex_any chars _ hc _) ?_
   intro a w6 hbw6 hS
   refine sv_g (v := .bool true) hS (hS.get 26 rfl) (ei_geq (hS.get 33 rfl) rfl (by rw [decide_eq_true_iff]; exact hq1)) fun a hS => ?_
   refine sv_r (v := .bool true) hS (ex_pickT (hS.get 26 rfl) (hS.get 34 rfl)) fun a hS => ?_
   refine wpList_nil ?_
   replace hS := hS.cut [35, 6, 0, 1]
   show Code.wp _ _ _ _ _
   refine cond_t (hS.get 35 rfl) ?_
   refine wp_skip ?_
   show Code.wp _ _ _ _ _
   refine wp_block ?_
   refine wp_region_lit ?_
   refine sv_r (v := .int .i64 ((n : Nat) : Int)) hS (ex_mv (hS.get 6 rfl)) fun a hS => ?_
   refine sv_r (v := .int .i64 ((n + 1 : Nat) : Int)) hS (ei_add (hS.get 36 rfl) rfl (by rw [IntKind.wrap_i64]; omega)) fun a hS => ?_
   refine sv_r (v := .int .i64 ((n + 1 : Nat) : Int)) hS (ex_as (hS.get 37 rfl)) fun a hS => ?_
   refine wpList_nil ?_
   replace hS := hS.cut [6, 35, 0, 1]
   refine ⟨⟨n + 1, by omega, (fun j hj hji => by by_cases e : j = n; (· subst e; exact hq); (· exact hd j hj (by omega))), hS.pick rfl⟩, ?_⟩
   have h1 := hS.get 6 rfl; rw [h1]; rw [hS0]; simp only [intOf]; omega
 ·obtain ⟨hb1, hb2⟩ := hb h0
  refine wp_seq ?_
  refine wp_seq ?_
  refine wp_region_lit ?_
  refine sv_r (v := .string s) hS (ex_mv (hS.get 0 rfl)) fun a hS => ?_
  refine sv_r (v := .int .i64 ((s.size : Nat) : Int)) hS (ex_slen (ats := #[]) (hS.get 7 rfl)) fun a hS => ?_
  refine sv_r (v := .bool true) hS (ei_gtr (hS.get 8 rfl) rfl (by rw [decide_eq_true_iff]; omega)) fun a hS => ?_
  refine sv_r (v := .bool true) hS (ex_mv (hS.get 9 rfl)) fun a hS => ?_
  refine sv_g (v := .string s) hS (hS.get 10 rfl) (ex_mv (hS.get 0 rfl)) fun a hS => ?_
  refine sv_g (v := .int .u8 (((s[0]'h0).toNat : Nat) : Int)) hS (hS.get 10 rfl) (ex_sidx (i := 0) (hS.get 11 rfl) rfl h0) fun a hS => ?_
  refine sv_g (v := .bool false) hS (hS.get 10 rfl) (ei_eql (hS.get 12 rfl) rfl (by rw [decide_eq_false_iff_not]; omega)) fun a hS => ?_
  refine sv_g (v := .bool false) hS (hS.get 10 rfl) (ex_mv (hS.get 13 rfl)) fun a hS => ?_
  refine sv_g (v := .string s) hS (hS.get 14 rfl) (ex_mv (hS.get 0 rfl)) fun a hS => ?_
  refine sv_g (v := .int .u8 (((s[0]'h0).toNat : Nat) : Int)) hS (hS.get 14 rfl) (ex_sidx (i := 0) (hS.get 15 rfl) rfl h0) fun a hS => ?_
  refine sv_g (v := .bool false) hS (hS.get 14 rfl) (ei_eql (hS.get 16 rfl) rfl (by rw [decide_eq_false_iff_not]; omega)) fun a hS => ?_
  refine sv_g (v := .bool false) hS (hS.get 10 rfl) (ex_pickF (hS.get 14 rfl) (hS.get 17 rfl)) fun a hS => ?_
  refine sv_r (v := .bool false) hS (ex_pickT (hS.get 10 rfl) (hS.get 18 rfl)) fun a hS => ?_
  refine wpList_nil ?_
  replace hS := hS.cut [19, 0, 1]
  show Code.wp _ _ _ _ _
  refine cond_f (hS.get 19 rfl) ?_
  refine wp_exit ?_
  simp only [Exit.inBlock, Exit.then, if_true]
  show Code.wp _ _ _ _ _
  refine wp_seq ?_
  refine wp_region_lit ?_
  refine sv_r (v := .int .i64 0) hS ex_ac fun a hS => ?_
  refine wpList_nil ?_
  replace hS := hS.cut [6, 19, 0, 1]
  show Code.wp _ _ _ _ _
  refine wp_seq ?_
  refine wp_block ?_
  refine wp_loop (fun a w' => ∃ n : Nat, n ≤ s.size ∧ (∀ j (hj : j < s.size), j < n → inS chars (s[j]'hj) = true) ∧ Sv 44 ((6, .int .i64 ((n : Nat) : Int)) :: (0, .string s) :: (1, .string chars) :: []) [] (fun _ => False) w a w') (fun a _ => (s.size + 1 - (intOf (a.eval (.tmp 6))).toNat)) ⟨0, by omega, (fun j hj h => absurd h (Nat.not_lt_zero _)), hS.pick rfl⟩ ?_
  clear hS
  rintro a w7 ⟨n, hn, hd, hS⟩
  have hS0 := hS.get 6 rfl
  obtain hq | ⟨hlt, hq⟩ | ⟨hlt, hq⟩ := tok_cases chars s n hn
  ·have hrun : runN (inS chars) s = n := runN_eq hn hd (fun hj => absurd hj (by omega))
   refine wp_seq ?_
   refine wp_seq ?_
   refine wp_region_lit ?_
   refine sv_r (v := .int .i64 ((n : Nat) : Int)) hS (ex_mv (hS.get 6 rfl)) fun a hS => ?_
   refine sv_r (v := .string s) hS (ex_mv (hS.get 0 rfl)) fun a hS => ?_
   refine sv_r (v := .int .i64 ((s.size : Nat) : Int)) hS (ex_slen (ats := #[]) (hS.get 23 rfl)) fun a hS => ?_
   refine sv_r (v := .bool false) hS (ei_lss (hS.get 22 rfl) (hS.get 24 rfl) (by rw [decide_eq_false_iff_not]; omega)) fun a hS => ?_
   refine sv_r (v := .bool false) hS (ex_mv (hS.get 25 rfl)) fun a hS => ?_
   refine sv_goff hS rfl rfl (hS.get 26 rfl) rfl rfl (by decide) ?_
   intro a hS
   refine sv_goff hS rfl rfl (hS.get 26 rfl) rfl rfl (by decide) ?_
   intro a hS
   refine sv_goff hS rfl rfl (hS.get 26 rfl) rfl rfl (by decide) ?_
   intro a hS
   refine sv_goff hS rfl rfl (hS.get 26 rfl) rfl rfl (by decide) ?_
   intro a hS
   refine sv_goff hS rfl rfl (hS.get 26 rfl) rfl rfl (by decide) ?_
   intro a hS
   refine sv_goff hS rfl rfl (hS.get 26 rfl) rfl rfl (by decide) ?_
   intro a hS
   refine sv_goff hS rfl rfl (hS.get 26 rfl) rfl rfl (by decide) ?_
   intro a hS
   refine sv_goff hS rfl rfl (hS.get 26 rfl) rfl rfl (by decide) ?_
   intro a hS
   refine sv_r (v := .bool false) hS (ex_pickF (hS.get 26 rfl) rfl) fun a hS => ?_
   refine wpList_nil ?_
   replace hS := hS.cut [35, 6, 0, 1]
   show Code.wp _ _ _ _ _
   refine cond_f (hS.get 35 rfl) ?_
   refine wp_exit ?_
   simp only [Exit.inBlock, Exit.then, if_true]
   show Code.wp _ _ _ _ _
   refine wp_seq ?_
   refine wp_region_og1 (n := 44) 7 [Asr.eq (.string s), Asr.eq (.int .i64 ((n : Nat) : Int)), Asr.eq (.string (s.extract 0 n)), Asr.eq (.string s), Asr.eq (.int .i64 ((n : Nat) : Int)), Asr.eq (.string (s.extract n s.size)), Asr.eq (.string (s.extract 0 n))] (by kernel_rfl) (by kernel_rfl) (by kernel_rfl) (by simp) (by kernel_rfl) hS.ev.size ⟨⟩ ?_ ?_
   ·simp only [List.take_succ_cons, List.take_zero]
    refine ⟨?_, ?_, ?_, ?_, ?_, ?_, ?_, trivial⟩
    ·intro a wx c
     have e_0 : a.eval (.tmp 0) = .string s := c.outE (by decide +kernel) (hS.get 0 rfl)
     clear c
     exact og_val (ex_mv e_0) rfl
    ·intro a wx c
     have e_6 : a.eval (.tmp 6) = .int .i64 ((n : Nat) : Int) := c.outE (by decide +kernel) (hS.get 6 rfl)
     clear c
     exact og_val (ex_mv e_6) rfl
    ·intro a wx c
     have e_38 : a.eval (.tmp 38) = .string s := c.slot 0 _ (by decide +kernel) rfl
     have e_39 : a.eval (.tmp 39) = .int .i64 ((n : Nat) : Int) := c.slot 1 _ (by decide +kernel) rfl
     clear c
     exact og_val (ex_ssh e_38 e_39 (by omega)) rfl
    ·intro a wx c
     have e_0 : a.eval (.tmp 0) = .string s := c.outE (by decide +kernel) (hS.get 0 rfl)
     clear c
     exact og_val (ex_mv e_0) rfl
    ·intro a wx c
     have e_6 : a.eval (.tmp 6) = .int .i64 ((n : Nat) : Int) := c.outE (by decide +kernel) (hS.get 6 rfl)
     clear c
     exact og_val (ex_mv e_6) rfl
    ·intro a wx c
     have e_41 : a.eval (.tmp 41) = .string s := c.slot 3 _ (by decide +kernel) rfl
     have e_42 : a.eval (.tmp 42) = .int .i64 ((n : Nat) : Int) := c.slot 4 _ (by decide +kernel) rfl
     clear c
     exact og_val (ex_ssl e_41 e_42 (by omega)) rfl
    ·intro a wx c
     have e_40 : a.eval (.tmp 40) = .string (s.extract 0 n) := c.slot 2 _ (by decide +kernel) rfl
     clear c
     exact og_val (ex_as e_40) rfl
   ·intro a w8 c hbw8
    replace hS : Sv 44 ((4, .string (s.extract 0 n)) :: (43, .string (s.extract n s.size)) :: (1, .string chars) :: (0, .string s) :: (6, .int .i64 ((n : Nat) : Int)) :: (35, .bool false) :: []) [] (fun _ => False) w a w8 := (((((((hS.ogh c).know (c.outE (by decide +kernel) (hS.get 35 rfl))).know (c.outE (by decide +kernel) (hS.get 6 rfl))).know (c.outE (by decide +kernel) (hS.get 0 rfl))).know (c.outE (by decide +kernel) (hS.get 1 rfl))).know (c.slot 5 _ (by decide +kernel) rfl)).know (c.slot 6 _ (by decide +kernel) rfl))
    clear c
    simp only [List.drop_succ_cons, List.drop_zero]
    refine sv_r (v := .string (s.extract n s.size)) hS (ex_as (hS.get 43 rfl)) fun a hS => ?_
    refine wpList_nil ?_
    replace hS := hS.cut [5, 4, 1, 0, 6, 35]
    show Code.wp _ _ _ _ _
    refine wp_ret ?_
    try simp only [Exit.inBlock, Exit.then]
    exact ret2_of_ev hS.ev rfl (hS.get 4 rfl) (hS.get 5 rfl) ⟨by rw [hrun], hS.toBelow⟩
  ·have hrun : runN (inS chars) s = n := runN_eq hn hd (fun _ => hq)
   have hq1 : ¬ (0 ≤ zix chars (s[n]'hlt)) := of_decide_eq_false hq
   refine wp_seq ?_
   refine wp_seq ?_
   refine wp_region_lit ?_
   refine sv_r (v := .int .i64 ((n : Nat) : Int)) hS (ex_mv (hS.get 6 rfl)) fun a hS => ?_
   refine sv_r (v := .string s) hS (ex_mv (hS.get 0 rfl)) fun a hS => ?_
   refine sv_r (v := .int .i64 ((s.size : Nat) : Int)) hS (ex_slen (ats := #[]) (hS.get 23 rfl)) fun a hS => ?_
   refine sv_r (v := .bool true) hS (ei_lss (hS.get 22 rfl) (hS.get 24 rfl) (by rw [decide_eq_true_iff]; omega)) fun a hS => ?_
   refine sv_r (v := .bool true) hS (ex_mv (hS.get 25 rfl)) fun a hS => ?_
   refine sv_g (v := .string chars) hS (hS.get 26 rfl) (ex_mv (hS.get 1 rfl)) fun a hS => ?_
   refine sv_g (v := .string s) hS (hS.get 26 rfl) (ex_mv (hS.get 0 rfl)) fun a hS => ?_
   refine sv_g (v := .int .i64 ((n : Nat) : Int)) hS (hS.get 26 rfl) (ex_mv (hS.get 6 rfl)) fun a hS => ?_
   refine sv_g (v := .int .i64 ((n : Nat) : Int)) hS (hS.get 26 rfl) (ex_mv (hS.get 6 rfl)) fun a hS => ?_
   refine sv_g (v := .int .i64 ((n + 1 : Nat) : Int)) hS (hS.get 26 rfl) (ei_add (hS.get 30 rfl) rfl (by rw [IntKind.wrap_i64]; omega)) fun a hS => ?_
   refine sv_g (v := .string (s.extract n (n + 1))) hS (hS.get 26 rfl) (ex_sslh (hS.get 28 rfl) (hS.get 29 rfl) (hS.get 31 rfl) (by omega) (by omega)) fun a hS => ?_
   refine sv_gcallv (v := .int .i64 (zix chars (s[n]'hlt))) hS rfl rfl (hS.get 26 rfl) rfl (by decide) (ex_call2 cf_m3u8_zzIndex (hS.get 27 rfl) (hS.get 32 rfl)) (by rw [ext_one_eq hlt]; exact zzIndex_any chars _ hc _) ?_
   intro a w9 hbw9 hS
   refine sv_g (v := .bool false) hS (hS.get 26 rfl) (ei_geq (hS.get 33 rfl) rfl (by rw [decide_eq_false_iff_not]; exact hq1)) fun a hS => ?_
   refine sv_r (v := .bool false) hS (ex_pickT (hS.get 26 rfl) (hS.get 34 rfl)) fun a hS => ?_
   refine wpList_nil ?_
   replace hS := hS.cut [35, 6, 0, 1]
   show Code.wp _ _ _ _ _
   refine cond_f (hS.get 35 rfl) ?_
   refine wp_exit ?_
   simp only [Exit.inBlock, Exit.then, if_true]
   show Code.wp _ _ _ _ _
   refine wp_seq ?_
   refine wp_region_og1 (n := 44) 7 [Asr.eq (.string s), Asr.eq (.int .i64 ((n : Nat) : Int)), Asr.eq (.string (s.extract 0 n)), Asr.eq (.string s), Asr.eq (.int .i64 ((n : Nat) : Int)), Asr.eq (.string (s.extract n s.size)), Asr.eq (.string (s.extract 0 n))] (by kernel_rfl) (by kernel_rfl) (by kernel_rfl) (by simp) (by kernel_rfl) hS.ev.size ⟨⟩ ?_ ?_
   ·simp only [List.take_succ_cons, List.take_zero]
    refine ⟨?_, ?_, ?_, ?_, ?_, ?_, ?_, trivial⟩
    ·intro a wx c
     have e_0 : a.eval (.tmp 0) = .string s := c.outE (by decide +kernel) (hS.get 0 rfl)
     clear c
     exact og_val (ex_mv e_0) rfl
    ·intro a wx c
     have e_6 : a.eval (.tmp 6) = .int .i64 ((n : Nat) : Int) := c.outE (by decide +kernel) (hS.get 6 rfl)
     clear c
     exact og_val (ex_mv e_6) rfl
    ·intro a wx c
     have e_38 : a.eval (.tmp 38) = .string s := c.slot 0 _ (by decide +kernel) rfl
     have e_39 : a.eval (.tmp 39) = .int .i64 ((n : Nat) : Int) := c.slot 1 _ (by decide +kernel) rfl
     clear c
     exact og_val (ex_ssh e_38 e_39 (by omega)) rfl
    ·intro a wx c
     have e_0 : a.eval (.tmp 0) = .string s := c.outE (by decide +kernel) (hS.get 0 rfl)
     clear c
     exact og_val (ex_mv e_0) rfl
    ·intro a wx c
     have e_6 : a.eval (.tmp 6) = .int .i64 ((n : Nat) : Int) := c.outE (by decide +kernel) (hS.get 6 rfl)
     clear c
     exact og_val (ex_mv e_6) rfl
    ·intro a wx c
     have e_41 : a.eval (.tmp 41) = .string s := c.slot 3 _ (by decide +kernel) rfl
     have e_42 : a.eval (.tmp 42) = .int .i64 ((n : Nat) : Int) := c.slot 4 _ (by decide +kernel) rfl
     clear c
     exact og_val (ex_ssl e_41 e_42 (by omega)) rfl
    ·intro a wx c
     have e_40 : a.eval (.tmp 40) = .string (s.extract 0 n) := c.slot 2 _ (by decide +kernel) rfl
     clear c
     exact og_val (ex_as e_40) rfl
   ·intro a w10 c hbw10
    replace hS : Sv 44 ((4, .string (s.extract 0 n)) :: (43, .string (s.extract n s.size)) :: (1, .string chars) :: (0, .string s) :: (6, .int .i64 ((n : Nat) : Int)) :: (35, .bool false) :: []) [] (fun _ => False) w a w10 := (((((((hS.ogh c).know (c.outE (by decide +kernel) (hS.get 35 rfl))).know (c.outE (by decide +kernel) (hS.get 6 rfl))).know (c.outE (by decide +kernel) (hS.get 0 rfl))).know (c.outE (by decide +kernel) (hS.get 1 rfl))).know (c.slot 5 _ (by decide +kernel) rfl)).know (c.slot 6 _ (by decide +kernel) rfl))
    clear c
    simp only [List.drop_succ_cons, List.drop_zero]
    refine sv_r (v := .string (s.extract n s.size)) hS (ex_as (hS.get 43 rfl)) fun a hS => ?_
    refine wpList_nil ?_
    replace hS := hS.cut [5, 4, 1, 0, 6, 35]
    show Code.wp _ _ _ _ _
    refine wp_ret ?_
    try simp only [Exit.inBlock, Exit.then]
    exact ret2_of_ev hS.ev rfl (hS.get 4 rfl) (hS.get 5 rfl) ⟨by rw [hrun], hS.toBelow⟩
  ·have hq1 : 0 ≤ zix chars (s[n]'hlt) := of_decide_eq_true hq
   refine wp_seq ?_
   refine wp_seq ?_
   refine wp_region_lit ?_
   refine sv_r (v := .int .i64 ((n : Nat) : Int)) hS (ex_mv (hS.get 6 rfl)) fun a hS => ?_
   refine sv_r (v := .string s) hS (ex_mv (hS.get 0 rfl)) fun a hS => ?_
   refine sv_r (v := .int .i64 ((s.size : Nat) : Int)) hS (ex_slen (ats := #[]) (hS.get 23 rfl)) fun a hS => ?_
   refine sv_r (v := .bool true) hS (ei_lss (hS.get 22 rfl) (hS.get 24 rfl) (by rw [decide_eq_true_iff]; omega)) fun a hS => ?_
   refine sv_r (v := .bool true) hS (ex_mv (hS.get 25 rfl)) fun a hS => ?_
   refine sv_g (v := .string chars) hS (hS.get 26 rfl) (ex_mv (hS.get 1 rfl)) fun a hS => ?_
   refine sv_g (v := .string s) hS (hS.get 26 rfl) (ex_mv (hS.get 0 rfl)) fun a hS => ?_
   refine sv_g (v := .int .i64 ((n : Nat) : Int)) hS (hS.get 26 rfl) (ex_mv (hS.get 6 rfl)) fun a hS => ?_
   refine sv_g (v := .int .i64 ((n : Nat) : Int)) hS (hS.get 26 rfl) (ex_mv (hS.get 6 rfl)) fun a hS => ?_
   refine sv_g (v := .int .i64 ((n + 1 : Nat) : Int)) hS (hS.get 26 rfl) (ei_add (hS.get 30 rfl) rfl (by rw [IntKind.wrap_i64]; omega)) fun a hS => ?_
   refine sv_g (v := .string (s.extract n (n + 1))) hS (hS.get 26 rfl) (ex_sslh (hS.get 28 rfl) (hS.get 29 rfl) (hS.get 31 rfl) (by omega) (by omega)) fun a hS => ?_
   refine sv_gcallv (v := .int .i64 (zix chars (s[n]'hlt))) hS rfl rfl (hS.get 26 rfl) rfl (by decide) (ex_call2 cf_m3u8_zzIndex (hS.get 27 rfl) (hS.get 32 rfl)) (by rw [ext_one_eq hlt]; exact zzIndex_any chars _ hc _) ?_
   intro a w11 hbw11 hS
   refine sv_g (v := .bool true) hS (hS.get 26 rfl) (ei_geq (hS.get 33 rfl) rfl (by rw [decide_eq_true_iff]; exact hq1)) fun a hS => ?_
   refine sv_r (v := .bool true) hS (ex_pickT (hS.get 26 rfl) (hS.get 34 rfl)) fun a hS => ?_
   refine wpList_nil ?_
   replace hS := hS.cut [35, 6, 0, 1]
   show Code.wp _ _ _ _ _
   refine cond_t (hS.get 35 rfl) ?_
   refine wp_skip ?_
   show Code.wp _ _ _ _ _
   refine wp_block ?_
   refine wp_region_lit ?_
   refine sv_r (v := .int .i64 ((n : Nat) : Int)) hS (ex_mv (hS.get 6 rfl)) fun a hS => ?_
   refine sv_r (v := .int .i64 ((n + 1 : Nat) : Int)) hS (ei_add (hS.get 36 rfl) rfl (by rw [IntKind.wrap_i64]; omega)) fun a hS => ?_
   refine sv_r (v := .int .i64 ((n + 1 : Nat) : Int)) hS (ex_as (hS.get 37 rfl)) fun a hS => ?_
   refine wpList_nil ?_
   replace hS := hS.cut [6, 35, 0, 1]
   refine ⟨⟨n + 1, by omega, (fun j hj hji => by by_cases e : j = n; (· subst e; exact hq); (· exact hd j hj (by omega))), hS.pick rfl⟩, ?_⟩
   have h1 := hS.get 6 rfl; rw [h1]; rw [hS0]; simp only [intOf]; omega
end Go.Proofs.YtflppablgdegcaaGreatDoor
/- What the reader takes of package-level variables; errors against nil and against each other. -/
namespace Go.Proofs.YtflppablgdegcaaGreatDoor
open Go.RowKit
/-- Where the errors lie that are compared, and the powers of ten. -/
structure Ge where
 eof : Addr
 full : Addr
 synT : TypeId
 synP : Value
 pow : Addr
 pn : Nat
 pc : Nat
abbrev errES : TypeId := 137
def eofV (G : Ge) : Value := .iface errES (.pointer (some G.eof))
def fullV (G : Ge) : Value := .iface errES (.pointer (some G.full))
def p10bits : List Nat := [4607182418800017408, 4621819117588971520, 4636737291354636288, 4652007308841189376, 4666723172467343360, 4681608360884174848, 4696837146684686336, 4711630319722168320, 4726483295884279808, 4741671816366391296, 4756540486875873280, 4771362005757984768, 4786511204640096256, 4801453603149578240, 4816244402031689728, 4831355200913801216, 4846369599423283200, 4861130398305394688, 4876203697187506176, 4891288408196988160, 4906019910204099648, 4921056587992461136, 4936209963552724370]
theorem gnB : Tryz.prog.globalNamed "bytes.asciiSpace" = some 2 := by kernel_rfl
theorem gnS : Tryz.prog.globalNamed "strings.asciiSpace" = some 6 := by kernel_rfl
/-- The variables' words; all of it lies below B. -/
structure Env (B : Nat) (G : Ge) (w : World) : Prop where
 ge : 24 ≤ B
 le : B ≤ w.heap.size
 tabB : Lib.TabIs Tryz.prog w "bytes.asciiSpace" .u8 Lib.asciiSpaceTab
 tabS : Lib.TabIs Tryz.prog w "strings.asciiSpace" .u8 Lib.asciiSpaceTab
 eof : w.cell? ⟨1, 0, none⟩ = some (eofV G)
 full : w.cell? ⟨4, 0, none⟩ = some (fullV G)
 syn : w.cell? ⟨8, 0, none⟩ = some (.iface G.synT G.synP)
 opt : w.cell? ⟨14, 0, none⟩ = some (.bool true)
 bits : w.cell? ⟨15, 0, none⟩ = some (.int .u64 52)
 pow : w.cell? ⟨18, 0, none⟩ = some (.slice (some G.pow) G.pn G.pc)
 powB : G.pow.block < B
 powN : 23 ≤ G.pn
 pows : ∀ i x, p10bits[i]? = some x → w.cell? (G.pow.add i) = some (.float .f64 x)
theorem Env.keep {B : Nat} {G : Ge} {w w' : World} {X : Nat → Prop} (h : Env B G w) (ho : Only X w w') (hX : ∀ g, X g → B ≤ g) : Env B G w' := by
 have hb : ∀ g, g < B → w'.heap[g]? = w.heap[g]? := fun g hg => ho.block g (Nat.lt_of_lt_of_le hg h.le) fun hx => absurd (hX g hx) (Nat.not_le.2 hg)
 have hc : ∀ (g o : Nat) v, g < B → w.cell? ⟨g, o, none⟩ = some v → w'.cell? ⟨g, o, none⟩ = some v := fun g o v hg hv => by
  rw [World.cell?_of_block (w := w) (hb g hg)]; exact hv
 have hge := h.ge
 refine ⟨h.ge, Nat.le_trans h.le ho.size, ?_, ?_, hc _ _ _ (by omega) h.eof, hc _ _ _ (by omega) h.full, hc _ _ _ (by omega) h.syn, hc _ _ _ (by omega) h.opt, hc _ _ _ (by omega) h.bits, hc _ _ _ (by omega) h.pow, h.powB, h.powN, ?_⟩
 ·have := h.tabB
  unfold Lib.TabIs World.var? at this ⊢
  rw [gnB] at this ⊢
  simp only [Option.bind_some] at this ⊢
  rw [hb _ (by omega)]; exact this
 ·have := h.tabS
  unfold Lib.TabIs World.var? at this ⊢
  rw [gnS] at this ⊢
  simp only [Option.bind_some] at this ⊢
  rw [hb _ (by omega)]; exact this
 ·intro i x hx
  have hblk : (G.pow.add i).block = G.pow.block := by unfold Addr.add; split <;> rfl
  rw [World.cell?_of_block (w := w) (by rw [hblk]; exact hb _ h.powB)]
  exact h.pows i x hx
theorem Env.below {B : Nat} {G : Ge} {w w' : World} (h : Env B G w) (hb : Below w.heap.size w w') : Env B G w' := h.keep (X := fun _ => False) (Only.of_below hb) fun _ hf => hf.elim
section
variable {a : Act} {w : World} {x y : Operand} {dst : Option Nat} {ty : TypeId} {ps : String} {af : Array Edge} {gd : Option (Nat × Bool)} {T' : TypeId}
theorem ne_err_nil (t : TypeId) (v : Value) (w : World) : (binOp .neq 58 (.iface t v) .nilIface).run Tryz.prog w = .ok (.bool true) w := by go_simp
theorem info_of {T : TypeId} {f : TypeInfo → Bool} (h : ((Tryz.prog.info? T).any f) = true) : ∃ i, Tryz.prog.info? T = some i ∧ f i = true := by
 cases hi : Tryz.prog.info? T with
 | none => rw [hi] at h; cases h
 | some i => rw [hi] at h; exact ⟨i, rfl, h⟩
theorem es_info : ∃ i, Tryz.prog.info? 137 = some i ∧ i.comparable = true := info_of (f := fun i => i.comparable) (by kernel_rfl)
theorem es_info2 : ∃ i, Tryz.prog.info? 139 = some i ∧ (fun _ => true) i = true := info_of (f := fun _ => true) (by kernel_rfl)
/-- nil against an error; an error against itself. -/
theorem ex_nileq {t : TypeId} {v : Value} (hx : a.eval x = .nilIface) (hy : a.eval y = .iface t v) : (execOp a.eval ⟨dst, .binOp .eql 58 x y T', ty, ps, af, gd⟩).run Tryz.prog w = .ok (.value (.bool false)) w := by
 have hr := run_eql_iface_nil_left (P := Tryz.prog) w t v Tryz.underlying58
 have hg : (eqGuard .eql 58 x y .nilIface (.iface t v)).run Tryz.prog w = .ok () w := rfl
 simp only [execOp, hx, hy]
 simp [hg, hr, Result.andThen]
theorem ex_sameeq {p : Addr} (hx : a.eval x = .iface errES (.pointer (some p))) (hy : a.eval y = .iface errES (.pointer (some p))) : (execOp a.eval ⟨dst, .binOp .eql 58 x y T', ty, ps, af, gd⟩).run Tryz.prog w = .ok (.value (.bool true)) w := by
 obtain ⟨i, hi, hc⟩ := es_info
 obtain ⟨j, hj, _⟩ := es_info2
 have hr := run_eql_iface_ptr_same (P := Tryz.prog) w p Tryz.underlying58 Tryz.underlying137 hi hc hj
 have hg : (eqGuard .eql 58 x y (.iface errES (.pointer (some p))) (.iface errES (.pointer (some p)))).run Tryz.prog w = .ok () w := rfl
 simp only [execOp, hx, hy]
 simp [hg, hr, Result.andThen]
theorem ex_mi {T : TypeId} {t : Nat} {v : Value} (hx : a.eval (.tmp t) = v) (hC : Tryz.prog.concrete T = true) : (execOp a.eval ⟨dst, .makeInterface T (.tmp t), ty, ps, af, gd⟩).run Tryz.prog w = .ok (.value (.iface T v)) w := by
 simp only [execOp, hx]; exact run_andValue (run_makeInterface w T v hC)
theorem ex_mic {T : TypeId} {v : Value} (hC : Tryz.prog.concrete T = true) : (execOp a.eval ⟨dst, .makeInterface T (.const v), ty, ps, af, gd⟩).run Tryz.prog w = .ok (.value (.iface T v)) w := by
 simp only [execOp]; exact run_andValue (run_makeInterface w T v hC)
/-- An error against nil. -/
theorem ex_ifne {t : TypeId} {v : Value} (hx : a.eval x = .iface t v) : (execOp a.eval ⟨dst, .binOp .neq 58 x (.const .nilIface) T', ty, ps, af, gd⟩).run Tryz.prog w = .ok (.value (.bool true)) w := by
 simp only [execOp, hx]
 have hr := ne_err_nil t v w
 simp [Act.eval, eqGuard, hr, Result.andThen]
end
end Go.Proofs.YtflppablgdegcaaGreatDoor
/- Contracts off the shelf: HasPrefix, TrimSpace on strings and on bytes, IndexByte, ParseUint. -/
namespace Go.Proofs.YtflppablgdegcaaGreatDoor
open Go.RowKit
theorem hasPrefix_any (s p : ByteArray) (w : World) : Calls Tryz.prog 58 #[.string s, .string p] w fun e w' => e = .returned (.bool (Lib.hasPrefix s.data.toList p.data.toList)) ∧ w' = w := Any.strings_HasPrefix Tryz.lays99 s p w
/-- A text of ASCII signs. -/
def Asc (s : ByteArray) : Prop := ∀ (j : Nat) (b : UInt8), s.data.toList[j]? = some b → b.toNat < 128
def trimA (s : ByteArray) : ByteArray := ⟨(Lib.trimSpace s.data.toList).toArray⟩
theorem trimS_any (s : ByteArray) (hs : s.size ≤ 1000000000) (ha : Asc s) {B : Nat} {G : Ge} (w : World) (hE : Env B G w) : Calls Tryz.prog 57 #[.string s] w fun e w' => e = .returned (.string (trimA s)) ∧ Below w.heap.size w w' :=
 Calls.mono (Any.strings_TrimSpace Tryz.lays163 ⟨gnS⟩ s w (by omega) ha hE.tabS) fun e w' ⟨h1, h2⟩ => ⟨h1, by rw [h2]; exact Lib.bytesWorld_below _ _ _⟩
theorem parseU_ok (t : ByteArray) (n : Nat) (hne : t.size ≠ 0) (hs : t.size ≤ 1000000000) (h : Lib.parseUint10 0 t.data.toList = .ok n) (w : World) : Calls Tryz.prog 110 #[.string t, .int .i64 10, .int .i64 64] w fun e w' => e = .returned (.tuple #[.int .u64 n, .nilIface]) ∧ Below w.heap.size w w' :=
 Calls.mono (Any.internal_strconv_ParseUint_10_b64 Tryz.lays287 t hne (by omega) w) fun e w' ⟨h1, h2⟩ => ⟨by rw [h1, h]; rfl, by rw [h2]; exact Lib.bytesWorld_below _ _ _⟩
theorem parseU_nil (w : World) : Calls Tryz.prog 110 #[.string ⟨#[]⟩, .int .i64 10, .int .i64 64] w fun e w' => e = .returned (.tuple #[.int .u64 0, .iface 208 (.int .i64 2)]) ∧ w' = w :=
 Any.internal_strconv_ParseUint_empty Tryz.lays287 10 64 w
theorem toErr_any (fn s : ByteArray) (base bits : Int) (hs : s.size ≤ 1000000000) {B : Nat} {G : Ge} (w : World) (hE : Env B G w) : Calls Tryz.prog 85 #[.string fn, .string s, .int .i64 base, .int .i64 bits, .iface 208 (.int .i64 2)] w fun e w' => ∃ v, e = .returned v ∧ Below w.heap.size w w' ∧ ∃ (t : TypeId) (N : Nat), v = .iface t (pt N 0) :=
 Calls.mono (Any.strconv_toError_syntax Tryz.laysC245 fn s base bits _ w (by omega) hE.syn (.inr ⟨_, _, rfl⟩)) fun e w' ⟨N, h1, _, _, h4⟩ => ⟨_, h1, h4, _, N, rfl⟩
end Go.Proofs.YtflppablgdegcaaGreatDoor
