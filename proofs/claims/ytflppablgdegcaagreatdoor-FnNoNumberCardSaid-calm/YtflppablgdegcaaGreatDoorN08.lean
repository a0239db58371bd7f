/- Joined: Rf. -/
import Derived.Test.YtflppablgdegcaaGreatDoorN07
import Derived.Scope
/- The walks of internal/strconv.lower and readFloat. -/
set_option maxRecDepth 100000
set_option maxHeartbeats 8000000
namespace Go.Proofs.YtflppablgdegcaaGreatDoor
open Go.RowKit
theorem cv_uint8_uint64 (n : Int) {z : Int} (h : IntKind.u64.wrap n = z) : Cv 5 24 (.int .u8 n) (.int .u64 z) := by subst h; intro w; go_simp
/-- What readFloat keeps while it reads. -/
structure Rf where
 m : Nat
 nd : Nat
 dp : Int
 dot : Bool
 dig : Bool
def Rf.z : Rf := ⟨0, 0, 0, false, false⟩
def Rf.step (r : Rf) (b : UInt8) : Rf :=
 if b.toNat = 46 then { r with dot := true, dp := (r.nd : Int) }
 else if b.toNat = 48 ∧ r.nd = 0 then { r with dig := true, dp := r.dp - 1 }
 else { r with dig := true, nd := r.nd + 1, m := r.m * 10 + (b.toNat - 48) }
def Rf.fits (r : Rf) : Bool := decide (r.m < 1000000000000000000) && decide (r.nd < 19) && decide (-100 ≤ r.dp) && decide (r.dp ≤ 100)
/-- Digits and at most one point, not too many. -/
def Rf.go : Rf → List UInt8 → Bool
 | r, [] => r.dig && r.fits
 | r, b :: l => (r.fits && (if b.toNat = 46 then !r.dot else isD b)) && (r.step b).go l
def Rf.of (l : List UInt8) : Rf := l.foldl Rf.step Rf.z
def Rf.exp (r : Rf) : Int := if r.m ≠ 0 then (if r.dot = true then r.dp else (r.nd : Int)) - (r.nd : Int) else 0
def numB (s : ByteArray) : Bool := Rf.z.go s.data.toList && decide (s.size ≤ 30)
theorem go_chars : ∀ (l : List UInt8) (r : Rf), r.go l = true → ∀ b ∈ l, b.toNat = 46 ∨ isD b = true
 | [], _, _, b, hb => by cases hb
 | c :: l, r, h, b, hb => by
  rw [Rf.go, Bool.and_eq_true, Bool.and_eq_true] at h
  rcases List.mem_cons.1 hb with rfl | hb
  ·by_cases e : b.toNat = 46
   ·exact .inl e
   ·rw [if_neg e] at h; exact .inr h.1.2
  ·exact go_chars l _ h.2 b hb
theorem go_pos {l : List UInt8} (h : Rf.z.go l = true) : l ≠ [] := by
 intro e; rw [e] at h; simp [Rf.go, Rf.z] at h
theorem drop_at {s : ByteArray} {i : Nat} (h : i < s.size) : s.data.toList.drop i = s[i]'h :: s.data.toList.drop (i + 1) := by
 have h1 : i < s.data.toList.length := by rw [len_list]; exact h
 rw [List.drop_eq_getElem_cons h1]
 have := at_list h
 rw [List.getElem?_eq_getElem h1] at this
 rw [Option.some.inj this]
theorem num_ne {s : ByteArray} (hN : numB s = true) {i : Nat} (h : i < s.size) (c : Nat) (h1 : c ≠ 46) (h2 : c < 48 ∨ 57 < c) : (s[i]'h).toNat ≠ c := by
 unfold numB at hN
 rw [Bool.and_eq_true] at hN
 have hm : s[i]'h ∈ s.data.toList := List.mem_of_getElem? (at_list h)
 rcases go_chars _ _ hN.1 _ hm with e | e
 ·omega
 ·simp [isD] at e; omega
/-- What the round at i meets. -/
theorem num_cases {r : Rf} {s : ByteArray} {i : Nat} (hi : i ≤ s.size) (hg : r.go (s.data.toList.drop i) = true) : (i = s.size ∧ r.dig = true ∧ r.fits = true) ∨ (∃ h : i < s.size, r.fits = true ∧ (r.step (s[i]'h)).go (s.data.toList.drop (i + 1)) = true ∧
  (((s[i]'h).toNat = 46 ∧ r.dot = false ∧ r.step (s[i]'h) = { r with dot := true, dp := (r.nd : Int) }) ∨ ((s[i]'h).toNat = 48 ∧ r.nd = 0 ∧ r.step (s[i]'h) = { r with dig := true, dp := r.dp - 1 }) ∨
   ((s[i]'h).toNat = 48 ∧ r.nd ≠ 0 ∧ r.step (s[i]'h) = { r with dig := true, nd := r.nd + 1, m := r.m * 10 + ((s[i]'h).toNat - 48) }) ∨ ((48 < (s[i]'h).toNat ∧ (s[i]'h).toNat ≤ 57) ∧ r.step (s[i]'h) = { r with dig := true, nd := r.nd + 1, m := r.m * 10 + ((s[i]'h).toNat - 48) }))) := by
 rcases Nat.lt_or_ge i s.size with h | h
 ·right
  refine ⟨h, ?_⟩
  rw [drop_at h, Rf.go, Bool.and_eq_true, Bool.and_eq_true] at hg
  obtain ⟨⟨hf, hc⟩, hgo⟩ := hg
  refine ⟨hf, hgo, ?_⟩
  by_cases e : (s[i]'h).toNat = 46
  ·rw [if_pos e] at hc
   exact .inl ⟨e, by simpa using hc, by unfold Rf.step; rw [if_pos e]⟩
  ·rw [if_neg e] at hc
   have hd : 48 ≤ (s[i]'h).toNat ∧ (s[i]'h).toNat ≤ 57 := by simpa [isD] using hc
   by_cases e8 : (s[i]'h).toNat = 48
   ·by_cases en : r.nd = 0
    ·exact .inr (.inl ⟨e8, en, by unfold Rf.step; rw [if_neg e, if_pos ⟨e8, en⟩]⟩)
    ·exact .inr (.inr (.inl ⟨e8, en, by unfold Rf.step; rw [if_neg e, if_neg (fun h => en h.2)]⟩))
   ·exact .inr (.inr (.inr ⟨by omega, by unfold Rf.step; rw [if_neg e, if_neg (fun h => e8 h.1)]⟩))
 ·left
  have : s.data.toList.drop i = [] := List.drop_eq_nil_of_le (by rw [len_list]; omega)
  rw [this, Rf.go, Bool.and_eq_true] at hg
  exact ⟨by omega, hg.1, hg.2⟩
theorem take_next {s : ByteArray} {i : Nat} (h : i < s.size) : Rf.of (s.data.toList.take (i + 1)) = (Rf.of (s.data.toList.take i)).step (s[i]'h) := by
 rw [List.take_add_one, at_list h]
 simp [Rf.of]
theorem ret7_of_ev {N t1 t2 t3 t4 t5 t6 t7 : Nat} {l : List (Nat × Value)} {fn : Func} {R : Ending → World → Prop} {a : Act} {w : World} {v1 v2 v3 v4 v5 v6 v7 : Value} (h : Ev N l a) (hr : fn.results = #[.tmp t1, .tmp t2, .tmp t3, .tmp t4, .tmp t5, .tmp t6, .tmp t7])
  (h1 : a.eval (.tmp t1) = v1) (h2 : a.eval (.tmp t2) = v2) (h3 : a.eval (.tmp t3) = v3) (h4 : a.eval (.tmp t4) = v4) (h5 : a.eval (.tmp t5) = v5) (h6 : a.eval (.tmp t6) = v6) (h7 : a.eval (.tmp t7) = v7)
  (hR : R (.returned (.tuple #[v1, v2, v3, v4, v5, v6, v7])) w) : bodyPost Tryz.prog fn R .ret a w := by
 refine bodyPost_ret (v := .tuple #[v1, v2, v3, v4, v5, v6, v7]) ?_ h.defers hR
 have e1 : a.tmps.getD t1 undef = v1 := h1
 have e2 : a.tmps.getD t2 undef = v2 := h2
 have e3 : a.tmps.getD t3 undef = v3 := h3
 have e4 : a.tmps.getD t4 undef = v4 := h4
 have e5 : a.tmps.getD t5 undef = v5 := h5
 have e6 : a.tmps.getD t6 undef = v6 := h6
 have e7 : a.tmps.getD t7 undef = v7 := h7
 rw [Array.getD_eq_getD_getElem?] at e1 e2 e3 e4 e5 e6 e7
 simp [results, hr, e1, e2, e3, e4, e5, e6, e7]
theorem num_low {s : ByteArray} (hN : numB s = true) {i : Nat} (h : i < s.size) (c : Nat) (hc : (46 ||| 32) ≠ c ∧ (List.range 10).all (fun k => decide (((48 + k) ||| 32) ≠ c)) = true) : ((s[i]'h).toNat ||| 32) ≠ c := by
 unfold numB at hN
 rw [Bool.and_eq_true] at hN
 have hm : s[i]'h ∈ s.data.toList := List.mem_of_getElem? (at_list h)
 rcases go_chars _ _ hN.1 _ hm with e | e
 ·rw [e]; exact hc.1
 ·have e2 : 48 ≤ (s[i]'h).toNat ∧ (s[i]'h).toNat ≤ 57 := by simpa [isD] using e
  have h3 := List.all_eq_true.1 hc.2 ((s[i]'h).toNat - 48) (List.mem_range.2 (by omega))
  rw [show 48 + ((s[i]'h).toNat - 48) = (s[i]'h).toNat from by omega] at h3
  exact of_decide_eq_true h3
theorem eb_true {a : Act} {w : World} {dst : Option Nat} {ty : TypeId} {ps : String} {af : Array Edge} {gd : Option (Nat × Bool)} {y : Operand} {T' : TypeId} {b : Bool} (hy : a.eval y = .bool b) : (execOp a.eval ⟨dst, .binOp .eql 4 (.const (.bool true)) y T', ty, ps, af, gd⟩).run Tryz.prog w = .ok (.value (.bool b)) w := by
 simp only [execOp, hy]
 cases b <;> go_simp
theorem or8_tab : (List.range 256).all (fun n => bits .or .u8 (n : Int) 32 == ((n ||| 32 : Nat) : Int)) = true := by decide +kernel
theorem or8_all (n : Nat) (h : n < 256) : bits .or .u8 (n : Int) 32 = ((n ||| 32 : Nat) : Int) := by simpa using List.all_eq_true.1 or8_tab n (List.mem_range.2 h)
theorem lower_any (n : Nat) (hn : n < 256) (w : World) : Calls Tryz.prog 124 #[.int .u8 n] w fun e w' => e = .returned (.int .u8 ((n ||| 32 : Nat) : Int)) ∧ Below w.heap.size w w' := by
 refine calls_of_ev Tryz.func124 rfl (show 1 ≤ 5 from by decide) ?_
 intro a hE
 have hE : Ev 5 ((0, .int .u8 ((n : Nat) : Int)) :: []) a := hE
 have hS : Sv 5 ((0, .int .u8 ((n : Nat) : Int)) :: []) [] (fun _ => False) w a w := Sv.start hE _ _
 clear hE
 refine wp_seq ?_
 refine wp_region_lit ?_
 refine sv_r (v := .int .u8 0) hS ex_ac fun a hS => ?_
 refine wpList_nil ?_
 replace hS := hS.cut [2, 0]
 show Code.wp _ _ _ _ _
 refine wp_seq ?_
 refine wp_region_lit ?_
 refine sv_r (v := .int .u8 ((n : Nat) : Int)) hS (ex_mv (hS.get 0 rfl)) fun a hS => ?_
 refine sv_r (v := .int .u8 ((n ||| 32 : Nat) : Int)) hS (ei_or (hS.get 3 rfl) rfl (or8_all n hn)) fun a hS => ?_
 refine sv_r (v := .int .u8 ((n ||| 32 : Nat) : Int)) hS (ex_as (hS.get 4 rfl)) fun a hS => ?_
 refine wpList_nil ?_
 replace hS := hS.cut [2]
 show Code.wp _ _ _ _ _
 refine wp_ret ?_
 try simp only [Exit.inBlock, Exit.then]
 exact ret_of_ev hS.ev rfl (hS.get 2 rfl) ⟨rfl, hS.toBelow⟩
theorem readFloat_num (s : ByteArray) (hN : numB s = true) (w : World) : Calls Tryz.prog 128 #[.string s] w fun e w' => e = .returned (.tuple #[.int .u64 (((Rf.of s.data.toList).m : Nat) : Int), .int .i64 (Rf.of s.data.toList).exp, .bool false, .bool false, .bool false, .int .i64 (s.size : Int), .bool true]) ∧ Below w.heap.size w w' := by
 have hN0 := hN
 unfold numB at hN0
 rw [Bool.and_eq_true] at hN0
 obtain ⟨hgo, hsz⟩ := hN0
 have hsz := of_decide_eq_true hsz
 have h0 : 0 < s.size := by
  have := List.length_pos_iff.2 (go_pos hgo)
  rw [len_list] at this; exact this
 have n43 := num_ne hN h0 43 (by decide) (by decide)
 have n45 := num_ne hN h0 45 (by decide) (by decide)
 refine calls_of_ev Tryz.func128 rfl (show 1 ≤ 253 from by decide) ?_
 intro a hE
 have hE : Ev 253 ((0, .string s) :: []) a := hE
 have hS : Sv 253 ((0, .string s) :: []) [] (fun _ => False) w a w := Sv.start hE _ _
 clear hE
 refine wp_seq ?_
 refine wp_region_lit ?_
 refine sv_r (v := .int .u64 0) hS ex_ac fun a hS => ?_
 refine sv_r (v := .int .i64 0) hS ex_ac fun a hS => ?_
 refine sv_r (v := .bool false) hS ex_ac fun a hS => ?_
 refine sv_r (v := .bool false) hS ex_ac fun a hS => ?_
 refine sv_r (v := .bool false) hS ex_ac fun a hS => ?_
 refine sv_r (v := .int .i64 0) hS ex_ac fun a hS => ?_
 refine sv_r (v := .bool false) hS ex_ac fun a hS => ?_
 refine wpList_nil ?_
 replace hS := hS.cut [8, 7, 6, 5, 4, 3, 2, 0]
 show Code.wp _ _ _ _ _
 refine wp_scope_straight ?_
 refine wp_seq ?_
 refine wp_region_lit ?_
 refine sv_r (v := .bool false) hS ex_ac fun a hS => ?_
 refine wpList_nil ?_
 replace hS := hS.cut [9, 8, 7, 6, 5, 4, 3, 2, 0]
 show Code.wp _ _ _ _ _
 refine wp_seq ?_
 refine wp_seq ?_
 refine wp_region_lit ?_
 refine sv_r (v := .int .i64 0) hS (ex_mv (hS.get 7 rfl)) fun a hS => ?_
 refine sv_r (v := .string s) hS (ex_mv (hS.get 0 rfl)) fun a hS => ?_
 refine sv_r (v := .int .i64 ((s.size : Nat) : Int)) hS (ex_slen (ats := #[]) (hS.get 22 rfl)) fun a hS => ?_
 refine sv_r (v := .bool false) hS (ei_geq (hS.get 21 rfl) (hS.get 23 rfl) (by rw [decide_eq_false_iff_not]; omega)) fun a hS => ?_
 replace hS : Sv 253 ((24, .bool false) :: (9, .bool false) :: (8, .bool false) :: (7, .int .i64 0) :: (6, .bool false) :: (5, .bool false) :: (4, .bool false) :: (3, .int .i64 0) :: (2, .int .u64 0) :: (0, .string s) :: []) [] (fun _ => False) w a w := hS.pick rfl
 refine nx1 ?_
 refine cond_f (hS.get 24 rfl) ?_
 refine wp_skip ?_
 show Code.wp _ _ _ _ _
 refine wp_seq ?_
 refine wp_seq ?_
 refine wp_region_lit ?_
 refine sv_r (v := .string s) hS (ex_mv (hS.get 0 rfl)) fun a hS => ?_
 refine sv_r (v := .int .i64 0) hS (ex_mv (hS.get 7 rfl)) fun a hS => ?_
 refine sv_r (v := .int .u8 (((s[0]'h0).toNat : Nat) : Int)) hS (ex_sidx (hS.get 25 rfl) (hS.get 26 rfl) h0) fun a hS => ?_
 refine wpList_nil ?_
 replace hS := hS.cut [27, 24, 9, 8, 7, 6, 5, 4, 3, 2, 0]
 show Code.wp _ _ _ _ _
 refine wp_block ?_
 refine wp_seq ?_
 refine wp_region_lit ?_
 refine sv_r (v := .bool false) hS (ei_eql (hS.get 27 rfl) rfl (by rw [decide_eq_false_iff_not]; omega)) fun a hS => ?_
 refine sv_r (v := .bool false) hS (ex_as (hS.get 29 rfl)) fun a hS => ?_
 refine wpList_nil ?_
 replace hS := hS.cut [28, 27, 24, 9, 8, 7, 6, 5, 4, 3, 2, 0]
 show Code.wp _ _ _ _ _
 refine cond_f (hS.get 28 rfl) ?_
 refine wp_seq ?_
 refine wp_region_lit ?_
 refine sv_r (v := .bool false) hS (ei_eql (hS.get 27 rfl) rfl (by rw [decide_eq_false_iff_not]; omega)) fun a hS => ?_
 refine sv_r (v := .bool false) hS (ex_as (hS.get 33 rfl)) fun a hS => ?_
 replace hS : Sv 253 ((32, .bool false) :: (28, .bool false) :: (27, .int .u8 (((s[0]'h0).toNat : Nat) : Int)) :: (24, .bool false) :: (9, .bool false) :: (8, .bool false) :: (7, .int .i64 0) :: (6, .bool false) :: (5, .bool false) :: (4, .bool false) :: (3, .int .i64 0) :: (2, .int .u64 0) :: (0, .string s) :: []) [] (fun _ => False) w a w := hS.pick rfl
 refine nx1 ?_
 refine cond_f (hS.get 32 rfl) ?_
 refine wp_skip ?_
 show Code.wp _ _ _ _ _
 refine wp_seq ?_
 refine wp_region_lit ?_
 refine sv_r (v := .int .u64 10) hS ex_ac fun a hS => ?_
 refine wpList_nil ?_
 replace hS := hS.cut [10, 32, 28, 27, 24, 9, 8, 7, 6, 5, 4, 3, 2, 0]
 show Code.wp _ _ _ _ _
 refine wp_seq ?_
 refine wp_region_lit ?_
 refine sv_r (v := .int .i64 19) hS ex_ac fun a hS => ?_
 refine wpList_nil ?_
 replace hS := hS.cut [11, 10, 32, 28, 27, 24, 9, 8, 7, 6, 5, 4, 3, 2, 0]
 show Code.wp _ _ _ _ _
 refine wp_seq ?_
 refine wp_region_lit ?_
 refine sv_r (v := .int .u8 101) hS ex_ac fun a hS => ?_
 replace hS : Sv 253 ((12, .int .u8 101) :: (11, .int .i64 19) :: (10, .int .u64 10) :: (32, .bool false) :: (28, .bool false) :: (27, .int .u8 (((s[0]'h0).toNat : Nat) : Int)) :: (24, .bool false) :: (9, .bool false) :: (8, .bool false) :: (7, .int .i64 0) :: (6, .bool false) :: (5, .bool false) :: (4, .bool false) :: (3, .int .i64 0) :: (2, .int .u64 0) :: (0, .string s) :: []) [] (fun _ => False) w a w := hS.pick rfl
 refine nx1 ?_
 refine wp_seq ?_
 refine wp_seq ?_
 refine wp_mono (Q := fun e a' w' => e = .normal ∧ Sv 253 ((54, .bool false) :: (12, .int .u8 101) :: (11, .int .i64 19) :: (10, .int .u64 10) :: (32, .bool false) :: (28, .bool false) :: (27, .int .u8 (((s[0]'h0).toNat : Nat) : Int)) :: (24, .bool false) :: (9, .bool false) :: (8, .bool false) :: (7, .int .i64 0) :: (6, .bool false) :: (5, .bool false) :: (4, .bool false) :: (3, .int .i64 0) :: (2, .int .u64 0) :: (0, .string s) :: []) [] (fun _ => False) w a' w') ?_ ?_
 ·obtain hq | ⟨hq, hq2⟩ | ⟨hq, hq2⟩ : s.size ≤ 2 ∨ (2 < s.size ∧ (s[0]'h0).toNat ≠ 48) ∨ (2 < s.size ∧ (s[0]'h0).toNat = 48) := by omega
  ·have hq2 : ¬ (0 + 2 < s.size) := by omega
   refine wp_region_lit ?_
   refine sv_r (v := .int .i64 0) hS (ex_mv (hS.get 7 rfl)) fun a hS => ?_
   refine sv_r (v := .int .i64 ((0 + 2 : Nat) : Int)) hS (ei_add (hS.get 36 rfl) rfl (by rw [IntKind.wrap_i64]; omega)) fun a hS => ?_
   refine sv_r (v := .string s) hS (ex_mv (hS.get 0 rfl)) fun a hS => ?_
   refine sv_r (v := .int .i64 ((s.size : Nat) : Int)) hS (ex_slen (ats := #[]) (hS.get 38 rfl)) fun a hS => ?_
   refine sv_r (v := .bool false) hS (ei_lss (hS.get 37 rfl) (hS.get 39 rfl) (by rw [decide_eq_false_iff_not]; omega)) fun a hS => ?_
   refine sv_r (v := .bool false) hS (ex_mv (hS.get 40 rfl)) fun a hS => ?_
   refine sv_goff hS rfl rfl (hS.get 41 rfl) rfl rfl (by decide) ?_
   intro a hS
   refine sv_goff hS rfl rfl (hS.get 41 rfl) rfl rfl (by decide) ?_
   intro a hS
   refine sv_goff hS rfl rfl (hS.get 41 rfl) rfl rfl (by decide) ?_
   intro a hS
   refine sv_goff hS rfl rfl (hS.get 41 rfl) rfl rfl (by decide) ?_
   intro a hS
   refine sv_r (v := .bool false) hS (ex_pickF (hS.get 41 rfl) rfl) fun a hS => ?_
   refine sv_r (v := .bool false) hS (ex_mv (hS.get 46 rfl)) fun a hS => ?_
   refine sv_goff hS rfl rfl (hS.get 47 rfl) rfl rfl (by decide) ?_
   intro a hS
   refine sv_goff hS rfl rfl (hS.get 47 rfl) rfl rfl (by decide) ?_
   intro a hS
   refine sv_goff hS rfl rfl (hS.get 47 rfl) rfl rfl (by decide) ?_
   intro a hS
   refine sv_goff hS rfl rfl (hS.get 47 rfl) rfl rfl (by decide) ?_
   intro a hS
   refine sv_goff hS rfl rfl (hS.get 47 rfl) rfl rfl (by decide) ?_
   intro a hS
   refine sv_goff hS rfl rfl (hS.get 47 rfl) rfl rfl (by decide) ?_
   intro a hS
   refine sv_r (v := .bool false) hS (ex_pickF (hS.get 47 rfl) rfl) fun a hS => ?_
   refine wpList_nil ?_
   exact ⟨rfl, hS.pick rfl⟩
  ·have hq3 : ¬ ((s[0]'h0).toNat = 48) := hq2
   refine wp_region_lit ?_
   refine sv_r (v := .int .i64 0) hS (ex_mv (hS.get 7 rfl)) fun a hS => ?_
   refine sv_r (v := .int .i64 ((0 + 2 : Nat) : Int)) hS (ei_add (hS.get 36 rfl) rfl (by rw [IntKind.wrap_i64]; omega)) fun a hS => ?_
   refine sv_r (v := .string s) hS (ex_mv (hS.get 0 rfl)) fun a hS => ?_
   refine sv_r (v := .int .i64 ((s.size : Nat) : Int)) hS (ex_slen (ats := #[]) (hS.get 38 rfl)) fun a hS => ?_
   refine sv_r (v := .bool true) hS (ei_lss (hS.get 37 rfl) (hS.get 39 rfl) (by rw [decide_eq_true_iff]; omega)) fun a hS => ?_
   refine sv_r (v := .bool true) hS (ex_mv (hS.get 40 rfl)) fun a hS => ?_
   refine sv_g (v := .string s) hS (hS.get 41 rfl) (ex_mv (hS.get 0 rfl)) fun a hS => ?_
   refine sv_g (v := .int .i64 0) hS (hS.get 41 rfl) (ex_mv (hS.get 7 rfl)) fun a hS => ?_
   refine sv_g (v := .int .u8 (((s[0]'h0).toNat : Nat) : Int)) hS (hS.get 41 rfl) (ex_sidx (hS.get 42 rfl) (hS.get 43 rfl) h0) fun a hS => ?_
   refine sv_g (v := .bool false) hS (hS.get 41 rfl) (ei_eql (hS.get 44 rfl) rfl (by rw [decide_eq_false_iff_not]; omega)) fun a hS => ?_
   refine sv_r (v := .bool false) hS (ex_pickT (hS.get 41 rfl) (hS.get 45 rfl)) fun a hS => ?_
   refine sv_r (v := .bool false) hS (ex_mv (hS.get 46 rfl)) fun a hS => ?_
   refine sv_goff hS rfl rfl (hS.get 47 rfl) rfl rfl (by decide) ?_
   intro a hS
   refine sv_goff hS rfl rfl (hS.get 47 rfl) rfl rfl (by decide) ?_
   intro a hS
   refine sv_goff hS rfl rfl (hS.get 47 rfl) rfl rfl (by decide) ?_
   intro a hS
   refine sv_goff hS rfl rfl (hS.get 47 rfl) rfl rfl (by decide) ?_
   intro a hS
   refine sv_goff hS rfl rfl (hS.get 47 rfl) rfl rfl (by decide) ?_
   intro a hS
   refine sv_goff hS rfl rfl (hS.get 47 rfl) rfl rfl (by decide) ?_
   intro a hS
   refine sv_r (v := .bool false) hS (ex_pickF (hS.get 47 rfl) rfl) fun a hS => ?_
   refine wpList_nil ?_
   exact ⟨rfl, hS.pick rfl⟩
  ·have h1 : 0 + 1 < s.size := by omega
   have nx : ((s[0 + 1]'h1).toNat ||| 32) ≠ 120 := num_low hN h1 120 (by decide)
   refine wp_region_lit ?_
   refine sv_r (v := .int .i64 0) hS (ex_mv (hS.get 7 rfl)) fun a hS => ?_
   refine sv_r (v := .int .i64 ((0 + 2 : Nat) : Int)) hS (ei_add (hS.get 36 rfl) rfl (by rw [IntKind.wrap_i64]; omega)) fun a hS => ?_
   refine sv_r (v := .string s) hS (ex_mv (hS.get 0 rfl)) fun a hS => ?_
   refine sv_r (v := .int .i64 ((s.size : Nat) : Int)) hS (ex_slen (ats := #[]) (hS.get 38 rfl)) fun a hS => ?_
   refine sv_r (v := .bool true) hS (ei_lss (hS.get 37 rfl) (hS.get 39 rfl) (by rw [decide_eq_true_iff]; omega)) fun a hS => ?_
   refine sv_r (v := .bool true) hS (ex_mv (hS.get 40 rfl)) fun a hS => ?_
   refine sv_g (v := .string s) hS (hS.get 41 rfl) (ex_mv (hS.get 0 rfl)) fun a hS => ?_
   refine sv_g (v := .int .i64 0) hS (hS.get 41 rfl) (ex_mv (hS.get 7 rfl)) fun a hS => ?_
   refine sv_g (v := .int .u8 (((s[0]'h0).toNat : Nat) : Int)) hS (hS.get 41 rfl) (ex_sidx (hS.get 42 rfl) (hS.get 43 rfl) h0) fun a hS => ?_
   refine sv_g (v := .bool true) hS (hS.get 41 rfl) (ei_eql (hS.get 44 rfl) rfl (by rw [decide_eq_true_iff]; omega)) fun a hS => ?_
   refine sv_r (v := .bool true) hS (ex_pickT (hS.get 41 rfl) (hS.get 45 rfl)) fun a hS => ?_
   refine sv_r (v := .bool true) hS (ex_mv (hS.get 46 rfl)) fun a hS => ?_
   refine sv_g (v := .string s) hS (hS.get 47 rfl) (ex_mv (hS.get 0 rfl)) fun a hS => ?_
   refine sv_g (v := .int .i64 0) hS (hS.get 47 rfl) (ex_mv (hS.get 7 rfl)) fun a hS => ?_
   refine sv_g (v := .int .i64 ((0 + 1 : Nat) : Int)) hS (hS.get 47 rfl) (ei_add (hS.get 49 rfl) rfl (by rw [IntKind.wrap_i64]; omega)) fun a hS => ?_
   refine sv_g (v := .int .u8 (((s[0 + 1]'h1).toNat : Nat) : Int)) hS (hS.get 47 rfl) (ex_sidx (hS.get 48 rfl) (hS.get 50 rfl) h1) fun a hS => ?_
   refine sv_gcallv (v := .int .u8 ((((s[0 + 1]'h1).toNat) ||| 32 : Nat) : Int)) hS rfl rfl (hS.get 47 rfl) rfl (by decide) (ex_call1 cf_istrconv_lower (hS.get 51 rfl)) (lower_any _ (UInt8.toNat_lt _) _) ?_
   intro a w1 hbw1 hS
   refine sv_g (v := .bool false) hS (hS.get 47 rfl) (ei_eql (hS.get 52 rfl) rfl (by rw [decide_eq_false_iff_not]; omega)) fun a hS => ?_
   refine sv_r (v := .bool false) hS (ex_pickT (hS.get 47 rfl) (hS.get 53 rfl)) fun a hS => ?_
   refine wpList_nil ?_
   exact ⟨rfl, hS.pick rfl⟩
 ·rintro _ a w2 ⟨rfl, hS⟩
  show Code.wp _ _ _ _ _
  refine cond_f (hS.get 54 rfl) ?_
  refine wp_skip ?_
  show Code.wp _ _ _ _ _
  refine wp_seq ?_
  refine wp_region_lit ?_
  refine sv_r (v := .bool false) hS ex_ac fun a hS => ?_
  refine wpList_nil ?_
  replace hS := hS.cut [13, 54, 12, 11, 10, 32, 28, 27, 24, 9, 8, 7, 6, 5, 4, 3, 2, 0]
  show Code.wp _ _ _ _ _
  refine wp_seq ?_
  refine wp_region_lit ?_
  refine sv_r (v := .bool false) hS ex_ac fun a hS => ?_
  refine wpList_nil ?_
  replace hS := hS.cut [14, 13, 54, 12, 11, 10, 32, 28, 27, 24, 9, 8, 7, 6, 5, 4, 3, 2, 0]
  show Code.wp _ _ _ _ _
  refine wp_seq ?_
  refine wp_region_lit ?_
  refine sv_r (v := .int .i64 0) hS ex_ac fun a hS => ?_
  replace hS : Sv 253 ((15, .int .i64 0) :: (14, .bool false) :: (13, .bool false) :: (54, .bool false) :: (12, .int .u8 101) :: (11, .int .i64 19) :: (10, .int .u64 10) :: (32, .bool false) :: (28, .bool false) :: (27, .int .u8 (((s[0]'h0).toNat : Nat) : Int)) :: (24, .bool false) :: (9, .bool false) :: (8, .bool false) :: (7, .int .i64 0) :: (6, .bool false) :: (5, .bool false) :: (4, .bool false) :: (3, .int .i64 0) :: (2, .int .u64 0) :: (0, .string s) :: []) [] (fun _ => False) w a w2 := hS.pick rfl
  refine nx3 ?_
  refine sv_r (v := .int .i64 0) hS ex_ac fun a hS => ?_
  refine wpList_nil ?_
  replace hS := hS.cut [16, 15, 14, 13, 54, 12, 11, 10, 32, 28, 27, 24, 9, 8, 7, 6, 5, 4, 3, 2, 0]
  show Code.wp _ _ _ _ _
  refine wp_seq ?_
  refine wp_region_lit ?_
  refine sv_r (v := .int .i64 0) hS ex_ac fun a hS => ?_
  refine wpList_nil ?_
  replace hS := hS.cut [17, 16, 15, 14, 13, 54, 12, 11, 10, 32, 28, 27, 24, 9, 8, 7, 6, 5, 4, 3, 2, 0]
  show Code.wp _ _ _ _ _
  refine wp_seq ?_
  refine wp_label ?_
  show Code.wp _ _ _ _ _
  refine wp_seq ?_
  refine wp_block ?_
  refine wp_loop (fun a w' => ∃ (i : Nat) (r : Rf), i ≤ s.size ∧ r = Rf.of (s.data.toList.take i) ∧ r.go (s.data.toList.drop i) = true ∧ Sv 253 ((7, .int .i64 ((i : Nat) : Int)) :: (2, .int .u64 ((r.m : Nat) : Int)) :: (17, .int .i64 (r.dp)) :: (15, .int .i64 ((r.nd : Nat) : Int)) :: (16, .int .i64 ((r.nd : Nat) : Int)) :: (13, .bool (r.dot)) :: (14, .bool (r.dig)) :: (5, .bool false) :: (9, .bool false) :: (10, .int .u64 10) :: (11, .int .i64 19) :: (0, .string s) :: (3, .int .i64 0) :: (4, .bool false) :: (6, .bool false) :: (8, .bool false) :: (12, .int .u8 101) :: []) [] (fun _ => False) w a w') (fun a _ => (s.size + 1 - (intOf (a.eval (.tmp 7))).toNat)) ⟨0, Rf.z, Nat.zero_le _, rfl, hgo, hS.pick rfl⟩ ?_
  clear hS
  rintro a w3 ⟨i, r, hi, hr, hg, hS⟩
  have hS0 := hS.get 7 rfl
  obtain ⟨hie, hdg, hfi⟩ | ⟨hlt, hfi, hgn, hcase | hcase | hcase | hcase⟩ := num_cases hi hg
  ·have hfit : r.m < 1000000000000000000 ∧ r.nd < 19 ∧ -100 ≤ r.dp ∧ r.dp ≤ 100 := by simpa [Rf.fits, and_assoc] using hfi
   refine wp_seq ?_
   refine wp_seq ?_
   refine wp_region_lit ?_
   refine sv_r (v := .int .i64 ((i : Nat) : Int)) hS (ex_mv (hS.get 7 rfl)) fun a hS => ?_
   refine sv_r (v := .string s) hS (ex_mv (hS.get 0 rfl)) fun a hS => ?_
   refine sv_r (v := .int .i64 ((s.size : Nat) : Int)) hS (ex_slen (ats := #[]) (hS.get 58 rfl)) fun a hS => ?_
   refine sv_r (v := .bool false) hS (ei_lss (hS.get 57 rfl) (hS.get 59 rfl) (by rw [decide_eq_false_iff_not]; omega)) fun a hS => ?_
   replace hS : Sv 253 ((60, .bool false) :: (7, .int .i64 ((i : Nat) : Int)) :: (2, .int .u64 ((r.m : Nat) : Int)) :: (17, .int .i64 (r.dp)) :: (15, .int .i64 ((r.nd : Nat) : Int)) :: (16, .int .i64 ((r.nd : Nat) : Int)) :: (13, .bool (r.dot)) :: (14, .bool (r.dig)) :: (5, .bool false) :: (9, .bool false) :: (10, .int .u64 10) :: (11, .int .i64 19) :: (0, .string s) :: (3, .int .i64 0) :: (4, .bool false) :: (6, .bool false) :: (8, .bool false) :: (12, .int .u8 101) :: []) [] (fun _ => False) w a w3 := hS.pick rfl
   refine nx1 ?_
   refine cond_f (hS.get 60 rfl) ?_
   refine wp_exit ?_
   simp only [Exit.inBlock, Exit.then, if_true]
   show Code.wp _ _ _ _ _
   refine wp_seq ?_
   refine wp_seq ?_
   refine wp_region_lit ?_
   refine sv_r (v := .bool (r.dig)) hS (ex_mv (hS.get 14 rfl)) fun a hS => ?_
   refine sv_r (v := .bool (!(r.dig))) hS (ex_not (hS.get 139 rfl)) fun a hS => ?_
   refine wpList_nil ?_
   replace hS := hS.cut [140, 60, 7, 2, 17, 15, 16, 13, 14, 5, 9, 10, 11, 0, 3, 4, 6, 8, 12]
   show Code.wp _ _ _ _ _
   refine cond_f (show a.eval (.tmp 140) = .bool false from by rw [hS.get 140 rfl, hdg]; rfl) ?_
   refine wp_skip ?_
   show Code.wp _ _ _ _ _
   refine wp_seq ?_
   refine wp_seq ?_
   refine wp_region_lit ?_
   refine sv_r (v := .bool (r.dot)) hS (ex_mv (hS.get 13 rfl)) fun a hS => ?_
   refine sv_r (v := .bool (!(r.dot))) hS (ex_not (hS.get 141 rfl)) fun a hS => ?_
   refine wpList_nil ?_
   replace hS := hS.cut [142, 140, 60, 7, 2, 17, 15, 16, 13, 14, 5, 9, 10, 11, 0, 3, 4, 6, 8, 12]
   show Code.wp _ _ _ _ _
   refine if_join (fun a w' => Sv 253 ((17, .int .i64 ((if r.dot = true then r.dp else (r.nd : Int)))) :: (140, .bool (!(r.dig))) :: (60, .bool false) :: (7, .int .i64 ((i : Nat) : Int)) :: (2, .int .u64 ((r.m : Nat) : Int)) :: (15, .int .i64 ((r.nd : Nat) : Int)) :: (16, .int .i64 ((r.nd : Nat) : Int)) :: (13, .bool (r.dot)) :: (14, .bool (r.dig)) :: (5, .bool false) :: (9, .bool false) :: (10, .int .u64 10) :: (11, .int .i64 19) :: (0, .string s) :: (3, .int .i64 0) :: (4, .bool false) :: (6, .bool false) :: (8, .bool false) :: (12, .int .u8 101) :: []) [] (fun _ => False) w a w') (hS.get 142 rfl) ?_ ?_ ?_
   ·intro hb4 Q' hQ'
    refine wp_region_lit ?_
    refine sv_r (v := .int .i64 ((r.nd : Nat) : Int)) hS (ex_mv (hS.get 15 rfl)) fun a hS => ?_
    refine sv_r (v := .int .i64 ((r.nd : Nat) : Int)) hS (ex_as (hS.get 143 rfl)) fun a hS => ?_
    refine wpList_nil ?_
    replace hS : Sv 253 ((17, .int .i64 ((r.nd : Nat) : Int)) :: (142, .bool (!(r.dot))) :: (140, .bool (!(r.dig))) :: (60, .bool false) :: (7, .int .i64 ((i : Nat) : Int)) :: (2, .int .u64 ((r.m : Nat) : Int)) :: (15, .int .i64 ((r.nd : Nat) : Int)) :: (16, .int .i64 ((r.nd : Nat) : Int)) :: (13, .bool (r.dot)) :: (14, .bool (r.dig)) :: (5, .bool false) :: (9, .bool false) :: (10, .int .u64 10) :: (11, .int .i64 19) :: (0, .string s) :: (3, .int .i64 0) :: (4, .bool false) :: (6, .bool false) :: (8, .bool false) :: (12, .int .u8 101) :: []) [] (fun _ => False) w a w3 := hS.pick rfl
    exact hQ' _ _ (by rw [show (if r.dot = true then r.dp else (r.nd : Int)) = (r.nd : Int) from (if_neg (by intro h; rw [h] at hb4; cases hb4))]; exact hS.pick rfl)
   ·intro hb4 Q' hQ'
    refine wp_skip ?_
    exact hQ' _ _ (by rw [show (if r.dot = true then r.dp else (r.nd : Int)) = r.dp from (if_pos (by cases hd : r.dot with | true => rfl | false => rw [hd] at hb4; cases hb4))]; exact hS.pick rfl)
   ·rintro a w5 hS
    show Code.wp _ _ _ _ _
    refine wp_seq ?_
    refine wp_seq ?_
    refine wp_region_lit ?_
    refine sv_r (v := .int .u64 10) hS (ex_mv (hS.get 10 rfl)) fun a hS => ?_
    refine sv_r (v := .bool false) hS (ei_eql (hS.get 144 rfl) rfl (by rw [decide_eq_false_iff_not]; omega)) fun a hS => ?_
    replace hS : Sv 253 ((145, .bool false) :: (17, .int .i64 ((if r.dot = true then r.dp else (r.nd : Int)))) :: (140, .bool (!(r.dig))) :: (60, .bool false) :: (7, .int .i64 ((i : Nat) : Int)) :: (2, .int .u64 ((r.m : Nat) : Int)) :: (15, .int .i64 ((r.nd : Nat) : Int)) :: (16, .int .i64 ((r.nd : Nat) : Int)) :: (13, .bool (r.dot)) :: (14, .bool (r.dig)) :: (5, .bool false) :: (9, .bool false) :: (10, .int .u64 10) :: (11, .int .i64 19) :: (0, .string s) :: (3, .int .i64 0) :: (4, .bool false) :: (6, .bool false) :: (8, .bool false) :: (12, .int .u8 101) :: []) [] (fun _ => False) w a w5 := hS.pick rfl
    refine nx1 ?_
    refine cond_f (hS.get 145 rfl) ?_
    refine wp_skip ?_
    show Code.wp _ _ _ _ _
    refine wp_seq ?_
    refine wp_seq ?_
    refine wp_region_lit ?_
    refine sv_r (v := .int .i64 ((i : Nat) : Int)) hS (ex_mv (hS.get 7 rfl)) fun a hS => ?_
    refine sv_r (v := .string s) hS (ex_mv (hS.get 0 rfl)) fun a hS => ?_
    refine sv_r (v := .int .i64 ((s.size : Nat) : Int)) hS (ex_slen (ats := #[]) (hS.get 151 rfl)) fun a hS => ?_
    refine sv_r (v := .bool false) hS (ei_lss (hS.get 150 rfl) (hS.get 152 rfl) (by rw [decide_eq_false_iff_not]; omega)) fun a hS => ?_
    refine sv_r (v := .bool false) hS (ex_mv (hS.get 153 rfl)) fun a hS => ?_
    refine sv_goff hS rfl rfl (hS.get 154 rfl) rfl rfl (by decide) ?_
    intro a hS
    refine sv_goff hS rfl rfl (hS.get 154 rfl) rfl rfl (by decide) ?_
    intro a hS
    refine sv_goff hS rfl rfl (hS.get 154 rfl) rfl rfl (by decide) ?_
    intro a hS
    refine sv_goff hS rfl rfl (hS.get 154 rfl) rfl rfl (by decide) ?_
    intro a hS
    refine sv_goff hS rfl rfl (hS.get 154 rfl) rfl rfl (by decide) ?_
    intro a hS
    refine sv_goff hS rfl rfl (hS.get 154 rfl) rfl rfl (by decide) ?_
    intro a hS
    refine sv_r (v := .bool false) hS (ex_pickF (hS.get 154 rfl) rfl) fun a hS => ?_
    refine wpList_nil ?_
    replace hS := hS.cut [161, 145, 17, 140, 60, 7, 2, 15, 16, 13, 14, 5, 9, 10, 11, 0, 3, 4, 6, 8, 12]
    show Code.wp _ _ _ _ _
    refine cond_f (hS.get 161 rfl) ?_
    refine wp_seq ?_
    refine wp_region_lit ?_
    refine sv_r (v := .int .u64 10) hS (ex_mv (hS.get 10 rfl)) fun a hS => ?_
    refine sv_r (v := .bool false) hS (ei_eql (hS.get 238 rfl) rfl (by rw [decide_eq_false_iff_not]; omega)) fun a hS => ?_
    refine wpList_nil ?_
    replace hS := hS.cut [239, 161, 145, 17, 140, 60, 7, 2, 15, 16, 13, 14, 5, 9, 10, 11, 0, 3, 4, 6, 8, 12]
    show Code.wp _ _ _ _ _
    refine cond_f (hS.get 239 rfl) ?_
    refine wp_skip ?_
    show Code.wp _ _ _ _ _
    refine wp_seq ?_
    refine wp_seq ?_
    refine wp_region_lit ?_
    refine sv_r (v := .int .u64 ((r.m : Nat) : Int)) hS (ex_mv (hS.get 2 rfl)) fun a hS => ?_
    refine sv_r (v := .bool (decide ((r.m : Nat) ≠ 0))) hS (ei_neq (hS.get 240 rfl) rfl (by rw [decide_eq_decide]; omega)) fun a hS => ?_
    replace hS : Sv 253 ((241, .bool (decide ((r.m : Nat) ≠ 0))) :: (239, .bool false) :: (161, .bool false) :: (145, .bool false) :: (17, .int .i64 ((if r.dot = true then r.dp else (r.nd : Int)))) :: (140, .bool (!(r.dig))) :: (60, .bool false) :: (7, .int .i64 ((i : Nat) : Int)) :: (2, .int .u64 ((r.m : Nat) : Int)) :: (15, .int .i64 ((r.nd : Nat) : Int)) :: (16, .int .i64 ((r.nd : Nat) : Int)) :: (13, .bool (r.dot)) :: (14, .bool (r.dig)) :: (5, .bool false) :: (9, .bool false) :: (10, .int .u64 10) :: (11, .int .i64 19) :: (0, .string s) :: (3, .int .i64 0) :: (4, .bool false) :: (6, .bool false) :: (8, .bool false) :: (12, .int .u8 101) :: []) [] (fun _ => False) w a w5 := hS.pick rfl
    refine nx1 ?_
    refine if_join (fun a w' => Sv 253 ((3, .int .i64 (r.exp)) :: (239, .bool false) :: (161, .bool false) :: (145, .bool false) :: (17, .int .i64 ((if r.dot = true then r.dp else (r.nd : Int)))) :: (140, .bool (!(r.dig))) :: (60, .bool false) :: (7, .int .i64 ((i : Nat) : Int)) :: (2, .int .u64 ((r.m : Nat) : Int)) :: (15, .int .i64 ((r.nd : Nat) : Int)) :: (16, .int .i64 ((r.nd : Nat) : Int)) :: (13, .bool (r.dot)) :: (14, .bool (r.dig)) :: (5, .bool false) :: (9, .bool false) :: (10, .int .u64 10) :: (11, .int .i64 19) :: (0, .string s) :: (4, .bool false) :: (6, .bool false) :: (8, .bool false) :: (12, .int .u8 101) :: []) [] (fun _ => False) w a w') (hS.get 241 rfl) ?_ ?_ ?_
    ·intro hb6 Q' hQ'
     have hb6 := of_decide_eq_true hb6
     refine wp_region_lit ?_
     refine sv_r (v := .int .i64 ((if r.dot = true then r.dp else (r.nd : Int)))) hS (ex_mv (hS.get 17 rfl)) fun a hS => ?_
     refine sv_r (v := .int .i64 ((r.nd : Nat) : Int)) hS (ex_mv (hS.get 16 rfl)) fun a hS => ?_
     refine sv_r (v := .int .i64 ((if r.dot = true then r.dp else (r.nd : Int)) - (r.nd : Int))) hS (ei_sub (hS.get 242 rfl) (hS.get 243 rfl) (by rw [IntKind.wrap_i64]; split <;> omega)) fun a hS => ?_
     refine sv_r (v := .int .i64 ((if r.dot = true then r.dp else (r.nd : Int)) - (r.nd : Int))) hS (ex_as (hS.get 244 rfl)) fun a hS => ?_
     refine wpList_nil ?_
     replace hS := hS.cut [3, 241, 239, 161, 145, 17, 140, 60, 7, 2, 15, 16, 13, 14, 5, 9, 10, 11, 0, 4, 6, 8, 12]
     exact hQ' _ _ (by rw [show r.exp = (if r.dot = true then r.dp else (r.nd : Int)) - (r.nd : Int) from (if_pos hb6)]; exact hS.pick rfl)
    ·intro hb6 Q' hQ'
     have hb6 := of_decide_eq_false hb6
     refine wp_skip ?_
     exact hQ' _ _ (by rw [show r.exp = 0 from (if_neg (by simpa using hb6))]; exact hS.pick rfl)
    ·rintro a w7 hS
     show Code.wp _ _ _ _ _
     refine wp_seq ?_
     refine wp_seq ?_
     refine wp_region_lit ?_
     refine sv_r (v := .bool false) hS (ex_mv (hS.get 9 rfl)) fun a hS => ?_
     refine sv_r (v := .bool false) hS (ex_mv (hS.get 245 rfl)) fun a hS => ?_
     refine sv_goff hS rfl rfl (hS.get 246 rfl) rfl rfl (by decide) ?_
     intro a hS
     refine sv_goff hS rfl rfl (hS.get 246 rfl) rfl rfl (by decide) ?_
     intro a hS
     refine sv_goff hS rfl rfl (hS.get 246 rfl) rfl rfl (by decide) ?_
     intro a hS
     refine sv_goff hS rfl rfl (hS.get 246 rfl) rfl rfl (by decide) ?_
     intro a hS
     refine sv_goff hS rfl rfl (hS.get 246 rfl) rfl rfl (by decide) ?_
     intro a hS
     refine sv_r (v := .bool false) hS (ex_pickF (hS.get 246 rfl) rfl) fun a hS => ?_
     refine wpList_nil ?_
     replace hS := hS.cut [252, 3, 239, 161, 145, 17, 140, 60, 7, 2, 15, 16, 13, 14, 5, 9, 10, 11, 0, 4, 6, 8, 12]
     show Code.wp _ _ _ _ _
     refine cond_f (hS.get 252 rfl) ?_
     refine wp_skip ?_
     show Code.wp _ _ _ _ _
     refine wp_seq ?_
     refine wp_region_lit ?_
     refine sv_r (v := .bool true) hS ex_ac fun a hS => ?_
     refine wpList_nil ?_
     replace hS := hS.cut [8, 252, 3, 239, 161, 145, 17, 140, 60, 7, 2, 15, 16, 13, 14, 5, 9, 10, 11, 0, 4, 6, 12]
     show Code.wp _ _ _ _ _
     refine wp_ret ?_
     try simp only [Exit.inBlock, Exit.then]
     simp only [Exit.noGoto]
     exact ret7_of_ev hS.ev rfl (hS.get 2 rfl) (hS.get 3 rfl) (hS.get 4 rfl) (hS.get 5 rfl) (hS.get 6 rfl) (hS.get 7 rfl) (hS.get 8 rfl) ⟨by rw [hr, hie, List.take_of_length_le (by rw [len_list]; exact Nat.le_refl _)], hS.toBelow⟩
  ·obtain ⟨hce, hdt, hst⟩ := hcase
   have hfit : r.m < 1000000000000000000 ∧ r.nd < 19 ∧ -100 ≤ r.dp ∧ r.dp ≤ 100 := by simpa [Rf.fits, and_assoc] using hfi
   replace hS : Sv 253 ((7, .int .i64 ((i : Nat) : Int)) :: (2, .int .u64 ((r.m : Nat) : Int)) :: (17, .int .i64 (r.dp)) :: (15, .int .i64 ((r.nd : Nat) : Int)) :: (16, .int .i64 ((r.nd : Nat) : Int)) :: (13, .bool false) :: (14, .bool (r.dig)) :: (5, .bool false) :: (9, .bool false) :: (10, .int .u64 10) :: (11, .int .i64 19) :: (0, .string s) :: (3, .int .i64 0) :: (4, .bool false) :: (6, .bool false) :: (8, .bool false) :: (12, .int .u8 101) :: []) [] (fun _ => False) w a w3 := by have h9 := hS; rw [hdt] at h9; exact h9
   refine wp_seq ?_
   refine wp_seq ?_
   refine wp_region_lit ?_
   refine sv_r (v := .int .i64 ((i : Nat) : Int)) hS (ex_mv (hS.get 7 rfl)) fun a hS => ?_
   refine sv_r (v := .string s) hS (ex_mv (hS.get 0 rfl)) fun a hS => ?_
   refine sv_r (v := .int .i64 ((s.size : Nat) : Int)) hS (ex_slen (ats := #[]) (hS.get 58 rfl)) fun a hS => ?_
   refine sv_r (v := .bool true) hS (ei_lss (hS.get 57 rfl) (hS.get 59 rfl) (by rw [decide_eq_true_iff]; omega)) fun a hS => ?_
   replace hS : Sv 253 ((60, .bool true) :: (7, .int .i64 ((i : Nat) : Int)) :: (2, .int .u64 ((r.m : Nat) : Int)) :: (17, .int .i64 (r.dp)) :: (15, .int .i64 ((r.nd : Nat) : Int)) :: (16, .int .i64 ((r.nd : Nat) : Int)) :: (13, .bool false) :: (14, .bool (r.dig)) :: (5, .bool false) :: (9, .bool false) :: (10, .int .u64 10) :: (11, .int .i64 19) :: (0, .string s) :: (3, .int .i64 0) :: (4, .bool false) :: (6, .bool false) :: (8, .bool false) :: (12, .int .u8 101) :: []) [] (fun _ => False) w a w3 := hS.pick rfl
   refine nx1 ?_
   refine cond_t (hS.get 60 rfl) ?_
   refine wp_skip ?_
   show Code.wp _ _ _ _ _
   refine wp_seq ?_
   refine wp_block ?_
   refine wp_seq ?_
   refine wp_seq ?_
   refine wp_region_lit ?_
   refine sv_r (v := .string s) hS (ex_mv (hS.get 0 rfl)) fun a hS => ?_
   refine sv_r (v := .int .i64 ((i : Nat) : Int)) hS (ex_mv (hS.get 7 rfl)) fun a hS => ?_
   refine sv_r (v := .int .u8 (((s[i]'hlt).toNat : Nat) : Int)) hS (ex_sidx (hS.get 63 rfl) (hS.get 64 rfl) hlt) fun a hS => ?_
   refine sv_r (v := .int .u8 (((s[i]'hlt).toNat : Nat) : Int)) hS (ex_as (hS.get 65 rfl)) fun a hS => ?_
   refine wpList_nil ?_
   replace hS := hS.cut [18, 60, 7, 2, 17, 15, 16, 13, 14, 5, 9, 10, 11, 0, 3, 4, 6, 8, 12]
   show Code.wp _ _ _ _ _
   refine wp_block ?_
   refine wp_seq ?_
   refine wp_region_lit ?_
   refine sv_r (v := .int .u8 (((s[i]'hlt).toNat : Nat) : Int)) hS (ex_mv (hS.get 18 rfl)) fun a hS => ?_
   refine sv_r (v := .bool false) hS (ei_eql (hS.get 67 rfl) rfl (by rw [decide_eq_false_iff_not]; omega)) fun a hS => ?_
   refine sv_r (v := .bool false) hS (eb_true (hS.get 68 rfl)) fun a hS => ?_
   refine sv_r (v := .bool false) hS (ex_as (hS.get 69 rfl)) fun a hS => ?_
   refine wpList_nil ?_
   replace hS := hS.cut [66, 18, 60, 7, 2, 17, 15, 16, 13, 14, 5, 9, 10, 11, 0, 3, 4, 6, 8, 12]
   show Code.wp _ _ _ _ _
   refine cond_f (hS.get 66 rfl) ?_
   refine wp_seq ?_
   refine wp_region_lit ?_
   refine sv_r (v := .int .u8 (((s[i]'hlt).toNat : Nat) : Int)) hS (ex_mv (hS.get 18 rfl)) fun a hS => ?_
   refine sv_r (v := .bool true) hS (ei_eql (hS.get 71 rfl) rfl (by rw [decide_eq_true_iff]; omega)) fun a hS => ?_
   refine sv_r (v := .bool true) hS (eb_true (hS.get 72 rfl)) fun a hS => ?_
   refine sv_r (v := .bool true) hS (ex_as (hS.get 73 rfl)) fun a hS => ?_
   replace hS : Sv 253 ((70, .bool true) :: (66, .bool false) :: (18, .int .u8 (((s[i]'hlt).toNat : Nat) : Int)) :: (60, .bool true) :: (7, .int .i64 ((i : Nat) : Int)) :: (2, .int .u64 ((r.m : Nat) : Int)) :: (17, .int .i64 (r.dp)) :: (15, .int .i64 ((r.nd : Nat) : Int)) :: (16, .int .i64 ((r.nd : Nat) : Int)) :: (13, .bool false) :: (14, .bool (r.dig)) :: (5, .bool false) :: (9, .bool false) :: (10, .int .u64 10) :: (11, .int .i64 19) :: (0, .string s) :: (3, .int .i64 0) :: (4, .bool false) :: (6, .bool false) :: (8, .bool false) :: (12, .int .u8 101) :: []) [] (fun _ => False) w a w3 := hS.pick rfl
   refine nx1 ?_
   refine cond_t (hS.get 70 rfl) ?_
   refine wp_seq ?_
   refine wp_seq ?_
   refine wp_region_lit ?_
   refine sv_r (v := .bool false) hS (ex_mv (hS.get 13 rfl)) fun a hS => ?_
   refine wpList_nil ?_
   replace hS := hS.cut [74, 70, 66, 18, 60, 7, 2, 17, 15, 16, 13, 14, 5, 9, 10, 11, 0, 3, 4, 6, 8, 12]
   show Code.wp _ _ _ _ _
   refine cond_f (hS.get 74 rfl) ?_
   refine wp_skip ?_
   show Code.wp _ _ _ _ _
   refine wp_seq ?_
   refine wp_region_lit ?_
   refine sv_r (v := .bool true) hS ex_ac fun a hS => ?_
   refine wpList_nil ?_
   replace hS := hS.cut [13, 74, 70, 66, 18, 60, 7, 2, 17, 15, 16, 14, 5, 9, 10, 11, 0, 3, 4, 6, 8, 12]
   show Code.wp _ _ _ _ _
   refine wp_seq ?_
   refine wp_region_lit ?_
   refine sv_r (v := .int .i64 ((r.nd : Nat) : Int)) hS (ex_mv (hS.get 15 rfl)) fun a hS => ?_
   refine sv_r (v := .int .i64 ((r.nd : Nat) : Int)) hS (ex_as (hS.get 75 rfl)) fun a hS => ?_
   replace hS : Sv 253 ((17, .int .i64 ((r.nd : Nat) : Int)) :: (13, .bool true) :: (74, .bool false) :: (70, .bool true) :: (66, .bool false) :: (18, .int .u8 (((s[i]'hlt).toNat : Nat) : Int)) :: (60, .bool true) :: (7, .int .i64 ((i : Nat) : Int)) :: (2, .int .u64 ((r.m : Nat) : Int)) :: (15, .int .i64 ((r.nd : Nat) : Int)) :: (16, .int .i64 ((r.nd : Nat) : Int)) :: (14, .bool (r.dig)) :: (5, .bool false) :: (9, .bool false) :: (10, .int .u64 10) :: (11, .int .i64 19) :: (0, .string s) :: (3, .int .i64 0) :: (4, .bool false) :: (6, .bool false) :: (8, .bool false) :: (12, .int .u8 101) :: []) [] (fun _ => False) w a w3 := hS.pick rfl
   refine nx1 ?_
   refine wp_exit ?_
   show Code.wp _ _ _ _ _
   refine wp_region_lit ?_
   refine sv_r (v := .int .i64 ((i : Nat) : Int)) hS (ex_mv (hS.get 7 rfl)) fun a hS => ?_
   refine sv_r (v := .int .i64 ((i + 1 : Nat) : Int)) hS (ei_add (hS.get 61 rfl) rfl (by rw [IntKind.wrap_i64]; omega)) fun a hS => ?_
   refine sv_r (v := .int .i64 ((i + 1 : Nat) : Int)) hS (ex_as (hS.get 62 rfl)) fun a hS => ?_
   refine wpList_nil ?_
   replace hS := hS.cut [7, 17, 13, 74, 70, 66, 18, 60, 2, 15, 16, 14, 5, 9, 10, 11, 0, 3, 4, 6, 8, 12]
   refine ⟨⟨i + 1, { r with dot := true, dp := (r.nd : Int) }, by omega, by rw [take_next hlt, ← hr, hst], by rw [← hst]; exact hgn, hS.pick rfl⟩, ?_⟩
   have h1 := hS.get 7 rfl; rw [h1]; rw [hS0]; simp only [intOf]; omega
  ·obtain ⟨hce, hnd, hst⟩ := hcase
   have hfit : r.m < 1000000000000000000 ∧ r.nd < 19 ∧ -100 ≤ r.dp ∧ r.dp ≤ 100 := by simpa [Rf.fits, and_assoc] using hfi
   refine wp_seq ?_
   refine wp_seq ?_
   refine wp_region_lit ?_
   refine sv_r (v := .int .i64 ((i : Nat) : Int)) hS (ex_mv (hS.get 7 rfl)) fun a hS => ?_
   refine sv_r (v := .string s) hS (ex_mv (hS.get 0 rfl)) fun a hS => ?_
   refine sv_r (v := .int .i64 ((s.size : Nat) : Int)) hS (ex_slen (ats := #[]) (hS.get 58 rfl)) fun a hS => ?_
   refine sv_r (v := .bool true) hS (ei_lss (hS.get 57 rfl) (hS.get 59 rfl) (by rw [decide_eq_true_iff]; omega)) fun a hS => ?_
   replace hS : Sv 253 ((60, .bool true) :: (7, .int .i64 ((i : Nat) : Int)) :: (2, .int .u64 ((r.m : Nat) : Int)) :: (17, .int .i64 (r.dp)) :: (15, .int .i64 ((r.nd : Nat) : Int)) :: (16, .int .i64 ((r.nd : Nat) : Int)) :: (13, .bool (r.dot)) :: (14, .bool (r.dig)) :: (5, .bool false) :: (9, .bool false) :: (10, .int .u64 10) :: (11, .int .i64 19) :: (0, .string s) :: (3, .int .i64 0) :: (4, .bool false) :: (6, .bool false) :: (8, .bool false) :: (12, .int .u8 101) :: []) [] (fun _ => False) w a w3 := hS.pick rfl
   refine nx1 ?_
   refine cond_t (hS.get 60 rfl) ?_
   refine wp_skip ?_
   show Code.wp _ _ _ _ _
   refine wp_seq ?_
   refine wp_block ?_
   refine wp_seq ?_
   refine wp_seq ?_
   refine wp_region_lit ?_
   refine sv_r (v := .string s) hS (ex_mv (hS.get 0 rfl)) fun a hS => ?_
   refine sv_r (v := .int .i64 ((i : Nat) : Int)) hS (ex_mv (hS.get 7 rfl)) fun a hS => ?_
   refine sv_r (v := .int .u8 (((s[i]'hlt).toNat : Nat) : Int)) hS (ex_sidx (hS.get 63 rfl) (hS.get 64 rfl) hlt) fun a hS => ?_
   refine sv_r (v := .int .u8 (((s[i]'hlt).toNat : Nat) : Int)) hS (ex_as (hS.get 65 rfl)) fun a hS => ?_
   refine wpList_nil ?_
   replace hS := hS.cut [18, 60, 7, 2, 17, 15, 16, 13, 14, 5, 9, 10, 11, 0, 3, 4, 6, 8, 12]
   show Code.wp _ _ _ _ _
   refine wp_block ?_
   refine wp_seq ?_
   refine wp_region_lit ?_
   refine sv_r (v := .int .u8 (((s[i]'hlt).toNat : Nat) : Int)) hS (ex_mv (hS.get 18 rfl)) fun a hS => ?_
   refine sv_r (v := .bool false) hS (ei_eql (hS.get 67 rfl) rfl (by rw [decide_eq_false_iff_not]; omega)) fun a hS => ?_
   refine sv_r (v := .bool false) hS (eb_true (hS.get 68 rfl)) fun a hS => ?_
   refine sv_r (v := .bool false) hS (ex_as (hS.get 69 rfl)) fun a hS => ?_
   refine wpList_nil ?_
   replace hS := hS.cut [66, 18, 60, 7, 2, 17, 15, 16, 13, 14, 5, 9, 10, 11, 0, 3, 4, 6, 8, 12]
   show Code.wp _ _ _ _ _
   refine cond_f (hS.get 66 rfl) ?_
   refine wp_seq ?_
   refine wp_region_lit ?_
   refine sv_r (v := .int .u8 (((s[i]'hlt).toNat : Nat) : Int)) hS (ex_mv (hS.get 18 rfl)) fun a hS => ?_
   refine sv_r (v := .bool false) hS (ei_eql (hS.get 71 rfl) rfl (by rw [decide_eq_false_iff_not]; omega)) fun a hS => ?_
   refine sv_r (v := .bool false) hS (eb_true (hS.get 72 rfl)) fun a hS => ?_
   refine sv_r (v := .bool false) hS (ex_as (hS.get 73 rfl)) fun a hS => ?_
   replace hS : Sv 253 ((70, .bool false) :: (66, .bool false) :: (18, .int .u8 (((s[i]'hlt).toNat : Nat) : Int)) :: (60, .bool true) :: (7, .int .i64 ((i : Nat) : Int)) :: (2, .int .u64 ((r.m : Nat) : Int)) :: (17, .int .i64 (r.dp)) :: (15, .int .i64 ((r.nd : Nat) : Int)) :: (16, .int .i64 ((r.nd : Nat) : Int)) :: (13, .bool (r.dot)) :: (14, .bool (r.dig)) :: (5, .bool false) :: (9, .bool false) :: (10, .int .u64 10) :: (11, .int .i64 19) :: (0, .string s) :: (3, .int .i64 0) :: (4, .bool false) :: (6, .bool false) :: (8, .bool false) :: (12, .int .u8 101) :: []) [] (fun _ => False) w a w3 := hS.pick rfl
   refine nx1 ?_
   refine cond_f (hS.get 70 rfl) ?_
   refine wp_seq ?_
   refine wp_region_lit ?_
   refine sv_r (v := .int .u8 (((s[i]'hlt).toNat : Nat) : Int)) hS (ex_mv (hS.get 18 rfl)) fun a hS => ?_
   refine sv_r (v := .bool true) hS (ei_leq rfl (hS.get 77 rfl) (by rw [decide_eq_true_iff]; omega)) fun a hS => ?_
   refine sv_r (v := .bool true) hS (ex_mv (hS.get 78 rfl)) fun a hS => ?_
   refine sv_g (v := .int .u8 (((s[i]'hlt).toNat : Nat) : Int)) hS (hS.get 79 rfl) (ex_mv (hS.get 18 rfl)) fun a hS => ?_
   refine sv_g (v := .bool true) hS (hS.get 79 rfl) (ei_leq (hS.get 80 rfl) rfl (by rw [decide_eq_true_iff]; omega)) fun a hS => ?_
   refine sv_r (v := .bool true) hS (ex_pickT (hS.get 79 rfl) (hS.get 81 rfl)) fun a hS => ?_
   refine sv_r (v := .bool true) hS (eb_true (hS.get 82 rfl)) fun a hS => ?_
   refine sv_r (v := .bool true) hS (ex_as (hS.get 83 rfl)) fun a hS => ?_
   refine wpList_nil ?_
   replace hS := hS.cut [76, 70, 66, 18, 60, 7, 2, 17, 15, 16, 13, 14, 5, 9, 10, 11, 0, 3, 4, 6, 8, 12]
   show Code.wp _ _ _ _ _
   refine cond_t (hS.get 76 rfl) ?_
   refine wp_seq ?_
   refine wp_region_lit ?_
   refine sv_r (v := .bool true) hS ex_ac fun a hS => ?_
   refine wpList_nil ?_
   replace hS := hS.cut [14, 76, 70, 66, 18, 60, 7, 2, 17, 15, 16, 13, 5, 9, 10, 11, 0, 3, 4, 6, 8, 12]
   show Code.wp _ _ _ _ _
   refine wp_seq ?_
   refine wp_seq ?_
   refine wp_region_lit ?_
   refine sv_r (v := .int .u8 (((s[i]'hlt).toNat : Nat) : Int)) hS (ex_mv (hS.get 18 rfl)) fun a hS => ?_
   refine sv_r (v := .bool true) hS (ei_eql (hS.get 84 rfl) rfl (by rw [decide_eq_true_iff]; omega)) fun a hS => ?_
   refine sv_r (v := .bool true) hS (ex_mv (hS.get 85 rfl)) fun a hS => ?_
   refine sv_g (v := .int .i64 ((r.nd : Nat) : Int)) hS (hS.get 86 rfl) (ex_mv (hS.get 15 rfl)) fun a hS => ?_
   refine sv_g (v := .bool true) hS (hS.get 86 rfl) (ei_eql (hS.get 87 rfl) rfl (by rw [decide_eq_true_iff]; omega)) fun a hS => ?_
   refine sv_r (v := .bool true) hS (ex_pickT (hS.get 86 rfl) (hS.get 88 rfl)) fun a hS => ?_
   replace hS : Sv 253 ((89, .bool true) :: (14, .bool true) :: (76, .bool true) :: (70, .bool false) :: (66, .bool false) :: (18, .int .u8 (((s[i]'hlt).toNat : Nat) : Int)) :: (60, .bool true) :: (7, .int .i64 ((i : Nat) : Int)) :: (2, .int .u64 ((r.m : Nat) : Int)) :: (17, .int .i64 (r.dp)) :: (15, .int .i64 ((r.nd : Nat) : Int)) :: (16, .int .i64 ((r.nd : Nat) : Int)) :: (13, .bool (r.dot)) :: (5, .bool false) :: (9, .bool false) :: (10, .int .u64 10) :: (11, .int .i64 19) :: (0, .string s) :: (3, .int .i64 0) :: (4, .bool false) :: (6, .bool false) :: (8, .bool false) :: (12, .int .u8 101) :: []) [] (fun _ => False) w a w3 := hS.pick rfl
   refine nx1 ?_
   refine cond_t (hS.get 89 rfl) ?_
   refine wp_seq ?_
   refine wp_region_lit ?_
   refine sv_r (v := .int .i64 (r.dp)) hS (ex_mv (hS.get 17 rfl)) fun a hS => ?_
   refine sv_r (v := .int .i64 (r.dp - 1)) hS (ei_sub (hS.get 90 rfl) rfl (by rw [IntKind.wrap_i64]; omega)) fun a hS => ?_
   refine sv_r (v := .int .i64 (r.dp - 1)) hS (ex_as (hS.get 91 rfl)) fun a hS => ?_
   refine wpList_nil ?_
   replace hS := hS.cut [17, 89, 14, 76, 70, 66, 18, 60, 7, 2, 15, 16, 13, 5, 9, 10, 11, 0, 3, 4, 6, 8, 12]
   show Code.wp _ _ _ _ _
   refine wp_exit ?_
   show Code.wp _ _ _ _ _
   refine wp_region_lit ?_
   refine sv_r (v := .int .i64 ((i : Nat) : Int)) hS (ex_mv (hS.get 7 rfl)) fun a hS => ?_
   refine sv_r (v := .int .i64 ((i + 1 : Nat) : Int)) hS (ei_add (hS.get 61 rfl) rfl (by rw [IntKind.wrap_i64]; omega)) fun a hS => ?_
   refine sv_r (v := .int .i64 ((i + 1 : Nat) : Int)) hS (ex_as (hS.get 62 rfl)) fun a hS => ?_
   refine wpList_nil ?_
   replace hS := hS.cut [7, 17, 89, 14, 76, 70, 66, 18, 60, 2, 15, 16, 13, 5, 9, 10, 11, 0, 3, 4, 6, 8, 12]
   refine ⟨⟨i + 1, { r with dig := true, dp := r.dp - 1 }, by omega, by rw [take_next hlt, ← hr, hst], by rw [← hst]; exact hgn, hS.pick rfl⟩, ?_⟩
   have h1 := hS.get 7 rfl; rw [h1]; rw [hS0]; simp only [intOf]; omega
  ·obtain ⟨hce, hnd, hst⟩ := hcase
   have hfit : r.m < 1000000000000000000 ∧ r.nd < 19 ∧ -100 ≤ r.dp ∧ r.dp ≤ 100 := by simpa [Rf.fits, and_assoc] using hfi
   refine wp_seq ?_
   refine wp_seq ?_
   refine wp_region_lit ?_
   refine sv_r (v := .int .i64 ((i : Nat) : Int)) hS (ex_mv (hS.get 7 rfl)) fun a hS => ?_
   refine sv_r (v := .string s) hS (ex_mv (hS.get 0 rfl)) fun a hS => ?_
   refine sv_r (v := .int .i64 ((s.size : Nat) : Int)) hS (ex_slen (ats := #[]) (hS.get 58 rfl)) fun a hS => ?_
   refine sv_r (v := .bool true) hS (ei_lss (hS.get 57 rfl) (hS.get 59 rfl) (by rw [decide_eq_true_iff]; omega)) fun a hS => ?_
   replace hS : Sv 253 ((60, .bool true) :: (7, .int .i64 ((i : Nat) : Int)) :: (2, .int .u64 ((r.m : Nat) : Int)) :: (17, .int .i64 (r.dp)) :: (15, .int .i64 ((r.nd : Nat) : Int)) :: (16, .int .i64 ((r.nd : Nat) : Int)) :: (13, .bool (r.dot)) :: (14, .bool (r.dig)) :: (5, .bool false) :: (9, .bool false) :: (10, .int .u64 10) :: (11, .int .i64 19) :: (0, .string s) :: (3, .int .i64 0) :: (4, .bool false) :: (6, .bool false) :: (8, .bool false) :: (12, .int .u8 101) :: []) [] (fun _ => False) w a w3 := hS.pick rfl
   refine nx1 ?_
   refine cond_t (hS.get 60 rfl) ?_
   refine wp_skip ?_
   show Code.wp _ _ _ _ _
   refine wp_seq ?_
   refine wp_block ?_
   refine wp_seq ?_
   refine wp_seq ?_
   refine wp_region_lit ?_
   refine sv_r (v := .string s) hS (ex_mv (hS.get 0 rfl)) fun a hS => ?_
   refine sv_r (v := .int .i64 ((i : Nat) : Int)) hS (ex_mv (hS.get 7 rfl)) fun a hS => ?_
   refine sv_r (v := .int .u8 (((s[i]'hlt).toNat : Nat) : Int)) hS (ex_sidx (hS.get 63 rfl) (hS.get 64 rfl) hlt) fun a hS => ?_
   refine sv_r (v := .int .u8 (((s[i]'hlt).toNat : Nat) : Int)) hS (ex_as (hS.get 65 rfl)) fun a hS => ?_
   refine wpList_nil ?_
   replace hS := hS.cut [18, 60, 7, 2, 17, 15, 16, 13, 14, 5, 9, 10, 11, 0, 3, 4, 6, 8, 12]
   show Code.wp _ _ _ _ _
   refine wp_block ?_
   refine wp_seq ?_
   refine wp_region_lit ?_
   refine sv_r (v := .int .u8 (((s[i]'hlt).toNat : Nat) : Int)) hS (ex_mv (hS.get 18 rfl)) fun a hS => ?_
   refine sv_r (v := .bool false) hS (ei_eql (hS.get 67 rfl) rfl (by rw [decide_eq_false_iff_not]; omega)) fun a hS => ?_
   refine sv_r (v := .bool false) hS (eb_true (hS.get 68 rfl)) fun a hS => ?_
   refine sv_r (v := .bool false) hS (ex_as (hS.get 69 rfl)) fun a hS => ?_
   refine wpList_nil ?_
   replace hS := hS.cut [66, 18, 60, 7, 2, 17, 15, 16, 13, 14, 5, 9, 10, 11, 0, 3, 4, 6, 8, 12]
   show Code.wp _ _ _ _ _
   refine cond_f (hS.get 66 rfl) ?_
   refine wp_seq ?_
   refine wp_region_lit ?_
   refine sv_r (v := .int .u8 (((s[i]'hlt).toNat : Nat) : Int)) hS (ex_mv (hS.get 18 rfl)) fun a hS => ?_
   refine sv_r (v := .bool false) hS (ei_eql (hS.get 71 rfl) rfl (by rw [decide_eq_false_iff_not]; omega)) fun a hS => ?_
   refine sv_r (v := .bool false) hS (eb_true (hS.get 72 rfl)) fun a hS => ?_
   refine sv_r (v := .bool false) hS (ex_as (hS.get 73 rfl)) fun a hS => ?_
   replace hS : Sv 253 ((70, .bool false) :: (66, .bool false) :: (18, .int .u8 (((s[i]'hlt).toNat : Nat) : Int)) :: (60, .bool true) :: (7, .int .i64 ((i : Nat) : Int)) :: (2, .int .u64 ((r.m : Nat) : Int)) :: (17, .int .i64 (r.dp)) :: (15, .int .i64 ((r.nd : Nat) : Int)) :: (16, .int .i64 ((r.nd : Nat) : Int)) :: (13, .bool (r.dot)) :: (14, .bool (r.dig)) :: (5, .bool false) :: (9, .bool false) :: (10, .int .u64 10) :: (11, .int .i64 19) :: (0, .string s) :: (3, .int .i64 0) :: (4, .bool false) :: (6, .bool false) :: (8, .bool false) :: (12, .int .u8 101) :: []) [] (fun _ => False) w a w3 := hS.pick rfl
   refine nx1 ?_
   refine cond_f (hS.get 70 rfl) ?_
   refine wp_seq ?_
   refine wp_region_lit ?_
   refine sv_r (v := .int .u8 (((s[i]'hlt).toNat : Nat) : Int)) hS (ex_mv (hS.get 18 rfl)) fun a hS => ?_
   refine sv_r (v := .bool true) hS (ei_leq rfl (hS.get 77 rfl) (by rw [decide_eq_true_iff]; omega)) fun a hS => ?_
   refine sv_r (v := .bool true) hS (ex_mv (hS.get 78 rfl)) fun a hS => ?_
   refine sv_g (v := .int .u8 (((s[i]'hlt).toNat : Nat) : Int)) hS (hS.get 79 rfl) (ex_mv (hS.get 18 rfl)) fun a hS => ?_
   refine sv_g (v := .bool true) hS (hS.get 79 rfl) (ei_leq (hS.get 80 rfl) rfl (by rw [decide_eq_true_iff]; omega)) fun a hS => ?_
   refine sv_r (v := .bool true) hS (ex_pickT (hS.get 79 rfl) (hS.get 81 rfl)) fun a hS => ?_
   refine sv_r (v := .bool true) hS (eb_true (hS.get 82 rfl)) fun a hS => ?_
   refine sv_r (v := .bool true) hS (ex_as (hS.get 83 rfl)) fun a hS => ?_
   refine wpList_nil ?_
   replace hS := hS.cut [76, 70, 66, 18, 60, 7, 2, 17, 15, 16, 13, 14, 5, 9, 10, 11, 0, 3, 4, 6, 8, 12]
   show Code.wp _ _ _ _ _
   refine cond_t (hS.get 76 rfl) ?_
   refine wp_seq ?_
   refine wp_region_lit ?_
   refine sv_r (v := .bool true) hS ex_ac fun a hS => ?_
   refine wpList_nil ?_
   replace hS := hS.cut [14, 76, 70, 66, 18, 60, 7, 2, 17, 15, 16, 13, 5, 9, 10, 11, 0, 3, 4, 6, 8, 12]
   show Code.wp _ _ _ _ _
   refine wp_seq ?_
   refine wp_seq ?_
   refine wp_region_lit ?_
   refine sv_r (v := .int .u8 (((s[i]'hlt).toNat : Nat) : Int)) hS (ex_mv (hS.get 18 rfl)) fun a hS => ?_
   refine sv_r (v := .bool true) hS (ei_eql (hS.get 84 rfl) rfl (by rw [decide_eq_true_iff]; omega)) fun a hS => ?_
   refine sv_r (v := .bool true) hS (ex_mv (hS.get 85 rfl)) fun a hS => ?_
   refine sv_g (v := .int .i64 ((r.nd : Nat) : Int)) hS (hS.get 86 rfl) (ex_mv (hS.get 15 rfl)) fun a hS => ?_
   refine sv_g (v := .bool false) hS (hS.get 86 rfl) (ei_eql (hS.get 87 rfl) rfl (by rw [decide_eq_false_iff_not]; omega)) fun a hS => ?_
   refine sv_r (v := .bool false) hS (ex_pickT (hS.get 86 rfl) (hS.get 88 rfl)) fun a hS => ?_
   replace hS : Sv 253 ((89, .bool false) :: (14, .bool true) :: (76, .bool true) :: (70, .bool false) :: (66, .bool false) :: (18, .int .u8 (((s[i]'hlt).toNat : Nat) : Int)) :: (60, .bool true) :: (7, .int .i64 ((i : Nat) : Int)) :: (2, .int .u64 ((r.m : Nat) : Int)) :: (17, .int .i64 (r.dp)) :: (15, .int .i64 ((r.nd : Nat) : Int)) :: (16, .int .i64 ((r.nd : Nat) : Int)) :: (13, .bool (r.dot)) :: (5, .bool false) :: (9, .bool false) :: (10, .int .u64 10) :: (11, .int .i64 19) :: (0, .string s) :: (3, .int .i64 0) :: (4, .bool false) :: (6, .bool false) :: (8, .bool false) :: (12, .int .u8 101) :: []) [] (fun _ => False) w a w3 := hS.pick rfl
   refine nx1 ?_
   refine cond_f (hS.get 89 rfl) ?_
   refine wp_skip ?_
   show Code.wp _ _ _ _ _
   refine wp_seq ?_
   refine wp_region_lit ?_
   refine sv_r (v := .int .i64 ((r.nd : Nat) : Int)) hS (ex_mv (hS.get 15 rfl)) fun a hS => ?_
   refine sv_r (v := .int .i64 ((r.nd + 1 : Nat) : Int)) hS (ei_add (hS.get 92 rfl) rfl (by rw [IntKind.wrap_i64]; omega)) fun a hS => ?_
   refine sv_r (v := .int .i64 ((r.nd + 1 : Nat) : Int)) hS (ex_as (hS.get 93 rfl)) fun a hS => ?_
   refine wpList_nil ?_
   replace hS := hS.cut [15, 89, 14, 76, 70, 66, 18, 60, 7, 2, 17, 16, 13, 5, 9, 10, 11, 0, 3, 4, 6, 8, 12]
   show Code.wp _ _ _ _ _
   refine wp_seq ?_
   refine wp_seq ?_
   refine wp_region_lit ?_
   refine sv_r (v := .int .i64 ((r.nd : Nat) : Int)) hS (ex_mv (hS.get 16 rfl)) fun a hS => ?_
   refine sv_r (v := .int .i64 19) hS (ex_mv (hS.get 11 rfl)) fun a hS => ?_
   refine sv_r (v := .bool true) hS (ei_lss (hS.get 94 rfl) (hS.get 95 rfl) (by rw [decide_eq_true_iff]; omega)) fun a hS => ?_
   refine wpList_nil ?_
   replace hS := hS.cut [96, 15, 89, 14, 76, 70, 66, 18, 60, 7, 2, 17, 16, 13, 5, 9, 10, 11, 0, 3, 4, 6, 8, 12]
   show Code.wp _ _ _ _ _
   refine cond_t (hS.get 96 rfl) ?_
   refine wp_seq ?_
   refine wp_region_lit ?_
   refine sv_r (v := .int .u64 ((r.m : Nat) : Int)) hS (ex_mv (hS.get 2 rfl)) fun a hS => ?_
   refine sv_r (v := .int .u64 10) hS (ex_mv (hS.get 10 rfl)) fun a hS => ?_
   refine sv_r (v := .int .u64 ((r.m * 10 : Nat) : Int)) hS (ei_mul (hS.get 97 rfl) (hS.get 98 rfl) (by rw [IntKind.wrap_u64]; omega)) fun a hS => ?_
   refine sv_r (v := .int .u64 ((r.m * 10 : Nat) : Int)) hS (ex_as (hS.get 99 rfl)) fun a hS => ?_
   replace hS : Sv 253 ((2, .int .u64 ((r.m * 10 : Nat) : Int)) :: (96, .bool true) :: (15, .int .i64 ((r.nd + 1 : Nat) : Int)) :: (89, .bool false) :: (14, .bool true) :: (76, .bool true) :: (70, .bool false) :: (66, .bool false) :: (18, .int .u8 (((s[i]'hlt).toNat : Nat) : Int)) :: (60, .bool true) :: (7, .int .i64 ((i : Nat) : Int)) :: (17, .int .i64 (r.dp)) :: (16, .int .i64 ((r.nd : Nat) : Int)) :: (13, .bool (r.dot)) :: (5, .bool false) :: (9, .bool false) :: (10, .int .u64 10) :: (11, .int .i64 19) :: (0, .string s) :: (3, .int .i64 0) :: (4, .bool false) :: (6, .bool false) :: (8, .bool false) :: (12, .int .u8 101) :: []) [] (fun _ => False) w a w3 := hS.pick rfl
   refine nx3 ?_
   refine sv_r (v := .int .u64 ((r.m * 10 : Nat) : Int)) hS (ex_mv (hS.get 2 rfl)) fun a hS => ?_
   refine sv_r (v := .int .u8 (((s[i]'hlt).toNat : Nat) : Int)) hS (ex_mv (hS.get 18 rfl)) fun a hS => ?_
   refine sv_r (v := .int .u8 (((s[i]'hlt).toNat - 48 : Nat) : Int)) hS (ei_sub (hS.get 101 rfl) rfl (by rw [IntKind.wrap_u8]; omega)) fun a hS => ?_
   refine sv_r (v := .int .u64 (((s[i]'hlt).toNat - 48 : Nat) : Int)) hS (ex_cv (hS.get 102 rfl) (cv_uint8_uint64 _ (by rw [IntKind.wrap_u64]; omega))) fun a hS => ?_
   refine sv_r (v := .int .u64 (((r.m * 10) + ((s[i]'hlt).toNat - 48) : Nat) : Int)) hS (ei_add (hS.get 100 rfl) (hS.get 103 rfl) (by rw [IntKind.wrap_u64]; omega)) fun a hS => ?_
   refine sv_r (v := .int .u64 (((r.m * 10) + ((s[i]'hlt).toNat - 48) : Nat) : Int)) hS (ex_as (hS.get 104 rfl)) fun a hS => ?_
   refine wpList_nil ?_
   replace hS := hS.cut [2, 96, 15, 89, 14, 76, 70, 66, 18, 60, 7, 17, 16, 13, 5, 9, 10, 11, 0, 3, 4, 6, 8, 12]
   show Code.wp _ _ _ _ _
   refine wp_region_lit ?_
   refine sv_r (v := .int .i64 ((r.nd : Nat) : Int)) hS (ex_mv (hS.get 16 rfl)) fun a hS => ?_
   refine sv_r (v := .int .i64 ((r.nd + 1 : Nat) : Int)) hS (ei_add (hS.get 105 rfl) rfl (by rw [IntKind.wrap_i64]; omega)) fun a hS => ?_
   refine sv_r (v := .int .i64 ((r.nd + 1 : Nat) : Int)) hS (ex_as (hS.get 106 rfl)) fun a hS => ?_
   refine wpList_nil ?_
   replace hS := hS.cut [16, 2, 96, 15, 89, 14, 76, 70, 66, 18, 60, 7, 17, 13, 5, 9, 10, 11, 0, 3, 4, 6, 8, 12]
   show Code.wp _ _ _ _ _
   refine wp_exit ?_
   show Code.wp _ _ _ _ _
   refine wp_region_lit ?_
   refine sv_r (v := .int .i64 ((i : Nat) : Int)) hS (ex_mv (hS.get 7 rfl)) fun a hS => ?_
   refine sv_r (v := .int .i64 ((i + 1 : Nat) : Int)) hS (ei_add (hS.get 61 rfl) rfl (by rw [IntKind.wrap_i64]; omega)) fun a hS => ?_
   refine sv_r (v := .int .i64 ((i + 1 : Nat) : Int)) hS (ex_as (hS.get 62 rfl)) fun a hS => ?_
   refine wpList_nil ?_
   replace hS : Sv 253 ((7, .int .i64 ((i + 1 : Nat) : Int)) :: (16, .int .i64 ((r.nd + 1 : Nat) : Int)) :: (2, .int .u64 (((r.m * 10) + ((s[i]'hlt).toNat - 48) : Nat) : Int)) :: (96, .bool true) :: (15, .int .i64 ((r.nd + 1 : Nat) : Int)) :: (89, .bool false) :: (14, .bool true) :: (76, .bool true) :: (70, .bool false) :: (66, .bool false) :: (18, .int .u8 (((s[i]'hlt).toNat : Nat) : Int)) :: (60, .bool true) :: (17, .int .i64 (r.dp)) :: (13, .bool (r.dot)) :: (5, .bool false) :: (9, .bool false) :: (10, .int .u64 10) :: (11, .int .i64 19) :: (0, .string s) :: (3, .int .i64 0) :: (4, .bool false) :: (6, .bool false) :: (8, .bool false) :: (12, .int .u8 101) :: []) [] (fun _ => False) w a w3 := hS.pick rfl
   refine ⟨⟨i + 1, { r with dig := true, nd := r.nd + 1, m := r.m * 10 + ((s[i]'hlt).toNat - 48) }, by omega, by rw [take_next hlt, ← hr, hst], by rw [← hst]; exact hgn, hS.pick rfl⟩, ?_⟩
   have h1 := hS.get 7 rfl; rw [h1]; rw [hS0]; simp only [intOf]; omega
  ·obtain ⟨⟨hce, hce2⟩, hst⟩ := hcase
   have hfit : r.m < 1000000000000000000 ∧ r.nd < 19 ∧ -100 ≤ r.dp ∧ r.dp ≤ 100 := by simpa [Rf.fits, and_assoc] using hfi
   refine wp_seq ?_
   refine wp_seq ?_
   refine wp_region_lit ?_
   refine sv_r (v := .int .i64 ((i : Nat) : Int)) hS (ex_mv (hS.get 7 rfl)) fun a hS => ?_
   refine sv_r (v := .string s) hS (ex_mv (hS.get 0 rfl)) fun a hS => ?_
   refine sv_r (v := .int .i64 ((s.size : Nat) : Int)) hS (ex_slen (ats := #[]) (hS.get 58 rfl)) fun a hS => ?_
   refine sv_r (v := .bool true) hS (ei_lss (hS.get 57 rfl) (hS.get 59 rfl) (by rw [decide_eq_true_iff]; omega)) fun a hS => ?_
   replace hS : Sv 253 ((60, .bool true) :: (7, .int .i64 ((i : Nat) : Int)) :: (2, .int .u64 ((r.m : Nat) : Int)) :: (17, .int .i64 (r.dp)) :: (15, .int .i64 ((r.nd : Nat) : Int)) :: (16, .int .i64 ((r.nd : Nat) : Int)) :: (13, .bool (r.dot)) :: (14, .bool (r.dig)) :: (5, .bool false) :: (9, .bool false) :: (10, .int .u64 10) :: (11, .int .i64 19) :: (0, .string s) :: (3, .int .i64 0) :: (4, .bool false) :: (6, .bool false) :: (8, .bool false) :: (12, .int .u8 101) :: []) [] (fun _ => False) w a w3 := hS.pick rfl
   refine nx1 ?_
   refine cond_t (hS.get 60 rfl) ?_
   refine wp_skip ?_
   show Code.wp _ _ _ _ _
   refine wp_seq ?_
   refine wp_block ?_
   refine wp_seq ?_
   refine wp_seq ?_
   refine wp_region_lit ?_
   refine sv_r (v := .string s) hS (ex_mv (hS.get 0 rfl)) fun a hS => ?_
   refine sv_r (v := .int .i64 ((i : Nat) : Int)) hS (ex_mv (hS.get 7 rfl)) fun a hS => ?_
   refine sv_r (v := .int .u8 (((s[i]'hlt).toNat : Nat) : Int)) hS (ex_sidx (hS.get 63 rfl) (hS.get 64 rfl) hlt) fun a hS => ?_
   refine sv_r (v := .int .u8 (((s[i]'hlt).toNat : Nat) : Int)) hS (ex_as (hS.get 65 rfl)) fun a hS => ?_
   refine wpList_nil ?_
   replace hS := hS.cut [18, 60, 7, 2, 17, 15, 16, 13, 14, 5, 9, 10, 11, 0, 3, 4, 6, 8, 12]
   show Code.wp _ _ _ _ _
   refine wp_block ?_
   refine wp_seq ?_
   refine wp_region_lit ?_
   refine sv_r (v := .int .u8 (((s[i]'hlt).toNat : Nat) : Int)) hS (ex_mv (hS.get 18 rfl)) fun a hS => ?_
   refine sv_r (v := .bool false) hS (ei_eql (hS.get 67 rfl) rfl (by rw [decide_eq_false_iff_not]; omega)) fun a hS => ?_
   refine sv_r (v := .bool false) hS (eb_true (hS.get 68 rfl)) fun a hS => ?_
   refine sv_r (v := .bool false) hS (ex_as (hS.get 69 rfl)) fun a hS => ?_
   refine wpList_nil ?_
   replace hS := hS.cut [66, 18, 60, 7, 2, 17, 15, 16, 13, 14, 5, 9, 10, 11, 0, 3, 4, 6, 8, 12]
   show Code.wp _ _ _ _ _
   refine cond_f (hS.get 66 rfl) ?_
   refine wp_seq ?_
   refine wp_region_lit ?_
   refine sv_r (v := .int .u8 (((s[i]'hlt).toNat : Nat) : Int)) hS (ex_mv (hS.get 18 rfl)) fun a hS => ?_
   refine sv_r (v := .bool false) hS (ei_eql (hS.get 71 rfl) rfl (by rw [decide_eq_false_iff_not]; omega)) fun a hS => ?_
   refine sv_r (v := .bool false) hS (eb_true (hS.get 72 rfl)) fun a hS => ?_
   refine sv_r (v := .bool false) hS (ex_as (hS.get 73 rfl)) fun a hS => ?_
   replace hS : Sv 253 ((70, .bool false) :: (66, .bool false) :: (18, .int .u8 (((s[i]'hlt).toNat : Nat) : Int)) :: (60, .bool true) :: (7, .int .i64 ((i : Nat) : Int)) :: (2, .int .u64 ((r.m : Nat) : Int)) :: (17, .int .i64 (r.dp)) :: (15, .int .i64 ((r.nd : Nat) : Int)) :: (16, .int .i64 ((r.nd : Nat) : Int)) :: (13, .bool (r.dot)) :: (14, .bool (r.dig)) :: (5, .bool false) :: (9, .bool false) :: (10, .int .u64 10) :: (11, .int .i64 19) :: (0, .string s) :: (3, .int .i64 0) :: (4, .bool false) :: (6, .bool false) :: (8, .bool false) :: (12, .int .u8 101) :: []) [] (fun _ => False) w a w3 := hS.pick rfl
   refine nx1 ?_
   refine cond_f (hS.get 70 rfl) ?_
   refine wp_seq ?_
   refine wp_region_lit ?_
   refine sv_r (v := .int .u8 (((s[i]'hlt).toNat : Nat) : Int)) hS (ex_mv (hS.get 18 rfl)) fun a hS => ?_
   refine sv_r (v := .bool true) hS (ei_leq rfl (hS.get 77 rfl) (by rw [decide_eq_true_iff]; omega)) fun a hS => ?_
   refine sv_r (v := .bool true) hS (ex_mv (hS.get 78 rfl)) fun a hS => ?_
   refine sv_g (v := .int .u8 (((s[i]'hlt).toNat : Nat) : Int)) hS (hS.get 79 rfl) (ex_mv (hS.get 18 rfl)) fun a hS => ?_
   refine sv_g (v := .bool true) hS (hS.get 79 rfl) (ei_leq (hS.get 80 rfl) rfl (by rw [decide_eq_true_iff]; omega)) fun a hS => ?_
   refine sv_r (v := .bool true) hS (ex_pickT (hS.get 79 rfl) (hS.get 81 rfl)) fun a hS => ?_
   refine sv_r (v := .bool true) hS (eb_true (hS.get 82 rfl)) fun a hS => ?_
   refine sv_r (v := .bool true) hS (ex_as (hS.get 83 rfl)) fun a hS => ?_
   refine wpList_nil ?_
   replace hS := hS.cut [76, 70, 66, 18, 60, 7, 2, 17, 15, 16, 13, 14, 5, 9, 10, 11, 0, 3, 4, 6, 8, 12]
   show Code.wp _ _ _ _ _
   refine cond_t (hS.get 76 rfl) ?_
   refine wp_seq ?_
   refine wp_region_lit ?_
   refine sv_r (v := .bool true) hS ex_ac fun a hS => ?_
   refine wpList_nil ?_
   replace hS := hS.cut [14, 76, 70, 66, 18, 60, 7, 2, 17, 15, 16, 13, 5, 9, 10, 11, 0, 3, 4, 6, 8, 12]
   show Code.wp _ _ _ _ _
   refine wp_seq ?_
   refine wp_seq ?_
   refine wp_region_lit ?_
   refine sv_r (v := .int .u8 (((s[i]'hlt).toNat : Nat) : Int)) hS (ex_mv (hS.get 18 rfl)) fun a hS => ?_
   refine sv_r (v := .bool false) hS (ei_eql (hS.get 84 rfl) rfl (by rw [decide_eq_false_iff_not]; omega)) fun a hS => ?_
   refine sv_r (v := .bool false) hS (ex_mv (hS.get 85 rfl)) fun a hS => ?_
   refine sv_goff hS rfl rfl (hS.get 86 rfl) rfl rfl (by decide) ?_
   intro a hS
   refine sv_goff hS rfl rfl (hS.get 86 rfl) rfl rfl (by decide) ?_
   intro a hS
   refine sv_r (v := .bool false) hS (ex_pickF (hS.get 86 rfl) rfl) fun a hS => ?_
   replace hS : Sv 253 ((89, .bool false) :: (14, .bool true) :: (76, .bool true) :: (70, .bool false) :: (66, .bool false) :: (18, .int .u8 (((s[i]'hlt).toNat : Nat) : Int)) :: (60, .bool true) :: (7, .int .i64 ((i : Nat) : Int)) :: (2, .int .u64 ((r.m : Nat) : Int)) :: (17, .int .i64 (r.dp)) :: (15, .int .i64 ((r.nd : Nat) : Int)) :: (16, .int .i64 ((r.nd : Nat) : Int)) :: (13, .bool (r.dot)) :: (5, .bool false) :: (9, .bool false) :: (10, .int .u64 10) :: (11, .int .i64 19) :: (0, .string s) :: (3, .int .i64 0) :: (4, .bool false) :: (6, .bool false) :: (8, .bool false) :: (12, .int .u8 101) :: []) [] (fun _ => False) w a w3 := hS.pick rfl
   refine nx1 ?_
   refine cond_f (hS.get 89 rfl) ?_
   refine wp_skip ?_
   show Code.wp _ _ _ _ _
   refine wp_seq ?_
   refine wp_region_lit ?_
   refine sv_r (v := .int .i64 ((r.nd : Nat) : Int)) hS (ex_mv (hS.get 15 rfl)) fun a hS => ?_
   refine sv_r (v := .int .i64 ((r.nd + 1 : Nat) : Int)) hS (ei_add (hS.get 92 rfl) rfl (by rw [IntKind.wrap_i64]; omega)) fun a hS => ?_
   refine sv_r (v := .int .i64 ((r.nd + 1 : Nat) : Int)) hS (ex_as (hS.get 93 rfl)) fun a hS => ?_
   refine wpList_nil ?_
   replace hS := hS.cut [15, 89, 14, 76, 70, 66, 18, 60, 7, 2, 17, 16, 13, 5, 9, 10, 11, 0, 3, 4, 6, 8, 12]
   show Code.wp _ _ _ _ _
   refine wp_seq ?_
   refine wp_seq ?_
   refine wp_region_lit ?_
   refine sv_r (v := .int .i64 ((r.nd : Nat) : Int)) hS (ex_mv (hS.get 16 rfl)) fun a hS => ?_
   refine sv_r (v := .int .i64 19) hS (ex_mv (hS.get 11 rfl)) fun a hS => ?_
   refine sv_r (v := .bool true) hS (ei_lss (hS.get 94 rfl) (hS.get 95 rfl) (by rw [decide_eq_true_iff]; omega)) fun a hS => ?_
   refine wpList_nil ?_
   replace hS := hS.cut [96, 15, 89, 14, 76, 70, 66, 18, 60, 7, 2, 17, 16, 13, 5, 9, 10, 11, 0, 3, 4, 6, 8, 12]
   show Code.wp _ _ _ _ _
   refine cond_t (hS.get 96 rfl) ?_
   refine wp_seq ?_
   refine wp_region_lit ?_
   refine sv_r (v := .int .u64 ((r.m : Nat) : Int)) hS (ex_mv (hS.get 2 rfl)) fun a hS => ?_
   refine sv_r (v := .int .u64 10) hS (ex_mv (hS.get 10 rfl)) fun a hS => ?_
   refine sv_r (v := .int .u64 ((r.m * 10 : Nat) : Int)) hS (ei_mul (hS.get 97 rfl) (hS.get 98 rfl) (by rw [IntKind.wrap_u64]; omega)) fun a hS => ?_
   refine sv_r (v := .int .u64 ((r.m * 10 : Nat) : Int)) hS (ex_as (hS.get 99 rfl)) fun a hS => ?_
   replace hS : Sv 253 ((2, .int .u64 ((r.m * 10 : Nat) : Int)) :: (96, .bool true) :: (15, .int .i64 ((r.nd + 1 : Nat) : Int)) :: (89, .bool false) :: (14, .bool true) :: (76, .bool true) :: (70, .bool false) :: (66, .bool false) :: (18, .int .u8 (((s[i]'hlt).toNat : Nat) : Int)) :: (60, .bool true) :: (7, .int .i64 ((i : Nat) : Int)) :: (17, .int .i64 (r.dp)) :: (16, .int .i64 ((r.nd : Nat) : Int)) :: (13, .bool (r.dot)) :: (5, .bool false) :: (9, .bool false) :: (10, .int .u64 10) :: (11, .int .i64 19) :: (0, .string s) :: (3, .int .i64 0) :: (4, .bool false) :: (6, .bool false) :: (8, .bool false) :: (12, .int .u8 101) :: []) [] (fun _ => False) w a w3 := hS.pick rfl
   refine nx3 ?_
   refine sv_r (v := .int .u64 ((r.m * 10 : Nat) : Int)) hS (ex_mv (hS.get 2 rfl)) fun a hS => ?_
   refine sv_r (v := .int .u8 (((s[i]'hlt).toNat : Nat) : Int)) hS (ex_mv (hS.get 18 rfl)) fun a hS => ?_
   refine sv_r (v := .int .u8 (((s[i]'hlt).toNat - 48 : Nat) : Int)) hS (ei_sub (hS.get 101 rfl) rfl (by rw [IntKind.wrap_u8]; omega)) fun a hS => ?_
   refine sv_r (v := .int .u64 (((s[i]'hlt).toNat - 48 : Nat) : Int)) hS (ex_cv (hS.get 102 rfl) (cv_uint8_uint64 _ (by rw [IntKind.wrap_u64]; omega))) fun a hS => ?_
   refine sv_r (v := .int .u64 (((r.m * 10) + ((s[i]'hlt).toNat - 48) : Nat) : Int)) hS (ei_add (hS.get 100 rfl) (hS.get 103 rfl) (by rw [IntKind.wrap_u64]; omega)) fun a hS => ?_
   refine sv_r (v := .int .u64 (((r.m * 10) + ((s[i]'hlt).toNat - 48) : Nat) : Int)) hS (ex_as (hS.get 104 rfl)) fun a hS => ?_
   refine wpList_nil ?_
   replace hS := hS.cut [2, 96, 15, 89, 14, 76, 70, 66, 18, 60, 7, 17, 16, 13, 5, 9, 10, 11, 0, 3, 4, 6, 8, 12]
   show Code.wp _ _ _ _ _
   refine wp_region_lit ?_
   refine sv_r (v := .int .i64 ((r.nd : Nat) : Int)) hS (ex_mv (hS.get 16 rfl)) fun a hS => ?_
   refine sv_r (v := .int .i64 ((r.nd + 1 : Nat) : Int)) hS (ei_add (hS.get 105 rfl) rfl (by rw [IntKind.wrap_i64]; omega)) fun a hS => ?_
   refine sv_r (v := .int .i64 ((r.nd + 1 : Nat) : Int)) hS (ex_as (hS.get 106 rfl)) fun a hS => ?_
   refine wpList_nil ?_
   replace hS := hS.cut [16, 2, 96, 15, 89, 14, 76, 70, 66, 18, 60, 7, 17, 13, 5, 9, 10, 11, 0, 3, 4, 6, 8, 12]
   show Code.wp _ _ _ _ _
   refine wp_exit ?_
   show Code.wp _ _ _ _ _
   refine wp_region_lit ?_
   refine sv_r (v := .int .i64 ((i : Nat) : Int)) hS (ex_mv (hS.get 7 rfl)) fun a hS => ?_
   refine sv_r (v := .int .i64 ((i + 1 : Nat) : Int)) hS (ei_add (hS.get 61 rfl) rfl (by rw [IntKind.wrap_i64]; omega)) fun a hS => ?_
   refine sv_r (v := .int .i64 ((i + 1 : Nat) : Int)) hS (ex_as (hS.get 62 rfl)) fun a hS => ?_
   refine wpList_nil ?_
   replace hS : Sv 253 ((7, .int .i64 ((i + 1 : Nat) : Int)) :: (16, .int .i64 ((r.nd + 1 : Nat) : Int)) :: (2, .int .u64 (((r.m * 10) + ((s[i]'hlt).toNat - 48) : Nat) : Int)) :: (96, .bool true) :: (15, .int .i64 ((r.nd + 1 : Nat) : Int)) :: (89, .bool false) :: (14, .bool true) :: (76, .bool true) :: (70, .bool false) :: (66, .bool false) :: (18, .int .u8 (((s[i]'hlt).toNat : Nat) : Int)) :: (60, .bool true) :: (17, .int .i64 (r.dp)) :: (13, .bool (r.dot)) :: (5, .bool false) :: (9, .bool false) :: (10, .int .u64 10) :: (11, .int .i64 19) :: (0, .string s) :: (3, .int .i64 0) :: (4, .bool false) :: (6, .bool false) :: (8, .bool false) :: (12, .int .u8 101) :: []) [] (fun _ => False) w a w3 := hS.pick rfl
   refine ⟨⟨i + 1, { r with dig := true, nd := r.nd + 1, m := r.m * 10 + ((s[i]'hlt).toNat - 48) }, by omega, by rw [take_next hlt, ← hr, hst], by rw [← hst]; exact hgn, hS.pick rfl⟩, ?_⟩
   have h1 := hS.get 7 rfl; rw [h1]; rw [hS0]; simp only [intOf]; omega
end Go.Proofs.YtflppablgdegcaaGreatDoor
