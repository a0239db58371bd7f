/- Joined: Sm, Fg, Pa. -/
import Derived.Test.YtflppablgdegcaaGreatDoorR26
set_option maxRecDepth 100000
set_option maxHeartbeats 8000000
namespace Go.Proofs.YtflppablgdegcaaGreatDoor
open Go.RowKit
def firstK (L : List Sx) : Option Ky := L.foldl (fun o x => if o.isNone = true then x.1.key else o) none
def firstM (L : List Sx) : Option Mp := L.foldl (fun o x => if o.isNone = true then x.1.map else o) none
theorem firstK_snoc (L : List Sx) (x : Sx) : firstK (L ++ [x]) = if (firstK L).isNone = true then x.1.key else firstK L := by simp [firstK]
theorem firstM_snoc (L : List Sx) (x : Sx) : firstM (L ++ [x]) = if (firstM L).isNone = true then x.1.map else firstM L := by simp [firstM]
def raisedV (m : Md) (xs : List Sx) : Nat := if xs.any (fun x => decide (0 < x.1.limit)) = true then max 4 m.version else m.version
theorem PtrTo.none_inv {T : TypeId} {v : Value} {w : World} (h : PtrTo T none v w) : v = .pointer none := by
 rcases h with ⟨_, h⟩ | ⟨_, _, h, _⟩
 ·exact h
 ·cases h
theorem PtrTo.some_inv {T : TypeId} {cs : Array Value} {v : Value} {w : World} (h : PtrTo T (some cs) v w) : ∃ g, v = pt g 0 := by
 rcases h with ⟨h, _⟩ | ⟨g, _, _, h, _⟩
 ·cases h
 ·exact ⟨g, h⟩
section
variable {a : Act} {w : World} {dst : Option Nat} {ty : TypeId} {ps : String} {af : Array Edge} {gd : Option (Nat × Bool)} {x y : Operand} {k : IntKind} {n m : Nat}
theorem ex_iaA {T E g i c kk : Nat} {N : Nat} (hu : Tryz.prog.underlying T = some (.slice E)) (hA : Ag E kk) {t : Nat} (hx : a.eval (.tmp t) = .slice (some ⟨g, 0, none⟩) N c) (hy : a.eval y = .int .i64 ((i : Nat) : Int)) (h : i < N) : (execOp a.eval ⟨dst, .indexAddr T (.tmp t) y, ty, ps, af, gd⟩).run Tryz.prog w = .ok (.value (pt g (i * kk))) w := by
 have h3 := ex_ia (dst := dst) (ty := ty) (ps := ps) (af := af) (gd := gd) (w := w) (i := i) hu hA.size hx hy h
 rw [add_block, Nat.zero_add] at h3
 exact h3
theorem ex_elemA {α : Type} {f : α → List Value} {E g i B cap kk : Nat} {L : List α} {z : α} (hA : Ag E kk) (hf : ∀ x, (f x).length = kk) (hk : 0 < kk) (ho : Own f E kk w B (.slice (some ⟨g, 0, none⟩) L.length cap) L) (hx : L[i]? = some z) (hp : a.eval x = pt g (i * kk)) : (execOp a.eval ⟨dst, .load E x, ty, ps, af, gd⟩).run Tryz.prog w = .ok (.value (.agg (f z).toArray)) w := by
 have hlt : i < L.length := (List.getElem?_eq_some_iff.1 hx).1
 have hr := run_load_at (P := Tryz.prog) (w := w) E hA.agg hA.size (g := g) (o := i * kk) (cs := f z) (fun j v hj => by
  have hjk : j < kk := by
   have := (List.getElem?_eq_some_iff.1 hj).1
   rw [hf] at this
   exact this
  rw [ho.cells_at hf hk hlt hjk]
  rw [List.getElem?_eq_getElem hlt] at hx
  rw [Option.some.inj hx]
  exact hj) (hf _)
 simp only [execOp, hp, Instr.loadAt, Instr.sureAddr]
 simp [hr, Result.andThen]
end
theorem firsts_any (m : Md) (B0 : Nat) (sl : Value) (xs : List Sx) (hxl : xs.length ≤ 12) (w : World) (hT : SegsAt B0 sl xs w) : Calls Tryz.prog 7 #[.agg (m.cells sl)] w fun e w' => ∃ v, e = .returned v ∧ Below w.heap.size w w' ∧ ∃ kv hv, v = .tuple #[kv, hv] ∧ PtrTo 106 ((firstK xs).map Ky.cells) kv w' ∧ PtrTo 109 ((firstM xs).map Mp.cells) hv w' := by
 have hsl1 := hT.own.one'
 obtain ⟨sA, sc, hsv, _⟩ := hT.own.shape
 refine calls_of_ev Tryz.func7 rfl (show 1 ≤ 26 from by decide) fun a hE => ?_
 have hE : Ev 26 ((0, .agg (m.cells sl)) :: []) a := hE
 have Z : Sv 26 ((0, .agg (m.cells sl)) :: []) [] (fun _ => False) w a w := Sv.start hE _ _
 clear hE
 refine wr (sv_box Z (Z.g 0 rfl) (bx_spec_Media _) (by decide) fun g1 a w2 hg1 hbw2 hwg1 Z => sv_n 2 Z rfl fun a Z => Z.nx [3, 2, 1] rfl fun Z => sh (wr (sv_n 1 Z rfl fun a Z => Z.nx [4, 3, 2, 1] rfl fun Z => sh (wr (sv_n 1 Z rfl fun a Z => Z.nx [5, 4, 3, 2, 1] rfl fun Z => ?_)))))
 refine sh (wp_seq (wp_seq ?_))
 have hTw : SegsAt B0 sl xs w2 := hT.ty (TyOnly.of_below (ts := []) Z.toBelow) (by decide)
 refine wp_region_lit (sv_n 1 Z rfl fun a Z => sv_l (v := sl) 0 Z rfl (Z.g 8 rfl) lt_sl_spec_Segment rfl fun a Z => sv_r (v := .int .i64 ((xs.length : Nat) : Int)) Z (ex_lenO Tryz.underlying27 (Z.g 9 rfl) hTw.own) fun a Z => sv_r (v := .int .i64 0) Z ex_mc fun a Z => Z.nx [11, 10, 9, 5, 4, 3, 2] rfl fun Z => ?_)
 clear hTw
 refine sh ?_
 have hE : Ev 26 ((11, .int .i64 ((0 : Nat) : Int)) :: (10, .int .i64 ((xs.length : Nat) : Int)) :: ((4, .pointer none) :: (5, .pointer none) :: (9, sl) :: (3, .pointer none) :: (2, .pointer none) :: [])) a := Z.ev.pick rfl
 refine range_wp2 (N := 26) (n := xs.length) [4, 5, 9, 3, 2] (l0 := ((4, .pointer none) :: (5, .pointer none) :: (9, sl) :: (3, .pointer none) :: (2, .pointer none) :: [])) (fun k l w' => ∃ kv hv : Value, l = ((4, kv) :: (5, hv) :: (9, sl) :: (3, .pointer none) :: (2, .pointer none) :: []) ∧ PtrTo 106 ((firstK (xs.take k)).map Ky.cells) kv w' ∧ PtrTo 109 ((firstM (xs.take k)).map Mp.cells) hv w' ∧ Hv [⟨g1, (m.cells sl), 29, true⟩] (fun _ => False) w w') (by omega) hE rfl ⟨_, _, rfl, .inl ⟨rfl, rfl⟩, .inl ⟨rfl, rfl⟩, Z.hv⟩ (by decide) (by decide) (by decide) ?_ ?_
 ·clear hE Z
  rintro k l a w3 hk hE ⟨kv, hv, rfl, h4, h5, hV⟩ Q' hQ'
  have Z : Sv 26 ((11, .int .i64 ((k : Nat) : Int)) :: (10, .int .i64 ((xs.length : Nat) : Int)) :: (4, kv) :: (5, hv) :: (9, sl) :: (3, .pointer none) :: (2, .pointer none) :: []) [⟨g1, (m.cells sl), 29, true⟩] (fun _ => False) w a w3 := hV.sv hE
  obtain ⟨x, hxk⟩ : ∃ x, xs[k]? = some x := ⟨_, List.getElem?_eq_getElem hk⟩
  have hxm := List.mem_of_getElem? hxk
  refine wp_block (wp_seq ?_)
  have hTw : SegsAt B0 sl xs w3 := hT.ty (TyOnly.of_below (ts := []) Z.toBelow) (by decide)
  refine wp_region_lit ?_
  refine sv_elem (n := k) ag_spec_Segment Tryz.underlying27 (fun _ => rfl) (by decide) Z hTw.own hxk (Z.g 9 rfl) (Z.g 11 rfl) (by decide) (by decide) ?_ rfl (by decide)
  intro a Z
  have hxA := hTw.ats x hxm
  clear hTw
  refine sv_al Z al_spec_Segment (by decide) fun g4 a w5 hg4 hbw5 hwg4 Z => ?_
  replace h4 := h4.ty (TyOnly.of_below (ts := []) hbw5) (by decide)
  replace h5 := h5.ty (TyOnly.of_below (ts := []) hbw5) (by decide)
  refine sv_sb (i := 0) Z ag_spec_Segment (Z.g 7 rfl) (Z.g 14 rfl) rfl rfl rfl hxA.one rfl fun w6 hty Z => ?_
  replace h4 := h4.ty hty (by decide)
  replace h5 := h5.ty hty (by decide)
  refine Z.nx [7, 11, 10, 4, 5, 9, 3, 2] rfl fun Z => ?_
  replace hxA : x.At w6 := (hT.ats x hxm).ty (TyOnly.of_below (ts := []) Z.toBelow) (by decide)
  refine sh (wp_seq (wp_seq ?_))
  rcases hq4 : firstK (xs.take k) with _ | q4
  ·obtain rfl : kv = .pointer none := PtrTo.none_inv (by rw [hq4] at h4; exact h4)
   refine wp_region_lit (sv_n 1 Z rfl fun a Z => sv_r (v := .bool true) Z (ex_pe eqp_p_spec_Key (Z.g 15 rfl)) fun a Z => Z.nx [16, 7, 11, 10, 4, 5, 9, 3, 2] rfl fun Z => sh (cond_t (Z.g 16 rfl) (wp_region_lit (sv_n 1 Z rfl fun a Z => sv_l (v := x.2.1) 0 Z rfl (Z.g 17 rfl) lt_p_spec_Key rfl fun a Z => sv_n 1 Z rfl fun a Z => Z.nx [4, 16, 7, 11, 10, 5, 9, 3, 2] rfl fun Z => sh ?_))))
   refine wp_seq ?_
   rcases hq5 : firstM (xs.take k) with _ | q5
   ·obtain rfl : hv = .pointer none := PtrTo.none_inv (by rw [hq5] at h5; exact h5)
    refine wp_region_lit (sv_n 1 Z rfl fun a Z => sv_r (v := .bool true) Z (ex_pe eqp_p_spec_Map (Z.g 19 rfl)) fun a Z => Z.nx [20, 4, 16, 7, 11, 10, 5, 9, 3, 2] rfl fun Z => sh (cond_t (Z.g 20 rfl) (wp_region_lit (sv_n 1 Z rfl fun a Z => sv_l (v := x.2.2) 0 Z rfl (Z.g 21 rfl) lt_p_spec_Map rfl fun a Z => sv_n 1 Z rfl fun a Z => Z.nx [5, 20, 4, 16, 7, 11, 10, 9, 3, 2] rfl fun Z => ?_))))
    show Q' .normal a w6
    exact hQ' _ a w6 rfl (Z.ev.pick (l' := (11, .int .i64 ((k : Nat) : Int)) :: (10, .int .i64 ((xs.length : Nat) : Int)) :: ((4, x.2.1) :: (5, x.2.2) :: (9, sl) :: (3, .pointer none) :: (2, .pointer none) :: [])) rfl) ⟨_, _, rfl, by rw [take_snoc hxk, firstK_snoc, hq4]; exact hxA.1, by rw [take_snoc hxk, firstM_snoc, hq5]; exact hxA.2, (Z.mz [false, true] rfl).hv⟩
   ·obtain ⟨gq5, rfl⟩ : ∃ g, hv = pt g 0 := PtrTo.some_inv (by rw [hq5] at h5; exact h5)
    refine wp_region_lit (sv_n 1 Z rfl fun a Z => sv_r (v := .bool false) Z (ex_pe eqp_p_spec_Map (Z.g 19 rfl)) fun a Z => Z.nx [20, 4, 16, 7, 11, 10, 5, 9, 3, 2] rfl fun Z => sh (cond_f (Z.g 20 rfl) (wp_skip ?_)))
    show Q' .normal a w6
    exact hQ' _ a w6 rfl (Z.ev.pick (l' := (11, .int .i64 ((k : Nat) : Int)) :: (10, .int .i64 ((xs.length : Nat) : Int)) :: ((4, x.2.1) :: (5, pt gq5 0) :: (9, sl) :: (3, .pointer none) :: (2, .pointer none) :: [])) rfl) ⟨_, _, rfl, by rw [take_snoc hxk, firstK_snoc, hq4]; exact hxA.1, by rw [take_snoc hxk, firstM_snoc, hq5]; exact (by rw [hq5] at h5; exact h5), (Z.mz [false, true] rfl).hv⟩
  ·obtain ⟨gq4, rfl⟩ : ∃ g, kv = pt g 0 := PtrTo.some_inv (by rw [hq4] at h4; exact h4)
   refine wp_region_lit (sv_n 1 Z rfl fun a Z => sv_r (v := .bool false) Z (ex_pe eqp_p_spec_Key (Z.g 15 rfl)) fun a Z => Z.nx [16, 7, 11, 10, 4, 5, 9, 3, 2] rfl fun Z => sh (cond_f (Z.g 16 rfl) (wp_skip (sh (wp_seq ?_)))))
   rcases hq5 : firstM (xs.take k) with _ | q5
   ·obtain rfl : hv = .pointer none := PtrTo.none_inv (by rw [hq5] at h5; exact h5)
    refine wp_region_lit (sv_n 1 Z rfl fun a Z => sv_r (v := .bool true) Z (ex_pe eqp_p_spec_Map (Z.g 19 rfl)) fun a Z => Z.nx [20, 16, 7, 11, 10, 4, 5, 9, 3, 2] rfl fun Z => sh (cond_t (Z.g 20 rfl) (wp_region_lit (sv_n 1 Z rfl fun a Z => sv_l (v := x.2.2) 0 Z rfl (Z.g 21 rfl) lt_p_spec_Map rfl fun a Z => sv_n 1 Z rfl fun a Z => Z.nx [5, 20, 16, 7, 11, 10, 4, 9, 3, 2] rfl fun Z => ?_))))
    show Q' .normal a w6
    exact hQ' _ a w6 rfl (Z.ev.pick (l' := (11, .int .i64 ((k : Nat) : Int)) :: (10, .int .i64 ((xs.length : Nat) : Int)) :: ((4, pt gq4 0) :: (5, x.2.2) :: (9, sl) :: (3, .pointer none) :: (2, .pointer none) :: [])) rfl) ⟨_, _, rfl, by rw [take_snoc hxk, firstK_snoc, hq4]; exact (by rw [hq4] at h4; exact h4), by rw [take_snoc hxk, firstM_snoc, hq5]; exact hxA.2, (Z.mz [false, true] rfl).hv⟩
   ·obtain ⟨gq5, rfl⟩ : ∃ g, hv = pt g 0 := PtrTo.some_inv (by rw [hq5] at h5; exact h5)
    refine wp_region_lit (sv_n 1 Z rfl fun a Z => sv_r (v := .bool false) Z (ex_pe eqp_p_spec_Map (Z.g 19 rfl)) fun a Z => Z.nx [20, 16, 7, 11, 10, 4, 5, 9, 3, 2] rfl fun Z => sh (cond_f (Z.g 20 rfl) (wp_skip ?_)))
    show Q' .normal a w6
    exact hQ' _ a w6 rfl (Z.ev.pick (l' := (11, .int .i64 ((k : Nat) : Int)) :: (10, .int .i64 ((xs.length : Nat) : Int)) :: ((4, pt gq4 0) :: (5, pt gq5 0) :: (9, sl) :: (3, .pointer none) :: (2, .pointer none) :: [])) rfl) ⟨_, _, rfl, by rw [take_snoc hxk, firstK_snoc, hq4]; exact (by rw [hq4] at h4; exact h4), by rw [take_snoc hxk, firstM_snoc, hq5]; exact (by rw [hq5] at h5; exact h5), (Z.mz [false, true] rfl).hv⟩
 ·clear hE Z
  rintro l a w7 hE ⟨kv, hv, rfl, h4, h5, hV⟩
  have Z : Sv 26 ((11, .int .i64 ((xs.length : Nat) : Int)) :: (10, .int .i64 ((xs.length : Nat) : Int)) :: (4, kv) :: (5, hv) :: (9, sl) :: (3, .pointer none) :: (2, .pointer none) :: []) [⟨g1, (m.cells sl), 29, true⟩] (fun _ => False) w a w7 := hV.sv hE
  rw [List.take_length] at h4 h5
  refine sh (wr (sv_n 4 Z rfl fun a Z => Z.nx [3, 2, 11, 10, 4, 5, 9] rfl fun Z => sh (wp_ret ?_)))
  try simp only [Exit.inBlock, Exit.then]
  exact ret2_of_ev Z.ev rfl (Z.g 2 rfl) (Z.g 3 rfl) ⟨_, rfl, Z.toBelow, _, _, rfl, h4, h5⟩
theorem raised_any (m : Md) (B0 : Nat) (sl : Value) (xs : List Sx) (hxl : xs.length ≤ 12) (hlm : ∀ x ∈ xs, x.1.limit < 9223372036854775808) (hmv : m.version < 1000) (w : World) (hT : SegsAt B0 sl xs w) : Calls Tryz.prog 8 #[.agg (m.cells sl)] w fun e w' => e = .returned (.int .i64 ((raisedV m xs : Nat) : Int)) ∧ Below w.heap.size w w' := by
 have hsl1 := hT.own.one'
 obtain ⟨sA, sc, hsv, _⟩ := hT.own.shape
 refine calls_of_ev Tryz.func8 rfl (show 1 ≤ 21 from by decide) fun a hE => ?_
 have hE : Ev 21 ((0, .agg (m.cells sl)) :: []) a := hE
 have Z : Sv 21 ((0, .agg (m.cells sl)) :: []) [] (fun _ => False) w a w := Sv.start hE _ _
 clear hE
 refine wr (sv_box Z (Z.g 0 rfl) (bx_spec_Media _) (by decide) fun g1 a w2 hg1 hbw2 hwg1 Z => sv_n 1 Z rfl fun a Z => Z.nx [2, 1] rfl fun Z => sh (wp_seq (wp_seq ?_)))
 have hTw : SegsAt B0 sl xs w2 := hT.ty (TyOnly.of_below (ts := []) Z.toBelow) (by decide)
 refine wp_region_lit (sv_n 1 Z rfl fun a Z => sv_l (v := sl) 0 Z rfl (Z.g 5 rfl) lt_sl_spec_Segment rfl fun a Z => sv_r (v := .int .i64 ((xs.length : Nat) : Int)) Z (ex_lenO Tryz.underlying27 (Z.g 6 rfl) hTw.own) fun a Z => sv_r (v := .int .i64 0) Z ex_mc fun a Z => Z.nx [8, 7, 6, 2, 1] rfl fun Z => ?_)
 clear hTw
 refine sh (wp_block ?_)
 refine wp_loop (fun a w' => ∃ k : Nat, k ≤ xs.length ∧ (∀ x ∈ xs.take k, ¬ 0 < x.1.limit) ∧ Sv 21 ((1, pt g1 0) :: (6, sl) :: (7, .int .i64 ((xs.length : Nat) : Int)) :: (8, .int .i64 ((k : Nat) : Int)) :: []) [⟨g1, (m.cells sl), 29, true⟩] (fun _ => False) w a w') (fun a _ => xs.length + 1 - (intOf (a.eval (.tmp 8))).toNat) ⟨0, Nat.zero_le _, by simp, Z.pick rfl⟩ ?_
 clear Z
 rintro a w5 ⟨k, hk, hz, Z⟩
 have h8 := Z.g 8 rfl
 rcases Nat.lt_or_ge k xs.length with hlt | hge
 ·obtain ⟨x, hxk⟩ : ∃ x, xs[k]? = some x := ⟨_, List.getElem?_eq_getElem hlt⟩
  have hxm := List.mem_of_getElem? hxk
  have hlx := hlm x hxm
  refine wr ?_
  refine sv_r (v := .bool true) Z (ei_lss (Z.g 8 rfl) (Z.g 7 rfl) (by rw [decide_eq_true_iff]; omega)) fun a Z => Z.nx [9, 1, 6, 7, 8] rfl fun Z => sh (wp_seq (cond_t (Z.g 9 rfl) (wp_skip (sh (wp_seq (wp_block (wp_seq ?_)))))))
  have hTw : SegsAt B0 sl xs w5 := hT.ty (TyOnly.of_below (ts := []) Z.toBelow) (by decide)
  refine wp_region_lit ?_
  refine sv_elem (n := k) ag_spec_Segment Tryz.underlying27 (fun _ => rfl) (by decide) Z hTw.own hxk (Z.g 6 rfl) (Z.g 8 rfl) (by decide) (by decide) ?_ rfl (by decide)
  intro a Z
  have hxA := hTw.ats x hxm
  clear hTw
  refine sv_al Z al_spec_Segment (by decide) fun g9 a w10 hg9 hbw10 hwg9 Z => sv_sb (i := 0) Z ag_spec_Segment (Z.g 4 rfl) (Z.g 11 rfl) rfl rfl rfl hxA.one rfl fun w11 hty Z => Z.nx [4, 9, 1, 6, 7, 8] rfl fun Z => ?_
  replace hxA : x.At w11 := (hT.ats x hxm).ty (TyOnly.of_below (ts := []) Z.toBelow) (by decide)
  refine sh (wp_seq ?_)
  by_cases hpos : 0 < x.1.limit
  ·refine wp_region_lit (sv_n 1 Z rfl fun a Z => sv_l (v := .int .i64 ((x.1.limit : Nat) : Int)) 0 Z rfl (Z.g 12 rfl) lt_int64 rfl fun a Z => ?_)
   refine sv_r (v := .bool true) Z (ei_gtr (Z.g 13 rfl) rfl (by rw [decide_eq_true_iff]; omega)) fun a Z => Z.nx [14, 4, 9, 1, 6, 7, 8] rfl fun Z => sh (cond_t (Z.g 14 rfl) (wr (sv_n 1 Z rfl fun a Z => sv_l (v := .int .i64 ((m.version : Nat) : Int)) 1 Z rfl (Z.g 15 rfl) lt_int rfl fun a Z => sv_r (v := .int .i64 ((max 4 m.version : Nat) : Int)) Z (ex_max (n := 4) rfl (Z.g 16 rfl)) fun a Z => sv_n 1 Z rfl fun a Z => Z.nx [2, 14, 4, 9, 1, 6, 7, 8] rfl fun Z => sh (wp_ret ?_))))
   try simp only [Exit.inBlock, Exit.then]
   have hrv : raisedV m xs = max 4 m.version := by unfold raisedV; rw [if_pos (List.any_eq_true.2 ⟨x, hxm, by simpa using hpos⟩)]
   exact ret_of_ev Z.ev rfl (Z.g 2 rfl) ⟨by rw [hrv], Z.toBelow⟩
  ·refine wp_region_lit (sv_n 1 Z rfl fun a Z => sv_l (v := .int .i64 ((x.1.limit : Nat) : Int)) 0 Z rfl (Z.g 12 rfl) lt_int64 rfl fun a Z => ?_)
   refine sv_r (v := .bool false) Z (ei_gtr (Z.g 13 rfl) rfl (by rw [decide_eq_false_iff_not]; omega)) fun a Z => Z.nx [14, 4, 9, 1, 6, 7, 8] rfl fun Z => sh (cond_f (Z.g 14 rfl) (wp_skip (sh (wp_region_lit ?_))))
   refine sv_r (v := .int .i64 ((k + 1 : Nat) : Int)) Z (ei_add (Z.g 8 rfl) rfl (by rw [IntKind.wrap_i64]; omega)) fun a Z => sv_n 1 Z rfl fun a Z => Z.nx [8, 14, 4, 9, 1, 6, 7] rfl fun Z => ?_
   replace Z := (Z.mz [false, true] rfl).ct [8, 14, 4, 9, 1, 6, 7] rfl
   refine ⟨⟨k + 1, hlt, ?_, Z.pick rfl⟩, ?_⟩
   ·intro z hz1
    rw [take_snoc hxk] at hz1
    rcases List.mem_append.1 hz1 with h | h
    ·exact hz z h
    ·cases List.mem_singleton.1 h; exact hpos
   ·have h8' := Z.g 8 rfl
    rw [h8, h8']
    simp only [intOf]
    omega
 ·refine wr ?_
  refine sv_r (v := .bool false) Z (ei_lss (Z.g 8 rfl) (Z.g 7 rfl) (by rw [decide_eq_false_iff_not]; omega)) fun a Z => Z.nx [9, 1, 6, 7, 8] rfl fun Z => sh (wp_seq (cond_f (Z.g 9 rfl) (wp_exit (sh (wr (sv_n 1 Z rfl fun a Z => sv_l (v := .int .i64 ((m.version : Nat) : Int)) 0 Z rfl (Z.g 19 rfl) lt_int rfl fun a Z => sv_n 1 Z rfl fun a Z => Z.nx [2, 9, 1, 6, 7, 8] rfl fun Z => ?_))))))
  refine sh (wp_ret ?_)
  try simp only [Exit.inBlock, Exit.then]
  have hrv : raisedV m xs = m.version := by unfold raisedV; rw [if_neg]; intro h; obtain ⟨x, hx, h1⟩ := List.any_eq_true.1 h; rw [List.take_of_length_le (by omega)] at hz; exact hz x hx (by simpa using h1)
  exact ret_of_ev Z.ev rfl (Z.g 2 rfl) ⟨by rw [hrv], Z.toBelow⟩
def segAt (sq : Nat) (s : Sm) : Sg := ⟨sq, s.title, s.uri, e8 s.e, s.limit, s.offset, s.key.map Ky.kd, s.map.map Mp.ud, s.disc, s.date⟩
structure ReadOf (m : Md) (xs : List Sx) (r : Rst) : Prop where
 tgt : r.tgt = floatOfInt .f64 (m.target : Int)
 seq : r.seq = m.seq
 iframe : r.iframe = m.iframe
 closed : r.closed = m.closed
 typ : r.typ = m.typ
 disc : r.disc = m.disc
 start : r.start = e8 m.start
 precise : r.precise = m.precise
 ver : r.ver = raisedV m xs
 pkey : r.pkey = (firstK xs).map Ky.kd
 pmap : r.pmap = (firstM xs).map Mp.ud
 len : r.segs.length = xs.length
 segs : ∀ (k : Nat) (x : Sx), xs[k]? = some x → r.segs[k]? = some (segAt (m.seq + k) x.1)
def mcsM (m : Md) (ver : Nat) (sv : Value) (kb mb : Option Nat) : Array Value := #[.float .f64 (floatOfInt .f64 (m.target : Int)), .int .u64 (m.seq : Int), sv, .string ⟨#[]⟩, .bool m.iframe, .bool m.closed, .int .i64 (m.typ : Int), .int .u64 (m.disc : Int), .float .f64 (e8 m.start), .bool m.precise, .int .i64 (ver : Int), .slice (kvA kb) (kvN kb) (kvN kb), .slice (kvA mb) (kvN mb) (kvN mb), .int .i64 0]
theorem ReadOf.cells {m : Md} {xs : List Sx} {r : Rst} (h : ReadOf m xs r) (sv : Value) (kb mb : Option Nat) : mcs r sv kb mb = mcsM m (raisedV m xs) sv kb mb := by
 unfold mcs mcsM
 rw [h.tgt, h.seq, h.iframe, h.closed, h.typ, h.disc, h.start, h.precise, h.ver]
theorem sameMedia_eq (m : Md) (hm : MdOk m) (B0 ver : Nat) (hvr : ver < 1000) (sl : Value) (xs : List Sx) (r : Rst) (hxl : xs.length ≤ 12) (hro : ReadOf m xs r) (htg : (FloatKind.f64.format.order (floatOfInt .f64 (m.target : Int)) (floatOfInt .f64 (m.target : Int)) != some .eq) = false) (hst : F8 (e8 m.start) m.start) (hex : ∀ x ∈ xs, x.1.e < 1000 ∧ F8 (e8 x.1.e) x.1.e) (p : Option Addr) (n cq : Nat) (kb mb : Option Nat) (L : List Sgv) (kv hv : Value) (w : World) (hT : SegsAt B0 sl xs w) (hsv : Own sgL 67 11 w 0 (.slice p n cq) L) (hsL : SgvIs w L r.segs) (hkb : IKeyIs w kb r.pkey) (hmb : IMapIs w mb r.pmap) (hk : PtrTo 106 ((firstK xs).map Ky.cells) kv w) (hh : PtrTo 109 ((firstM xs).map Mp.cells) hv w) : Calls Tryz.prog 10 #[.agg (mcsM m ver (.slice p n cq) kb mb), .agg (Md.cells { m with version := ver } sl), kv, hv] w fun e w' => e = .returned (.bool true) ∧ Below w.heap.size w w' := by
 have hsl1 := hT.own.one'
 obtain ⟨sA, sc, hsx, hsA⟩ := hT.own.shape
 have hLl : L.length = xs.length := by rw [← hro.len, ← hsL.1, List.length_map]
 obtain ⟨h1m, h2m, h3m, h4m, h5m, h6m, h7m⟩ := hm
 have hmone : ∀ u ∈ (mcsM m ver (.slice p n cq) kb mb).toList, u.oneCell' = true := by
  intro u hu
  simp only [mcsM, List.mem_cons, List.not_mem_nil, or_false] at hu
  rcases hu with rfl | rfl | rfl | rfl | rfl | rfl | rfl | rfl | rfl | rfl | rfl | rfl | rfl | rfl <;> rfl
 refine calls_of_ev Tryz.func10 rfl (show 4 ≤ 116 from by decide) fun a hE => ?_
 have hE : Ev 116 ((0, .agg (mcsM m ver (.slice p n cq) kb mb)) :: (1, .agg (Md.cells { m with version := ver } sl)) :: (2, kv) :: (3, hv) :: []) a := hE
 have Z : Sv 116 ((0, .agg (mcsM m ver (.slice p n cq) kb mb)) :: (1, .agg (Md.cells { m with version := ver } sl)) :: (2, kv) :: (3, hv) :: []) [] (fun _ => False) w a w := Sv.start hE _ _
 clear hE
 refine wr (sv_box Z (Z.g 0 rfl) (bx_impl_Media _) (by decide) fun g1 a w2 hg1 hbw2 hwg1 Z => sv_box Z (Z.g 1 rfl) (bx_spec_Media _) (by decide) fun g3 a w4 hg3 hbw4 hwg3 Z => sv_n 1 Z rfl fun a Z => Z.nx [8, 5, 4, 2, 3] rfl fun Z => sh (wp_seq (wp_seq ?_)))
 have hTw : SegsAt B0 sl xs w4 := hT.ty (TyOnly.of_below (ts := []) Z.toBelow) (by decide)
 have hsw : Own sgL 67 11 w4 0 (.slice p n cq) L := hsv.below Z.toBelow
 refine wp_region_lit (sv_n 1 Z rfl fun a Z => sv_l (v := .slice p n cq) 1 Z rfl (Z.g 11 rfl) lt_sl_impl_Segment rfl fun a Z => sv_r (v := .int .i64 ((L.length : Nat) : Int)) Z (ex_lenO Tryz.underlying36 (Z.g 12 rfl) hsw) fun a Z => sv_n 1 Z rfl fun a Z => sv_l (v := sl) 0 Z rfl (Z.g 14 rfl) lt_sl_spec_Segment rfl fun a Z => sv_r (v := .int .i64 ((xs.length : Nat) : Int)) Z (ex_lenO Tryz.underlying27 (Z.g 15 rfl) hTw.own) fun a Z => ?_)
 refine sv_r (v := .bool false) Z (ei_neq (Z.g 13 rfl) (Z.g 16 rfl) (by rw [decide_eq_false_iff_not]; omega)) fun a Z => sv_n 2 Z rfl fun a Z => sv_g (v := .int .i64 ((ver : Nat) : Int)) Z (Z.g 18 rfl) (ex_ld (Z.g 19 rfl) lt_int (cell_of_heap (v := .int .i64 ((ver : Nat) : Int)) (Z.at 1 rfl) rfl)) fun a Z => sv_n 1 Z rfl fun a Z => sv_g (v := .int .i64 ((ver : Nat) : Int)) Z (Z.g 18 rfl) (ex_ld (Z.g 21 rfl) lt_int (cell_of_heap (v := .int .i64 ((ver : Nat) : Int)) (Z.at 0 rfl) rfl)) fun a Z => ?_
 refine sv_g (v := .bool false) Z (Z.g 18 rfl) (ei_neq (Z.g 20 rfl) (Z.g 22 rfl) (by rw [decide_eq_false_iff_not]; exact fun h => h rfl)) fun a Z => sv_n 3 Z rfl fun a Z => sv_g (v := .float .f64 ((floatOfInt .f64 (m.target : Int)))) Z (Z.g 25 rfl) (ex_ld (Z.g 26 rfl) lt_float64 (cell_of_heap (v := .float .f64 ((floatOfInt .f64 (m.target : Int)))) (Z.at 1 rfl) rfl)) fun a Z => sv_n 1 Z rfl fun a Z => sv_g (v := .int .i64 ((m.target : Nat) : Int)) Z (Z.g 25 rfl) (ex_ld (Z.g 28 rfl) lt_int (cell_of_heap (v := .int .i64 ((m.target : Nat) : Int)) (Z.at 0 rfl) rfl)) fun a Z => sv_g (v := .float .f64 (floatOfInt .f64 (((m.target : Nat) : Int)))) Z (Z.g 25 rfl) (ex_cv (Z.g 29 rfl) (cv_int_float64 _)) fun a Z => ?_
 refine sv_g (v := .bool false) Z (Z.g 25 rfl) (ef_neq (Z.g 27 rfl) (Z.g 30 rfl) (by exact htg)) fun a Z => sv_n 3 Z rfl fun a Z => sv_g (v := .int .u64 ((m.seq : Nat) : Int)) Z (Z.g 33 rfl) (ex_ld (Z.g 34 rfl) lt_uint64 (cell_of_heap (v := .int .u64 ((m.seq : Nat) : Int)) (Z.at 1 rfl) rfl)) fun a Z => sv_n 1 Z rfl fun a Z => sv_g (v := .int .u64 ((m.seq : Nat) : Int)) Z (Z.g 33 rfl) (ex_ld (Z.g 36 rfl) lt_uint64 (cell_of_heap (v := .int .u64 ((m.seq : Nat) : Int)) (Z.at 0 rfl) rfl)) fun a Z => ?_
 refine sv_g (v := .bool false) Z (Z.g 33 rfl) (ei_neq (Z.g 35 rfl) (Z.g 37 rfl) (by rw [decide_eq_false_iff_not]; exact fun h => h rfl)) fun a Z => sv_n 3 Z rfl fun a Z => sv_g (v := .int .u64 ((m.disc : Nat) : Int)) Z (Z.g 40 rfl) (ex_ld (Z.g 41 rfl) lt_uint64 (cell_of_heap (v := .int .u64 ((m.disc : Nat) : Int)) (Z.at 1 rfl) rfl)) fun a Z => sv_n 1 Z rfl fun a Z => sv_g (v := .int .u64 ((m.disc : Nat) : Int)) Z (Z.g 40 rfl) (ex_ld (Z.g 43 rfl) lt_uint64 (cell_of_heap (v := .int .u64 ((m.disc : Nat) : Int)) (Z.at 0 rfl) rfl)) fun a Z => ?_
 refine sv_g (v := .bool false) Z (Z.g 40 rfl) (ei_neq (Z.g 42 rfl) (Z.g 44 rfl) (by rw [decide_eq_false_iff_not]; exact fun h => h rfl)) fun a Z => sv_n 3 Z rfl fun a Z => sv_g (v := .int .i64 ((m.typ : Nat) : Int)) Z (Z.g 47 rfl) (ex_ld (Z.g 48 rfl) lt_int (cell_of_heap (v := .int .i64 ((m.typ : Nat) : Int)) (Z.at 1 rfl) rfl)) fun a Z => sv_n 1 Z rfl fun a Z => sv_g (v := .int .i64 ((m.typ : Nat) : Int)) Z (Z.g 47 rfl) (ex_ld (Z.g 50 rfl) lt_int (cell_of_heap (v := .int .i64 ((m.typ : Nat) : Int)) (Z.at 0 rfl) rfl)) fun a Z => ?_
 refine sv_g (v := .bool false) Z (Z.g 47 rfl) (ei_neq (Z.g 49 rfl) (Z.g 51 rfl) (by rw [decide_eq_false_iff_not]; exact fun h => h rfl)) fun a Z => sv_n 3 Z rfl fun a Z => sv_g (v := .float .f64 ((e8 m.start))) Z (Z.g 54 rfl) (ex_ld (Z.g 55 rfl) lt_float64 (cell_of_heap (v := .float .f64 ((e8 m.start))) (Z.at 1 rfl) rfl)) fun a Z => sv_g (v := .float .f64 (m8 ((e8 m.start)))) Z (Z.g 54 rfl) (ex_mul8 (Z.g 56 rfl) hst.mul) fun a Z => sv_n 1 Z rfl fun a Z => sv_g (v := .int .i64 ((m.start : Nat) : Int)) Z (Z.g 54 rfl) (ex_ld (Z.g 58 rfl) lt_int (cell_of_heap (v := .int .i64 ((m.start : Nat) : Int)) (Z.at 0 rfl) rfl)) fun a Z => sv_g (v := .float .f64 (floatOfInt .f64 (((m.start : Nat) : Int)))) Z (Z.g 54 rfl) (ex_cv (Z.g 59 rfl) (cv_int_float64 _)) fun a Z => ?_
 refine sv_g (v := .bool false) Z (Z.g 54 rfl) (ef_neq (Z.g 57 rfl) (Z.g 60 rfl) (by simp only [bne, hst.eq, Bool.not_true])) fun a Z => sv_n 3 Z rfl fun a Z => sv_g (v := .bool (m.precise)) Z (Z.g 63 rfl) (ex_ld (Z.g 64 rfl) lt_bool (cell_of_heap (v := .bool (m.precise)) (Z.at 1 rfl) rfl)) fun a Z => sv_n 1 Z rfl fun a Z => sv_g (v := .bool (m.precise)) Z (Z.g 63 rfl) (ex_ld (Z.g 66 rfl) lt_bool (cell_of_heap (v := .bool (m.precise)) (Z.at 0 rfl) rfl)) fun a Z => sv_g (v := .bool false) Z (Z.g 63 rfl) (ex_bneq (Z.g 65 rfl) (Z.g 67 rfl)) fun a Z => sv_n 3 Z rfl fun a Z => sv_g (v := .bool (m.iframe)) Z (Z.g 70 rfl) (ex_ld (Z.g 71 rfl) lt_bool (cell_of_heap (v := .bool (m.iframe)) (Z.at 1 rfl) rfl)) fun a Z => sv_n 1 Z rfl fun a Z => sv_g (v := .bool (m.iframe)) Z (Z.g 70 rfl) (ex_ld (Z.g 73 rfl) lt_bool (cell_of_heap (v := .bool (m.iframe)) (Z.at 0 rfl) rfl)) fun a Z => sv_g (v := .bool false) Z (Z.g 70 rfl) (ex_bneq (Z.g 72 rfl) (Z.g 74 rfl)) fun a Z => sv_n 3 Z rfl fun a Z => ?_
 refine sv_g (v := .bool (m.closed)) Z (Z.g 77 rfl) (ex_ld (Z.g 78 rfl) lt_bool (cell_of_heap (v := .bool (m.closed)) (Z.at 1 rfl) rfl)) fun a Z => sv_n 1 Z rfl fun a Z => sv_g (v := .bool (m.closed)) Z (Z.g 77 rfl) (ex_ld (Z.g 80 rfl) lt_bool (cell_of_heap (v := .bool (m.closed)) (Z.at 0 rfl) rfl)) fun a Z => sv_g (v := .bool false) Z (Z.g 77 rfl) (ex_bneq (Z.g 79 rfl) (Z.g 81 rfl)) fun a Z => sv_n 1 Z rfl fun a Z => Z.nx [83, 8, 5, 4, 2, 3] rfl fun Z => ?_
 clear hTw hsw
 refine sh (cond_f (Z.g 83 rfl) (wp_skip (sh (wp_seq (wp_seq ?_)))))
 have hTw : SegsAt B0 sl xs w4 := hT.ty (TyOnly.of_below (ts := []) Z.toBelow) (by decide)
 have hsw : Own sgL 67 11 w4 0 (.slice p n cq) L := hsv.below Z.toBelow
 refine wp_region_lit (sv_n 1 Z rfl fun a Z => sv_l (v := .slice p n cq) 1 Z rfl (Z.g 84 rfl) lt_sl_impl_Segment rfl fun a Z => sv_r (v := .int .i64 ((L.length : Nat) : Int)) Z (ex_lenO Tryz.underlying36 (Z.g 85 rfl) hsw) fun a Z => sv_r (v := .int .i64 0) Z ex_mc fun a Z => Z.nx [87, 86, 85, 83, 8, 5, 4, 2, 3] rfl fun Z => ?_)
 clear hTw hsw
 refine sh ?_
 have hE : Ev 116 ((87, .int .i64 ((0 : Nat) : Int)) :: (86, .int .i64 ((L.length : Nat) : Int)) :: (85, .slice p n cq) :: (83, .bool false) :: (8, .bool false) :: (5, pt g3 0) :: (4, pt g1 0) :: (2, kv) :: (3, hv) :: []) a := Z.ev.pick rfl
 refine range_wp (N := 116) (n := L.length) (l := (85, .slice p n cq) :: (83, .bool false) :: (8, .bool false) :: (5, pt g3 0) :: (4, pt g1 0) :: (2, kv) :: (3, hv) :: []) (fun k w' => Hv [⟨g3, (Md.cells { m with version := ver } sl), 29, true⟩, ⟨g1, (mcsM m ver (.slice p n cq) kb mb), 40, true⟩] (fun _ => False) w w') (by omega) hE (Z.hv) rfl (by decide) (by decide) ?_ ?_
 ·clear hE Z
  rintro k a w5 hk hE hV Q' hQ'
  have Z : Sv 116 ((87, .int .i64 ((k : Nat) : Int)) :: (86, .int .i64 ((L.length : Nat) : Int)) :: (85, .slice p n cq) :: (83, .bool false) :: (8, .bool false) :: (5, pt g3 0) :: (4, pt g1 0) :: (2, kv) :: (3, hv) :: []) [⟨g3, (Md.cells { m with version := ver } sl), 29, true⟩, ⟨g1, (mcsM m ver (.slice p n cq) kb mb), 40, true⟩] (fun _ => False) w a w5 := hV.sv hE
  obtain ⟨x, hxk⟩ : ∃ x, xs[k]? = some x := ⟨_, List.getElem?_eq_getElem (by omega)⟩
  have hxm := List.mem_of_getElem? hxk
  obtain ⟨y, hyk⟩ : ∃ y, L[k]? = some y := ⟨_, List.getElem?_eq_getElem hk⟩
  have hym := List.mem_of_getElem? hyk
  have hys : y.s = segAt (m.seq + k) x.1 := by
   have h1 : (L.map Sgv.s)[k]? = some y.s := by rw [List.getElem?_map, hyk]; rfl
   rw [hsL.1, hro.segs k x hxk] at h1
   exact (Option.some.inj h1).symm
  obtain ⟨q, hq⟩ : ∃ g, sA = some ⟨g, 0, none⟩ := hsA (by intro e; rw [e] at hxk; cases hxk)
  obtain ⟨hex1, hex2⟩ := hex x hxm
  refine wp_block (wr (sv_n 1 Z rfl fun a Z => ?_))
  have hsw : Own sgL 67 11 w5 0 (.slice p n cq) L := hsv.below Z.toBelow
  refine sv_elem (n := k) ag_impl_Segment Tryz.underlying36 (fun _ => rfl) (by decide) Z hsw hyk (Z.g 85 rfl) (Z.g 87 rfl) (by decide) (by decide) ?_ rfl (by decide)
  intro a Z
  clear hsw
  refine sv_al Z al_impl_Segment (by decide) fun g6 a w7 hg6 hbw7 hwg6 Z => sv_n 1 Z rfl fun a Z => sv_sb (i := 0) Z ag_impl_Segment (Z.g 10 rfl) (Z.g 91 rfl) rfl rfl rfl (sgL_one y) rfl fun w8 hty Z => Z.nx [9, 10, 89, 87, 86, 85, 83, 8, 5, 4, 2, 3] rfl fun Z => sh (wp_seq ?_)
  refine qg 11 [.agg (sgL y).toArray, pt g3 11, sl, .int .i64 ((k : Nat) : Int), pt q (k * 9), .agg x.cells, pt g3 2, .int .u64 ((m.seq : Nat) : Int), .int .i64 ((k : Nat) : Int), .int .u64 ((k : Nat) : Int), .int .u64 ((m.seq + k : Nat) : Int)] Z ?_ ?_
  ·simp only [List.take_succ_cons, List.take_zero]
   refine ⟨?_, ?_, ?_, ?_, ?_, ?_, ?_, ?_, ?_, ?_, ?_, trivial⟩
   ·exact fun _ _ c => og_val (ex_lb ag_impl_Segment (c.o (Z.g 10 rfl)) ((Z.ogc c).at 0 rfl) rfl) rfl
   ·exact fun _ _ c => og_val (ex_fo (c.o (Z.g 5 rfl)) (fo rfl) rfl) rfl
   ·exact ql 1 lt_sl_spec_Segment Z 1
   ·exact qm (Z.g 9 rfl)
   ·intro a wx c
    have e_94 : a.eval (.tmp 94) = sl := c.s 2 rfl
    have e_95 : a.eval (.tmp 95) = .int .i64 ((k : Nat) : Int) := c.s 3 rfl
    clear c
    have hsx2 : sl = .slice (some ⟨q, 0, none⟩) xs.length sc := by rw [hsx, hq]
    rw [hsx2] at e_94
    exact og_val (v := pt q (k * 9)) (ex_iaA Tryz.underlying27 ag_spec_Segment e_94 e_95 (by omega)) rfl
   ·intro a wx c
    have e_96 : a.eval (.tmp 96) = pt q (k * 9) := c.s 4 rfl
    have hO := Z.ogc c
    have hbx := drew_below c.only
    have hO := Z.ogc c
    clear c
    have hTx : SegsAt B0 sl xs wx := hT.ty (TyOnly.of_below (ts := []) hO.toBelow) (by decide)
    have hown := hTx.own
    rw [hsx, hq] at hown
    exact og_val (v := .agg x.cells) (ex_elemA (f := Sx.list) ag_spec_Segment (fun _ => rfl) (by decide) hown hxk e_96) rfl
   ·exact fun _ _ c => og_val (ex_fo (c.o (Z.g 5 rfl)) (fo rfl) rfl) rfl
   ·exact ql 6 lt_uint64 Z 1
   ·exact qm (Z.g 9 rfl)
   ·exact fun _ _ c => og_val (ex_cv (c.s 8 rfl) (cv_int_uint64 _ (by rw [IntKind.wrap_u64]; omega))) rfl
   ·exact fun _ _ c => og_val (ei_add (c.s 7 rfl) (c.s 9 rfl) (by rw [IntKind.wrap_u64]; omega)) rfl
  ·intro a w9 c hbw9
   replace Z := (((Z.ogk c [3, 2, 4, 5, 8, 83, 85, 86, 87, 89, 10, 9]).kS c 0 rfl rfl).kS c 5 rfl rfl).kS c 10 rfl rfl
   clear c
   simp only [List.drop_succ_cons, List.drop_zero]
   refine sv_callv (v := .bool true) Z rfl rfl (by decide) (ex_call3 cf_laws_sameSegment (Z.g 92 rfl) (Z.g 97 rfl) (Z.g 102 rfl)) (by have h := sameSeg_eq (s := x.1) (kv := x.2.1) (mv := x.2.2) (sq := m.seq + k) (z := e8 x.1.e) (kb := y.kb) (mb := y.mb) (kk := x.1.key.map Ky.kd) (mm := x.1.map.map Mp.ud) hex1 hex2 w9 (by have h := (hsL.2 y hym).1; rw [hys] at h; exact h.below Z.toBelow) (by have h := (hsL.2 y hym).2; rw [hys] at h; exact h.below Z.toBelow) ((hT.ats x hxm).keep Z.toBelow); have e : y = ⟨segAt (m.seq + k) x.1, y.kb, y.mb⟩ := (by rw [← hys]); rw [e]; exact h) fun a w10 hbw10 Z => sv_r (v := .bool false) Z (ex_not (Z.g 103 rfl)) fun a Z => Z.nx [104, 3, 2, 4, 5, 8, 83, 85, 86, 87, 89, 10] rfl fun Z => sh (cond_f (Z.g 104 rfl) (wp_skip ?_))
   show Q' .normal a w10
   exact hQ' a w10 (Z.ev.pick rfl) ((Z.mz [false, true, true] rfl).hv)
 ·clear hE Z
  rintro a w11 hE hV
  have Z : Sv 116 ((87, .int .i64 ((L.length : Nat) : Int)) :: (86, .int .i64 ((L.length : Nat) : Int)) :: (85, .slice p n cq) :: (83, .bool false) :: (8, .bool false) :: (5, pt g3 0) :: (4, pt g1 0) :: (2, kv) :: (3, hv) :: []) [⟨g3, (Md.cells { m with version := ver } sl), 29, true⟩, ⟨g1, (mcsM m ver (.slice p n cq) kb mb), 40, true⟩] (fun _ => False) w a w11 := hV.sv hE
  refine sh (wr (sv_n 1 Z rfl fun a Z => sv_l (v := .slice (kvA kb) (kvN kb) (kvN kb)) 1 Z rfl (Z.g 106 rfl) lt_sl_impl_Key rfl fun a Z => sv_n 1 Z rfl fun a Z => ?_))
  refine sv_callv (v := .bool true) Z rfl rfl (by decide) (ex_call2 cf_laws_sameKeys (Z.g 107 rfl) (Z.g 108 rfl)) (sameKeys_eq w11 (by have h := hkb; rw [hro.pkey] at h; exact h.below Z.toBelow) (hk.keep Z.toBelow)) fun a w12 hbw12 Z => sv_n 2 Z rfl fun a Z => sv_g (v := .slice (kvA mb) (kvN mb) (kvN mb)) Z (Z.g 110 rfl) (ex_ld (Z.g 111 rfl) lt_sl_impl_Map (cell_of_heap (v := .slice (kvA mb) (kvN mb) (kvN mb)) (Z.at 1 rfl) rfl)) fun a Z => sv_n 1 Z rfl fun a Z => ?_
  refine sv_gcallv (v := .bool true) Z rfl rfl (Z.g 110 rfl) rfl (by decide) (ex_call2 cf_laws_sameMaps (Z.g 112 rfl) (Z.g 113 rfl)) (sameMaps_eq w12 (by have h := hmb; rw [hro.pmap] at h; exact h.below Z.toBelow) (hh.keep Z.toBelow)) fun a w13 hbw13 Z => sv_n 2 Z rfl fun a Z => Z.nx [8, 87, 86, 85, 83, 5, 4] rfl fun Z => sh (wp_ret ?_)
  try simp only [Exit.inBlock, Exit.then]
  exact ret_of_ev Z.ev rfl (Z.g 8 rfl) ⟨rfl, Z.toBelow⟩
def PlainOf (B : Nat) (G : Ge) (m : Md) (xs : List Sx) : Prop := ∃ r lns, (m.write (xs.map (·.1))).data.toList = flatLn lns [] ∧ Run B G lns rst0 r ∧ StepOk B G ⟨([] : List UInt8).toArray⟩ r r ∧ r.m3 = true ∧ ReadOf m xs r ∧ (∀ ln ∈ lns, ∀ x ∈ ln, x ≠ 10) ∧ Asc (m.write (xs.map (·.1))) ∧ lns.length ≤ 8192 ∧ rdS false false 0 ((lns ++ [[]]).map trL) = true
structure FloatsOk : Prop where
 tgt : ∀ t, 20 ≤ t → t < 70 → (FloatKind.f64.format.order (floatOfInt .f64 ((t : Nat) : Int)) (floatOfInt .f64 ((t : Nat) : Int)) != some .eq) = false
 eig : ∀ e, e ≤ 300 → F8 (e8 e) e
theorem fnGrow_walk {B : Nat} {G : Ge} (A : Option Addr) (len cap n pl : Nat) (st : Bool) (hn : n < 4294967296) (hpl : pl < 256) (hlen : len ≤ cap) (hl64 : len < 9223372036854775808) (hF : FloatsOk) (hP : ∀ (m : Md) (xs : List Sx), MdOk m → xs.length ≤ 12 → (∀ x ∈ xs, SegOk x.1) → (m.write (xs.map (·.1))).size ≤ 8000 → PlainOf B G m xs) (w : World) (hG : Env B G w) (hA : U32s w A len) : Calls Tryz.prog 3 #[.slice A len cap, .int .u32 n, .int .u8 pl, .bool st] w fun e w' => e = .returned (.bool true) ∧ Below w.heap.size w w' := by
 refine calls_of_ev Tryz.func3 rfl (show 4 ≤ 55 from by decide) fun a hE => ?_
 have hE : Ev 55 ((0, .slice A len cap) :: (1, .int .u32 ((n : Nat) : Int)) :: (2, .int .u8 ((pl : Nat) : Int)) :: (3, .bool st) :: []) a := hE
 have Z : Sv 55 ((0, .slice A len cap) :: (1, .int .u32 ((n : Nat) : Int)) :: (2, .int .u8 ((pl : Nat) : Int)) :: (3, .bool st) :: []) [] (fun _ => False) w a w := Sv.start hE _ _
 clear hE
 refine wr (sv_n 1 Z rfl fun a Z => Z.nx [8, 0, 1, 2, 3] rfl fun Z => sh (wp_seq (wp_seq ?_)))
 by_cases hbig : 2147483647 < len
 ·refine wp_region_lit (sv_n 1 Z rfl fun a Z => sv_r (v := .int .i64 ((len : Nat) : Int)) Z (ex_lenS (E := 23) Tryz.underlying22 (Z.g 15 rfl)) fun a Z => ?_)
  refine sv_r (v := .bool true) Z (ei_gtr (Z.g 16 rfl) rfl (by rw [decide_eq_true_iff]; omega)) fun a Z => Z.nx [17, 8, 0, 1, 2, 3] rfl fun Z => sh (cond_t (Z.g 17 rfl) (wr (sv_n 1 Z rfl fun a Z => Z.nx [8, 17, 0, 1, 2, 3] rfl fun Z => sh (wp_ret ?_))))
  try simp only [Exit.inBlock, Exit.then]
  exact ret_of_ev Z.ev rfl (Z.g 8 rfl) ⟨rfl, Z.toBelow⟩
 ·refine wp_region_lit (sv_n 1 Z rfl fun a Z => sv_r (v := .int .i64 ((len : Nat) : Int)) Z (ex_lenS (E := 23) Tryz.underlying22 (Z.g 15 rfl)) fun a Z => ?_)
  refine sv_r (v := .bool false) Z (ei_gtr (Z.g 16 rfl) rfl (by rw [decide_eq_false_iff_not]; omega)) fun a Z => Z.nx [17, 8, 0, 1, 2, 3] rfl fun Z => sh (cond_f (Z.g 17 rfl) (wp_skip (sh (wp_seq (wp_seq ?_)))))
  by_cases hbig2 : 100 < len
  ·refine wp_region_lit (sv_n 1 Z rfl fun a Z => sv_r (v := .int .i64 ((len : Nat) : Int)) Z (ex_lenS (E := 23) Tryz.underlying22 (Z.g 18 rfl)) fun a Z => ?_)
   refine sv_r (v := .bool true) Z (ei_gtr (Z.g 19 rfl) rfl (by rw [decide_eq_true_iff]; omega)) fun a Z => Z.nx [20, 17, 8, 0, 1, 2, 3] rfl fun Z => sh (cond_t (Z.g 20 rfl) (wr (sv_n 1 Z rfl fun a Z => Z.nx [8, 20, 17, 0, 1, 2, 3] rfl fun Z => sh (wp_ret ?_))))
   try simp only [Exit.inBlock, Exit.then]
   exact ret_of_ev Z.ev rfl (Z.g 8 rfl) ⟨rfl, Z.toBelow⟩
  ·refine wp_region_lit (sv_n 1 Z rfl fun a Z => sv_r (v := .int .i64 ((len : Nat) : Int)) Z (ex_lenS (E := 23) Tryz.underlying22 (Z.g 18 rfl)) fun a Z => ?_)
   refine sv_r (v := .bool false) Z (ei_gtr (Z.g 19 rfl) rfl (by rw [decide_eq_false_iff_not]; omega)) fun a Z => Z.nx [20, 17, 8, 0, 1, 2, 3] rfl fun Z => sh (cond_f (Z.g 20 rfl) (wp_skip (sh (wr (sv_n 2 Z rfl fun a Z => ?_)))))
   have hlt := Z.lt
   have hsz := Z.size
   refine sv_call (S := fun v w' => ∃ (m : Md) (sl : Value) (xs : List Sx), v = .agg (m.cells sl) ∧ MdOk m ∧ xs.length = min len 12 ∧ (∀ x ∈ xs, SegOk x.1) ∧ SegsAt w.heap.size sl xs w') Z rfl rfl (by decide) (ex_call2 cf_laws_mediaOf (Z.g 21 rfl) (Z.g 22 rfl)) (mediaOf_any A len cap n hn hlen _ (hA.below Z.toBelow)) ?_
   rintro a _ w1 ⟨m, sl, xs, rfl, hm, hxl0, hxs, hT⟩ hbw1 Z
   refine sv_al Z al_spec_Media (by decide) fun g2 a w3 hg2 hbw3 hwg2 Z => ?_
   replace hT := hT.ty (TyOnly.of_below (ts := []) hbw3) (by decide)
   refine sv_sb (i := 0) Z ag_spec_Media (Z.g 9 rfl) (Z.g 23 rfl) rfl rfl rfl (Md.one m hT.own.one') rfl fun w4 hty Z => ?_
   replace hT := hT.ty hty (by decide)
   refine Z.nx [9, 20, 17, 8, 0, 1, 2, 3] rfl fun Z => ?_
   have hxl : xs.length ≤ 12 := by omega
   obtain ⟨sA, sc, hsv0, _⟩ := hT.own.shape
   refine sh (wr (sv_r (v := .agg (m.cells sl)) Z (ex_lb ag_spec_Media (Z.g 9 rfl) (Z.at 0 rfl) rfl) fun a Z => ?_))
   refine sv_callv (v := .string ((m.write (xs.map (·.1))))) Z rfl rfl (by decide) (ex_call3 cf_spec_Media_Write (Z.g 24 rfl) rfl rfl) (by have h := write_any m hm _ sl xs hxl (fun x hx => ⟨(hxs x hx).ln, by have := (hxs x hx).uri.size; omega⟩) 0 _ hT; exact h) fun a w5 hbw5 Z => ?_
   replace hT := hT.ty (TyOnly.of_below (ts := []) hbw5) (by decide)
   refine sv_n 1 Z rfl fun a Z => Z.nx [10, 9, 20, 17, 8, 0, 1, 2, 3] rfl fun Z => sh (wp_seq (wp_seq ?_))
   by_cases hbig3 : 8000 < (m.write (xs.map (·.1))).size
   ·refine wp_region_lit (sv_n 1 Z rfl fun a Z => sv_r (v := .int .i64 ((((m.write (xs.map (·.1)))).size : Nat) : Int)) Z (ex_slen (ats := #[]) (Z.g 26 rfl)) fun a Z => ?_)
    refine sv_r (v := .bool true) Z (ei_gtr (Z.g 27 rfl) rfl (by rw [decide_eq_true_iff]; omega)) fun a Z => Z.nx [28, 10, 9, 20, 17, 8, 0, 1, 2, 3] rfl fun Z => sh (cond_t (Z.g 28 rfl) (wr (sv_n 1 Z rfl fun a Z => Z.nx [8, 28, 10, 9, 20, 17, 0, 1, 2, 3] rfl fun Z => sh (wp_ret ?_))))
    try simp only [Exit.inBlock, Exit.then]
    exact ret_of_ev Z.ev rfl (Z.g 8 rfl) ⟨rfl, Z.toBelow⟩
   ·refine wp_region_lit (sv_n 1 Z rfl fun a Z => sv_r (v := .int .i64 ((((m.write (xs.map (·.1)))).size : Nat) : Int)) Z (ex_slen (ats := #[]) (Z.g 26 rfl)) fun a Z => ?_)
    refine sv_r (v := .bool false) Z (ei_gtr (Z.g 27 rfl) rfl (by rw [decide_eq_false_iff_not]; omega)) fun a Z => Z.nx [28, 10, 9, 20, 17, 8, 0, 1, 2, 3] rfl fun Z => sh (cond_f (Z.g 28 rfl) (wp_skip (sh (wp_seq ?_))))
    have hpo := hP m xs hm hxl hxs (by omega)
    obtain ⟨r, lns, p1, p2, p3, p4, p5, p6, p7, p8, p9⟩ := hpo
    refine wp_region_lit (sv_r (v := .agg (m.cells sl)) Z (ex_lb ag_spec_Media (Z.g 9 rfl) (Z.at 0 rfl) rfl) fun a Z => ?_)
    have hlt := Z.lt
    have hsz := Z.size
    refine sv_call (S := fun v w' => ∃ kv hv, v = .tuple #[kv, hv] ∧ PtrTo 106 ((firstK xs).map Ky.cells) kv w' ∧ PtrTo 109 ((firstM xs).map Mp.cells) hv w') Z rfl rfl (by decide) (ex_call1 cf_laws_firsts (Z.g 30 rfl)) (firsts_any m _ sl xs hxl _ hT) ?_
    rintro a _ w6 ⟨kv, hv, rfl, hk, hh⟩ hbw6 Z
    replace hT := hT.ty (TyOnly.of_below (ts := []) hbw6) (by decide)
    refine sv_n 5 Z rfl fun a Z => Z.nx [12, 11, 28, 10, 9, 20, 17, 8, 0, 1, 2, 3] rfl fun Z => sh (wr (sv_r (v := .agg (m.cells sl)) Z (ex_lb ag_spec_Media (Z.g 9 rfl) (Z.at 0 rfl) rfl) fun a Z => ?_))
    refine sv_callv (v := .int .i64 ((raisedV m xs : Nat) : Int)) Z rfl rfl (by decide) (ex_call1 cf_laws_raised (Z.g 34 rfl)) (raised_any m _ sl xs hxl (fun x hx => by have h := (hxs x hx).part; omega) (by have := hm.version; omega) _ hT) fun a w7 hbw7 Z => ?_
    replace hT := hT.ty (TyOnly.of_below (ts := []) hbw7) (by decide)
    replace hk := hk.ty (TyOnly.of_below (ts := []) hbw7) (by decide)
    replace hh := hh.ty (TyOnly.of_below (ts := []) hbw7) (by decide)
    refine sv_n 1 Z rfl fun a Z => sv_st (i := 0) (v := .int .i64 ((raisedV m xs : Nat) : Int)) (cs' := #[.int .i64 ((raisedV m xs : Nat) : Int), .int .i64 ((m.target : Nat) : Int), .int .u64 ((m.seq : Nat) : Int), .int .u64 ((m.disc : Nat) : Int), .int .i64 ((m.typ : Nat) : Int), .int .i64 ((m.start : Nat) : Int), .bool (m.precise), .bool (m.iframe), .bool (m.closed), .pointer none, .pointer none, sl]) Z (su_int _) (Z.g 36 rfl) (Z.g 35 rfl) rfl (show 0 < 12 from by decide) rfl rfl fun w8 hty Z => ?_
    replace hT := hT.ty hty (by decide)
    replace hk := hk.ty hty (by decide)
    replace hh := hh.ty hty (by decide)
    refine Z.nx [12, 11, 28, 10, 9, 20, 17, 8, 0, 1, 2, 3] rfl fun Z => sh (wp_seq ?_)
    have hrv : raisedV m xs < 1000 := by have := hm.version; unfold raisedV; split <;> omega
    have htyp := hm.typ
    have hrv2 : r.ver < 256 := by have := hm.version; rw [p5.ver]; unfold raisedV; split <;> omega
    have hsz8 : (m.write (xs.map (·.1))).size ≤ 8192 := by omega
    refine wp_region_lit (sv_n 2 Z rfl fun a Z => sv_r (v := .int .u8 ((pl % 20 : Nat) : Int)) Z (ni_rem 20 (Z.g 39 rfl) rfl (by decide)) fun a Z => ?_)
    refine sv_r (v := .int .i64 ((pl % 20 : Nat) : Int)) Z (ex_cv (Z.g 40 rfl) (cv_uint8_int _ (by rw [IntKind.wrap_i64]; omega))) fun a Z => ?_
    refine sv_r (v := .int .i64 ((1 + (pl % 20) : Nat) : Int)) Z (ei_add rfl (Z.g 41 rfl) (by rw [IntKind.wrap_i64]; omega)) fun a Z => sv_n 1 Z rfl fun a Z => ?_
    have hlt := Z.lt
    have hsz := Z.size
    refine sv_call (S := fun v w' => ∃ mv, v = .tuple #[mv, .bool true] ∧ Got r w' mv) Z rfl rfl (by decide) (ex_call4 cf_impl_ReadMedia (Z.g 38 rfl) rfl (Z.g 42 rfl) (Z.g 43 rfl)) (readMedia_any lns st _ p2 p3 p4 (n := 1 + pl % 20) (by omega) (by omega) p1 p6 hsz8 p7 p8 p9 (by rw [p5.len]; omega) hrv2 (by rw [p5.typ]; omega) _ (hG.below Z.toBelow)) ?_
    rintro a _ w9 ⟨_, rfl, p, n2, c6, kb, mb, L, rfl, hsv, hsL, hkb, hmb⟩ hbw9 Z
    replace hT := hT.ty (TyOnly.of_below (ts := []) hbw9) (by decide)
    replace hk := hk.ty (TyOnly.of_below (ts := []) hbw9) (by decide)
    replace hh := hh.ty (TyOnly.of_below (ts := []) hbw9) (by decide)
    refine sv_n 1 Z rfl fun a Z => sv_r (v := .agg (mcs r (.slice p n2 c6) kb mb)) Z (ei_ext (Z.g 37 rfl) rfl) fun a Z => sv_n 1 Z rfl fun a Z => sv_al Z al_impl_Media (by decide) fun g10 a w11 hg10 hbw11 hwg10 Z => ?_
    replace hT := hT.ty (TyOnly.of_below (ts := []) hbw11) (by decide)
    replace hk := hk.ty (TyOnly.of_below (ts := []) hbw11) (by decide)
    replace hh := hh.ty (TyOnly.of_below (ts := []) hbw11) (by decide)
    replace hsv := hsv.ty (TyOnly.of_below (ts := []) hbw11) (by decide)
    replace hsL := hsL.ty (TyOnly.of_below (ts := []) hbw11) (by decide)
    replace hkb := hkb.ty (TyOnly.of_below (ts := []) hbw11) (by decide)
    replace hmb := hmb.ty (TyOnly.of_below (ts := []) hbw11) (by decide)
    refine sv_sb (i := 0) Z ag_impl_Media (Z.g 13 rfl) (Z.g 45 rfl) rfl rfl rfl mcs_one rfl fun w12 hty Z => ?_
    replace hT := hT.ty hty (by decide)
    replace hk := hk.ty hty (by decide)
    replace hh := hh.ty hty (by decide)
    replace hsv := hsv.ty hty (by decide)
    replace hsL := hsL.ty hty (by decide)
    replace hkb := hkb.ty hty (by decide)
    replace hmb := hmb.ty hty (by decide)
    refine sv_n 1 Z rfl fun a Z => Z.nx [14, 13, 12, 11, 28, 10, 9, 20, 17, 8, 0, 1, 2, 3] rfl fun Z => sh (wr (sv_n 2 Z rfl fun a Z => sv_g (v := .agg (mcs r (.slice p n2 c6) kb mb)) Z (Z.g 48 rfl) (ex_lb ag_impl_Media (Z.g 13 rfl) (Z.at 0 rfl) rfl) fun a Z => sv_g (v := .agg #[.int .i64 ((raisedV m xs : Nat) : Int), .int .i64 ((m.target : Nat) : Int), .int .u64 ((m.seq : Nat) : Int), .int .u64 ((m.disc : Nat) : Int), .int .i64 ((m.typ : Nat) : Int), .int .i64 ((m.start : Nat) : Int), .bool (m.precise), .bool (m.iframe), .bool (m.closed), .pointer none, .pointer none, sl]) Z (Z.g 48 rfl) (ex_lb ag_spec_Media (Z.g 9 rfl) (Z.at 1 rfl) rfl) fun a Z => sv_n 2 Z rfl fun a Z => ?_))
    refine sv_gcallv (v := .bool true) Z rfl rfl (Z.g 48 rfl) rfl (by decide) (ex_call4 cf_laws_sameMedia (Z.g 49 rfl) (Z.g 50 rfl) (Z.g 51 rfl) (Z.g 52 rfl)) (by rw [p5.cells]; exact sameMedia_eq m hm _ _ hrv sl xs r hxl p5 (hF.tgt _ hm.target.1 hm.target.2) (hF.eig _ hm.start) (fun x hx => ⟨by have := (hxs x hx).e; omega, hF.eig _ (by have := (hxs x hx).e; omega)⟩) p n2 c6 kb mb L kv hv _ hT hsv hsL hkb hmb hk hh) fun a w13 hbw13 Z => ?_
    replace hT := hT.ty (TyOnly.of_below (ts := []) hbw13) (by decide)
    replace hk := hk.ty (TyOnly.of_below (ts := []) hbw13) (by decide)
    replace hh := hh.ty (TyOnly.of_below (ts := []) hbw13) (by decide)
    replace hsv := hsv.ty (TyOnly.of_below (ts := []) hbw13) (by decide)
    replace hsL := hsL.ty (TyOnly.of_below (ts := []) hbw13) (by decide)
    replace hkb := hkb.ty (TyOnly.of_below (ts := []) hbw13) (by decide)
    replace hmb := hmb.ty (TyOnly.of_below (ts := []) hbw13) (by decide)
    refine sv_n 2 Z rfl fun a Z => Z.nx [8, 14, 13, 12, 11, 28, 10, 9, 20, 17, 0, 1, 2, 3] rfl fun Z => sh (wp_ret ?_)
    try simp only [Exit.inBlock, Exit.then]
    exact ret_of_ev Z.ev rfl (Z.g 8 rfl) ⟨rfl, Z.toBelow⟩
theorem data_app (a b : ByteArray) : (a ++ b).data.toList = a.data.toList ++ b.data.toList := by rw [ByteArray.data_append, Array.toList_append]
theorem size_of (l : List UInt8) : (⟨l.toArray⟩ : ByteArray).size = l.length := by simp [ByteArray.size]
theorem list_of (l : List UInt8) : (⟨l.toArray⟩ : ByteArray).data.toList = l := by simp
def Sgs (l : List UInt8) : Prop := ∀ x ∈ l, 32 ≤ x.toNat ∧ x.toNat < 128
theorem Sgs.app {l m : List UInt8} (h : Sgs l) (k : Sgs m) : Sgs (l ++ m) := fun x hx => (List.mem_append.1 hx).elim (h x) (k x)
theorem sgs_of {l : List UInt8} (h : (l.all fun x => decide (32 ≤ x.toNat) && decide (x.toNat < 128)) = true) : Sgs l := by
 intro x hx
 have := List.all_eq_true.1 h x hx
 simpa using this
theorem Sgs.ne10 {l : List UInt8} (h : Sgs l) : ∀ x ∈ l, x ≠ 10 := by
 rintro x hx rfl
 have := (h 10 hx).1
 revert this; decide
theorem nsp_of {x : UInt8} (h : 33 ≤ x.toNat) : Lib.isSp x = false := by
 have h2 : ∀ c : UInt8, c.toNat < 33 → (x == c) = false := by
  intro c hc
  rw [beq_eq_false_iff_ne]
  rintro rfl
  omega
 unfold Lib.isSp
 rw [h2 9 (by decide), h2 10 (by decide), h2 11 (by decide), h2 12 (by decide), h2 13 (by decide), h2 32 (by decide)]
 rfl
structure Lin (l : List UInt8) : Prop where
 ne : l ≠ []
 sgs : Sgs l
 first : ∀ b, l.head? = some b → 33 ≤ b.toNat
 last : ∀ b, l.getLast? = some b → 33 ≤ b.toNat
theorem dw_head : ∀ m : List UInt8, (∀ b, m.head? = some b → Lib.isSp b = false) → m.dropWhile Lib.isSp = m
 | [], _ => rfl
 | x :: r, hm => by rw [List.dropWhile_cons_of_neg (by rw [hm x rfl]; decide)]
theorem Lin.trim {l : List UInt8} (h : Lin l) : Lib.trimSpace l = l := by
 unfold Lib.trimSpace
 rw [dw_head l fun b hb => nsp_of (h.first b hb), dw_head _ (fun b hb => nsp_of (h.last b (by rw [List.head?_reverse] at hb; exact hb))), List.reverse_reverse]
theorem Lin.trim10 {l : List UInt8} (h : Lin l) : Lib.trimSpace (l ++ [10]) = l := by
 unfold Lib.trimSpace
 rw [dw_head (l ++ [10]) (fun b hb => nsp_of (h.first b (by rw [List.head?_append] at hb; cases hl : l.head? with | none => exact absurd (List.head?_eq_none_iff.1 hl) h.ne | some c => rw [hl] at hb; simpa using hb)))]
 rw [List.reverse_append, List.reverse_singleton, List.singleton_append, List.dropWhile_cons_of_pos (by decide), dw_head _ (fun b hb => nsp_of (h.last b (by rw [List.head?_reverse] at hb; exact hb))), List.reverse_reverse]
theorem Lin.trimA {l : List UInt8} (h : Lin l) : trimA ⟨(l ++ [10]).toArray⟩ = ⟨l.toArray⟩ := by
 show (⟨(Lib.trimSpace (l ++ [10])).toArray⟩ : ByteArray) = _
 rw [h.trim10]
theorem Lin.trL {l : List UInt8} (h : Lin l) : trL l = ⟨l.toArray⟩ := by
 show (⟨(Lib.trimSpace l).toArray⟩ : ByteArray) = _
 rw [h.trim]
theorem asc_of {l : List UInt8} (h : ∀ x ∈ l, x.toNat < 128) : Asc ⟨l.toArray⟩ := by
 intro j b hb
 refine h b (List.mem_of_getElem? (i := j) ?_)
 simpa using hb
theorem Lin.asc {l : List UInt8} (h : Lin l) : Asc ⟨(l ++ [10]).toArray⟩ := asc_of (by
 intro x hx
 rcases List.mem_append.1 hx with hx | hx
 ·exact (h.sgs x hx).2
 ·rw [List.mem_singleton.1 hx]; decide)
theorem Lin.size {l : List UInt8} (hl : l.length ≤ 1000) : (⟨(l ++ [10]).toArray⟩ : ByteArray).size ≤ 1000000 := by rw [size_of, List.length_append, List.length_singleton]; omega
theorem lin_pre {p r : List UInt8} (hp : Sgs p) (hr : Sgs r) (h1 : ∀ b, p.head? = some b → 33 ≤ b.toNat) (h0 : p ≠ []) (h2 : ∀ b, (p ++ r).getLast? = some b → 33 ≤ b.toNat) : Lin (p ++ r) :=
 ⟨by simp [h0], hp.app hr, fun b hb => h1 b (by rw [List.head?_append] at hb; cases hl : p.head? with | none => exact absurd (List.head?_eq_none_iff.1 hl) h0 | some c => rw [hl] at hb; simpa using hb), h2⟩
def Sgn (l : List UInt8) : Prop := ∀ x ∈ l, 33 ≤ x.toNat ∧ x.toNat < 128
theorem Sgn.app {l m : List UInt8} (h : Sgn l) (k : Sgn m) : Sgn (l ++ m) := fun x hx => (List.mem_append.1 hx).elim (h x) (k x)
theorem sgn_of {l : List UInt8} (h : (l.all fun x => decide (33 ≤ x.toNat) && decide (x.toNat < 128)) = true) : Sgn l := by
 intro x hx
 have := List.all_eq_true.1 h x hx
 simpa using this
theorem Sgn.sgs {l : List UInt8} (h : Sgn l) : Sgs l := fun x hx => ⟨by have := (h x hx).1; omega, (h x hx).2⟩
theorem Sgn.lin {l : List UInt8} (h : Sgn l) (h0 : l ≠ []) : Lin l := ⟨h0, h.sgs, fun b hb => (h b (List.mem_of_mem_head? hb)).1, fun b hb => (h b (List.mem_of_getLast? hb)).1⟩
theorem getLast_app {p r : List UInt8} {b : UInt8} (h : (p ++ r).getLast? = some b) (hr : r ≠ []) : r.getLast? = some b := by
 rw [List.getLast?_append] at h
 cases hl : r.getLast? with
 | none => exact absurd (List.getLast?_eq_none_iff.1 hl) hr
 | some c => rw [hl] at h; simpa using h
theorem dec_isD : ∀ n : Nat, (dec n).data.toList ≠ [] ∧ ∀ b ∈ (dec n).data.toList, isD b = true := by
 intro n
 induction n using Nat.strongRecOn with
 | ind n ih =>
  have hd : ∀ k, k < 10 → isD (UInt8.ofNat (48 + k)) = true := by
   intro k hk
   have : ((List.range 10).all fun k => isD (UInt8.ofNat (48 + k))) = true := by decide
   exact List.all_eq_true.1 this k (List.mem_range.2 hk)
  by_cases h : n < 10
  ·rw [dec_small h]
   refine ⟨by simp, fun b hb => ?_⟩
   have : b = UInt8.ofNat (48 + n) := by simpa using hb
   rw [this]; exact hd n h
  ·rw [dec_large h, data_app]
   obtain ⟨h1, h2⟩ := ih (n / 10) (by omega)
   refine ⟨by simp, fun b hb => ?_⟩
   rcases List.mem_append.1 hb with hb | hb
   ·exact h2 b hb
   ·have : b = UInt8.ofNat (48 + n % 10) := by simpa using hb
    rw [this]; exact hd _ (by omega)
theorem isD_nat {b : UInt8} (h : isD b = true) : 48 ≤ b.toNat ∧ b.toNat ≤ 57 := by
 unfold isD at h
 simpa using h
theorem dec_sgn (n : Nat) : Sgn (dec n).data.toList := fun x hx => by
 have := isD_nat ((dec_isD n).2 x hx)
 omega
theorem dec_ne (n : Nat) : (dec n).data.toList ≠ [] := (dec_isD n).1
theorem dec_len {n : Nat} (h : n < 18446744073709551616) : (dec n).data.toList.length ≤ 20 := by rw [len_list]; exact dec_le h
theorem pu_snoc : ∀ (l : List UInt8) (acc u : Nat) (c : UInt8), Lib.parseUint10 acc l = .ok u → 48 ≤ c.toNat → c.toNat ≤ 57 → u * 10 + (c.toNat - 48) < 18446744073709551616 → Lib.parseUint10 acc (l ++ [c]) = .ok (u * 10 + (c.toNat - 48))
 | [], acc, u, c, h, h1, h2, h3 => by
  have h4 : acc = u := by unfold Lib.parseUint10 at h; injection h
  subst h4
  rw [List.nil_append]
  unfold Lib.parseUint10
  rw [if_pos ⟨h1, h2⟩, if_neg (by omega), if_neg (by omega)]
  unfold Lib.parseUint10
  rfl
 | d :: r, acc, u, c, h, h1, h2, h3 => by
  rw [List.cons_append]
  unfold Lib.parseUint10 at h ⊢
  split at h
  ·rename_i hd
   rw [if_pos hd]
   split at h
   ·cases h
   ·rename_i h5
    rw [if_neg h5]
    split at h
    ·cases h
    ·rename_i h6
     rw [if_neg h6]
     exact pu_snoc r _ u c h h1 h2 h3
  ·cases h
theorem pu_dec : ∀ n : Nat, n < 18446744073709551616 → Lib.parseUint10 0 (dec n).data.toList = .ok n := by
 intro n
 induction n using Nat.strongRecOn with
 | ind n ih =>
  intro hn
  have hd : ∀ k, k < 10 → (UInt8.ofNat (48 + k)).toNat = 48 + k := by
   intro k hk
   have : ((List.range 10).all fun k => (UInt8.ofNat (48 + k)).toNat == 48 + k) = true := by decide
   simpa using List.all_eq_true.1 this k (List.mem_range.2 hk)
  by_cases h : n < 10
  ·rw [dec_small h]
   have := pu_snoc [] 0 0 (UInt8.ofNat (48 + n)) (by unfold Lib.parseUint10; rfl) (by rw [hd n h]; omega) (by rw [hd n h]; omega) (by rw [hd n h]; omega)
   rw [hd n h] at this
   simpa using this
  ·rw [dec_large h, data_app]
   have h2 := hd (n % 10) (by omega)
   have := pu_snoc _ 0 (n / 10) (UInt8.ofNat (48 + n % 10)) (ih (n / 10) (by omega) (by omega)) (by rw [h2]; omega) (by rw [h2]; omega) (by rw [h2]; omega)
   rw [h2] at this
   have e : n / 10 * 10 + (48 + n % 10 - 48) = n := by omega
   rw [e] at this
   exact this
theorem tw_all {p : UInt8 → Bool} : ∀ l : List UInt8, (∀ x ∈ l, p x = true) → l.takeWhile p = l
 | [], _ => rfl
 | x :: r, h => by rw [List.takeWhile_cons_of_pos (h x List.mem_cons_self), tw_all r fun y hy => h y (List.mem_cons_of_mem _ hy)]
theorem runN_all {p : UInt8 → Bool} {l : List UInt8} (h : ∀ x ∈ l, p x = true) : runN p ⟨l.toArray⟩ = l.length := by
 show (List.takeWhile p l).length = l.length
 rw [tw_all l h]
theorem digs_tab : (List.range 256).all (fun n => !(decide (48 ≤ n) && decide (n ≤ 57)) || (inS digs (UInt8.ofNat n) && !inS pms (UInt8.ofNat n))) = true := by decide +kernel
theorem digs_in {x : UInt8} (h : isD x = true) : inS digs x = true ∧ inS pms x = false := by
 have h0 := isD_nat h
 have h1 := List.all_eq_true.1 digs_tab x.toNat (List.mem_range.2 x.toNat_lt)
 rw [UInt8.ofNat_toNat] at h1
 simpa [h0.1, h0.2] using h1
theorem runN_none {p : UInt8 → Bool} {l : List UInt8} (h : ∀ x ∈ l, p x = false) : runN p ⟨l.toArray⟩ = 0 := by
 show (List.takeWhile p l).length = 0
 cases l with
 | nil => rfl
 | cons x r => rw [List.takeWhile_cons_of_neg (by rw [h x List.mem_cons_self]; decide)]; rfl
theorem ba_of (s : ByteArray) : (⟨s.data.toList.toArray⟩ : ByteArray) = s := ba_eq (by simp)
theorem dec_first (n : Nat) : ∀ h : 0 < (dec n).size, ((dec n)[0]'h).toNat ≠ 32 ∧ ((dec n)[0]'h).toNat ≠ 9 := by
 intro h
 have := isD_nat ((dec_isD n).2 _ (List.mem_of_getElem? (at_list h)))
 omega
theorem dec_pos (n : Nat) : 0 < (dec n).size := by
 rw [← len_list]; exact List.length_pos_iff.2 (dec_ne n)
theorem dec_tok (n : Nat) : (dec n).extract 0 (runN (inS digs) (dec n)) = dec n := by
 have h : runN (inS digs) (dec n) = (dec n).size := by
  have := runN_all (p := inS digs) (l := (dec n).data.toList) (fun x hx => (digs_in ((dec_isD n).2 x hx)).1)
  rw [ba_of, len_list] at this
  exact this
 rw [h, ext_self]
end Go.Proofs.YtflppablgdegcaaGreatDoor
