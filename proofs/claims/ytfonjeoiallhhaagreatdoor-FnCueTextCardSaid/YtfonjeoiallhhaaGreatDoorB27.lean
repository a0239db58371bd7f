/- Joined: Ct, Lc. -/
import Derived.Test.YtfonjeoiallhhaaGreatDoorB26
import Derived.Test.YtfonjeoiallhhaaGreatDoorB24
/- laws.cuedOf and laws.FnCueText: the walks. Printed by wip/tools/gen_ct.py. -/
set_option maxRecDepth 100000
set_option maxHeartbeats 8000000
namespace Go.Proofs.YtfonjeoiallhhaaGreatDoor
open Go.RowKit
/-- What WriteMedia writes with cues is what the reference writes. -/
def WcLaw : Prop := ∀ (m : Md) (ys : List Iy), MdOk m → (m.typ = 0 ∨ m.typ = 2) → ys.length ≤ 12 → (∀ y ∈ ys, SegOk y.s ∧ ∀ c, y.c = some c → CueG c) → (wmText m ⟨#[]⟩ ys).length ≤ 140737488355328 ∧ (⟨(wmText m ⟨#[]⟩ ys).toArray⟩ : ByteArray) = m.writeC (ys.map fun y => (y.s, y.c))
theorem ret_cued {N t1 t2 t3 t4 k1 k3 g1 g3 : Nat} {T1 T3 : TypeId} {l : List (Nat × Value)} {fn : Func} {R : Ending → World → Prop} {a : Act} {w : World} {cs1 cs3 : Array Value} {e1 e3 : TypeId} {v2 v4 : Value} (h : Ev N l a) (hr : fn.results = #[.cell t1 T1, .tmp t2, .cell t3 T3, .tmp t4]) (hA1 : Ag T1 k1) (hv1 : a.eval (.tmp t1) = pt g1 0) (hg1 : w.heap[g1]? = some (.cells cs1 e1 (0, 0))) (hs1 : cs1.size = k1) (hv2 : a.eval (.tmp t2) = v2) (hA3 : Ag T3 k3) (hv3 : a.eval (.tmp t3) = pt g3 0) (hg3 : w.heap[g3]? = some (.cells cs3 e3 (0, 0))) (hs3 : cs3.size = k3) (hv4 : a.eval (.tmp t4) = v4)
  (hR : R (.returned (.tuple #[.agg cs1, v2, .agg cs3, v4])) w) : bodyPost Tryz.prog fn R .ret a w := by
 refine bodyPost_ret (v := .tuple #[.agg cs1, v2, .agg cs3, v4]) ?_ h.defers hR
 have hl1 := run_load_blk (P := Tryz.prog) (w := w) T1 hA1.agg hA1.size hg1 hs1
 have hl3 := run_load_blk (P := Tryz.prog) (w := w) T3 hA3.agg hA3.size hg3 hs3
 have hv1' : a.tmps.getD t1 undef = pt g1 0 := hv1
 have hv2' : a.tmps.getD t2 undef = v2 := hv2
 have hv3' : a.tmps.getD t3 undef = pt g3 0 := hv3
 have hv4' : a.tmps.getD t4 undef = v4 := hv4
 rw [Array.getD_eq_getD_getElem?] at hv1' hv2' hv3' hv4'
 simp [results, hr, hv1', hv2', hv3', hv4', asAddr, hl1, hl3]
theorem map_set_same {α β : Type} {f : α → β} {L : List α} {k : Nat} {y y' : α} (hk : L[k]? = some y) (hf : f y' = f y) : (L.set k y').map f = L.map f := by
 apply List.ext_getElem?
 intro j
 rw [List.getElem?_map, List.getElem?_map, List.getElem?_set]
 split
 ·rename_i e
  subst e
  rw [hk, if_pos (List.getElem?_eq_some_iff.1 hk).1]
  simp [hf]
 ·rfl
/-- Of the first k the cues stand in the data. -/
def Cued (k : Nat) (ys : List Iy) (zs : List Cz) : Prop := ∀ (j : Nat) (y : Iy) (z : Cz), j < k → ys[j]? = some y → zs[j]? = some z → y.c = z.c
theorem Cued.step {k : Nat} {ys : List Iy} {zs : List Cz} {y : Iy} {z : Cz} (h : Cued k ys zs) (hz : zs.length = k) (hc : y.c = z.c) : Cued (k + 1) (ys.set k y) (zs ++ [z]) := by
 intro j y1 z1 hj hy1 hz1
 by_cases e : j = k
 ·subst e
  rw [List.getElem?_append_right (by omega)] at hz1
  rw [show j - zs.length = 0 from by omega] at hz1
  rw [List.getElem?_set] at hy1
  simp only [if_true] at hy1
  split at hy1
  ·rw [← Option.some.inj hy1, hc]; exact congrArg Cz.c (Option.some.inj hz1)
  ·cases hy1
 ·rw [List.getElem?_append_left (by omega)] at hz1
  rw [List.getElem?_set, if_neg (fun e2 => e e2.symm)] at hy1
  exact h j y1 z1 (by omega) hy1 hz1
theorem curI_at {w : World} {B n cap g : Nat} {v : Value} {L : List Iy} {y : Iy} {k : Nat} {cur : Array Value} (h : Own Iy.list 55 11 w B v L) (hv : v = .slice (some ⟨g, 0, none⟩) n cap) (hg : w.heap[g]? = some (.cells cur 55 (0, 0))) (hx : L[k]? = some y) : cur[k * 11 + 8]? = some y.cv := by
 subst hv
 have hkl : k < L.length := (List.getElem?_eq_some_iff.1 hx).1
 rcases h.2 with ⟨h1, _⟩ | ⟨g1, cap1, cur1, hv, hb, hh, hn, hm, hs, ht⟩
 ·cases h1
 ·injection hv with h1 h2 h3
  injection h1 with h1
  injection h1 with h1 _ _
  subst h1
  rw [hg] at hh
  injection hh with hh
  injection hh with hh _ _
  subst hh
  have h4 : (cur.toList.take (L.length * 11))[k * 11 + 8]? = some y.cv := by
   rw [ht, flat_get (f := Iy.list) (k := 11) (fun _ => rfl) (by decide)]
   rw [show (k * 11 + 8) / 11 = k from by omega, show (k * 11 + 8) % 11 = 8 from by omega, hx]
   rfl
  rw [List.getElem?_take_of_lt (by omega)] at h4
  simpa using h4
theorem IsAt.set {B k g n cap : Nat} {dl u : Value} {ys : List Iy} {y y' : Iy} {w w' : World} {cur : Array Value} (h : IsAt B dl ys w) (hv : dl = .slice (some ⟨g, 0, none⟩) n cap) (hy : ys[k]? = some y) (hu : y'.list = y.list.set 8 u) (hg : w.heap[g]? = some (.cells cur 55 (0, 0))) (hg' : w'.heap[g]? = some (.cells (cur.setIfInBounds (k * 11 + 8) u) 55 (0, 0))) (hty : TyOnly [55] w w') (hA : y'.At w') : IsAt B dl (ys.set k y') w' := by
 refine ⟨?_, fun z hz => ?_⟩
 ·have hO := h.own
  rw [hv] at hO ⊢
  exact Own.setCell (fun _ => rfl) (by decide) hO hy (by decide) hu hg hg'
 ·rcases List.mem_or_eq_of_mem_set hz with hz | rfl
  ·exact (h.ats z hz).ty hty (by decide)
  ·exact hA
def AllCz (zs : List Cz) (w : World) : Prop := ∀ z ∈ zs, PtrTo 116 (z.c.map Cq.cells) (.pointer z.p) w
theorem AllCz.ty {zs : List Cz} {w w' : World} {ts : List TypeId} (h : AllCz zs w) (hb : TyOnly ts w w') (ht : (ts.all fun u => u != 116) = true) : AllCz zs w' := fun z hz => (h z hz).ty hb ht
theorem AllCz.snoc {zs : List Cz} {z : Cz} {w : World} (h : AllCz zs w) (hz : PtrTo 116 (z.c.map Cq.cells) (.pointer z.p) w) : ∀ x ∈ zs ++ [z], PtrTo 116 (x.c.map Cq.cells) (.pointer x.p) w := by
 intro x hx
 rcases List.mem_append.1 hx with hx | hx
 ·exact h x hx
 ·rw [List.mem_singleton.1 hx]; exact hz
theorem zip_eq {xs : List Sx} {zs : List Cz} {ys : List Iy} (hl : zs.length = xs.length) (hs : ys.map Iy.s = xs.map (·.1)) (hc : Cued xs.length ys zs) : xs.zipWith (fun x z => (x.1, Cz.c z)) zs = ys.map fun y => (y.s, y.c) := by
 have hyl : ys.length = xs.length := by have := congrArg List.length hs; simpa using this
 apply List.ext_getElem?
 intro j
 rw [List.getElem?_zipWith, List.getElem?_map]
 rcases Nat.lt_or_ge j xs.length with h | h
 ·obtain ⟨x, hx⟩ : ∃ x, xs[j]? = some x := ⟨_, List.getElem?_eq_getElem h⟩
  obtain ⟨z, hz⟩ : ∃ z, zs[j]? = some z := ⟨_, List.getElem?_eq_getElem (by omega)⟩
  obtain ⟨y, hy⟩ : ∃ y, ys[j]? = some y := ⟨_, List.getElem?_eq_getElem (by omega)⟩
  rw [hx, hz, hy]
  have h1 := congrArg (fun l => l[j]?) hs
  simp only [List.getElem?_map, hx, hy, Option.map_some] at h1
  simp only [Option.map_some]
  rw [hc j y z h hy hz, Option.some.inj h1]
 ·rw [List.getElem?_eq_none h, List.getElem?_eq_none (l := ys) (by omega)]
  rfl
theorem cuedOf_any (A : Option Addr) (len cap n : Nat) (hn : n < 4294967296) (hlen : len ≤ cap) (w : World) (hA : U32s w A len) : Calls Tryz.prog 9 #[.slice A len cap, .int .u32 n] w fun e w' => ∃ v, e = .returned v ∧ Below w.heap.size w w' ∧ ∃ (m : Md) (sl cl dl : Value) (xs : List Sx) (zs : List Cz) (ys : List Iy), v = .tuple #[.agg (m.cells sl), cl, .agg (m.icells ⟨#[]⟩ dl), .string (m.writeC (xs.zipWith (fun x z => (x.1, Cz.c z)) zs))] ∧ MdOk m ∧ (m.typ = 0 ∨ m.typ = 2) ∧ xs.length ≤ 12 ∧ (∀ x ∈ xs, SegOk x.1) ∧ zs.length = xs.length ∧ ys.map Iy.s = xs.map (·.1) ∧ Cued xs.length ys zs ∧ (∀ z ∈ zs, ∀ c, z.c = some c → CueG c) ∧ sl.oneCell' = true ∧ cl.oneCell' = true ∧ IsAt w.heap.size dl ys w' := by
 refine calls_of_ev Tryz.func9 rfl (show 2 ≤ 56 from by decide) ?_
 intro a hE
 have hE : Ev 56 ((0, .slice A len cap) :: (1, .int .u32 ((n : Nat) : Int)) :: []) a := hE
 have hS : Sv 56 ((0, .slice A len cap) :: (1, .int .u32 ((n : Nat) : Int)) :: []) [] (fun _ => False) w a w := Sv.start hE _ _
 clear hE
 refine wp_seq ?_
 refine wp_region_lit ?_
 refine sv_al hS al_spec_Media (by decide) ?_
 intro g1 a w2 hg1 hbw2 hwg1 hS
 refine sv_r (v := .slice none 0 0) hS ex_ac fun a hS => ?_
 refine sv_al hS al_impl_Media (by decide) ?_
 intro g3 a w4 hg3 hbw4 hwg3 hS
 refine sv_r (v := .string (⟨#[]⟩)) hS ex_ac fun a hS => ?_
 refine wpList_nil ?_
 replace hS := hS.cut [7, 6, 5, 4, 0, 1]
 show Code.wp _ _ _ _ _
 refine wp_seq ?_
 refine wp_region_lit ?_
 refine sv_r (v := .slice A len cap) hS (ex_mv (hS.get 0 rfl)) fun a hS => ?_
 refine sv_r (v := .int .u32 ((n : Nat) : Int)) hS (ex_mv (hS.get 1 rfl)) fun a hS => ?_
 have hlt := hS.lt
 have hsz := hS.size
 refine sv_call (S := fun v w' => ∃ (m : Md) (sl : Value) (xs : List Sx), v = .agg (m.cells sl) ∧ MdOk m ∧ xs.length = min len 12 ∧ (∀ x ∈ xs, SegOk x.1) ∧ SegsAt w4.heap.size sl xs w') hS rfl rfl (by decide) (ex_call2 cf_laws_mediaOf (hS.get 13 rfl) (hS.get 14 rfl)) (mediaOf_any A len cap n hn hlen w4 (hA.below (hS.toBelow))) ?_
 rintro a vx w5 ⟨m, sl, xs, rfl, hm, hxl, hxs, hT0⟩ hbw5 hS
 have hsl1 := hT0.own.one'
 refine sv_al hS al_spec_Media (by decide) ?_
 intro g6 a w7 hg6 hbw7 hwg6 hS
 replace hT0 := hT0.ty (TyOnly.of_below (ts := []) hbw7) (by decide)
 refine sv_sb (i := 0) (m' := [⟨g6, (m.cells sl), 30, true⟩, ⟨g3, #[.float .f64 0, .int .u64 0, .slice none 0 0, .string ⟨#[]⟩, .bool false, .bool false, .int .i64 0, .int .u64 0, .float .f64 0, .bool false, .int .i64 0, .slice none 0 0, .slice none 0 0, .int .i64 0], 37, true⟩, ⟨g1, #[.int .i64 0, .int .i64 0, .int .u64 0, .int .u64 0, .int .i64 0, .int .i64 0, .bool false, .bool false, .bool false, .pointer none, .pointer none, .slice none 0 0], 30, true⟩]) hS ag_spec_Media (hS.get 8 rfl) (hS.get 15 rfl) rfl rfl rfl (m.one hsl1) rfl ?_
 intro w8 hty hS
 replace hT0 := hT0.ty hty (by decide)
 refine wpList_nil ?_
 replace hS := hS.cut [8, 7, 6, 5, 4, 0, 1]
 show Code.wp _ _ _ _ _
 refine wp_seq ?_
 have htyp := hm.typ
 refine wp_region_lit ?_
 refine sv_r (v := pt g6 4) hS (ex_fo (hS.get 8 rfl) fo_spec_Media_4 rfl) fun a hS => ?_
 refine sv_r (v := .int .i64 ((m.typ : Nat) : Int)) hS (ex_ld (hS.get 16 rfl) lt_int (cell_of_heap (v := .int .i64 ((m.typ : Nat) : Int)) (hS.at 0 rfl) rfl)) fun a hS => ?_
 refine sv_r (v := .int .i64 (((m.typ) / 2 : Nat) : Int)) hS (ni_quo 2 (hS.get 17 rfl) rfl (by decide) (by rw [IntKind.wrap_i64]; omega)) fun a hS => ?_
 refine sv_r (v := .int .i64 ((2 * ((m.typ) / 2) : Nat) : Int)) hS (ei_mul rfl (hS.get 18 rfl) (by rw [IntKind.wrap_i64]; omega)) fun a hS => ?_
 refine sv_r (v := pt g6 4) hS (ex_fo (hS.get 8 rfl) fo_spec_Media_4 rfl) fun a hS => ?_
 refine sv_st (i := 0) (v := .int .i64 ((2 * ((m.typ) / 2) : Nat) : Int)) (cs' := #[.int .i64 ((m.version : Nat) : Int), .int .i64 ((m.target : Nat) : Int), .int .u64 ((m.seq : Nat) : Int), .int .u64 ((m.disc : Nat) : Int), .int .i64 ((2 * ((m.typ) / 2) : Nat) : Int), .int .i64 ((m.start : Nat) : Int), .bool (m.precise), .bool (m.iframe), .bool (m.closed), .pointer none, .pointer none, sl]) (m' := [⟨g6, #[.int .i64 ((m.version : Nat) : Int), .int .i64 ((m.target : Nat) : Int), .int .u64 ((m.seq : Nat) : Int), .int .u64 ((m.disc : Nat) : Int), .int .i64 ((2 * ((m.typ) / 2) : Nat) : Int), .int .i64 ((m.start : Nat) : Int), .bool (m.precise), .bool (m.iframe), .bool (m.closed), .pointer none, .pointer none, sl], 30, true⟩, ⟨g3, #[.float .f64 0, .int .u64 0, .slice none 0 0, .string ⟨#[]⟩, .bool false, .bool false, .int .i64 0, .int .u64 0, .float .f64 0, .bool false, .int .i64 0, .slice none 0 0, .slice none 0 0, .int .i64 0], 37, true⟩, ⟨g1, #[.int .i64 0, .int .i64 0, .int .u64 0, .int .u64 0, .int .i64 0, .int .i64 0, .bool false, .bool false, .bool false, .pointer none, .pointer none, .slice none 0 0], 30, true⟩]) hS (su_int _) (hS.get 20 rfl) (hS.get 19 rfl) rfl (show 4 < 12 from by decide) rfl rfl ?_
 intro w9 hty hS
 replace hT0 := hT0.ty hty (by decide)
 refine wpList_nil ?_
 replace hS := hS.cut [8, 7, 6, 5, 4, 0, 1]
 obtain ⟨m2, hm2⟩ : ∃ m2 : Md, m2 = { m with typ := 2 * (m.typ / 2) } := ⟨_, rfl⟩
 have hmk : MdOk m2 := by rw [hm2]; obtain ⟨q1, q2, q3, q4, q5, q6, q7⟩ := hm; exact ⟨q1, q2, q3, q4, by show 2 * (m.typ / 2) < 3; omega, q6, q7⟩
 have hmt : m2.typ = 0 ∨ m2.typ = 2 := by rw [hm2]; have := hm.typ; show 2 * (m.typ / 2) = 0 ∨ 2 * (m.typ / 2) = 2; omega
 replace hS : Sv 56 ((8, pt g6 0) :: (7, .string (⟨#[]⟩)) :: (6, pt g3 0) :: (5, .slice none 0 0) :: (4, pt g1 0) :: (0, .slice A len cap) :: (1, .int .u32 ((n : Nat) : Int)) :: []) [⟨g6, (m2.cells sl), 30, true⟩, ⟨g3, #[.float .f64 0, .int .u64 0, .slice none 0 0, .string ⟨#[]⟩, .bool false, .bool false, .int .i64 0, .int .u64 0, .float .f64 0, .bool false, .int .i64 0, .slice none 0 0, .slice none 0 0, .int .i64 0], 37, true⟩, ⟨g1, #[.int .i64 0, .int .i64 0, .int .u64 0, .int .u64 0, .int .i64 0, .int .i64 0, .bool false, .bool false, .bool false, .pointer none, .pointer none, .slice none 0 0], 30, true⟩] (fun _ => False) w a w9 := by rw [hm2]; exact hS.pick rfl
 show Code.wp _ _ _ _ _
 refine wp_seq ?_
 refine wp_region_lit ?_
 refine sv_r (v := .agg (m2.cells sl)) hS (ex_lb ag_spec_Media (hS.get 8 rfl) (hS.at 0 rfl) rfl) fun a hS => ?_
 have hwB1 : w.heap.size ≤ w9.heap.size := hS.size
 have hlt := hS.lt
 have hsz := hS.size
 refine sv_call (S := fun v w' => ∃ (dl : Value) (ys : List Iy), v = .agg (m2.icells ⟨#[]⟩ dl) ∧ ys.map Iy.s = xs.map (·.1) ∧ (∀ y ∈ ys, y.c = none) ∧ IsAt w9.heap.size dl ys w') hS rfl rfl (by decide) (ex_call1 cf_laws_toMedia (hS.get 21 rfl)) (toMedia_any m2 hmk _ sl xs (by omega) hxs w9 hT0) ?_
 rintro a vx w10 ⟨dl, ys0, rfl, hys0, hyc, hI⟩ hbw10 hS
 replace hT0 := hT0.ty (TyOnly.of_below (ts := []) hbw10) (by decide)
 have hdl1 := hI.own.one'
 refine sv_al hS al_impl_Media (by decide) ?_
 intro g11 a w12 hg11 hbw12 hwg11 hS
 replace hT0 := hT0.ty (TyOnly.of_below (ts := []) hbw12) (by decide)
 replace hI := hI.ty (TyOnly.of_below (ts := []) hbw12) (by decide)
 refine sv_sb (i := 0) (m' := [⟨g11, (m2.icells ⟨#[]⟩ dl), 37, true⟩, ⟨g6, (m2.cells sl), 30, true⟩, ⟨g3, #[.float .f64 0, .int .u64 0, .slice none 0 0, .string ⟨#[]⟩, .bool false, .bool false, .int .i64 0, .int .u64 0, .float .f64 0, .bool false, .int .i64 0, .slice none 0 0, .slice none 0 0, .int .i64 0], 37, true⟩, ⟨g1, #[.int .i64 0, .int .i64 0, .int .u64 0, .int .u64 0, .int .i64 0, .int .i64 0, .bool false, .bool false, .bool false, .pointer none, .pointer none, .slice none 0 0], 30, true⟩]) hS ag_impl_Media (hS.get 9 rfl) (hS.get 22 rfl) rfl rfl rfl (m2.ione ⟨#[]⟩ hdl1) rfl ?_
 intro w13 hty hS
 replace hT0 := hT0.ty hty (by decide)
 replace hI := hI.ty hty (by decide)
 refine wpList_nil ?_
 replace hS := hS.cut [9, 8, 7, 6, 5, 4, 0, 1]
 show Code.wp _ _ _ _ _
 refine wp_seq ?_
 refine wp_region_lit ?_
 refine sv_new (T := 87) (cs := #[]) hS rfl rfl (by decide) (fun g => .slice (some ⟨g, 0, none⟩) 0 0) (by simp only [execOp, List.map_toArray, List.map_cons, List.map_nil, ]; go_simp) ?_
 intro g14 a w15 hg14 hbw15 hwg14 hS
 replace hT0 := hT0.ty (TyOnly.of_below (ts := []) hbw15) (by decide)
 replace hI := hI.ty (TyOnly.of_below (ts := []) hbw15) (by decide)
 refine sv_r (v := .slice (some ⟨g14, 0, none⟩) 0 0) hS (ex_as (hS.get 23 rfl)) fun a hS => ?_
 refine wpList_nil ?_
 replace hS := hS.cut [10, 9, 8, 7, 6, 5, 4, 0, 1]
 have hC0 : CzsAt w.heap.size (.slice (some ⟨g14, 0, none⟩) 0 0) [] w15 := ⟨Own.fresh (fun _ => rfl) (hS.at 0 rfl) hg14 rfl rfl (by decide), (by intro z hz; cases hz)⟩
 replace hS : Sv 56 ((10, .slice (some ⟨g14, 0, none⟩) 0 0) :: (9, pt g11 0) :: (8, pt g6 0) :: (7, .string (⟨#[]⟩)) :: (6, pt g3 0) :: (5, .slice none 0 0) :: (4, pt g1 0) :: (0, .slice A len cap) :: (1, .int .u32 ((n : Nat) : Int)) :: []) [⟨g11, (m2.icells ⟨#[]⟩ dl), 37, true⟩, ⟨g6, (m2.cells sl), 30, true⟩, ⟨g3, #[.float .f64 0, .int .u64 0, .slice none 0 0, .string ⟨#[]⟩, .bool false, .bool false, .int .i64 0, .int .u64 0, .float .f64 0, .bool false, .int .i64 0, .slice none 0 0, .slice none 0 0, .int .i64 0], 37, true⟩, ⟨g1, #[.int .i64 0, .int .i64 0, .int .u64 0, .int .u64 0, .int .i64 0, .int .i64 0, .bool false, .bool false, .bool false, .pointer none, .pointer none, .slice none 0 0], 30, true⟩] (fun _ => False) w a w15 := (hS.mask [false, true, true, true, true]).pick rfl
 show Code.wp _ _ _ _ _
 refine wp_seq ?_
 refine wp_seq ?_
 refine wp_region_lit ?_
 refine sv_r (v := pt g6 11) hS (ex_fo (hS.get 8 rfl) fo_spec_Media_11 rfl) fun a hS => ?_
 refine sv_r (v := sl) hS (ex_ld (hS.get 24 rfl) lt_sl_spec_Segment (cell_of_heap (v := sl) (hS.at 1 rfl) rfl)) fun a hS => ?_
 refine sv_r (v := .int .i64 ((xs.length : Nat) : Int)) hS (ex_lenO Tryz.underlying28 (hS.get 25 rfl) hT0.own) fun a hS => ?_
 refine sv_r (v := .int .i64 0) hS ex_mc fun a hS => ?_
 refine wpList_nil ?_
 replace hS := hS.cut [27, 26, 10, 9, 8, 7, 6, 5, 4, 0, 1]
 show Code.wp _ _ _ _ _
 have hE : Ev 56 ((27, .int .i64 ((0 : Nat) : Int)) :: (26, .int .i64 ((xs.length : Nat) : Int)) :: ((10, .slice (some ⟨g14, 0, none⟩) 0 0) :: (9, pt g11 0) :: (8, pt g6 0) :: (7, .string (⟨#[]⟩)) :: (6, pt g3 0) :: (5, .slice none 0 0) :: (4, pt g1 0) :: (0, .slice A len cap) :: (1, .int .u32 ((n : Nat) : Int)) :: [])) a := hS.ev.pick rfl
 refine range_wp2 (N := 56) (n := xs.length) [10, 9, 8, 7, 6, 5, 4, 0, 1] (l0 := ((10, .slice (some ⟨g14, 0, none⟩) 0 0) :: (9, pt g11 0) :: (8, pt g6 0) :: (7, .string (⟨#[]⟩)) :: (6, pt g3 0) :: (5, .slice none 0 0) :: (4, pt g1 0) :: (0, .slice A len cap) :: (1, .int .u32 ((n : Nat) : Int)) :: [])) (fun k l w' => ∃ cl : Value, l = ((10, cl) :: (9, pt g11 0) :: (8, pt g6 0) :: (7, .string (⟨#[]⟩)) :: (6, pt g3 0) :: (5, .slice none 0 0) :: (4, pt g1 0) :: (0, .slice A len cap) :: (1, .int .u32 ((n : Nat) : Int)) :: []) ∧ ∃ (ys : List Iy) (zs : List Cz), zs.length = k ∧ ys.map Iy.s = xs.map (·.1) ∧ Cued k ys zs ∧ (∀ z ∈ zs, ∀ c, z.c = some c → CueG c) ∧ CzsAt w.heap.size cl zs w' ∧ SegsAt w4.heap.size sl xs w' ∧ IsAt w9.heap.size dl ys w' ∧ Hv [⟨g11, (m2.icells ⟨#[]⟩ dl), 37, true⟩, ⟨g6, (m2.cells sl), 30, true⟩, ⟨g3, #[.float .f64 0, .int .u64 0, .slice none 0 0, .string ⟨#[]⟩, .bool false, .bool false, .int .i64 0, .int .u64 0, .float .f64 0, .bool false, .int .i64 0, .slice none 0 0, .slice none 0 0, .int .i64 0], 37, true⟩, ⟨g1, #[.int .i64 0, .int .i64 0, .int .u64 0, .int .u64 0, .int .i64 0, .int .i64 0, .bool false, .bool false, .bool false, .pointer none, .pointer none, .slice none 0 0], 30, true⟩] (fun _ => False) w w') (by omega) hE rfl ⟨_, rfl, ys0, [], rfl, hys0, (fun j y z h => absurd h (Nat.not_lt_zero _)), (by intro z hz; cases hz), hC0, hT0, hI, hS.hv⟩ (by decide) (by decide) (by decide) ?_ ?_
 ·clear hE hS
  rintro k l a w16 hk hE ⟨cl, rfl, ys, zs, hzl, hys, hcu, hzg, hC, hT0, hI, hV⟩ Q' hQ'
  obtain ⟨p, y0, hp, hc0, hy0⟩ := (hA.old hV) k (by omega)
  have hS : Sv 56 ((27, .int .i64 ((k : Nat) : Int)) :: (26, .int .i64 ((xs.length : Nat) : Int)) :: (10, cl) :: (9, pt g11 0) :: (8, pt g6 0) :: (7, .string (⟨#[]⟩)) :: (6, pt g3 0) :: (5, .slice none 0 0) :: (4, pt g1 0) :: (0, .slice A len cap) :: (1, .int .u32 ((n : Nat) : Int)) :: []) [⟨g11, (m2.icells ⟨#[]⟩ dl), 37, true⟩, ⟨g6, (m2.cells sl), 30, true⟩, ⟨g3, #[.float .f64 0, .int .u64 0, .slice none 0 0, .string ⟨#[]⟩, .bool false, .bool false, .int .i64 0, .int .u64 0, .float .f64 0, .bool false, .int .i64 0, .slice none 0 0, .slice none 0 0, .int .i64 0], 37, true⟩, ⟨g1, #[.int .i64 0, .int .i64 0, .int .u64 0, .int .u64 0, .int .i64 0, .int .i64 0, .bool false, .bool false, .bool false, .pointer none, .pointer none, .slice none 0 0], 30, true⟩] (fun _ => False) w a w16 := hV.sv hE
  obtain ⟨yk, hyk⟩ : ∃ y, ys[k]? = some y := ⟨_, List.getElem?_eq_getElem (by have := congrArg List.length hys; simp only [List.length_map] at this; omega)⟩
  refine wp_block ?_
  refine wp_seq ?_
  refine wp_region_lit ?_
  refine sv_r (v := .int .i64 ((k : Nat) : Int)) hS (ex_mv (hS.get 27 rfl)) fun a hS => ?_
  refine sv_r (v := .int .i64 ((k : Nat) : Int)) hS (ex_as (hS.get 29 rfl)) fun a hS => ?_
  refine wpList_nil ?_
  replace hS := hS.cut [11, 27, 26, 10, 9, 8, 7, 6, 5, 4, 0, 1]
  show Code.wp _ _ _ _ _
  refine wp_seq ?_
  have hc0w := hc0
  refine wp_region_lit ?_
  refine sv_r (v := .slice A len cap) hS (ex_mv (hS.get 0 rfl)) fun a hS => ?_
  refine sv_r (v := .int .i64 ((k : Nat) : Int)) hS (ex_mv (hS.get 11 rfl)) fun a hS => ?_
  refine sv_r (v := .pointer (some (p.add (k * 1)))) hS (ex_ia (E := 23) Tryz.underlying22 Tryz.sizeOf23 (by rw [← hp]; exact hS.get 30 rfl) (hS.get 31 rfl) (by omega)) fun a hS => ?_
  refine sv_r (v := .int .u32 ((y0 : Nat) : Int)) hS (ex_ld (hS.get 32 rfl) ld_u32 (by rw [Nat.mul_one]; exact hc0w)) fun a hS => ?_
  refine sv_r (v := .int .u32 ((y0 * 40503 % 4294967296 : Nat) : Int)) hS (ei_mul (hS.get 33 rfl) rfl (by rw [IntKind.wrap_u32]; omega)) fun a hS => ?_
  refine sv_r (v := .int .u32 ((n : Nat) : Int)) hS (ex_mv (hS.get 1 rfl)) fun a hS => ?_
  refine sv_r (v := .int .u32 (((y0 * 40503 % 4294967296 + n) % 4294967296 : Nat) : Int)) hS (ei_add (hS.get 34 rfl) (hS.get 35 rfl) (by rw [IntKind.wrap_u32]; omega)) fun a hS => ?_
  have hlt := hS.lt
  have hsz := hS.size
  refine sv_call (S := fun v w' => ∃ (p : Option Addr) (k : Option Cq), v = .pointer p ∧ (∀ y, k = some y → CueG y) ∧ PtrTo 116 (k.map Cq.cells) (.pointer p) w') hS rfl rfl (by decide) (ex_call1 cf_laws_cueOf (hS.get 36 rfl)) (Calls.mono (cueOf_any ((y0 * 40503 % 4294967296 + n) % 4294967296) (by omega) _) (by rintro e w' ⟨v, h1, h2, k, h3, h4⟩; obtain ⟨p, rfl⟩ := h4.form; exact ⟨_, h1, h2, p, k, rfl, h3, h4⟩)) ?_
  rintro a vx w17 ⟨cp, ck, rfl, hck, hcp⟩ hbw17 hS
  replace hC := hC.ty (TyOnly.of_below (ts := []) hbw17) (by decide)
  replace hT0 := hT0.ty (TyOnly.of_below (ts := []) hbw17) (by decide)
  replace hI := hI.ty (TyOnly.of_below (ts := []) hbw17) (by decide)
  refine sv_r (v := .pointer cp) hS (ex_as (hS.get 37 rfl)) fun a hS => ?_
  refine wpList_nil ?_
  replace hS := hS.cut [12, 11, 27, 26, 10, 9, 8, 7, 6, 5, 4, 0, 1]
  show Code.wp _ _ _ _ _
  refine wp_seq ?_
  refine wp_region_lit ?_
  refine sv_r (v := cl) hS (ex_mv (hS.get 10 rfl)) fun a hS => ?_
  refine sv_r (v := .pointer cp) hS (ex_mv (hS.get 12 rfl)) fun a hS => ?_
  refine sv_new (T := 87) (cs := #[.pointer cp]) hS rfl rfl (by decide) (fun g => .slice (some ⟨g, 0, none⟩) 1 1) (by simp only [execOp, List.map_toArray, List.map_cons, List.map_nil, hS.get 39 rfl]; go_simp) ?_
  intro g18 a w19 hg18 hbw19 hwg18 hS
  replace hC := hC.ty (TyOnly.of_below (ts := []) hbw19) (by decide)
  replace hT0 := hT0.ty (TyOnly.of_below (ts := []) hbw19) (by decide)
  replace hI := hI.ty (TyOnly.of_below (ts := []) hbw19) (by decide)
  replace hcp := hcp.ty (TyOnly.of_below (ts := []) hbw19) (by decide)
  have hCa : AllCz zs w19 := hC.ats
  have hxg18 := hS.at 0 rfl
  replace hS : Sv 56 ((40, .slice (some ⟨g18, 0, none⟩) 1 1) :: (39, .pointer cp) :: (38, cl) :: (12, .pointer cp) :: (11, .int .i64 ((k : Nat) : Int)) :: (27, .int .i64 ((k : Nat) : Int)) :: (26, .int .i64 ((xs.length : Nat) : Int)) :: (10, cl) :: (9, pt g11 0) :: (8, pt g6 0) :: (7, .string (⟨#[]⟩)) :: (6, pt g3 0) :: (5, .slice none 0 0) :: (4, pt g1 0) :: (0, .slice A len cap) :: (1, .int .u32 ((n : Nat) : Int)) :: []) [⟨g11, (m2.icells ⟨#[]⟩ dl), 37, true⟩, ⟨g6, (m2.cells sl), 30, true⟩, ⟨g3, #[.float .f64 0, .int .u64 0, .slice none 0 0, .string ⟨#[]⟩, .bool false, .bool false, .int .i64 0, .int .u64 0, .float .f64 0, .bool false, .int .i64 0, .slice none 0 0, .slice none 0 0, .int .i64 0], 37, true⟩, ⟨g1, #[.int .i64 0, .int .i64 0, .int .u64 0, .int .u64 0, .int .i64 0, .int .i64 0, .bool false, .bool false, .bool false, .pointer none, .pointer none, .slice none 0 0], 30, true⟩] (fun _ => False) w a w19 := (hS.mask [false, true, true, true, true]).pick rfl
  refine sv_append (f := Cz.list) (L := zs) sli_sl_p_spec_Cue (by decide) (fun _ => rfl) [⟨ck, cp⟩] hS (hS.get 38 rfl) (hS.get 40 rfl) hxg18 rfl rfl (by intro z hz; rw [List.mem_singleton.1 hz]; intro u hu; rw [List.mem_singleton.1 hu]; rfl) hC.own rfl (by decide) (by omega) (by omega) ?_
  intro a cl' w20 hty hown hS
  replace hCa := hCa.ty hty (by decide)
  replace hcp := hcp.ty hty (by decide)
  replace hT0 := hT0.ty hty (by decide)
  replace hI := hI.ty hty (by decide)
  replace hC : CzsAt w.heap.size cl' (zs ++ [⟨ck, cp⟩]) w20 := ⟨hown, hCa.snoc hcp⟩
  clear hCa hown
  refine sv_r (v := cl') hS (ex_as (hS.get 41 rfl)) fun a hS => ?_
  refine wpList_nil ?_
  replace hS := hS.cut [10, 12, 11, 27, 26, 9, 8, 7, 6, 5, 4, 0, 1]
  show Code.wp _ _ _ _ _
  refine wp_region_og1 (n := 56) 5 [Asr.eq (pt g11 2), Asr.eq (dl), Asr.eq (.int .i64 ((k : Nat) : Int)), Asr.eq (.pointer cp), Asr.any (fun v w' => ∃ p n c, v = .slice p n c ∧ OneOf1 74 (ck.map Cq.icells) (.slice p n c) w')] (by kernel_rfl) (by kernel_rfl) (by kernel_rfl) (by simp) (by kernel_rfl) hS.ev.size ⟨(fun i _ _ v w w' _ ho hp => by obtain ⟨p, n, c, h1, h2⟩ := hp; exact ⟨p, n, c, h1, h2.keep (only_below0 ho)⟩), ⟨⟩⟩ ?_ ?_
  ·simp only [List.take_succ_cons, List.take_zero]
   refine ⟨?_, ?_, ?_, ?_, ?_, trivial⟩
   ·intro a wx c
    have e_9 : a.eval (.tmp 9) = pt g11 0 := c.outE (by decide +kernel) (hS.get 9 rfl)
    clear c
    exact og_val (ex_fo e_9 fo_impl_Media_2 rfl) rfl
   ·intro a wx c
    have e_42 : a.eval (.tmp 42) = pt g11 2 := c.slot 0 _ (by decide +kernel) rfl
    have hO := hS.ogc c
    clear c
    exact og_val (ex_ld e_42 lt_sl_impl_Segment (cell_of_heap (v := dl) (hO.at 0 rfl) rfl)) rfl
   ·intro a wx c
    have e_11 : a.eval (.tmp 11) = .int .i64 ((k : Nat) : Int) := c.outE (by decide +kernel) (hS.get 11 rfl)
    clear c
    exact og_val (ex_mv e_11) rfl
   ·intro a wx c
    have e_12 : a.eval (.tmp 12) = .pointer cp := c.outE (by decide +kernel) (hS.get 12 rfl)
    clear c
    exact og_val (ex_mv e_12) rfl
   ·intro a wx c
    have e_45 : a.eval (.tmp 45) = .pointer cp := c.slot 3 _ (by decide +kernel) rfl
    have hO := hS.ogc c
    have hbx := drew_below c.only
    clear c
    exact og_call (ex_call1 cf_laws_toCues e_45) (Calls.mono (toCues_any ck hck _ wx (hcp.keep hbx)) (by rintro e w' ⟨v', h1, h2, h3⟩; obtain ⟨p, n, c, rfl⟩ := h3.form; exact ⟨_, h1, h2, p, n, c, rfl, h3⟩))
  ·intro a w21 c hbw21
   replace hC := hC.ty (TyOnly.of_below (ts := []) hbw21) (by decide)
   replace hcp := hcp.ty (TyOnly.of_below (ts := []) hbw21) (by decide)
   replace hT0 := hT0.ty (TyOnly.of_below (ts := []) hbw21) (by decide)
   replace hI := hI.ty (TyOnly.of_below (ts := []) hbw21) (by decide)
   obtain ⟨vp, vn, vc, e_46, hkv⟩ : ∃ p n c, (a.eval (.tmp 46)) = .slice p n c ∧ OneOf1 74 (ck.map Cq.icells) (.slice p n c) w21 := c.slot 4 _ (by decide +kernel) rfl
   replace hS : Sv 56 ((46, .slice vp vn vc) :: (44, .int .i64 ((k : Nat) : Int)) :: (43, dl) :: (1, .int .u32 ((n : Nat) : Int)) :: (0, .slice A len cap) :: (4, pt g1 0) :: (5, .slice none 0 0) :: (6, pt g3 0) :: (7, .string (⟨#[]⟩)) :: (8, pt g6 0) :: (9, pt g11 0) :: (26, .int .i64 ((xs.length : Nat) : Int)) :: (27, .int .i64 ((k : Nat) : Int)) :: (11, .int .i64 ((k : Nat) : Int)) :: (12, .pointer cp) :: (10, cl') :: []) [⟨g11, (m2.icells ⟨#[]⟩ dl), 37, true⟩, ⟨g6, (m2.cells sl), 30, true⟩, ⟨g3, #[.float .f64 0, .int .u64 0, .slice none 0 0, .string ⟨#[]⟩, .bool false, .bool false, .int .i64 0, .int .u64 0, .float .f64 0, .bool false, .int .i64 0, .slice none 0 0, .slice none 0 0, .int .i64 0], 37, true⟩, ⟨g1, #[.int .i64 0, .int .i64 0, .int .u64 0, .int .u64 0, .int .i64 0, .int .i64 0, .bool false, .bool false, .bool false, .pointer none, .pointer none, .slice none 0 0], 30, true⟩] (fun _ => False) w a w21 := (((((((((((((((((hS.ogh c).know (c.outE (by decide +kernel) (hS.get 10 rfl))).know (c.outE (by decide +kernel) (hS.get 12 rfl))).know (c.outE (by decide +kernel) (hS.get 11 rfl))).know (c.outE (by decide +kernel) (hS.get 27 rfl))).know (c.outE (by decide +kernel) (hS.get 26 rfl))).know (c.outE (by decide +kernel) (hS.get 9 rfl))).know (c.outE (by decide +kernel) (hS.get 8 rfl))).know (c.outE (by decide +kernel) (hS.get 7 rfl))).know (c.outE (by decide +kernel) (hS.get 6 rfl))).know (c.outE (by decide +kernel) (hS.get 5 rfl))).know (c.outE (by decide +kernel) (hS.get 4 rfl))).know (c.outE (by decide +kernel) (hS.get 0 rfl))).know (c.outE (by decide +kernel) (hS.get 1 rfl))).know (c.slot 1 _ (by decide +kernel) rfl)).know (c.slot 2 _ (by decide +kernel) rfl)).know e_46)
   clear c
   simp only [List.drop_succ_cons, List.drop_zero]
   obtain ⟨gR, capR, curR, hsvd, hBR, hhR, _, _⟩ := hI.own.form (fun e => by rw [e] at hyk; cases hyk)
   have hyl : k < ys.length := (List.getElem?_eq_some_iff.1 hyk).1
   refine sv_r (v := pt gR (k * 11)) hS (ex_iaR Tryz.underlying33 Tryz.sizeOf55 (by rw [← hsvd]; exact hS.get 43 rfl) (hS.get 44 rfl) hyl) fun a hS => ?_
   refine sv_r (v := pt gR (k * 11 + 8)) hS (ex_fo (hS.get 47 rfl) fo_impl_Segment_8 rfl) fun a hS => ?_
   refine ev_sc hS.ev (su_sl_impl_Cue _ _ _) (hS.get 48 rfl) (hS.get 46 rfl) hhR (Array.getElem?_eq_some_iff.1 (curI_at hI.own hsvd hhR hyk)).1 ?_
   intro w22 hgN honly
   have htyN : TyOnly [55] w21 w22 := .of_set honly hhR
   have hym := hI.ats yk (List.mem_of_getElem? hyk)
   have hIn : IsAt w9.heap.size dl (ys.set k { yk with c := ck, cv := .slice vp vn vc }) w22 := hI.set hsvd hyk rfl hhR hgN htyN ⟨(hym.ty htyN (by decide)).k, (hym.ty htyN (by decide)).m, hkv.ty htyN (by decide)⟩
   replace hC := hC.ty htyN (by decide)
   replace hT0 := hT0.ty htyN (by decide)
   have hS' := hS.go honly (by intro b hb e; have h8 := hS.hp b hb; rw [e, hhR] at h8; simp only [List.mem_cons, List.not_mem_nil, or_false] at hb; rcases hb with rfl | rfl | rfl | rfl <;> (injection h8 with h8; injection h8 with _ h7 _; exact absurd (show (_ : Nat) = _ from h7) (by dsimp only; decide))) (fun g e hlt => by subst e; omega)
   replace hS : Sv 56 ((48, pt gR (k * 11 + 8)) :: (47, pt gR (k * 11)) :: (46, .slice vp vn vc) :: (44, .int .i64 ((k : Nat) : Int)) :: (43, dl) :: (1, .int .u32 ((n : Nat) : Int)) :: (0, .slice A len cap) :: (4, pt g1 0) :: (5, .slice none 0 0) :: (6, pt g3 0) :: (7, .string (⟨#[]⟩)) :: (8, pt g6 0) :: (9, pt g11 0) :: (26, .int .i64 ((xs.length : Nat) : Int)) :: (27, .int .i64 ((k : Nat) : Int)) :: (11, .int .i64 ((k : Nat) : Int)) :: (12, .pointer cp) :: (10, cl') :: []) [⟨g11, (m2.icells ⟨#[]⟩ dl), 37, true⟩, ⟨g6, (m2.cells sl), 30, true⟩, ⟨g3, #[.float .f64 0, .int .u64 0, .slice none 0 0, .string ⟨#[]⟩, .bool false, .bool false, .int .i64 0, .int .u64 0, .float .f64 0, .bool false, .int .i64 0, .slice none 0 0, .slice none 0 0, .int .i64 0], 37, true⟩, ⟨g1, #[.int .i64 0, .int .i64 0, .int .u64 0, .int .u64 0, .int .i64 0, .int .i64 0, .bool false, .bool false, .bool false, .pointer none, .pointer none, .slice none 0 0], 30, true⟩] (fun _ => False) w a w22 := hS'.pick rfl
   refine wpList_nil ?_
   replace hS := hS.cut [1, 0, 4, 5, 6, 7, 8, 9, 26, 27, 11, 12, 10]
   show Q' .normal a w22
   exact hQ' _ a w22 rfl (hS.ev.pick (l' := (27, .int .i64 ((k : Nat) : Int)) :: (26, .int .i64 ((xs.length : Nat) : Int)) :: ((10, cl') :: (9, pt g11 0) :: (8, pt g6 0) :: (7, .string (⟨#[]⟩)) :: (6, pt g3 0) :: (5, .slice none 0 0) :: (4, pt g1 0) :: (0, .slice A len cap) :: (1, .int .u32 ((n : Nat) : Int)) :: [])) rfl) ⟨_, rfl, ys.set k { yk with c := ck, cv := .slice vp vn vc }, zs ++ [⟨ck, cp⟩], by rw [List.length_append, hzl]; rfl, (map_set_same (f := Iy.s) (y' := { yk with c := ck, cv := .slice vp vn vc }) hyk rfl).trans hys, hcu.step hzl rfl, (by intro z hz; rcases List.mem_append.1 hz with hz | hz; exact hzg z hz; rw [List.mem_singleton.1 hz]; exact hck), hC, hT0, hIn, hS.hv⟩
 ·clear hE hS
  rintro l a w23 hE ⟨cl, rfl, ys, zs, hzl, hys, hcu, hzg, hC, hT0, hI, hV⟩
  have hS : Sv 56 ((27, .int .i64 ((xs.length : Nat) : Int)) :: (26, .int .i64 ((xs.length : Nat) : Int)) :: (10, cl) :: (9, pt g11 0) :: (8, pt g6 0) :: (7, .string (⟨#[]⟩)) :: (6, pt g3 0) :: (5, .slice none 0 0) :: (4, pt g1 0) :: (0, .slice A len cap) :: (1, .int .u32 ((n : Nat) : Int)) :: []) [⟨g11, (m2.icells ⟨#[]⟩ dl), 37, true⟩, ⟨g6, (m2.cells sl), 30, true⟩, ⟨g3, #[.float .f64 0, .int .u64 0, .slice none 0 0, .string ⟨#[]⟩, .bool false, .bool false, .int .i64 0, .int .u64 0, .float .f64 0, .bool false, .int .i64 0, .slice none 0 0, .slice none 0 0, .int .i64 0], 37, true⟩, ⟨g1, #[.int .i64 0, .int .i64 0, .int .u64 0, .int .u64 0, .int .i64 0, .int .i64 0, .bool false, .bool false, .bool false, .pointer none, .pointer none, .slice none 0 0], 30, true⟩] (fun _ => False) w a w23 := hV.sv hE
  show Code.wp _ _ _ _ _
  refine wp_seq ?_
  have hcl1 := hC.own.one'
  obtain ⟨As, hAs⟩ : ∃ As : List G2.As2, As = [G2.As2.eq (.agg (m2.cells sl)), G2.As2.eq cl, G2.As2.eq (.agg (m2.icells ⟨#[]⟩ dl)), G2.As2.eq (.agg (m2.cells sl)), G2.As2.eq cl, G2.As2.eq (.string (m2.writeC (xs.zipWith (fun x z => (x.1, Cz.c z)) zs))), G2.As2.blk g1 (m2.cells sl) 30, G2.As2.eq cl, G2.As2.blk g3 (m2.icells ⟨#[]⟩ dl) 37, G2.As2.eq (.string (m2.writeC (xs.zipWith (fun x z => (x.1, Cz.c z)) zs)))] := ⟨_, rfl⟩
  have hn46 : g1 ≠ g3 := hS.neq 3 2 rfl rfl (by decide)
  have hn84 : g6 ≠ g1 := hS.neq 1 3 rfl rfl (by decide)
  have hn86 : g6 ≠ g3 := hS.neq 1 2 rfl rfl (by decide)
  have hn94 : g11 ≠ g1 := hS.neq 0 3 rfl rfl (by decide)
  have hn96 : g11 ≠ g3 := hS.neq 0 2 rfl rfl (by decide)
  have hpw : As.Pairwise fun x y => x.ne y := by rw [hAs]; simp [G2.As2.ne, hn46]
  have hkn : ∀ A ∈ As, A.known [⟨g11, (m2.icells ⟨#[]⟩ dl), 37, true⟩, ⟨g6, (m2.cells sl), 30, true⟩, ⟨g3, #[.float .f64 0, .int .u64 0, .slice none 0 0, .string ⟨#[]⟩, .bool false, .bool false, .int .i64 0, .int .u64 0, .float .f64 0, .bool false, .int .i64 0, .slice none 0 0, .slice none 0 0, .int .i64 0], 37, true⟩, ⟨g1, #[.int .i64 0, .int .i64 0, .int .u64 0, .int .u64 0, .int .i64 0, .int .i64 0, .bool false, .bool false, .bool false, .pointer none, .pointer none, .slice none 0 0], 30, true⟩] [30, 37] := by
   intro A hA
   rw [hAs] at hA
   simp only [List.mem_cons, List.not_mem_nil, or_false] at hA
   rcases hA with rfl | rfl | rfl | rfl | rfl | rfl | rfl | rfl | rfl | rfl <;> first | trivial | exact ⟨by decide, _, List.mem_of_getElem? (i := 3) rfl, rfl, rfl, rfl⟩ | exact ⟨by decide, _, List.mem_of_getElem? (i := 2) rfl, rfl, rfl, rfl⟩
  have hf8 : ∀ A ∈ As, A.free g6 := by
   intro A hA
   rw [hAs] at hA
   simp only [List.mem_cons, List.not_mem_nil, or_false] at hA
   rcases hA with rfl | rfl | rfl | rfl | rfl | rfl | rfl | rfl | rfl | rfl <;> first | trivial | exact hn84 | exact hn86
  have hf9 : ∀ A ∈ As, A.free g11 := by
   intro A hA
   rw [hAs] at hA
   simp only [List.mem_cons, List.not_mem_nil, or_false] at hA
   rcases hA with rfl | rfl | rfl | rfl | rfl | rfl | rfl | rfl | rfl | rfl <;> first | trivial | exact hn94 | exact hn96
  refine G2.wp_region_sto2 (N := 56) As (by kernel_rfl) (by kernel_rfl) (by rw [hAs]; kernel_rfl) hS.ev.size hpw ?_ ?_
  ·refine ⟨?_, ?_, ?_, ?_, ?_, ?_, ?_, ?_, ?_, ?_, trivial⟩
   ·intro a wx c
    have e_8 : a.eval (.tmp 8) = pt g6 0 := c.outE (by decide +kernel) (hS.get 8 rfl)
    have hK := G2.sto2_keep hS c.only 1 rfl hf8
    exact G2.og_val (ex_lb ag_spec_Media e_8 hK rfl) (by rw [hAs]; rfl)
   ·intro a wx c
    have e_10 : a.eval (.tmp 10) = cl := c.outE (by decide +kernel) (hS.get 10 rfl)
    exact G2.og_val (ex_mv e_10) (by rw [hAs]; rfl)
   ·intro a wx c
    have e_9 : a.eval (.tmp 9) = pt g11 0 := c.outE (by decide +kernel) (hS.get 9 rfl)
    have hK := G2.sto2_keep hS c.only 0 rfl hf9
    exact G2.og_val (ex_lb ag_impl_Media e_9 hK rfl) (by rw [hAs]; rfl)
   ·intro a wx c
    have e_8 : a.eval (.tmp 8) = pt g6 0 := c.outE (by decide +kernel) (hS.get 8 rfl)
    have hK := G2.sto2_keep hS c.only 1 rfl hf8
    exact G2.og_val (ex_lb ag_spec_Media e_8 hK rfl) (by rw [hAs]; rfl)
   ·intro a wx c
    have e_10 : a.eval (.tmp 10) = cl := c.outE (by decide +kernel) (hS.get 10 rfl)
    exact G2.og_val (ex_mv e_10) (by rw [hAs]; rfl)
   ·intro a wx c
    have e_53 : a.eval (.tmp 53) = .agg (m2.cells sl) := by have h0 := c.slot 3 _ (by decide +kernel) rfl; rw [hAs] at h0; exact h0
    have e_54 : a.eval (.tmp 54) = cl := by have h0 := c.slot 4 _ (by decide +kernel) rfl; rw [hAs] at h0; exact h0
    have hty := G2.sto2_ty hS c.only hkn
    have hcl : Calls Tryz.prog _ _ wx (fun e w' => e = .returned (.string (m2.writeC (xs.zipWith (fun x z => (x.1, Cz.c z)) zs))) ∧ Below wx.heap.size wx w') := writeCued_any m2 hmk _ _ sl cl xs zs (by omega) hzl (fun x hx => ⟨(hxs x hx).ln, by have := (hxs x hx).uri.size; omega⟩) (fun z hz c hc => (hzg z hz c hc).ok) wx (hT0.ty hty (by decide)) (hC.ty hty (by decide))
    refine G2.og_call (ex_call2 cf_spec_Media_WriteCued e_53 e_54) (Calls.mono hcl ?_)
    rintro e w' ⟨rfl, hb⟩
    exact ⟨_, rfl, hb, by rw [hAs]; rfl⟩
   ·intro a wx c
    have e_4 : a.eval (.tmp 4) = pt g1 0 := c.outE (by decide +kernel) (hS.get 4 rfl)
    have e_50 : a.eval (.tmp 50) = .agg (m2.cells sl) := by have h0 := c.slot 0 _ (by decide +kernel) rfl; rw [hAs] at h0; exact h0
    have hK := G2.sto2_first hS c 3 rfl (by rw [hAs]; rfl) hpw
    exact G2.og_sb2 (by rw [hAs]; rfl) ag_spec_Media e_4 e_50 hK rfl rfl (m2.one hsl1)
   ·intro a wx c
    have e_51 : a.eval (.tmp 51) = cl := by have h0 := c.slot 1 _ (by decide +kernel) rfl; rw [hAs] at h0; exact h0
    exact G2.og_val (ex_as e_51) (by rw [hAs]; rfl)
   ·intro a wx c
    have e_6 : a.eval (.tmp 6) = pt g3 0 := c.outE (by decide +kernel) (hS.get 6 rfl)
    have e_52 : a.eval (.tmp 52) = .agg (m2.icells ⟨#[]⟩ dl) := by have h0 := c.slot 2 _ (by decide +kernel) rfl; rw [hAs] at h0; exact h0
    have hK := G2.sto2_first hS c 2 rfl (by rw [hAs]; rfl) hpw
    exact G2.og_sb2 (by rw [hAs]; rfl) ag_impl_Media e_6 e_52 hK rfl rfl (m2.ione ⟨#[]⟩ hdl1)
   ·intro a wx c
    have e_55 : a.eval (.tmp 55) = .string (m2.writeC (xs.zipWith (fun x z => (x.1, Cz.c z)) zs)) := by have h0 := c.slot 5 _ (by decide +kernel) rfl; rw [hAs] at h0; exact h0
    exact G2.og_val (ex_as e_55) (by rw [hAs]; rfl)
  ·intro a w24 c
   have hty := G2.sto2_ty hS c.only hkn
   have hg4 : w24.heap[g1]? = some (.cells (m2.cells sl) 30 (0, 0)) := by have h0 := c.slot 6 _ rfl; rw [hAs] at h0; exact h0
   have hg6 : w24.heap[g3]? = some (.cells (m2.icells ⟨#[]⟩ dl) 37 (0, 0)) := by have h0 := c.slot 8 _ rfl; rw [hAs] at h0; exact h0
   have e_5 : a.eval (.tmp 5) = cl := by have h0 := c.slot 7 _ rfl; rw [hAs] at h0; exact h0
   have e_7 : a.eval (.tmp 7) = .string (m2.writeC (xs.zipWith (fun x z => (x.1, Cz.c z)) zs)) := by have h0 := c.slot 9 _ rfl; rw [hAs] at h0; exact h0
   have e_4 : a.eval (.tmp 4) = pt g1 0 := c.outG (by decide +kernel) (hS.get 4 rfl)
   have e_6 : a.eval (.tmp 6) = pt g3 0 := c.outG (by decide +kernel) (hS.get 6 rfl)
   replace hS := G2.sto2_end hS c hkn
   replace hI := hI.ty hty (by decide)
   show Code.wp _ _ _ _ _
   refine wp_ret ?_
   try simp only [Exit.inBlock, Exit.then]
   exact ret_cued hS.ev rfl ag_spec_Media e_4 hg4 rfl e_5 ag_impl_Media e_6 hg6 rfl e_7 ⟨_, rfl, hS.toBelow, m2, sl, cl, dl, xs, zs, ys, rfl, hmk, hmt, by omega, hxs, hzl, hys, hcu, hzg, hsl1, hcl1, ⟨hI.own.base hwB1, hI.ats⟩⟩
theorem fnCueText_any (hlaw : WcLaw) (A : Option Addr) (len cap n : Nat) (hn : n < 4294967296) (hlen : len ≤ cap) (w : World) (hA : U32s w A len) (hT : ∀ w', Below w.heap.size w w' → PowTab w') (hFF : ∀ x : Nat, x ≤ 400 → ∀ w', Below w.heap.size w w' → Calls Tryz.prog 56 #[.float .f64 (e8 x), .int .u8 102, .int .i64 (-1), .int .i64 64] w' fun e w'' => e = .returned (.string (shorts x)) ∧ Below w'.heap.size w' w'') (hF3 : ∀ x : Nat, x < 160 → ∀ w', Below w.heap.size w w' → Calls Tryz.prog 56 #[.float .f64 (e8 x), .int .u8 102, .int .i64 3, .int .i64 32] w' fun e w'' => e = .returned (.string (secs x)) ∧ Below w'.heap.size w' w'') : Calls Tryz.prog 4 #[.slice A len cap, .int .u32 n] w fun e w' => e = .returned (.bool true) ∧ Below w.heap.size w w' := by
 by_cases h0 : 2147483647 < len
 ·refine calls_of_ev Tryz.func4 rfl (show 2 ≤ 36 from by decide) ?_
  intro a hE
  have hE : Ev 36 ((0, .slice A len cap) :: (1, .int .u32 ((n : Nat) : Int)) :: []) a := hE
  have hS : Sv 36 ((0, .slice A len cap) :: (1, .int .u32 ((n : Nat) : Int)) :: []) [] (fun _ => False) w a w := Sv.start hE _ _
  clear hE
  refine wp_seq ?_
  refine wp_region_lit ?_
  refine sv_r (v := .bool false) hS ex_ac fun a hS => ?_
  refine wpList_nil ?_
  replace hS := hS.cut [4, 0, 1]
  show Code.wp _ _ _ _ _
  refine wp_seq ?_
  refine wp_seq ?_
  refine wp_region_lit ?_
  refine sv_r (v := .slice A len cap) hS (ex_mv (hS.get 0 rfl)) fun a hS => ?_
  refine sv_r (v := .int .i64 ((len : Nat) : Int)) hS (ex_len Tryz.underlying22 (hS.get 11 rfl)) fun a hS => ?_
  refine sv_r (v := .bool true) hS (ei_gtr (hS.get 12 rfl) rfl (by rw [decide_eq_true_iff]; omega)) fun a hS => ?_
  refine wpList_nil ?_
  replace hS := hS.cut [13, 4, 0, 1]
  show Code.wp _ _ _ _ _
  refine cond_t (hS.get 13 rfl) ?_
  refine wp_seq ?_
  refine wp_region_lit ?_
  refine sv_r (v := .bool true) hS ex_ac fun a hS => ?_
  refine wpList_nil ?_
  replace hS := hS.cut [4, 13, 0, 1]
  show Code.wp _ _ _ _ _
  refine wp_ret ?_
  try simp only [Exit.inBlock, Exit.then]
  exact ret_of_ev hS.ev rfl (hS.get 4 rfl) ⟨rfl, hS.toBelow⟩
 by_cases h1 : 100 < len
 ·refine calls_of_ev Tryz.func4 rfl (show 2 ≤ 36 from by decide) ?_
  intro a hE
  have hE : Ev 36 ((0, .slice A len cap) :: (1, .int .u32 ((n : Nat) : Int)) :: []) a := hE
  have hS : Sv 36 ((0, .slice A len cap) :: (1, .int .u32 ((n : Nat) : Int)) :: []) [] (fun _ => False) w a w := Sv.start hE _ _
  clear hE
  refine wp_seq ?_
  refine wp_region_lit ?_
  refine sv_r (v := .bool false) hS ex_ac fun a hS => ?_
  refine wpList_nil ?_
  replace hS := hS.cut [4, 0, 1]
  show Code.wp _ _ _ _ _
  refine wp_seq ?_
  refine wp_seq ?_
  refine wp_region_lit ?_
  refine sv_r (v := .slice A len cap) hS (ex_mv (hS.get 0 rfl)) fun a hS => ?_
  refine sv_r (v := .int .i64 ((len : Nat) : Int)) hS (ex_len Tryz.underlying22 (hS.get 11 rfl)) fun a hS => ?_
  refine sv_r (v := .bool false) hS (ei_gtr (hS.get 12 rfl) rfl (by rw [decide_eq_false_iff_not]; omega)) fun a hS => ?_
  refine wpList_nil ?_
  replace hS := hS.cut [13, 4, 0, 1]
  show Code.wp _ _ _ _ _
  refine cond_f (hS.get 13 rfl) ?_
  refine wp_skip ?_
  show Code.wp _ _ _ _ _
  refine wp_seq ?_
  refine wp_seq ?_
  refine wp_region_lit ?_
  refine sv_r (v := .slice A len cap) hS (ex_mv (hS.get 0 rfl)) fun a hS => ?_
  refine sv_r (v := .int .i64 ((len : Nat) : Int)) hS (ex_len Tryz.underlying22 (hS.get 14 rfl)) fun a hS => ?_
  refine sv_r (v := .bool true) hS (ei_gtr (hS.get 15 rfl) rfl (by rw [decide_eq_true_iff]; omega)) fun a hS => ?_
  refine wpList_nil ?_
  replace hS := hS.cut [16, 13, 4, 0, 1]
  show Code.wp _ _ _ _ _
  refine cond_t (hS.get 16 rfl) ?_
  refine wp_seq ?_
  refine wp_region_lit ?_
  refine sv_r (v := .bool true) hS ex_ac fun a hS => ?_
  refine wpList_nil ?_
  replace hS := hS.cut [4, 16, 13, 0, 1]
  show Code.wp _ _ _ _ _
  refine wp_ret ?_
  try simp only [Exit.inBlock, Exit.then]
  exact ret_of_ev hS.ev rfl (hS.get 4 rfl) ⟨rfl, hS.toBelow⟩
 refine calls_of_ev Tryz.func4 rfl (show 2 ≤ 36 from by decide) ?_
 intro a hE
 have hE : Ev 36 ((0, .slice A len cap) :: (1, .int .u32 ((n : Nat) : Int)) :: []) a := hE
 have hS : Sv 36 ((0, .slice A len cap) :: (1, .int .u32 ((n : Nat) : Int)) :: []) [] (fun _ => False) w a w := Sv.start hE _ _
 clear hE
 refine wp_seq ?_
 refine wp_region_lit ?_
 refine sv_r (v := .bool false) hS ex_ac fun a hS => ?_
 refine wpList_nil ?_
 replace hS := hS.cut [4, 0, 1]
 show Code.wp _ _ _ _ _
 refine wp_seq ?_
 refine wp_seq ?_
 refine wp_region_lit ?_
 refine sv_r (v := .slice A len cap) hS (ex_mv (hS.get 0 rfl)) fun a hS => ?_
 refine sv_r (v := .int .i64 ((len : Nat) : Int)) hS (ex_len Tryz.underlying22 (hS.get 11 rfl)) fun a hS => ?_
 refine sv_r (v := .bool false) hS (ei_gtr (hS.get 12 rfl) rfl (by rw [decide_eq_false_iff_not]; omega)) fun a hS => ?_
 refine wpList_nil ?_
 replace hS := hS.cut [13, 4, 0, 1]
 show Code.wp _ _ _ _ _
 refine cond_f (hS.get 13 rfl) ?_
 refine wp_skip ?_
 show Code.wp _ _ _ _ _
 refine wp_seq ?_
 refine wp_seq ?_
 refine wp_region_lit ?_
 refine sv_r (v := .slice A len cap) hS (ex_mv (hS.get 0 rfl)) fun a hS => ?_
 refine sv_r (v := .int .i64 ((len : Nat) : Int)) hS (ex_len Tryz.underlying22 (hS.get 14 rfl)) fun a hS => ?_
 refine sv_r (v := .bool false) hS (ei_gtr (hS.get 15 rfl) rfl (by rw [decide_eq_false_iff_not]; omega)) fun a hS => ?_
 refine wpList_nil ?_
 replace hS := hS.cut [16, 13, 4, 0, 1]
 show Code.wp _ _ _ _ _
 refine cond_f (hS.get 16 rfl) ?_
 refine wp_skip ?_
 show Code.wp _ _ _ _ _
 refine wp_seq ?_
 refine wp_region_lit ?_
 refine sv_r (v := .slice A len cap) hS (ex_mv (hS.get 0 rfl)) fun a hS => ?_
 refine sv_r (v := .int .u32 ((n : Nat) : Int)) hS (ex_mv (hS.get 1 rfl)) fun a hS => ?_
 have hlt := hS.lt
 have hsz := hS.size
 refine sv_call (S := fun v w' => ∃ (m : Md) (sl cl dl : Value) (xs : List Sx) (zs : List Cz) (ys : List Iy), v = .tuple #[.agg (m.cells sl), cl, .agg (m.icells ⟨#[]⟩ dl), .string (m.writeC (xs.zipWith (fun x z => (x.1, Cz.c z)) zs))] ∧ MdOk m ∧ (m.typ = 0 ∨ m.typ = 2) ∧ xs.length ≤ 12 ∧ (∀ x ∈ xs, SegOk x.1) ∧ zs.length = xs.length ∧ ys.map Iy.s = xs.map (·.1) ∧ Cued xs.length ys zs ∧ (∀ z ∈ zs, ∀ c, z.c = some c → CueG c) ∧ sl.oneCell' = true ∧ cl.oneCell' = true ∧ IsAt w.heap.size dl ys w') hS rfl rfl (by decide) (ex_call2 cf_laws_cuedOf (hS.get 18 rfl) (hS.get 19 rfl)) (cuedOf_any A len cap n hn hlen w (hA.below hS.toBelow)) ?_
 rintro a vx w1 ⟨m2, sl, cl, dl, xs, zs, ys, rfl, hmk, hmt, hxl, hxs, hzl, hys, hcu, hzg, hsl1, hcl1, hI⟩ hbw1 hS
 have hdl1 := hI.own.one'
 refine sv_r (v := .tuple #[.agg (m2.cells sl), cl, .agg (m2.icells ⟨#[]⟩ dl), .string (m2.writeC (xs.zipWith (fun x z => (x.1, Cz.c z)) zs))]) hS (ex_mv (hS.get 20 rfl)) fun a hS => ?_
 refine sv_r (v := .agg (m2.cells sl)) hS (ei_ext (hS.get 17 rfl) rfl) fun a hS => ?_
 refine sv_r (v := cl) hS (ei_ext (hS.get 17 rfl) rfl) fun a hS => ?_
 refine sv_r (v := .agg (m2.icells ⟨#[]⟩ dl)) hS (ei_ext (hS.get 17 rfl) rfl) fun a hS => ?_
 refine sv_r (v := .string (m2.writeC (xs.zipWith (fun x z => (x.1, Cz.c z)) zs))) hS (ei_ext (hS.get 17 rfl) rfl) fun a hS => ?_
 refine sv_al hS al_spec_Media (by decide) ?_
 intro g2 a w3 hg2 hbw3 hwg2 hS
 replace hI := hI.ty (TyOnly.of_below (ts := []) hbw3) (by decide)
 refine sv_al hS al_impl_Media (by decide) ?_
 intro g4 a w5 hg4 hbw5 hwg4 hS
 replace hI := hI.ty (TyOnly.of_below (ts := []) hbw5) (by decide)
 refine sv_sb (i := 1) (m' := [⟨g4, #[.float .f64 0, .int .u64 0, .slice none 0 0, .string ⟨#[]⟩, .bool false, .bool false, .int .i64 0, .int .u64 0, .float .f64 0, .bool false, .int .i64 0, .slice none 0 0, .slice none 0 0, .int .i64 0], 37, true⟩, ⟨g2, (m2.cells sl), 30, true⟩]) hS ag_spec_Media (hS.get 5 rfl) (hS.get 21 rfl) rfl rfl rfl (m2.one hsl1) rfl ?_
 intro w6 hty hS
 replace hI := hI.ty hty (by decide)
 refine sv_r (v := cl) hS (ex_as (hS.get 22 rfl)) fun a hS => ?_
 refine sv_sb (i := 0) (m' := [⟨g4, (m2.icells ⟨#[]⟩ dl), 37, true⟩, ⟨g2, (m2.cells sl), 30, true⟩]) hS ag_impl_Media (hS.get 7 rfl) (hS.get 23 rfl) rfl rfl rfl (m2.ione ⟨#[]⟩ hdl1) rfl ?_
 intro w7 hty hS
 replace hI := hI.ty hty (by decide)
 refine sv_r (v := .string (m2.writeC (xs.zipWith (fun x z => (x.1, Cz.c z)) zs))) hS (ex_as (hS.get 24 rfl)) fun a hS => ?_
 refine wpList_nil ?_
 replace hS := hS.cut [8, 6, 7, 5, 16, 13, 4, 0]
 show Code.wp _ _ _ _ _
 refine wp_seq ?_
 have hbz : Below w.heap.size w w7 := hS.toBelow
 have hyl : ys.length = xs.length := by have := congrArg List.length hys; simpa using this
 have hyo : ∀ y ∈ ys, SegOk y.s ∧ ∀ c, y.c = some c → CueG c := fun y hy => ⟨by have h1 : y.s ∈ xs.map (·.1) := hys ▸ List.mem_map_of_mem hy; obtain ⟨x, hx, e⟩ := List.mem_map.1 h1; rw [← e]; exact hxs x hx, by obtain ⟨j, hj⟩ := List.mem_iff_getElem?.1 hy; have hjl := (List.getElem?_eq_some_iff.1 hj).1; obtain ⟨z, hz⟩ : ∃ z, zs[j]? = some z := ⟨_, List.getElem?_eq_getElem (by omega)⟩; intro c hc; exact hzg z (List.mem_of_getElem? hz) c (by rw [← hcu j y z (by omega) hj hz]; exact hc)⟩
 obtain ⟨hlawL, hlawE⟩ := hlaw m2 ys hmk hmt (by rw [hyl]; omega) hyo
 rw [← zip_eq hzl hys hcu] at hlawE
 refine wp_region_lit ?_
 refine sv_r (v := .agg (m2.icells ⟨#[]⟩ dl)) hS (ex_lb ag_impl_Media (hS.get 7 rfl) (hS.at 0 rfl) rfl) fun a hS => ?_
 refine sv_callv (v := .tuple #[.string ⟨(wmText m2 ⟨#[]⟩ ys).toArray⟩, .bool true]) hS rfl rfl (by decide) (ex_call2 cf_impl_WriteMedia (hS.get 26 rfl) rfl) (writeMedia_any m2 hmk ⟨#[]⟩ _ dl ys (by rw [hyl]; omega) (fun y hy => ⟨(hyo y hy).1.ln, fun c hc => ⟨((hyo y hy).2 c hc).ok, ((hyo y hy).2 c hc).tm⟩⟩) hlawL w7 hI (fun w' h => hT w' (hbz.trans (h.mono hbz.size))) (fun x hx w' h => hFF x hx w' (hbz.trans (h.mono hbz.size))) (fun x hx w' h => hF3 x hx w' (hbz.trans (h.mono hbz.size)))) ?_
 intro a w8 hbw8 hS
 replace hI := hI.ty (TyOnly.of_below (ts := []) hbw8) (by decide)
 refine sv_r (v := .tuple #[.string ⟨(wmText m2 ⟨#[]⟩ ys).toArray⟩, .bool true]) hS (ex_mv (hS.get 27 rfl)) fun a hS => ?_
 refine sv_r (v := .string ((⟨(wmText m2 ⟨#[]⟩ ys).toArray⟩ : ByteArray))) hS (ei_ext (hS.get 25 rfl) rfl) fun a hS => ?_
 refine sv_r (v := .bool true) hS (ei_ext (hS.get 25 rfl) rfl) fun a hS => ?_
 refine sv_r (v := .string ((⟨(wmText m2 ⟨#[]⟩ ys).toArray⟩ : ByteArray))) hS (ex_as (hS.get 28 rfl)) fun a hS => ?_
 refine sv_r (v := .bool true) hS (ex_as (hS.get 29 rfl)) fun a hS => ?_
 refine wpList_nil ?_
 replace hS := hS.cut [10, 9, 8, 7, 5, 16, 13, 4, 0]
 show Code.wp _ _ _ _ _
 refine wp_seq ?_
 refine wp_region_lit ?_
 refine sv_r (v := .bool true) hS (ex_mv (hS.get 10 rfl)) fun a hS => ?_
 refine sv_r (v := .bool true) hS (ex_mv (hS.get 30 rfl)) fun a hS => ?_
 refine sv_g (v := .string ((⟨(wmText m2 ⟨#[]⟩ ys).toArray⟩ : ByteArray))) hS (hS.get 31 rfl) (ex_mv (hS.get 9 rfl)) fun a hS => ?_
 refine sv_g (v := .string (m2.writeC (xs.zipWith (fun x z => (x.1, Cz.c z)) zs))) hS (hS.get 31 rfl) (ex_mv (hS.get 8 rfl)) fun a hS => ?_
 refine sv_g (v := .bool true) hS (hS.get 31 rfl) (es_eqlT (hS.get 32 rfl) (hS.get 33 rfl) hlawE) fun a hS => ?_
 refine sv_r (v := .bool true) hS (ex_pickT (hS.get 31 rfl) (hS.get 34 rfl)) fun a hS => ?_
 refine sv_r (v := .bool true) hS (ex_as (hS.get 35 rfl)) fun a hS => ?_
 refine wpList_nil ?_
 replace hS := hS.cut [4, 7, 5, 16, 13, 0]
 show Code.wp _ _ _ _ _
 refine wp_ret ?_
 try simp only [Exit.inBlock, Exit.then]
 exact ret_of_ev hS.ev rfl (hS.get 4 rfl) ⟨rfl, hS.toBelow⟩
end Go.Proofs.YtfonjeoiallhhaaGreatDoor
/- The plain law of FnCueText: what Encode writes with cues is what the reference writes. -/
namespace Go.Proofs.YtfonjeoiallhhaaGreatDoor
open Go.RowKit
def cueL : Option Cq → List UInt8 | some c => c.text.data.toList | none => []
def segTC (x : Sm × Option Cq) : List UInt8 := cueL x.2 ++ segT x.1
theorem catC_tl : ∀ (L : List (Sm × Option Cq)) (o : ByteArray), (catC o L).data.toList = o.data.toList ++ (L.map segTC).flatten
 | [], o => by simp [catC]
 | (s, none) :: L, o => by
  have e : catC o ((s, none) :: L) = catC (cat o s.lines ++ (s.uri ++ (⟨#[10]⟩ : ByteArray))) L := rfl
  rw [e, catC_tl L, tl_app, cat_tl, tl_app]
  simp [segTC, segT, cueL]
 | (s, some c) :: L, o => by
  have e : catC o ((s, some c) :: L) = catC (cat (o ++ c.text) s.lines ++ (s.uri ++ (⟨#[10]⟩ : ByteArray))) L := rfl
  rw [e, catC_tl L, tl_app, cat_tl, tl_app, tl_app]
  simp [segTC, segT, cueL]
theorem cue_eq (c : Cq) (h : CueG c) : t_cue c = c.text.data.toList := by
 obtain ⟨⟨q1, q2, q3, q4, q5, q6⟩, h2, _⟩ := h
 unfold t_cue Cq.text
 dsimp only
 by_cases a0 : c.syn = 0
 ·simp only [a0, decide_true, if_true]
  by_cases b1 : ne c.id = true <;> by_cases b2 : c.time = 0 <;> simp [b1, b2]
 ·have a1 : c.syn = 1 := by omega
  by_cases b0 : c.typ = 0
  ·have := h2 a1 b0
   simp [a1, b0, this]
  ·by_cases b1 : c.typ = 1
   ·simp [a1, b1]
   ·have b2 : c.typ = 2 := by omega
    simp [a1, b2]
theorem seg_eqC (p : Pq) (s : Sm) (c : Option Cq) (hp : p.args = ⟨#[]⟩) (hc : ∀ k, c = some k → CueG k) : (segParts p (mz s c)).flatten = segTC (s, c) := by
 have hne : ne (⟨#[]⟩ : ByteArray) = false := rfl
 unfold segTC segT
 rw [lines_eq]
 have k0 : tO t_cue c = cueL c := by
  cases c with
  | none => rfl
  | some k => exact cue_eq k (hc k rfl)
 have k1 : tO t_key s.key = ((lineO s.key.isSome (Ky.textO s.key)).map tl).flatten := by
  cases h : s.key with
  | none => rfl
  | some k => simp [tO, lineO, Ky.textO, key_eq, tl]
 have k2 : tO t_map s.map = ((lineO s.map.isSome (Mp.textO s.map)).map tl).flatten := by
  cases h : s.map with
  | none => rfl
  | some k => simp [tO, lineO, Mp.textO, map_eq, tl]
 simp only [List.map_append, List.flatten_append, segParts, mz, List.flatten_cons, List.flatten_nil, k0, k1, k2, tl_app]
 unfold t_dis t_date t_part t_r155 t_r163 t_r164 t_r165 t_r166 t_args t_r170 lineO
 simp only [hp, hne, if_true]
 cases s.disc <;> cases ne s.date <;> by_cases h : 0 < s.limit <;> simp [h, tl]
theorem text_eqC (m : Md) (ys : List Iy) (ht : m.typ = 0 ∨ m.typ = 2) (hc : ∀ y ∈ ys, ∀ c, y.c = some c → CueG c) : wmText m ⟨#[]⟩ ys = (m.writeC (ys.map fun y => (y.s, y.c))).data.toList := by
 have hsegs : ((ys.map fun y => mz y.s y.c).map fun z => (segParts (pqT m ⟨#[]⟩) z).flatten).flatten = ((ys.map fun y => (y.s, y.c)).map segTC).flatten := by
  rw [List.map_map, List.map_map]
  congr 1
  refine List.map_congr_left fun y hy => ?_
  exact seg_eqC (pqT m ⟨#[]⟩) y.s y.c rfl (hc y hy)
 unfold wmText encAll Md.writeC
 rw [enc_fold, addL_eq, List.nil_append, head_eq m ⟨#[]⟩ ht, hsegs]
 unfold t_end pqT
 dsimp only
 cases m.closed
 ·simp only [Bool.false_eq_true, if_false, List.append_nil]
  rw [catC_tl, cat_tl]
 ·simp only [if_true]
  refine Eq.symm ((tl_app _ _).trans ?_)
  rw [catC_tl, cat_tl]
theorem catC_size : ∀ {L : List (Sm × Option Cq)} {o : ByteArray}, (∀ s ∈ L, SegLn s.1 ∧ s.1.uri.size ≤ 100 ∧ ∀ c, s.2 = some c → CueOk c) → (catC o L).size ≤ o.size + L.length * 3000
 | [], o, _ => by simp [catC]
 | x :: L, o, h => by
  obtain ⟨h1, h2, h8⟩ := h x (List.mem_cons_self ..)
  obtain ⟨o1, ho1, ho2⟩ : ∃ o1 : ByteArray, catC o (x :: L) = catC (cat o1 x.1.lines ++ (x.1.uri ++ (⟨#[10]⟩ : ByteArray))) L ∧ o1.size ≤ o.size + 400 := by
   obtain ⟨s, c⟩ := x
   cases c with
   | none => exact ⟨o, rfl, by omega⟩
   | some c => exact ⟨o ++ c.text, rfl, by rw [ByteArray.size_append']; have := Cq.text_size (h8 c rfl); omega⟩
  rw [ho1]
  refine Nat.le_trans (catC_size fun s hs => h s (List.mem_cons_of_mem _ hs)) ?_
  have h3 := cat_size (o := o1) (lines_size h1)
  have h4 := lines_len x.1
  have h5 : x.1.lines.length * 400 ≤ 6 * 400 := Nat.mul_le_mul_right _ h4
  rw [ByteArray.size_append', ByteArray.size_append']
  have h6 : (⟨#[10]⟩ : ByteArray).size = 1 := rfl
  simp only [List.length_cons]
  omega

theorem writeC_size {m : Md} (hm : MdOk m) {L : List (Sm × Option Cq)} (h : ∀ s ∈ L, SegLn s.1 ∧ s.1.uri.size ≤ 100 ∧ ∀ c, s.2 = some c → CueOk c) : (m.writeC L).size ≤ 3000 + L.length * 3000 := by
 have h1 := head_size hm
 have hv := hm.version
 have h2 := dec_le (n := m.version) (by omega)
 have h3 : (cat (((⟨#[35, 69, 88, 84, 77, 51, 85, 10, 35, 69, 88, 84, 45, 88, 45, 86, 69, 82, 83, 73, 79, 78, 58]⟩ : ByteArray) ++ (dec m.version)) ++ (⟨#[10]⟩ : ByteArray)) m.head).size ≤ 2900 := by
  refine Nat.le_trans (cat_size h1.1) ?_
  have h5 : m.head.length * 400 ≤ 6 * 400 := Nat.mul_le_mul_right _ h1.2
  simp only [ByteArray.size_append', ByteArray.size_mk', List.size_toArray, List.length_cons, List.length_nil]
  omega
 have h4 := catC_size (o := cat (((⟨#[35, 69, 88, 84, 77, 51, 85, 10, 35, 69, 88, 84, 45, 88, 45, 86, 69, 82, 83, 73, 79, 78, 58]⟩ : ByteArray) ++ (dec m.version)) ++ (⟨#[10]⟩ : ByteArray)) m.head) h
 unfold Md.writeC
 dsimp only
 split
 ·rw [ByteArray.size_append']
  have h6 : (⟨#[35, 69, 88, 84, 45, 88, 45, 69, 78, 68, 76, 73, 83, 84, 10]⟩ : ByteArray).size = 15 := rfl
  omega
 ·omega
theorem wc_law : WcLaw := by
 intro m ys hm ht hl hy
 have he := text_eqC m ys ht (fun y hy' => (hy y hy').2)
 have hz := writeC_size hm (L := ys.map fun y => (y.s, y.c)) (by
  intro z hz
  obtain ⟨y, hy', rfl⟩ := List.mem_map.1 hz
  have h1 := (hy y hy').1
  have h2 := h1.uri.size
  exact ⟨h1.ln, by show y.s.uri.size ≤ 100; omega, fun c hc => ((hy y hy').2 c hc).ok⟩)
 rw [List.length_map] at hz
 have hlen : (wmText m ⟨#[]⟩ ys).length = (m.writeC (ys.map fun y => (y.s, y.c))).size := by
  rw [he]
  generalize m.writeC (ys.map fun y => (y.s, y.c)) = B
  show B.data.toList.length = B.data.size
  simp
 refine ⟨by omega, ?_⟩
 rw [he]
end Go.Proofs.YtfonjeoiallhhaaGreatDoor
