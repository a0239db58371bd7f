/- Joined: Cw, Og2. -/
import Derived.Test.YtfonjeoiallhhaaGreatDoorB25
import Derived.Test.YtfonjeoiallhhaaGreatDoorB16
/- The walk of spec.Media.WriteCued: a media playlist's text, each segment's cue ahead of its other lines. -/
set_option maxRecDepth 100000
set_option maxHeartbeats 8000000
namespace Go.Proofs.YtfonjeoiallhhaaGreatDoor
open Go.RowKit
def catC (o : ByteArray) (L : List (Sm × Option Cq)) : ByteArray := L.foldl (fun o s => cat (match s.2 with | some c => o ++ c.text | none => o) s.1.lines ++ (s.1.uri ++ (⟨#[10]⟩ : ByteArray))) o
def Md.writeC (m : Md) (L : List (Sm × Option Cq)) : ByteArray :=
 let o := catC (cat (((⟨#[35, 69, 88, 84, 77, 51, 85, 10, 35, 69, 88, 84, 45, 88, 45, 86, 69, 82, 83, 73, 79, 78, 58]⟩ : ByteArray) ++ (dec m.version)) ++ (⟨#[10]⟩ : ByteArray)) m.head) L
 if m.closed = true then o ++ (⟨#[35, 69, 88, 84, 45, 88, 45, 69, 78, 68, 76, 73, 83, 84, 10]⟩ : ByteArray) else o
theorem catC_snoc (o : ByteArray) (L : List (Sm × Option Cq)) (x : Sm × Option Cq) : catC o (L ++ [x]) = cat (match x.2 with | some c => catC o L ++ c.text | none => catC o L) x.1.lines ++ (x.1.uri ++ (⟨#[10]⟩ : ByteArray)) := by simp [catC]
theorem Cq.text_size {c : Cq} (h : CueOk c) : c.text.size ≤ 400 := by
 obtain ⟨q1, q2, q3, q4, q5, q6⟩ := h
 have hs1 := shorts_size (e := c.time) (by omega)
 have hs2 := shorts_size (e := c.elapsed) (by omega)
 unfold Cq.text
 dsimp only
 repeat' split
 all_goals (simp only [ByteArray.size_append', ByteArray.size_mk', List.size_toArray, List.length_cons, List.length_nil]; omega)
/-- A cue behind a pointer. -/
structure Cz where
 c : Option Cq
 p : Option Addr
def Cz.list (z : Cz) : List Value := [.pointer z.p]
structure CzsAt (B : Nat) (v : Value) (zs : List Cz) (w : World) : Prop where
 own : Own Cz.list 87 1 w B v zs
 ats : ∀ z ∈ zs, PtrTo 116 (z.c.map Cq.cells) (.pointer z.p) w
theorem CzsAt.ty {B : Nat} {v : Value} {zs : List Cz} {w w' : World} {ts : List TypeId} (h : CzsAt B v zs w) (hb : TyOnly ts w w') (ht : (ts.all fun u => u != 87 && u != 116) = true) : CzsAt B v zs w' := by
 rw [List.all_eq_true] at ht
 refine ⟨h.own.ty hb ?_, fun z hz => (h.ats z hz).ty hb ?_⟩
 ·rw [List.all_eq_true]; intro u hu; have := ht u hu; simp only [Bool.and_eq_true] at this; exact this.1
 ·rw [List.all_eq_true]; intro u hu; have := ht u hu; simp only [Bool.and_eq_true] at this; exact this.2


/-- The place of an element of a slice of one-cell values. -/
def ElAt (v : Value) (k : Nat) (p : Addr) : Prop := ∃ q n c, v = .slice (some q) n c ∧ k < n ∧ p = q.add (k * 1)
theorem elem_ptr {B k : Nat} {cl : Value} {zs : List Cz} {z : Cz} {w : World} (h : CzsAt B cl zs w) (hz : zs[k]? = some z) : ∃ p, ElAt cl k p ∧ w.cell? p = some (.pointer z.p) := by
 have hk : k < zs.length := (List.getElem?_eq_some_iff.1 hz).1
 obtain ⟨g, cap, cur, hv, hB, hh, _, _⟩ := h.own.form (fun e => by rw [e] at hz; cases hz)
 refine ⟨_, ⟨_, _, _, hv, hk, rfl⟩, ?_⟩
 rw [add_block]
 have ho := h.own
 rcases ho.2 with ⟨h1, _⟩ | ⟨g1, cap1, cur1, hv1, hb, hh1, hn, hm, hs, ht⟩
 ·rw [h1] at hv; cases hv
 ·rw [hv] at hv1
  injection hv1 with e1 e2 e3
  injection e1 with e1
  injection e1 with e1 _ _
  subst e1
  rw [hh] at hh1
  injection hh1 with hh1
  injection hh1 with hh1 _ _
  subst hh1
  have h4 : (cur.toList.take (zs.length * 1))[k * 1 + 0]? = some (.pointer z.p) := by
   rw [ht, flat_get (f := Cz.list) (k := 1) (fun _ => rfl) (by decide)]
   rw [show (k * 1 + 0) / 1 = k from by omega, show (k * 1 + 0) % 1 = 0 from by omega, hz]
   rfl
  rw [List.getElem?_take_of_lt (by omega)] at h4
  exact cell_of_heap (v := .pointer z.p) hh (by simpa using h4)
section
variable {a : Act} {w : World} {x y : Operand} {dst : Option Nat} {ty : TypeId} {ps : String} {af : Array Edge} {gd : Option (Nat × Bool)}
theorem ex_ele {s k : Nat} {p : Addr} {v : Value} (hp : ElAt v k p) (hs : a.eval (.tmp s) = v) (hi : a.eval x = .int .i64 (k : Int)) : (execOp a.eval ⟨dst, .indexAddr 45 (.tmp s) x, ty, ps, af, gd⟩).run Tryz.prog w = .ok (.value (.pointer (some p))) w := by
 obtain ⟨q, n, c, rfl, hk, rfl⟩ := hp
 exact ex_ia (E := 87) Tryz.underlying45 Tryz.sizeOf87 hs hi hk
theorem ex_ptrne {t : Nat} {p : Option Addr} {T' : TypeId} (hx : a.eval (.tmp t) = .pointer p) : (execOp a.eval ⟨dst, .binOp .neq 87 (.tmp t) (.const (.pointer none)) T', ty, ps, af, gd⟩).run Tryz.prog w = .ok (.value (.bool p.isSome)) w := by
 cases p with
 | none => exact ex_pne eqp_p_spec_Cue hx
 | some p => exact ex_pne eqp_p_spec_Cue hx
end
theorem writeCued_any (m : Md) (hm : MdOk m) (B0 B1 : Nat) (sl cl : Value) (xs : List Sx) (zs : List Cz) (hxl : xs.length ≤ 12) (hzl : zs.length = xs.length) (hxs : ∀ x ∈ xs, SegLn x.1 ∧ x.1.uri.size ≤ 100) (hzs : ∀ z ∈ zs, ∀ c, z.c = some c → CueOk c) (w : World) (hT : SegsAt B0 sl xs w) (hC : CzsAt B1 cl zs w) : Calls Tryz.prog 29 #[.agg (m.cells sl), cl] w fun e w' => e = .returned (.string (m.writeC (xs.zipWith (fun x z => (x.1, Cz.c z)) zs))) ∧ Below w.heap.size w w' := by
 have hv := hm.version
 have hdv := dec_le (n := m.version) (by omega)
 obtain ⟨hhs, hhl⟩ := head_size hm
 have hsl1 := hT.own.one'
 have hcl1 := hC.own.one'
 obtain ⟨sA, sc, hsv, _⟩ := hT.own.shape
 refine calls_of_ev Tryz.func29 rfl (show 2 ≤ 79 from by decide) ?_
 intro a hE
 have hE : Ev 79 ((0, .agg (m.cells sl)) :: (1, cl) :: []) a := hE
 have hS : Sv 79 ((0, .agg (m.cells sl)) :: (1, cl) :: []) [] (fun _ => False) w a w := Sv.start hE _ _
 clear hE
 refine wp_seq ?_
 refine wp_region_lit ?_
 refine sv_box hS (hS.get 0 rfl) (bx_spec_Media _) (by decide) ?_
 intro g1 a w2 hg1 hbw2 hwg1 hS
 refine sv_r (v := .string (⟨#[]⟩)) hS ex_ac fun a hS => ?_
 refine wpList_nil ?_
 replace hS := hS.cut [4, 2, 1]
 show Code.wp _ _ _ _ _
 refine wp_seq ?_
 refine wp_region_lit ?_
 refine sv_r (v := pt g1 0) hS (ex_fo (hS.get 2 rfl) fo_spec_Media_0 rfl) fun a hS => ?_
 refine sv_r (v := .int .i64 ((m.version : Nat) : Int)) hS (ex_ld (hS.get 12 rfl) lt_int (cell_of_heap (v := .int .i64 ((m.version : Nat) : Int)) (hS.at 0 rfl) rfl)) fun a hS => ?_
 refine sv_r (v := .int .u64 ((m.version : Nat) : Int)) hS (ex_cv (hS.get 13 rfl) (cv_int_uint64 _ (by rw [IntKind.wrap_u64]; omega))) fun a hS => ?_
 refine sv_callq (v := .string (dec m.version)) hS rfl rfl (by decide) (ex_call1 cf_spec_Decimal (hS.get 14 rfl)) (Calls.mono (decimal_any (m.version) _ (by omega)) (by rintro e w' ⟨rfl, rfl⟩; exact ⟨rfl, rfl⟩)) ?_
 intro a hS
 refine sv_r (v := .string ((⟨#[35, 69, 88, 84, 77, 51, 85, 10, 35, 69, 88, 84, 45, 88, 45, 86, 69, 82, 83, 73, 79, 78, 58]⟩ : ByteArray) ++ dec m.version)) hS (ex_add rfl (hS.get 15 rfl) (by (try simp only [ByteArray.size_append', ByteArray.size_mk', List.size_toArray, List.length_cons, List.length_nil]); omega)) fun a hS => ?_
 refine sv_r (v := .string ((⟨#[35, 69, 88, 84, 77, 51, 85, 10, 35, 69, 88, 84, 45, 88, 45, 86, 69, 82, 83, 73, 79, 78, 58]⟩ : ByteArray) ++ dec m.version ++ (⟨#[10]⟩ : ByteArray))) hS (ex_add (hS.get 16 rfl) rfl (by (try simp only [ByteArray.size_append', ByteArray.size_mk', List.size_toArray, List.length_cons, List.length_nil]); omega)) fun a hS => ?_
 refine sv_r (v := .string ((⟨#[35, 69, 88, 84, 77, 51, 85, 10, 35, 69, 88, 84, 45, 88, 45, 86, 69, 82, 83, 73, 79, 78, 58]⟩ : ByteArray) ++ dec m.version ++ (⟨#[10]⟩ : ByteArray))) hS (ex_as (hS.get 17 rfl)) fun a hS => ?_
 refine wpList_nil ?_
 replace hS := hS.cut [5, 4, 2, 1]
 show Code.wp _ _ _ _ _
 refine wp_seq ?_
 refine wp_seq ?_
 refine wp_region_lit ?_
 refine sv_r (v := .agg (m.cells sl)) hS (ex_lb ag_spec_Media (hS.get 2 rfl) (hS.at 0 rfl) rfl) fun a hS => ?_
 have hlt := hS.lt
 have hsz := hS.size
 refine sv_call (S := fun v w' => Own strL 9 1 w' w2.heap.size v m.head) hS rfl rfl (by decide) (ex_call1 cf_spec_Media_Head (hS.get 18 rfl)) (head_any m hm sl hsl1 _) ?_
 rintro a vh w3 hoh hbw3 hS
 refine sv_r (v := .int .i64 ((m.head.length : Nat) : Int)) hS (ex_lenO Tryz.underlying84 (hS.get 19 rfl) hoh) fun a hS => ?_
 refine sv_r (v := .int .i64 0) hS ex_mc fun a hS => ?_
 refine wpList_nil ?_
 replace hS := hS.cut [21, 20, 19, 5, 4, 2, 1]
 show Code.wp _ _ _ _ _
 obtain ⟨BH, hBH⟩ : ∃ B, B = w2.heap.size := ⟨_, rfl⟩
 rw [← hBH] at hoh
 have hE : Ev 79 ((21, .int .i64 ((0 : Nat) : Int)) :: (20, .int .i64 ((m.head.length : Nat) : Int)) :: ((5, .string ((⟨#[35, 69, 88, 84, 77, 51, 85, 10, 35, 69, 88, 84, 45, 88, 45, 86, 69, 82, 83, 73, 79, 78, 58]⟩ : ByteArray) ++ dec m.version ++ (⟨#[10]⟩ : ByteArray))) :: (19, vh) :: (4, .string (⟨#[]⟩)) :: (2, pt g1 0) :: (1, cl) :: [])) a := hS.ev.pick rfl
 refine range_wp2 (N := 79) (n := m.head.length) [5, 19, 4, 2, 1] (l0 := ((5, .string ((⟨#[35, 69, 88, 84, 77, 51, 85, 10, 35, 69, 88, 84, 45, 88, 45, 86, 69, 82, 83, 73, 79, 78, 58]⟩ : ByteArray) ++ dec m.version ++ (⟨#[10]⟩ : ByteArray))) :: (19, vh) :: (4, .string (⟨#[]⟩)) :: (2, pt g1 0) :: (1, cl) :: [])) (fun k l w' => ∃ o : ByteArray, l = ((5, .string o) :: (19, vh) :: (4, .string (⟨#[]⟩)) :: (2, pt g1 0) :: (1, cl) :: []) ∧ o = cat (((⟨#[35, 69, 88, 84, 77, 51, 85, 10, 35, 69, 88, 84, 45, 88, 45, 86, 69, 82, 83, 73, 79, 78, 58]⟩ : ByteArray) ++ (dec m.version)) ++ (⟨#[10]⟩ : ByteArray)) (m.head.take k) ∧ o.size ≤ 100 + k * 400 ∧ Own strL 9 1 w' BH vh m.head ∧ Hv [⟨g1, (m.cells sl), 30, true⟩] (fun _ => False) w w') (by omega) hE rfl ⟨_, rfl, by rw [List.take_zero]; rfl, by simp only [ByteArray.size_append', ByteArray.size_mk', List.size_toArray, List.length_cons, List.length_nil]; omega, hoh, hS.hv⟩ (by decide) (by decide) (by decide) ?_ ?_
 ·clear hE hS
  rintro k l a w4 hk hE ⟨o, rfl, ho, hoz, hoh, hV⟩ Q' hQ'
  have hS : Sv 79 ((21, .int .i64 ((k : Nat) : Int)) :: (20, .int .i64 ((m.head.length : Nat) : Int)) :: (5, .string o) :: (19, vh) :: (4, .string (⟨#[]⟩)) :: (2, pt g1 0) :: (1, cl) :: []) [⟨g1, (m.cells sl), 30, true⟩] (fun _ => False) w a w4 := hV.sv hE
  obtain ⟨l, hlk⟩ : ∃ l, m.head[k]? = some l := ⟨_, List.getElem?_eq_getElem hk⟩
  have hlz := hhs l (List.mem_of_getElem? hlk)
  refine wp_block ?_
  refine wp_seq ?_
  refine wp_region_lit ?_
  refine sv_elemS Tryz.underlying84 Tryz.sizeOf9 ld_string hS hoh hlk (hS.get 19 rfl) (hS.get 21 rfl) (by decide) (by decide) ?_
  intro a px hS
  refine sv_r (v := .string l) hS (ex_as (hS.get 24 rfl)) fun a hS => ?_
  refine wpList_nil ?_
  replace hS := hS.cut [7, 21, 20, 5, 19, 4, 2, 1]
  show Code.wp _ _ _ _ _
  refine wp_region_lit ?_
  refine sv_r (v := .string o) hS (ex_mv (hS.get 5 rfl)) fun a hS => ?_
  refine sv_r (v := .string l) hS (ex_mv (hS.get 7 rfl)) fun a hS => ?_
  refine sv_r (v := .string (o ++ l)) hS (ex_add (hS.get 25 rfl) (hS.get 26 rfl) (by (try simp only [ByteArray.size_append', ByteArray.size_mk', List.size_toArray, List.length_cons, List.length_nil]); omega)) fun a hS => ?_
  refine sv_r (v := .string (o ++ l)) hS (ex_as (hS.get 27 rfl)) fun a hS => ?_
  refine wpList_nil ?_
  replace hS := hS.cut [5, 21, 20, 19, 4, 2, 1]
  show Q' .normal a w4
  exact hQ' _ a w4 rfl (hS.ev.pick (l' := (21, .int .i64 ((k : Nat) : Int)) :: (20, .int .i64 ((m.head.length : Nat) : Int)) :: ((5, .string (o ++ l)) :: (19, vh) :: (4, .string (⟨#[]⟩)) :: (2, pt g1 0) :: (1, cl) :: [])) rfl) ⟨_, rfl, by rw [take_snoc hlk, cat_snoc, ho], by rw [ByteArray.size_append']; omega, hoh, hS.hv⟩
 ·clear hE hS
  rintro l a w5 hE ⟨o, rfl, ho, hoz, hoh, hV⟩
  have hS : Sv 79 ((21, .int .i64 ((m.head.length : Nat) : Int)) :: (20, .int .i64 ((m.head.length : Nat) : Int)) :: (5, .string o) :: (19, vh) :: (4, .string (⟨#[]⟩)) :: (2, pt g1 0) :: (1, cl) :: []) [⟨g1, (m.cells sl), 30, true⟩] (fun _ => False) w a w5 := hV.sv hE
  rw [List.take_length] at ho
  clear hoh
  show Code.wp _ _ _ _ _
  refine wp_seq ?_
  refine wp_seq ?_
  have hTw : SegsAt B0 sl xs w5 := hT.ty (TyOnly.of_below (ts := []) hS.toBelow) (by decide)
  refine wp_region_lit ?_
  refine sv_r (v := pt g1 11) hS (ex_fo (hS.get 2 rfl) fo_spec_Media_11 rfl) fun a hS => ?_
  refine sv_r (v := sl) hS (ex_ld (hS.get 29 rfl) lt_sl_spec_Segment (cell_of_heap (v := sl) (hS.at 0 rfl) rfl)) fun a hS => ?_
  refine sv_r (v := .int .i64 ((xs.length : Nat) : Int)) hS (ex_lenO Tryz.underlying28 (hS.get 30 rfl) hTw.own) fun a hS => ?_
  refine sv_r (v := .int .i64 0) hS ex_mc fun a hS => ?_
  refine wpList_nil ?_
  replace hS := hS.cut [32, 31, 30, 21, 20, 5, 19, 4, 2, 1]
  clear hTw
  show Code.wp _ _ _ _ _
  have hE : Ev 79 ((32, .int .i64 ((0 : Nat) : Int)) :: (31, .int .i64 ((xs.length : Nat) : Int)) :: ((5, .string o) :: (30, sl) :: (21, .int .i64 ((m.head.length : Nat) : Int)) :: (20, .int .i64 ((m.head.length : Nat) : Int)) :: (19, vh) :: (4, .string (⟨#[]⟩)) :: (2, pt g1 0) :: (1, cl) :: [])) a := hS.ev.pick rfl
  refine range_wp2 (N := 79) (n := xs.length) [5, 30, 21, 20, 19, 4, 2, 1] (l0 := ((5, .string o) :: (30, sl) :: (21, .int .i64 ((m.head.length : Nat) : Int)) :: (20, .int .i64 ((m.head.length : Nat) : Int)) :: (19, vh) :: (4, .string (⟨#[]⟩)) :: (2, pt g1 0) :: (1, cl) :: [])) (fun k l w' => ∃ o : ByteArray, l = ((5, .string o) :: (30, sl) :: (21, .int .i64 ((m.head.length : Nat) : Int)) :: (20, .int .i64 ((m.head.length : Nat) : Int)) :: (19, vh) :: (4, .string (⟨#[]⟩)) :: (2, pt g1 0) :: (1, cl) :: []) ∧ o = catC (cat (((⟨#[35, 69, 88, 84, 77, 51, 85, 10, 35, 69, 88, 84, 45, 88, 45, 86, 69, 82, 83, 73, 79, 78, 58]⟩ : ByteArray) ++ (dec m.version)) ++ (⟨#[10]⟩ : ByteArray)) m.head) ((xs.zipWith (fun x z => (x.1, Cz.c z)) zs).take k) ∧ o.size ≤ 3000 + k * 4000 ∧ Hv [⟨g1, (m.cells sl), 30, true⟩] (fun _ => False) w w') (by omega) hE rfl ⟨_, rfl, by rw [List.take_zero, ho]; rfl, by omega, hS.hv⟩ (by decide) (by decide) (by decide) ?_ ?_
  ·clear hE hS
   rintro k l a w6 hk hE ⟨o, rfl, ho, hoz, hV⟩ Q' hQ'
   have hS : Sv 79 ((32, .int .i64 ((k : Nat) : Int)) :: (31, .int .i64 ((xs.length : Nat) : Int)) :: (5, .string o) :: (30, sl) :: (21, .int .i64 ((m.head.length : Nat) : Int)) :: (20, .int .i64 ((m.head.length : Nat) : Int)) :: (19, vh) :: (4, .string (⟨#[]⟩)) :: (2, pt g1 0) :: (1, cl) :: []) [⟨g1, (m.cells sl), 30, true⟩] (fun _ => False) w a w6 := hV.sv hE
   obtain ⟨x, hxk⟩ : ∃ x, xs[k]? = some x := ⟨_, List.getElem?_eq_getElem hk⟩
   have hxm := List.mem_of_getElem? hxk
   obtain ⟨hxn, hxu⟩ := hxs x hxm
   obtain ⟨z, hzk⟩ : ∃ z, zs[k]? = some z := ⟨_, List.getElem?_eq_getElem (by omega)⟩
   have hzm := List.mem_of_getElem? hzk
   have hzo := hzs z hzm
   have hll := lines_len x.1
   have hlz := lines_size hxn
   have hmk : (xs.zipWith (fun x z => (x.1, Cz.c z)) zs)[k]? = some (x.1, z.c) := by rw [List.getElem?_zipWith, hxk, hzk]
   refine wp_block ?_
   refine wp_seq ?_
   refine wp_region_lit ?_
   refine sv_r (v := .int .i64 ((k : Nat) : Int)) hS (ex_mv (hS.get 32 rfl)) fun a hS => ?_
   have hTw : SegsAt B0 sl xs w6 := hT.ty (TyOnly.of_below (ts := []) hS.toBelow) (by decide)
   refine sv_elem (n := k) ag_spec_Segment Tryz.underlying28 (fun _ => rfl) (by decide) hS hTw.own hxk (hS.get 30 rfl) (hS.get 32 rfl) (by decide) (by decide) ?_ rfl (by decide)
   intro a hS
   have hxA := hTw.ats x hxm
   clear hTw
   refine sv_al hS al_spec_Segment (by decide) ?_
   intro g7 a w8 hg7 hbw8 hwg7 hS
   refine sv_r (v := .int .i64 ((k : Nat) : Int)) hS (ex_as (hS.get 34 rfl)) fun a hS => ?_
   refine sv_sb (i := 0) (m' := [⟨g7, x.cells, 40, true⟩, ⟨g1, (m.cells sl), 30, true⟩]) hS ag_spec_Segment (hS.get 9 rfl) (hS.get 36 rfl) rfl rfl rfl hxA.one rfl ?_
   intro w9 hty hS
   refine wpList_nil ?_
   replace hS := hS.cut [8, 9, 32, 31, 5, 30, 21, 20, 19, 4, 2, 1]
   replace hxA : x.At w9 := (hT.ats x hxm).ty (TyOnly.of_below (ts := []) hS.toBelow) (by decide)
   show Code.wp _ _ _ _ _
   refine wp_seq ?_
   refine wp_seq ?_
   refine wp_region_lit ?_
   have hCw : CzsAt B1 cl zs w9 := hC.ty (TyOnly.of_below (ts := []) hS.toBelow) (by decide)
   refine sv_r (v := .int .i64 ((k : Nat) : Int)) hS (ex_mv (hS.get 8 rfl)) fun a hS => ?_
   refine sv_r (v := cl) hS (ex_mv (hS.get 1 rfl)) fun a hS => ?_
   refine sv_r (v := .int .i64 ((zs.length : Nat) : Int)) hS (ex_lenO Tryz.underlying45 (hS.get 38 rfl) hCw.own) fun a hS => ?_
   refine sv_r (v := .bool true) hS (ei_lss (hS.get 37 rfl) (hS.get 39 rfl) (by rw [decide_eq_true_iff]; omega)) fun a hS => ?_
   refine sv_r (v := .bool true) hS (ex_mv (hS.get 40 rfl)) fun a hS => ?_
   refine sv_g (v := cl) hS (hS.get 41 rfl) (ex_mv (hS.get 1 rfl)) fun a hS => ?_
   refine sv_g (v := .int .i64 ((k : Nat) : Int)) hS (hS.get 41 rfl) (ex_mv (hS.get 8 rfl)) fun a hS => ?_
   obtain ⟨pz, hpz, hlz2⟩ := elem_ptr hCw hzk
   refine sv_g (v := .pointer (some pz)) hS (hS.get 41 rfl) (ex_ele hpz (hS.get 42 rfl) (hS.get 43 rfl)) fun a hS => ?_
   refine sv_g (v := .pointer z.p) hS (hS.get 41 rfl) (ex_ld (hS.get 44 rfl) lt_p_spec_Cue hlz2) fun a hS => ?_
   refine sv_g (v := .bool z.p.isSome) hS (hS.get 41 rfl) (ex_ptrne (hS.get 45 rfl)) fun a hS => ?_
   refine sv_r (v := .bool z.p.isSome) hS (ex_pickT (hS.get 41 rfl) (hS.get 46 rfl)) fun a hS => ?_
   refine wpList_nil ?_
   replace hS := hS.cut [47, 8, 9, 32, 31, 5, 30, 21, 20, 19, 4, 2, 1]
   have hzA := hCw.ats z hzm
   clear hCw
   show Code.wp _ _ _ _ _
   refine if_join (fun a w' => ∃ oq : ByteArray, oq = (match z.c with | some c => o ++ c.text | none => o) ∧ oq.size ≤ o.size + 400 ∧ Sv 79 ((5, .string oq) :: (8, .int .i64 ((k : Nat) : Int)) :: (9, pt g7 0) :: (32, .int .i64 ((k : Nat) : Int)) :: (31, .int .i64 ((xs.length : Nat) : Int)) :: (30, sl) :: (21, .int .i64 ((m.head.length : Nat) : Int)) :: (20, .int .i64 ((m.head.length : Nat) : Int)) :: (19, vh) :: (4, .string (⟨#[]⟩)) :: (2, pt g1 0) :: (1, cl) :: []) [⟨g7, x.cells, 40, true⟩, ⟨g1, (m.cells sl), 30, true⟩] (fun _ => False) w a w') (hS.get 47 rfl) ?_ ?_ ?_
   ·intro hb Q' hQ'
    rcases hzA with ⟨_, h2⟩ | ⟨gc, cs, h1, h2, h3⟩
    ·injection h2 with h2; rw [h2] at hb; cases hb
    rw [Option.map_eq_some_iff] at h1
    obtain ⟨c, hcc, rfl⟩ := h1
    injection h2 with h2
    have hco := hzo c hcc
    have hct := Cq.text_size hco
    have hne : ∀ b ∈ ([⟨g7, x.cells, 40, true⟩, ⟨g1, (m.cells sl), 30, true⟩] : List Bk), b.g ≠ gc := hS.neT h3 rfl
    replace hS : Sv 79 ((47, .bool ((z.p.isSome))) :: (8, .int .i64 ((k : Nat) : Int)) :: (9, pt g7 0) :: (32, .int .i64 ((k : Nat) : Int)) :: (31, .int .i64 ((xs.length : Nat) : Int)) :: (5, .string o) :: (30, sl) :: (21, .int .i64 ((m.head.length : Nat) : Int)) :: (20, .int .i64 ((m.head.length : Nat) : Int)) :: (19, vh) :: (4, .string (⟨#[]⟩)) :: (2, pt g1 0) :: (1, cl) :: []) [⟨gc, (c.cells), 116, false⟩, ⟨g7, x.cells, 40, true⟩, ⟨g1, (m.cells sl), 30, true⟩] (fun _ => False) w a w9 := (hS.addR h3 hne).pick rfl
    refine wp_region_lit ?_
    have hCw : CzsAt B1 cl zs w9 := hC.ty (TyOnly.of_below (ts := []) hS.toBelow) (by decide)
    refine sv_r (v := .string o) hS (ex_mv (hS.get 5 rfl)) fun a hS => ?_
    refine sv_r (v := cl) hS (ex_mv (hS.get 1 rfl)) fun a hS => ?_
    refine sv_r (v := .int .i64 ((k : Nat) : Int)) hS (ex_mv (hS.get 8 rfl)) fun a hS => ?_
    obtain ⟨pz, hpz, hlz2⟩ := elem_ptr hCw hzk
    refine sv_r (v := .pointer (some pz)) hS (ex_ele hpz (hS.get 49 rfl) (hS.get 50 rfl)) fun a hS => ?_
    refine sv_r (v := pt gc 0) hS (ex_ld (hS.get 51 rfl) lt_p_spec_Cue (by rw [h2] at hlz2; exact hlz2)) fun a hS => ?_
    clear hCw hlz2
    refine sv_r (v := pt gc 0) hS (ex_nc (hS.get 52 rfl)) fun a hS => ?_
    refine sv_r (v := .agg (c.cells)) hS (ex_lb ag_spec_Cue (hS.get 53 rfl) (hS.at 0 rfl) rfl) fun a hS => ?_
    refine sv_callv (v := .string c.text) hS rfl rfl (by decide) (ex_call1 cf_spec_Cue_Text (hS.get 54 rfl)) (cueText_any c hco _) ?_
    intro a w10 hbw10 hS
    refine sv_r (v := .string (o ++ c.text)) hS (ex_add (hS.get 48 rfl) (hS.get 55 rfl) (by (try simp only [ByteArray.size_append', ByteArray.size_mk', List.size_toArray, List.length_cons, List.length_nil]); omega)) fun a hS => ?_
    refine sv_r (v := .string (o ++ c.text)) hS (ex_as (hS.get 56 rfl)) fun a hS => ?_
    refine wpList_nil ?_
    replace hS := hS.cut [5, 47, 8, 9, 32, 31, 30, 21, 20, 19, 4, 2, 1]
    exact hQ' _ _ ⟨_, by rw [hcc], by rw [ByteArray.size_append']; omega, (hS.mask [false, true, true]).pick rfl⟩
   ·intro hb Q' hQ'
    rcases hzA with ⟨h1, _⟩ | ⟨gc, cs, _, h2, _⟩
    rotate_left
    ·injection h2 with h2; rw [h2] at hb; cases hb
    have hcn : z.c = none := by cases hc : z.c with | none => rfl | some c => rw [hc] at h1; cases h1
    refine wp_skip ?_
    exact hQ' _ _ ⟨_, by rw [hcn], by omega, hS.pick rfl⟩
   ·rintro a w11 ⟨oq, hoc, hocz, hS⟩
    clear hzA
    replace hxA : x.At w11 := (hT.ats x hxm).ty (TyOnly.of_below (ts := []) hS.toBelow) (by decide)
    show Code.wp _ _ _ _ _
    refine wp_seq ?_
    refine wp_seq ?_
    refine wp_region_lit ?_
    refine sv_r (v := .agg x.cells) hS (ex_lb ag_spec_Segment (hS.get 9 rfl) (hS.at 0 rfl) rfl) fun a hS => ?_
    have hlt := hS.lt
    have hsz := hS.size
    refine sv_call (S := fun v w' => Own strL 9 1 w' w11.heap.size v x.1.lines) hS rfl rfl (by decide) (ex_call1 cf_spec_Segment_Lines (hS.get 57 rfl)) (lines_any x hxn _ hxA) ?_
    rintro a vl w12 hol hbw12 hS
    refine sv_r (v := .int .i64 ((x.1.lines.length : Nat) : Int)) hS (ex_lenO Tryz.underlying84 (hS.get 58 rfl) hol) fun a hS => ?_
    refine sv_r (v := .int .i64 0) hS ex_mc fun a hS => ?_
    refine wpList_nil ?_
    replace hS := hS.cut [60, 59, 58, 5, 8, 9, 32, 31, 30, 21, 20, 19, 4, 2, 1]
    show Code.wp _ _ _ _ _
    obtain ⟨BL, hBL⟩ : ∃ B, B = w11.heap.size := ⟨_, rfl⟩
    rw [← hBL] at hol
    have hE : Ev 79 ((60, .int .i64 ((0 : Nat) : Int)) :: (59, .int .i64 ((x.1.lines.length : Nat) : Int)) :: ((5, .string oq) :: (58, vl) :: (8, .int .i64 ((k : Nat) : Int)) :: (9, pt g7 0) :: (32, .int .i64 ((k : Nat) : Int)) :: (31, .int .i64 ((xs.length : Nat) : Int)) :: (30, sl) :: (21, .int .i64 ((m.head.length : Nat) : Int)) :: (20, .int .i64 ((m.head.length : Nat) : Int)) :: (19, vh) :: (4, .string (⟨#[]⟩)) :: (2, pt g1 0) :: (1, cl) :: [])) a := hS.ev.pick rfl
    refine range_wp2 (N := 79) (n := x.1.lines.length) [5, 58, 8, 9, 32, 31, 30, 21, 20, 19, 4, 2, 1] (l0 := ((5, .string oq) :: (58, vl) :: (8, .int .i64 ((k : Nat) : Int)) :: (9, pt g7 0) :: (32, .int .i64 ((k : Nat) : Int)) :: (31, .int .i64 ((xs.length : Nat) : Int)) :: (30, sl) :: (21, .int .i64 ((m.head.length : Nat) : Int)) :: (20, .int .i64 ((m.head.length : Nat) : Int)) :: (19, vh) :: (4, .string (⟨#[]⟩)) :: (2, pt g1 0) :: (1, cl) :: [])) (fun j l w' => ∃ q : ByteArray, l = ((5, .string q) :: (58, vl) :: (8, .int .i64 ((k : Nat) : Int)) :: (9, pt g7 0) :: (32, .int .i64 ((k : Nat) : Int)) :: (31, .int .i64 ((xs.length : Nat) : Int)) :: (30, sl) :: (21, .int .i64 ((m.head.length : Nat) : Int)) :: (20, .int .i64 ((m.head.length : Nat) : Int)) :: (19, vh) :: (4, .string (⟨#[]⟩)) :: (2, pt g1 0) :: (1, cl) :: []) ∧ q = cat oq (x.1.lines.take j) ∧ q.size ≤ oq.size + j * 400 ∧ Own strL 9 1 w' BL vl x.1.lines ∧ Hv [⟨g7, x.cells, 40, true⟩, ⟨g1, (m.cells sl), 30, true⟩] (fun _ => False) w w') (by omega) hE rfl ⟨_, rfl, by rw [List.take_zero]; rfl, by omega, hol, hS.hv⟩ (by decide) (by decide) (by decide) ?_ ?_
    ·clear hE hS
     rintro j l a w13 hk hE ⟨q, rfl, hq, hqz, hol, hV2⟩ Q' hQ'
     have hS : Sv 79 ((60, .int .i64 ((j : Nat) : Int)) :: (59, .int .i64 ((x.1.lines.length : Nat) : Int)) :: (5, .string q) :: (58, vl) :: (8, .int .i64 ((k : Nat) : Int)) :: (9, pt g7 0) :: (32, .int .i64 ((k : Nat) : Int)) :: (31, .int .i64 ((xs.length : Nat) : Int)) :: (30, sl) :: (21, .int .i64 ((m.head.length : Nat) : Int)) :: (20, .int .i64 ((m.head.length : Nat) : Int)) :: (19, vh) :: (4, .string (⟨#[]⟩)) :: (2, pt g1 0) :: (1, cl) :: []) [⟨g7, x.cells, 40, true⟩, ⟨g1, (m.cells sl), 30, true⟩] (fun _ => False) w a w13 := hV2.sv hE
     obtain ⟨l, hlk⟩ : ∃ l, x.1.lines[j]? = some l := ⟨_, List.getElem?_eq_getElem hk⟩
     have hlz1 := hlz l (List.mem_of_getElem? hlk)
     refine wp_block ?_
     refine wp_seq ?_
     refine wp_region_lit ?_
     refine sv_elemS Tryz.underlying84 Tryz.sizeOf9 ld_string hS hol hlk (hS.get 58 rfl) (hS.get 60 rfl) (by decide) (by decide) ?_
     intro a px hS
     refine sv_r (v := .string l) hS (ex_as (hS.get 63 rfl)) fun a hS => ?_
     refine wpList_nil ?_
     replace hS := hS.cut [11, 60, 59, 5, 58, 8, 9, 32, 31, 30, 21, 20, 19, 4, 2, 1]
     show Code.wp _ _ _ _ _
     refine wp_region_lit ?_
     refine sv_r (v := .string q) hS (ex_mv (hS.get 5 rfl)) fun a hS => ?_
     refine sv_r (v := .string l) hS (ex_mv (hS.get 11 rfl)) fun a hS => ?_
     refine sv_r (v := .string (q ++ l)) hS (ex_add (hS.get 64 rfl) (hS.get 65 rfl) (by (try simp only [ByteArray.size_append', ByteArray.size_mk', List.size_toArray, List.length_cons, List.length_nil]); omega)) fun a hS => ?_
     refine sv_r (v := .string (q ++ l)) hS (ex_as (hS.get 66 rfl)) fun a hS => ?_
     refine wpList_nil ?_
     replace hS := hS.cut [5, 60, 59, 58, 8, 9, 32, 31, 30, 21, 20, 19, 4, 2, 1]
     show Q' .normal a w13
     exact hQ' _ a w13 rfl (hS.ev.pick (l' := (60, .int .i64 ((j : Nat) : Int)) :: (59, .int .i64 ((x.1.lines.length : Nat) : Int)) :: ((5, .string (q ++ l)) :: (58, vl) :: (8, .int .i64 ((k : Nat) : Int)) :: (9, pt g7 0) :: (32, .int .i64 ((k : Nat) : Int)) :: (31, .int .i64 ((xs.length : Nat) : Int)) :: (30, sl) :: (21, .int .i64 ((m.head.length : Nat) : Int)) :: (20, .int .i64 ((m.head.length : Nat) : Int)) :: (19, vh) :: (4, .string (⟨#[]⟩)) :: (2, pt g1 0) :: (1, cl) :: [])) rfl) ⟨_, rfl, by rw [take_snoc hlk, cat_snoc, hq], by rw [ByteArray.size_append']; omega, hol, hS.hv⟩
    ·clear hE hS
     rintro l a w14 hE ⟨q, rfl, hq, hqz, hol, hV2⟩
     have hS : Sv 79 ((60, .int .i64 ((x.1.lines.length : Nat) : Int)) :: (59, .int .i64 ((x.1.lines.length : Nat) : Int)) :: (5, .string q) :: (58, vl) :: (8, .int .i64 ((k : Nat) : Int)) :: (9, pt g7 0) :: (32, .int .i64 ((k : Nat) : Int)) :: (31, .int .i64 ((xs.length : Nat) : Int)) :: (30, sl) :: (21, .int .i64 ((m.head.length : Nat) : Int)) :: (20, .int .i64 ((m.head.length : Nat) : Int)) :: (19, vh) :: (4, .string (⟨#[]⟩)) :: (2, pt g1 0) :: (1, cl) :: []) [⟨g7, x.cells, 40, true⟩, ⟨g1, (m.cells sl), 30, true⟩] (fun _ => False) w a w14 := hV2.sv hE
     rw [List.take_length] at hq
     show Code.wp _ _ _ _ _
     refine wp_region_lit ?_
     refine sv_r (v := .string q) hS (ex_mv (hS.get 5 rfl)) fun a hS => ?_
     refine sv_r (v := pt g7 1) hS (ex_fo (hS.get 9 rfl) fo_spec_Segment_1 rfl) fun a hS => ?_
     refine sv_r (v := .string x.1.uri) hS (ex_ld (hS.get 69 rfl) lt_string (cell_of_heap (v := .string x.1.uri) (hS.at 0 rfl) rfl)) fun a hS => ?_
     refine sv_r (v := .string (x.1.uri ++ (⟨#[10]⟩ : ByteArray))) hS (ex_add (hS.get 70 rfl) rfl (by (try simp only [ByteArray.size_append', ByteArray.size_mk', List.size_toArray, List.length_cons, List.length_nil]); omega)) fun a hS => ?_
     refine sv_r (v := .string (q ++ (x.1.uri ++ (⟨#[10]⟩ : ByteArray)))) hS (ex_add (hS.get 68 rfl) (hS.get 71 rfl) (by (try simp only [ByteArray.size_append', ByteArray.size_mk', List.size_toArray, List.length_cons, List.length_nil]); omega)) fun a hS => ?_
     refine sv_r (v := .string (q ++ (x.1.uri ++ (⟨#[10]⟩ : ByteArray)))) hS (ex_as (hS.get 72 rfl)) fun a hS => ?_
     refine wpList_nil ?_
     replace hS := hS.cut [5, 60, 59, 58, 8, 9, 32, 31, 30, 21, 20, 19, 4, 2, 1]
     show Q' .normal a w14
     exact hQ' _ a w14 rfl (hS.ev.pick (l' := (32, .int .i64 ((k : Nat) : Int)) :: (31, .int .i64 ((xs.length : Nat) : Int)) :: ((5, .string (q ++ (x.1.uri ++ (⟨#[10]⟩ : ByteArray)))) :: (30, sl) :: (21, .int .i64 ((m.head.length : Nat) : Int)) :: (20, .int .i64 ((m.head.length : Nat) : Int)) :: (19, vh) :: (4, .string (⟨#[]⟩)) :: (2, pt g1 0) :: (1, cl) :: [])) rfl) ⟨_, rfl, by rw [take_snoc hmk, catC_snoc, hq, hoc, ho], by simp only [ByteArray.size_append', ByteArray.size_mk', List.size_toArray, List.length_cons, List.length_nil]; omega, (hS.mask [false, true]).hv⟩
  ·clear hE hS
   rintro l a w15 hE ⟨o, rfl, ho, hoz, hV⟩
   have hS : Sv 79 ((32, .int .i64 ((xs.length : Nat) : Int)) :: (31, .int .i64 ((xs.length : Nat) : Int)) :: (5, .string o) :: (30, sl) :: (21, .int .i64 ((m.head.length : Nat) : Int)) :: (20, .int .i64 ((m.head.length : Nat) : Int)) :: (19, vh) :: (4, .string (⟨#[]⟩)) :: (2, pt g1 0) :: (1, cl) :: []) [⟨g1, (m.cells sl), 30, true⟩] (fun _ => False) w a w15 := hV.sv hE
   have hfl : (xs.zipWith (fun x z => (x.1, Cz.c z)) zs).take xs.length = (xs.zipWith (fun x z => (x.1, Cz.c z)) zs) := List.take_of_length_le (by rw [List.length_zipWith]; omega)
   rw [hfl] at ho
   show Code.wp _ _ _ _ _
   refine wp_seq ?_
   refine wp_seq ?_
   refine wp_region_lit ?_
   refine sv_r (v := pt g1 8) hS (ex_fo (hS.get 2 rfl) fo_spec_Media_8 rfl) fun a hS => ?_
   refine sv_r (v := .bool (m.closed)) hS (ex_ld (hS.get 74 rfl) lt_bool (cell_of_heap (v := .bool (m.closed)) (hS.at 0 rfl) rfl)) fun a hS => ?_
   refine wpList_nil ?_
   replace hS := hS.cut [75, 32, 31, 5, 30, 21, 20, 19, 4, 2, 1]
   show Code.wp _ _ _ _ _
   refine if_join (fun a w' => ∃ zz : ByteArray, zz = (if (m.closed) = true then o ++ (⟨#[35, 69, 88, 84, 45, 88, 45, 69, 78, 68, 76, 73, 83, 84, 10]⟩ : ByteArray) else o) ∧ zz.size ≤ 100000 ∧ Sv 79 ((5, .string zz) :: (32, .int .i64 ((xs.length : Nat) : Int)) :: (31, .int .i64 ((xs.length : Nat) : Int)) :: (30, sl) :: (21, .int .i64 ((m.head.length : Nat) : Int)) :: (20, .int .i64 ((m.head.length : Nat) : Int)) :: (19, vh) :: (4, .string (⟨#[]⟩)) :: (2, pt g1 0) :: (1, cl) :: []) [⟨g1, (m.cells sl), 30, true⟩] (fun _ => False) w a w') (hS.get 75 rfl) ?_ ?_ ?_
   ·intro hb16 Q' hQ'
    refine wp_region_lit ?_
    refine sv_r (v := .string o) hS (ex_mv (hS.get 5 rfl)) fun a hS => ?_
    refine sv_r (v := .string (o ++ (⟨#[35, 69, 88, 84, 45, 88, 45, 69, 78, 68, 76, 73, 83, 84, 10]⟩ : ByteArray))) hS (ex_add (hS.get 76 rfl) rfl (by (try simp only [ByteArray.size_append', ByteArray.size_mk', List.size_toArray, List.length_cons, List.length_nil]); omega)) fun a hS => ?_
    refine sv_r (v := .string (o ++ (⟨#[35, 69, 88, 84, 45, 88, 45, 69, 78, 68, 76, 73, 83, 84, 10]⟩ : ByteArray))) hS (ex_as (hS.get 77 rfl)) fun a hS => ?_
    refine wpList_nil ?_
    replace hS := hS.cut [5, 75, 32, 31, 30, 21, 20, 19, 4, 2, 1]
    exact hQ' _ _ ⟨_, rfl, by rw [if_pos hb16]; (try simp only [ByteArray.size_append', ByteArray.size_mk', List.size_toArray, List.length_cons, List.length_nil]); omega, by rw [if_pos hb16]; exact hS.pick rfl⟩
   ·intro hb16 Q' hQ'
    refine wp_skip ?_
    exact hQ' _ _ ⟨_, rfl, by rw [if_neg (by rw [hb16]; decide)]; (try simp only [ByteArray.size_append', ByteArray.size_mk', List.size_toArray, List.length_cons, List.length_nil]); omega, by rw [if_neg (by rw [hb16]; decide)]; exact hS.pick rfl⟩
   ·rintro a w17 ⟨ocx, hocx, hzocx, hS⟩
    show Code.wp _ _ _ _ _
    refine wp_seq ?_
    refine wp_region_lit ?_
    refine sv_r (v := .string ocx) hS (ex_mv (hS.get 5 rfl)) fun a hS => ?_
    refine sv_r (v := .string ocx) hS (ex_as (hS.get 78 rfl)) fun a hS => ?_
    refine wpList_nil ?_
    replace hS := hS.cut [4, 5, 32, 31, 30, 21, 20, 19, 2, 1]
    show Code.wp _ _ _ _ _
    refine wp_ret ?_
    try simp only [Exit.inBlock, Exit.then]
    refine ret_of_ev hS.ev rfl (hS.get 4 rfl) ⟨?_, hS.toBelow⟩
    rw [hocx, ho]; rfl
end Go.Proofs.YtfonjeoiallhhaaGreatDoor
/- Regions that draw, with stores of whole structs into several blocks, each block once. -/
namespace Go.Proofs.YtfonjeoiallhhaaGreatDoor.G2
open Go.RowKit
/-- What is known of an operation: its value; of a store, what its block holds behind it. -/
inductive As2 where
 | eq (v : Value)
 | blk (g : Nat) (cs : Array Value) (T : TypeId)
def As2.holds : As2 → Value → World → Prop
 | .eq u, v, _ => v = u
 | .blk g cs T, _, w => w.heap[g]? = some (.cells cs T (0, 0))
def As2.ne : As2 → As2 → Prop
 | .blk g _ _, .blk g' _ _ => g ≠ g'
 | _, _ => True
def as2At (As : List As2) (i : Nat) (v : Value) (w : World) : Prop := match As[i]? with | some A => A.holds v w | none => True
def as2E (As : List As2) (i : Nat) (g' : Nat) : Prop := match As[i]? with | some (.blk g _ _) => g' = g | _ => False
def as2Fit (ops : Array Oper) (As : List As2) (N : Nat) : Bool :=
 As.length == ops.size && ops.toList.zipIdx.all fun (o, i) => (match o.dst with | some d => decide (d < N) | none => true) && (match As[i]?, o.dst with | some (.blk ..), none => true | some (.blk ..), some _ => false | some _, none => false | _, _ => true)
theorem wp_region_sto2 {P : Program} {id N : Nat} {l : List Oper} {Q : Exit → Act → World → Prop} {a0 : Act} {w : World} (As : List As2) (hm : P.follows .mixedOrders = true) (hok : ogOk l.toArray = true) (hfit : as2Fit l.toArray As N = true) (hN : a0.tmps.size = N)
  (hne : As.Pairwise fun x y => x.ne y)
  (hops : OgOps P l.toArray Q a0 w.drew (as2E As) (as2At As) 0 l)
  (hend : ∀ a1 w1, OgEnd l.toArray a0 w.drew (as2E As) (as2At As) a1 w1 → Q .normal a1 w1) : (Code.region id l.toArray true).wp P Q a0 w := by
 unfold as2Fit at hfit
 simp only [Bool.and_eq_true] at hfit
 obtain ⟨hlen, hfit1⟩ := hfit
 rw [List.all_eq_true] at hfit1
 have hone : ∀ (i : Nat) (o : Oper), l.toArray[i]? = some o → (o, i) ∈ l.toArray.toList.zipIdx := fun i o ho => by
  rw [List.mem_zipIdx_iff_getElem?]
  simpa using ho
 have hnn : ∀ (i j : Nat) (A B : As2), As[i]? = some A → As[j]? = some B → i ≠ j → A.ne B ∨ B.ne A := by
  intro i j A B hi hj hij
  obtain ⟨hi1, hi2⟩ := List.getElem?_eq_some_iff.1 hi
  obtain ⟨hj1, hj2⟩ := List.getElem?_eq_some_iff.1 hj
  rcases Nat.lt_or_ge i j with hlt | hge
  ·have := List.pairwise_iff_getElem.1 hne i j hi1 hj1 hlt
   rw [hi2, hj2] at this; exact .inl this
  ·have := List.pairwise_iff_getElem.1 hne j i hj1 hi1 (by omega)
   rw [hi2, hj2] at this; exact .inr this
 refine wp_region_ogS hm hok (as2E As) (as2At As) ?_ ?_ ?_ ?_ hend
 ·intro i o d ho hd
  have h1 := hfit1 _ (hone i o ho)
  simp only [hd, Bool.and_eq_true, decide_eq_true_eq] at h1
  rw [hN]; exact h1.1
 ·intro i o v w1 ho hd h
  have h1 := hfit1 _ (hone i o ho)
  unfold as2At at h ⊢
  simp only [hd, Bool.and_eq_true] at h1
  cases hA : As[i]? with
  | none => trivial
  | some A =>
   rw [hA] at h h1
   cases A with
   | blk g cs T => exact h
   | eq v => exact (by simpa using h1.2)
 ·intro i j u v w1 w2 h0 h1 h2 hah hji h3
  unfold as2At at h3 ⊢
  cases hj : As[j]? with
  | none => trivial
  | some B =>
   rw [hj] at h3
   cases B with
   | eq v => exact h3
   | blk g cs T =>
    have h3 : w1.heap[g]? = some (.cells cs T (0, 0)) := h3
    show w2.heap[g]? = _
    rw [h1.block g (Array.getElem?_eq_some_iff.1 h3).1 ?_]
    ·exact h3
    ·intro hg
     unfold as2E at hg
     cases hi : As[i]? with
     | none => rw [hi] at hg; exact hg
     | some A =>
      rw [hi] at hg
      cases A with
      | eq x => exact hg
      | blk g1 cs1 T1 =>
       have hg : g = g1 := hg
       rcases hnn i j _ _ hi hj (fun e => hji e.symm) with h | h
       ·exact h hg.symm
       ·exact h hg
 ·intro i o hi a1 w1 c
  have hi' : l[i]? = some o := by simpa using hi
  have := hops.get l 0 i o hi' a1 w1 (by rw [Nat.zero_add]; exact c)
  rw [Nat.zero_add] at this
  cases hg : o.guard with
  | some gw => rw [hg] at this; exact this
  | none =>
   rw [hg] at this
   dsimp only at this
   unfold wpOp
   rw [hi]
   simp only [Region.wanted, hg, if_true]
   exact .inl this
theorem og_sb2 {g i t s T k : Nat} {cs old : Array Value} {e : TypeId} {As : List As2} {ty : TypeId} {ps : String} {af : Array Edge} {a : Act} {w : World} {Q : Exit → Act → World → Prop} (hi : As[i]? = some (.blk g cs e)) (hA : Ag T k) (hx : a.eval (.tmp t) = pt g 0) (hy : a.eval (.tmp s) = .agg cs) (hg : w.heap[g]? = some (.cells old e (0, 0))) (hsz : cs.size = k) (hso : old.size = k) (h1 : ∀ u ∈ cs.toList, u.oneCell' = true) :
  (⟨none, .store T (.tmp t) (.tmp s), ty, ps, af, none⟩ : Oper).wp Tryz.prog a w (OgPost (as2E As) (as2At As) i ⟨none, .store T (.tmp t) (.tmp s), ty, ps, af, none⟩ a w) Q := by
 have hr := run_store_blk (P := Tryz.prog) (w := w) T hA.agg hA.size hg hsz hso h1
 unfold Oper.wp
 simp only [execOp, hx, hy]
 simp [Instr.storeAt, Instr.sureAddr, pt] at hr ⊢
 simp [hr, Result.andThen]
 refine ⟨undef, rfl, ⟨rfl, rfl, rfl, by simp [World.setRow], fun g' hg' hne => ?_⟩, ?_⟩
 ·have hne2 : g' ≠ g := fun e2 => hne (by unfold as2E; rw [hi]; exact e2)
  simp only [World.setRow, Array.getElem?_modify]
  rw [if_neg (fun h => hne2 h.symm)]
 ·unfold as2At
  rw [hi]
  exact setRow_heap w g old cs e (0, 0) hg
/-- A block that none of the stores turns. -/
def As2.free (x : Nat) : As2 → Prop
 | .blk g _ _ => x ≠ g
 | _ => True
def As2.known (m : List Bk) (ts : List TypeId) : As2 → Prop
 | .blk g _ T => T ∈ ts ∧ ∃ b ∈ m, b.g = g ∧ b.t = T ∧ b.o = true
 | _ => True
section
variable {N : Nat} {l : List (Nat × Value)} {m : List Bk} {M : Nat → Prop} {w00 w w1 : World} {a0 a : Act} {ops : Array Oper} {Φ : Nat → Value → World → Prop} {i : Nat} {As : List As2} {ts : List TypeId}
theorem as2E_blk {e g : Nat} (h : as2E As e g) : ∃ cs T, As[e]? = some (.blk g cs T) := by
 unfold as2E at h
 cases hA : As[e]? with
 | none => rw [hA] at h; exact h.elim
 | some A =>
  rw [hA] at h
  cases A with
  | eq v => exact h.elim
  | blk g1 cs T =>
   have h : g = g1 := h
   subst h
   exact ⟨cs, T, rfl⟩
theorem sto2_keep (h : Sv N l m M w00 a0 w) (ho : Only (fun g => ∃ e, as2E As e g) w.drew w1) {b : Bk} (k : Nat) (hk : m[k]? = some b) (hne : ∀ A ∈ As, A.free b.g) : w1.heap[b.g]? = some (.cells b.cs b.t (0, 0)) := by
 have h1 := h.at k hk
 rw [ho.block b.g (Array.getElem?_eq_some_iff.1 h1).1 (fun ⟨e, he⟩ => by
  obtain ⟨cs, T, hA⟩ := as2E_blk he
  exact hne _ (List.mem_of_getElem? hA) rfl)]
 exact h1
theorem sto2_ty (h : Sv N l m M w00 a0 w) (ho : Only (fun g => ∃ e, as2E As e g) w.drew w1) (hk : ∀ A ∈ As, A.known m ts) : TyOnly ts w w1 := by
 have ho' : Only (fun g => ∃ e, as2E As e g) w w1 := ⟨ho.os, ho.tape, ho.output, ho.size, fun g hg hne => ho.block g hg hne⟩
 refine .of_only ho' fun g cs e fr hM hg => ?_
 obtain ⟨j, hj⟩ := hM
 obtain ⟨cs1, T, hA⟩ := as2E_blk hj
 obtain ⟨ht, b, hb, hbg, hbt, _⟩ := hk _ (List.mem_of_getElem? hA)
 have h1 := h.hp b hb
 rw [hbg, hg] at h1
 injection h1 with h1
 injection h1 with _ h2 _
 rw [h2, hbt]; exact ht
theorem sto2_first (h : Sv N l m M w00 a0 w) (c : OgCtx ops a0 w.drew (as2E As) Φ i a w1) {b : Bk} (k : Nat) (hk : m[k]? = some b) {cs : Array Value} {T : TypeId} (hi : As[i]? = some (.blk b.g cs T)) (hne : As.Pairwise fun x y => x.ne y) : w1.heap[b.g]? = some (.cells b.cs b.t (0, 0)) := by
 have h1 := h.at k hk
 rw [c.block b.g (Array.getElem?_eq_some_iff.1 h1).1 (fun e he => by
  obtain ⟨cs1, T1, hA⟩ := as2E_blk he
  refine .inl (Classical.byContradiction fun hei => ?_)
  obtain ⟨hi1, hi2⟩ := List.getElem?_eq_some_iff.1 hi
  obtain ⟨hj1, hj2⟩ := List.getElem?_eq_some_iff.1 hA
  rcases Nat.lt_or_ge i e with hlt | hge
  ·have := List.pairwise_iff_getElem.1 hne i e hi1 hj1 hlt
   rw [hi2, hj2] at this; exact this rfl
  ·have := List.pairwise_iff_getElem.1 hne e i hj1 hi1 (by omega)
   rw [hi2, hj2] at this; exact this rfl)]
 exact h1
theorem OgEnd.outG {E : Nat → Nat → Prop} (c : OgEnd ops a0 w E Φ a w1) {t : Nat} {v : Value} (h : (ops.toList.all fun o => o.dst != some t) = true) (hv : a0.eval (.tmp t) = v) : a.eval (.tmp t) = v := by
 have := c.out t (fun j o ho hd => by
  rw [List.all_eq_true] at h
  have h1 := h o (by have := Array.mem_of_getElem? ho; simpa using this)
  simp [hd] at h1)
 rw [← hv]
 simp only [Act.eval, Array.getD_eq_getD_getElem?, this]
theorem sto2_end (h : Sv N l m M w00 a0 w) (c : OgEnd ops a0 w.drew (as2E As) Φ a w1) (hk : ∀ A ∈ As, A.known m ts) : Sv N [] [] M w00 a w1 := by
 refine ⟨⟨by rw [c.size]; exact h.ev.size, by rw [c.defers]; exact h.ev.defers, fun t v hv => by cases hv⟩, (by simp), List.Pairwise.nil, (by simp), ?_⟩
 refine ⟨c.only.os.trans h.only.os, c.only.tape.trans h.only.tape, c.only.output.trans h.only.output, Nat.le_trans h.only.size c.only.size, fun g hg hm => ?_⟩
 have h2 : w1.heap[g]? = w.heap[g]? := c.only.block g (Nat.lt_of_lt_of_le hg h.only.size) (fun ⟨e, he⟩ => by
  obtain ⟨cs, T, hA⟩ := as2E_blk he
  obtain ⟨_, b, hb, hbg, _, hbo⟩ := hk _ (List.mem_of_getElem? hA)
  rcases h.wr b hb hbo with h3 | h3
  ·rw [hbg] at h3; exact hm h3
  ·rw [hbg] at h3; exact absurd hg (Nat.not_lt.2 h3))
 rw [h2]
 exact h.only.block g hg hm
end
end Go.Proofs.YtfonjeoiallhhaaGreatDoor.G2
