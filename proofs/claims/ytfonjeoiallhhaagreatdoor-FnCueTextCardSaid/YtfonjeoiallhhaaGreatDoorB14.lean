/- Joined: Tk. -/
import Derived.Test.YtfonjeoiallhhaaGreatDoorB13
/- The walks of laws.toKeys, toMaps, toCues, toSegment, and of impl.keyTo, mapTo, cueTo, segmentTo: data from one form into another. -/
set_option maxRecDepth 100000
set_option maxHeartbeats 8000000
namespace Go.Proofs.YtfonjeoiallhhaaGreatDoor
open Go.RowKit
theorem cv_int_m3u8_SCTE35Syntax (n : Int) {z : Int} (h : IntKind.u64.wrap n = z) : Cv 3 118 (.int .i64 n) (.int .u64 z) := by subst h; intro w; go_simp
theorem cv_int_m3u8_SCTE35CueType (n : Int) {z : Int} (h : IntKind.u64.wrap n = z) : Cv 3 119 (.int .i64 n) (.int .u64 z) := by subst h; intro w; go_simp
/-- A cue: times in eighths of seconds. -/
structure Cq where
 syn : Nat
 typ : Nat
 cue : ByteArray
 id : ByteArray
 time : Nat
 elapsed : Nat
structure CueOk (c : Cq) : Prop where
 syn : c.syn < 2
 typ : c.typ < 3
 time : c.time ≤ 400
 elapsed : c.elapsed ≤ 400
 cue : c.cue.size ≤ 100
 id : c.id.size ≤ 100
/-- As the reference has it; as data; as the package has it. -/
def Cq.cells (c : Cq) : Array Value := #[.int .i64 (c.syn : Int), .int .i64 (c.typ : Int), .string c.cue, .string c.id, .int .i64 (c.time : Int), .int .i64 (c.elapsed : Int)]
def Cq.icells (c : Cq) : Array Value := #[.int .i64 (c.syn : Int), .int .i64 (c.typ : Int), .string c.cue, .string c.id, .float .f64 (e8 c.time), .float .f64 (e8 c.elapsed)]
def Cq.mcells (c : Cq) : Array Value := #[.int .u64 (c.syn : Int), .int .u64 (c.typ : Int), .string c.cue, .string c.id, .float .f64 (e8 c.time), .float .f64 (e8 c.elapsed)]
/-- A segment as data: its cue, the slices of its key, its head, its cue. -/
structure Iy where
 s : Sm
 c : Option Cq
 kv : Value
 mv : Value
 cv : Value
def Iy.cells (y : Iy) : Array Value := #[.int .u64 0, .string y.s.title, .string y.s.uri, .float .f64 (e8 y.s.e), .int .i64 (y.s.limit : Int), .int .i64 (y.s.offset : Int), y.kv, y.mv, y.cv, .bool y.s.disc, .string y.s.date]
def Iy.list (y : Iy) : List Value := [.int .u64 0, .string y.s.title, .string y.s.uri, .float .f64 (e8 y.s.e), .int .i64 (y.s.limit : Int), .int .i64 (y.s.offset : Int), y.kv, y.mv, y.cv, .bool y.s.disc, .string y.s.date]
structure Iy.At (y : Iy) (w : World) : Prop where
 k : OneOf1 97 (y.s.key.map Ky.cells) y.kv w
 m : OneOf1 100 (y.s.map.map Mp.cells) y.mv w
 c : OneOf1 74 (y.c.map Cq.icells) y.cv w
theorem OneOf1.one {T : TypeId} {o : Option (Array Value)} {v : Value} {w : World} (h : OneOf1 T o v w) : v.oneCell' = true := by
 rcases h with ⟨_, rfl⟩ | ⟨g, cs, _, rfl, _⟩ <;> rfl
theorem Iy.At.one {y : Iy} {w : World} (h : y.At w) : ∀ u ∈ y.cells.toList, u.oneCell' = true := by
 intro u hu
 simp only [Iy.cells, List.mem_cons, List.not_mem_nil, or_false] at hu
 rcases hu with rfl | rfl | rfl | rfl | rfl | rfl | rfl | rfl | rfl | rfl | rfl <;> first | rfl | exact h.k.one | exact h.m.one | exact h.c.one
theorem Iy.At.keep {y : Iy} {w w' : World} (h : y.At w) (hb : Below w.heap.size w w') : y.At w' := ⟨h.k.keep hb, h.m.keep hb, h.c.keep hb⟩
theorem Iy.At.ty {y : Iy} {w w' : World} {ts : List TypeId} (h : y.At w) (hb : TyOnly ts w w') (ht : (ts.all fun u => u != 97 && (u != 100 && u != 74)) = true) : y.At w' := by
 rw [List.all_eq_true] at ht
 refine ⟨h.k.ty hb ?_, h.m.ty hb ?_, h.c.ty hb ?_⟩ <;> (rw [List.all_eq_true]; intro u hu; have := ht u hu; simp only [Bool.and_eq_true] at this)
 ·exact this.1
 ·exact this.2.1
 ·exact this.2.2
/-- A segment as the package has it. -/
structure Mz where
 s : Sm
 c : Option Cq
 seq : Nat
 kp : Value
 mp : Value
 cp : Value
def Mz.cells (y : Mz) : Array Value := #[.int .u64 (y.seq : Int), .string y.s.title, .string y.s.uri, .float .f64 (e8 y.s.e), .int .i64 (y.s.limit : Int), .int .i64 (y.s.offset : Int), y.kp, y.mp, .bool y.s.disc, y.cp, .string y.s.date]
structure Mz.At (y : Mz) (w : World) : Prop where
 k : PtrTo 108 (y.s.key.map Ky.cells) y.kp w
 m : PtrTo 109 (y.s.map.map Mp.cells) y.mp w
 c : PtrTo 121 (y.c.map Cq.mcells) y.cp w
theorem Mz.At.keep {y : Mz} {w w' : World} (h : y.At w) (hb : Below w.heap.size w w') : y.At w' := ⟨h.k.keep hb, h.m.keep hb, h.c.keep hb⟩
theorem Mz.At.one {y : Mz} {w : World} (h : y.At w) : ∀ u ∈ y.cells.toList, u.oneCell' = true := by
 intro u hu
 simp only [Mz.cells, List.mem_cons, List.not_mem_nil, or_false] at hu
 rcases hu with rfl | rfl | rfl | rfl | rfl | rfl | rfl | rfl | rfl | rfl | rfl <;> first | rfl | exact h.k.one | exact h.m.one | exact h.c.one
theorem Mz.At.ty {y : Mz} {w w' : World} {ts : List TypeId} (h : y.At w) (hb : TyOnly ts w w') (ht : (ts.all fun u => u != 108 && (u != 109 && u != 121)) = true) : y.At w' := by
 rw [List.all_eq_true] at ht
 refine ⟨h.k.ty hb ?_, h.m.ty hb ?_, h.c.ty hb ?_⟩ <;> (rw [List.all_eq_true]; intro u hu; have := ht u hu; simp only [Bool.and_eq_true] at this)
 ·exact this.1
 ·exact this.2.1
 ·exact this.2.2
theorem toKeys_any (k : Option Ky) (v : Value) (w : World) (h : PtrTo 96 (k.map Ky.cells) v w) : Calls Tryz.prog 11 #[v] w fun e w' => ∃ v', e = .returned v' ∧ Below w.heap.size w w' ∧ OneOf1 97 (k.map Ky.cells) v' w' := by
 cases k with
 | none =>
  obtain ⟨_, rfl⟩ | ⟨_, _, h, _⟩ := h
  rotate_left
  ·cases h
  refine calls_of_ev Tryz.func11 rfl (show 1 ≤ 27 from by decide) ?_
  intro a hE
  have hE : Ev 27 ((0, .pointer none) :: []) a := hE
  have hS : Sv 27 ((0, .pointer none) :: []) [] (fun _ => False) w a w := Sv.start hE _ _
  clear hE
  refine wp_seq ?_
  refine wp_region_lit ?_
  refine sv_r (v := .slice none 0 0) hS ex_ac fun a hS => ?_
  refine wpList_nil ?_
  replace hS := hS.cut [2, 0]
  show Code.wp _ _ _ _ _
  refine wp_seq ?_
  refine wp_seq ?_
  refine wp_region_lit ?_
  refine sv_r (v := .pointer none) hS (ex_mv (hS.get 0 rfl)) fun a hS => ?_
  refine sv_r (v := .bool true) hS (ex_pe eqp_p_spec_Key (hS.get 3 rfl)) fun a hS => ?_
  refine wpList_nil ?_
  replace hS := hS.cut [4, 2, 0]
  show Code.wp _ _ _ _ _
  refine cond_t (hS.get 4 rfl) ?_
  refine wp_seq ?_
  refine wp_region_lit ?_
  refine sv_r (v := .slice none 0 0) hS ex_ac fun a hS => ?_
  refine wpList_nil ?_
  replace hS := hS.cut [2, 4, 0]
  show Code.wp _ _ _ _ _
  refine wp_ret ?_
  try simp only [Exit.inBlock, Exit.then]
  exact ret_of_ev hS.ev rfl (hS.get 2 rfl) ⟨_, rfl, hS.toBelow, .nil⟩
 | some k =>
  obtain ⟨h, _⟩ | ⟨g, cs, hcs, rfl, hg⟩ := h
  ·cases h
  obtain rfl := Option.some.inj hcs
  refine calls_of_ev Tryz.func11 rfl (show 1 ≤ 27 from by decide) ?_
  intro a hE
  have hE : Ev 27 ((0, pt g 0) :: []) a := hE
  have hS : Sv 27 ((0, pt g 0) :: []) [] (fun _ => False) w a w := Sv.start hE _ _
  clear hE
  replace hS : Sv 27 ((0, pt g 0) :: []) [⟨g, k.cells, 96, false⟩] (fun _ => False) w a w := hS.addR hg (by intro b hb; cases hb)
  refine wp_seq ?_
  refine wp_region_lit ?_
  refine sv_r (v := .slice none 0 0) hS ex_ac fun a hS => ?_
  refine wpList_nil ?_
  replace hS := hS.cut [2, 0]
  show Code.wp _ _ _ _ _
  refine wp_seq ?_
  refine wp_seq ?_
  refine wp_region_lit ?_
  refine sv_r (v := pt g 0) hS (ex_mv (hS.get 0 rfl)) fun a hS => ?_
  refine sv_r (v := .bool false) hS (ex_pe eqp_p_spec_Key (hS.get 3 rfl)) fun a hS => ?_
  refine wpList_nil ?_
  replace hS := hS.cut [4, 2, 0]
  show Code.wp _ _ _ _ _
  refine cond_f (hS.get 4 rfl) ?_
  refine wp_skip ?_
  show Code.wp _ _ _ _ _
  refine wp_seq ?_
  refine wp_region_og1 (n := 27) 20 [Asr.eq (pt g 0), Asr.eq (pt g 0), Asr.eq (pt g 0), Asr.eq (.string k.method), Asr.eq (pt g 0), Asr.eq (pt g 0), Asr.eq (pt g 1), Asr.eq (.string k.uri), Asr.eq (pt g 0), Asr.eq (pt g 0), Asr.eq (pt g 2), Asr.eq (.string k.iv), Asr.eq (pt g 0), Asr.eq (pt g 0), Asr.eq (pt g 3), Asr.eq (.string k.format), Asr.eq (pt g 0), Asr.eq (pt g 0), Asr.eq (pt g 4), Asr.eq (.string k.versions)] (by kernel_rfl) (by kernel_rfl) (by kernel_rfl) (by simp) (by kernel_rfl) hS.ev.size ⟨⟩ ?_ ?_
  ·simp only [List.take_succ_cons, List.take_zero]
   refine ⟨?_, ?_, ?_, ?_, ?_, ?_, ?_, ?_, ?_, ?_, ?_, ?_, ?_, ?_, ?_, ?_, ?_, ?_, ?_, ?_, trivial⟩
   ·intro a wx c
    have e_0 : a.eval (.tmp 0) = pt g 0 := c.outE (by decide +kernel) (hS.get 0 rfl)
    clear c
    exact og_val (ex_mv e_0) rfl
   ·intro a wx c
    have e_5 : a.eval (.tmp 5) = pt g 0 := c.slot 0 _ (by decide +kernel) rfl
    clear c
    exact og_val (ex_nc e_5) rfl
   ·intro a wx c
    have e_6 : a.eval (.tmp 6) = pt g 0 := c.slot 1 _ (by decide +kernel) rfl
    clear c
    exact og_val (ex_fo e_6 fo_spec_Key_0 rfl) rfl
   ·intro a wx c
    have e_7 : a.eval (.tmp 7) = pt g 0 := c.slot 2 _ (by decide +kernel) rfl
    have hO := hS.ogc c
    clear c
    exact og_val (ex_ld e_7 lt_string (cell_of_heap (v := .string k.method) (hO.at 0 rfl) rfl)) rfl
   ·intro a wx c
    have e_0 : a.eval (.tmp 0) = pt g 0 := c.outE (by decide +kernel) (hS.get 0 rfl)
    clear c
    exact og_val (ex_mv e_0) rfl
   ·intro a wx c
    have e_9 : a.eval (.tmp 9) = pt g 0 := c.slot 4 _ (by decide +kernel) rfl
    clear c
    exact og_val (ex_nc e_9) rfl
   ·intro a wx c
    have e_10 : a.eval (.tmp 10) = pt g 0 := c.slot 5 _ (by decide +kernel) rfl
    clear c
    exact og_val (ex_fo e_10 fo_spec_Key_1 rfl) rfl
   ·intro a wx c
    have e_11 : a.eval (.tmp 11) = pt g 1 := c.slot 6 _ (by decide +kernel) rfl
    have hO := hS.ogc c
    clear c
    exact og_val (ex_ld e_11 lt_string (cell_of_heap (v := .string k.uri) (hO.at 0 rfl) rfl)) rfl
   ·intro a wx c
    have e_0 : a.eval (.tmp 0) = pt g 0 := c.outE (by decide +kernel) (hS.get 0 rfl)
    clear c
    exact og_val (ex_mv e_0) rfl
   ·intro a wx c
    have e_13 : a.eval (.tmp 13) = pt g 0 := c.slot 8 _ (by decide +kernel) rfl
    clear c
    exact og_val (ex_nc e_13) rfl
   ·intro a wx c
    have e_14 : a.eval (.tmp 14) = pt g 0 := c.slot 9 _ (by decide +kernel) rfl
    clear c
    exact og_val (ex_fo e_14 fo_spec_Key_2 rfl) rfl
   ·intro a wx c
    have e_15 : a.eval (.tmp 15) = pt g 2 := c.slot 10 _ (by decide +kernel) rfl
    have hO := hS.ogc c
    clear c
    exact og_val (ex_ld e_15 lt_string (cell_of_heap (v := .string k.iv) (hO.at 0 rfl) rfl)) rfl
   ·intro a wx c
    have e_0 : a.eval (.tmp 0) = pt g 0 := c.outE (by decide +kernel) (hS.get 0 rfl)
    clear c
    exact og_val (ex_mv e_0) rfl
   ·intro a wx c
    have e_17 : a.eval (.tmp 17) = pt g 0 := c.slot 12 _ (by decide +kernel) rfl
    clear c
    exact og_val (ex_nc e_17) rfl
   ·intro a wx c
    have e_18 : a.eval (.tmp 18) = pt g 0 := c.slot 13 _ (by decide +kernel) rfl
    clear c
    exact og_val (ex_fo e_18 fo_spec_Key_3 rfl) rfl
   ·intro a wx c
    have e_19 : a.eval (.tmp 19) = pt g 3 := c.slot 14 _ (by decide +kernel) rfl
    have hO := hS.ogc c
    clear c
    exact og_val (ex_ld e_19 lt_string (cell_of_heap (v := .string k.format) (hO.at 0 rfl) rfl)) rfl
   ·intro a wx c
    have e_0 : a.eval (.tmp 0) = pt g 0 := c.outE (by decide +kernel) (hS.get 0 rfl)
    clear c
    exact og_val (ex_mv e_0) rfl
   ·intro a wx c
    have e_21 : a.eval (.tmp 21) = pt g 0 := c.slot 16 _ (by decide +kernel) rfl
    clear c
    exact og_val (ex_nc e_21) rfl
   ·intro a wx c
    have e_22 : a.eval (.tmp 22) = pt g 0 := c.slot 17 _ (by decide +kernel) rfl
    clear c
    exact og_val (ex_fo e_22 fo_spec_Key_4 rfl) rfl
   ·intro a wx c
    have e_23 : a.eval (.tmp 23) = pt g 4 := c.slot 18 _ (by decide +kernel) rfl
    have hO := hS.ogc c
    clear c
    exact og_val (ex_ld e_23 lt_string (cell_of_heap (v := .string k.versions) (hO.at 0 rfl) rfl)) rfl
  ·intro a w1 c hbw1
   replace hS : Sv 27 ((24, .string k.versions) :: (20, .string k.format) :: (16, .string k.iv) :: (12, .string k.uri) :: (8, .string k.method) :: (0, pt g 0) :: (2, .slice none 0 0) :: (4, .bool false) :: []) [⟨g, k.cells, 96, false⟩] (fun _ => False) w a w1 := (((((((((hS.ogh c).know (c.outE (by decide +kernel) (hS.get 4 rfl))).know (c.outE (by decide +kernel) (hS.get 2 rfl))).know (c.outE (by decide +kernel) (hS.get 0 rfl))).know (c.slot 3 _ (by decide +kernel) rfl)).know (c.slot 7 _ (by decide +kernel) rfl)).know (c.slot 11 _ (by decide +kernel) rfl)).know (c.slot 15 _ (by decide +kernel) rfl)).know (c.slot 19 _ (by decide +kernel) rfl))
   clear c
   simp only [List.drop_succ_cons, List.drop_zero]
   refine sv_r (v := .agg #[.string k.method, .string k.uri, .string k.iv, .string k.format, .string k.versions]) hS (by simp only [execOp, List.map_toArray, List.map_cons, List.map_nil, hS.get 8 rfl, hS.get 12 rfl, hS.get 16 rfl, hS.get 20 rfl, hS.get 24 rfl]; go_simp) fun a hS => ?_
   refine sv_new (T := 97) (cs := #[.string k.method, .string k.uri, .string k.iv, .string k.format, .string k.versions]) hS rfl rfl (by decide) (fun g => .slice (some ⟨g, 0, none⟩) 1 1) (by simp only [execOp, List.map_toArray, List.map_cons, List.map_nil, hS.get 25 rfl]; go_simp) ?_
   intro g2 a w3 hg2 hbw3 hwg2 hS
   refine sv_r (v := .slice (some ⟨g2, 0, none⟩) 1 1) hS (ex_as (hS.get 26 rfl)) fun a hS => ?_
   refine wpList_nil ?_
   replace hS := hS.cut [2, 0, 4]
   show Code.wp _ _ _ _ _
   refine wp_ret ?_
   try simp only [Exit.inBlock, Exit.then]
   exact ret_of_ev hS.ev rfl (hS.get 2 rfl) ⟨_, rfl, hS.toBelow, .new (hS.at 0 rfl)⟩
theorem toMaps_any (k : Option Mp) (v : Value) (w : World) (h : PtrTo 99 (k.map Mp.cells) v w) : Calls Tryz.prog 12 #[v] w fun e w' => ∃ v', e = .returned v' ∧ Below w.heap.size w w' ∧ OneOf1 100 (k.map Mp.cells) v' w' := by
 cases k with
 | none =>
  obtain ⟨_, rfl⟩ | ⟨_, _, h, _⟩ := h
  rotate_left
  ·cases h
  refine calls_of_ev Tryz.func12 rfl (show 1 ≤ 19 from by decide) ?_
  intro a hE
  have hE : Ev 19 ((0, .pointer none) :: []) a := hE
  have hS : Sv 19 ((0, .pointer none) :: []) [] (fun _ => False) w a w := Sv.start hE _ _
  clear hE
  refine wp_seq ?_
  refine wp_region_lit ?_
  refine sv_r (v := .slice none 0 0) hS ex_ac fun a hS => ?_
  refine wpList_nil ?_
  replace hS := hS.cut [2, 0]
  show Code.wp _ _ _ _ _
  refine wp_seq ?_
  refine wp_seq ?_
  refine wp_region_lit ?_
  refine sv_r (v := .pointer none) hS (ex_mv (hS.get 0 rfl)) fun a hS => ?_
  refine sv_r (v := .bool true) hS (ex_pe eqp_p_spec_Map (hS.get 3 rfl)) fun a hS => ?_
  refine wpList_nil ?_
  replace hS := hS.cut [4, 2, 0]
  show Code.wp _ _ _ _ _
  refine cond_t (hS.get 4 rfl) ?_
  refine wp_seq ?_
  refine wp_region_lit ?_
  refine sv_r (v := .slice none 0 0) hS ex_ac fun a hS => ?_
  refine wpList_nil ?_
  replace hS := hS.cut [2, 4, 0]
  show Code.wp _ _ _ _ _
  refine wp_ret ?_
  try simp only [Exit.inBlock, Exit.then]
  exact ret_of_ev hS.ev rfl (hS.get 2 rfl) ⟨_, rfl, hS.toBelow, .nil⟩
 | some k =>
  obtain ⟨h, _⟩ | ⟨g, cs, hcs, rfl, hg⟩ := h
  ·cases h
  obtain rfl := Option.some.inj hcs
  refine calls_of_ev Tryz.func12 rfl (show 1 ≤ 19 from by decide) ?_
  intro a hE
  have hE : Ev 19 ((0, pt g 0) :: []) a := hE
  have hS : Sv 19 ((0, pt g 0) :: []) [] (fun _ => False) w a w := Sv.start hE _ _
  clear hE
  replace hS : Sv 19 ((0, pt g 0) :: []) [⟨g, k.cells, 99, false⟩] (fun _ => False) w a w := hS.addR hg (by intro b hb; cases hb)
  refine wp_seq ?_
  refine wp_region_lit ?_
  refine sv_r (v := .slice none 0 0) hS ex_ac fun a hS => ?_
  refine wpList_nil ?_
  replace hS := hS.cut [2, 0]
  show Code.wp _ _ _ _ _
  refine wp_seq ?_
  refine wp_seq ?_
  refine wp_region_lit ?_
  refine sv_r (v := pt g 0) hS (ex_mv (hS.get 0 rfl)) fun a hS => ?_
  refine sv_r (v := .bool false) hS (ex_pe eqp_p_spec_Map (hS.get 3 rfl)) fun a hS => ?_
  refine wpList_nil ?_
  replace hS := hS.cut [4, 2, 0]
  show Code.wp _ _ _ _ _
  refine cond_f (hS.get 4 rfl) ?_
  refine wp_skip ?_
  show Code.wp _ _ _ _ _
  refine wp_seq ?_
  refine wp_region_og1 (n := 19) 12 [Asr.eq (pt g 0), Asr.eq (pt g 0), Asr.eq (pt g 0), Asr.eq (.string k.uri), Asr.eq (pt g 0), Asr.eq (pt g 0), Asr.eq (pt g 1), Asr.eq (.int .i64 ((k.limit : Nat) : Int)), Asr.eq (pt g 0), Asr.eq (pt g 0), Asr.eq (pt g 2), Asr.eq (.int .i64 ((k.offset : Nat) : Int))] (by kernel_rfl) (by kernel_rfl) (by kernel_rfl) (by simp) (by kernel_rfl) hS.ev.size ⟨⟩ ?_ ?_
  ·simp only [List.take_succ_cons, List.take_zero]
   refine ⟨?_, ?_, ?_, ?_, ?_, ?_, ?_, ?_, ?_, ?_, ?_, ?_, trivial⟩
   ·intro a wx c
    have e_0 : a.eval (.tmp 0) = pt g 0 := c.outE (by decide +kernel) (hS.get 0 rfl)
    clear c
    exact og_val (ex_mv e_0) rfl
   ·intro a wx c
    have e_5 : a.eval (.tmp 5) = pt g 0 := c.slot 0 _ (by decide +kernel) rfl
    clear c
    exact og_val (ex_nc e_5) rfl
   ·intro a wx c
    have e_6 : a.eval (.tmp 6) = pt g 0 := c.slot 1 _ (by decide +kernel) rfl
    clear c
    exact og_val (ex_fo e_6 fo_spec_Map_0 rfl) rfl
   ·intro a wx c
    have e_7 : a.eval (.tmp 7) = pt g 0 := c.slot 2 _ (by decide +kernel) rfl
    have hO := hS.ogc c
    clear c
    exact og_val (ex_ld e_7 lt_string (cell_of_heap (v := .string k.uri) (hO.at 0 rfl) rfl)) rfl
   ·intro a wx c
    have e_0 : a.eval (.tmp 0) = pt g 0 := c.outE (by decide +kernel) (hS.get 0 rfl)
    clear c
    exact og_val (ex_mv e_0) rfl
   ·intro a wx c
    have e_9 : a.eval (.tmp 9) = pt g 0 := c.slot 4 _ (by decide +kernel) rfl
    clear c
    exact og_val (ex_nc e_9) rfl
   ·intro a wx c
    have e_10 : a.eval (.tmp 10) = pt g 0 := c.slot 5 _ (by decide +kernel) rfl
    clear c
    exact og_val (ex_fo e_10 fo_spec_Map_1 rfl) rfl
   ·intro a wx c
    have e_11 : a.eval (.tmp 11) = pt g 1 := c.slot 6 _ (by decide +kernel) rfl
    have hO := hS.ogc c
    clear c
    exact og_val (ex_ld e_11 lt_int64 (cell_of_heap (v := .int .i64 ((k.limit : Nat) : Int)) (hO.at 0 rfl) rfl)) rfl
   ·intro a wx c
    have e_0 : a.eval (.tmp 0) = pt g 0 := c.outE (by decide +kernel) (hS.get 0 rfl)
    clear c
    exact og_val (ex_mv e_0) rfl
   ·intro a wx c
    have e_13 : a.eval (.tmp 13) = pt g 0 := c.slot 8 _ (by decide +kernel) rfl
    clear c
    exact og_val (ex_nc e_13) rfl
   ·intro a wx c
    have e_14 : a.eval (.tmp 14) = pt g 0 := c.slot 9 _ (by decide +kernel) rfl
    clear c
    exact og_val (ex_fo e_14 fo_spec_Map_2 rfl) rfl
   ·intro a wx c
    have e_15 : a.eval (.tmp 15) = pt g 2 := c.slot 10 _ (by decide +kernel) rfl
    have hO := hS.ogc c
    clear c
    exact og_val (ex_ld e_15 lt_int64 (cell_of_heap (v := .int .i64 ((k.offset : Nat) : Int)) (hO.at 0 rfl) rfl)) rfl
  ·intro a w1 c hbw1
   replace hS : Sv 19 ((16, .int .i64 ((k.offset : Nat) : Int)) :: (12, .int .i64 ((k.limit : Nat) : Int)) :: (8, .string k.uri) :: (0, pt g 0) :: (2, .slice none 0 0) :: (4, .bool false) :: []) [⟨g, k.cells, 99, false⟩] (fun _ => False) w a w1 := (((((((hS.ogh c).know (c.outE (by decide +kernel) (hS.get 4 rfl))).know (c.outE (by decide +kernel) (hS.get 2 rfl))).know (c.outE (by decide +kernel) (hS.get 0 rfl))).know (c.slot 3 _ (by decide +kernel) rfl)).know (c.slot 7 _ (by decide +kernel) rfl)).know (c.slot 11 _ (by decide +kernel) rfl))
   clear c
   simp only [List.drop_succ_cons, List.drop_zero]
   refine sv_r (v := .agg #[.string k.uri, .int .i64 ((k.limit : Nat) : Int), .int .i64 ((k.offset : Nat) : Int)]) hS (by simp only [execOp, List.map_toArray, List.map_cons, List.map_nil, hS.get 8 rfl, hS.get 12 rfl, hS.get 16 rfl]; go_simp) fun a hS => ?_
   refine sv_new (T := 100) (cs := #[.string k.uri, .int .i64 ((k.limit : Nat) : Int), .int .i64 ((k.offset : Nat) : Int)]) hS rfl rfl (by decide) (fun g => .slice (some ⟨g, 0, none⟩) 1 1) (by simp only [execOp, List.map_toArray, List.map_cons, List.map_nil, hS.get 17 rfl]; go_simp) ?_
   intro g2 a w3 hg2 hbw3 hwg2 hS
   refine sv_r (v := .slice (some ⟨g2, 0, none⟩) 1 1) hS (ex_as (hS.get 18 rfl)) fun a hS => ?_
   refine wpList_nil ?_
   replace hS := hS.cut [2, 0, 4]
   show Code.wp _ _ _ _ _
   refine wp_ret ?_
   try simp only [Exit.inBlock, Exit.then]
   exact ret_of_ev hS.ev rfl (hS.get 2 rfl) ⟨_, rfl, hS.toBelow, .new (hS.at 0 rfl)⟩
theorem keyTo_any (k : Option Ky) (v : Value) (w : World) (h : OneOf1 97 (k.map Ky.cells) v w) : Calls Tryz.prog 18 #[v] w fun e w' => ∃ v', e = .returned v' ∧ Below w.heap.size w w' ∧ PtrTo 108 (k.map Ky.cells) v' w' := by
 cases k with
 | none =>
  obtain ⟨_, rfl⟩ | ⟨_, _, h, _⟩ := h
  rotate_left
  ·cases h
  refine calls_of_ev Tryz.func18 rfl (show 1 ≤ 28 from by decide) ?_
  intro a hE
  have hE : Ev 28 ((0, .slice none 0 0) :: []) a := hE
  have hS : Sv 28 ((0, .slice none 0 0) :: []) [] (fun _ => False) w a w := Sv.start hE _ _
  clear hE
  refine wp_seq ?_
  refine wp_region_lit ?_
  refine sv_r (v := .pointer none) hS ex_ac fun a hS => ?_
  refine wpList_nil ?_
  replace hS := hS.cut [2, 0]
  show Code.wp _ _ _ _ _
  refine wp_seq ?_
  refine wp_seq ?_
  refine wp_region_lit ?_
  refine sv_r (v := .slice none 0 0) hS (ex_mv (hS.get 0 rfl)) fun a hS => ?_
  refine sv_r (v := .int .i64 0) hS (ex_len Tryz.underlying34 (hS.get 3 rfl)) fun a hS => ?_
  refine sv_r (v := .bool (decide ((0 : Nat) = 0))) hS (ei_eql (hS.get 4 rfl) rfl (by rw [decide_eq_decide]; omega)) fun a hS => ?_
  refine wpList_nil ?_
  replace hS := hS.cut [5, 2, 0]
  show Code.wp _ _ _ _ _
  have hS : Sv 28 ((5, .bool true) :: (2, .pointer none) :: (0, .slice none 0 0) :: []) [] (fun _ => False) w a w := hS
  refine cond_t (hS.get 5 rfl) ?_
  refine wp_seq ?_
  refine wp_region_lit ?_
  refine sv_r (v := .pointer none) hS ex_ac fun a hS => ?_
  refine wpList_nil ?_
  replace hS := hS.cut [2, 5, 0]
  show Code.wp _ _ _ _ _
  refine wp_ret ?_
  try simp only [Exit.inBlock, Exit.then]
  exact ret_of_ev hS.ev rfl (hS.get 2 rfl) ⟨_, rfl, hS.toBelow, .nil⟩
 | some k =>
  obtain ⟨h, _⟩ | ⟨g, cs, hcs, rfl, hg⟩ := h
  ·cases h
  obtain rfl := Option.some.inj hcs
  refine calls_of_ev Tryz.func18 rfl (show 1 ≤ 28 from by decide) ?_
  intro a hE
  have hE : Ev 28 ((0, .slice (some ⟨g, 0, none⟩) 1 1) :: []) a := hE
  have hS : Sv 28 ((0, .slice (some ⟨g, 0, none⟩) 1 1) :: []) [] (fun _ => False) w a w := Sv.start hE _ _
  clear hE
  replace hS : Sv 28 ((0, .slice (some ⟨g, 0, none⟩) 1 1) :: []) [⟨g, k.cells, 97, false⟩] (fun _ => False) w a w := hS.addR hg (by intro b hb; cases hb)
  refine wp_seq ?_
  refine wp_region_lit ?_
  refine sv_r (v := .pointer none) hS ex_ac fun a hS => ?_
  refine wpList_nil ?_
  replace hS := hS.cut [2, 0]
  show Code.wp _ _ _ _ _
  refine wp_seq ?_
  refine wp_seq ?_
  refine wp_region_lit ?_
  refine sv_r (v := .slice (some ⟨g, 0, none⟩) 1 1) hS (ex_mv (hS.get 0 rfl)) fun a hS => ?_
  refine sv_r (v := .int .i64 1) hS (ex_len Tryz.underlying34 (hS.get 3 rfl)) fun a hS => ?_
  refine sv_r (v := .bool (decide ((1 : Nat) = 0))) hS (ei_eql (hS.get 4 rfl) rfl (by rw [decide_eq_decide]; omega)) fun a hS => ?_
  refine wpList_nil ?_
  replace hS := hS.cut [5, 2, 0]
  show Code.wp _ _ _ _ _
  have hS : Sv 28 ((5, .bool false) :: (2, .pointer none) :: (0, .slice (some ⟨g, 0, none⟩) 1 1) :: []) [⟨g, k.cells, 97, false⟩] (fun _ => False) w a w := hS
  refine cond_f (hS.get 5 rfl) ?_
  refine wp_skip ?_
  show Code.wp _ _ _ _ _
  refine wp_seq ?_
  refine wp_region_og1 (n := 28) 20 [Asr.eq (.slice (some ⟨g, 0, none⟩) 1 1), Asr.eq (pt g 0), Asr.eq (pt g 0), Asr.eq (.string k.method), Asr.eq (.slice (some ⟨g, 0, none⟩) 1 1), Asr.eq (pt g 0), Asr.eq (pt g 1), Asr.eq (.string k.uri), Asr.eq (.slice (some ⟨g, 0, none⟩) 1 1), Asr.eq (pt g 0), Asr.eq (pt g 2), Asr.eq (.string k.iv), Asr.eq (.slice (some ⟨g, 0, none⟩) 1 1), Asr.eq (pt g 0), Asr.eq (pt g 3), Asr.eq (.string k.format), Asr.eq (.slice (some ⟨g, 0, none⟩) 1 1), Asr.eq (pt g 0), Asr.eq (pt g 4), Asr.eq (.string k.versions)] (by kernel_rfl) (by kernel_rfl) (by kernel_rfl) (by simp) (by kernel_rfl) hS.ev.size ⟨⟩ ?_ ?_
  ·simp only [List.take_succ_cons, List.take_zero]
   refine ⟨?_, ?_, ?_, ?_, ?_, ?_, ?_, ?_, ?_, ?_, ?_, ?_, ?_, ?_, ?_, ?_, ?_, ?_, ?_, ?_, trivial⟩
   ·intro a wx c
    have e_0 : a.eval (.tmp 0) = .slice (some ⟨g, 0, none⟩) 1 1 := c.outE (by decide +kernel) (hS.get 0 rfl)
    clear c
    exact og_val (ex_mv e_0) rfl
   ·intro a wx c
    have e_6 : a.eval (.tmp 6) = .slice (some ⟨g, 0, none⟩) 1 1 := c.slot 0 _ (by decide +kernel) rfl
    clear c
    exact og_val (ex_ia (i := 0) (E := 97) Tryz.underlying34 Tryz.sizeOf97 e_6 rfl (by omega)) rfl
   ·intro a wx c
    have e_7 : a.eval (.tmp 7) = pt g 0 := c.slot 1 _ (by decide +kernel) rfl
    clear c
    exact og_val (ex_fo e_7 fo_impl_Key_0 rfl) rfl
   ·intro a wx c
    have e_8 : a.eval (.tmp 8) = pt g 0 := c.slot 2 _ (by decide +kernel) rfl
    have hO := hS.ogc c
    clear c
    exact og_val (ex_ld e_8 lt_string (cell_of_heap (v := .string k.method) (hO.at 0 rfl) rfl)) rfl
   ·intro a wx c
    have e_0 : a.eval (.tmp 0) = .slice (some ⟨g, 0, none⟩) 1 1 := c.outE (by decide +kernel) (hS.get 0 rfl)
    clear c
    exact og_val (ex_mv e_0) rfl
   ·intro a wx c
    have e_10 : a.eval (.tmp 10) = .slice (some ⟨g, 0, none⟩) 1 1 := c.slot 4 _ (by decide +kernel) rfl
    clear c
    exact og_val (ex_ia (i := 0) (E := 97) Tryz.underlying34 Tryz.sizeOf97 e_10 rfl (by omega)) rfl
   ·intro a wx c
    have e_11 : a.eval (.tmp 11) = pt g 0 := c.slot 5 _ (by decide +kernel) rfl
    clear c
    exact og_val (ex_fo e_11 fo_impl_Key_1 rfl) rfl
   ·intro a wx c
    have e_12 : a.eval (.tmp 12) = pt g 1 := c.slot 6 _ (by decide +kernel) rfl
    have hO := hS.ogc c
    clear c
    exact og_val (ex_ld e_12 lt_string (cell_of_heap (v := .string k.uri) (hO.at 0 rfl) rfl)) rfl
   ·intro a wx c
    have e_0 : a.eval (.tmp 0) = .slice (some ⟨g, 0, none⟩) 1 1 := c.outE (by decide +kernel) (hS.get 0 rfl)
    clear c
    exact og_val (ex_mv e_0) rfl
   ·intro a wx c
    have e_14 : a.eval (.tmp 14) = .slice (some ⟨g, 0, none⟩) 1 1 := c.slot 8 _ (by decide +kernel) rfl
    clear c
    exact og_val (ex_ia (i := 0) (E := 97) Tryz.underlying34 Tryz.sizeOf97 e_14 rfl (by omega)) rfl
   ·intro a wx c
    have e_15 : a.eval (.tmp 15) = pt g 0 := c.slot 9 _ (by decide +kernel) rfl
    clear c
    exact og_val (ex_fo e_15 fo_impl_Key_2 rfl) rfl
   ·intro a wx c
    have e_16 : a.eval (.tmp 16) = pt g 2 := c.slot 10 _ (by decide +kernel) rfl
    have hO := hS.ogc c
    clear c
    exact og_val (ex_ld e_16 lt_string (cell_of_heap (v := .string k.iv) (hO.at 0 rfl) rfl)) rfl
   ·intro a wx c
    have e_0 : a.eval (.tmp 0) = .slice (some ⟨g, 0, none⟩) 1 1 := c.outE (by decide +kernel) (hS.get 0 rfl)
    clear c
    exact og_val (ex_mv e_0) rfl
   ·intro a wx c
    have e_18 : a.eval (.tmp 18) = .slice (some ⟨g, 0, none⟩) 1 1 := c.slot 12 _ (by decide +kernel) rfl
    clear c
    exact og_val (ex_ia (i := 0) (E := 97) Tryz.underlying34 Tryz.sizeOf97 e_18 rfl (by omega)) rfl
   ·intro a wx c
    have e_19 : a.eval (.tmp 19) = pt g 0 := c.slot 13 _ (by decide +kernel) rfl
    clear c
    exact og_val (ex_fo e_19 fo_impl_Key_3 rfl) rfl
   ·intro a wx c
    have e_20 : a.eval (.tmp 20) = pt g 3 := c.slot 14 _ (by decide +kernel) rfl
    have hO := hS.ogc c
    clear c
    exact og_val (ex_ld e_20 lt_string (cell_of_heap (v := .string k.format) (hO.at 0 rfl) rfl)) rfl
   ·intro a wx c
    have e_0 : a.eval (.tmp 0) = .slice (some ⟨g, 0, none⟩) 1 1 := c.outE (by decide +kernel) (hS.get 0 rfl)
    clear c
    exact og_val (ex_mv e_0) rfl
   ·intro a wx c
    have e_22 : a.eval (.tmp 22) = .slice (some ⟨g, 0, none⟩) 1 1 := c.slot 16 _ (by decide +kernel) rfl
    clear c
    exact og_val (ex_ia (i := 0) (E := 97) Tryz.underlying34 Tryz.sizeOf97 e_22 rfl (by omega)) rfl
   ·intro a wx c
    have e_23 : a.eval (.tmp 23) = pt g 0 := c.slot 17 _ (by decide +kernel) rfl
    clear c
    exact og_val (ex_fo e_23 fo_impl_Key_4 rfl) rfl
   ·intro a wx c
    have e_24 : a.eval (.tmp 24) = pt g 4 := c.slot 18 _ (by decide +kernel) rfl
    have hO := hS.ogc c
    clear c
    exact og_val (ex_ld e_24 lt_string (cell_of_heap (v := .string k.versions) (hO.at 0 rfl) rfl)) rfl
  ·intro a w1 c hbw1
   replace hS : Sv 28 ((25, .string k.versions) :: (21, .string k.format) :: (17, .string k.iv) :: (13, .string k.uri) :: (9, .string k.method) :: (0, .slice (some ⟨g, 0, none⟩) 1 1) :: (2, .pointer none) :: (5, .bool (decide ((1 : Nat) = 0))) :: []) [⟨g, k.cells, 97, false⟩] (fun _ => False) w a w1 := (((((((((hS.ogh c).know (c.outE (by decide +kernel) (hS.get 5 rfl))).know (c.outE (by decide +kernel) (hS.get 2 rfl))).know (c.outE (by decide +kernel) (hS.get 0 rfl))).know (c.slot 3 _ (by decide +kernel) rfl)).know (c.slot 7 _ (by decide +kernel) rfl)).know (c.slot 11 _ (by decide +kernel) rfl)).know (c.slot 15 _ (by decide +kernel) rfl)).know (c.slot 19 _ (by decide +kernel) rfl))
   clear c
   simp only [List.drop_succ_cons, List.drop_zero]
   refine sv_r (v := .agg #[.string k.method, .string k.uri, .string k.iv, .string k.format, .string k.versions]) hS (by simp only [execOp, List.map_toArray, List.map_cons, List.map_nil, hS.get 9 rfl, hS.get 13 rfl, hS.get 17 rfl, hS.get 21 rfl, hS.get 25 rfl]; go_simp) fun a hS => ?_
   refine sv_box hS (hS.get 26 rfl) (bx_m3u8_Key _) (by decide) ?_
   intro g2 a w3 hg2 hbw3 hwg2 hS
   refine sv_r (v := pt g2 0) hS (ex_as (hS.get 27 rfl)) fun a hS => ?_
   refine wpList_nil ?_
   replace hS := hS.cut [2, 0, 5]
   show Code.wp _ _ _ _ _
   refine wp_ret ?_
   try simp only [Exit.inBlock, Exit.then]
   exact ret_of_ev hS.ev rfl (hS.get 2 rfl) ⟨_, rfl, hS.toBelow, .new (hS.at 0 rfl)⟩
theorem mapTo_any (k : Option Mp) (v : Value) (w : World) (h : OneOf1 100 (k.map Mp.cells) v w) : Calls Tryz.prog 19 #[v] w fun e w' => ∃ v', e = .returned v' ∧ Below w.heap.size w w' ∧ PtrTo 109 (k.map Mp.cells) v' w' := by
 cases k with
 | none =>
  obtain ⟨_, rfl⟩ | ⟨_, _, h, _⟩ := h
  rotate_left
  ·cases h
  refine calls_of_ev Tryz.func19 rfl (show 1 ≤ 20 from by decide) ?_
  intro a hE
  have hE : Ev 20 ((0, .slice none 0 0) :: []) a := hE
  have hS : Sv 20 ((0, .slice none 0 0) :: []) [] (fun _ => False) w a w := Sv.start hE _ _
  clear hE
  refine wp_seq ?_
  refine wp_region_lit ?_
  refine sv_r (v := .pointer none) hS ex_ac fun a hS => ?_
  refine wpList_nil ?_
  replace hS := hS.cut [2, 0]
  show Code.wp _ _ _ _ _
  refine wp_seq ?_
  refine wp_seq ?_
  refine wp_region_lit ?_
  refine sv_r (v := .slice none 0 0) hS (ex_mv (hS.get 0 rfl)) fun a hS => ?_
  refine sv_r (v := .int .i64 0) hS (ex_len Tryz.underlying35 (hS.get 3 rfl)) fun a hS => ?_
  refine sv_r (v := .bool (decide ((0 : Nat) = 0))) hS (ei_eql (hS.get 4 rfl) rfl (by rw [decide_eq_decide]; omega)) fun a hS => ?_
  refine wpList_nil ?_
  replace hS := hS.cut [5, 2, 0]
  show Code.wp _ _ _ _ _
  have hS : Sv 20 ((5, .bool true) :: (2, .pointer none) :: (0, .slice none 0 0) :: []) [] (fun _ => False) w a w := hS
  refine cond_t (hS.get 5 rfl) ?_
  refine wp_seq ?_
  refine wp_region_lit ?_
  refine sv_r (v := .pointer none) hS ex_ac fun a hS => ?_
  refine wpList_nil ?_
  replace hS := hS.cut [2, 5, 0]
  show Code.wp _ _ _ _ _
  refine wp_ret ?_
  try simp only [Exit.inBlock, Exit.then]
  exact ret_of_ev hS.ev rfl (hS.get 2 rfl) ⟨_, rfl, hS.toBelow, .nil⟩
 | some k =>
  obtain ⟨h, _⟩ | ⟨g, cs, hcs, rfl, hg⟩ := h
  ·cases h
  obtain rfl := Option.some.inj hcs
  refine calls_of_ev Tryz.func19 rfl (show 1 ≤ 20 from by decide) ?_
  intro a hE
  have hE : Ev 20 ((0, .slice (some ⟨g, 0, none⟩) 1 1) :: []) a := hE
  have hS : Sv 20 ((0, .slice (some ⟨g, 0, none⟩) 1 1) :: []) [] (fun _ => False) w a w := Sv.start hE _ _
  clear hE
  replace hS : Sv 20 ((0, .slice (some ⟨g, 0, none⟩) 1 1) :: []) [⟨g, k.cells, 100, false⟩] (fun _ => False) w a w := hS.addR hg (by intro b hb; cases hb)
  refine wp_seq ?_
  refine wp_region_lit ?_
  refine sv_r (v := .pointer none) hS ex_ac fun a hS => ?_
  refine wpList_nil ?_
  replace hS := hS.cut [2, 0]
  show Code.wp _ _ _ _ _
  refine wp_seq ?_
  refine wp_seq ?_
  refine wp_region_lit ?_
  refine sv_r (v := .slice (some ⟨g, 0, none⟩) 1 1) hS (ex_mv (hS.get 0 rfl)) fun a hS => ?_
  refine sv_r (v := .int .i64 1) hS (ex_len Tryz.underlying35 (hS.get 3 rfl)) fun a hS => ?_
  refine sv_r (v := .bool (decide ((1 : Nat) = 0))) hS (ei_eql (hS.get 4 rfl) rfl (by rw [decide_eq_decide]; omega)) fun a hS => ?_
  refine wpList_nil ?_
  replace hS := hS.cut [5, 2, 0]
  show Code.wp _ _ _ _ _
  have hS : Sv 20 ((5, .bool false) :: (2, .pointer none) :: (0, .slice (some ⟨g, 0, none⟩) 1 1) :: []) [⟨g, k.cells, 100, false⟩] (fun _ => False) w a w := hS
  refine cond_f (hS.get 5 rfl) ?_
  refine wp_skip ?_
  show Code.wp _ _ _ _ _
  refine wp_seq ?_
  refine wp_region_og1 (n := 20) 12 [Asr.eq (.slice (some ⟨g, 0, none⟩) 1 1), Asr.eq (pt g 0), Asr.eq (pt g 0), Asr.eq (.string k.uri), Asr.eq (.slice (some ⟨g, 0, none⟩) 1 1), Asr.eq (pt g 0), Asr.eq (pt g 1), Asr.eq (.int .i64 ((k.limit : Nat) : Int)), Asr.eq (.slice (some ⟨g, 0, none⟩) 1 1), Asr.eq (pt g 0), Asr.eq (pt g 2), Asr.eq (.int .i64 ((k.offset : Nat) : Int))] (by kernel_rfl) (by kernel_rfl) (by kernel_rfl) (by simp) (by kernel_rfl) hS.ev.size ⟨⟩ ?_ ?_
  ·simp only [List.take_succ_cons, List.take_zero]
   refine ⟨?_, ?_, ?_, ?_, ?_, ?_, ?_, ?_, ?_, ?_, ?_, ?_, trivial⟩
   ·intro a wx c
    have e_0 : a.eval (.tmp 0) = .slice (some ⟨g, 0, none⟩) 1 1 := c.outE (by decide +kernel) (hS.get 0 rfl)
    clear c
    exact og_val (ex_mv e_0) rfl
   ·intro a wx c
    have e_6 : a.eval (.tmp 6) = .slice (some ⟨g, 0, none⟩) 1 1 := c.slot 0 _ (by decide +kernel) rfl
    clear c
    exact og_val (ex_ia (i := 0) (E := 100) Tryz.underlying35 Tryz.sizeOf100 e_6 rfl (by omega)) rfl
   ·intro a wx c
    have e_7 : a.eval (.tmp 7) = pt g 0 := c.slot 1 _ (by decide +kernel) rfl
    clear c
    exact og_val (ex_fo e_7 fo_impl_Map_0 rfl) rfl
   ·intro a wx c
    have e_8 : a.eval (.tmp 8) = pt g 0 := c.slot 2 _ (by decide +kernel) rfl
    have hO := hS.ogc c
    clear c
    exact og_val (ex_ld e_8 lt_string (cell_of_heap (v := .string k.uri) (hO.at 0 rfl) rfl)) rfl
   ·intro a wx c
    have e_0 : a.eval (.tmp 0) = .slice (some ⟨g, 0, none⟩) 1 1 := c.outE (by decide +kernel) (hS.get 0 rfl)
    clear c
    exact og_val (ex_mv e_0) rfl
   ·intro a wx c
    have e_10 : a.eval (.tmp 10) = .slice (some ⟨g, 0, none⟩) 1 1 := c.slot 4 _ (by decide +kernel) rfl
    clear c
    exact og_val (ex_ia (i := 0) (E := 100) Tryz.underlying35 Tryz.sizeOf100 e_10 rfl (by omega)) rfl
   ·intro a wx c
    have e_11 : a.eval (.tmp 11) = pt g 0 := c.slot 5 _ (by decide +kernel) rfl
    clear c
    exact og_val (ex_fo e_11 fo_impl_Map_1 rfl) rfl
   ·intro a wx c
    have e_12 : a.eval (.tmp 12) = pt g 1 := c.slot 6 _ (by decide +kernel) rfl
    have hO := hS.ogc c
    clear c
    exact og_val (ex_ld e_12 lt_int64 (cell_of_heap (v := .int .i64 ((k.limit : Nat) : Int)) (hO.at 0 rfl) rfl)) rfl
   ·intro a wx c
    have e_0 : a.eval (.tmp 0) = .slice (some ⟨g, 0, none⟩) 1 1 := c.outE (by decide +kernel) (hS.get 0 rfl)
    clear c
    exact og_val (ex_mv e_0) rfl
   ·intro a wx c
    have e_14 : a.eval (.tmp 14) = .slice (some ⟨g, 0, none⟩) 1 1 := c.slot 8 _ (by decide +kernel) rfl
    clear c
    exact og_val (ex_ia (i := 0) (E := 100) Tryz.underlying35 Tryz.sizeOf100 e_14 rfl (by omega)) rfl
   ·intro a wx c
    have e_15 : a.eval (.tmp 15) = pt g 0 := c.slot 9 _ (by decide +kernel) rfl
    clear c
    exact og_val (ex_fo e_15 fo_impl_Map_2 rfl) rfl
   ·intro a wx c
    have e_16 : a.eval (.tmp 16) = pt g 2 := c.slot 10 _ (by decide +kernel) rfl
    have hO := hS.ogc c
    clear c
    exact og_val (ex_ld e_16 lt_int64 (cell_of_heap (v := .int .i64 ((k.offset : Nat) : Int)) (hO.at 0 rfl) rfl)) rfl
  ·intro a w1 c hbw1
   replace hS : Sv 20 ((17, .int .i64 ((k.offset : Nat) : Int)) :: (13, .int .i64 ((k.limit : Nat) : Int)) :: (9, .string k.uri) :: (0, .slice (some ⟨g, 0, none⟩) 1 1) :: (2, .pointer none) :: (5, .bool (decide ((1 : Nat) = 0))) :: []) [⟨g, k.cells, 100, false⟩] (fun _ => False) w a w1 := (((((((hS.ogh c).know (c.outE (by decide +kernel) (hS.get 5 rfl))).know (c.outE (by decide +kernel) (hS.get 2 rfl))).know (c.outE (by decide +kernel) (hS.get 0 rfl))).know (c.slot 3 _ (by decide +kernel) rfl)).know (c.slot 7 _ (by decide +kernel) rfl)).know (c.slot 11 _ (by decide +kernel) rfl))
   clear c
   simp only [List.drop_succ_cons, List.drop_zero]
   refine sv_r (v := .agg #[.string k.uri, .int .i64 ((k.limit : Nat) : Int), .int .i64 ((k.offset : Nat) : Int)]) hS (by simp only [execOp, List.map_toArray, List.map_cons, List.map_nil, hS.get 9 rfl, hS.get 13 rfl, hS.get 17 rfl]; go_simp) fun a hS => ?_
   refine sv_box hS (hS.get 18 rfl) (bx_m3u8_Map _) (by decide) ?_
   intro g2 a w3 hg2 hbw3 hwg2 hS
   refine sv_r (v := pt g2 0) hS (ex_as (hS.get 19 rfl)) fun a hS => ?_
   refine wpList_nil ?_
   replace hS := hS.cut [2, 0, 5]
   show Code.wp _ _ _ _ _
   refine wp_ret ?_
   try simp only [Exit.inBlock, Exit.then]
   exact ret_of_ev hS.ev rfl (hS.get 2 rfl) ⟨_, rfl, hS.toBelow, .new (hS.at 0 rfl)⟩
theorem cueTo_any (k : Option Cq) (v : Value) (hok : ∀ c, k = some c → CueOk c) (w : World) (h : OneOf1 74 (k.map Cq.icells) v w) : Calls Tryz.prog 37 #[v] w fun e w' => ∃ v', e = .returned v' ∧ Below w.heap.size w w' ∧ PtrTo 121 (k.map Cq.mcells) v' w' := by
 cases k with
 | none =>
  obtain ⟨_, rfl⟩ | ⟨_, _, h, _⟩ := h
  rotate_left
  ·cases h
  refine calls_of_ev Tryz.func37 rfl (show 1 ≤ 26 from by decide) ?_
  intro a hE
  have hE : Ev 26 ((0, .slice none 0 0) :: []) a := hE
  have hS : Sv 26 ((0, .slice none 0 0) :: []) [] (fun _ => False) w a w := Sv.start hE _ _
  clear hE
  refine wp_seq ?_
  refine wp_region_lit ?_
  refine sv_r (v := .pointer none) hS ex_ac fun a hS => ?_
  refine wpList_nil ?_
  replace hS := hS.cut [2, 0]
  show Code.wp _ _ _ _ _
  refine wp_seq ?_
  refine wp_seq ?_
  refine wp_region_lit ?_
  refine sv_r (v := .slice none 0 0) hS (ex_mv (hS.get 0 rfl)) fun a hS => ?_
  refine sv_r (v := .int .i64 0) hS (ex_len Tryz.underlying53 (hS.get 4 rfl)) fun a hS => ?_
  refine sv_r (v := .bool (decide ((0 : Nat) = 0))) hS (ei_eql (hS.get 5 rfl) rfl (by rw [decide_eq_decide]; omega)) fun a hS => ?_
  refine wpList_nil ?_
  replace hS := hS.cut [6, 2, 0]
  show Code.wp _ _ _ _ _
  have hS : Sv 26 ((6, .bool true) :: (2, .pointer none) :: (0, .slice none 0 0) :: []) [] (fun _ => False) w a w := hS
  refine cond_t (hS.get 6 rfl) ?_
  refine wp_seq ?_
  refine wp_region_lit ?_
  refine sv_r (v := .pointer none) hS ex_ac fun a hS => ?_
  refine wpList_nil ?_
  replace hS := hS.cut [2, 6, 0]
  show Code.wp _ _ _ _ _
  refine wp_ret ?_
  try simp only [Exit.inBlock, Exit.then]
  exact ret_of_ev hS.ev rfl (hS.get 2 rfl) ⟨_, rfl, hS.toBelow, .nil⟩
 | some k =>
  obtain ⟨h, _⟩ | ⟨g, cs, hcs, rfl, hg⟩ := h
  ·cases h
  obtain rfl := Option.some.inj hcs
  have hk := hok k rfl
  have hk1 := hk.syn
  have hk2 := hk.typ
  refine calls_of_ev Tryz.func37 rfl (show 1 ≤ 26 from by decide) ?_
  intro a hE
  have hE : Ev 26 ((0, .slice (some ⟨g, 0, none⟩) 1 1) :: []) a := hE
  have hS : Sv 26 ((0, .slice (some ⟨g, 0, none⟩) 1 1) :: []) [] (fun _ => False) w a w := Sv.start hE _ _
  clear hE
  replace hS : Sv 26 ((0, .slice (some ⟨g, 0, none⟩) 1 1) :: []) [⟨g, k.icells, 74, false⟩] (fun _ => False) w a w := hS.addR hg (by intro b hb; cases hb)
  refine wp_seq ?_
  refine wp_region_lit ?_
  refine sv_r (v := .pointer none) hS ex_ac fun a hS => ?_
  refine wpList_nil ?_
  replace hS := hS.cut [2, 0]
  show Code.wp _ _ _ _ _
  refine wp_seq ?_
  refine wp_seq ?_
  refine wp_region_lit ?_
  refine sv_r (v := .slice (some ⟨g, 0, none⟩) 1 1) hS (ex_mv (hS.get 0 rfl)) fun a hS => ?_
  refine sv_r (v := .int .i64 1) hS (ex_len Tryz.underlying53 (hS.get 4 rfl)) fun a hS => ?_
  refine sv_r (v := .bool (decide ((1 : Nat) = 0))) hS (ei_eql (hS.get 5 rfl) rfl (by rw [decide_eq_decide]; omega)) fun a hS => ?_
  refine wpList_nil ?_
  replace hS := hS.cut [6, 2, 0]
  show Code.wp _ _ _ _ _
  have hS : Sv 26 ((6, .bool false) :: (2, .pointer none) :: (0, .slice (some ⟨g, 0, none⟩) 1 1) :: []) [⟨g, k.icells, 74, false⟩] (fun _ => False) w a w := hS
  refine cond_f (hS.get 6 rfl) ?_
  refine wp_skip ?_
  show Code.wp _ _ _ _ _
  refine wp_seq ?_
  refine wp_region_lit ?_
  refine sv_r (v := .slice (some ⟨g, 0, none⟩) 1 1) hS (ex_mv (hS.get 0 rfl)) fun a hS => ?_
  refine sv_r (v := pt g 0) hS (ex_ia (i := 0) (E := 74) Tryz.underlying53 Tryz.sizeOf74 (hS.get 7 rfl) rfl (by omega)) fun a hS => ?_
  refine sv_r (v := .agg k.icells) hS (ex_lb ag_impl_Cue (hS.get 8 rfl) (hS.at 0 rfl) rfl) fun a hS => ?_
  refine sv_al hS al_impl_Cue (by decide) ?_
  intro g1 a w2 hg1 hbw2 hwg1 hS
  refine sv_sb (i := 0) (m' := [⟨g1, k.icells, 74, true⟩, ⟨g, k.icells, 74, false⟩]) hS ag_impl_Cue (hS.get 3 rfl) (hS.get 9 rfl) rfl rfl rfl (by intro u hu; simp only [Cq.icells, List.mem_cons, List.not_mem_nil, or_false] at hu; rcases hu with rfl | rfl | rfl | rfl | rfl | rfl <;> rfl) rfl ?_
  intro w3 hty hS
  refine wpList_nil ?_
  replace hS := hS.cut [3, 6, 2, 0]
  show Code.wp _ _ _ _ _
  refine wp_seq ?_
  refine wp_region_lit ?_
  refine sv_r (v := pt g1 0) hS (ex_fo (hS.get 3 rfl) fo_impl_Cue_0 rfl) fun a hS => ?_
  refine sv_r (v := .int .i64 ((k.syn : Nat) : Int)) hS (ex_ld (hS.get 10 rfl) lt_int (cell_of_heap (v := .int .i64 ((k.syn : Nat) : Int)) (hS.at 0 rfl) rfl)) fun a hS => ?_
  refine sv_r (v := .int .u64 ((k.syn : Nat) : Int)) hS (ex_cv (hS.get 11 rfl) (cv_int_m3u8_SCTE35Syntax _ (by rw [IntKind.wrap_u64]; omega))) fun a hS => ?_
  refine sv_r (v := pt g1 1) hS (ex_fo (hS.get 3 rfl) fo_impl_Cue_1 rfl) fun a hS => ?_
  refine sv_r (v := .int .i64 ((k.typ : Nat) : Int)) hS (ex_ld (hS.get 13 rfl) lt_int (cell_of_heap (v := .int .i64 ((k.typ : Nat) : Int)) (hS.at 0 rfl) rfl)) fun a hS => ?_
  refine sv_r (v := .int .u64 ((k.typ : Nat) : Int)) hS (ex_cv (hS.get 14 rfl) (cv_int_m3u8_SCTE35CueType _ (by rw [IntKind.wrap_u64]; omega))) fun a hS => ?_
  refine sv_r (v := pt g1 2) hS (ex_fo (hS.get 3 rfl) fo_impl_Cue_2 rfl) fun a hS => ?_
  refine sv_r (v := .string k.cue) hS (ex_ld (hS.get 16 rfl) lt_string (cell_of_heap (v := .string k.cue) (hS.at 0 rfl) rfl)) fun a hS => ?_
  refine sv_r (v := pt g1 3) hS (ex_fo (hS.get 3 rfl) fo_impl_Cue_3 rfl) fun a hS => ?_
  refine sv_r (v := .string k.id) hS (ex_ld (hS.get 18 rfl) lt_string (cell_of_heap (v := .string k.id) (hS.at 0 rfl) rfl)) fun a hS => ?_
  refine sv_r (v := pt g1 4) hS (ex_fo (hS.get 3 rfl) fo_impl_Cue_4 rfl) fun a hS => ?_
  refine sv_r (v := .float .f64 (e8 k.time)) hS (ex_ld (hS.get 20 rfl) lt_float64 (cell_of_heap (v := .float .f64 (e8 k.time)) (hS.at 0 rfl) rfl)) fun a hS => ?_
  refine sv_r (v := pt g1 5) hS (ex_fo (hS.get 3 rfl) fo_impl_Cue_5 rfl) fun a hS => ?_
  refine sv_r (v := .float .f64 (e8 k.elapsed)) hS (ex_ld (hS.get 22 rfl) lt_float64 (cell_of_heap (v := .float .f64 (e8 k.elapsed)) (hS.at 0 rfl) rfl)) fun a hS => ?_
  refine sv_r (v := .agg #[.int .u64 ((k.syn : Nat) : Int), .int .u64 ((k.typ : Nat) : Int), .string k.cue, .string k.id, .float .f64 (e8 k.time), .float .f64 (e8 k.elapsed)]) hS (by simp only [execOp, List.map_toArray, List.map_cons, List.map_nil, hS.get 12 rfl, hS.get 15 rfl, hS.get 17 rfl, hS.get 19 rfl, hS.get 21 rfl, hS.get 23 rfl]; go_simp) fun a hS => ?_
  refine sv_box hS (hS.get 24 rfl) (bx_m3u8_SCTE _) (by decide) ?_
  intro g4 a w5 hg4 hbw5 hwg4 hS
  refine sv_r (v := pt g4 0) hS (ex_as (hS.get 25 rfl)) fun a hS => ?_
  refine wpList_nil ?_
  replace hS := hS.cut [2, 3, 6, 0]
  show Code.wp _ _ _ _ _
  refine wp_ret ?_
  try simp only [Exit.inBlock, Exit.then]
  exact ret_of_ev hS.ev rfl (hS.get 2 rfl) ⟨_, rfl, hS.toBelow, .new (hS.at 0 rfl)⟩
theorem toSegment_any (x : Sx) (hx : SegOk x.1) (w : World) (hA : x.At w) : Calls Tryz.prog 13 #[.agg x.cells] w fun e w' => ∃ v, e = .returned v ∧ Below w.heap.size w w' ∧ ∃ y : Iy, v = .agg y.cells ∧ y.s = x.1 ∧ y.c = none ∧ y.At w' := by
 have he := hx.e
 refine calls_of_ev Tryz.func13 rfl (show 1 ≤ 26 from by decide) ?_
 intro a hE
 have hE : Ev 26 ((0, .agg x.cells) :: []) a := hE
 have hS : Sv 26 ((0, .agg x.cells) :: []) [] (fun _ => False) w a w := Sv.start hE _ _
 clear hE
 refine wp_seq ?_
 refine wp_region_lit ?_
 refine sv_box hS (hS.get 0 rfl) (bx_spec_Segment _) (by decide) ?_
 intro g1 a w2 hg1 hbw2 hwg1 hS
 replace hA := hA.ty (TyOnly.of_below (ts := []) hbw2) (by decide)
 refine sv_al hS al_impl_Segment (by decide) ?_
 intro g3 a w4 hg3 hbw4 hwg3 hS
 replace hA := hA.ty (TyOnly.of_below (ts := []) hbw4) (by decide)
 refine wpList_nil ?_
 replace hS := hS.cut [2, 1]
 show Code.wp _ _ _ _ _
 refine wp_seq ?_
 refine wp_region_og1 (n := 26) 22 [Asr.eq (pt g1 0), Asr.eq (.string x.1.title), Asr.eq (pt g1 1), Asr.eq (.string x.1.uri), Asr.eq (pt g1 2), Asr.eq (.int .i64 ((x.1.e : Nat) : Int)), Asr.eq (.float .f64 (floatOfInt .f64 (((x.1.e : Nat) : Int)))), Asr.eq (.float .f64 (e8 x.1.e)), Asr.eq (pt g1 3), Asr.eq (.int .i64 ((x.1.limit : Nat) : Int)), Asr.eq (pt g1 4), Asr.eq (.int .i64 ((x.1.offset : Nat) : Int)), Asr.eq (pt g1 7), Asr.eq (.bool (x.1.disc)), Asr.eq (pt g1 8), Asr.eq (.string x.1.date), Asr.eq (pt g1 5), Asr.eq (x.2.1), Asr.any (fun v w' => ∃ p n c, v = .slice p n c ∧ OneOf1 97 (x.1.key.map Ky.cells) (.slice p n c) w'), Asr.eq (pt g1 6), Asr.eq (x.2.2), Asr.any (fun v w' => ∃ p n c, v = .slice p n c ∧ OneOf1 100 (x.1.map.map Mp.cells) (.slice p n c) w')] (by kernel_rfl) (by kernel_rfl) (by kernel_rfl) (by simp) (by kernel_rfl) hS.ev.size ⟨(fun i _ _ v w w' _ ho hp => by obtain ⟨p, n, c, h1, h2⟩ := hp; exact ⟨p, n, c, h1, h2.keep (only_below0 ho)⟩), (fun i _ _ v w w' _ ho hp => by obtain ⟨p, n, c, h1, h2⟩ := hp; exact ⟨p, n, c, h1, h2.keep (only_below0 ho)⟩), ⟨⟩⟩ ?_ ?_
 ·simp only [List.take_succ_cons, List.take_zero]
  refine ⟨?_, ?_, ?_, ?_, ?_, ?_, ?_, ?_, ?_, ?_, ?_, ?_, ?_, ?_, ?_, ?_, ?_, ?_, ?_, ?_, ?_, ?_, trivial⟩
  ·intro a wx c
   have e_1 : a.eval (.tmp 1) = pt g1 0 := c.outE (by decide +kernel) (hS.get 1 rfl)
   clear c
   exact og_val (ex_fo e_1 fo_spec_Segment_0 rfl) rfl
  ·intro a wx c
   have e_3 : a.eval (.tmp 3) = pt g1 0 := c.slot 0 _ (by decide +kernel) rfl
   have hO := hS.ogc c
   clear c
   exact og_val (ex_ld e_3 lt_string (cell_of_heap (v := .string x.1.title) (hO.at 1 rfl) rfl)) rfl
  ·intro a wx c
   have e_1 : a.eval (.tmp 1) = pt g1 0 := c.outE (by decide +kernel) (hS.get 1 rfl)
   clear c
   exact og_val (ex_fo e_1 fo_spec_Segment_1 rfl) rfl
  ·intro a wx c
   have e_5 : a.eval (.tmp 5) = pt g1 1 := c.slot 2 _ (by decide +kernel) rfl
   have hO := hS.ogc c
   clear c
   exact og_val (ex_ld e_5 lt_string (cell_of_heap (v := .string x.1.uri) (hO.at 1 rfl) rfl)) rfl
  ·intro a wx c
   have e_1 : a.eval (.tmp 1) = pt g1 0 := c.outE (by decide +kernel) (hS.get 1 rfl)
   clear c
   exact og_val (ex_fo e_1 fo_spec_Segment_2 rfl) rfl
  ·intro a wx c
   have e_7 : a.eval (.tmp 7) = pt g1 2 := c.slot 4 _ (by decide +kernel) rfl
   have hO := hS.ogc c
   clear c
   exact og_val (ex_ld e_7 lt_int (cell_of_heap (v := .int .i64 ((x.1.e : Nat) : Int)) (hO.at 1 rfl) rfl)) rfl
  ·intro a wx c
   have e_8 : a.eval (.tmp 8) = .int .i64 ((x.1.e : Nat) : Int) := c.slot 5 _ (by decide +kernel) rfl
   clear c
   exact og_val (ex_cv e_8 (cv_int_float64 _)) rfl
  ·intro a wx c
   have e_9 : a.eval (.tmp 9) = .float .f64 (floatOfInt .f64 (((x.1.e : Nat) : Int))) := c.slot 6 _ (by decide +kernel) rfl
   clear c
   exact og_val (ex_quo8 e_9 (by omega)) rfl
  ·intro a wx c
   have e_1 : a.eval (.tmp 1) = pt g1 0 := c.outE (by decide +kernel) (hS.get 1 rfl)
   clear c
   exact og_val (ex_fo e_1 fo_spec_Segment_3 rfl) rfl
  ·intro a wx c
   have e_11 : a.eval (.tmp 11) = pt g1 3 := c.slot 8 _ (by decide +kernel) rfl
   have hO := hS.ogc c
   clear c
   exact og_val (ex_ld e_11 lt_int64 (cell_of_heap (v := .int .i64 ((x.1.limit : Nat) : Int)) (hO.at 1 rfl) rfl)) rfl
  ·intro a wx c
   have e_1 : a.eval (.tmp 1) = pt g1 0 := c.outE (by decide +kernel) (hS.get 1 rfl)
   clear c
   exact og_val (ex_fo e_1 fo_spec_Segment_4 rfl) rfl
  ·intro a wx c
   have e_13 : a.eval (.tmp 13) = pt g1 4 := c.slot 10 _ (by decide +kernel) rfl
   have hO := hS.ogc c
   clear c
   exact og_val (ex_ld e_13 lt_int64 (cell_of_heap (v := .int .i64 ((x.1.offset : Nat) : Int)) (hO.at 1 rfl) rfl)) rfl
  ·intro a wx c
   have e_1 : a.eval (.tmp 1) = pt g1 0 := c.outE (by decide +kernel) (hS.get 1 rfl)
   clear c
   exact og_val (ex_fo e_1 fo_spec_Segment_7 rfl) rfl
  ·intro a wx c
   have e_15 : a.eval (.tmp 15) = pt g1 7 := c.slot 12 _ (by decide +kernel) rfl
   have hO := hS.ogc c
   clear c
   exact og_val (ex_ld e_15 lt_bool (cell_of_heap (v := .bool (x.1.disc)) (hO.at 1 rfl) rfl)) rfl
  ·intro a wx c
   have e_1 : a.eval (.tmp 1) = pt g1 0 := c.outE (by decide +kernel) (hS.get 1 rfl)
   clear c
   exact og_val (ex_fo e_1 fo_spec_Segment_8 rfl) rfl
  ·intro a wx c
   have e_17 : a.eval (.tmp 17) = pt g1 8 := c.slot 14 _ (by decide +kernel) rfl
   have hO := hS.ogc c
   clear c
   exact og_val (ex_ld e_17 lt_string (cell_of_heap (v := .string x.1.date) (hO.at 1 rfl) rfl)) rfl
  ·intro a wx c
   have e_1 : a.eval (.tmp 1) = pt g1 0 := c.outE (by decide +kernel) (hS.get 1 rfl)
   clear c
   exact og_val (ex_fo e_1 fo_spec_Segment_5 rfl) rfl
  ·intro a wx c
   have e_19 : a.eval (.tmp 19) = pt g1 5 := c.slot 16 _ (by decide +kernel) rfl
   have hO := hS.ogc c
   clear c
   exact og_val (ex_ld e_19 lt_p_spec_Key (cell_of_heap (v := x.2.1) (hO.at 1 rfl) rfl)) rfl
  ·intro a wx c
   have e_20 : a.eval (.tmp 20) = x.2.1 := c.slot 17 _ (by decide +kernel) rfl
   have hO := hS.ogc c
   have hbx := drew_below c.only
   clear c
   exact og_call (ex_call1 cf_laws_toKeys e_20) (Calls.mono (toKeys_any x.1.key _ wx (hA.1.keep hbx)) (by rintro e w' ⟨v', h1, h2, h3⟩; obtain ⟨p, n, c, rfl⟩ := h3.form; exact ⟨_, h1, h2, p, n, c, rfl, h3⟩))
  ·intro a wx c
   have e_1 : a.eval (.tmp 1) = pt g1 0 := c.outE (by decide +kernel) (hS.get 1 rfl)
   clear c
   exact og_val (ex_fo e_1 fo_spec_Segment_6 rfl) rfl
  ·intro a wx c
   have e_22 : a.eval (.tmp 22) = pt g1 6 := c.slot 19 _ (by decide +kernel) rfl
   have hO := hS.ogc c
   clear c
   exact og_val (ex_ld e_22 lt_p_spec_Map (cell_of_heap (v := x.2.2) (hO.at 1 rfl) rfl)) rfl
  ·intro a wx c
   have e_23 : a.eval (.tmp 23) = x.2.2 := c.slot 20 _ (by decide +kernel) rfl
   have hO := hS.ogc c
   have hbx := drew_below c.only
   clear c
   exact og_call (ex_call1 cf_laws_toMaps e_23) (Calls.mono (toMaps_any x.1.map _ wx (hA.2.keep hbx)) (by rintro e w' ⟨v', h1, h2, h3⟩; obtain ⟨p, n, c, rfl⟩ := h3.form; exact ⟨_, h1, h2, p, n, c, rfl, h3⟩))
 ·intro a w5 c hbw5
  replace hA := hA.ty (TyOnly.of_below (ts := []) hbw5) (by decide)
  obtain ⟨kp, kn, kc, e_21, hkv⟩ : ∃ p n c, (a.eval (.tmp 21)) = .slice p n c ∧ OneOf1 97 (x.1.key.map Ky.cells) (.slice p n c) w5 := c.slot 18 _ (by decide +kernel) rfl
  obtain ⟨mp, mn, mc, e_24, hmv⟩ : ∃ p n c, (a.eval (.tmp 24)) = .slice p n c ∧ OneOf1 100 (x.1.map.map Mp.cells) (.slice p n c) w5 := c.slot 21 _ (by decide +kernel) rfl
  replace hS : Sv 26 ((24, .slice mp mn mc) :: (21, .slice kp kn kc) :: (18, .string x.1.date) :: (16, .bool (x.1.disc)) :: (14, .int .i64 ((x.1.offset : Nat) : Int)) :: (12, .int .i64 ((x.1.limit : Nat) : Int)) :: (10, .float .f64 (e8 x.1.e)) :: (6, .string x.1.uri) :: (4, .string x.1.title) :: (1, pt g1 0) :: (2, pt g3 0) :: []) [⟨g3, #[.int .u64 0, .string ⟨#[]⟩, .string ⟨#[]⟩, .float .f64 0, .int .i64 0, .int .i64 0, .slice none 0 0, .slice none 0 0, .slice none 0 0, .bool false, .string ⟨#[]⟩], 55, true⟩, ⟨g1, x.cells, 40, true⟩] (fun _ => False) w a w5 := ((((((((((((hS.ogh c).know (c.outE (by decide +kernel) (hS.get 2 rfl))).know (c.outE (by decide +kernel) (hS.get 1 rfl))).know (c.slot 1 _ (by decide +kernel) rfl)).know (c.slot 3 _ (by decide +kernel) rfl)).know (c.slot 7 _ (by decide +kernel) rfl)).know (c.slot 9 _ (by decide +kernel) rfl)).know (c.slot 11 _ (by decide +kernel) rfl)).know (c.slot 13 _ (by decide +kernel) rfl)).know (c.slot 15 _ (by decide +kernel) rfl)).know e_21).know e_24)
  clear c
  simp only [List.drop_succ_cons, List.drop_zero]
  refine sv_r (v := .agg #[.int .u64 0, .string x.1.title, .string x.1.uri, .float .f64 (e8 x.1.e), .int .i64 ((x.1.limit : Nat) : Int), .int .i64 ((x.1.offset : Nat) : Int), .slice kp kn kc, .slice mp mn mc, .slice none 0 0, .bool (x.1.disc), .string x.1.date]) hS (by simp only [execOp, List.map_toArray, List.map_cons, List.map_nil, hS.get 4 rfl, hS.get 6 rfl, hS.get 10 rfl, hS.get 12 rfl, hS.get 14 rfl, hS.get 16 rfl, hS.get 18 rfl, hS.get 21 rfl, hS.get 24 rfl]; go_simp) fun a hS => ?_
  refine sv_sb (i := 0) (m' := [⟨g3, #[.int .u64 0, .string x.1.title, .string x.1.uri, .float .f64 (e8 x.1.e), .int .i64 ((x.1.limit : Nat) : Int), .int .i64 ((x.1.offset : Nat) : Int), .slice kp kn kc, .slice mp mn mc, .slice none 0 0, .bool (x.1.disc), .string x.1.date], 55, true⟩, ⟨g1, x.cells, 40, true⟩]) hS ag_impl_Segment (hS.get 2 rfl) (hS.get 25 rfl) rfl rfl rfl (by intro u hu; simp only [List.mem_cons, List.not_mem_nil, or_false] at hu; rcases hu with rfl | rfl | rfl | rfl | rfl | rfl | rfl | rfl | rfl | rfl | rfl <;> rfl) rfl ?_
  intro w6 hty hS
  replace hA := hA.ty hty (by decide)
  replace hkv := hkv.ty hty (by decide)
  replace hmv := hmv.ty hty (by decide)
  refine wpList_nil ?_
  replace hS := hS.cut [2]
  show Code.wp _ _ _ _ _
  refine wp_ret ?_
  try simp only [Exit.inBlock, Exit.then]
  exact ret_cell hS.ev rfl ag_impl_Segment (hS.get 2 rfl) (hS.at 0 rfl) rfl ⟨_, rfl, hS.toBelow, ⟨x.1, none, .slice kp kn kc, .slice mp mn mc, .slice none 0 0⟩, rfl, rfl, rfl, ⟨hkv, hmv, .nil⟩⟩
theorem segmentTo_any (y : Iy) (hc : ∀ c, y.c = some c → CueOk c) (w : World) (hA : y.At w) : Calls Tryz.prog 17 #[.agg y.cells] w fun e w' => ∃ v, e = .returned v ∧ Below w.heap.size w w' ∧ ∃ (g : Nat) (z : Mz), v = pt g 0 ∧ w.heap.size ≤ g ∧ z.s = y.s ∧ z.c = y.c ∧ z.seq = 0 ∧ w'.heap[g]? = some (.cells z.cells 104 (0, 0)) ∧ z.At w' := by
 refine calls_of_ev Tryz.func17 rfl (show 1 ≤ 28 from by decide) ?_
 intro a hE
 have hE : Ev 28 ((0, .agg y.cells) :: []) a := hE
 have hS : Sv 28 ((0, .agg y.cells) :: []) [] (fun _ => False) w a w := Sv.start hE _ _
 clear hE
 refine wp_seq ?_
 refine wp_region_lit ?_
 refine sv_box hS (hS.get 0 rfl) (bx_impl_Segment _) (by decide) ?_
 intro g1 a w2 hg1 hbw2 hwg1 hS
 replace hA := hA.ty (TyOnly.of_below (ts := []) hbw2) (by decide)
 refine sv_r (v := .pointer none) hS ex_ac fun a hS => ?_
 refine wpList_nil ?_
 replace hS := hS.cut [2, 1]
 show Code.wp _ _ _ _ _
 refine wp_seq ?_
 refine wp_region_og1 (n := 28) 23 [Asr.eq (pt g1 1), Asr.eq (.string y.s.title), Asr.eq (pt g1 2), Asr.eq (.string y.s.uri), Asr.eq (pt g1 3), Asr.eq (.float .f64 (e8 y.s.e)), Asr.eq (pt g1 4), Asr.eq (.int .i64 ((y.s.limit : Nat) : Int)), Asr.eq (pt g1 5), Asr.eq (.int .i64 ((y.s.offset : Nat) : Int)), Asr.eq (pt g1 6), Asr.eq (y.kv), Asr.any (fun v w' => ∃ p, v = .pointer p ∧ PtrTo 108 (y.s.key.map Ky.cells) (.pointer p) w'), Asr.eq (pt g1 7), Asr.eq (y.mv), Asr.any (fun v w' => ∃ p, v = .pointer p ∧ PtrTo 109 (y.s.map.map Mp.cells) (.pointer p) w'), Asr.eq (pt g1 8), Asr.eq (y.cv), Asr.any (fun v w' => ∃ p, v = .pointer p ∧ PtrTo 121 (y.c.map Cq.mcells) (.pointer p) w'), Asr.eq (pt g1 9), Asr.eq (.bool (y.s.disc)), Asr.eq (pt g1 10), Asr.eq (.string y.s.date)] (by kernel_rfl) (by kernel_rfl) (by kernel_rfl) (by simp) (by kernel_rfl) hS.ev.size ⟨(fun i _ _ v w w' _ ho hp => by obtain ⟨p, h1, h2⟩ := hp; exact ⟨p, h1, h2.keep (only_below0 ho)⟩), (fun i _ _ v w w' _ ho hp => by obtain ⟨p, h1, h2⟩ := hp; exact ⟨p, h1, h2.keep (only_below0 ho)⟩), (fun i _ _ v w w' _ ho hp => by obtain ⟨p, h1, h2⟩ := hp; exact ⟨p, h1, h2.keep (only_below0 ho)⟩), ⟨⟩⟩ ?_ ?_
 ·simp only [List.take_succ_cons, List.take_zero]
  refine ⟨?_, ?_, ?_, ?_, ?_, ?_, ?_, ?_, ?_, ?_, ?_, ?_, ?_, ?_, ?_, ?_, ?_, ?_, ?_, ?_, ?_, ?_, ?_, trivial⟩
  ·intro a wx c
   have e_1 : a.eval (.tmp 1) = pt g1 0 := c.outE (by decide +kernel) (hS.get 1 rfl)
   clear c
   exact og_val (ex_fo e_1 fo_impl_Segment_1 rfl) rfl
  ·intro a wx c
   have e_3 : a.eval (.tmp 3) = pt g1 1 := c.slot 0 _ (by decide +kernel) rfl
   have hO := hS.ogc c
   clear c
   exact og_val (ex_ld e_3 lt_string (cell_of_heap (v := .string y.s.title) (hO.at 0 rfl) rfl)) rfl
  ·intro a wx c
   have e_1 : a.eval (.tmp 1) = pt g1 0 := c.outE (by decide +kernel) (hS.get 1 rfl)
   clear c
   exact og_val (ex_fo e_1 fo_impl_Segment_2 rfl) rfl
  ·intro a wx c
   have e_5 : a.eval (.tmp 5) = pt g1 2 := c.slot 2 _ (by decide +kernel) rfl
   have hO := hS.ogc c
   clear c
   exact og_val (ex_ld e_5 lt_string (cell_of_heap (v := .string y.s.uri) (hO.at 0 rfl) rfl)) rfl
  ·intro a wx c
   have e_1 : a.eval (.tmp 1) = pt g1 0 := c.outE (by decide +kernel) (hS.get 1 rfl)
   clear c
   exact og_val (ex_fo e_1 fo_impl_Segment_3 rfl) rfl
  ·intro a wx c
   have e_7 : a.eval (.tmp 7) = pt g1 3 := c.slot 4 _ (by decide +kernel) rfl
   have hO := hS.ogc c
   clear c
   exact og_val (ex_ld e_7 lt_float64 (cell_of_heap (v := .float .f64 (e8 y.s.e)) (hO.at 0 rfl) rfl)) rfl
  ·intro a wx c
   have e_1 : a.eval (.tmp 1) = pt g1 0 := c.outE (by decide +kernel) (hS.get 1 rfl)
   clear c
   exact og_val (ex_fo e_1 fo_impl_Segment_4 rfl) rfl
  ·intro a wx c
   have e_9 : a.eval (.tmp 9) = pt g1 4 := c.slot 6 _ (by decide +kernel) rfl
   have hO := hS.ogc c
   clear c
   exact og_val (ex_ld e_9 lt_int64 (cell_of_heap (v := .int .i64 ((y.s.limit : Nat) : Int)) (hO.at 0 rfl) rfl)) rfl
  ·intro a wx c
   have e_1 : a.eval (.tmp 1) = pt g1 0 := c.outE (by decide +kernel) (hS.get 1 rfl)
   clear c
   exact og_val (ex_fo e_1 fo_impl_Segment_5 rfl) rfl
  ·intro a wx c
   have e_11 : a.eval (.tmp 11) = pt g1 5 := c.slot 8 _ (by decide +kernel) rfl
   have hO := hS.ogc c
   clear c
   exact og_val (ex_ld e_11 lt_int64 (cell_of_heap (v := .int .i64 ((y.s.offset : Nat) : Int)) (hO.at 0 rfl) rfl)) rfl
  ·intro a wx c
   have e_1 : a.eval (.tmp 1) = pt g1 0 := c.outE (by decide +kernel) (hS.get 1 rfl)
   clear c
   exact og_val (ex_fo e_1 fo_impl_Segment_6 rfl) rfl
  ·intro a wx c
   have e_13 : a.eval (.tmp 13) = pt g1 6 := c.slot 10 _ (by decide +kernel) rfl
   have hO := hS.ogc c
   clear c
   exact og_val (ex_ld e_13 lt_sl_impl_Key (cell_of_heap (v := y.kv) (hO.at 0 rfl) rfl)) rfl
  ·intro a wx c
   have e_14 : a.eval (.tmp 14) = y.kv := c.slot 11 _ (by decide +kernel) rfl
   have hO := hS.ogc c
   have hbx := drew_below c.only
   clear c
   exact og_call (ex_call1 cf_impl_keyTo e_14) (Calls.mono (keyTo_any y.s.key _ wx (hA.k.keep hbx)) (by rintro e w' ⟨v', h1, h2, h3⟩; obtain ⟨p, rfl⟩ := h3.form; exact ⟨_, h1, h2, p, rfl, h3⟩))
  ·intro a wx c
   have e_1 : a.eval (.tmp 1) = pt g1 0 := c.outE (by decide +kernel) (hS.get 1 rfl)
   clear c
   exact og_val (ex_fo e_1 fo_impl_Segment_7 rfl) rfl
  ·intro a wx c
   have e_16 : a.eval (.tmp 16) = pt g1 7 := c.slot 13 _ (by decide +kernel) rfl
   have hO := hS.ogc c
   clear c
   exact og_val (ex_ld e_16 lt_sl_impl_Map (cell_of_heap (v := y.mv) (hO.at 0 rfl) rfl)) rfl
  ·intro a wx c
   have e_17 : a.eval (.tmp 17) = y.mv := c.slot 14 _ (by decide +kernel) rfl
   have hO := hS.ogc c
   have hbx := drew_below c.only
   clear c
   exact og_call (ex_call1 cf_impl_mapTo e_17) (Calls.mono (mapTo_any y.s.map _ wx (hA.m.keep hbx)) (by rintro e w' ⟨v', h1, h2, h3⟩; obtain ⟨p, rfl⟩ := h3.form; exact ⟨_, h1, h2, p, rfl, h3⟩))
  ·intro a wx c
   have e_1 : a.eval (.tmp 1) = pt g1 0 := c.outE (by decide +kernel) (hS.get 1 rfl)
   clear c
   exact og_val (ex_fo e_1 fo_impl_Segment_8 rfl) rfl
  ·intro a wx c
   have e_19 : a.eval (.tmp 19) = pt g1 8 := c.slot 16 _ (by decide +kernel) rfl
   have hO := hS.ogc c
   clear c
   exact og_val (ex_ld e_19 lt_sl_impl_Cue (cell_of_heap (v := y.cv) (hO.at 0 rfl) rfl)) rfl
  ·intro a wx c
   have e_20 : a.eval (.tmp 20) = y.cv := c.slot 17 _ (by decide +kernel) rfl
   have hO := hS.ogc c
   have hbx := drew_below c.only
   clear c
   exact og_call (ex_call1 cf_impl_cueTo e_20) (Calls.mono (cueTo_any y.c _ hc wx (hA.c.keep hbx)) (by rintro e w' ⟨v', h1, h2, h3⟩; obtain ⟨p, rfl⟩ := h3.form; exact ⟨_, h1, h2, p, rfl, h3⟩))
  ·intro a wx c
   have e_1 : a.eval (.tmp 1) = pt g1 0 := c.outE (by decide +kernel) (hS.get 1 rfl)
   clear c
   exact og_val (ex_fo e_1 fo_impl_Segment_9 rfl) rfl
  ·intro a wx c
   have e_22 : a.eval (.tmp 22) = pt g1 9 := c.slot 19 _ (by decide +kernel) rfl
   have hO := hS.ogc c
   clear c
   exact og_val (ex_ld e_22 lt_bool (cell_of_heap (v := .bool (y.s.disc)) (hO.at 0 rfl) rfl)) rfl
  ·intro a wx c
   have e_1 : a.eval (.tmp 1) = pt g1 0 := c.outE (by decide +kernel) (hS.get 1 rfl)
   clear c
   exact og_val (ex_fo e_1 fo_impl_Segment_10 rfl) rfl
  ·intro a wx c
   have e_24 : a.eval (.tmp 24) = pt g1 10 := c.slot 21 _ (by decide +kernel) rfl
   have hO := hS.ogc c
   clear c
   exact og_val (ex_ld e_24 lt_string (cell_of_heap (v := .string y.s.date) (hO.at 0 rfl) rfl)) rfl
 ·intro a w3 c hbw3
  replace hA := hA.ty (TyOnly.of_below (ts := []) hbw3) (by decide)
  obtain ⟨kp, e_15, hkv⟩ : ∃ p, (a.eval (.tmp 15)) = .pointer p ∧ PtrTo 108 (y.s.key.map Ky.cells) (.pointer p) w3 := c.slot 12 _ (by decide +kernel) rfl
  obtain ⟨mp, e_18, hmv⟩ : ∃ p, (a.eval (.tmp 18)) = .pointer p ∧ PtrTo 109 (y.s.map.map Mp.cells) (.pointer p) w3 := c.slot 15 _ (by decide +kernel) rfl
  obtain ⟨cp, e_21, hcv⟩ : ∃ p, (a.eval (.tmp 21)) = .pointer p ∧ PtrTo 121 (y.c.map Cq.mcells) (.pointer p) w3 := c.slot 18 _ (by decide +kernel) rfl
  replace hS : Sv 28 ((25, .string y.s.date) :: (23, .bool (y.s.disc)) :: (21, .pointer cp) :: (18, .pointer mp) :: (15, .pointer kp) :: (12, .int .i64 ((y.s.offset : Nat) : Int)) :: (10, .int .i64 ((y.s.limit : Nat) : Int)) :: (8, .float .f64 (e8 y.s.e)) :: (6, .string y.s.uri) :: (4, .string y.s.title) :: (1, pt g1 0) :: (2, .pointer none) :: []) [⟨g1, y.cells, 55, true⟩] (fun _ => False) w a w3 := (((((((((((((hS.ogh c).know (c.outE (by decide +kernel) (hS.get 2 rfl))).know (c.outE (by decide +kernel) (hS.get 1 rfl))).know (c.slot 1 _ (by decide +kernel) rfl)).know (c.slot 3 _ (by decide +kernel) rfl)).know (c.slot 5 _ (by decide +kernel) rfl)).know (c.slot 7 _ (by decide +kernel) rfl)).know (c.slot 9 _ (by decide +kernel) rfl)).know e_15).know e_18).know e_21).know (c.slot 20 _ (by decide +kernel) rfl)).know (c.slot 22 _ (by decide +kernel) rfl))
  clear c
  simp only [List.drop_succ_cons, List.drop_zero]
  refine sv_r (v := .agg #[.int .u64 0, .string y.s.title, .string y.s.uri, .float .f64 (e8 y.s.e), .int .i64 ((y.s.limit : Nat) : Int), .int .i64 ((y.s.offset : Nat) : Int), .pointer kp, .pointer mp, .bool (y.s.disc), .pointer cp, .string y.s.date]) hS (by simp only [execOp, List.map_toArray, List.map_cons, List.map_nil, hS.get 4 rfl, hS.get 6 rfl, hS.get 8 rfl, hS.get 10 rfl, hS.get 12 rfl, hS.get 15 rfl, hS.get 18 rfl, hS.get 21 rfl, hS.get 23 rfl, hS.get 25 rfl]; go_simp) fun a hS => ?_
  refine sv_box hS (hS.get 26 rfl) (bx_m3u8_MediaSegment _) (by decide) ?_
  intro g4 a w5 hg4 hbw5 hwg4 hS
  replace hA := hA.ty (TyOnly.of_below (ts := []) hbw5) (by decide)
  replace hkv := hkv.ty (TyOnly.of_below (ts := []) hbw5) (by decide)
  replace hmv := hmv.ty (TyOnly.of_below (ts := []) hbw5) (by decide)
  replace hcv := hcv.ty (TyOnly.of_below (ts := []) hbw5) (by decide)
  refine sv_r (v := pt g4 0) hS (ex_as (hS.get 27 rfl)) fun a hS => ?_
  refine wpList_nil ?_
  replace hS := hS.cut [2]
  show Code.wp _ _ _ _ _
  refine wp_ret ?_
  try simp only [Exit.inBlock, Exit.then]
  exact ret_of_ev hS.ev rfl (hS.get 2 rfl) ⟨_, rfl, hS.toBelow, g4, ⟨y.s, y.c, 0, .pointer kp, .pointer mp, .pointer cp⟩, rfl, hg4, rfl, rfl, rfl, hS.at 0 rfl, ⟨hkv, hmv, hcv⟩⟩
/-- A media playlist as data. -/
def Md.icells (m : Md) (args : ByteArray) (dl : Value) : Array Value := #[.float .f64 (floatOfInt .f64 (m.target : Int)), .int .u64 (m.seq : Int), dl, .string args, .bool m.iframe, .bool m.closed, .int .i64 (m.typ : Int), .int .u64 (m.disc : Int), .float .f64 (e8 m.start), .bool m.precise, .int .i64 (m.version : Int), .slice none 0 0, .slice none 0 0, .int .i64 0]
theorem Md.ione (m : Md) (args : ByteArray) {sl : Value} (h : sl.oneCell' = true) : ∀ u ∈ (m.icells args sl).toList, u.oneCell' = true := by
 intro u hu
 simp only [Md.icells, List.mem_cons, List.not_mem_nil, or_false] at hu
 rcases hu with rfl | rfl | rfl | rfl | rfl | rfl | rfl | rfl | rfl | rfl | rfl | rfl | rfl | rfl <;> first | rfl | exact h
def AllIs (ys : List Iy) (w : World) : Prop := ∀ y ∈ ys, y.At w
theorem AllIs.ty {ys : List Iy} {w w' : World} {ts : List TypeId} (h : AllIs ys w) (hb : TyOnly ts w w') (ht : (ts.all fun u => u != 97 && (u != 100 && u != 74)) = true) : AllIs ys w' := fun x hx => (h x hx).ty hb ht
theorem AllIs.snoc {ys : List Iy} {y : Iy} {w : World} (h : AllIs ys w) (hx : y.At w) : AllIs (ys ++ [y]) w := by
 intro z hz
 rcases List.mem_append.1 hz with hz | hz
 ·exact h z hz
 ·rw [List.mem_singleton.1 hz]; exact hx
structure IsAt (B : Nat) (v : Value) (ys : List Iy) (w : World) : Prop where
 own : Own Iy.list 55 11 w B v ys
 ats : AllIs ys w
theorem IsAt.ty {B : Nat} {v : Value} {ys : List Iy} {w w' : World} {ts : List TypeId} (h : IsAt B v ys w) (hb : TyOnly ts w w') (ht : (ts.all fun u => u != 55 && (u != 97 && (u != 100 && u != 74))) = true) : IsAt B v ys w' := by
 rw [List.all_eq_true] at ht
 refine ⟨h.own.ty hb ?_, h.ats.ty hb ?_⟩
 ·rw [List.all_eq_true]; intro u hu; have := ht u hu; simp only [Bool.and_eq_true] at this; exact this.1
 ·rw [List.all_eq_true]; intro u hu; have := ht u hu; simp only [Bool.and_eq_true] at this; simp only [Bool.and_eq_true]; exact this.2
theorem toMedia_any (m : Md) (hm : MdOk m) (B0 : Nat) (sl : Value) (xs : List Sx) (hxl : xs.length ≤ 12) (hxs : ∀ x ∈ xs, SegOk x.1) (w : World) (hT : SegsAt B0 sl xs w) : Calls Tryz.prog 6 #[.agg (m.cells sl)] w fun e w' => ∃ v, e = .returned v ∧ Below w.heap.size w w' ∧ ∃ (dl : Value) (ys : List Iy), v = .agg (m.icells ⟨#[]⟩ dl) ∧ ys.map Iy.s = xs.map (·.1) ∧ (∀ y ∈ ys, y.c = none) ∧ IsAt w.heap.size dl ys w' := by
 have hst := hm.start
 have hsl1 := hT.own.one'
 obtain ⟨sA, sc, hsv, _⟩ := hT.own.shape
 refine calls_of_ev Tryz.func6 rfl (show 1 ≤ 50 from by decide) ?_
 intro a hE
 have hE : Ev 50 ((0, .agg (m.cells sl)) :: []) a := hE
 have hS : Sv 50 ((0, .agg (m.cells sl)) :: []) [] (fun _ => False) w a w := Sv.start hE _ _
 clear hE
 refine wp_seq ?_
 refine wp_region_lit ?_
 refine sv_box hS (hS.get 0 rfl) (bx_spec_Media _) (by decide) ?_
 intro g1 a w2 hg1 hbw2 hwg1 hS
 refine sv_al hS al_impl_Media (by decide) ?_
 intro g3 a w4 hg3 hbw4 hwg3 hS
 refine wpList_nil ?_
 replace hS := hS.cut [2, 1]
 show Code.wp _ _ _ _ _
 refine wp_seq ?_
 have hltR := hS.lt
 have hszR := hS.size
 refine wp_region_og1 (n := 50) 29 [Asr.eq (pt g1 1), Asr.eq (.int .i64 ((m.target : Nat) : Int)), Asr.eq (.float .f64 (floatOfInt .f64 (((m.target : Nat) : Int)))), Asr.eq (pt g1 2), Asr.eq (.int .u64 ((m.seq : Nat) : Int)), Asr.eq (pt g1 7), Asr.eq (.bool (m.iframe)), Asr.eq (pt g1 8), Asr.eq (.bool (m.closed)), Asr.eq (pt g1 4), Asr.eq (.int .i64 ((m.typ : Nat) : Int)), Asr.eq (pt g1 3), Asr.eq (.int .u64 ((m.disc : Nat) : Int)), Asr.eq (pt g1 5), Asr.eq (.int .i64 ((m.start : Nat) : Int)), Asr.eq (.float .f64 (floatOfInt .f64 (((m.start : Nat) : Int)))), Asr.eq (.float .f64 (e8 m.start)), Asr.eq (pt g1 6), Asr.eq (.bool (m.precise)), Asr.eq (pt g1 0), Asr.eq (.int .i64 ((m.version : Nat) : Int)), Asr.eq (pt g1 9), Asr.eq (.pointer none), Asr.eq (.slice none 0 0), Asr.eq (pt g1 10), Asr.eq (.pointer none), Asr.eq (.slice none 0 0), Asr.eq (.agg #[.float .f64 (floatOfInt .f64 (((m.target : Nat) : Int))), .int .u64 ((m.seq : Nat) : Int), .slice none 0 0, .string ⟨#[]⟩, .bool (m.iframe), .bool (m.closed), .int .i64 ((m.typ : Nat) : Int), .int .u64 ((m.disc : Nat) : Int), .float .f64 (e8 m.start), .bool (m.precise), .int .i64 ((m.version : Nat) : Int), .slice none 0 0, .slice none 0 0, .int .i64 0]), Asr.any (fun v w' => ∃ g, w4.heap.size ≤ g ∧ v = pt g 0 ∧ w'.heap[g]? = some (.cells #[.float .f64 0, .int .u64 0, .slice none 0 0, .string ⟨#[]⟩, .bool false, .bool false, .int .i64 0, .int .u64 0, .float .f64 0, .bool false, .int .i64 0, .slice none 0 0, .slice none 0 0, .int .i64 0] 37 (0, 0)))] (by kernel_rfl) (by kernel_rfl) (by kernel_rfl) (by simp) (by kernel_rfl) hS.ev.size ⟨(fun i _ _ v w w' _ ho hp => by obtain ⟨g, h1, h2, h3⟩ := hp; exact ⟨g, h1, h2, hp_below h3 (only_below0 ho)⟩), ⟨⟩⟩ ?_ ?_
 ·simp only [List.take_succ_cons, List.take_zero]
  refine ⟨?_, ?_, ?_, ?_, ?_, ?_, ?_, ?_, ?_, ?_, ?_, ?_, ?_, ?_, ?_, ?_, ?_, ?_, ?_, ?_, ?_, ?_, ?_, ?_, ?_, ?_, ?_, ?_, ?_, trivial⟩
  ·intro a wx c
   have e_1 : a.eval (.tmp 1) = pt g1 0 := c.outE (by decide +kernel) (hS.get 1 rfl)
   clear c
   exact og_val (ex_fo e_1 fo_spec_Media_1 rfl) rfl
  ·intro a wx c
   have e_6 : a.eval (.tmp 6) = pt g1 1 := c.slot 0 _ (by decide +kernel) rfl
   have hO := hS.ogc c
   clear c
   exact og_val (ex_ld e_6 lt_int (cell_of_heap (v := .int .i64 ((m.target : Nat) : Int)) (hO.at 1 rfl) rfl)) rfl
  ·intro a wx c
   have e_7 : a.eval (.tmp 7) = .int .i64 ((m.target : Nat) : Int) := c.slot 1 _ (by decide +kernel) rfl
   clear c
   exact og_val (ex_cv e_7 (cv_int_float64 _)) rfl
  ·intro a wx c
   have e_1 : a.eval (.tmp 1) = pt g1 0 := c.outE (by decide +kernel) (hS.get 1 rfl)
   clear c
   exact og_val (ex_fo e_1 fo_spec_Media_2 rfl) rfl
  ·intro a wx c
   have e_9 : a.eval (.tmp 9) = pt g1 2 := c.slot 3 _ (by decide +kernel) rfl
   have hO := hS.ogc c
   clear c
   exact og_val (ex_ld e_9 lt_uint64 (cell_of_heap (v := .int .u64 ((m.seq : Nat) : Int)) (hO.at 1 rfl) rfl)) rfl
  ·intro a wx c
   have e_1 : a.eval (.tmp 1) = pt g1 0 := c.outE (by decide +kernel) (hS.get 1 rfl)
   clear c
   exact og_val (ex_fo e_1 fo_spec_Media_7 rfl) rfl
  ·intro a wx c
   have e_11 : a.eval (.tmp 11) = pt g1 7 := c.slot 5 _ (by decide +kernel) rfl
   have hO := hS.ogc c
   clear c
   exact og_val (ex_ld e_11 lt_bool (cell_of_heap (v := .bool (m.iframe)) (hO.at 1 rfl) rfl)) rfl
  ·intro a wx c
   have e_1 : a.eval (.tmp 1) = pt g1 0 := c.outE (by decide +kernel) (hS.get 1 rfl)
   clear c
   exact og_val (ex_fo e_1 fo_spec_Media_8 rfl) rfl
  ·intro a wx c
   have e_13 : a.eval (.tmp 13) = pt g1 8 := c.slot 7 _ (by decide +kernel) rfl
   have hO := hS.ogc c
   clear c
   exact og_val (ex_ld e_13 lt_bool (cell_of_heap (v := .bool (m.closed)) (hO.at 1 rfl) rfl)) rfl
  ·intro a wx c
   have e_1 : a.eval (.tmp 1) = pt g1 0 := c.outE (by decide +kernel) (hS.get 1 rfl)
   clear c
   exact og_val (ex_fo e_1 fo_spec_Media_4 rfl) rfl
  ·intro a wx c
   have e_15 : a.eval (.tmp 15) = pt g1 4 := c.slot 9 _ (by decide +kernel) rfl
   have hO := hS.ogc c
   clear c
   exact og_val (ex_ld e_15 lt_int (cell_of_heap (v := .int .i64 ((m.typ : Nat) : Int)) (hO.at 1 rfl) rfl)) rfl
  ·intro a wx c
   have e_1 : a.eval (.tmp 1) = pt g1 0 := c.outE (by decide +kernel) (hS.get 1 rfl)
   clear c
   exact og_val (ex_fo e_1 fo_spec_Media_3 rfl) rfl
  ·intro a wx c
   have e_17 : a.eval (.tmp 17) = pt g1 3 := c.slot 11 _ (by decide +kernel) rfl
   have hO := hS.ogc c
   clear c
   exact og_val (ex_ld e_17 lt_uint64 (cell_of_heap (v := .int .u64 ((m.disc : Nat) : Int)) (hO.at 1 rfl) rfl)) rfl
  ·intro a wx c
   have e_1 : a.eval (.tmp 1) = pt g1 0 := c.outE (by decide +kernel) (hS.get 1 rfl)
   clear c
   exact og_val (ex_fo e_1 fo_spec_Media_5 rfl) rfl
  ·intro a wx c
   have e_19 : a.eval (.tmp 19) = pt g1 5 := c.slot 13 _ (by decide +kernel) rfl
   have hO := hS.ogc c
   clear c
   exact og_val (ex_ld e_19 lt_int (cell_of_heap (v := .int .i64 ((m.start : Nat) : Int)) (hO.at 1 rfl) rfl)) rfl
  ·intro a wx c
   have e_20 : a.eval (.tmp 20) = .int .i64 ((m.start : Nat) : Int) := c.slot 14 _ (by decide +kernel) rfl
   clear c
   exact og_val (ex_cv e_20 (cv_int_float64 _)) rfl
  ·intro a wx c
   have e_21 : a.eval (.tmp 21) = .float .f64 (floatOfInt .f64 (((m.start : Nat) : Int))) := c.slot 15 _ (by decide +kernel) rfl
   clear c
   exact og_val (ex_quo8 e_21 (by omega)) rfl
  ·intro a wx c
   have e_1 : a.eval (.tmp 1) = pt g1 0 := c.outE (by decide +kernel) (hS.get 1 rfl)
   clear c
   exact og_val (ex_fo e_1 fo_spec_Media_6 rfl) rfl
  ·intro a wx c
   have e_23 : a.eval (.tmp 23) = pt g1 6 := c.slot 17 _ (by decide +kernel) rfl
   have hO := hS.ogc c
   clear c
   exact og_val (ex_ld e_23 lt_bool (cell_of_heap (v := .bool (m.precise)) (hO.at 1 rfl) rfl)) rfl
  ·intro a wx c
   have e_1 : a.eval (.tmp 1) = pt g1 0 := c.outE (by decide +kernel) (hS.get 1 rfl)
   clear c
   exact og_val (ex_fo e_1 fo_spec_Media_0 rfl) rfl
  ·intro a wx c
   have e_25 : a.eval (.tmp 25) = pt g1 0 := c.slot 19 _ (by decide +kernel) rfl
   have hO := hS.ogc c
   clear c
   exact og_val (ex_ld e_25 lt_int (cell_of_heap (v := .int .i64 ((m.version : Nat) : Int)) (hO.at 1 rfl) rfl)) rfl
  ·intro a wx c
   have e_1 : a.eval (.tmp 1) = pt g1 0 := c.outE (by decide +kernel) (hS.get 1 rfl)
   clear c
   exact og_val (ex_fo e_1 fo_spec_Media_9 rfl) rfl
  ·intro a wx c
   have e_27 : a.eval (.tmp 27) = pt g1 9 := c.slot 21 _ (by decide +kernel) rfl
   have hO := hS.ogc c
   clear c
   exact og_val (ex_ld e_27 lt_p_spec_Key (cell_of_heap (v := .pointer none) (hO.at 1 rfl) rfl)) rfl
  ·intro a wx c
   have e_28 : a.eval (.tmp 28) = .pointer none := c.slot 22 _ (by decide +kernel) rfl
   have hO := hS.ogc c
   have hbx := drew_below c.only
   clear c
   have hcl : Calls Tryz.prog _ _ wx (fun e w' => e = .returned (.slice none 0 0) ∧ Below wx.heap.size wx w') := (Calls.mono (toKeys_any none _ wx .nil) (by rintro e w' ⟨v', rfl, hb, h⟩; obtain ⟨_, rfl⟩ | ⟨_, _, h, _⟩ := h; (· exact ⟨rfl, hb⟩); (· cases h)))
   refine og_call (ex_call1 cf_laws_toKeys e_28) (Calls.mono hcl ?_)
   rintro e w' ⟨rfl, hb⟩
   exact ⟨_, rfl, hb, rfl⟩
  ·intro a wx c
   have e_1 : a.eval (.tmp 1) = pt g1 0 := c.outE (by decide +kernel) (hS.get 1 rfl)
   clear c
   exact og_val (ex_fo e_1 fo_spec_Media_10 rfl) rfl
  ·intro a wx c
   have e_30 : a.eval (.tmp 30) = pt g1 10 := c.slot 24 _ (by decide +kernel) rfl
   have hO := hS.ogc c
   clear c
   exact og_val (ex_ld e_30 lt_p_spec_Map (cell_of_heap (v := .pointer none) (hO.at 1 rfl) rfl)) rfl
  ·intro a wx c
   have e_31 : a.eval (.tmp 31) = .pointer none := c.slot 25 _ (by decide +kernel) rfl
   have hO := hS.ogc c
   have hbx := drew_below c.only
   clear c
   have hcl : Calls Tryz.prog _ _ wx (fun e w' => e = .returned (.slice none 0 0) ∧ Below wx.heap.size wx w') := (Calls.mono (toMaps_any none _ wx .nil) (by rintro e w' ⟨v', rfl, hb, h⟩; obtain ⟨_, rfl⟩ | ⟨_, _, h, _⟩ := h; (· exact ⟨rfl, hb⟩); (· cases h)))
   refine og_call (ex_call1 cf_laws_toMaps e_31) (Calls.mono hcl ?_)
   rintro e w' ⟨rfl, hb⟩
   exact ⟨_, rfl, hb, rfl⟩
  ·intro a wx c
   have e_8 : a.eval (.tmp 8) = .float .f64 (floatOfInt .f64 (((m.target : Nat) : Int))) := c.slot 2 _ (by decide +kernel) rfl
   have e_10 : a.eval (.tmp 10) = .int .u64 ((m.seq : Nat) : Int) := c.slot 4 _ (by decide +kernel) rfl
   have e_12 : a.eval (.tmp 12) = .bool (m.iframe) := c.slot 6 _ (by decide +kernel) rfl
   have e_14 : a.eval (.tmp 14) = .bool (m.closed) := c.slot 8 _ (by decide +kernel) rfl
   have e_16 : a.eval (.tmp 16) = .int .i64 ((m.typ : Nat) : Int) := c.slot 10 _ (by decide +kernel) rfl
   have e_18 : a.eval (.tmp 18) = .int .u64 ((m.disc : Nat) : Int) := c.slot 12 _ (by decide +kernel) rfl
   have e_22 : a.eval (.tmp 22) = .float .f64 (e8 m.start) := c.slot 16 _ (by decide +kernel) rfl
   have e_24 : a.eval (.tmp 24) = .bool (m.precise) := c.slot 18 _ (by decide +kernel) rfl
   have e_26 : a.eval (.tmp 26) = .int .i64 ((m.version : Nat) : Int) := c.slot 20 _ (by decide +kernel) rfl
   have e_29 : a.eval (.tmp 29) = .slice none 0 0 := c.slot 23 _ (by decide +kernel) rfl
   have e_32 : a.eval (.tmp 32) = .slice none 0 0 := c.slot 26 _ (by decide +kernel) rfl
   clear c
   exact og_val (by simp only [execOp, List.map_toArray, List.map_cons, List.map_nil, e_8, e_10, e_12, e_14, e_16, e_18, e_22, e_24, e_26, e_29, e_32]; go_simp) rfl
  ·intro a wx c
   have hszx := (drew_below c.only).size
   clear c
   refine og_ext (v := pt wx.heap.size 0) (w' := wx.alloc (.cells #[.float .f64 0, .int .u64 0, .slice none 0 0, .string ⟨#[]⟩, .bool false, .bool false, .int .i64 0, .int .u64 0, .float .f64 0, .bool false, .int .i64 0, .slice none 0 0, .slice none 0 0, .int .i64 0] 37)) (by simp only [execOp]; simp [al_impl_Media wx, Result.andThen]) ((Below.refl _ _).alloc (Nat.le_refl _) _) ⟨_, hszx, rfl, heap_alloc_new _ _⟩
 ·intro a w6 c hbw6
  obtain ⟨g5, hwg5, e_3, hhg5⟩ : ∃ g, w4.heap.size ≤ g ∧ (a.eval (.tmp 3)) = pt g 0 ∧ w6.heap[g]? = some (.cells #[.float .f64 0, .int .u64 0, .slice none 0 0, .string ⟨#[]⟩, .bool false, .bool false, .int .i64 0, .int .u64 0, .float .f64 0, .bool false, .int .i64 0, .slice none 0 0, .slice none 0 0, .int .i64 0] 37 (0, 0)) := c.slot 28 _ (by decide +kernel) rfl
  replace hS : Sv 50 ((3, pt g5 0) :: (33, .agg #[.float .f64 (floatOfInt .f64 (((m.target : Nat) : Int))), .int .u64 ((m.seq : Nat) : Int), .slice none 0 0, .string ⟨#[]⟩, .bool (m.iframe), .bool (m.closed), .int .i64 ((m.typ : Nat) : Int), .int .u64 ((m.disc : Nat) : Int), .float .f64 (e8 m.start), .bool (m.precise), .int .i64 ((m.version : Nat) : Int), .slice none 0 0, .slice none 0 0, .int .i64 0]) :: (1, pt g1 0) :: (2, pt g3 0) :: []) [⟨g3, #[.float .f64 0, .int .u64 0, .slice none 0 0, .string ⟨#[]⟩, .bool false, .bool false, .int .i64 0, .int .u64 0, .float .f64 0, .bool false, .int .i64 0, .slice none 0 0, .slice none 0 0, .int .i64 0], 37, true⟩, ⟨g1, (m.cells sl), 30, true⟩] (fun _ => False) w a w6 := (((((hS.ogh c).know (c.outE (by decide +kernel) (hS.get 2 rfl))).know (c.outE (by decide +kernel) (hS.get 1 rfl))).know (c.slot 27 _ (by decide +kernel) rfl)).know e_3)
  clear c
  replace hS : Sv 50 ((3, pt g5 0) :: (33, .agg #[.float .f64 (floatOfInt .f64 (((m.target : Nat) : Int))), .int .u64 ((m.seq : Nat) : Int), .slice none 0 0, .string ⟨#[]⟩, .bool (m.iframe), .bool (m.closed), .int .i64 ((m.typ : Nat) : Int), .int .u64 ((m.disc : Nat) : Int), .float .f64 (e8 m.start), .bool (m.precise), .int .i64 ((m.version : Nat) : Int), .slice none 0 0, .slice none 0 0, .int .i64 0]) :: (1, pt g1 0) :: (2, pt g3 0) :: []) [⟨g5, #[.float .f64 0, .int .u64 0, .slice none 0 0, .string ⟨#[]⟩, .bool false, .bool false, .int .i64 0, .int .u64 0, .float .f64 0, .bool false, .int .i64 0, .slice none 0 0, .slice none 0 0, .int .i64 0], 37, true⟩, ⟨g3, #[.float .f64 0, .int .u64 0, .slice none 0 0, .string ⟨#[]⟩, .bool false, .bool false, .int .i64 0, .int .u64 0, .float .f64 0, .bool false, .int .i64 0, .slice none 0 0, .slice none 0 0, .int .i64 0], 37, true⟩, ⟨g1, (m.cells sl), 30, true⟩] (fun _ => False) w a w6 := hS.addN hhg5 hltR hwg5 hszR
  simp only [List.drop_succ_cons, List.drop_zero]
  refine sv_sb (i := 0) (m' := [⟨g5, #[.float .f64 (floatOfInt .f64 (((m.target : Nat) : Int))), .int .u64 ((m.seq : Nat) : Int), .slice none 0 0, .string ⟨#[]⟩, .bool (m.iframe), .bool (m.closed), .int .i64 ((m.typ : Nat) : Int), .int .u64 ((m.disc : Nat) : Int), .float .f64 (e8 m.start), .bool (m.precise), .int .i64 ((m.version : Nat) : Int), .slice none 0 0, .slice none 0 0, .int .i64 0], 37, true⟩, ⟨g3, #[.float .f64 0, .int .u64 0, .slice none 0 0, .string ⟨#[]⟩, .bool false, .bool false, .int .i64 0, .int .u64 0, .float .f64 0, .bool false, .int .i64 0, .slice none 0 0, .slice none 0 0, .int .i64 0], 37, true⟩, ⟨g1, (m.cells sl), 30, true⟩]) hS ag_impl_Media (hS.get 3 rfl) (hS.get 33 rfl) rfl rfl rfl (by intro u hu; simp only [List.mem_cons, List.not_mem_nil, or_false] at hu; rcases hu with rfl | rfl | rfl | rfl | rfl | rfl | rfl | rfl | rfl | rfl | rfl | rfl | rfl | rfl <;> rfl) rfl ?_
  intro w7 hty hS
  refine wpList_nil ?_
  replace hS := hS.cut [3, 1, 2]
  show Code.wp _ _ _ _ _
  refine wp_seq ?_
  refine wp_seq ?_
  have hTw : SegsAt B0 sl xs w7 := hT.ty (TyOnly.of_below (ts := []) hS.toBelow) (by decide)
  refine wp_region_lit ?_
  refine sv_r (v := pt g1 11) hS (ex_fo (hS.get 1 rfl) fo_spec_Media_11 rfl) fun a hS => ?_
  refine sv_r (v := sl) hS (ex_ld (hS.get 34 rfl) lt_sl_spec_Segment (cell_of_heap (v := sl) (hS.at 2 rfl) rfl)) fun a hS => ?_
  refine sv_r (v := .int .i64 ((xs.length : Nat) : Int)) hS (ex_lenO Tryz.underlying28 (hS.get 35 rfl) hTw.own) fun a hS => ?_
  refine sv_r (v := .int .i64 0) hS ex_mc fun a hS => ?_
  refine wpList_nil ?_
  replace hS := hS.cut [37, 36, 35, 3, 1, 2]
  clear hTw
  show Code.wp _ _ _ _ _
  have hE : Ev 50 ((37, .int .i64 ((0 : Nat) : Int)) :: (36, .int .i64 ((xs.length : Nat) : Int)) :: (35, sl) :: (3, pt g5 0) :: (2, pt g3 0) :: (1, pt g1 0) :: []) a := hS.ev.pick rfl
  refine range_wp (N := 50) (n := xs.length) (l := (35, sl) :: (3, pt g5 0) :: (2, pt g3 0) :: (1, pt g1 0) :: []) (fun k w' => ∃ (dl : Value) (ys : List Iy), ys.map Iy.s = (xs.take k).map (·.1) ∧ (∀ y ∈ ys, y.c = none) ∧ IsAt w.heap.size dl ys w' ∧ Hv [⟨g5, m.icells ⟨#[]⟩ dl, 37, true⟩, ⟨g3, #[.float .f64 0, .int .u64 0, .slice none 0 0, .string ⟨#[]⟩, .bool false, .bool false, .int .i64 0, .int .u64 0, .float .f64 0, .bool false, .int .i64 0, .slice none 0 0, .slice none 0 0, .int .i64 0], 37, true⟩, ⟨g1, m.cells sl, 30, true⟩] (fun _ => False) w w') (by omega) hE (⟨.slice none 0 0, [], by simp, (by intro y hy; cases hy), ⟨Own.nil _ _ _ _ _, (by intro y hy; cases hy)⟩, hS.hv⟩) rfl (by decide) (by decide) ?_ ?_
  ·clear hE hS
   rintro k a w8 hk hE ⟨dl, ys, hl, hyc, hI, hV⟩ Q' hQ'
   have hS : Sv 50 ((37, .int .i64 ((k : Nat) : Int)) :: (36, .int .i64 ((xs.length : Nat) : Int)) :: (35, sl) :: (3, pt g5 0) :: (2, pt g3 0) :: (1, pt g1 0) :: []) [⟨g5, m.icells ⟨#[]⟩ dl, 37, true⟩, ⟨g3, #[.float .f64 0, .int .u64 0, .slice none 0 0, .string ⟨#[]⟩, .bool false, .bool false, .int .i64 0, .int .u64 0, .float .f64 0, .bool false, .int .i64 0, .slice none 0 0, .slice none 0 0, .int .i64 0], 37, true⟩, ⟨g1, m.cells sl, 30, true⟩] (fun _ => False) w a w8 := hV.sv hE
   have hyl : ys.length = k := by have := congrArg List.length hl; simp only [List.length_map, List.length_take] at this; omega
   obtain ⟨x, hxk⟩ : ∃ x, xs[k]? = some x := ⟨_, List.getElem?_eq_getElem hk⟩
   have hxm := List.mem_of_getElem? hxk
   refine wp_block ?_
   refine wp_seq ?_
   refine wp_region_lit ?_
   have hTw : SegsAt B0 sl xs w8 := hT.ty (TyOnly.of_below (ts := []) hS.toBelow) (by decide)
   refine sv_elem (n := k) ag_spec_Segment Tryz.underlying28 (fun _ => rfl) (by decide) hS hTw.own hxk (hS.get 35 rfl) (hS.get 37 rfl) (by decide) (by decide) ?_ rfl (by decide)
   intro a hS
   have hxA := hTw.ats x hxm
   clear hTw
   refine sv_al hS al_spec_Segment (by decide) ?_
   intro g9 a w10 hg9 hbw10 hwg9 hS
   replace hI := hI.ty (TyOnly.of_below (ts := []) hbw10) (by decide)
   refine sv_sb (i := 0) (m' := [⟨g9, x.cells, 40, true⟩, ⟨g5, (m.icells ⟨#[]⟩ dl), 37, true⟩, ⟨g3, #[.float .f64 0, .int .u64 0, .slice none 0 0, .string ⟨#[]⟩, .bool false, .bool false, .int .i64 0, .int .u64 0, .float .f64 0, .bool false, .int .i64 0, .slice none 0 0, .slice none 0 0, .int .i64 0], 37, true⟩, ⟨g1, (m.cells sl), 30, true⟩]) hS ag_spec_Segment (hS.get 5 rfl) (hS.get 40 rfl) rfl rfl rfl hxA.one rfl ?_
   intro w11 hty hS
   replace hI := hI.ty hty (by decide)
   refine wpList_nil ?_
   replace hS := hS.cut [5, 37, 36, 35, 3, 2, 1]
   replace hxA : x.At w11 := (hT.ats x hxm).ty (TyOnly.of_below (ts := []) hS.toBelow) (by decide)
   show Code.wp _ _ _ _ _
   refine wp_region_og1 (n := 50) 5 [Asr.eq (pt g5 2), Asr.eq (dl), Asr.eq (.agg x.cells), Asr.any (fun v w' => ∃ y : Iy, v = .agg y.cells ∧ y.s = x.1 ∧ y.c = none ∧ y.At w'), Asr.any (fun v w' => ∃ (y : Iy) (g : Nat), v = .slice (some ⟨g, 0, none⟩) 1 1 ∧ w'.heap[g]? = some (.cells y.cells 55 (0, 0)) ∧ y.s = x.1 ∧ y.c = none ∧ y.At w')] (by kernel_rfl) (by kernel_rfl) (by kernel_rfl) (by simp) (by kernel_rfl) hS.ev.size ⟨(fun i _ _ v w w' _ ho hp => by obtain ⟨y, h1, h2, h3, h4⟩ := hp; exact ⟨y, h1, h2, h3, h4.keep (only_below0 ho)⟩), (fun i _ _ v w w' _ ho hp => by obtain ⟨y, g, h1, h2, h3, h4, h5⟩ := hp; exact ⟨y, g, h1, hp_below h2 (only_below0 ho), h3, h4, h5.keep (only_below0 ho)⟩), ⟨⟩⟩ ?_ ?_
   ·simp only [List.take_succ_cons, List.take_zero]
    refine ⟨?_, ?_, ?_, ?_, ?_, trivial⟩
    ·intro a wx c
     have e_3 : a.eval (.tmp 3) = pt g5 0 := c.outE (by decide +kernel) (hS.get 3 rfl)
     clear c
     exact og_val (ex_fo e_3 fo_impl_Media_2 rfl) rfl
    ·intro a wx c
     have e_41 : a.eval (.tmp 41) = pt g5 2 := c.slot 0 _ (by decide +kernel) rfl
     have hO := hS.ogc c
     clear c
     exact og_val (ex_ld e_41 lt_sl_impl_Segment (cell_of_heap (v := dl) (hO.at 1 rfl) rfl)) rfl
    ·intro a wx c
     have e_5 : a.eval (.tmp 5) = pt g9 0 := c.outE (by decide +kernel) (hS.get 5 rfl)
     have hO := hS.ogc c
     clear c
     exact og_val (ex_lb ag_spec_Segment e_5 (hO.at 0 rfl) rfl) rfl
    ·intro a wx c
     have e_43 : a.eval (.tmp 43) = .agg x.cells := c.slot 2 _ (by decide +kernel) rfl
     have hO := hS.ogc c
     have hbx := drew_below c.only
     clear c
     exact og_call (ex_call1 cf_laws_toSegment e_43) (toSegment_any x (hxs x hxm) wx (hxA.keep hbx))
    ·intro a wx c
     obtain ⟨y, e_44, hys, hycn, hyA⟩ : ∃ y : Iy, (a.eval (.tmp 44)) = .agg y.cells ∧ y.s = x.1 ∧ y.c = none ∧ y.At wx := c.slot 3 _ (by decide +kernel) rfl
     clear c
     refine og_ext (v := .slice (some ⟨wx.heap.size, 0, none⟩) 1 1) (w' := wx.alloc (.cells y.cells 55)) (by simp only [execOp, List.map_toArray, List.map_cons, List.map_nil, e_44]; unfold Iy.cells; go_simp) ((Below.refl _ _).alloc (Nat.le_refl _) _) ?_
     exact ⟨y, _, rfl, heap_alloc_new _ _, hys, hycn, hyA.keep ((Below.refl _ _).alloc (Nat.le_refl _) _)⟩
   ·intro a w12 c hbw12
    replace hI := hI.ty (TyOnly.of_below (ts := []) hbw12) (by decide)
    obtain ⟨y, gx, e_45, hgx, hys, hycn, hyA⟩ : ∃ (y : Iy) (g : Nat), (a.eval (.tmp 45)) = .slice (some ⟨g, 0, none⟩) 1 1 ∧ w12.heap[g]? = some (.cells y.cells 55 (0, 0)) ∧ y.s = x.1 ∧ y.c = none ∧ y.At w12 := c.slot 4 _ (by decide +kernel) rfl
    replace hS : Sv 50 ((45, .slice (some ⟨gx, 0, none⟩) 1 1) :: (42, dl) :: (1, pt g1 0) :: (2, pt g3 0) :: (3, pt g5 0) :: (35, sl) :: (36, .int .i64 ((xs.length : Nat) : Int)) :: (37, .int .i64 ((k : Nat) : Int)) :: (5, pt g9 0) :: []) [⟨g9, x.cells, 40, true⟩, ⟨g5, (m.icells ⟨#[]⟩ dl), 37, true⟩, ⟨g3, #[.float .f64 0, .int .u64 0, .slice none 0 0, .string ⟨#[]⟩, .bool false, .bool false, .int .i64 0, .int .u64 0, .float .f64 0, .bool false, .int .i64 0, .slice none 0 0, .slice none 0 0, .int .i64 0], 37, true⟩, ⟨g1, (m.cells sl), 30, true⟩] (fun _ => False) w a w12 := ((((((((((hS.ogh c).know (c.outE (by decide +kernel) (hS.get 5 rfl))).know (c.outE (by decide +kernel) (hS.get 37 rfl))).know (c.outE (by decide +kernel) (hS.get 36 rfl))).know (c.outE (by decide +kernel) (hS.get 35 rfl))).know (c.outE (by decide +kernel) (hS.get 3 rfl))).know (c.outE (by decide +kernel) (hS.get 2 rfl))).know (c.outE (by decide +kernel) (hS.get 1 rfl))).know (c.slot 1 _ (by decide +kernel) rfl)).know e_45)
    clear c
    simp only [List.drop_succ_cons, List.drop_zero]
    have hIa := hI.ats
    refine sv_append (f := Iy.list) (L := ys) sli_sl_impl_Segment (by decide) (fun _ => rfl) [y] hS (hS.get 42 rfl) (hS.get 45 rfl) hgx rfl rfl (by intro z hz; rw [List.mem_singleton.1 hz]; exact hyA.one) hI.own rfl (by decide) (by omega) (by omega) ?_
    intro a dl' w13 hty hown hS
    replace hIa := hIa.ty hty (by decide)
    replace hyA := hyA.ty hty (by decide)
    refine sv_r (v := pt g5 2) hS (ex_fo (hS.get 3 rfl) fo_impl_Media_2 rfl) fun a hS => ?_
    refine sv_st (i := 1) (v := dl') (cs' := #[.float .f64 (floatOfInt .f64 ((m.target : Nat) : Int)), .int .u64 ((m.seq : Nat) : Int), dl', .string (⟨#[]⟩), .bool (m.iframe), .bool (m.closed), .int .i64 ((m.typ : Nat) : Int), .int .u64 ((m.disc : Nat) : Int), .float .f64 (e8 m.start), .bool (m.precise), .int .i64 ((m.version : Nat) : Int), .slice none 0 0, .slice none 0 0, .int .i64 0]) (m' := [⟨g9, x.cells, 40, true⟩, ⟨g5, #[.float .f64 (floatOfInt .f64 ((m.target : Nat) : Int)), .int .u64 ((m.seq : Nat) : Int), dl', .string (⟨#[]⟩), .bool (m.iframe), .bool (m.closed), .int .i64 ((m.typ : Nat) : Int), .int .u64 ((m.disc : Nat) : Int), .float .f64 (e8 m.start), .bool (m.precise), .int .i64 ((m.version : Nat) : Int), .slice none 0 0, .slice none 0 0, .int .i64 0], 37, true⟩, ⟨g3, #[.float .f64 0, .int .u64 0, .slice none 0 0, .string ⟨#[]⟩, .bool false, .bool false, .int .i64 0, .int .u64 0, .float .f64 0, .bool false, .int .i64 0, .slice none 0 0, .slice none 0 0, .int .i64 0], 37, true⟩, ⟨g1, (m.cells sl), 30, true⟩]) hS (hown.st su_sl_impl_Segment) (hS.get 47 rfl) (hS.get 46 rfl) rfl (show 2 < 14 from by decide) rfl rfl ?_
    intro w14 hty hS
    replace hIa := hIa.ty hty (by decide)
    replace hyA := hyA.ty hty (by decide)
    replace hown := hown.ty hty (by decide)
    refine wpList_nil ?_
    replace hS := hS.cut [1, 2, 3, 35, 36, 37, 5]
    show Q' .normal a w14
    exact hQ' a w14 (hS.ev.pick rfl) (⟨dl', ys ++ [y], by rw [List.map_append, hl, List.take_add_one, hxk, List.map_append]; simp [hys], (by intro z hz; rcases List.mem_append.1 hz with hz | hz; exact hyc z hz; rw [List.mem_singleton.1 hz]; exact hycn), ⟨hown, hIa.snoc hyA⟩, (hS.mask [false, true, true, true]).hv⟩)
  ·clear hE hS
   rintro a w15 hE ⟨dl, ys, hl, hyc, hI, hV⟩
   have hS : Sv 50 ((37, .int .i64 ((xs.length : Nat) : Int)) :: (36, .int .i64 ((xs.length : Nat) : Int)) :: (35, sl) :: (3, pt g5 0) :: (2, pt g3 0) :: (1, pt g1 0) :: []) [⟨g5, m.icells ⟨#[]⟩ dl, 37, true⟩, ⟨g3, #[.float .f64 0, .int .u64 0, .slice none 0 0, .string ⟨#[]⟩, .bool false, .bool false, .int .i64 0, .int .u64 0, .float .f64 0, .bool false, .int .i64 0, .slice none 0 0, .slice none 0 0, .int .i64 0], 37, true⟩, ⟨g1, m.cells sl, 30, true⟩] (fun _ => False) w a w15 := hV.sv hE
   show Code.wp _ _ _ _ _
   refine wp_seq ?_
   refine wp_region_lit ?_
   refine sv_r (v := .agg (m.icells ⟨#[]⟩ dl)) hS (ex_lb ag_impl_Media (hS.get 3 rfl) (hS.at 0 rfl) rfl) fun a hS => ?_
   refine sv_sb (i := 1) (m' := [⟨g5, (m.icells ⟨#[]⟩ dl), 37, true⟩, ⟨g3, (m.icells ⟨#[]⟩ dl), 37, true⟩, ⟨g1, (m.cells sl), 30, true⟩]) hS ag_impl_Media (hS.get 2 rfl) (hS.get 49 rfl) rfl rfl rfl (m.ione ⟨#[]⟩ hI.own.one') rfl ?_
   intro w16 hty hS
   replace hI := hI.ty hty (by decide)
   refine wpList_nil ?_
   replace hS := hS.cut [37, 36, 35, 3, 2, 1]
   show Code.wp _ _ _ _ _
   refine wp_ret ?_
   try simp only [Exit.inBlock, Exit.then]
   exact ret_cell hS.ev rfl ag_impl_Media (hS.get 2 rfl) (hS.at 1 rfl) rfl ⟨_, rfl, hS.toBelow, dl, ys, rfl, by rw [hl, List.take_length], hyc, hI⟩
end Go.Proofs.YtfonjeoiallhhaaGreatDoor
