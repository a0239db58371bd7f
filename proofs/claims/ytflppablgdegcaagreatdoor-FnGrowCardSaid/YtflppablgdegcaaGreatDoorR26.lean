/- Joined: Rm, Sk. -/
import Derived.Test.YtflppablgdegcaaGreatDoorR25
import Derived.Test.YtflppablgdegcaaGreatDoorR14
set_option maxRecDepth 100000
set_option maxHeartbeats 8000000
namespace Go.Proofs.YtflppablgdegcaaGreatDoor
open Go.RowKit
theorem ret_cell_tmp {N t u k g : Nat} {T : TypeId} {l : List (Nat × Value)} {fn : Func} {R : Ending → World → Prop} {a : Act} {w : World} {cs : Array Value} {e : TypeId} {fr : Nat × Nat} {y : Value} (h : Ev N l a) (hr : fn.results = #[.cell t T, .tmp u]) (hA : Ag T k) (hv : a.eval (.tmp t) = pt g 0) (hg : w.heap[g]? = some (.cells cs e fr)) (hsz : cs.size = k) (hy : a.eval (.tmp u) = y) (hR : R (.returned (.tuple #[.agg cs, y])) w) : bodyPost Tryz.prog fn R .ret a w := by
 refine bodyPost_ret (v := .tuple #[.agg cs, y]) ?_ h.defers hR
 have hl1 := run_load_blk (P := Tryz.prog) (w := w) T hA.agg hA.size hg hsz
 have hv1' : a.tmps.getD t undef = pt g 0 := hv
 have hv2' : a.tmps.getD u undef = y := hy
 rw [Array.getD_eq_getD_getElem?] at hv1' hv2'
 simp [results, hr, hv1', hv2', asAddr, hl1]
def Run (B : Nat) (G : Ge) : List (List UInt8) → Rst → Rst → Prop
 | [], r, r' => r = r'
 | ln :: l, r, r' => ∃ r1, StepOk B G ⟨(ln ++ [10]).toArray⟩ r r1 ∧ Run B G l r1 r'
theorem Run.app {B : Nat} {G : Ge} : ∀ {l l' : List (List UInt8)} {r r1 r2 : Rst}, Run B G l r r1 → Run B G l' r1 r2 → Run B G (l ++ l') r r2
 | [], _, _, _, _, h, h' => by cases h; exact h'
 | _ :: _, _, _, _, _, ⟨q, h1, h2⟩, h' => ⟨q, h1, Run.app h2 h'⟩
def rst0 : Rst := ⟨0, 0, false, false, 0, 0, 0, false, 3, none, none, false, false, false, false, false, false, false, ⟨#[]⟩, 0, 0, 0, ⟨#[]⟩, none, none, []⟩
theorem rs_m3 {gp gs gr : Nat} {r : Rst} {w : World} (hm3 : r.m3 = true) (h : RsIs gp gs gr r w) : w.cell? ⟨gs, 1, none⟩ = some (.bool true) := by
 obtain ⟨lt, pk, pm, xk, xm, cap, c2, gr2, ps, i1, _⟩ := h
 have h := cell_of_heap (v := .bool r.m3) i1.hh.2 (show (r.dz lt xk xm).cells[1]? = some (.bool r.m3) from rfl)
 rw [hm3] at h
 exact h
theorem rs_init {gp gs gr n : Nat} {w : World} (h0 : 0 < n) (hn : n ≤ 20) (hp : w.heap[gp]? = some (.cells (pz0.cells (.slice (some ⟨gr, 0, none⟩) n n) n 0 0) 88 (0, 0))) (hr : w.heap[gr]? = some (.cells (List.replicate n (Value.pointer none)).toArray 125 (0, 0))) (hs : w.heap[gs]? = some (.cells ((rst0.dz 0 none none).cells) 121 (0, 0))) : RsIs gp gs gr rst0 w := by
 refine ⟨0, none, none, none, none, n, n, gr, [], ⟨⟨?_, hs⟩, hr, .inl rfl, Nat.zero_le _, h0, Nat.le_refl _, by simpa using hn⟩, trivial, trivial, trivial, trivial, trivial⟩
 show w.heap[gp]? = some (.cells (pz0.cells (.slice (some ⟨gr, 0, none⟩) n n) n (0 % n) 0) _ (0, 0))
 rw [Nat.zero_mod]
 exact hp
theorem readMedia_any {r : Rst} {n : Nat} (lns : List (List UInt8)) (st : Bool) (s : ByteArray) {B : Nat} {G : Ge} (hrun : Run B G lns rst0 r) (hlast : StepOk B G ⟨([] : List UInt8).toArray⟩ r r) (hm3 : r.m3 = true) (h0 : 0 < n) (hn20 : n ≤ 20) (hs : s.data.toList = flatLn lns []) (hno : ∀ ln ∈ lns, ∀ x ∈ ln, x ≠ 10) (hsz : s.size ≤ 8192) (hasc : Asc s) (hlc : lns.length ≤ 8192) (hkm : rdS false false 0 ((lns ++ [[]]).map trL) = true) (hsg : r.segs.length ≤ 200) (hv : r.ver < 256) (ht : r.typ < 256) (w : World) (hG : Env B G w) : Calls Tryz.prog 9 #[.string s, .int .i64 0, .int .i64 ((n : Nat) : Int), .bool st] w fun e w' => ∃ v, e = .returned v ∧ Below w.heap.size w w' ∧ ∃ mv, v = .tuple #[mv, .bool true] ∧ Got r w' mv := by
 refine calls_of_ev Tryz.func9 rfl (show 4 ≤ 57 from by decide) fun a hE => ?_
 have hE : Ev 57 ((0, .string s) :: (1, .int .i64 0) :: (2, .int .i64 ((n : Nat) : Int)) :: (3, .bool st) :: []) a := hE
 have Z : Sv 57 ((0, .string s) :: (1, .int .i64 0) :: (2, .int .i64 ((n : Nat) : Int)) :: (3, .bool st) :: []) [] (fun _ => False) w a w := Sv.start hE _ _
 clear hE
 refine wr (sv_al Z al_impl_Media (by decide) fun g1 a w2 hg1 hbw2 hwg1 Z => sv_n 1 Z rfl fun a Z => Z.nx [9, 8, 0, 1, 2, 3] rfl fun Z => sh (wp_seq (wr (sv_n 1 Z rfl fun a Z => ?_))))
 refine sv_callv (v := .bool true) Z rfl rfl (by decide) (ex_call1 cf_impl_readable (Z.g 13 rfl)) (readable_any lns [] s hs hno (by intro x hx; cases hx) hsz hasc hlc hkm w2 (hG.below Z.toBelow)) fun a w3 hbw3 Z => sv_r (v := .bool false) Z (ex_not (Z.g 14 rfl)) fun a Z => sv_n 2 Z rfl fun a Z => ?_
 refine sv_g (v := .bool false) Z (Z.g 16 rfl) (ei_lss (Z.g 17 rfl) rfl (by rw [decide_eq_false_iff_not]; omega)) fun a Z => sv_n 3 Z rfl fun a Z => ?_
 refine sv_g (v := .bool false) Z (Z.g 20 rfl) (ei_gtr (Z.g 21 rfl) rfl (by rw [decide_eq_false_iff_not]; omega)) fun a Z => sv_n 3 Z rfl fun a Z => ?_
 refine sv_g (v := .bool false) Z (Z.g 24 rfl) (ei_lss (Z.g 25 rfl) rfl (by rw [decide_eq_false_iff_not]; omega)) fun a Z => sv_n 4 Z rfl fun a Z => ?_
 refine sv_g (v := .bool false) Z (Z.g 28 rfl) (ei_gtr (Z.g 29 rfl) (Z.g 30 rfl) (by rw [decide_eq_false_iff_not]; omega)) fun a Z => sv_n 1 Z rfl fun a Z => Z.nx [32, 9, 8, 0, 1, 2, 3] rfl fun Z => sh (cond_f (Z.g 32 rfl) (wp_skip (sh (wr (sv_n 1 Z rfl fun a Z => ?_)))))
 refine sv_r (v := .int .u64 0) Z (ex_cv (Z.g 35 rfl) (cv_int_uint _ (by rw [IntKind.wrap_u64]; omega))) fun a Z => sv_n 1 Z rfl fun a Z => ?_
 refine sv_r (v := .int .u64 ((n : Nat) : Int)) Z (ex_cv (Z.g 37 rfl) (cv_int_uint _ (by rw [IntKind.wrap_u64]; omega))) fun a Z => ?_
 have hsz0 := Z.size
 have hlt := Z.lt
 have hsz := Z.size
 refine sv_call (S := fun v w' => ∃ gp gr : Nat, v = .tuple #[pt gp 0, .nilIface] ∧ w3.heap.size ≤ gp ∧ w3.heap.size ≤ gr ∧ w'.heap[gp]? = some (.cells (pz0.cells (.slice (some ⟨gr, 0, none⟩) n n) n 0 0) 88 (0, 0)) ∧ w'.heap[gr]? = some (.cells (List.replicate n (Value.pointer none)).toArray 125 (0, 0))) Z rfl rfl (by decide) (ex_call2 cf_m3u8_NewMediaPlaylist (Z.g 36 rfl) (Z.g 38 rfl)) (newMediaG n (by omega) w3) ?_
 rintro a _ w4 ⟨gp, gr, rfl, hgp0, hgr0, hgp, hgr⟩ hbw4 Z
 have hg8 : w4.heap[g1]? = some (.cells #[.float .f64 0, .int .u64 0, .slice none 0 0, .string ⟨#[]⟩, .bool false, .bool false, .int .i64 0, .int .u64 0, .float .f64 0, .bool false, .int .i64 0, .slice none 0 0, .slice none 0 0, .int .i64 0] 40 (0, 0)) := Z.at 0 rfl
 have hpr : gp ≠ gr := ne_of_type hgp hgr (by decide)
 have hSp := Z.addN hgp hlt hgp0 hsz0
 replace Z : Sv 57 ((39, .tuple #[pt gp 0, .nilIface]) :: (38, .int .u64 ((n : Nat) : Int)) :: (37, .int .i64 ((n : Nat) : Int)) :: (36, .int .u64 0) :: (35, .int .i64 0) :: (32, .bool false) :: (9, .bool false) :: (8, pt g1 0) :: (0, .string s) :: (1, .int .i64 0) :: (2, .int .i64 ((n : Nat) : Int)) :: (3, .bool st) :: []) [⟨gr, (List.replicate n (Value.pointer none)).toArray, 125, true⟩, ⟨gp, (pz0.cells (.slice (some ⟨gr, 0, none⟩) n n) n 0 0), 88, true⟩, ⟨g1, #[.float .f64 0, .int .u64 0, .slice none 0 0, .string ⟨#[]⟩, .bool false, .bool false, .int .i64 0, .int .u64 0, .float .f64 0, .bool false, .int .i64 0, .slice none 0 0, .slice none 0 0, .int .i64 0], 40, true⟩] (fun _ => False) w a w4 := hSp.addB hgr (hSp.neT hgr rfl) (fun _ => .inr (by omega))
 clear hSp
 refine sv_n 5 Z rfl fun a Z => Z.nx [11, 10, 32, 9, 8, 0, 1, 2, 3] rfl fun Z => sh (wp_seq (wr (sv_n 1 Z rfl fun a Z => sv_r (v := .bool false) Z (ex_ine eqi_error (Z.g 42 rfl)) fun a Z => Z.nx [43, 10, 32, 9, 8, 0, 1, 2, 3] rfl fun Z => sh (cond_f (Z.g 43 rfl) (wp_skip (sh ?_))))))
 refine wp_seq (wp_seq ?_)
 have hn8p : g1 ≠ gp := ne_of_type hg8 hgp (by decide)
 have hn8r : g1 ≠ gr := ne_of_type hg8 hgr (by decide)
 have hszp := Z.size
 refine wp_region_lit (sv_n 2 Z rfl fun a Z => ?_)
 obtain ⟨H, c, wn, hrun1, hbel, hbyt, hc, hH, hHl⟩ := conv_new s w4
 refine sv_ext Z rfl rfl (by decide) (by simp only [execOp, Z.g 46 rfl]; exact run_andValue'' hrun1) hbel fun a Z => ?_
 have hlt := Z.lt
 have hsz := Z.size
 refine sv_call (S := fun v w' => ∃ q, v = pt q 0 ∧ wn.heap.size ≤ q ∧ w'.heap[q]? = some (.cells #[.slice (some ⟨H, 0, none⟩) s.size c, .int .i64 ((0 : Nat) : Int), .int .i64 (-1)] 97 (0, 0))) Z rfl rfl (by decide) (ex_call1 cf_bytes_NewReader (Z.g 47 rfl)) (newReader_any H s.size c wn) ?_
 rintro a _ w5 ⟨q, rfl, hq0, hq⟩ hbw5 Z
 refine sv_r (v := .iface 62 (pt q 0)) Z (ex_mi (Z.g 48 rfl) (by kernel_rfl)) fun a Z => sv_n 1 Z rfl fun a Z => ?_
 have hgpx : w5.heap[gp]? = some (.cells (pz0.cells (.slice (some ⟨gr, 0, none⟩) n n) n 0 0) 88 (0, 0)) := Z.at 1 rfl
 have hgrx : w5.heap[gr]? = some (.cells (List.replicate n (Value.pointer none)).toArray 125 (0, 0)) := Z.at 0 rfl
 have hg8x := Z.at 2 rfl
 have hw5 := Z.toBelow
 have hltw := Z.lt
 have hgpl : gp < wn.heap.size := Nat.lt_of_lt_of_le (Array.getElem?_eq_some_iff.1 hgp).1 hbel.size
 have hgrl : gr < wn.heap.size := Nat.lt_of_lt_of_le (Array.getElem?_eq_some_iff.1 hgr).1 hbel.size
 have hg8l : g1 < wn.heap.size := Nat.lt_of_lt_of_le (Array.getElem?_eq_some_iff.1 hg8).1 hbel.size
 have hbyt2 : Lib.Bytes w5 H 0 s := by intro i hi; rw [World.cell?_of_block (w := wn) (hbw5.block H hHl)]; exact hbyt i hi
 have hle := hG.le
 have hql : q < w5.heap.size := (Array.getElem?_eq_some_iff.1 hq).1
 have hHw : H < w5.heap.size := Nat.lt_of_lt_of_le hHl hbw5.size
 have hwnl := hbw5.size
 have hd := decodeFrom_any (Bad := False) (st := st) lns [] (fun gs rem w' => gp < gs ∧ gr < gs ∧ ∃ r', RsIs gp gs gr r' w' ∧ Run B G rem r' r) (fun gs w' => RsIs gp gs gr r w') w5 (hG.below Z.toBelow) hq hbyt2 rfl hc (by omega) (by omega) hHw hs hno (by intro x hx; cases hx) (by omega) (by omega) (by omega) (by omega) (by omega) (fun gs w' hgs ho hz => ⟨by omega, by omega, rst0, rs_init h0 hn20 ((ho.block gp (by omega) (by omega)).trans hgpx) ((ho.block gr (by omega) (by omega)).trans hgrx) hz, hrun⟩) (fun b gs rem w1 w2' hb hgs ⟨i1, i2, r', i3, i4⟩ ho => ⟨i1, i2, r', i3.keep ho hgs (by omega) (by omega), i4⟩) (fun gs ln rem w' hgs ⟨i1, i2, r', i3, r1, i4, i5⟩ hE => (i4 gp gs gr st w' hE (by omega) (by omega) (by omega) i3).mono fun e w2' ⟨j1, j2, j3⟩ => ⟨_, j1, j2, .inl ⟨rfl, i1, i2, r1, j3, i5⟩⟩) (fun gs w' hgs ⟨i1, i2, r', i3, i4⟩ hE => ((i4 ▸ hlast : StepOk B G ⟨([] : List UInt8).toArray⟩ r' r) gp gs gr st w' hE (by omega) (by omega) (by omega) i3).mono fun e w2' ⟨j1, j2, j3⟩ => ⟨_, j1, j2, .inl ⟨rfl, j3⟩⟩) (fun gs w' h => rs_m3 hm3 h)
 replace Z := (Z.mz [false, false, true] rfl).ct [50, 49, 48, 47, 46, 45, 43, 10, 32, 9, 8, 0, 1, 2, 3] rfl
 refine sv_callo (X := fun z => z = q ∨ z = gp ∨ z = gr) (S := fun ev w' => (ev = .nilIface ∧ ∃ gs, RsIs gp gs gr r w') ∨ (False ∧ IsErr ev)) Z rfl rfl (by decide) (ex_call3 cf_m3u8_MediaPlaylist_DecodeFrom (Z.g 45 rfl) (Z.g 49 rfl) (Z.g 50 rfl)) hd (by intro z hz; cases List.mem_singleton.1 hz; rintro (h | h | h); (· exact absurd (show g1 = q from h) (by omega)); (· exact hn8p h); (· exact hn8r h)) (fun z hz hlt => by rcases hz with rfl | rfl | rfl <;> omega) fun a ev w6 hres hO Z => ?_
 obtain ⟨rfl, gs, hrs⟩ := hres.resolve_right (fun h => h.1.elim)
 refine sv_n 1 Z rfl fun a Z => Z.nx [12, 43, 10, 32, 9, 8, 0, 1, 2] rfl fun Z => sh (wr (sv_n 1 Z rfl fun a Z => sv_r (v := .bool false) Z (ex_ine eqi_error (Z.g 52 rfl)) fun a Z => Z.nx [53, 43, 10, 32, 9, 8, 0, 1, 2] rfl fun Z => sh (cond_f (Z.g 53 rfl) (wp_skip (sh (wr ?_))))))
 refine sv_n 1 Z rfl fun a Z => ?_
 have hlt := Z.lt
 have hsz := Z.size
 refine sv_call (S := fun v w' => Got r w' v) Z rfl rfl (by decide) (ex_call1 cf_impl_mediaOf (Z.g 55 rfl)) (mediaOf_r hsg hv ht w6 hrs) ?_
 rintro a _ w6 ⟨p, n2, c6, kb, mb, L, rfl, hsv, hsL, hkb, hmb⟩ hbw6 Z
 refine sv_sb (i := 0) Z ag_impl_Media (Z.g 8 rfl) (Z.g 56 rfl) rfl rfl rfl mcs_one rfl fun w7 hty Z => ?_
 replace hsv := hsv.ty hty (by decide)
 replace hsL := hsL.ty hty (by decide)
 replace hkb := hkb.ty hty (by decide)
 replace hmb := hmb.ty hty (by decide)
 refine sv_n 1 Z rfl fun a Z => Z.nx [9, 53, 43, 10, 32, 8, 0, 1, 2] rfl fun Z => sh (wp_ret ?_)
 try simp only [Exit.inBlock, Exit.then]
 exact ret_cell_tmp Z.ev rfl ag_impl_Media (Z.g 8 rfl) (Z.at 0 rfl) rfl (Z.g 9 rfl) ⟨_, rfl, Z.toBelow, _, rfl, p, n2, c6, kb, mb, L, rfl, hsv, hsL, hkb, hmb⟩
theorem og_guard_on {P : Program} {ops : Array Oper} {Q : Exit → Act → World → Prop} {K : Act → World → Prop} {a : Act} {w : World} {i gj d : Nat} {b : Bool} {o : Oper} (ho : ops[i]? = some o) (hg : o.guard = some (gj, b)) (hd : (ops[gj]?).bind (·.dst) = some d) (he : a.eval (.tmp d) = .bool b) (hk : o.wp P a w K Q) : wpOp P ops Q i K a w := by
 have hy : yielded ops a.tmps gj = some b := by
  unfold yielded
  rw [hd]
  simp only [Act.eval, Array.getD_eq_getD_getElem?] at he
  cases h : a.tmps[d]? with
  | none => rw [h] at he; cases he
  | some v =>
   rw [h] at he
   simp only [Option.getD_some] at he
   subst he
   simp [h]
 unfold wpOp
 rw [ho]
 have hw : Region.wanted o (yielded ops a.tmps) = true := by unfold Region.wanted; rw [hg]; simp [hy]
 simp only [hw, if_true]
 exact .inl hk

def Ky.kd (k : Ky) : Kd := ⟨k.method, k.uri, k.iv, k.format, k.versions⟩
def Mp.ud (k : Mp) : Ud := ⟨k.uri, k.limit, k.offset⟩
def m8 (z : Nat) : Nat := (floatBits .mul .f64 z 4620693217682128896).getD 0
structure F8 (z e : Nat) : Prop where
 mul : floatBits .mul .f64 z 4620693217682128896 = some (m8 z)
 eq : (FloatKind.f64.format.order (m8 z) (floatOfInt .f64 (e : Int)) == some .eq) = true
section
variable {a : Act} {w : World} {dst : Option Nat} {T T' ty : TypeId} {ps : String} {af : Array Edge} {gd : Option (Nat × Bool)} {x y : Operand}
theorem ex_mul8 {z : Nat} (hx : a.eval x = .float .f64 z) (h : floatBits .mul .f64 z 4620693217682128896 = some (m8 z)) : (execOp a.eval ⟨dst, .binOp .mul T x (.const (.float .f64 4620693217682128896)) T', ty, ps, af, gd⟩).run Tryz.prog w = .ok (.value (.float .f64 (m8 z))) w := by
 have hr := run_float_arith (P := Tryz.prog) w .mul T .f64 _ _ (m8 z) h
 simp only [execOp, hx]
 simp [eqGuard, Act.eval, hr, Result.andThen]
theorem ex_beql {b : Bool} (hx : a.eval x = .bool b) (hy : a.eval y = .bool b) : (execOp a.eval ⟨dst, .binOp .eql 4 x y T', ty, ps, af, gd⟩).run Tryz.prog w = .ok (.value (.bool true)) w := by
 simp only [execOp, hx, hy]
 cases b <;> go_simp
theorem ex_bneq {b : Bool} (hx : a.eval x = .bool b) (hy : a.eval y = .bool b) : (execOp a.eval ⟨dst, .binOp .neq 4 x y T', ty, ps, af, gd⟩).run Tryz.prog w = .ok (.value (.bool false)) w := by
 simp only [execOp, hx, hy]
 cases b <;> go_simp
theorem ex_bkey {k : Ky} {t0 t1 t2 t3 t4 : Nat} (h0 : a.eval (.tmp t0) = .string k.method) (h1 : a.eval (.tmp t1) = .string k.uri) (h2 : a.eval (.tmp t2) = .string k.iv) (h3 : a.eval (.tmp t3) = .string k.format) (h4 : a.eval (.tmp t4) = .string k.versions) : (execOp a.eval ⟨dst, .build 105 #[(0, .tmp t0), (1, .tmp t1), (2, .tmp t2), (3, .tmp t3), (4, .tmp t4)], ty, ps, af, gd⟩).run Tryz.prog w = .ok (.value (.agg (Ky.kd k).cells)) w := by
 unfold Ky.kd Kd.cells
 simp only [execOp, List.map_toArray, List.map_cons, List.map_nil, h0, h1, h2, h3, h4]
 go_simp
theorem ex_bmap {k : Mp} {t0 t1 t2 : Nat} (h0 : a.eval (.tmp t0) = .string k.uri) (h1 : a.eval (.tmp t1) = .int .i64 (k.limit : Int)) (h2 : a.eval (.tmp t2) = .int .i64 (k.offset : Int)) : (execOp a.eval ⟨dst, .build 108 #[(0, .tmp t0), (1, .tmp t1), (2, .tmp t2)], ty, ps, af, gd⟩).run Tryz.prog w = .ok (.value (.agg (Mp.ud k).cells)) w := by
 unfold Mp.ud Ud.cells
 simp only [execOp, List.map_toArray, List.map_cons, List.map_nil, h0, h1, h2]
 go_simp
theorem eql_key (k : Kd) (w : World) : (binOp .eql 105 (.agg k.cells) (.agg k.cells)).run Tryz.prog w = .ok (.bool true) w := by
 unfold Kd.cells
 rw [run_eql_struct]
 go_simp
theorem eql_map (k : Ud) (w : World) : (binOp .eql 108 (.agg k.cells) (.agg k.cells)).run Tryz.prog w = .ok (.bool true) w := by
 unfold Ud.cells
 rw [run_eql_struct]
 go_simp
theorem ex_eqkey {k : Kd} (hx : a.eval x = .agg k.cells) (hy : a.eval y = .agg k.cells) : (execOp a.eval ⟨dst, .binOp .eql 105 x y T', ty, ps, af, gd⟩).run Tryz.prog w = .ok (.value (.bool true)) w := by
 have h := eql_key k w
 simp only [execOp, hx, hy]
 simp [eqGuard, h, Result.andThen]
theorem ex_eqmap {k : Ud} (hx : a.eval x = .agg k.cells) (hy : a.eval y = .agg k.cells) : (execOp a.eval ⟨dst, .binOp .eql 108 x y T', ty, ps, af, gd⟩).run Tryz.prog w = .ok (.value (.bool true)) w := by
 have h := eql_map k w
 simp only [execOp, hx, hy]
 simp [eqGuard, h, Result.andThen]
end
theorem sameKeys_nil (w : World) : Calls Tryz.prog 22 #[.slice none 0 0, .pointer none] w fun e w' => e = .returned (.bool true) ∧ Below w.heap.size w w' := by
 refine calls_of_ev Tryz.func22 rfl (show 2 ≤ 40 from by decide) fun a hE => ?_
 have hE : Ev 40 ((0, .slice none 0 0) :: (1, .pointer none) :: []) a := hE
 have Z : Sv 40 ((0, .slice none 0 0) :: (1, .pointer none) :: []) [] (fun _ => False) w a w := Sv.start hE _ _
 clear hE
 refine wr (sv_n 1 Z rfl fun a Z => Z.nx [4, 0, 1] rfl fun Z => sh (wp_seq (wr (sv_n 1 Z rfl fun a Z => sv_r (v := .bool true) Z (ex_pe eqp_p_spec_Key (Z.g 5 rfl)) fun a Z => Z.nx [6, 4, 0, 1] rfl fun Z => sh (cond_t (Z.g 6 rfl) (wr ?_))))))
 refine sv_n 1 Z rfl fun a Z => sv_r (v := .int .i64 0) Z (ex_lenS (E := 105) Tryz.underlying37 (Z.g 7 rfl)) fun a Z => sv_r (v := .bool true) Z (ei_eql (Z.g 8 rfl) rfl (by decide)) fun a Z => sv_n 1 Z rfl fun a Z => Z.nx [4, 6, 0, 1] rfl fun Z => sh (wp_ret ?_)
 try simp only [Exit.inBlock, Exit.then]
 exact ret_of_ev Z.ev rfl (Z.g 4 rfl) ⟨rfl, Z.toBelow⟩
theorem sameKeys_some (g h : Nat) (k : Ky) (w : World) (hg : w.heap[g]? = some (.cells (Ky.kd k).cells 105 (0, 0))) (hh : w.heap[h]? = some (.cells k.cells 106 (0, 0))) : Calls Tryz.prog 22 #[.slice (some ⟨g, 0, none⟩) 1 1, pt h 0] w fun e w' => e = .returned (.bool true) ∧ Below w.heap.size w w' := by
 refine calls_of_ev Tryz.func22 rfl (show 2 ≤ 40 from by decide) fun a hE => ?_
 have hE : Ev 40 ((0, .slice (some ⟨g, 0, none⟩) 1 1) :: (1, pt h 0) :: []) a := hE
 have Z : Sv 40 ((0, .slice (some ⟨g, 0, none⟩) 1 1) :: (1, pt h 0) :: []) [] (fun _ => False) w a w := Sv.start hE _ _
 clear hE
 have hS1 := Z.addR hg (by intro q hq; cases hq)
 replace Z : Sv 40 ((0, .slice (some ⟨g, 0, none⟩) 1 1) :: (1, pt h 0) :: []) [⟨h, k.cells, 106, false⟩, ⟨g, (Ky.kd k).cells, 105, false⟩] (fun _ => False) w a w := hS1.addR hh (hS1.neT hh rfl)
 clear hS1
 refine wr (sv_n 1 Z rfl fun a Z => Z.nx [4, 0, 1] rfl fun Z => sh (wp_seq (wr (sv_n 1 Z rfl fun a Z => sv_r (v := .bool false) Z (ex_pe eqp_p_spec_Key (Z.g 5 rfl)) fun a Z => Z.nx [6, 4, 0, 1] rfl fun Z => sh (cond_f (Z.g 6 rfl) (wp_skip ?_))))))
 refine sh (wp_seq ?_)
 refine wp_region_og0 (n := 40) [Asr.eq (.slice (some ⟨g, 0, none⟩) 1 1), Asr.eq (.int .i64 1), Asr.eq (.bool true), Asr.eq (.bool true), Asr.eq (.slice (some ⟨g, 0, none⟩) 1 1), Asr.eq (pt g 0), Asr.eq (.agg (Ky.kd k).cells), Asr.eq (pt h 0), Asr.eq (pt h 0), Asr.eq (pt h 0), Asr.eq (.string k.method), Asr.eq (pt h 0), Asr.eq (pt h 0), Asr.eq (pt h 1), Asr.eq (.string k.uri), Asr.eq (pt h 0), Asr.eq (pt h 0), Asr.eq (pt h 2), Asr.eq (.string k.iv), Asr.eq (pt h 0), Asr.eq (pt h 0), Asr.eq (pt h 3), Asr.eq (.string k.format), Asr.eq (pt h 0), Asr.eq (pt h 0), Asr.eq (pt h 4), Asr.eq (.string k.versions), Asr.eq (.agg (Ky.kd k).cells), Asr.eq (.bool true), Asr.eq (.bool true), Asr.eq (.bool true)] (by kernel_rfl) (by kernel_rfl) (by kernel_rfl) Z.ev.size ⟨⟩ ?_ ?_
 ·refine ⟨?_, ?_, ?_, ?_, ?_, ?_, ?_, ?_, ?_, ?_, ?_, ?_, ?_, ?_, ?_, ?_, ?_, ?_, ?_, ?_, ?_, ?_, ?_, ?_, ?_, ?_, ?_, ?_, ?_, ?_, ?_, trivial⟩
  ·exact qm (Z.g 0 rfl)
  ·exact fun _ _ c => og_val (ex_len Tryz.underlying37 (c.s 0 rfl)) rfl
  ·exact fun _ _ c => og_val (ei_eql (c.s 1 rfl) rfl (by decide)) rfl
  ·exact fun _ _ c => og_val (ex_mv (c.s 2 rfl)) rfl
  ·intro a wx c
   have e_0 : a.eval (.tmp 0) = .slice (some ⟨g, 0, none⟩) 1 1 := c.o (Z.g 0 rfl)
   have eg : a.eval (.tmp 13) = .bool true := c.s 3 rfl
   clear c
   refine og_guard_on (d := 13) (b := true) (o := _) rfl rfl rfl eg ?_
   exact og_val (ex_mv e_0) rfl
  ·intro a wx c
   have e_14 : a.eval (.tmp 14) = .slice (some ⟨g, 0, none⟩) 1 1 := c.s 4 rfl
   have eg : a.eval (.tmp 13) = .bool true := c.s 3 rfl
   clear c
   refine og_guard_on (d := 13) (b := true) (o := _) rfl rfl rfl eg ?_
   exact og_val (ex_ia (i := 0) (E := 105) Tryz.underlying37 Tryz.sizeOf105 e_14 rfl (by omega)) rfl
  ·intro a wx c
   have e_15 : a.eval (.tmp 15) = pt g 0 := c.s 5 rfl
   have hO := Z.ogc c
   have eg : a.eval (.tmp 13) = .bool true := c.s 3 rfl
   clear c
   refine og_guard_on (d := 13) (b := true) (o := _) rfl rfl rfl eg ?_
   exact og_val (ex_lb ag_impl_Key e_15 (hO.at 1 rfl) rfl) rfl
  ·intro a wx c
   have e_1 : a.eval (.tmp 1) = pt h 0 := c.o (Z.g 1 rfl)
   have eg : a.eval (.tmp 13) = .bool true := c.s 3 rfl
   clear c
   refine og_guard_on (d := 13) (b := true) (o := _) rfl rfl rfl eg ?_
   exact og_val (ex_mv e_1) rfl
  ·intro a wx c
   have e_17 : a.eval (.tmp 17) = pt h 0 := c.s 7 rfl
   have eg : a.eval (.tmp 13) = .bool true := c.s 3 rfl
   clear c
   refine og_guard_on (d := 13) (b := true) (o := _) rfl rfl rfl eg ?_
   exact og_val (ex_nc e_17) rfl
  ·intro a wx c
   have e_18 : a.eval (.tmp 18) = pt h 0 := c.s 8 rfl
   have eg : a.eval (.tmp 13) = .bool true := c.s 3 rfl
   clear c
   refine og_guard_on (d := 13) (b := true) (o := _) rfl rfl rfl eg ?_
   exact og_val (ex_fo e_18 (fo rfl) rfl) rfl
  ·intro a wx c
   have e_19 : a.eval (.tmp 19) = pt h 0 := c.s 9 rfl
   have hO := Z.ogc c
   have eg : a.eval (.tmp 13) = .bool true := c.s 3 rfl
   clear c
   refine og_guard_on (d := 13) (b := true) (o := _) rfl rfl rfl eg ?_
   exact og_val (ex_ld e_19 lt_string (cell_of_heap (v := .string k.method) (hO.at 0 rfl) rfl)) rfl
  ·intro a wx c
   have e_1 : a.eval (.tmp 1) = pt h 0 := c.o (Z.g 1 rfl)
   have eg : a.eval (.tmp 13) = .bool true := c.s 3 rfl
   clear c
   refine og_guard_on (d := 13) (b := true) (o := _) rfl rfl rfl eg ?_
   exact og_val (ex_mv e_1) rfl
  ·intro a wx c
   have e_21 : a.eval (.tmp 21) = pt h 0 := c.s 11 rfl
   have eg : a.eval (.tmp 13) = .bool true := c.s 3 rfl
   clear c
   refine og_guard_on (d := 13) (b := true) (o := _) rfl rfl rfl eg ?_
   exact og_val (ex_nc e_21) rfl
  ·intro a wx c
   have e_22 : a.eval (.tmp 22) = pt h 0 := c.s 12 rfl
   have eg : a.eval (.tmp 13) = .bool true := c.s 3 rfl
   clear c
   refine og_guard_on (d := 13) (b := true) (o := _) rfl rfl rfl eg ?_
   exact og_val (ex_fo e_22 (fo rfl) rfl) rfl
  ·intro a wx c
   have e_23 : a.eval (.tmp 23) = pt h 1 := c.s 13 rfl
   have hO := Z.ogc c
   have eg : a.eval (.tmp 13) = .bool true := c.s 3 rfl
   clear c
   refine og_guard_on (d := 13) (b := true) (o := _) rfl rfl rfl eg ?_
   exact og_val (ex_ld e_23 lt_string (cell_of_heap (v := .string k.uri) (hO.at 0 rfl) rfl)) rfl
  ·intro a wx c
   have e_1 : a.eval (.tmp 1) = pt h 0 := c.o (Z.g 1 rfl)
   have eg : a.eval (.tmp 13) = .bool true := c.s 3 rfl
   clear c
   refine og_guard_on (d := 13) (b := true) (o := _) rfl rfl rfl eg ?_
   exact og_val (ex_mv e_1) rfl
  ·intro a wx c
   have e_25 : a.eval (.tmp 25) = pt h 0 := c.s 15 rfl
   have eg : a.eval (.tmp 13) = .bool true := c.s 3 rfl
   clear c
   refine og_guard_on (d := 13) (b := true) (o := _) rfl rfl rfl eg ?_
   exact og_val (ex_nc e_25) rfl
  ·intro a wx c
   have e_26 : a.eval (.tmp 26) = pt h 0 := c.s 16 rfl
   have eg : a.eval (.tmp 13) = .bool true := c.s 3 rfl
   clear c
   refine og_guard_on (d := 13) (b := true) (o := _) rfl rfl rfl eg ?_
   exact og_val (ex_fo e_26 (fo rfl) rfl) rfl
  ·intro a wx c
   have e_27 : a.eval (.tmp 27) = pt h 2 := c.s 17 rfl
   have hO := Z.ogc c
   have eg : a.eval (.tmp 13) = .bool true := c.s 3 rfl
   clear c
   refine og_guard_on (d := 13) (b := true) (o := _) rfl rfl rfl eg ?_
   exact og_val (ex_ld e_27 lt_string (cell_of_heap (v := .string k.iv) (hO.at 0 rfl) rfl)) rfl
  ·intro a wx c
   have e_1 : a.eval (.tmp 1) = pt h 0 := c.o (Z.g 1 rfl)
   have eg : a.eval (.tmp 13) = .bool true := c.s 3 rfl
   clear c
   refine og_guard_on (d := 13) (b := true) (o := _) rfl rfl rfl eg ?_
   exact og_val (ex_mv e_1) rfl
  ·intro a wx c
   have e_29 : a.eval (.tmp 29) = pt h 0 := c.s 19 rfl
   have eg : a.eval (.tmp 13) = .bool true := c.s 3 rfl
   clear c
   refine og_guard_on (d := 13) (b := true) (o := _) rfl rfl rfl eg ?_
   exact og_val (ex_nc e_29) rfl
  ·intro a wx c
   have e_30 : a.eval (.tmp 30) = pt h 0 := c.s 20 rfl
   have eg : a.eval (.tmp 13) = .bool true := c.s 3 rfl
   clear c
   refine og_guard_on (d := 13) (b := true) (o := _) rfl rfl rfl eg ?_
   exact og_val (ex_fo e_30 (fo rfl) rfl) rfl
  ·intro a wx c
   have e_31 : a.eval (.tmp 31) = pt h 3 := c.s 21 rfl
   have hO := Z.ogc c
   have eg : a.eval (.tmp 13) = .bool true := c.s 3 rfl
   clear c
   refine og_guard_on (d := 13) (b := true) (o := _) rfl rfl rfl eg ?_
   exact og_val (ex_ld e_31 lt_string (cell_of_heap (v := .string k.format) (hO.at 0 rfl) rfl)) rfl
  ·intro a wx c
   have e_1 : a.eval (.tmp 1) = pt h 0 := c.o (Z.g 1 rfl)
   have eg : a.eval (.tmp 13) = .bool true := c.s 3 rfl
   clear c
   refine og_guard_on (d := 13) (b := true) (o := _) rfl rfl rfl eg ?_
   exact og_val (ex_mv e_1) rfl
  ·intro a wx c
   have e_33 : a.eval (.tmp 33) = pt h 0 := c.s 23 rfl
   have eg : a.eval (.tmp 13) = .bool true := c.s 3 rfl
   clear c
   refine og_guard_on (d := 13) (b := true) (o := _) rfl rfl rfl eg ?_
   exact og_val (ex_nc e_33) rfl
  ·intro a wx c
   have e_34 : a.eval (.tmp 34) = pt h 0 := c.s 24 rfl
   have eg : a.eval (.tmp 13) = .bool true := c.s 3 rfl
   clear c
   refine og_guard_on (d := 13) (b := true) (o := _) rfl rfl rfl eg ?_
   exact og_val (ex_fo e_34 (fo rfl) rfl) rfl
  ·intro a wx c
   have e_35 : a.eval (.tmp 35) = pt h 4 := c.s 25 rfl
   have hO := Z.ogc c
   have eg : a.eval (.tmp 13) = .bool true := c.s 3 rfl
   clear c
   refine og_guard_on (d := 13) (b := true) (o := _) rfl rfl rfl eg ?_
   exact og_val (ex_ld e_35 lt_string (cell_of_heap (v := .string k.versions) (hO.at 0 rfl) rfl)) rfl
  ·intro a wx c
   have e_20 : a.eval (.tmp 20) = .string k.method := c.s 10 rfl
   have e_24 : a.eval (.tmp 24) = .string k.uri := c.s 14 rfl
   have e_28 : a.eval (.tmp 28) = .string k.iv := c.s 18 rfl
   have e_32 : a.eval (.tmp 32) = .string k.format := c.s 22 rfl
   have e_36 : a.eval (.tmp 36) = .string k.versions := c.s 26 rfl
   have eg : a.eval (.tmp 13) = .bool true := c.s 3 rfl
   clear c
   refine og_guard_on (d := 13) (b := true) (o := _) rfl rfl rfl eg ?_
   exact og_val (v := .agg (Ky.kd k).cells) (ex_bkey e_20 e_24 e_28 e_32 e_36) rfl
  ·intro a wx c
   have e_16 : a.eval (.tmp 16) = .agg (Ky.kd k).cells := c.s 6 rfl
   have e_37 : a.eval (.tmp 37) = .agg (Ky.kd k).cells := c.s 27 rfl
   have eg : a.eval (.tmp 13) = .bool true := c.s 3 rfl
   clear c
   refine og_guard_on (d := 13) (b := true) (o := _) rfl rfl rfl eg ?_
   exact og_val (v := .bool true) (ex_eqkey e_16 e_37) rfl
  ·exact fun _ _ c => og_val (ex_pickT (c.s 3 rfl) (c.s 28 rfl)) rfl
  ·exact fun _ _ c => og_val (ex_as (c.s 29 rfl)) rfl
 ·intro a w1 c hbw1
  replace Z : Sv 40 ((4, .bool true) :: (1, pt h 0) :: (0, .slice (some ⟨g, 0, none⟩) 1 1) :: (6, .bool false) :: []) [⟨h, k.cells, 106, false⟩, ⟨g, (Ky.kd k).cells, 105, false⟩] (fun _ => False) w a w1 := (((((Z.oge c).know (c.o (Z.g 6 rfl))).know (c.o (Z.g 0 rfl))).know (c.o (Z.g 1 rfl))).know (c.slot 30 _ rfl))
  clear c
  replace Z := Z.ct [4, 1, 0, 6] rfl
  refine sh (wp_ret ?_)
  try simp only [Exit.inBlock, Exit.then]
  exact ret_of_ev Z.ev rfl (Z.g 4 rfl) ⟨rfl, Z.toBelow⟩
theorem sameKeys_eq {kb : Option Nat} {k : Option Ky} {v : Value} (w : World) (h1 : IKeyIs w kb (k.map Ky.kd)) (h2 : PtrTo 106 (k.map Ky.cells) v w) : Calls Tryz.prog 22 #[kvV kb, v] w fun e w' => e = .returned (.bool true) ∧ Below w.heap.size w w' := by
 cases k with
 | none =>
  rcases h2 with ⟨_, rfl⟩ | ⟨g, cs, e, _⟩
  ·cases kb with
   | none => exact sameKeys_nil w
   | some g => exact h1.elim
  ·cases e
 | some k =>
  rcases h2 with ⟨e, _⟩ | ⟨g, cs, e, rfl, h3⟩
  ·cases e
  ·cases e
   cases kb with
   | none => exact h1.elim
   | some h => exact sameKeys_some h g k w h1 h3
theorem sameMaps_nil (w : World) : Calls Tryz.prog 23 #[.slice none 0 0, .pointer none] w fun e w' => e = .returned (.bool true) ∧ Below w.heap.size w w' := by
 refine calls_of_ev Tryz.func23 rfl (show 2 ≤ 32 from by decide) fun a hE => ?_
 have hE : Ev 32 ((0, .slice none 0 0) :: (1, .pointer none) :: []) a := hE
 have Z : Sv 32 ((0, .slice none 0 0) :: (1, .pointer none) :: []) [] (fun _ => False) w a w := Sv.start hE _ _
 clear hE
 refine wr (sv_n 1 Z rfl fun a Z => Z.nx [4, 0, 1] rfl fun Z => sh (wp_seq (wr (sv_n 1 Z rfl fun a Z => sv_r (v := .bool true) Z (ex_pe eqp_p_spec_Map (Z.g 5 rfl)) fun a Z => Z.nx [6, 4, 0, 1] rfl fun Z => sh (cond_t (Z.g 6 rfl) (wr ?_))))))
 refine sv_n 1 Z rfl fun a Z => sv_r (v := .int .i64 0) Z (ex_lenS (E := 108) Tryz.underlying38 (Z.g 7 rfl)) fun a Z => sv_r (v := .bool true) Z (ei_eql (Z.g 8 rfl) rfl (by decide)) fun a Z => sv_n 1 Z rfl fun a Z => Z.nx [4, 6, 0, 1] rfl fun Z => sh (wp_ret ?_)
 try simp only [Exit.inBlock, Exit.then]
 exact ret_of_ev Z.ev rfl (Z.g 4 rfl) ⟨rfl, Z.toBelow⟩
theorem sameMaps_some (g h : Nat) (k : Mp) (w : World) (hg : w.heap[g]? = some (.cells (Mp.ud k).cells 108 (0, 0))) (hh : w.heap[h]? = some (.cells k.cells 109 (0, 0))) : Calls Tryz.prog 23 #[.slice (some ⟨g, 0, none⟩) 1 1, pt h 0] w fun e w' => e = .returned (.bool true) ∧ Below w.heap.size w w' := by
 refine calls_of_ev Tryz.func23 rfl (show 2 ≤ 32 from by decide) fun a hE => ?_
 have hE : Ev 32 ((0, .slice (some ⟨g, 0, none⟩) 1 1) :: (1, pt h 0) :: []) a := hE
 have Z : Sv 32 ((0, .slice (some ⟨g, 0, none⟩) 1 1) :: (1, pt h 0) :: []) [] (fun _ => False) w a w := Sv.start hE _ _
 clear hE
 have hS1 := Z.addR hg (by intro q hq; cases hq)
 replace Z : Sv 32 ((0, .slice (some ⟨g, 0, none⟩) 1 1) :: (1, pt h 0) :: []) [⟨h, k.cells, 109, false⟩, ⟨g, (Mp.ud k).cells, 108, false⟩] (fun _ => False) w a w := hS1.addR hh (hS1.neT hh rfl)
 clear hS1
 refine wr (sv_n 1 Z rfl fun a Z => Z.nx [4, 0, 1] rfl fun Z => sh (wp_seq (wr (sv_n 1 Z rfl fun a Z => sv_r (v := .bool false) Z (ex_pe eqp_p_spec_Map (Z.g 5 rfl)) fun a Z => Z.nx [6, 4, 0, 1] rfl fun Z => sh (cond_f (Z.g 6 rfl) (wp_skip ?_))))))
 refine sh (wp_seq ?_)
 refine wp_region_og0 (n := 32) [Asr.eq (.slice (some ⟨g, 0, none⟩) 1 1), Asr.eq (.int .i64 1), Asr.eq (.bool true), Asr.eq (.bool true), Asr.eq (.slice (some ⟨g, 0, none⟩) 1 1), Asr.eq (pt g 0), Asr.eq (.agg (Mp.ud k).cells), Asr.eq (pt h 0), Asr.eq (pt h 0), Asr.eq (pt h 0), Asr.eq (.string k.uri), Asr.eq (pt h 0), Asr.eq (pt h 0), Asr.eq (pt h 1), Asr.eq (.int .i64 ((k.limit : Nat) : Int)), Asr.eq (pt h 0), Asr.eq (pt h 0), Asr.eq (pt h 2), Asr.eq (.int .i64 ((k.offset : Nat) : Int)), Asr.eq (.agg (Mp.ud k).cells), Asr.eq (.bool true), Asr.eq (.bool true), Asr.eq (.bool true)] (by kernel_rfl) (by kernel_rfl) (by kernel_rfl) Z.ev.size ⟨⟩ ?_ ?_
 ·refine ⟨?_, ?_, ?_, ?_, ?_, ?_, ?_, ?_, ?_, ?_, ?_, ?_, ?_, ?_, ?_, ?_, ?_, ?_, ?_, ?_, ?_, ?_, ?_, trivial⟩
  ·exact qm (Z.g 0 rfl)
  ·exact fun _ _ c => og_val (ex_len Tryz.underlying38 (c.s 0 rfl)) rfl
  ·exact fun _ _ c => og_val (ei_eql (c.s 1 rfl) rfl (by decide)) rfl
  ·exact fun _ _ c => og_val (ex_mv (c.s 2 rfl)) rfl
  ·intro a wx c
   have e_0 : a.eval (.tmp 0) = .slice (some ⟨g, 0, none⟩) 1 1 := c.o (Z.g 0 rfl)
   have eg : a.eval (.tmp 13) = .bool true := c.s 3 rfl
   clear c
   refine og_guard_on (d := 13) (b := true) (o := _) rfl rfl rfl eg ?_
   exact og_val (ex_mv e_0) rfl
  ·intro a wx c
   have e_14 : a.eval (.tmp 14) = .slice (some ⟨g, 0, none⟩) 1 1 := c.s 4 rfl
   have eg : a.eval (.tmp 13) = .bool true := c.s 3 rfl
   clear c
   refine og_guard_on (d := 13) (b := true) (o := _) rfl rfl rfl eg ?_
   exact og_val (ex_ia (i := 0) (E := 108) Tryz.underlying38 Tryz.sizeOf108 e_14 rfl (by omega)) rfl
  ·intro a wx c
   have e_15 : a.eval (.tmp 15) = pt g 0 := c.s 5 rfl
   have hO := Z.ogc c
   have eg : a.eval (.tmp 13) = .bool true := c.s 3 rfl
   clear c
   refine og_guard_on (d := 13) (b := true) (o := _) rfl rfl rfl eg ?_
   exact og_val (ex_lb ag_impl_Map e_15 (hO.at 1 rfl) rfl) rfl
  ·intro a wx c
   have e_1 : a.eval (.tmp 1) = pt h 0 := c.o (Z.g 1 rfl)
   have eg : a.eval (.tmp 13) = .bool true := c.s 3 rfl
   clear c
   refine og_guard_on (d := 13) (b := true) (o := _) rfl rfl rfl eg ?_
   exact og_val (ex_mv e_1) rfl
  ·intro a wx c
   have e_17 : a.eval (.tmp 17) = pt h 0 := c.s 7 rfl
   have eg : a.eval (.tmp 13) = .bool true := c.s 3 rfl
   clear c
   refine og_guard_on (d := 13) (b := true) (o := _) rfl rfl rfl eg ?_
   exact og_val (ex_nc e_17) rfl
  ·intro a wx c
   have e_18 : a.eval (.tmp 18) = pt h 0 := c.s 8 rfl
   have eg : a.eval (.tmp 13) = .bool true := c.s 3 rfl
   clear c
   refine og_guard_on (d := 13) (b := true) (o := _) rfl rfl rfl eg ?_
   exact og_val (ex_fo e_18 (fo rfl) rfl) rfl
  ·intro a wx c
   have e_19 : a.eval (.tmp 19) = pt h 0 := c.s 9 rfl
   have hO := Z.ogc c
   have eg : a.eval (.tmp 13) = .bool true := c.s 3 rfl
   clear c
   refine og_guard_on (d := 13) (b := true) (o := _) rfl rfl rfl eg ?_
   exact og_val (ex_ld e_19 lt_string (cell_of_heap (v := .string k.uri) (hO.at 0 rfl) rfl)) rfl
  ·intro a wx c
   have e_1 : a.eval (.tmp 1) = pt h 0 := c.o (Z.g 1 rfl)
   have eg : a.eval (.tmp 13) = .bool true := c.s 3 rfl
   clear c
   refine og_guard_on (d := 13) (b := true) (o := _) rfl rfl rfl eg ?_
   exact og_val (ex_mv e_1) rfl
  ·intro a wx c
   have e_21 : a.eval (.tmp 21) = pt h 0 := c.s 11 rfl
   have eg : a.eval (.tmp 13) = .bool true := c.s 3 rfl
   clear c
   refine og_guard_on (d := 13) (b := true) (o := _) rfl rfl rfl eg ?_
   exact og_val (ex_nc e_21) rfl
  ·intro a wx c
   have e_22 : a.eval (.tmp 22) = pt h 0 := c.s 12 rfl
   have eg : a.eval (.tmp 13) = .bool true := c.s 3 rfl
   clear c
   refine og_guard_on (d := 13) (b := true) (o := _) rfl rfl rfl eg ?_
   exact og_val (ex_fo e_22 (fo rfl) rfl) rfl
  ·intro a wx c
   have e_23 : a.eval (.tmp 23) = pt h 1 := c.s 13 rfl
   have hO := Z.ogc c
   have eg : a.eval (.tmp 13) = .bool true := c.s 3 rfl
   clear c
   refine og_guard_on (d := 13) (b := true) (o := _) rfl rfl rfl eg ?_
   exact og_val (ex_ld e_23 lt_int64 (cell_of_heap (v := .int .i64 ((k.limit : Nat) : Int)) (hO.at 0 rfl) rfl)) rfl
  ·intro a wx c
   have e_1 : a.eval (.tmp 1) = pt h 0 := c.o (Z.g 1 rfl)
   have eg : a.eval (.tmp 13) = .bool true := c.s 3 rfl
   clear c
   refine og_guard_on (d := 13) (b := true) (o := _) rfl rfl rfl eg ?_
   exact og_val (ex_mv e_1) rfl
  ·intro a wx c
   have e_25 : a.eval (.tmp 25) = pt h 0 := c.s 15 rfl
   have eg : a.eval (.tmp 13) = .bool true := c.s 3 rfl
   clear c
   refine og_guard_on (d := 13) (b := true) (o := _) rfl rfl rfl eg ?_
   exact og_val (ex_nc e_25) rfl
  ·intro a wx c
   have e_26 : a.eval (.tmp 26) = pt h 0 := c.s 16 rfl
   have eg : a.eval (.tmp 13) = .bool true := c.s 3 rfl
   clear c
   refine og_guard_on (d := 13) (b := true) (o := _) rfl rfl rfl eg ?_
   exact og_val (ex_fo e_26 (fo rfl) rfl) rfl
  ·intro a wx c
   have e_27 : a.eval (.tmp 27) = pt h 2 := c.s 17 rfl
   have hO := Z.ogc c
   have eg : a.eval (.tmp 13) = .bool true := c.s 3 rfl
   clear c
   refine og_guard_on (d := 13) (b := true) (o := _) rfl rfl rfl eg ?_
   exact og_val (ex_ld e_27 lt_int64 (cell_of_heap (v := .int .i64 ((k.offset : Nat) : Int)) (hO.at 0 rfl) rfl)) rfl
  ·intro a wx c
   have e_20 : a.eval (.tmp 20) = .string k.uri := c.s 10 rfl
   have e_24 : a.eval (.tmp 24) = .int .i64 ((k.limit : Nat) : Int) := c.s 14 rfl
   have e_28 : a.eval (.tmp 28) = .int .i64 ((k.offset : Nat) : Int) := c.s 18 rfl
   have eg : a.eval (.tmp 13) = .bool true := c.s 3 rfl
   clear c
   refine og_guard_on (d := 13) (b := true) (o := _) rfl rfl rfl eg ?_
   exact og_val (v := .agg (Mp.ud k).cells) (ex_bmap e_20 e_24 e_28) rfl
  ·intro a wx c
   have e_16 : a.eval (.tmp 16) = .agg (Mp.ud k).cells := c.s 6 rfl
   have e_29 : a.eval (.tmp 29) = .agg (Mp.ud k).cells := c.s 19 rfl
   have eg : a.eval (.tmp 13) = .bool true := c.s 3 rfl
   clear c
   refine og_guard_on (d := 13) (b := true) (o := _) rfl rfl rfl eg ?_
   exact og_val (v := .bool true) (ex_eqmap e_16 e_29) rfl
  ·exact fun _ _ c => og_val (ex_pickT (c.s 3 rfl) (c.s 20 rfl)) rfl
  ·exact fun _ _ c => og_val (ex_as (c.s 21 rfl)) rfl
 ·intro a w1 c hbw1
  replace Z : Sv 32 ((4, .bool true) :: (1, pt h 0) :: (0, .slice (some ⟨g, 0, none⟩) 1 1) :: (6, .bool false) :: []) [⟨h, k.cells, 109, false⟩, ⟨g, (Mp.ud k).cells, 108, false⟩] (fun _ => False) w a w1 := (((((Z.oge c).know (c.o (Z.g 6 rfl))).know (c.o (Z.g 0 rfl))).know (c.o (Z.g 1 rfl))).know (c.slot 22 _ rfl))
  clear c
  replace Z := Z.ct [4, 1, 0, 6] rfl
  refine sh (wp_ret ?_)
  try simp only [Exit.inBlock, Exit.then]
  exact ret_of_ev Z.ev rfl (Z.g 4 rfl) ⟨rfl, Z.toBelow⟩
theorem sameMaps_eq {kb : Option Nat} {k : Option Mp} {v : Value} (w : World) (h1 : IMapIs w kb (k.map Mp.ud)) (h2 : PtrTo 109 (k.map Mp.cells) v w) : Calls Tryz.prog 23 #[kvV kb, v] w fun e w' => e = .returned (.bool true) ∧ Below w.heap.size w w' := by
 cases k with
 | none =>
  rcases h2 with ⟨_, rfl⟩ | ⟨g, cs, e, _⟩
  ·cases kb with
   | none => exact sameMaps_nil w
   | some g => exact h1.elim
  ·cases e
 | some k =>
  rcases h2 with ⟨e, _⟩ | ⟨g, cs, e, rfl, h3⟩
  ·cases e
  ·cases e
   cases kb with
   | none => exact h1.elim
   | some h => exact sameMaps_some h g k w h1 h3
theorem sameSeg_eq {s : Sm} {kv mv : Value} {sq z : Nat} {kb mb : Option Nat} {kk : Option Kd} {mm : Option Ud} (he : s.e < 1000) (hz : F8 z s.e) (w : World) (h1 : IKeyIs w kb (s.key.map Ky.kd)) (h2 : IMapIs w mb (s.map.map Mp.ud)) (h3 : Sx.At (s, kv, mv) w) : Calls Tryz.prog 21 #[.agg ((sgL ⟨⟨sq, s.title, s.uri, z, s.limit, s.offset, kk, mm, s.disc, s.date⟩, kb, mb⟩).toArray), .agg (Sx.cells (s, kv, mv)), .int .u64 ((sq : Nat) : Int)] w fun e w' => e = .returned (.bool true) ∧ Below w.heap.size w w' := by
 refine calls_of_ev Tryz.func21 rfl (show 3 ≤ 82 from by decide) fun a hE => ?_
 have hE : Ev 82 ((0, .agg ((sgL ⟨⟨sq, s.title, s.uri, z, s.limit, s.offset, kk, mm, s.disc, s.date⟩, kb, mb⟩).toArray)) :: (1, .agg (Sx.cells (s, kv, mv))) :: (2, .int .u64 ((sq : Nat) : Int)) :: []) a := hE
 have Z : Sv 82 ((0, .agg ((sgL ⟨⟨sq, s.title, s.uri, z, s.limit, s.offset, kk, mm, s.disc, s.date⟩, kb, mb⟩).toArray)) :: (1, .agg (Sx.cells (s, kv, mv))) :: (2, .int .u64 ((sq : Nat) : Int)) :: []) [] (fun _ => False) w a w := Sv.start hE _ _
 clear hE
 refine wr (sv_box Z (Z.g 0 rfl) (bx_impl_Segment _) (by decide) fun g1 a w2 hg1 hbw2 hwg1 Z => sv_box Z (Z.g 1 rfl) (bx_spec_Segment _) (by decide) fun g3 a w4 hg3 hbw4 hwg3 Z => sv_n 1 Z rfl fun a Z => Z.nx [6, 4, 3, 2] rfl fun Z => sh (wr (sv_n 1 Z rfl fun a Z => sv_l (v := .int .u64 ((sq : Nat) : Int)) 1 Z rfl (Z.g 7 rfl) lt_uint64 rfl fun a Z => sv_n 1 Z rfl fun a Z => ?_)))
 refine sv_r (v := .bool true) Z (ei_eql (Z.g 8 rfl) (Z.g 9 rfl) (by rw [decide_eq_true_iff])) fun a Z => sv_n 2 Z rfl fun a Z => sv_g (v := .string s.title) Z (Z.g 11 rfl) (ex_ld (Z.g 12 rfl) lt_string (cell_of_heap (v := .string s.title) (Z.at 1 rfl) rfl)) fun a Z => sv_n 1 Z rfl fun a Z => sv_g (v := .string s.title) Z (Z.g 11 rfl) (ex_ld (Z.g 14 rfl) lt_string (cell_of_heap (v := .string s.title) (Z.at 0 rfl) rfl)) fun a Z => ?_
 refine sv_g (v := .bool true) Z (Z.g 11 rfl) (ex_eqsk (Z.g 13 rfl) (Z.g 15 rfl) (by rw [decide_eq_true_iff])) fun a Z => sv_n 3 Z rfl fun a Z => sv_g (v := .string s.uri) Z (Z.g 18 rfl) (ex_ld (Z.g 19 rfl) lt_string (cell_of_heap (v := .string s.uri) (Z.at 1 rfl) rfl)) fun a Z => sv_n 1 Z rfl fun a Z => sv_g (v := .string s.uri) Z (Z.g 18 rfl) (ex_ld (Z.g 21 rfl) lt_string (cell_of_heap (v := .string s.uri) (Z.at 0 rfl) rfl)) fun a Z => ?_
 refine sv_g (v := .bool true) Z (Z.g 18 rfl) (ex_eqsk (Z.g 20 rfl) (Z.g 22 rfl) (by rw [decide_eq_true_iff])) fun a Z => sv_n 3 Z rfl fun a Z => sv_g (v := .float .f64 (z)) Z (Z.g 25 rfl) (ex_ld (Z.g 26 rfl) lt_float64 (cell_of_heap (v := .float .f64 (z)) (Z.at 1 rfl) rfl)) fun a Z => sv_g (v := .float .f64 (m8 z)) Z (Z.g 25 rfl) (ex_mul8 (Z.g 27 rfl) hz.mul) fun a Z => sv_n 1 Z rfl fun a Z => sv_g (v := .int .i64 ((s.e : Nat) : Int)) Z (Z.g 25 rfl) (ex_ld (Z.g 29 rfl) lt_int (cell_of_heap (v := .int .i64 ((s.e : Nat) : Int)) (Z.at 0 rfl) rfl)) fun a Z => sv_g (v := .float .f64 (floatOfInt .f64 (((s.e : Nat) : Int)))) Z (Z.g 25 rfl) (ex_cv (Z.g 30 rfl) (cv_int_float64 _)) fun a Z => ?_
 refine sv_g (v := .bool true) Z (Z.g 25 rfl) (ef_eql (Z.g 28 rfl) (Z.g 31 rfl) (by exact hz.eq)) fun a Z => sv_n 3 Z rfl fun a Z => sv_g (v := .int .i64 ((s.limit : Nat) : Int)) Z (Z.g 34 rfl) (ex_ld (Z.g 35 rfl) lt_int64 (cell_of_heap (v := .int .i64 ((s.limit : Nat) : Int)) (Z.at 1 rfl) rfl)) fun a Z => sv_n 1 Z rfl fun a Z => sv_g (v := .int .i64 ((s.limit : Nat) : Int)) Z (Z.g 34 rfl) (ex_ld (Z.g 37 rfl) lt_int64 (cell_of_heap (v := .int .i64 ((s.limit : Nat) : Int)) (Z.at 0 rfl) rfl)) fun a Z => ?_
 refine sv_g (v := .bool true) Z (Z.g 34 rfl) (ei_eql (Z.g 36 rfl) (Z.g 38 rfl) (by rw [decide_eq_true_iff])) fun a Z => sv_n 3 Z rfl fun a Z => sv_g (v := .int .i64 ((s.offset : Nat) : Int)) Z (Z.g 41 rfl) (ex_ld (Z.g 42 rfl) lt_int64 (cell_of_heap (v := .int .i64 ((s.offset : Nat) : Int)) (Z.at 1 rfl) rfl)) fun a Z => sv_n 1 Z rfl fun a Z => sv_g (v := .int .i64 ((s.offset : Nat) : Int)) Z (Z.g 41 rfl) (ex_ld (Z.g 44 rfl) lt_int64 (cell_of_heap (v := .int .i64 ((s.offset : Nat) : Int)) (Z.at 0 rfl) rfl)) fun a Z => ?_
 refine sv_g (v := .bool true) Z (Z.g 41 rfl) (ei_eql (Z.g 43 rfl) (Z.g 45 rfl) (by rw [decide_eq_true_iff])) fun a Z => sv_n 3 Z rfl fun a Z => sv_g (v := .bool (s.disc)) Z (Z.g 48 rfl) (ex_ld (Z.g 49 rfl) lt_bool (cell_of_heap (v := .bool (s.disc)) (Z.at 1 rfl) rfl)) fun a Z => sv_n 1 Z rfl fun a Z => sv_g (v := .bool (s.disc)) Z (Z.g 48 rfl) (ex_ld (Z.g 51 rfl) lt_bool (cell_of_heap (v := .bool (s.disc)) (Z.at 0 rfl) rfl)) fun a Z => sv_g (v := .bool true) Z (Z.g 48 rfl) (ex_beql (Z.g 50 rfl) (Z.g 52 rfl)) fun a Z => sv_n 3 Z rfl fun a Z => sv_g (v := .string s.date) Z (Z.g 55 rfl) (ex_ld (Z.g 56 rfl) lt_string (cell_of_heap (v := .string s.date) (Z.at 1 rfl) rfl)) fun a Z => sv_n 1 Z rfl fun a Z => sv_g (v := .string s.date) Z (Z.g 55 rfl) (ex_ld (Z.g 58 rfl) lt_string (cell_of_heap (v := .string s.date) (Z.at 0 rfl) rfl)) fun a Z => ?_
 refine sv_g (v := .bool true) Z (Z.g 55 rfl) (ex_eqsk (Z.g 57 rfl) (Z.g 59 rfl) (by rw [decide_eq_true_iff])) fun a Z => sv_n 3 Z rfl fun a Z => sv_g (v := .slice none 0 0) Z (Z.g 62 rfl) (ex_ld (Z.g 63 rfl) lt_sl_impl_Cue (cell_of_heap (v := .slice none 0 0) (Z.at 1 rfl) rfl)) fun a Z => sv_g (v := .int .i64 0) Z (Z.g 62 rfl) (ex_lenS (E := 172) Tryz.underlying65 (Z.g 64 rfl)) fun a Z => sv_g (v := .bool true) Z (Z.g 62 rfl) (ei_eql (Z.g 65 rfl) rfl (by decide)) fun a Z => sv_n 3 Z rfl fun a Z => sv_g (v := .slice (kvA kb) (kvN kb) (kvN kb)) Z (Z.g 68 rfl) (ex_ld (Z.g 69 rfl) lt_sl_impl_Key (cell_of_heap (v := .slice (kvA kb) (kvN kb) (kvN kb)) (Z.at 1 rfl) rfl)) fun a Z => sv_n 1 Z rfl fun a Z => sv_g (v := kv) Z (Z.g 68 rfl) (ex_ld (Z.g 71 rfl) lt_p_spec_Key (cell_of_heap (v := kv) (Z.at 0 rfl) rfl)) fun a Z => sv_gcallv (v := .bool true) Z rfl rfl (Z.g 68 rfl) rfl (by decide) (ex_call2 cf_laws_sameKeys (Z.g 70 rfl) (Z.g 72 rfl)) (sameKeys_eq w4 (h1.below Z.toBelow) (h3.1.keep Z.toBelow)) fun a w5 hbw5 Z => sv_n 3 Z rfl fun a Z => sv_g (v := .slice (kvA mb) (kvN mb) (kvN mb)) Z (Z.g 75 rfl) (ex_ld (Z.g 76 rfl) lt_sl_impl_Map (cell_of_heap (v := .slice (kvA mb) (kvN mb) (kvN mb)) (Z.at 1 rfl) rfl)) fun a Z => ?_
 refine sv_n 1 Z rfl fun a Z => sv_g (v := mv) Z (Z.g 75 rfl) (ex_ld (Z.g 78 rfl) lt_p_spec_Map (cell_of_heap (v := mv) (Z.at 0 rfl) rfl)) fun a Z => sv_gcallv (v := .bool true) Z rfl rfl (Z.g 75 rfl) rfl (by decide) (ex_call2 cf_laws_sameMaps (Z.g 77 rfl) (Z.g 79 rfl)) (sameMaps_eq w5 (h2.below Z.toBelow) (h3.2.keep Z.toBelow)) fun a w6 hbw6 Z => sv_n 2 Z rfl fun a Z => Z.nx [6] rfl fun Z => sh (wp_ret ?_)
 try simp only [Exit.inBlock, Exit.then]
 exact ret_of_ev Z.ev rfl (Z.g 6 rfl) ⟨rfl, Z.toBelow⟩
end Go.Proofs.YtflppablgdegcaaGreatDoor
