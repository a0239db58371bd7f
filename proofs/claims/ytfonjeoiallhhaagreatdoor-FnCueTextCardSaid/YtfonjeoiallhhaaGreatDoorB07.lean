/- Joined: Ffo, Ffp. -/
import Derived.Test.YtfonjeoiallhhaaGreatDoorB06
/- strconv.ftoa32 at 'f', precision 3. -/
set_option maxRecDepth 100000
set_option maxHeartbeats 4000000
namespace Go.Proofs.YtfonjeoiallhhaaGreatDoor
open Go.Shelf Go.RowKit Go.Sort Go.Lib
theorem run_f32bits (X : Nat) (w : World) : (callFunc 84 #[.float .f32 X]).run Tryz.prog w = .ok (.value (.int .u32 X)) w := by
 rw [run_callFunc_extern Tryz.func84 (by kernel_rfl) (by kernel_rfl) (by kernel_rfl) (e := Go.Extern.MathFloatBits.float32bits) (by kernel_rfl)]
 rfl
noncomputable def ftBody32 : Code := Tryz.f73.body.getD .skip
theorem ftoa_rest32 {Q : Exit → Act → World → Prop} (mt m d dg n : Nat) (E : Int) (hEb : -10 ≤ E ∧ E ≤ 10) (hlen : Lib.bitLen mt = 24) (hmb : mt < 16777216) (hm : mt * 1099511627776 = m) (hdg : 0 < dg ∧ dg ≤ 18)
  (hfix : ∀ w, (∀ w', Below w.heap.size w w' → FfTab w') → Calls Tryz.prog 91 #[.int .u64 m, .int .i64 (E - 63), .int .i64 dg, .int .i64 3, .int .u8 102] w fun e w' => e = .returned (.tuple #[.int .u64 d, .int .i64 (-3)]) ∧ Below w.heap.size w w')
  (hd0 : d ≠ 0) (hd1 : d ≤ 10000000) (hn : nDigits d = n) (hn3 : 3 ≤ n) (hn7 : n ≤ 7) (hdn : d < 10 ^ n) (b0 : UInt8) (hb0 : (decDigits d)[0]? = some b0) (hb1 : b0 ≠ 48) (B : Nat) (s0 : Value) (w : World) (hB : B ≤ w.heap.size) (hs0 : Own ul 5 1 w B s0 []) (hT : ∀ w', Below w.heap.size w w' → FfTab w') (a : Act) (hE : Ev 298 ((0, s0) :: (2, .int .u8 102) :: (3, .int .i64 3) :: (11, .int .i64 23) :: (13, .bool false) :: (14, .int .i64 E) :: (15, .int .u64 mt) :: (24, .int .i64 dg) :: []) a)
  (hR : ∀ a w' s nd, (∀ (j : Nat) (b : UInt8), nd ≤ j → (decDigits d)[j]? = some b → b = 48) → nd ≤ n → Own ul 5 1 w' B s (efg (decDigits d) (n - 3) nd) → Below B w w' → Ev 298 ((8, s) :: []) a → Q .ret a w') :
  Code.wp Tryz.prog (cB (cB (cA (cB (cA (cB (cB (cB (cB (cB (cB (cB (cB (cB (cB (cB (cB (cB (cB ftBody32))))))))))))))))))) Q a w := by
 have hlenD : (decDigits d).length = n := by rw [decDigits_length, hn]
 refine wp_seq ?_
 refine wp_region_lit ?_
 refine ev_r (w' := w) hE (ex_mv (hE.get 24 rfl)) fun a hE => ?_
 refine ev_r (v := .bool true) (w' := w) hE (ei_leq (hE.get 203 rfl) rfl (decide_eq_true (by omega))) fun a hE => ?_
 refine wpList_nil ?_
 show Code.wp _ _ _ _ _
 refine wp_cond_split (hE.get 204 rfl) (fun _ => ?_) (fun h => by cases h)
 refine wp_seq ?_
 refine wp_region_lit ?_
 refine ev_al hE al_u24 (by decide) ?_
 intro a w1 hE hg hbl1 hsz1
 generalize hgg : w.heap.size = g at hE hg
 have hgB : B ≤ g := by omega
 refine wpList_nil ?_
 show Code.wp _ _ _ _ _
 refine wp_seq ?_
 refine wp_region_lit ?_
 refine ev_ac hE (by decide) ?_
 intro a hE
 refine ev_ac hE (by decide) ?_
 intro a hE
 refine wpList_nil ?_
 show Code.wp _ _ _ _ _
 refine wp_seq ?_
 refine wp_seq ?_
 refine wp_region_lit ?_
 refine ev_r (w' := w1) hE (ex_mv (hE.get 24 rfl)) fun a hE => ?_
 refine ev_r (v := .bool true) (w' := w1) hE (ei_gtr (hE.get 205 rfl) rfl (decide_eq_true (by omega))) fun a hE => ?_
 refine wpList_nil ?_
 show Code.wp _ _ _ _ _
 refine wp_cond_split (hE.get 206 rfl) (fun _ => ?_) (fun h => by cases h)
 refine wp_seq ?_
 refine wp_region_lit ?_
 refine ev_r (w' := w1) hE (ex_mv (hE.get 15 rfl)) fun a hE => ?_
 refine ev_call (S := fun u w' => u = .int .i64 24 ∧ w1 = w') hE rfl rfl (by decide) (f := 80) (args := #[.int .u64 mt]) (by simp only [execOp, resolve, List.map_toArray, List.map_cons, List.map_nil, hE.get 207 rfl]; go_simp) (Calls.mono (by have h := len64_any mt (by omega) w1; rw [hlen] at h; exact h) (by rintro e w' ⟨rfl, h⟩; exact ⟨_, rfl, rfl, h.symm⟩)) ?_
 rintro a u wx ⟨rfl, rfl⟩ hE
 refine ev_r (v := .int .i64 40) (w' := w1) hE (ei_sub rfl (hE.get 208 rfl) (by decide)) fun a hE => ?_
 refine ev_r (w' := w1) hE (ex_as (hE.get 209 rfl)) fun a hE => ?_
 refine wpList_nil ?_
 show Code.wp _ _ _ _ _
 refine wp_seq ?_
 refine wp_region_lit ?_
 refine ev_r (w' := w1) hE (ex_mv (hE.get 15 rfl)) fun a hE => ?_
 refine ev_r (w' := w1) hE (ex_mv (hE.get 28 rfl)) fun a hE => ?_
 refine ev_r (v := .int .u64 m) (w' := w1) hE (ei_shl (hE.get 210 rfl) (hE.get 211 rfl) (by omega) (by simp only [IntKind.bits]; omega) (by show IntKind.u64.wrap ((mt : Int) * 1099511627776) = m; rw [IntKind.wrap_u64]; omega)) fun a hE => ?_
 refine ev_r (w' := w1) hE (ex_as (hE.get 212 rfl)) fun a hE => ?_
 refine wpList_nil ?_
 show Code.wp _ _ _ _ _
 refine wp_seq ?_
 refine wp_region_lit ?_
 refine ev_r (w' := w1) hE (ex_mv (hE.get 14 rfl)) fun a hE => ?_
 refine ev_r (w' := w1) hE (ex_mv (hE.get 28 rfl)) fun a hE => ?_
 refine ev_r (v := .int .i64 (E - 40)) (w' := w1) hE (ei_sub (hE.get 213 rfl) (hE.get 214 rfl) (by rw [IntKind.wrap_i64]; omega)) fun a hE => ?_
 refine ev_r (w' := w1) hE (ex_as (hE.get 215 rfl)) fun a hE => ?_
 refine wpList_nil ?_
 show Code.wp _ _ _ _ _
 refine wp_seq ?_
 refine wp_region_lit ?_
 refine ev_r (w' := w1) hE (ex_mv (hE.get 29 rfl)) fun a hE => ?_
 refine ev_r (w' := w1) hE (ex_mv (hE.get 30 rfl)) fun a hE => ?_
 refine ev_r (w' := w1) hE (ex_mv (hE.get 11 rfl)) fun a hE => ?_
 refine ev_r (v := .int .i64 (E - 63)) (w' := w1) hE (ei_sub (hE.get 218 rfl) (hE.get 219 rfl) (by rw [IntKind.wrap_i64]; omega)) fun a hE => ?_
 refine ev_r (w' := w1) hE (ex_mv (hE.get 24 rfl)) fun a hE => ?_
 refine ev_r (w' := w1) hE (ex_mv (hE.get 3 rfl)) fun a hE => ?_
 refine ev_r (w' := w1) hE (ex_mv (hE.get 2 rfl)) fun a hE => ?_
 refine ev_call (S := fun u w' => u = .tuple #[.int .u64 d, .int .i64 (-3)] ∧ Below w1.heap.size w1 w') hE rfl rfl (by decide) (f := 91) (args := #[.int .u64 m, .int .i64 (E - 63), .int .i64 dg, .int .i64 3, .int .u8 102]) (by simp only [execOp, resolve, List.map_toArray, List.map_cons, List.map_nil, hE.get 217 rfl, hE.get 220 rfl, hE.get 221 rfl, hE.get 222 rfl, hE.get 223 rfl]; go_simp) ((hfix w1 (fun w' hb => hT w' (hbl1.trans (hb.mono hbl1.size)))).mono (by rintro e w' ⟨rfl, h⟩; exact ⟨_, rfl, rfl, h⟩)) ?_
 rintro a u w2 ⟨rfl, hb12⟩ hE
 have hg := hp_below hg hb12
 have hbl2 := hbl1.trans (hb12.mono hbl1.size)
 refine ev_r (w' := w2) hE (ex_mv (hE.get 224 rfl)) fun a hE => ?_
 refine ev_r (w' := w2) hE (ei_ext (hE.get 216 rfl) rfl) fun a hE => ?_
 refine ev_r (w' := w2) hE (ei_ext (hE.get 216 rfl) rfl) fun a hE => ?_
 refine ev_r (w' := w2) hE (ex_as (hE.get 225 rfl)) fun a hE => ?_
 refine ev_r (w' := w2) hE (ex_as (hE.get 226 rfl)) fun a hE => ?_
 refine wpList_nil ?_
 show Code.wp _ _ _ _ _
 refine wp_seq ?_
 refine wp_region_lit ?_
 refine ev_r (w' := w2) hE (ex_mv (hE.get 31 rfl)) fun a hE => ?_
 refine ev_r (v := .bool true) (w' := w2) hE (by simp only [execOp, hE.get 227 rfl]; have hne : ((d : Int) == 0) = false := (beq_false_of_ne (by omega)); go_simp) fun a hE => ?_
 refine wpList_nil ?_
 show Code.wp _ _ _ _ _
 refine wp_cond_split (hE.get 228 rfl) (fun _ => ?_) (fun h => by cases h)
 refine G2.sd_rgn32 hd0 hd1 hn hn3 hn7 hdn b0 hb0 hb1 hg (fun w' ho => (hT w' (hbl2.trans (only_bel ho (by rw [hgg]; exact Nat.le_of_lt (Array.getElem?_eq_some_iff.1 hg).1) (by omega)))).pow) hE.size (hE.get 25 rfl) (hE.get 31 rfl) (hE.get 32 rfl) ?_
 intro a4 w4 nd hs4 hd4 hlow h26 h27 hnd1 hnd2 hz hdga ho4
 have hE : Ev 298 ((0, s0) :: (2, .int .u8 102) :: (3, .int .i64 3) :: (13, .bool false) :: (25, pt g 0) :: []) a := hE.pick rfl
 have hE := hE.from2 (m0 := 229) (d1 := 26) (d2 := 27) hs4 hd4 hlow h26 h27 rfl
 have hb4 : Below w.heap.size w w4 := hbl2.trans (only_bel ho4 (by rw [hgg]; exact Nat.le_of_lt (Array.getElem?_eq_some_iff.1 hg).1) (by omega))
 show Code.wp _ _ _ _ _
 have hF : Fx g (decDigits d) B w [] s0 w4 := ⟨hs0.below hb4, hdga, hb4.mono hB, Nat.le_trans hB hb4.size⟩
 refine wp_seq ?_
 refine wp_region_lit ?_
 refine ev_r (w' := w4) hE (ex_mv (hE.get 0 rfl)) fun a hE => ?_
 refine ev_r (w' := w4) hE (ex_mv (hE.get 13 rfl)) fun a hE => ?_
 refine ev_r (v := .slice (some ⟨g, 0, none⟩) 24 24) (w' := w4) hE (by have hs := sl_all g w4; simp only [execOp, hE.get 25 rfl, Option.map]; exact run_andValue hs) fun a hE => ?_
 refine ev_r (w' := w4) hE (ex_mv (hE.get 26 rfl)) fun a hE => ?_
 refine ev_r (w' := w4) hE (ex_mv (hE.get 27 rfl)) fun a hE => ?_
 refine ev_r (w' := w4) hE (ex_mv (hE.get 3 rfl)) fun a hE => ?_
 refine ev_r (w' := w4) hE (ex_mv (hE.get 2 rfl)) fun a hE => ?_
 have hn3' : ((n : Int) - 3) = ((n - 3 : Nat) : Int) := by omega
 rw [hn3'] at hE
 refine ev_call (S := fun u w' => Fx g (decDigits d) B w (efg (decDigits d) (n - 3) nd) u w') hE rfl rfl (by decide) (f := 88) (args := #[s0, .bool false, .slice (some ⟨g, 0, none⟩) 24 24, .int .i64 (n - 3 : Nat), .int .i64 nd, .int .i64 3, .int .u8 102, .bool false]) (by simp only [execOp, resolve, List.map_toArray, List.map_cons, List.map_nil, hE.get 238 rfl, hE.get 239 rfl, hE.get 240 rfl, hE.get 241 rfl, hE.get 242 rfl, hE.get 243 rfl, hE.get 244 rfl]; go_simp) ((fmtEFG_any g (decDigits d) B w s0 (n - 3) nd (by omega) (by omega) (by omega) w4 hF).mono (by rintro e w' ⟨s, rfl, h⟩; exact ⟨_, rfl, h⟩)) ?_
 intro a s w5 hF5 hE
 refine ev_as hE (hE.get 245 rfl) (by decide) ?_
 intro a hE
 refine wpList_nil ?_
 show Code.wp _ _ _ _ _
 refine wp_ret ?_
 exact hR a w5 s nd hz hnd2 hF5.own hF5.below (hE.pick rfl)
theorem ftoa_any32 (X ex fr mt m d dg n : Nat) (E : Int) (hX : X < 2147483648) (hex : X / 8388608 = ex) (hex0 : 0 < ex) (hex1 : ex < 255) (hexb : bits .and .i64 (ex : Int) 255 = ex) (hfr : X &&& 8388607 = fr) (hmt : fr ||| 8388608 = mt) (hfb : fr < 8388608) (hE0 : (ex : Int) - 127 = E) (hEb : -10 ≤ E ∧ E ≤ 10) (hlen : Lib.bitLen mt = 24) (hmb : mt < 16777216) (hmt0 : mt ≠ 0) (hm : mt * 1099511627776 = m)
  (h1 : 0 ≤ E → ∃ l : Int, l + 4 = dg ∧ 0 ≤ l ∧ l ≤ 10 ∧ ∀ w, Calls Tryz.prog 79 #[.int .i64 (1 + E)] w fun e w' => e = .returned (.int .i64 l) ∧ w' = w)
  (h2 : E < 0 → ∃ l : Int, 4 - l = dg ∧ 0 ≤ l ∧ l ≤ 3 ∧ ∀ w, Calls Tryz.prog 79 #[.int .i64 (-E)] w fun e w' => e = .returned (.int .i64 l) ∧ w' = w) (hdg : 0 < dg ∧ dg ≤ 18)
  (hfix : ∀ w, (∀ w', Below w.heap.size w w' → FfTab w') → Calls Tryz.prog 91 #[.int .u64 m, .int .i64 (E - 63), .int .i64 dg, .int .i64 3, .int .u8 102] w fun e w' => e = .returned (.tuple #[.int .u64 d, .int .i64 (-3)]) ∧ Below w.heap.size w w')
  (hd0 : d ≠ 0) (hd1 : d ≤ 10000000) (hn : nDigits d = n) (hn3 : 3 ≤ n) (hn7 : n ≤ 7) (hdn : d < 10 ^ n) (b0 : UInt8) (hb0 : (decDigits d)[0]? = some b0) (hb1 : b0 ≠ 48) (B : Nat) (s0 : Value) (w : World) (hB : B ≤ w.heap.size) (hs0 : Own ul 5 1 w B s0 []) (hT : ∀ w', Below w.heap.size w w' → FfTab w') :
  Calls Tryz.prog 73 #[s0, .float .f32 X, .int .u8 102, .int .i64 3] w fun e w' => ∃ (s : Value) (nd : Nat), e = .returned s ∧ (∀ (j : Nat) (b : UInt8), nd ≤ j → (decDigits d)[j]? = some b → b = 48) ∧ nd ≤ n ∧ Own ul 5 1 w' B s (efg (decDigits d) (n - 3) nd) ∧ Below B w w' := by
 have hlenD : (decDigits d).length = n := by rw [decDigits_length, hn]
 refine calls_of_ev Tryz.func73 rfl (show 4 ≤ 298 from by decide) ?_
 intro a hE
 have hE : Ev 298 ((0, s0) :: (1, .float .f32 X) :: (2, .int .u8 102) :: (3, .int .i64 3) :: []) a := hE
 refine wp_seq ?_
 refine wp_region_lit ?_
 refine ev_ac hE (by decide) ?_
 intro a hE
 refine wpList_nil ?_
 show Code.wp _ _ _ _ _
 refine wp_seq ?_
 refine wp_region_lit ?_
 refine ev_ac hE (by decide) ?_
 intro a hE
 refine wpList_nil ?_
 show Code.wp _ _ _ _ _
 refine wp_seq ?_
 refine wp_region_lit ?_
 refine ev_ac hE (by decide) ?_
 intro a hE
 refine ev_ac hE (by decide) ?_
 intro a hE
 refine ev_ac hE (by decide) ?_
 intro a hE
 refine wpList_nil ?_
 show Code.wp _ _ _ _ _
 refine wp_seq ?_
 refine wp_block ?_
 refine wp_seq ?_
 refine wp_region_lit ?_
 refine ev_r (v := .bool true) (w' := w) hE (by simp only [execOp, ]; go_simp) fun a hE => ?_
 refine ev_r (w' := w) hE (ex_as (hE.get 35 rfl)) fun a hE => ?_
 refine wpList_nil ?_
 show Code.wp _ _ _ _ _
 refine wp_cond_split (hE.get 34 rfl) (fun _ => ?_) (fun h => by cases h)
 refine wp_seq ?_
 refine wp_region_lit ?_
 refine ev_r (w' := w) hE (ex_mv (hE.get 1 rfl)) fun a hE => ?_
 refine ev_run (v := .int .u32 X) (w' := w) hE rfl rfl (by decide) ?_ ?_
 ·simp only [execOp, resolve, List.map_toArray, List.map_cons, List.map_nil, hE.get 36 rfl]
  first | exact run_f32bits X w | (have h := run_f32bits X w; go_simp; exact h)
 intro a hE
 refine ev_run (v := .int .u64 X) (w' := w) hE rfl rfl (by decide) ?_ ?_
 ·have hwx : IntKind.u64.wrap (X : Int) = X := by rw [IntKind.wrap_u64]; omega
  simp only [execOp, hE.get 37 rfl]
  go_simp
 intro a hE
 refine ev_r (w' := w) hE (ex_as (hE.get 38 rfl)) fun a hE => ?_
 refine wpList_nil ?_
 show Code.wp _ _ _ _ _
 refine wp_seq ?_
 refine wp_region_lit ?_
 refine ev_ac hE (by decide) ?_
 intro a hE
 refine wpList_nil ?_
 show Code.wp _ _ _ _ _
 refine wp_seq ?_
 refine wp_region_lit ?_
 refine ev_ac hE (by decide) ?_
 intro a hE
 refine wpList_nil ?_
 show Code.wp _ _ _ _ _
 refine wp_region_lit ?_
 refine ev_ac hE (by decide) ?_
 intro a hE
 refine wpList_nil ?_
 show Code.wp _ _ _ _ _
 have hE : Ev 298 ((0, s0) :: (2, .int .u8 102) :: (3, .int .i64 3) :: (9, .int .u64 X) :: (10, .int .i64 8) :: (11, .int .i64 23) :: (12, .int .i64 (-127)) :: []) a := hE.pick rfl
 refine wp_seq ?_
 refine wp_region_lit ?_
 refine ev_r (w' := w) hE (ex_mv (hE.get 9 rfl)) fun a hE => ?_
 refine ev_r (w' := w) hE (ex_mv (hE.get 10 rfl)) fun a hE => ?_
 refine ev_r (w' := w) hE (ex_mv (hE.get 11 rfl)) fun a hE => ?_
 refine ev_r (v := .int .i64 31) (w' := w) hE (ei_add (hE.get 45 rfl) (hE.get 46 rfl) (by decide)) fun a hE => ?_
 refine ev_r (v := .int .u64 0) (w' := w) hE (ei_shr (hE.get 44 rfl) (hE.get 47 rfl) (by omega) (by simp only [IntKind.bits]; omega) (by show (X : Int) / 2147483648 = 0; omega)) fun a hE => ?_
 refine ev_r (v := .bool false) (w' := w) hE (by simp only [execOp, hE.get 48 rfl]; go_simp) fun a hE => ?_
 refine ev_r (w' := w) hE (ex_as (hE.get 49 rfl)) fun a hE => ?_
 refine wpList_nil ?_
 show Code.wp _ _ _ _ _
 refine wp_seq ?_
 refine wp_region_quiet_lit (by kernel_rfl) (by kernel_rfl) ?_
 refine qv_run hE rfl rfl (by decide) (fun w hC => (ex_mv (hE.get 9 rfl))) ?_
 intro a hE
 refine qv_run hE rfl rfl (by decide) (fun w hC => (ex_mv (hE.get 11 rfl))) ?_
 intro a hE
 refine qv_run (v := .int .u64 ex) hE rfl rfl (by decide) (fun w hC => (ei_shr (hE.get 50 rfl) (hE.get 51 rfl) (by omega) (by simp only [IntKind.bits]; omega) (by show (X : Int) / 8388608 = ex; omega))) ?_
 intro a hE
 refine qv_run (v := .int .i64 ex) hE rfl rfl (by decide) (fun w hC => ?_) ?_
 ·have hw8 : IntKind.i64.wrap (ex : Int) = ex := by rw [IntKind.wrap_i64]; omega
  simp only [execOp, hE.get 52 rfl]
  go_simp
 intro a hE
 refine qv_run hE rfl rfl (by decide) (fun w hC => (ex_mv (hE.get 10 rfl))) ?_
 intro a hE
 refine qv_run (v := .int .i64 256) hE rfl rfl (by decide) (fun w hC => (ei_shl rfl (hE.get 54 rfl) (by omega) (by simp only [IntKind.bits]; omega) (by decide))) ?_
 intro a hE
 refine qv_run (v := .int .i64 255) hE rfl rfl (by decide) (fun w hC => (ei_sub (hE.get 55 rfl) rfl (by decide))) ?_
 intro a hE
 refine qv_run (v := .int .i64 ex) hE rfl rfl (by decide) (fun w hC => (ei_and (hE.get 53 rfl) (hE.get 56 rfl) hexb)) ?_
 intro a hE
 refine qv_run hE rfl rfl (by decide) (fun w hC => (ex_as (hE.get 57 rfl))) ?_
 intro a hE
 refine wpQuiet_nil ?_
 rintro w1 ⟨n1, rfl⟩
 have hb1x : Below w.heap.size w (w.drewN n1) := drewN_below w n1 _
 have hs1 : Own ul 5 1 (w.drewN n1) B s0 [] := hs0.below hb1x
 generalize hw1 : w.drewN n1 = w1 at *
 have hsz1 : w1.heap.size = w.heap.size := by rw [← hw1]; rfl
 clear hw1
 show Code.wp _ _ _ _ _
 refine wp_seq ?_
 refine wp_region_lit ?_
 refine ev_r (w' := w1) hE (ex_mv (hE.get 9 rfl)) fun a hE => ?_
 refine ev_r (w' := w1) hE (ex_mv (hE.get 11 rfl)) fun a hE => ?_
 refine ev_r (v := .int .u64 (8388608 : Nat)) (w' := w1) hE (ei_shl rfl (hE.get 59 rfl) (by omega) (by simp only [IntKind.bits]; omega) (by decide)) fun a hE => ?_
 refine ev_r (v := .int .u64 (8388607 : Nat)) (w' := w1) hE (ei_sub (hE.get 60 rfl) rfl (by decide)) fun a hE => ?_
 refine ev_r (v := .int .u64 fr) (w' := w1) hE (ei_and (hE.get 58 rfl) (hE.get 61 rfl) (by rw [and_u64 X _ (by omega) (by omega), hfr])) fun a hE => ?_
 refine ev_r (w' := w1) hE (ex_as (hE.get 62 rfl)) fun a hE => ?_
 refine wpList_nil ?_
 show Code.wp _ _ _ _ _
 refine wp_seq ?_
 refine wp_seq ?_
 refine wp_region_lit ?_
 refine ev_r (w' := w1) hE (ex_mv (hE.get 14 rfl)) fun a hE => ?_
 refine ev_r (w' := w1) hE (ex_mv (hE.get 10 rfl)) fun a hE => ?_
 refine ev_r (v := .int .i64 256) (w' := w1) hE (ei_shl rfl (hE.get 64 rfl) (by omega) (by simp only [IntKind.bits]; omega) (by decide)) fun a hE => ?_
 refine ev_r (v := .int .i64 255) (w' := w1) hE (ei_sub (hE.get 65 rfl) rfl (by decide)) fun a hE => ?_
 refine ev_r (v := .bool false) (w' := w1) hE (by simp only [execOp, hE.get 63 rfl, hE.get 66 rfl]; have hne : ((ex : Int) == 255) = false := (beq_false_of_ne (by omega)); go_simp) fun a hE => ?_
 refine wpList_nil ?_
 show Code.wp _ _ _ _ _
 refine wp_cond_split (hE.get 67 rfl) (fun h => by cases h) (fun _ => ?_)
 refine wp_skip ?_
 show Code.wp _ _ _ _ _
 refine wp_seq ?_
 refine wp_seq ?_
 refine wp_region_lit ?_
 refine ev_r (w' := w1) hE (ex_mv (hE.get 14 rfl)) fun a hE => ?_
 refine ev_r (v := .bool false) (w' := w1) hE (by simp only [execOp, hE.get 77 rfl]; have hne : ((ex : Int) == 0) = false := (beq_false_of_ne (by omega)); go_simp) fun a hE => ?_
 refine wpList_nil ?_
 show Code.wp _ _ _ _ _
 refine wp_cond_split (hE.get 78 rfl) (fun h => by cases h) (fun _ => ?_)
 refine wp_region_lit ?_
 refine ev_r (w' := w1) hE (ex_mv (hE.get 15 rfl)) fun a hE => ?_
 refine ev_r (w' := w1) hE (ex_mv (hE.get 11 rfl)) fun a hE => ?_
 refine ev_r (v := .int .u64 (8388608 : Nat)) (w' := w1) hE (ei_shl rfl (hE.get 82 rfl) (by omega) (by simp only [IntKind.bits]; omega) (by decide)) fun a hE => ?_
 refine ev_r (v := .int .u64 mt) (w' := w1) hE (ei_or (hE.get 81 rfl) (hE.get 83 rfl) (by rw [or_u64 fr _ (by omega) (by omega), hmt])) fun a hE => ?_
 refine ev_r (w' := w1) hE (ex_as (hE.get 84 rfl)) fun a hE => ?_
 refine wpList_nil ?_
 show Code.wp _ _ _ _ _
 refine wp_seq ?_
 refine wp_region_lit ?_
 refine ev_r (w' := w1) hE (ex_mv (hE.get 14 rfl)) fun a hE => ?_
 refine ev_r (w' := w1) hE (ex_mv (hE.get 12 rfl)) fun a hE => ?_
 refine ev_r (v := .int .i64 E) (w' := w1) hE (ei_add (hE.get 85 rfl) (hE.get 86 rfl) (by rw [← hE0, IntKind.wrap_i64]; omega)) fun a hE => ?_
 refine ev_r (w' := w1) hE (ex_as (hE.get 87 rfl)) fun a hE => ?_
 refine wpList_nil ?_
 show Code.wp _ _ _ _ _
 refine wp_seq ?_
 refine wp_seq ?_
 refine wp_region_lit ?_
 refine ev_r (w' := w1) hE (ex_mv (hE.get 2 rfl)) fun a hE => ?_
 refine ev_r (v := .bool false) (w' := w1) hE (by simp only [execOp, hE.get 88 rfl]; go_simp) fun a hE => ?_
 refine wpList_nil ?_
 show Code.wp _ _ _ _ _
 refine wp_cond_split (hE.get 89 rfl) (fun h => by cases h) (fun _ => ?_)
 refine wp_skip ?_
 show Code.wp _ _ _ _ _
 refine wp_seq ?_
 refine wp_seq ?_
 refine wp_region_lit ?_
 refine ev_r (w' := w1) hE (ex_mv (hE.get 2 rfl)) fun a hE => ?_
 refine ev_r (v := .bool false) (w' := w1) hE (by simp only [execOp, hE.get 97 rfl]; go_simp) fun a hE => ?_
 refine ev_r (w' := w1) hE (ex_mv (hE.get 98 rfl)) fun a hE => ?_
 refine ev_gon (w' := w1) hE rfl rfl (hE.get 99 rfl) rfl (by decide) (ex_mv (hE.get 2 rfl)) ?_
 intro a hE
 refine ev_gon (v := .bool false) (w' := w1) hE rfl rfl (hE.get 99 rfl) rfl (by decide) (by simp only [execOp, hE.get 100 rfl]; go_simp) ?_
 intro a hE
 refine ev_r (v := .bool false) (w' := w1) hE (by rw [ex_pick (b := false) (hE.get 99 rfl)]; have e1 := hE.get 101 rfl; simp only [e1]; rfl) fun a hE => ?_
 refine wpList_nil ?_
 show Code.wp _ _ _ _ _
 refine wp_cond_split (hE.get 102 rfl) (fun h => by cases h) (fun _ => ?_)
 refine wp_skip ?_
 show Code.wp _ _ _ _ _
 refine wp_seq ?_
 refine wp_seq ?_
 refine wp_region_lit ?_
 refine ev_r (w' := w1) hE (ex_mv (hE.get 15 rfl)) fun a hE => ?_
 refine ev_r (v := .bool false) (w' := w1) hE (by simp only [execOp, hE.get 111 rfl]; have hne : ((mt : Int) == 0) = false := (beq_false_of_ne (by exact_mod_cast hmt0)); go_simp) fun a hE => ?_
 refine wpList_nil ?_
 show Code.wp _ _ _ _ _
 refine wp_cond_split (hE.get 112 rfl) (fun h => by cases h) (fun _ => ?_)
 refine wp_skip ?_
 show Code.wp _ _ _ _ _
 refine wp_seq ?_
 refine wp_seq ?_
 refine wp_region_lit ?_
 refine ev_r (w' := w1) hE (ex_mv (hE.get 3 rfl)) fun a hE => ?_
 refine ev_r (v := .bool false) (w' := w1) hE (ei_lss (hE.get 120 rfl) rfl (by decide)) fun a hE => ?_
 refine wpList_nil ?_
 show Code.wp _ _ _ _ _
 refine wp_cond_split (hE.get 121 rfl) (fun h => by cases h) (fun _ => ?_)
 refine wp_skip ?_
 show Code.wp _ _ _ _ _
 refine wp_seq ?_
 refine wp_seq ?_
 refine wp_region_lit ?_
 refine ev_r (v := .bool true) (w' := w1) hE (by simp only [execOp]; exact run_andValue (ld_bool w1 _ _ (hT w1 hb1x).opt)) fun a hE => ?_
 refine wpList_nil ?_
 show Code.wp _ _ _ _ _
 refine wp_cond_split (hE.get 173 rfl) (fun _ => ?_) (fun h => by cases h)
 have hE : Ev 298 ((0, s0) :: (2, .int .u8 102) :: (3, .int .i64 3) :: (11, .int .i64 23) :: (13, .bool false) :: (14, .int .i64 E) :: (15, .int .u64 mt) :: []) a := hE.pick rfl
 refine wp_seq ?_
 refine wp_region_lit ?_
 refine ev_r (w' := w1) hE (ex_mv (hE.get 3 rfl)) fun a hE => ?_
 refine ev_r (w' := w1) hE (ex_as (hE.get 174 rfl)) fun a hE => ?_
 refine wpList_nil ?_
 show Code.wp _ _ _ _ _
 refine wp_seq ?_
 refine wp_seq ?_
 refine wp_region_lit ?_
 refine ev_r (w' := w1) hE (ex_mv (hE.get 2 rfl)) fun a hE => ?_
 refine wpList_nil ?_
 show Code.wp _ _ _ _ _
 refine wp_block ?_
 refine wp_seq ?_
 refine wp_region_lit ?_
 refine ev_r (v := .bool true) (w' := w1) hE (by simp only [execOp, hE.get 175 rfl]; go_simp) fun a hE => ?_
 refine ev_r (w' := w1) hE (ex_as (hE.get 177 rfl)) fun a hE => ?_
 refine wpList_nil ?_
 show Code.wp _ _ _ _ _
 refine wp_cond_split (hE.get 176 rfl) (fun _ => ?_) (fun h => by cases h)
 refine wp_seq ?_
 refine wp_region_lit ?_
 refine ev_r (w' := w1) hE (ex_mv (hE.get 14 rfl)) fun a hE => ?_
 refine ev_r (v := .bool (decide (0 ≤ E))) (w' := w1) hE (ei_geq (hE.get 178 rfl) rfl rfl) fun a hE => ?_
 refine wpList_nil ?_
 show Code.wp _ _ _ _ _
 refine wp_cond_split (hE.get 179 rfl) (fun hb => ?_) (fun hb => ?_)
 ·obtain ⟨l, hl, hl0, hl1, hc⟩ := h1 (of_decide_eq_true hb)
  refine wp_region_lit ?_
  refine ev_r (w' := w1) hE (ex_mv (hE.get 14 rfl)) fun a hE => ?_
  refine ev_r (v := .int .i64 (1 + E)) (w' := w1) hE (ei_add rfl (hE.get 180 rfl) (by rw [IntKind.wrap_i64]; omega)) fun a hE => ?_
  refine ev_call (S := fun u w' => u = .int .i64 l ∧ w1 = w') hE rfl rfl (by decide) (f := 79) (args := #[.int .i64 (1 + E)]) (by simp only [execOp, resolve, List.map_toArray, List.map_cons, List.map_nil, hE.get 181 rfl]; go_simp) (Calls.mono (hc w1) (by rintro e w' ⟨rfl, h⟩; exact ⟨_, rfl, rfl, h.symm⟩)) ?_
  rintro a u wx ⟨rfl, rfl⟩ hE
  refine ev_r (v := .int .i64 (1 + l)) (w' := w1) hE (ei_add rfl (hE.get 182 rfl) (by rw [IntKind.wrap_i64]; omega)) fun a hE => ?_
  refine ev_r (w' := w1) hE (ex_mv (hE.get 3 rfl)) fun a hE => ?_
  refine ev_r (v := .int .i64 dg) (w' := w1) hE (ei_add (hE.get 183 rfl) (hE.get 184 rfl) (by rw [IntKind.wrap_i64]; omega)) fun a hE => ?_
  refine ev_r (w' := w1) hE (ex_as (hE.get 185 rfl)) fun a hE => ?_
  refine wpList_nil ?_
  show Code.wp _ _ _ _ _
  refine ftoa_rest32 mt m d dg n E hEb hlen hmb hm hdg hfix hd0 hd1 hn hn3 hn7 hdn b0 hb0 hb1 B s0 w1 (by omega) hs1 (fun w' hb => hT w' (hb1x.trans (hb.mono (by omega)))) a (hE.pick rfl) ?_
  intro a w' s nd hz hnd hown hbel hE
  try simp only [Exit.inBlock, Exit.then]
  exact ret_of_ev hE rfl (hE.get 8 rfl) ⟨s, nd, rfl, hz, hnd, hown, (hb1x.mono hB).trans hbel⟩
 ·have hlt : E < 0 := by have := of_decide_eq_false hb; omega
  obtain ⟨l, hl, hl0, hl1, hc⟩ := h2 hlt
  refine wp_region_lit ?_
  refine ev_r (w' := w1) hE (ex_mv (hE.get 3 rfl)) fun a hE => ?_
  refine ev_r (v := .int .i64 4) (w' := w1) hE (ei_add rfl (hE.get 186 rfl) (by decide)) fun a hE => ?_
  refine ev_r (w' := w1) hE (ex_mv (hE.get 14 rfl)) fun a hE => ?_
  refine ev_r (v := .int .i64 (-E)) (w' := w1) hE (ei_neg (hE.get 188 rfl) (by rw [IntKind.wrap_i64]; omega)) fun a hE => ?_
  refine ev_call (S := fun u w' => u = .int .i64 l ∧ w1 = w') hE rfl rfl (by decide) (f := 79) (args := #[.int .i64 (-E)]) (by simp only [execOp, resolve, List.map_toArray, List.map_cons, List.map_nil, hE.get 189 rfl]; go_simp) (Calls.mono (hc w1) (by rintro e w' ⟨rfl, h⟩; exact ⟨_, rfl, rfl, h.symm⟩)) ?_
  rintro a u wx ⟨rfl, rfl⟩ hE
  refine ev_r (v := .int .i64 dg) (w' := w1) hE (ei_sub (hE.get 187 rfl) (hE.get 190 rfl) (by rw [IntKind.wrap_i64]; omega)) fun a hE => ?_
  refine ev_r (w' := w1) hE (ex_as (hE.get 191 rfl)) fun a hE => ?_
  refine wpList_nil ?_
  show Code.wp _ _ _ _ _
  refine ftoa_rest32 mt m d dg n E hEb hlen hmb hm hdg hfix hd0 hd1 hn hn3 hn7 hdn b0 hb0 hb1 B s0 w1 (by omega) hs1 (fun w' hb => hT w' (hb1x.trans (hb.mono (by omega)))) a (hE.pick rfl) ?_
  intro a w' s nd hz hnd hown hbel hE
  try simp only [Exit.inBlock, Exit.then]
  exact ret_of_ev hE rfl (hE.get 8 rfl) ⟨s, nd, rfl, hz, hnd, hown, (hb1x.mono hB).trans hbel⟩
end Go.Proofs.YtfonjeoiallhhaaGreatDoor
/- strconv.FormatFloat at 'f', 3, 32 for eighths below 160, but 0. Printed by wip/tools/gen_ffp.py. -/
set_option maxRecDepth 100000
namespace Go.Proofs.YtfonjeoiallhhaaGreatDoor
open Go.Shelf Go.RowKit Go.Sort Go.Lib
def x4 (r : Nat) : Nat := (floatToFloatBits .f64 (e8 r) .f32).getD 0
def ex4 (r : Nat) : Nat := x4 r / 8388608
def fr4 (r : Nat) : Nat := x4 r % 8388608
def mt4 (r : Nat) : Nat := fr4 r + 8388608
def okQ (r : Nat) : Prop := r = 0 ∨ (floatToFloatBits .f64 (e8 r) .f32 = some (x4 r) ∧ x4 r < 2147483648 ∧ 0 < ex4 r ∧ ex4 r < 255 ∧ bits .and .i64 (ex4 r : Int) 255 = (ex4 r : Int) ∧ x4 r &&& 8388607 = fr4 r ∧ fr4 r ||| 8388608 = mt4 r ∧ (ex4 r : Int) - 127 = EI r ∧ Lib.bitLen (mt4 r) = 24 ∧ mt4 r * 1099511627776 = mtN r * 2048)
instance : DecidablePred okQ := fun r => by unfold okQ; infer_instance
theorem okQ_all : ∀ r ∈ List.range 160, okQ r := by decide +kernel
theorem ff32_facts (r : Nat) (h1 : 1 ≤ r) (h2 : r < 160) : ∃ (X ex fr mt m dg sh : Nat) (E L : Int), floatToFloatBits .f64 (e8 r) .f32 = some X ∧ X < 2147483648 ∧ X / 8388608 = ex ∧ 0 < ex ∧ ex < 255 ∧ bits .and .i64 (ex : Int) 255 = (ex : Int) ∧ X &&& 8388607 = fr ∧ fr ||| 8388608 = mt ∧ fr < 8388608 ∧ mt = fr + 8388608 ∧ (ex : Int) - 127 = E ∧ Lib.bitLen mt = 24 ∧ mt * 1099511627776 = m ∧ -3 ≤ E ∧ E ≤ 6 ∧
  (dg = 4 ∨ dg = 5 ∨ dg = 6) ∧ sh < 64 ∧ L = (if E < 0 then -1 else (Lib.l10 E.toNat : Int)) ∧ dg = (if E < 0 then 4 - Lib.l10 (-E).toNat else Lib.l10 (1 + E).toNat + 4) ∧ (E < 0 ∨ Lib.l10 (1 + E).toNat ≤ 10) ∧ (¬ E < 0 ∨ Lib.l10 (-E).toNat ≤ 3) ∧
  (((dg : Int) - 1 - L = 3 ∧ -(E - 63 + 9 + 3) = (sh : Int) ∧ m * 18014398509481984000 % 18446744073709551616 = 0 ∧ m * 18014398509481984000 / 18446744073709551616 = 4 * (125 * r) * 2 ^ sh ∧ 4 * (125 * r) + 2 < 4 * 10 ^ dg) ∨
   ((dg : Int) - 1 - L = 4 ∧ -(E - 63 + 13 + 3) = (sh : Int) ∧ m * 11258999068426240000 % 18446744073709551616 = 0 ∧ m * 11258999068426240000 / 18446744073709551616 = 40 * (125 * r) * 2 ^ sh)) := by
 rcases okP_all r (List.mem_range.2 (by omega)) with h | ⟨_, _, _, _, _, _, q7, q8, _, q10, q11, q12, q13, q14⟩
 ·omega
 rcases okQ_all r (List.mem_range.2 h2) with h | ⟨p1, p2, p3, p4, p5, p6, p7, p8, p9, p10⟩
 ·omega
 have s1 : x4 r / 8388608 = ex4 r := by unfold ex4; rfl
 have s2 : fr4 r < 8388608 := by unfold fr4; exact Nat.mod_lt _ (by decide)
 have s3 : mt4 r = fr4 r + 8388608 := by unfold mt4; rfl
 have s5 : LI r = (if EI r < 0 then -1 else (Lib.l10 (EI r).toNat : Int)) := by unfold LI; rfl
 have s6 : dgN r = (if EI r < 0 then 4 - Lib.l10 (-(EI r)).toNat else Lib.l10 (1 + EI r).toNat + 4) := by unfold dgN; rfl
 exact ⟨x4 r, ex4 r, fr4 r, mt4 r, mtN r * 2048, dgN r, shN r, EI r, LI r, p1, p2, s1, p3, p4, p5, p6, p7, s2, s3, p8, p9, p10, q7, q8, q10, q11, s5, s6, q12, q13, q14⟩
theorem ftoa32_rate (r : Nat) (h1 : 1 ≤ r) (h2 : r < 160) (B : Nat) (s0 : Value) (w : World) (hB : B ≤ w.heap.size) (hs0 : Own ul 5 1 w B s0 []) (hT : FfTab w) :
  ∃ X, floatToFloatBits .f64 (e8 r) .f32 = some X ∧ Calls Tryz.prog 73 #[s0, .float .f32 X, .int .u8 102, .int .i64 3] w fun e w' => ∃ (s : Value), e = .returned s ∧ Own ul 5 1 w' B s (secs r).data.toList ∧ Below B w w' := by
 obtain ⟨X, ex, fr, mt, m, dg, sh, E, L, hX, q1, hex, q2, q3, q4, q5, q6, hfb, hmt, hE0, q9, hmm, q7, q8, q10, q11, hLd, hdgd, q12, q13, q14⟩ := ff32_facts r h1 h2
 refine ⟨X, hX, ?_⟩
 clear hX
 obtain ⟨b0, hb0, hb1⟩ := dd_head (125 * r) (by omega)
 have hlen := decDigits_length (125 * r)
 have h3 := dd_three (125 * r) (by omega)
 have hn3 : 3 ≤ nDigits (125 * r) := by rw [← hlen, h3]; simp
 have hn7 : nDigits (125 * r) ≤ 7 := by rw [← hlen]; have := dd_len_le 5 (125 * r) (by omega); omega
 have hTn : ∀ w' : World, FfTab w' → ∀ w'', Below w'.heap.size w' w'' → FfTab w'' := fun w' h w'' hb => h.next hb
 have hL : ∀ w, Calls Tryz.prog 79 #[.int .i64 E] w fun e w' => e = .returned (.int .i64 L) ∧ w' = w := by
  intro w
  rw [hLd]
  by_cases he : E < 0
  ·rw [if_pos he]
   exact l10_neg _ (by omega) w
  ·rw [if_neg he]
   have := l10_any E.toNat (by omega) w
   rw [Int.toNat_of_nonneg (by omega)] at this
   exact this
 have hpow : ∀ w' : World, FfTab w' → w'.cell? ⟨3, dg, none⟩ = some (.int .u64 ((10 ^ dg : Nat) : Int)) := by
  intro w' hw
  have := TabIs.cell (g := 3) hw.pow (by kernel_rfl) dg (by have : pow10Tab.length = 20 := rfl; omega)
  rw [this]
  rcases q10 with e | e | e <;> rw [e] <;> rfl
 have hdgb : 4 ≤ dg ∧ dg ≤ 6 := by omega
 have hy : (dg = 4 ∧ ((10 ^ dg : Nat) : Int) = 10000) ∨ (dg = 5 ∧ ((10 ^ dg : Nat) : Int) = 100000) ∨ (dg = 6 ∧ ((10 ^ dg : Nat) : Int) = 1000000) := by
  rcases q10 with e | e | e <;> rw [e] <;> decide
 have hmb : mt < 16777216 := by omega
 refine (ftoa_any32 X ex fr mt m (125 * r) dg (nDigits (125 * r)) E q1 hex q2 q3 q4 q5 q6 hfb hE0 (by omega) q9 hmb (by omega) hmm ?_ ?_ (by omega) ?_ (by omega) (by omega) rfl hn3 hn7 (lt_pow_nDigits _) b0 hb0 hb1 B s0 w hB hs0 (hTn w hT)).mono ?_
 ·intro he
  refine ⟨(Lib.l10 (1 + E).toNat : Int), ?_, by omega, ?_, fun w => ?_⟩
  ·have : dg = Lib.l10 (1 + E).toNat + 4 := by rw [hdgd, if_neg (by omega)]
   omega
  ·rcases q12 with h | h <;> omega
  ·have := l10_any (1 + E).toNat (by omega) w
   rw [Int.toNat_of_nonneg (by omega)] at this
   exact this
 ·intro he
  refine ⟨(Lib.l10 (-E).toNat : Int), ?_, by omega, ?_, fun w => ?_⟩
  ·have : dg = 4 - Lib.l10 (-E).toNat := by rw [hdgd, if_pos he]
   rcases q13 with h | h <;> omega
  ·rcases q13 with h | h <;> omega
  ·have := l10_any (-E).toNat (by omega) w
   rw [Int.toNat_of_nonneg (by omega)] at this
   exact this
 ·intro w hTw
  rcases q14 with ⟨p1, p2, p3, p4, p5⟩ | ⟨p1, p2, p3, p4⟩
  ·exact fixed3 m dg sh (125 * r) E L _ hL (by omega) p1 hy p2 q11 (by omega) p3 p4 (by omega) (by omega) w (fun w' hb => ⟨(hTw w' hb).pm, hpow w' (hTw w' hb)⟩)
  ·exact fixed4 m dg sh (125 * r) E L _ hL (by omega) p1 hy p2 q11 (by omega) p3 p4 (by omega) w (fun w' hb => ⟨(hTw w' hb).pm, hpow w' (hTw w' hb)⟩)
 ·rintro e w' ⟨s, nd, rfl, hz, _, hown, hb⟩
  refine ⟨s, rfl, ?_, hb⟩
  have := efg_secs r nd h1 hz
  rw [hlen] at this
  rw [← this]
  exact hown
theorem formatFloat32_in (r X : Nat) (hcv : Cv 32 146 (.float .f64 (e8 r)) (.float .f32 X)) (w : World) (hT : FfTab w)
  (hft : ∀ (B : Nat) (s0 : Value) (w : World), B ≤ w.heap.size → Own ul 5 1 w B s0 [] → FfTab w → Calls Tryz.prog 73 #[s0, .float .f32 X, .int .u8 102, .int .i64 3] w fun e w' => ∃ (s : Value), e = .returned s ∧ Own ul 5 1 w' B s (secs r).data.toList ∧ Below B w w') :
  Calls Tryz.prog 64 #[.float .f64 (e8 r), .int .u8 102, .int .i64 3, .int .i64 32] w fun e w' => e = .returned (.string (secs r)) ∧ Below w.heap.size w w' := by
 have hne : (secs r).data.toList ≠ [] := by rw [secs_list]; simp
 refine calls_of_ev Tryz.func64 rfl (show 4 ≤ 33 from by decide) ?_
 intro a hE
 have hE : Ev 33 ((0, .float .f64 (e8 r)) :: (1, .int .u8 102) :: (2, .int .i64 3) :: (3, .int .i64 32) :: []) a := hE
 refine wp_seq ?_
 refine wp_region_lit ?_
 refine ev_ac hE (by decide) ?_
 intro a hE
 refine nx1 ?_
 refine wp_seq ?_
 refine wp_seq ?_
 refine wp_region_lit ?_
 refine ev_r (w' := w) hE (ex_mv (hE.get 3 rfl)) fun a hE => ?_
 refine ev_r (v := .bool true) (w' := w) hE (by simp only [execOp, hE.get 9 rfl]; go_simp) fun a hE => ?_
 refine nx1 ?_
 refine wp_cond_split (hE.get 10 rfl) (fun _ => ?_) (fun h => by cases h)
 refine wp_seq ?_
 refine wp_region_lit ?_
 refine ev_r (w' := w) hE (ex_mv (hE.get 2 rfl)) fun a hE => ?_
 refine ev_r (v := .int .i64 7) (w' := w) hE (ei_add (hE.get 11 rfl) rfl (by decide)) fun a hE => ?_
 refine ev_r (v := .int .i64 24) (w' := w) hE (fx_max (hE.get 12 rfl) rfl (by decide)) fun a hE => ?_
 obtain ⟨w1, hmk, hown, hb1⟩ := mk24 w
 refine ev_r (v := .slice (some ⟨w.heap.size, 0, none⟩) 0 24) (w' := w1) hE (by simp only [execOp, hE.get 13 rfl]; have e0 : a.eval (.const (.int .i64 0)) = .int .i64 0 := rfl; simp [e0, hmk, Result.andThen]) fun a hE => ?_
 refine ev_r (w' := w1) hE (ex_mv (hE.get 0 rfl)) fun a hE => ?_
 refine ev_r (v := .float .f32 X) (w' := w1) hE (ex_cv (hE.get 15 rfl) hcv) fun a hE => ?_
 refine ev_r (w' := w1) hE (ex_mv (hE.get 1 rfl)) fun a hE => ?_
 refine ev_r (w' := w1) hE (ex_mv (hE.get 2 rfl)) fun a hE => ?_
 refine ev_call (S := fun u w' => Own ul 5 1 w' w.heap.size u (secs r).data.toList ∧ Below w.heap.size w1 w') hE rfl rfl (by decide) (f := 73) (args := #[.slice (some ⟨w.heap.size, 0, none⟩) 0 24, .float .f32 X, .int .u8 102, .int .i64 3]) (by simp only [execOp, resolve, List.map_toArray, List.map_cons, List.map_nil, hE.get 14 rfl, hE.get 16 rfl, hE.get 17 rfl, hE.get 18 rfl]; go_simp) ((hft w.heap.size _ w1 hb1.size hown (hT.next hb1)).mono (by rintro e w' ⟨s, rfl, h⟩; exact ⟨_, rfl, h⟩)) ?_
 rintro a s w2 ⟨hown2, hb2⟩ hE
 refine ev_r (v := .string (secs r)) (w' := w2) hE (by simp only [execOp, hE.get 19 rfl]; exact run_andValue (cv_own hown2 hne)) fun a hE => ?_
 refine ev_as hE (hE.get 20 rfl) (by decide) ?_
 intro a hE
 refine nx1 ?_
 refine wp_ret ?_
 try simp only [Exit.then]
 exact ret_of_ev hE rfl (hE.get 8 rfl) ⟨rfl, hb1.trans hb2⟩
theorem formatFloat32_out (r : Nat) (w : World) (hin : Calls Tryz.prog 64 #[.float .f64 (e8 r), .int .u8 102, .int .i64 3, .int .i64 32] w fun e w' => e = .returned (.string (secs r)) ∧ Below w.heap.size w w') :
  Calls Tryz.prog 56 #[.float .f64 (e8 r), .int .u8 102, .int .i64 3, .int .i64 32] w fun e w' => e = .returned (.string (secs r)) ∧ Below w.heap.size w w' := by
 refine calls_of_ev Tryz.func56 rfl (show 4 ≤ 14 from by decide) ?_
 intro a hE
 have hE : Ev 14 ((0, .float .f64 (e8 r)) :: (1, .int .u8 102) :: (2, .int .i64 3) :: (3, .int .i64 32) :: []) a := hE
 refine wp_seq ?_
 refine wp_region_lit ?_
 refine ev_ac hE (by decide) ?_
 intro a hE
 refine nx3 ?_
 refine ev_r (w' := w) hE (ex_mv (hE.get 0 rfl)) fun a hE => ?_
 refine ev_r (w' := w) hE (ex_mv (hE.get 1 rfl)) fun a hE => ?_
 refine ev_r (w' := w) hE (ex_mv (hE.get 2 rfl)) fun a hE => ?_
 refine ev_r (w' := w) hE (ex_mv (hE.get 3 rfl)) fun a hE => ?_
 refine ev_call (S := fun u w' => u = .string (secs r) ∧ Below w.heap.size w w') hE rfl rfl (by decide) (f := 64) (args := #[.float .f64 (e8 r), .int .u8 102, .int .i64 3, .int .i64 32]) (by simp only [execOp, resolve, List.map_toArray, List.map_cons, List.map_nil, hE.get 9 rfl, hE.get 10 rfl, hE.get 11 rfl, hE.get 12 rfl]; go_simp) (hin.mono (by rintro e w' ⟨rfl, h⟩; exact ⟨_, rfl, rfl, h⟩)) ?_
 rintro a u w1 ⟨rfl, hb⟩ hE
 refine ev_as hE (hE.get 13 rfl) (by decide) ?_
 intro a hE
 refine nx1 ?_
 refine wp_ret ?_
 exact ret_of_ev hE rfl (hE.get 8 rfl) ⟨rfl, hb⟩
theorem cv_f32 {r X : Nat} (h : floatToFloatBits .f64 (e8 r) .f32 = some X) : Cv 32 146 (.float .f64 (e8 r)) (.float .f32 X) := fun w => run_convert_float_float (P := Tryz.prog) w 32 146 .f64 .f32 (e8 r) X (by simp [Tryz.underlying32]) Tryz.underlying146 h
theorem formatSecs_any (r : Nat) (h1 : 1 ≤ r) (h2 : r < 160) (w : World) (hT : FfTab w) : Calls Tryz.prog 56 #[.float .f64 (e8 r), .int .u8 102, .int .i64 3, .int .i64 32] w fun e w' => e = .returned (.string (secs r)) ∧ Below w.heap.size w w' := by
 obtain ⟨X, hX, _⟩ : ∃ X, floatToFloatBits .f64 (e8 r) .f32 = some X ∧ True := by
  obtain ⟨X, _, _, _, _, _, _, _, _, hX, _⟩ := ff32_facts r h1 h2
  exact ⟨X, hX, trivial⟩
 refine formatFloat32_out r w (formatFloat32_in r X (cv_f32 hX) w hT fun B s0 w hB hs hT => ?_)
 obtain ⟨X', hX', h⟩ := ftoa32_rate r h1 h2 B s0 w hB hs hT
 rw [hX] at hX'
 obtain rfl := Option.some.inj hX'
 exact h
end Go.Proofs.YtfonjeoiallhhaaGreatDoor
