/- strconv.ftoa64 at 'f', precision 3. -/
import Derived.Test.YtkddkmiomhadaaaDoorFfy
import Derived.Test.YtkddkmiomhadaaaDoorFfs
namespace Go.Proofs.YtkddkmiomhadaaaDoor
open Go.Shelf Go.RowKit Go.Sort Go.Lib
theorem run_f64bits (X : Nat) (w : World) : (callFunc 61 #[.float .f64 X]).run Tryd.prog w = .ok (.value (.int .u64 X)) w := by
  rw [run_callFunc_extern Tryd.func61 (by kernel_rfl) (by kernel_rfl) (by kernel_rfl) (e := Go.Extern.MathFloatBits.float64bits) (by kernel_rfl)]
  rfl
set_option maxRecDepth 100000 in
theorem al_u24 : Al 109 zeros24 := by intro w; unfold zeros24; go_simp
theorem Ev.from2 {N m0 d1 d2 : Nat} {l : List (Nat × Value)} {a a' : Act} {v1 v2 : Value} (h : Ev N l a) (hs : a'.tmps.size = N) (hd : a'.defers = a.defers) (hlow : ∀ t, t < m0 → t ≠ d1 → t ≠ d2 → a'.eval (.tmp t) = a.eval (.tmp t)) (hv1 : a'.eval (.tmp d1) = v1) (hv2 : a'.eval (.tmp d2) = v2) (hl : (l.all fun p => decide (p.1 < m0) && p.1 != d1 && p.1 != d2) = true) : Ev N ((d1, v1) :: (d2, v2) :: l) a' := by
  refine ⟨hs, hd.trans h.defers, fun t u hu => ?_⟩
  by_cases e : t = d1
  · subst e; rw [look_eq] at hu; exact hv1.trans (Option.some.inj hu)
  · rw [look_ne e] at hu
    by_cases e2 : t = d2
    · subst e2; rw [look_eq] at hu; exact hv2.trans (Option.some.inj hu)
    · rw [look_ne e2] at hu
      rw [List.all_eq_true] at hl
      have := hl _ (look_mem hu)
      simp only [Bool.and_eq_true, decide_eq_true_eq, bne_iff_ne, ne_eq] at this
      rw [hlow t this.1.1 this.1.2 this.2]
      exact h.look t u hu
/-- What the tables hold. -/
structure FfTab (w : World) : Prop where
  pow : PowTab w
  pm : PmTab w
  opt : w.cell? ⟨2, 0, none⟩ = some (.bool true)
noncomputable def ftBody : Code := Tryd.f53.body.getD .skip
set_option maxRecDepth 100000 in
set_option maxHeartbeats 4000000 in
theorem ftoa_rest {Q : Exit → Act → World → Prop} (mt m d dg n : Nat) (E : Int) (hEb : -10 ≤ E ∧ E ≤ 10) (hlen : Lib.bitLen mt = 53) (hmb : mt < 9007199254740992) (hm : mt * 2048 = m) (hdg : 0 < dg ∧ dg ≤ 18)
    (hfix : ∀ w, (∀ w', Below w.heap.size w w' → FfTab w') → Calls Tryd.prog 67 #[.int .u64 m, .int .i64 (E - 63), .int .i64 dg, .int .i64 3, .int .u8 102] w fun e w' => e = .returned (.tuple #[.int .u64 d, .int .i64 (-3)]) ∧ Below w.heap.size w w')
    (hd0 : d ≠ 0) (hd1 : d ≤ 10000000) (hn : nDigits d = n) (hn3 : 3 ≤ n) (hn7 : n ≤ 7) (hdn : d < 10 ^ n) (b0 : UInt8) (hb0 : (decDigits d)[0]? = some b0) (hb1 : b0 ≠ 48) (B : Nat) (s0 : Value) (w : World) (hB : B ≤ w.heap.size) (hs0 : Own ul 5 1 w B s0 []) (hT : ∀ w', Below w.heap.size w w' → FfTab w') (a : Act) (hE : Ev 298 ((0, s0) :: (2, .int .u8 102) :: (3, .int .i64 3) :: (11, .int .i64 52) :: (13, .bool false) :: (14, .int .i64 E) :: (15, .int .u64 mt) :: (24, .int .i64 dg) :: []) a)
    (hR : ∀ a w' s nd, (∀ (j : Nat) (b : UInt8), nd ≤ j → (decDigits d)[j]? = some b → b = 48) → nd ≤ n → Own ul 5 1 w' B s (efg (decDigits d) (n - 3) nd) → Below B w w' → Ev 298 ((8, s) :: []) a → Q .ret a w') :
    Code.wp Tryd.prog (cB (cB (cA (cB (cA (cB (cB (cB (cB (cB (cB (cB (cB (cB (cB (cB (cB (cB (cB ftBody))))))))))))))))))) Q a w := by
  have hlenD : (decDigits d).length = n := by rw [decDigits_length, hn]
  refine wp_seq ?_
  refine wp_region_lit ?_
  refine ev_run (w' := w) hE rfl rfl (by decide) (ex_mv (hE.get 24 rfl)) ?_
  intro a hE
  refine ev_run (v := .bool true) (w' := w) hE rfl rfl (by decide) (ei_leq (hE.get 203 rfl) rfl (decide_eq_true (by omega))) ?_
  intro a hE
  refine wpList_nil ?_
  show Code.wp _ _ _ _ _
  refine wp_cond_split (hE.get 204 rfl) (fun _ => ?_) (fun h => by cases h)
  refine wp_seq ?_
  refine wp_region_lit ?_
  refine ev_al hE al_u24 (by decide) ?_
  intro a w1 hE hg hbl1 hsz1
  generalize hgg : w.heap.size = g at hE hg
  have hgB : B ≤ g := by omega
  refine wpList_nil ?_
  show Code.wp _ _ _ _ _
  refine wp_seq ?_
  refine wp_region_lit ?_
  refine ev_ac hE (by decide) ?_
  intro a hE
  refine ev_ac hE (by decide) ?_
  intro a hE
  refine wpList_nil ?_
  show Code.wp _ _ _ _ _
  refine wp_seq ?_
  refine wp_seq ?_
  refine wp_region_lit ?_
  refine ev_run (w' := w1) hE rfl rfl (by decide) (ex_mv (hE.get 24 rfl)) ?_
  intro a hE
  refine ev_run (v := .bool true) (w' := w1) hE rfl rfl (by decide) (ei_gtr (hE.get 205 rfl) rfl (decide_eq_true (by omega))) ?_
  intro a hE
  refine wpList_nil ?_
  show Code.wp _ _ _ _ _
  refine wp_cond_split (hE.get 206 rfl) (fun _ => ?_) (fun h => by cases h)
  refine wp_seq ?_
  refine wp_region_lit ?_
  refine ev_run (w' := w1) hE rfl rfl (by decide) (ex_mv (hE.get 15 rfl)) ?_
  intro a hE
  refine ev_call (S := fun u w' => u = .int .i64 53 ∧ w1 = w') hE rfl rfl (by decide) (f := 56) (args := #[.int .u64 mt]) (by simp only [execOp, resolve, List.map_toArray, List.map_cons, List.map_nil, hE.get 207 rfl]; go_simp) (Calls.mono (by have h := len64_any mt (by omega) w1; rw [hlen] at h; exact h) (by rintro e w' ⟨rfl, h⟩; exact ⟨_, rfl, rfl, h.symm⟩)) ?_
  rintro a u wx ⟨rfl, rfl⟩ hE
  refine ev_run (v := .int .i64 11) (w' := w1) hE rfl rfl (by decide) (ei_sub rfl (hE.get 208 rfl) (by decide)) ?_
  intro a hE
  refine ev_run (w' := w1) hE rfl rfl (by decide) (ex_as (hE.get 209 rfl)) ?_
  intro a hE
  refine wpList_nil ?_
  show Code.wp _ _ _ _ _
  refine wp_seq ?_
  refine wp_region_lit ?_
  refine ev_run (w' := w1) hE rfl rfl (by decide) (ex_mv (hE.get 15 rfl)) ?_
  intro a hE
  refine ev_run (w' := w1) hE rfl rfl (by decide) (ex_mv (hE.get 28 rfl)) ?_
  intro a hE
  refine ev_run (v := .int .u64 m) (w' := w1) hE rfl rfl (by decide) (ei_shl (hE.get 210 rfl) (hE.get 211 rfl) (by omega) (by simp only [IntKind.bits]; omega) (by show IntKind.u64.wrap ((mt : Int) * 2048) = m; rw [IntKind.wrap_u64]; omega)) ?_
  intro a hE
  refine ev_run (w' := w1) hE rfl rfl (by decide) (ex_as (hE.get 212 rfl)) ?_
  intro a hE
  refine wpList_nil ?_
  show Code.wp _ _ _ _ _
  refine wp_seq ?_
  refine wp_region_lit ?_
  refine ev_run (w' := w1) hE rfl rfl (by decide) (ex_mv (hE.get 14 rfl)) ?_
  intro a hE
  refine ev_run (w' := w1) hE rfl rfl (by decide) (ex_mv (hE.get 28 rfl)) ?_
  intro a hE
  refine ev_run (v := .int .i64 (E - 11)) (w' := w1) hE rfl rfl (by decide) (ei_sub (hE.get 213 rfl) (hE.get 214 rfl) (by rw [IntKind.wrap_i64]; omega)) ?_
  intro a hE
  refine ev_run (w' := w1) hE rfl rfl (by decide) (ex_as (hE.get 215 rfl)) ?_
  intro a hE
  refine wpList_nil ?_
  show Code.wp _ _ _ _ _
  refine wp_seq ?_
  refine wp_region_lit ?_
  refine ev_run (w' := w1) hE rfl rfl (by decide) (ex_mv (hE.get 29 rfl)) ?_
  intro a hE
  refine ev_run (w' := w1) hE rfl rfl (by decide) (ex_mv (hE.get 30 rfl)) ?_
  intro a hE
  refine ev_run (w' := w1) hE rfl rfl (by decide) (ex_mv (hE.get 11 rfl)) ?_
  intro a hE
  refine ev_run (v := .int .i64 (E - 63)) (w' := w1) hE rfl rfl (by decide) (ei_sub (hE.get 218 rfl) (hE.get 219 rfl) (by rw [IntKind.wrap_i64]; omega)) ?_
  intro a hE
  refine ev_run (w' := w1) hE rfl rfl (by decide) (ex_mv (hE.get 24 rfl)) ?_
  intro a hE
  refine ev_run (w' := w1) hE rfl rfl (by decide) (ex_mv (hE.get 3 rfl)) ?_
  intro a hE
  refine ev_run (w' := w1) hE rfl rfl (by decide) (ex_mv (hE.get 2 rfl)) ?_
  intro a hE
  refine ev_call (S := fun u w' => u = .tuple #[.int .u64 d, .int .i64 (-3)] ∧ Below w1.heap.size w1 w') hE rfl rfl (by decide) (f := 67) (args := #[.int .u64 m, .int .i64 (E - 63), .int .i64 dg, .int .i64 3, .int .u8 102]) (by simp only [execOp, resolve, List.map_toArray, List.map_cons, List.map_nil, hE.get 217 rfl, hE.get 220 rfl, hE.get 221 rfl, hE.get 222 rfl, hE.get 223 rfl]; go_simp) ((hfix w1 (fun w' hb => hT w' (hbl1.trans (hb.mono hbl1.size)))).mono (by rintro e w' ⟨rfl, h⟩; exact ⟨_, rfl, rfl, h⟩)) ?_
  rintro a u w2 ⟨rfl, hb12⟩ hE
  have hg := hp_below hg hb12
  have hbl2 := hbl1.trans (hb12.mono hbl1.size)
  refine ev_run (w' := w2) hE rfl rfl (by decide) (ex_mv (hE.get 224 rfl)) ?_
  intro a hE
  refine ev_run (w' := w2) hE rfl rfl (by decide) (ei_ext (hE.get 216 rfl) rfl) ?_
  intro a hE
  refine ev_run (w' := w2) hE rfl rfl (by decide) (ei_ext (hE.get 216 rfl) rfl) ?_
  intro a hE
  refine ev_run (w' := w2) hE rfl rfl (by decide) (ex_as (hE.get 225 rfl)) ?_
  intro a hE
  refine ev_run (w' := w2) hE rfl rfl (by decide) (ex_as (hE.get 226 rfl)) ?_
  intro a hE
  refine wpList_nil ?_
  show Code.wp _ _ _ _ _
  refine wp_seq ?_
  refine wp_region_lit ?_
  refine ev_run (w' := w2) hE rfl rfl (by decide) (ex_mv (hE.get 31 rfl)) ?_
  intro a hE
  refine ev_run (v := .bool true) (w' := w2) hE rfl rfl (by decide) (by simp only [execOp, hE.get 227 rfl]; have hne : ((d : Int) == 0) = false := (beq_false_of_ne (by omega)); go_simp) ?_
  intro a hE
  refine wpList_nil ?_
  show Code.wp _ _ _ _ _
  refine wp_cond_split (hE.get 228 rfl) (fun _ => ?_) (fun h => by cases h)
  refine G2.sd_rgn hd0 hd1 hn hn3 hn7 hdn b0 hb0 hb1 hg (fun w' ho => (hT w' (hbl2.trans (only_bel ho (by rw [hgg]; exact Nat.le_of_lt (Array.getElem?_eq_some_iff.1 hg).1) (by omega)))).pow) hE.size (hE.get 25 rfl) (hE.get 31 rfl) (hE.get 32 rfl) ?_
  intro a4 w4 nd hs4 hd4 hlow h26 h27 hnd1 hnd2 hz hdga ho4
  have hE : Ev 298 ((0, s0) :: (2, .int .u8 102) :: (3, .int .i64 3) :: (13, .bool false) :: (25, pt g 0) :: []) a := hE.pick rfl
  have hE := hE.from2 (m0 := 229) (d1 := 26) (d2 := 27) hs4 hd4 hlow h26 h27 rfl
  have hb4 : Below w.heap.size w w4 := hbl2.trans (only_bel ho4 (by rw [hgg]; exact Nat.le_of_lt (Array.getElem?_eq_some_iff.1 hg).1) (by omega))
  show Code.wp _ _ _ _ _
  have hF : Fx g (decDigits d) B w [] s0 w4 := ⟨hs0.below hb4, hdga, hb4.mono hB, Nat.le_trans hB hb4.size⟩
  refine wp_seq ?_
  refine wp_region_lit ?_
  refine ev_run (w' := w4) hE rfl rfl (by decide) (ex_mv (hE.get 0 rfl)) ?_
  intro a hE
  refine ev_run (w' := w4) hE rfl rfl (by decide) (ex_mv (hE.get 13 rfl)) ?_
  intro a hE
  refine ev_run (v := .slice (some ⟨g, 0, none⟩) 24 24) (w' := w4) hE rfl rfl (by decide) (by have hs := sl_all g w4; simp only [execOp, hE.get 25 rfl, Option.map]; exact run_andValue hs) ?_
  intro a hE
  refine ev_run (w' := w4) hE rfl rfl (by decide) (ex_mv (hE.get 26 rfl)) ?_
  intro a hE
  refine ev_run (w' := w4) hE rfl rfl (by decide) (ex_mv (hE.get 27 rfl)) ?_
  intro a hE
  refine ev_run (w' := w4) hE rfl rfl (by decide) (ex_mv (hE.get 3 rfl)) ?_
  intro a hE
  refine ev_run (w' := w4) hE rfl rfl (by decide) (ex_mv (hE.get 2 rfl)) ?_
  intro a hE
  have hn3' : ((n : Int) - 3) = ((n - 3 : Nat) : Int) := by omega
  rw [hn3'] at hE
  refine ev_call (S := fun u w' => Fx g (decDigits d) B w (efg (decDigits d) (n - 3) nd) u w') hE rfl rfl (by decide) (f := 64) (args := #[s0, .bool false, .slice (some ⟨g, 0, none⟩) 24 24, .int .i64 (n - 3 : Nat), .int .i64 nd, .int .i64 3, .int .u8 102, .bool false]) (by simp only [execOp, resolve, List.map_toArray, List.map_cons, List.map_nil, hE.get 238 rfl, hE.get 239 rfl, hE.get 240 rfl, hE.get 241 rfl, hE.get 242 rfl, hE.get 243 rfl, hE.get 244 rfl]; go_simp) ((fmtEFG_any g (decDigits d) B w s0 (n - 3) nd (by omega) (by omega) (by omega) w4 hF).mono (by rintro e w' ⟨s, rfl, h⟩; exact ⟨_, rfl, h⟩)) ?_
  intro a s w5 hF5 hE
  refine ev_as hE (hE.get 245 rfl) (by decide) ?_
  intro a hE
  refine wpList_nil ?_
  show Code.wp _ _ _ _ _
  refine wp_ret ?_
  exact hR a w5 s nd hz hnd2 hF5.own hF5.below (hE.pick rfl)
set_option maxRecDepth 100000 in
set_option maxHeartbeats 4000000 in
theorem ftoa_any (X ex fr mt m d dg n : Nat) (E : Int) (hX : X < 9223372036854775808) (hex : X / 4503599627370496 = ex) (hex0 : 0 < ex) (hex1 : ex < 2047) (hexb : bits .and .i64 (ex : Int) 2047 = ex) (hfr : X &&& 4503599627370495 = fr) (hmt : fr ||| 4503599627370496 = mt) (hfb : fr < 4503599627370496) (hE0 : (ex : Int) - 1023 = E) (hEb : -10 ≤ E ∧ E ≤ 10) (hlen : Lib.bitLen mt = 53) (hmb : mt < 9007199254740992) (hmt0 : mt ≠ 0) (hm : mt * 2048 = m)
    (h1 : 0 ≤ E → ∃ l : Int, l + 4 = dg ∧ 0 ≤ l ∧ l ≤ 10 ∧ ∀ w, Calls Tryd.prog 55 #[.int .i64 (1 + E)] w fun e w' => e = .returned (.int .i64 l) ∧ w' = w)
    (h2 : E < 0 → ∃ l : Int, 4 - l = dg ∧ 0 ≤ l ∧ l ≤ 3 ∧ ∀ w, Calls Tryd.prog 55 #[.int .i64 (-E)] w fun e w' => e = .returned (.int .i64 l) ∧ w' = w) (hdg : 0 < dg ∧ dg ≤ 18)
    (hfix : ∀ w, (∀ w', Below w.heap.size w w' → FfTab w') → Calls Tryd.prog 67 #[.int .u64 m, .int .i64 (E - 63), .int .i64 dg, .int .i64 3, .int .u8 102] w fun e w' => e = .returned (.tuple #[.int .u64 d, .int .i64 (-3)]) ∧ Below w.heap.size w w')
    (hd0 : d ≠ 0) (hd1 : d ≤ 10000000) (hn : nDigits d = n) (hn3 : 3 ≤ n) (hn7 : n ≤ 7) (hdn : d < 10 ^ n) (b0 : UInt8) (hb0 : (decDigits d)[0]? = some b0) (hb1 : b0 ≠ 48) (B : Nat) (s0 : Value) (w : World) (hB : B ≤ w.heap.size) (hs0 : Own ul 5 1 w B s0 []) (hT : ∀ w', Below w.heap.size w w' → FfTab w') :
    Calls Tryd.prog 53 #[s0, .float .f64 X, .int .u8 102, .int .i64 3] w fun e w' => ∃ (s : Value) (nd : Nat), e = .returned s ∧ (∀ (j : Nat) (b : UInt8), nd ≤ j → (decDigits d)[j]? = some b → b = 48) ∧ nd ≤ n ∧ Own ul 5 1 w' B s (efg (decDigits d) (n - 3) nd) ∧ Below B w w' := by
  have hlenD : (decDigits d).length = n := by rw [decDigits_length, hn]
  refine calls_of_ev Tryd.func53 rfl (show 4 ≤ 298 from by decide) ?_
  intro a hE
  have hE : Ev 298 ((0, s0) :: (1, .float .f64 X) :: (2, .int .u8 102) :: (3, .int .i64 3) :: []) a := hE
  refine wp_seq ?_
  refine wp_region_lit ?_
  refine ev_ac hE (by decide) ?_
  intro a hE
  refine wpList_nil ?_
  show Code.wp _ _ _ _ _
  refine wp_seq ?_
  refine wp_region_lit ?_
  refine ev_ac hE (by decide) ?_
  intro a hE
  refine wpList_nil ?_
  show Code.wp _ _ _ _ _
  refine wp_seq ?_
  refine wp_region_lit ?_
  refine ev_ac hE (by decide) ?_
  intro a hE
  refine ev_ac hE (by decide) ?_
  intro a hE
  refine ev_ac hE (by decide) ?_
  intro a hE
  refine wpList_nil ?_
  show Code.wp _ _ _ _ _
  refine wp_seq ?_
  refine wp_block ?_
  refine wp_seq ?_
  refine wp_region_lit ?_
  refine ev_run (v := .bool false) (w' := w) hE rfl rfl (by decide) (by simp only [execOp, ]; go_simp) ?_
  intro a hE
  refine ev_run (w' := w) hE rfl rfl (by decide) (ex_as (hE.get 35 rfl)) ?_
  intro a hE
  refine wpList_nil ?_
  show Code.wp _ _ _ _ _
  refine wp_cond_split (hE.get 34 rfl) (fun h => by cases h) (fun _ => ?_)
  refine wp_seq ?_
  refine wp_region_lit ?_
  refine ev_run (v := .bool true) (w' := w) hE rfl rfl (by decide) (by simp only [execOp, ]; go_simp) ?_
  intro a hE
  refine ev_run (w' := w) hE rfl rfl (by decide) (ex_as (hE.get 41 rfl)) ?_
  intro a hE
  refine wpList_nil ?_
  show Code.wp _ _ _ _ _
  refine wp_cond_split (hE.get 40 rfl) (fun _ => ?_) (fun h => by cases h)
  refine wp_seq ?_
  refine wp_region_lit ?_
  refine ev_run (w' := w) hE rfl rfl (by decide) (ex_mv (hE.get 1 rfl)) ?_
  intro a hE
  refine ev_run (v := .int .u64 X) (w' := w) hE rfl rfl (by decide) ?_ ?_
  · simp only [execOp, resolve, List.map_toArray, List.map_cons, List.map_nil, hE.get 42 rfl]
    first | exact run_f64bits X w | (have h := run_f64bits X w; go_simp; exact h)
  intro a hE
  refine ev_run (w' := w) hE rfl rfl (by decide) (ex_as (hE.get 43 rfl)) ?_
  intro a hE
  refine wpList_nil ?_
  show Code.wp _ _ _ _ _
  refine wp_seq ?_
  refine wp_region_lit ?_
  refine ev_ac hE (by decide) ?_
  intro a hE
  refine wpList_nil ?_
  show Code.wp _ _ _ _ _
  refine wp_seq ?_
  refine wp_region_lit ?_
  refine ev_ac hE (by decide) ?_
  intro a hE
  refine wpList_nil ?_
  show Code.wp _ _ _ _ _
  refine wp_region_lit ?_
  refine ev_ac hE (by decide) ?_
  intro a hE
  refine wpList_nil ?_
  show Code.wp _ _ _ _ _
  have hE : Ev 298 ((0, s0) :: (2, .int .u8 102) :: (3, .int .i64 3) :: (9, .int .u64 X) :: (10, .int .i64 11) :: (11, .int .i64 52) :: (12, .int .i64 (-1023)) :: []) a := hE.pick rfl
  refine wp_seq ?_
  refine wp_region_lit ?_
  refine ev_run (w' := w) hE rfl rfl (by decide) (ex_mv (hE.get 9 rfl)) ?_
  intro a hE
  refine ev_run (w' := w) hE rfl rfl (by decide) (ex_mv (hE.get 10 rfl)) ?_
  intro a hE
  refine ev_run (w' := w) hE rfl rfl (by decide) (ex_mv (hE.get 11 rfl)) ?_
  intro a hE
  refine ev_run (v := .int .i64 63) (w' := w) hE rfl rfl (by decide) (ei_add (hE.get 45 rfl) (hE.get 46 rfl) (by decide)) ?_
  intro a hE
  refine ev_run (v := .int .u64 0) (w' := w) hE rfl rfl (by decide) (ei_shr (hE.get 44 rfl) (hE.get 47 rfl) (by omega) (by simp only [IntKind.bits]; omega) (by show (X : Int) / 9223372036854775808 = 0; omega)) ?_
  intro a hE
  refine ev_run (v := .bool false) (w' := w) hE rfl rfl (by decide) (by simp only [execOp, hE.get 48 rfl]; go_simp) ?_
  intro a hE
  refine ev_run (w' := w) hE rfl rfl (by decide) (ex_as (hE.get 49 rfl)) ?_
  intro a hE
  refine wpList_nil ?_
  show Code.wp _ _ _ _ _
  refine wp_seq ?_
  refine wp_region_quiet_lit (by kernel_rfl) (by kernel_rfl) ?_
  refine qv_run hE rfl rfl (by decide) (fun w hC => (ex_mv (hE.get 9 rfl))) ?_
  intro a hE
  refine qv_run hE rfl rfl (by decide) (fun w hC => (ex_mv (hE.get 11 rfl))) ?_
  intro a hE
  refine qv_run (v := .int .u64 ex) hE rfl rfl (by decide) (fun w hC => (ei_shr (hE.get 50 rfl) (hE.get 51 rfl) (by omega) (by simp only [IntKind.bits]; omega) (by show (X : Int) / 4503599627370496 = ex; omega))) ?_
  intro a hE
  refine qv_run (v := .int .i64 ex) hE rfl rfl (by decide) (fun w hC => ?_) ?_
  · have hw8 : IntKind.i64.wrap (ex : Int) = ex := by rw [IntKind.wrap_i64]; omega
    simp only [execOp, hE.get 52 rfl]
    go_simp
  intro a hE
  refine qv_run hE rfl rfl (by decide) (fun w hC => (ex_mv (hE.get 10 rfl))) ?_
  intro a hE
  refine qv_run (v := .int .i64 2048) hE rfl rfl (by decide) (fun w hC => (ei_shl rfl (hE.get 54 rfl) (by omega) (by simp only [IntKind.bits]; omega) (by decide))) ?_
  intro a hE
  refine qv_run (v := .int .i64 2047) hE rfl rfl (by decide) (fun w hC => (ei_sub (hE.get 55 rfl) rfl (by decide))) ?_
  intro a hE
  refine qv_run (v := .int .i64 ex) hE rfl rfl (by decide) (fun w hC => (ei_and (hE.get 53 rfl) (hE.get 56 rfl) hexb)) ?_
  intro a hE
  refine qv_run hE rfl rfl (by decide) (fun w hC => (ex_as (hE.get 57 rfl))) ?_
  intro a hE
  refine wpQuiet_nil ?_
  rintro w1 ⟨n1, rfl⟩
  have hb1x : Below w.heap.size w (w.drewN n1) := drewN_below w n1 _
  have hs1 : Own ul 5 1 (w.drewN n1) B s0 [] := hs0.below hb1x
  generalize hw1 : w.drewN n1 = w1 at *
  have hsz1 : w1.heap.size = w.heap.size := by rw [← hw1]; rfl
  clear hw1
  show Code.wp _ _ _ _ _
  refine wp_seq ?_
  refine wp_region_lit ?_
  refine ev_run (w' := w1) hE rfl rfl (by decide) (ex_mv (hE.get 9 rfl)) ?_
  intro a hE
  refine ev_run (w' := w1) hE rfl rfl (by decide) (ex_mv (hE.get 11 rfl)) ?_
  intro a hE
  refine ev_run (v := .int .u64 (4503599627370496 : Nat)) (w' := w1) hE rfl rfl (by decide) (ei_shl rfl (hE.get 59 rfl) (by omega) (by simp only [IntKind.bits]; omega) (by decide)) ?_
  intro a hE
  refine ev_run (v := .int .u64 (4503599627370495 : Nat)) (w' := w1) hE rfl rfl (by decide) (ei_sub (hE.get 60 rfl) rfl (by decide)) ?_
  intro a hE
  refine ev_run (v := .int .u64 fr) (w' := w1) hE rfl rfl (by decide) (ei_and (hE.get 58 rfl) (hE.get 61 rfl) (by rw [and_u64 X _ (by omega) (by omega), hfr])) ?_
  intro a hE
  refine ev_run (w' := w1) hE rfl rfl (by decide) (ex_as (hE.get 62 rfl)) ?_
  intro a hE
  refine wpList_nil ?_
  show Code.wp _ _ _ _ _
  refine wp_seq ?_
  refine wp_seq ?_
  refine wp_region_lit ?_
  refine ev_run (w' := w1) hE rfl rfl (by decide) (ex_mv (hE.get 14 rfl)) ?_
  intro a hE
  refine ev_run (w' := w1) hE rfl rfl (by decide) (ex_mv (hE.get 10 rfl)) ?_
  intro a hE
  refine ev_run (v := .int .i64 2048) (w' := w1) hE rfl rfl (by decide) (ei_shl rfl (hE.get 64 rfl) (by omega) (by simp only [IntKind.bits]; omega) (by decide)) ?_
  intro a hE
  refine ev_run (v := .int .i64 2047) (w' := w1) hE rfl rfl (by decide) (ei_sub (hE.get 65 rfl) rfl (by decide)) ?_
  intro a hE
  refine ev_run (v := .bool false) (w' := w1) hE rfl rfl (by decide) (by simp only [execOp, hE.get 63 rfl, hE.get 66 rfl]; have hne : ((ex : Int) == 2047) = false := (beq_false_of_ne (by omega)); go_simp) ?_
  intro a hE
  refine wpList_nil ?_
  show Code.wp _ _ _ _ _
  refine wp_cond_split (hE.get 67 rfl) (fun h => by cases h) (fun _ => ?_)
  refine wp_skip ?_
  show Code.wp _ _ _ _ _
  refine wp_seq ?_
  refine wp_seq ?_
  refine wp_region_lit ?_
  refine ev_run (w' := w1) hE rfl rfl (by decide) (ex_mv (hE.get 14 rfl)) ?_
  intro a hE
  refine ev_run (v := .bool false) (w' := w1) hE rfl rfl (by decide) (by simp only [execOp, hE.get 77 rfl]; have hne : ((ex : Int) == 0) = false := (beq_false_of_ne (by omega)); go_simp) ?_
  intro a hE
  refine wpList_nil ?_
  show Code.wp _ _ _ _ _
  refine wp_cond_split (hE.get 78 rfl) (fun h => by cases h) (fun _ => ?_)
  refine wp_region_lit ?_
  refine ev_run (w' := w1) hE rfl rfl (by decide) (ex_mv (hE.get 15 rfl)) ?_
  intro a hE
  refine ev_run (w' := w1) hE rfl rfl (by decide) (ex_mv (hE.get 11 rfl)) ?_
  intro a hE
  refine ev_run (v := .int .u64 (4503599627370496 : Nat)) (w' := w1) hE rfl rfl (by decide) (ei_shl rfl (hE.get 82 rfl) (by omega) (by simp only [IntKind.bits]; omega) (by decide)) ?_
  intro a hE
  refine ev_run (v := .int .u64 mt) (w' := w1) hE rfl rfl (by decide) (ei_or (hE.get 81 rfl) (hE.get 83 rfl) (by rw [or_u64 fr _ (by omega) (by omega), hmt])) ?_
  intro a hE
  refine ev_run (w' := w1) hE rfl rfl (by decide) (ex_as (hE.get 84 rfl)) ?_
  intro a hE
  refine wpList_nil ?_
  show Code.wp _ _ _ _ _
  refine wp_seq ?_
  refine wp_region_lit ?_
  refine ev_run (w' := w1) hE rfl rfl (by decide) (ex_mv (hE.get 14 rfl)) ?_
  intro a hE
  refine ev_run (w' := w1) hE rfl rfl (by decide) (ex_mv (hE.get 12 rfl)) ?_
  intro a hE
  refine ev_run (v := .int .i64 E) (w' := w1) hE rfl rfl (by decide) (ei_add (hE.get 85 rfl) (hE.get 86 rfl) (by rw [← hE0, IntKind.wrap_i64]; omega)) ?_
  intro a hE
  refine ev_run (w' := w1) hE rfl rfl (by decide) (ex_as (hE.get 87 rfl)) ?_
  intro a hE
  refine wpList_nil ?_
  show Code.wp _ _ _ _ _
  refine wp_seq ?_
  refine wp_seq ?_
  refine wp_region_lit ?_
  refine ev_run (w' := w1) hE rfl rfl (by decide) (ex_mv (hE.get 2 rfl)) ?_
  intro a hE
  refine ev_run (v := .bool false) (w' := w1) hE rfl rfl (by decide) (by simp only [execOp, hE.get 88 rfl]; go_simp) ?_
  intro a hE
  refine wpList_nil ?_
  show Code.wp _ _ _ _ _
  refine wp_cond_split (hE.get 89 rfl) (fun h => by cases h) (fun _ => ?_)
  refine wp_skip ?_
  show Code.wp _ _ _ _ _
  refine wp_seq ?_
  refine wp_seq ?_
  refine wp_region_lit ?_
  refine ev_run (w' := w1) hE rfl rfl (by decide) (ex_mv (hE.get 2 rfl)) ?_
  intro a hE
  refine ev_run (v := .bool false) (w' := w1) hE rfl rfl (by decide) (by simp only [execOp, hE.get 97 rfl]; go_simp) ?_
  intro a hE
  refine ev_run (w' := w1) hE rfl rfl (by decide) (ex_mv (hE.get 98 rfl)) ?_
  intro a hE
  refine ev_gon (w' := w1) hE rfl rfl (hE.get 99 rfl) rfl (by decide) (ex_mv (hE.get 2 rfl)) ?_
  intro a hE
  refine ev_gon (v := .bool false) (w' := w1) hE rfl rfl (hE.get 99 rfl) rfl (by decide) (by simp only [execOp, hE.get 100 rfl]; go_simp) ?_
  intro a hE
  refine ev_run (v := .bool false) (w' := w1) hE rfl rfl (by decide) (by rw [ex_pick (b := false) (hE.get 99 rfl)]; have e1 := hE.get 101 rfl; simp only [e1]; rfl) ?_
  intro a hE
  refine wpList_nil ?_
  show Code.wp _ _ _ _ _
  refine wp_cond_split (hE.get 102 rfl) (fun h => by cases h) (fun _ => ?_)
  refine wp_skip ?_
  show Code.wp _ _ _ _ _
  refine wp_seq ?_
  refine wp_seq ?_
  refine wp_region_lit ?_
  refine ev_run (w' := w1) hE rfl rfl (by decide) (ex_mv (hE.get 15 rfl)) ?_
  intro a hE
  refine ev_run (v := .bool false) (w' := w1) hE rfl rfl (by decide) (by simp only [execOp, hE.get 111 rfl]; have hne : ((mt : Int) == 0) = false := (beq_false_of_ne (by exact_mod_cast hmt0)); go_simp) ?_
  intro a hE
  refine wpList_nil ?_
  show Code.wp _ _ _ _ _
  refine wp_cond_split (hE.get 112 rfl) (fun h => by cases h) (fun _ => ?_)
  refine wp_skip ?_
  show Code.wp _ _ _ _ _
  refine wp_seq ?_
  refine wp_seq ?_
  refine wp_region_lit ?_
  refine ev_run (w' := w1) hE rfl rfl (by decide) (ex_mv (hE.get 3 rfl)) ?_
  intro a hE
  refine ev_run (v := .bool false) (w' := w1) hE rfl rfl (by decide) (ei_lss (hE.get 120 rfl) rfl (by decide)) ?_
  intro a hE
  refine wpList_nil ?_
  show Code.wp _ _ _ _ _
  refine wp_cond_split (hE.get 121 rfl) (fun h => by cases h) (fun _ => ?_)
  refine wp_skip ?_
  show Code.wp _ _ _ _ _
  refine wp_seq ?_
  refine wp_seq ?_
  refine wp_region_lit ?_
  refine ev_run (v := .bool true) (w' := w1) hE rfl rfl (by decide) (by simp only [execOp]; exact run_andValue (ld_bool w1 _ _ (hT w1 hb1x).opt)) ?_
  intro a hE
  refine wpList_nil ?_
  show Code.wp _ _ _ _ _
  refine wp_cond_split (hE.get 173 rfl) (fun _ => ?_) (fun h => by cases h)
  have hE : Ev 298 ((0, s0) :: (2, .int .u8 102) :: (3, .int .i64 3) :: (11, .int .i64 52) :: (13, .bool false) :: (14, .int .i64 E) :: (15, .int .u64 mt) :: []) a := hE.pick rfl
  refine wp_seq ?_
  refine wp_region_lit ?_
  refine ev_run (w' := w1) hE rfl rfl (by decide) (ex_mv (hE.get 3 rfl)) ?_
  intro a hE
  refine ev_run (w' := w1) hE rfl rfl (by decide) (ex_as (hE.get 174 rfl)) ?_
  intro a hE
  refine wpList_nil ?_
  show Code.wp _ _ _ _ _
  refine wp_seq ?_
  refine wp_seq ?_
  refine wp_region_lit ?_
  refine ev_run (w' := w1) hE rfl rfl (by decide) (ex_mv (hE.get 2 rfl)) ?_
  intro a hE
  refine wpList_nil ?_
  show Code.wp _ _ _ _ _
  refine wp_block ?_
  refine wp_seq ?_
  refine wp_region_lit ?_
  refine ev_run (v := .bool true) (w' := w1) hE rfl rfl (by decide) (by simp only [execOp, hE.get 175 rfl]; go_simp) ?_
  intro a hE
  refine ev_run (w' := w1) hE rfl rfl (by decide) (ex_as (hE.get 177 rfl)) ?_
  intro a hE
  refine wpList_nil ?_
  show Code.wp _ _ _ _ _
  refine wp_cond_split (hE.get 176 rfl) (fun _ => ?_) (fun h => by cases h)
  refine wp_seq ?_
  refine wp_region_lit ?_
  refine ev_run (w' := w1) hE rfl rfl (by decide) (ex_mv (hE.get 14 rfl)) ?_
  intro a hE
  refine ev_run (v := .bool (decide (0 ≤ E))) (w' := w1) hE rfl rfl (by decide) (ei_geq (hE.get 178 rfl) rfl rfl) ?_
  intro a hE
  refine wpList_nil ?_
  show Code.wp _ _ _ _ _
  refine wp_cond_split (hE.get 179 rfl) (fun hb => ?_) (fun hb => ?_)
  · obtain ⟨l, hl, hl0, hl1, hc⟩ := h1 (of_decide_eq_true hb)
    refine wp_region_lit ?_
    refine ev_run (w' := w1) hE rfl rfl (by decide) (ex_mv (hE.get 14 rfl)) ?_
    intro a hE
    refine ev_run (v := .int .i64 (1 + E)) (w' := w1) hE rfl rfl (by decide) (ei_add rfl (hE.get 180 rfl) (by rw [IntKind.wrap_i64]; omega)) ?_
    intro a hE
    refine ev_call (S := fun u w' => u = .int .i64 l ∧ w1 = w') hE rfl rfl (by decide) (f := 55) (args := #[.int .i64 (1 + E)]) (by simp only [execOp, resolve, List.map_toArray, List.map_cons, List.map_nil, hE.get 181 rfl]; go_simp) (Calls.mono (hc w1) (by rintro e w' ⟨rfl, h⟩; exact ⟨_, rfl, rfl, h.symm⟩)) ?_
    rintro a u wx ⟨rfl, rfl⟩ hE
    refine ev_run (v := .int .i64 (1 + l)) (w' := w1) hE rfl rfl (by decide) (ei_add rfl (hE.get 182 rfl) (by rw [IntKind.wrap_i64]; omega)) ?_
    intro a hE
    refine ev_run (w' := w1) hE rfl rfl (by decide) (ex_mv (hE.get 3 rfl)) ?_
    intro a hE
    refine ev_run (v := .int .i64 dg) (w' := w1) hE rfl rfl (by decide) (ei_add (hE.get 183 rfl) (hE.get 184 rfl) (by rw [IntKind.wrap_i64]; omega)) ?_
    intro a hE
    refine ev_run (w' := w1) hE rfl rfl (by decide) (ex_as (hE.get 185 rfl)) ?_
    intro a hE
    refine wpList_nil ?_
    show Code.wp _ _ _ _ _
    refine ftoa_rest mt m d dg n E hEb hlen hmb hm hdg hfix hd0 hd1 hn hn3 hn7 hdn b0 hb0 hb1 B s0 w1 (by omega) hs1 (fun w' hb => hT w' (hb1x.trans (hb.mono (by omega)))) a (hE.pick rfl) ?_
    intro a w' s nd hz hnd hown hbel hE
    try simp only [Exit.inBlock, Exit.then]
    exact ret_of_ev hE rfl (hE.get 8 rfl) ⟨s, nd, rfl, hz, hnd, hown, (hb1x.mono hB).trans hbel⟩
  · have hlt : E < 0 := by have := of_decide_eq_false hb; omega
    obtain ⟨l, hl, hl0, hl1, hc⟩ := h2 hlt
    refine wp_region_lit ?_
    refine ev_run (w' := w1) hE rfl rfl (by decide) (ex_mv (hE.get 3 rfl)) ?_
    intro a hE
    refine ev_run (v := .int .i64 4) (w' := w1) hE rfl rfl (by decide) (ei_add rfl (hE.get 186 rfl) (by decide)) ?_
    intro a hE
    refine ev_run (w' := w1) hE rfl rfl (by decide) (ex_mv (hE.get 14 rfl)) ?_
    intro a hE
    refine ev_run (v := .int .i64 (-E)) (w' := w1) hE rfl rfl (by decide) (ei_neg (hE.get 188 rfl) (by rw [IntKind.wrap_i64]; omega)) ?_
    intro a hE
    refine ev_call (S := fun u w' => u = .int .i64 l ∧ w1 = w') hE rfl rfl (by decide) (f := 55) (args := #[.int .i64 (-E)]) (by simp only [execOp, resolve, List.map_toArray, List.map_cons, List.map_nil, hE.get 189 rfl]; go_simp) (Calls.mono (hc w1) (by rintro e w' ⟨rfl, h⟩; exact ⟨_, rfl, rfl, h.symm⟩)) ?_
    rintro a u wx ⟨rfl, rfl⟩ hE
    refine ev_run (v := .int .i64 dg) (w' := w1) hE rfl rfl (by decide) (ei_sub (hE.get 187 rfl) (hE.get 190 rfl) (by rw [IntKind.wrap_i64]; omega)) ?_
    intro a hE
    refine ev_run (w' := w1) hE rfl rfl (by decide) (ex_as (hE.get 191 rfl)) ?_
    intro a hE
    refine wpList_nil ?_
    show Code.wp _ _ _ _ _
    refine ftoa_rest mt m d dg n E hEb hlen hmb hm hdg hfix hd0 hd1 hn hn3 hn7 hdn b0 hb0 hb1 B s0 w1 (by omega) hs1 (fun w' hb => hT w' (hb1x.trans (hb.mono (by omega)))) a (hE.pick rfl) ?_
    intro a w' s nd hz hnd hown hbel hE
    try simp only [Exit.inBlock, Exit.then]
    exact ret_of_ev hE rfl (hE.get 8 rfl) ⟨s, nd, rfl, hz, hnd, hown, (hb1x.mono hB).trans hbel⟩
end Go.Proofs.YtkddkmiomhadaaaDoor
