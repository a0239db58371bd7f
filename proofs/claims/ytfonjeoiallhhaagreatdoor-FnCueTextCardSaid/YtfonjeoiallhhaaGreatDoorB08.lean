/- Joined: Ffu, Ffv. -/
import Derived.Test.YtfonjeoiallhhaaGreatDoorB07
/- strconv.fmtEFG at 'f' in general. Printed by wip/tools/gen_ffu.py. -/
set_option maxRecDepth 100000
set_option maxHeartbeats 4000000
namespace Go.Proofs.YtfonjeoiallhhaaGreatDoor.Q
open Go.RowKit
theorem sl_hi (g n C : Nat) (h : n ≤ C) (hC : 20 ≤ C ∧ C ≤ 64) (w : World) : (Instr.sliceAt 24 (.slice (some ⟨g, 0, none⟩) C C) none (some (.int .i64 n)) none).run Tryz.prog w = .ok (.slice (some ⟨g, 0, none⟩) n C) w := by
 have h0 : (0 : Int) ≤ (n : Int) := by omega
 have h2 : (n : Int) ≤ C := by omega
 have h3 : (0 : Nat) ≠ C := by omega
 go_simp
def DgAt (g : Nat) (L : List UInt8) (w : World) : Prop := L ≠ [] → ∃ (cs : Array Value) (T : TypeId), T ≠ 5 ∧ w.heap[g]? = some (.cells cs T (0, 0)) ∧ ∀ (j : Nat) (b : UInt8), L[j]? = some b → cs[j]? = some (.int .u8 (b.toNat : Int))
theorem DgAt.cell {g : Nat} {L : List UInt8} {w : World} (h : DgAt g L w) {j : Nat} {b : UInt8} (hb : L[j]? = some b) : w.cell? ⟨g, j, none⟩ = some (.int .u8 (b.toNat : Int)) := by
 obtain ⟨cs, T, _, h1, h2⟩ := h (fun e => by rw [e] at hb; simp at hb)
 exact cell_of_heap h1 (h2 j b hb)
noncomputable def egBody : Code := Tryz.f88.body.getD .skip
/-- The text so far, behind the digits. -/
structure Fx (g : Nat) (L : List UInt8) (B : Nat) (w0 : World) (X : List UInt8) (s : Value) (w : World) : Prop where
 own : Own ul 5 1 w B s X
 dg : DgAt g L w
 below : Below B w0 w
 le : B ≤ w.heap.size
theorem ev_fx {N : Nat} {l : List (Nat × Value)} {a : Act} {w w0 : World} {ops : Array Oper} {rest : List Oper} {Q : Exit → Act → World → Prop} {d1 d2 ts : Nat} {ty1 ty2 : TypeId} {ps1 ps2 : String} {af1 af2 : Array Edge} {x : Operand} {b : UInt8} {g B : Nat} {L X : List UInt8} {s : Value} (h : Ev N l a) (hx : a.eval x = .int .u8 (b.toNat : Int)) (hs : a.eval (.tmp ts) = s) (hne : ts ≠ d1) (hd1 : d1 < N) (hd2 : d2 < N) (hF : Fx g L B w0 X s w) (hX : X.length ≤ 1000)
  (hK : ∀ a' s' w', Fx g L B w0 (X ++ [b]) s' w' → Ev N ((d2, s') :: (d1, .slice (some ⟨w.heap.size, 0, none⟩) 1 1) :: l) a' → wpList Tryz.prog ops Q rest a' w') :
  wpList Tryz.prog ops Q (⟨some d1, .buildSlice 24 1 #[(0, x)], ty1, ps1, af1, none⟩ :: ⟨some d2, .call { callee := .builtin .append, args := #[.tmp ts, .tmp d1], argTypes := #[24, 24] }, ty2, ps2, af2, none⟩ :: rest) a w := by
 obtain ⟨i0, hi, hz0, hz1, hz2⟩ := info_parts info_u8
 refine arm_push (f := ul) 24 Tryz.underlying24 i0 _ 1 hi hz0 hz1 hz2 (by rfl) (by decide) (fun _ => rfl) (by intro x u hu; obtain rfl := List.mem_singleton.1 hu; rfl) b ?_ hs (fun e => hne (by injection e)) (by rw [h.size]; exact hd1) hF.own hF.le (by omega) (by omega) ?_
 ·simp only [execOp, List.map_toArray, List.map_cons, List.map_nil, hx]
  go_simp
 ·intro v' w' ho hon hb
  refine hK _ v' w' ⟨ho, ?_, hF.below.trans (hon.below hF.le fun k hk hv => by have := (hF.own.block_lt k hv).1; omega), Nat.le_trans hF.le hon.size⟩ ((h.set hd1).set hd2)
  intro hL
  obtain ⟨cs, T, hTn, hg, hc⟩ := hF.dg hL
  exact ⟨cs, T, hTn, by rw [hon.block g (Array.getElem?_eq_some_iff.1 hg).1 (hF.own.ne_blk hg (Ne.symm hTn))]; exact hg, hc⟩
/-- The point and what stands behind it. -/
def efgTail (P : Nat) (L : List UInt8) (dp nd : Nat) : List UInt8 := [46] ++ (L.drop dp).take (min P (nd - dp)) ++ List.replicate (P - min P (nd - dp)) 48
def efg (pv : Int) (L : List UInt8) (dp nd : Nat) : List UInt8 := (if 0 < dp then L.take (min nd dp) ++ List.replicate (dp - min nd dp) 48 else [48]) ++ (if 0 < pv then efgTail pv.toNat L dp nd else [])
theorem efg_tail {Q : Exit → Act → World → Prop} (sv : Value) (C P : Nat) (hC : 20 ≤ C ∧ C ≤ 64) (hP : 0 < P ∧ P ≤ 10) (g : Nat) (L : List UInt8) (B : Nat) (w0 : World) (X : List UInt8) (s : Value) (dp nd : Nat) (hX : X.length ≤ 100) (hdp : dp ≤ 10) (hnd : nd ≤ L.length) (hLl : L.length ≤ 20) (hsv : L ≠ [] → sv = .slice (some ⟨g, 0, none⟩) C C) (a : Act) (w : World) (hE : Ev 272 ((0, s) :: (2, sv) :: (3, .int .i64 dp) :: (4, .int .i64 nd) :: (5, .int .i64 (P : Int)) :: []) a) (hF : Fx g L B w0 X s w) (hR : ∀ s a w, Fx g L B w0 (X ++ efgTail P L dp nd) s w → Ev 272 ((16, s) :: []) a → Q .ret a w) :
  Code.wp Tryz.prog (cB (cB (cA (cB (cB (cB (cA (cB (cA (cB (cB egBody))))))))))) Q a w := by
 refine wp_seq ?_
 refine wp_seq ?_
 refine wp_region_lit ?_
 refine ev_r (w' := w) hE (ex_mv (hE.get 5 rfl)) fun a hE => ?_
 refine ev_r (v := .bool true) (w' := w) hE (ei_gtr (hE.get 212 rfl) rfl (decide_eq_true (by omega))) fun a hE => ?_
 refine nx1 ?_
 refine wp_cond_split (hE.get 213 rfl) (fun _ => ?_) (fun h => by cases h)
 refine wp_seq ?_
 refine wp_region_lit ?_
 refine ev_mv hE (hE.get 0 rfl) (by decide) ?_
 intro a hE
 refine ev_fx (b := 46) hE (by first | rfl | exact rfl) (hE.get 214 rfl) (by decide) (by decide) (by decide) hF (by omega) ?_
 intro a s w hF hE
 refine ev_as hE (hE.get 216 rfl) (by decide) ?_
 intro a hE
 refine nx1 ?_
 have hX1 : (X ++ [(46 : UInt8)]).length ≤ 101 := by rw [List.length_append]; simpa using hX
 refine wp_seq ?_
 refine wp_region_lit ?_
 refine ev_r (w' := w) hE (ex_mv (hE.get 5 rfl)) fun a hE => ?_
 refine ev_r (w' := w) hE (ex_mv (hE.get 3 rfl)) fun a hE => ?_
 refine ev_r (v := .int .i64 (-(dp : Int))) (w' := w) hE (ei_neg (hE.get 218 rfl) (by rw [IntKind.wrap_i64]; omega)) fun a hE => ?_
 refine ev_r (v := .int .i64 0) (w' := w) hE (fx_max rfl (hE.get 219 rfl) (by omega)) fun a hE => ?_
 refine ev_r (v := .int .i64 (0 : Nat)) (w' := w) hE (fx_min (hE.get 217 rfl) (hE.get 220 rfl) (by omega)) fun a hE => ?_
 refine ev_r (w' := w) hE (ex_as (hE.get 221 rfl)) fun a hE => ?_
 refine nx3 ?_
 refine ev_r (w' := w) hE (ex_mv (hE.get 3 rfl)) fun a hE => ?_
 refine ev_r (w' := w) hE (ex_mv (hE.get 26 rfl)) fun a hE => ?_
 refine ev_r (v := .int .i64 dp) (w' := w) hE (ei_add (hE.get 222 rfl) (hE.get 223 rfl) (by rw [IntKind.wrap_i64]; omega)) fun a hE => ?_
 refine ev_r (w' := w) hE (ex_as (hE.get 224 rfl)) fun a hE => ?_
 refine nx3 ?_
 refine ev_r (w' := w) hE (ex_mv (hE.get 5 rfl)) fun a hE => ?_
 refine ev_r (w' := w) hE (ex_mv (hE.get 26 rfl)) fun a hE => ?_
 refine ev_r (v := .int .i64 (P : Int)) (w' := w) hE (ei_sub (hE.get 225 rfl) (hE.get 226 rfl) (by rw [IntKind.wrap_i64]; omega)) fun a hE => ?_
 refine ev_r (w' := w) hE (ex_mv (hE.get 4 rfl)) fun a hE => ?_
 refine ev_r (w' := w) hE (ex_mv (hE.get 27 rfl)) fun a hE => ?_
 refine ev_r (v := .int .i64 ((nd : Int) - dp)) (w' := w) hE (ei_sub (hE.get 228 rfl) (hE.get 229 rfl) (by rw [IntKind.wrap_i64]; omega)) fun a hE => ?_
 refine ev_r (v := .int .i64 ((nd - dp : Nat) : Int)) (w' := w) hE (fx_max rfl (hE.get 230 rfl) (by omega)) fun a hE => ?_
 refine ev_r (v := .int .i64 ((min P (nd - dp) : Nat) : Int)) (w' := w) hE (fx_min (hE.get 227 rfl) (hE.get 231 rfl) (by omega)) fun a hE => ?_
 refine ev_r (w' := w) hE (ex_as (hE.get 232 rfl)) fun a hE => ?_
 refine nx3 ?_
 refine ev_r (w' := w) hE (ex_mv (hE.get 5 rfl)) fun a hE => ?_
 refine ev_r (w' := w) hE (ex_mv (hE.get 26 rfl)) fun a hE => ?_
 refine ev_r (v := .int .i64 (P : Int)) (w' := w) hE (ei_sub (hE.get 233 rfl) (hE.get 234 rfl) (by rw [IntKind.wrap_i64]; omega)) fun a hE => ?_
 refine ev_r (w' := w) hE (ex_mv (hE.get 28 rfl)) fun a hE => ?_
 refine ev_r (v := .int .i64 (P - ((min P (nd - dp) : Nat) : Int))) (w' := w) hE (ei_sub (hE.get 235 rfl) (hE.get 236 rfl) (by rw [IntKind.wrap_i64]; omega)) fun a hE => ?_
 refine ev_r (v := .int .i64 ((P - min P (nd - dp) : Nat) : Int)) (w' := w) hE (fx_max rfl (hE.get 237 rfl) (by omega)) fun a hE => ?_
 refine ev_r (w' := w) hE (ex_as (hE.get 238 rfl)) fun a hE => ?_
 refine nx1 ?_
 refine wp_seq ?_
 refine wp_seq ?_
 refine wp_region_lit ?_
 refine ev_r (w' := w) hE (ex_mv (hE.get 26 rfl)) fun a hE => ?_
 refine ev_r (v := .int .i64 (0 : Nat)) (w' := w) hE (by simp only [execOp]; rfl) fun a hE => ?_
 refine nx1 ?_
 generalize hXe : X ++ [(46 : UInt8)] = Y at *
 refine range_wp2 (N := 272) (n := 0) [0, 2, 3, 4, 5, 27, 28, 29] (l0 := ((0, s) :: (2, sv) :: (3, .int .i64 dp) :: (4, .int .i64 nd) :: (5, .int .i64 (P : Int)) :: (27, .int .i64 dp) :: (28, .int .i64 (min P (nd - dp) : Nat)) :: (29, .int .i64 ((P - min P (nd - dp) : Nat) : Int)) :: [])) (fun k l w => ∃ s, l = ((0, s) :: (2, sv) :: (3, .int .i64 dp) :: (4, .int .i64 nd) :: (5, .int .i64 (P : Int)) :: (27, .int .i64 dp) :: (28, .int .i64 (min P (nd - dp) : Nat)) :: (29, .int .i64 ((P - min P (nd - dp) : Nat) : Int)) :: []) ∧ Fx g L B w0 (Y ++ List.replicate k 48) s w) (by omega) (hE.pick rfl) rfl ⟨_, rfl, by rw [List.replicate_zero, List.append_nil]; exact hF⟩ (by decide) (by decide) (by decide) ?_ ?_
 ·rintro k l a w hk hE ⟨s, rfl, hF⟩ Q' hQ'
  refine wp_block ?_
  refine wp_region_lit ?_
  have hXk : (Y ++ List.replicate k (48 : UInt8)).length ≤ 300 := by rw [List.length_append, List.length_replicate]; omega
  refine ev_mv hE (hE.get 0 rfl) (by decide) ?_
  intro a hE
  refine ev_fx (b := 48) hE (by first | rfl | exact rfl) (hE.get 242 rfl) (by decide) (by decide) (by decide) hF (by omega) ?_
  intro a s w hF hE
  refine ev_as hE (hE.get 244 rfl) (by decide) ?_
  intro a hE
  refine wpList_nil ?_
  refine hQ' _ a w ?_ (hE.pick ?_) ⟨s, rfl, ?_⟩
  ·rfl
  ·rfl
  ·rw [List.replicate_succ', ← List.append_assoc]; exact hF
 rintro l a w hE ⟨s, rfl, hF⟩
 rw [List.replicate_zero, List.append_nil] at hF
 show Code.wp _ _ _ _ _
 refine wp_seq ?_
 refine wp_seq ?_
 refine wp_region_lit ?_
 refine ev_r (w' := w) hE (ex_mv (hE.get 28 rfl)) fun a hE => ?_
 refine ev_r (v := .int .i64 (0 : Nat)) (w' := w) hE (by simp only [execOp]; rfl) fun a hE => ?_
 refine nx1 ?_
 generalize hq : min P (nd - dp) = q at *
 refine range_wp2 (N := 272) (n := q) [0, 2, 3, 4, 5, 27, 28, 29] (l0 := ((0, s) :: (2, sv) :: (3, .int .i64 dp) :: (4, .int .i64 nd) :: (5, .int .i64 (P : Int)) :: (27, .int .i64 dp) :: (28, .int .i64 q) :: (29, .int .i64 ((P - q : Nat) : Int)) :: [])) (fun k l w => ∃ s, l = ((0, s) :: (2, sv) :: (3, .int .i64 dp) :: (4, .int .i64 nd) :: (5, .int .i64 (P : Int)) :: (27, .int .i64 dp) :: (28, .int .i64 q) :: (29, .int .i64 ((P - q : Nat) : Int)) :: []) ∧ Fx g L B w0 (Y ++ (L.drop dp).take k) s w) (by omega) (hE.pick rfl) rfl ⟨_, rfl, by rw [List.take_zero, List.append_nil]; exact hF⟩ (by decide) (by decide) (by decide) ?_ ?_
 ·rintro k l a w hk hE ⟨s, rfl, hF⟩ Q' hQ'
  obtain ⟨b, hb⟩ : ∃ b, L[dp + k]? = some b := ⟨_, List.getElem?_eq_getElem (by omega)⟩
  have hb2 : (L.drop dp)[k]? = some b := by rw [List.getElem?_drop]; exact hb
  have hYk : (Y ++ (L.drop dp).take k).length ≤ 300 := by rw [List.length_append, List.length_take]; omega
  refine wp_block ?_
  refine wp_seq ?_
  refine wp_region_lit ?_
  refine ev_r (w' := w) hE (ex_mv (hE.get 247 rfl)) fun a hE => ?_
  refine ev_r (w' := w) hE (ex_as (hE.get 249 rfl)) fun a hE => ?_
  refine nx1 ?_
  refine wp_region_lit ?_
  refine ev_r (w' := w) hE (ex_mv (hE.get 0 rfl)) fun a hE => ?_
  refine ev_r (w' := w) hE (ex_mv (hE.get 2 rfl)) fun a hE => ?_
  refine ev_r (w' := w) hE (ex_mv (hE.get 27 rfl)) fun a hE => ?_
  refine ev_r (w' := w) hE (ex_mv (hE.get 30 rfl)) fun a hE => ?_
  refine ev_r (v := .int .i64 ((dp + k : Nat) : Int)) (w' := w) hE (ei_add (hE.get 252 rfl) (hE.get 253 rfl) (by rw [IntKind.wrap_i64]; omega)) fun a hE => ?_
  refine ev_r (v := pt g (dp + k)) (w' := w) hE (ix_u8 (by rw [← hsv (fun e => by rw [e] at hb; simp at hb)]; exact hE.get 251 rfl) (hE.get 254 rfl) (by omega)) fun a hE => ?_
  refine ev_r (v := .int .u8 (b.toNat : Int)) (w' := w) hE (ex_ld (hE.get 255 rfl) ld_u8 (hF.dg.cell hb)) fun a hE => ?_
  refine ev_fx (b := b) hE (by first | rfl | exact (hE.get 256 rfl)) (hE.get 250 rfl) (by decide) (by decide) (by decide) hF (by omega) ?_
  intro a s w hF hE
  refine ev_as hE (hE.get 258 rfl) (by decide) ?_
  intro a hE
  refine wpList_nil ?_
  refine hQ' _ a w ?_ (hE.pick ?_) ⟨s, rfl, ?_⟩
  ·rfl
  ·rfl
  ·rw [take_app hb2, ← List.append_assoc]; exact hF
 rintro l a w hE ⟨s, rfl, hF⟩
 show Code.wp _ _ _ _ _
 refine wp_seq ?_
 refine wp_region_lit ?_
 refine ev_r (w' := w) hE (ex_mv (hE.get 29 rfl)) fun a hE => ?_
 refine ev_r (v := .int .i64 (0 : Nat)) (w' := w) hE (by simp only [execOp]; rfl) fun a hE => ?_
 refine nx1 ?_
 have hZl : (Y ++ (L.drop dp).take q).length ≤ 200 := by rw [List.length_append, List.length_take]; omega
 generalize hZe : Y ++ (L.drop dp).take q = Z at *
 refine range_wp2 (N := 272) (n := P - q) [0, 2, 3, 4, 5] (l0 := ((0, s) :: (2, sv) :: (3, .int .i64 dp) :: (4, .int .i64 nd) :: (5, .int .i64 (P : Int)) :: [])) (fun k l w => ∃ s, l = ((0, s) :: (2, sv) :: (3, .int .i64 dp) :: (4, .int .i64 nd) :: (5, .int .i64 (P : Int)) :: []) ∧ Fx g L B w0 (Z ++ List.replicate k 48) s w) (by omega) (hE.pick rfl) rfl ⟨_, rfl, by rw [List.replicate_zero, List.append_nil]; exact hF⟩ (by decide) (by decide) (by decide) ?_ ?_
 ·rintro k l a w hk hE ⟨s, rfl, hF⟩ Q' hQ'
  refine wp_block ?_
  refine wp_region_lit ?_
  have hXk : (Z ++ List.replicate k (48 : UInt8)).length ≤ 300 := by rw [List.length_append, List.length_replicate]; omega
  refine ev_mv hE (hE.get 0 rfl) (by decide) ?_
  intro a hE
  refine ev_fx (b := 48) hE (by first | rfl | exact rfl) (hE.get 263 rfl) (by decide) (by decide) (by decide) hF (by omega) ?_
  intro a s w hF hE
  refine ev_as hE (hE.get 265 rfl) (by decide) ?_
  intro a hE
  refine wpList_nil ?_
  refine hQ' _ a w ?_ (hE.pick ?_) ⟨s, rfl, ?_⟩
  ·rfl
  ·rfl
  ·rw [List.replicate_succ', ← List.append_assoc]; exact hF
 rintro l a w hE ⟨s, rfl, hF⟩
 show Code.wp _ _ _ _ _
 refine wp_seq ?_
 refine wp_region_lit ?_
 refine ev_r (w' := w) hE (ex_mv (hE.get 0 rfl)) fun a hE => ?_
 refine ev_r (w' := w) hE (ex_as (hE.get 267 rfl)) fun a hE => ?_
 refine nx1 ?_
 refine wp_ret ?_
 refine hR s a w ?_ (hE.pick rfl)
 unfold efgTail
 rw [hq]
 rw [← hZe, ← hXe] at hF
 simpa [List.append_assoc] using hF
theorem efg_end {Q : Exit → Act → World → Prop} (sv : Value) (C : Nat) (pv : Int) (hC : 20 ≤ C ∧ C ≤ 64) (hP : pv ≤ 10) (g : Nat) (L : List UInt8) (B : Nat) (w0 : World) (X : List UInt8) (s : Value) (dp nd : Nat) (hX : X.length ≤ 100) (hdp : dp ≤ 10) (hnd : nd ≤ L.length) (hLl : L.length ≤ 20) (hsv : L ≠ [] → sv = .slice (some ⟨g, 0, none⟩) C C) (a : Act) (w : World) (hE : Ev 272 ((0, s) :: (2, sv) :: (3, .int .i64 dp) :: (4, .int .i64 nd) :: (5, .int .i64 pv) :: []) a) (hF : Fx g L B w0 X s w) (hR : ∀ s a w, Fx g L B w0 (X ++ (if 0 < pv then efgTail pv.toNat L dp nd else [])) s w → Ev 272 ((16, s) :: []) a → Q .ret a w) :
  Code.wp Tryz.prog (cB (cB (cA (cB (cB (cB (cA (cB (cA (cB (cB egBody))))))))))) Q a w := by
 by_cases hp : 0 < pv
 ·obtain ⟨P, rfl⟩ : ∃ P : Nat, pv = (P : Int) := ⟨pv.toNat, by omega⟩
  refine efg_tail sv C P hC (by omega) g L B w0 X s dp nd hX hdp hnd hLl hsv a w hE hF fun s a w hF hE => hR s a w ?_ hE
  rw [if_pos hp, Int.toNat_natCast]
  exact hF
 ·refine wp_seq ?_
  refine wp_seq ?_
  refine wp_region_lit ?_
  refine ev_r (w' := w) hE (ex_mv (hE.get 5 rfl)) fun a hE => ?_
  refine ev_r (v := .bool false) (w' := w) hE (ei_gtr (hE.get 212 rfl) rfl (decide_eq_false (by omega))) fun a hE => ?_
  refine nx1 ?_
  refine wp_cond_split (hE.get 213 rfl) (fun h => by cases h) (fun _ => ?_)
  refine wp_skip ?_
  show Code.wp _ _ _ _ _
  refine wp_seq ?_
  refine wp_region_lit ?_
  refine ev_r (w' := w) hE (ex_mv (hE.get 0 rfl)) fun a hE => ?_
  refine ev_r (w' := w) hE (ex_as (hE.get 267 rfl)) fun a hE => ?_
  refine nx1 ?_
  refine wp_ret ?_
  refine hR s a w ?_ (hE.pick rfl)
  rw [if_neg hp, List.append_nil]
  exact hF
theorem fmtEFG_any (sv : Value) (C : Nat) (pv : Int) (sh : Bool) (hC : 20 ≤ C ∧ C ≤ 64) (hP : pv ≤ 10) (g : Nat) (L : List UInt8) (B : Nat) (w0 : World) (s : Value) (dp nd : Nat) (hdp : dp ≤ 10) (hnd : nd ≤ L.length) (hLl : L.length ≤ 20) (hsv : L ≠ [] → sv = .slice (some ⟨g, 0, none⟩) C C) (hdL : 0 < dp → L ≠ []) (w : World) (hF : Fx g L B w0 [] s w) :
  Calls Tryz.prog 88 #[s, .bool false, sv, .int .i64 dp, .int .i64 nd, .int .i64 pv, .int .u8 102, .bool sh] w fun e w' => ∃ s, e = .returned s ∧ Fx g L B w0 (efg pv L dp nd) s w' := by
 refine calls_of_ev Tryz.func88 rfl (show 8 ≤ 272 from by decide) ?_
 intro a hE
 have hE : Ev 272 ((0, s) :: (1, .bool false) :: (2, sv) :: (3, .int .i64 dp) :: (4, .int .i64 nd) :: (5, .int .i64 pv) :: (6, .int .u8 102) :: (7, .bool sh) :: []) a := hE
 refine wp_seq ?_
 refine wp_region_lit ?_
 refine ev_ac hE (by decide) ?_
 intro a hE
 refine nx1 ?_
 refine wp_seq ?_
 refine wp_seq ?_
 refine wp_region_lit ?_
 refine ev_r (w' := w) hE (ex_mv (hE.get 6 rfl)) fun a hE => ?_
 refine ev_r (v := .bool false) (w' := w) hE (by simp only [execOp, hE.get 31 rfl]; go_simp) fun a hE => ?_
 refine ev_r (w' := w) hE (ex_mv (hE.get 32 rfl)) fun a hE => ?_
 refine ev_gon (w' := w) hE rfl rfl (hE.get 33 rfl) rfl (by decide) (ex_mv (hE.get 6 rfl)) ?_
 intro a hE
 refine ev_gon (v := .bool false) (w' := w) hE rfl rfl (hE.get 33 rfl) rfl (by decide) (by simp only [execOp, hE.get 34 rfl]; go_simp) ?_
 intro a hE
 refine ev_r (v := .bool false) (w' := w) hE (by rw [ex_pick (b := false) (hE.get 33 rfl)]; have e1 := hE.get 35 rfl; simp only [e1]; rfl) fun a hE => ?_
 refine nx1 ?_
 refine wp_cond_split (hE.get 36 rfl) (fun h => by cases h) (fun _ => ?_)
 refine wp_skip ?_
 show Code.wp _ _ _ _ _
 refine wp_seq ?_
 refine wp_seq ?_
 refine wp_region_lit ?_
 refine ev_r (w' := w) hE (ex_mv (hE.get 6 rfl)) fun a hE => ?_
 refine nx1 ?_
 refine wp_block ?_
 refine wp_seq ?_
 refine wp_seq ?_
 refine wp_region_lit ?_
 refine ev_r (v := .bool false) (w' := w) hE (by simp only [execOp, hE.get 74 rfl]; go_simp) fun a hE => ?_
 refine ev_r (w' := w) hE (ex_as (hE.get 76 rfl)) fun a hE => ?_
 refine nx1 ?_
 refine wp_cond_split (hE.get 75 rfl) (fun h => by cases h) (fun _ => ?_)
 refine wp_region_lit ?_
 refine ev_r (v := .bool false) (w' := w) hE (by simp only [execOp, hE.get 74 rfl]; go_simp) fun a hE => ?_
 refine ev_r (w' := w) hE (ex_as (hE.get 77 rfl)) fun a hE => ?_
 refine nx1 ?_
 refine wp_cond_split (hE.get 75 rfl) (fun h => by cases h) (fun _ => ?_)
 refine wp_seq ?_
 refine wp_region_lit ?_
 refine ev_r (v := .bool true) (w' := w) hE (by simp only [execOp, hE.get 74 rfl]; go_simp) fun a hE => ?_
 refine ev_r (w' := w) hE (ex_as (hE.get 177 rfl)) fun a hE => ?_
 refine nx1 ?_
 refine wp_cond_split (hE.get 176 rfl) (fun _ => ?_) (fun h => by cases h)
 refine wp_seq ?_
 refine wp_seq ?_
 refine wp_region_lit ?_
 refine ev_r (w' := w) hE (ex_mv (hE.get 1 rfl)) fun a hE => ?_
 refine nx1 ?_
 refine wp_cond_split (hE.get 178 rfl) (fun h => by cases h) (fun _ => ?_)
 refine wp_skip ?_
 show Code.wp _ _ _ _ _
 refine wp_seq ?_
 refine wp_seq ?_
 refine wp_region_lit ?_
 refine ev_r (w' := w) hE (ex_mv (hE.get 3 rfl)) fun a hE => ?_
 refine ev_r (v := .bool (decide (0 < dp))) (w' := w) hE (ei_gtr (hE.get 182 rfl) rfl (by rw [decide_eq_decide]; omega)) fun a hE => ?_
 refine nx1 ?_
 refine wp_cond_split (hE.get 183 rfl) (fun hb => ?_) (fun hb => ?_)
 ·have hp := of_decide_eq_true hb
  obtain rfl := hsv (hdL (by omega))
  have hE : Ev 272 ((0, s) :: (2, .slice (some ⟨g, 0, none⟩) C C) :: (3, .int .i64 dp) :: (4, .int .i64 nd) :: (5, .int .i64 pv) :: []) a := hE.pick rfl
  refine wp_seq ?_
  refine wp_region_lit ?_
  refine ev_r (w' := w) hE (ex_mv (hE.get 4 rfl)) fun a hE => ?_
  refine ev_r (w' := w) hE (ex_mv (hE.get 3 rfl)) fun a hE => ?_
  refine ev_r (v := .int .i64 ((min nd dp : Nat) : Int)) (w' := w) hE (fx_min (hE.get 184 rfl) (hE.get 185 rfl) (by omega)) fun a hE => ?_
  refine ev_r (w' := w) hE (ex_as (hE.get 186 rfl)) fun a hE => ?_
  refine nx1 ?_
  generalize hm : min nd dp = m at *
  have hmb : m ≤ 10 := by omega
  refine wp_seq ?_
  refine wp_seq ?_
  refine wp_region_lit ?_
  refine ev_r (w' := w) hE (ex_mv (hE.get 2 rfl)) fun a hE => ?_
  refine ev_r (w' := w) hE (ex_mv (hE.get 23 rfl)) fun a hE => ?_
  refine ev_run (v := .slice (some ⟨g, 0, none⟩) m C) (w' := w) hE rfl rfl (by decide) ?_ ?_
  ·have hs := sl_hi g m C (by omega) hC w
   simp only [execOp, hE.get 187 rfl, Option.map, hE.get 188 rfl]
   exact run_andValue hs
  intro a hE
  refine ev_r hE (ex_len Tryz.underlying24 (hE.get 189 rfl)) fun a hE => ?_
  refine ev_r (v := .int .i64 (0 : Nat)) (w' := w) hE (by simp only [execOp]; rfl) fun a hE => ?_
  refine nx1 ?_
  refine range_wp2 (N := 272) (n := m) [0, 2, 3, 4, 5, 23, 189] (l0 := ((0, s) :: (2, .slice (some ⟨g, 0, none⟩) C C) :: (3, .int .i64 dp) :: (4, .int .i64 nd) :: (5, .int .i64 pv) :: (23, .int .i64 m) :: (189, .slice (some ⟨g, 0, none⟩) m C) :: [])) (fun k l w => ∃ s, l = ((0, s) :: (2, .slice (some ⟨g, 0, none⟩) C C) :: (3, .int .i64 dp) :: (4, .int .i64 nd) :: (5, .int .i64 pv) :: (23, .int .i64 m) :: (189, .slice (some ⟨g, 0, none⟩) m C) :: []) ∧ Fx g L B w0 (L.take k) s w) (by omega) (hE.pick rfl) rfl ⟨_, rfl, by rw [List.take_zero]; exact hF⟩ (by decide) (by decide) (by decide) ?_ ?_
  ·rintro k l a w hk hE ⟨s, rfl, hF⟩ Q' hQ'
   obtain ⟨b, hb⟩ : ∃ b, L[k]? = some b := ⟨_, List.getElem?_eq_getElem (by omega)⟩
   have hYk : (L.take k).length ≤ 300 := by rw [List.length_take]; omega
   refine wp_block ?_
   refine wp_seq ?_
   refine wp_region_lit ?_
   refine ev_r (v := pt g k) (w' := w) hE (ix_u8 (hE.get 189 rfl) (hE.get 191 rfl) (by omega)) fun a hE => ?_
   refine ev_r (v := .int .u8 (b.toNat : Int)) (w' := w) hE (ex_ld (hE.get 193 rfl) ld_u8 (hF.dg.cell hb)) fun a hE => ?_
   refine ev_r (w' := w) hE (ex_as (hE.get 194 rfl)) fun a hE => ?_
   refine nx1 ?_
   refine wp_region_lit ?_
   refine ev_mv hE (hE.get 0 rfl) (by decide) ?_
   intro a hE
   refine ev_mv hE (hE.get 25 rfl) (by decide) ?_
   intro a hE
   refine ev_fx (b := b) hE (by first | rfl | exact (hE.get 196 rfl)) (hE.get 195 rfl) (by decide) (by decide) (by decide) hF (by omega) ?_
   intro a s w hF hE
   refine ev_as hE (hE.get 198 rfl) (by decide) ?_
   intro a hE
   refine wpList_nil ?_
   refine hQ' _ a w ?_ (hE.pick ?_) ⟨s, rfl, ?_⟩
   ·rfl
   ·rfl
   ·rw [take_app hb]; exact hF
  rintro l a w hE ⟨s, rfl, hF⟩
  show Code.wp _ _ _ _ _
  refine wp_seq ?_
  refine wp_region_lit ?_
  refine ev_r (w' := w) hE (ex_mv (hE.get 3 rfl)) fun a hE => ?_
  refine ev_r (w' := w) hE (ex_mv (hE.get 23 rfl)) fun a hE => ?_
  refine ev_r (v := .int .i64 ((dp - m : Nat) : Int)) (w' := w) hE (ei_sub (hE.get 200 rfl) (hE.get 201 rfl) (by rw [IntKind.wrap_i64]; omega)) fun a hE => ?_
  refine ev_r (v := .int .i64 (0 : Nat)) (w' := w) hE (by simp only [execOp]; rfl) fun a hE => ?_
  refine nx1 ?_
  have hXl : (L.take m).length ≤ 20 := by rw [List.length_take]; omega
  generalize hXe : L.take m = X at *
  refine range_wp2 (N := 272) (n := dp - m) [0, 2, 3, 4, 5] (l0 := ((0, s) :: (2, .slice (some ⟨g, 0, none⟩) C C) :: (3, .int .i64 dp) :: (4, .int .i64 nd) :: (5, .int .i64 pv) :: [])) (fun k l w => ∃ s, l = ((0, s) :: (2, .slice (some ⟨g, 0, none⟩) C C) :: (3, .int .i64 dp) :: (4, .int .i64 nd) :: (5, .int .i64 pv) :: []) ∧ Fx g L B w0 (X ++ List.replicate k 48) s w) (by omega) (hE.pick rfl) rfl ⟨_, rfl, by rw [List.replicate_zero, List.append_nil]; exact hF⟩ (by decide) (by decide) (by decide) ?_ ?_
  ·rintro k l a w hk hE ⟨s, rfl, hF⟩ Q' hQ'
   refine wp_block ?_
   refine wp_region_lit ?_
   have hXk : (X ++ List.replicate k (48 : UInt8)).length ≤ 300 := by rw [List.length_append, List.length_replicate]; omega
   refine ev_mv hE (hE.get 0 rfl) (by decide) ?_
   intro a hE
   refine ev_fx (b := 48) hE (by first | rfl | exact rfl) (hE.get 205 rfl) (by decide) (by decide) (by decide) hF (by omega) ?_
   intro a s w hF hE
   refine ev_as hE (hE.get 207 rfl) (by decide) ?_
   intro a hE
   refine wpList_nil ?_
   refine hQ' _ a w ?_ (hE.pick ?_) ⟨s, rfl, ?_⟩
   ·rfl
   ·rfl
   ·rw [List.replicate_succ', ← List.append_assoc]; exact hF
  rintro l a w hE ⟨s, rfl, hF⟩
  show Code.wp _ _ _ _ _
  refine efg_end _ C pv hC hP g L B w0 _ s dp nd (by rw [List.length_append, List.length_replicate]; omega) hdp hnd hLl hsv a w (hE.pick rfl) hF (fun s a w hF hE => ?_)
  simp only [Exit.inBlock, Exit.then]
  refine ret_of_ev hE rfl (hE.get 16 rfl) ⟨s, rfl, ?_⟩
  unfold efg
  rw [if_pos hp, hm, hXe]
  exact hF
 ·have hp := of_decide_eq_false hb
  refine wp_region_lit ?_
  refine ev_mv hE (hE.get 0 rfl) (by decide) ?_
  intro a hE
  refine ev_fx (b := 48) hE (by first | rfl | exact rfl) (hE.get 209 rfl) (by decide) (by decide) (by decide) hF (by decide) ?_
  intro a s w hF hE
  refine ev_as hE (hE.get 211 rfl) (by decide) ?_
  intro a hE
  refine nx1 ?_
  refine efg_end _ C pv hC hP g L B w0 _ s dp nd (by decide) hdp hnd hLl hsv a w (hE.pick rfl) hF (fun s a w hF hE => ?_)
  simp only [Exit.inBlock, Exit.then]
  refine ret_of_ev hE rfl (hE.get 16 rfl) ⟨s, rfl, ?_⟩
  unfold efg
  rw [if_neg hp]
  exact hF
end Go.Proofs.YtfonjeoiallhhaaGreatDoor.Q
/- strconv.FormatFloat of 0. Printed by wip/tools/gen_ffv.py. -/
set_option maxRecDepth 100000
set_option maxHeartbeats 4000000
namespace Go.Proofs.YtfonjeoiallhhaaGreatDoor
open Go.Shelf Go.RowKit Go.Sort Go.Lib
theorem ftoa32_zero (B : Nat) (s0 : Value) (w : World) (hB : B ≤ w.heap.size) (hs0 : Own ul 5 1 w B s0 []) :
  Calls Tryz.prog 73 #[s0, .float .f32 0, .int .u8 102, .int .i64 3] w fun e w' => ∃ (s : Value), e = .returned s ∧ Own ul 5 1 w' B s (Q.efg 3 [] 0 0) ∧ Below B w w' := by
 refine calls_of_ev Tryz.func73 rfl (show 4 ≤ 298 from by decide) ?_
 intro a hE
 have hE : Ev 298 ((0, s0) :: (1, .float .f32 0) :: (2, .int .u8 102) :: (3, .int .i64 3) :: []) a := hE
 refine wp_seq ?_
 refine wp_region_lit ?_
 refine ev_ac hE (by decide) ?_
 intro a hE
 refine wpList_nil ?_
 show Code.wp _ _ _ _ _
 refine wp_seq ?_
 refine wp_region_lit ?_
 refine ev_ac hE (by decide) ?_
 intro a hE
 refine wpList_nil ?_
 show Code.wp _ _ _ _ _
 refine wp_seq ?_
 refine wp_region_lit ?_
 refine ev_ac hE (by decide) ?_
 intro a hE
 refine ev_ac hE (by decide) ?_
 intro a hE
 refine ev_ac hE (by decide) ?_
 intro a hE
 refine wpList_nil ?_
 show Code.wp _ _ _ _ _
 refine wp_seq ?_
 refine wp_block ?_
 refine wp_seq ?_
 refine wp_region_lit ?_
 refine ev_r (v := .bool true) (w' := w) hE (by simp only [execOp, ]; go_simp) fun a hE => ?_
 refine ev_r (w' := w) hE (ex_as (hE.get 35 rfl)) fun a hE => ?_
 refine wpList_nil ?_
 show Code.wp _ _ _ _ _
 refine wp_cond_split (hE.get 34 rfl) (fun _ => ?_) (fun h => by cases h)
 refine wp_seq ?_
 refine wp_region_lit ?_
 refine ev_r (w' := w) hE (ex_mv (hE.get 1 rfl)) fun a hE => ?_
 refine ev_run (v := .int .u32 0) (w' := w) hE rfl rfl (by decide) ?_ ?_
 ·simp only [execOp, resolve, List.map_toArray, List.map_cons, List.map_nil, hE.get 36 rfl]
  first | exact run_f32bits 0 w | (have h := run_f32bits 0 w; go_simp; exact h)
 intro a hE
 refine ev_run (v := .int .u64 0) (w' := w) hE rfl rfl (by decide) ?_ ?_
 ·simp only [execOp, hE.get 37 rfl]
  go_simp
  try rfl
 intro a hE
 refine ev_r (w' := w) hE (ex_as (hE.get 38 rfl)) fun a hE => ?_
 refine wpList_nil ?_
 show Code.wp _ _ _ _ _
 refine wp_seq ?_
 refine wp_region_lit ?_
 refine ev_ac hE (by decide) ?_
 intro a hE
 refine wpList_nil ?_
 show Code.wp _ _ _ _ _
 refine wp_seq ?_
 refine wp_region_lit ?_
 refine ev_ac hE (by decide) ?_
 intro a hE
 refine wpList_nil ?_
 show Code.wp _ _ _ _ _
 refine wp_region_lit ?_
 refine ev_ac hE (by decide) ?_
 intro a hE
 refine wpList_nil ?_
 show Code.wp _ _ _ _ _
 have hE : Ev 298 ((0, s0) :: (2, .int .u8 102) :: (3, .int .i64 3) :: (9, .int .u64 0) :: (10, .int .i64 8) :: (11, .int .i64 23) :: (12, .int .i64 (-127)) :: []) a := hE.pick rfl
 refine wp_seq ?_
 refine wp_region_lit ?_
 refine ev_r (w' := w) hE (ex_mv (hE.get 9 rfl)) fun a hE => ?_
 refine ev_r (w' := w) hE (ex_mv (hE.get 10 rfl)) fun a hE => ?_
 refine ev_r (w' := w) hE (ex_mv (hE.get 11 rfl)) fun a hE => ?_
 refine ev_r (v := .int .i64 31) (w' := w) hE (ei_add (hE.get 45 rfl) (hE.get 46 rfl) (by decide)) fun a hE => ?_
 refine ev_r (v := .int .u64 0) (w' := w) hE (ei_shr (hE.get 44 rfl) (hE.get 47 rfl) (by omega) (by simp only [IntKind.bits]; omega) (by decide)) fun a hE => ?_
 refine ev_r (v := .bool false) (w' := w) hE (by simp only [execOp, hE.get 48 rfl]; go_simp) fun a hE => ?_
 refine ev_r (w' := w) hE (ex_as (hE.get 49 rfl)) fun a hE => ?_
 refine wpList_nil ?_
 show Code.wp _ _ _ _ _
 refine wp_seq ?_
 refine wp_region_quiet_lit (by kernel_rfl) (by kernel_rfl) ?_
 refine qv_run hE rfl rfl (by decide) (fun w hC => (ex_mv (hE.get 9 rfl))) ?_
 intro a hE
 refine qv_run hE rfl rfl (by decide) (fun w hC => (ex_mv (hE.get 11 rfl))) ?_
 intro a hE
 refine qv_run (v := .int .u64 0) hE rfl rfl (by decide) (fun w hC => (ei_shr (hE.get 50 rfl) (hE.get 51 rfl) (by omega) (by simp only [IntKind.bits]; omega) (by decide))) ?_
 intro a hE
 refine qv_run (v := .int .i64 0) hE rfl rfl (by decide) (fun w hC => ?_) ?_
 ·simp only [execOp, hE.get 52 rfl]
  go_simp
  try rfl
 intro a hE
 refine qv_run hE rfl rfl (by decide) (fun w hC => (ex_mv (hE.get 10 rfl))) ?_
 intro a hE
 refine qv_run (v := .int .i64 256) hE rfl rfl (by decide) (fun w hC => (ei_shl rfl (hE.get 54 rfl) (by omega) (by simp only [IntKind.bits]; omega) (by decide))) ?_
 intro a hE
 refine qv_run (v := .int .i64 255) hE rfl rfl (by decide) (fun w hC => (ei_sub (hE.get 55 rfl) rfl (by decide))) ?_
 intro a hE
 refine qv_run (v := .int .i64 0) hE rfl rfl (by decide) (fun w hC => (ei_and (hE.get 53 rfl) (hE.get 56 rfl) (by decide))) ?_
 intro a hE
 refine qv_run hE rfl rfl (by decide) (fun w hC => (ex_as (hE.get 57 rfl))) ?_
 intro a hE
 refine wpQuiet_nil ?_
 rintro w1 ⟨n1, rfl⟩
 have hb1x : Below w.heap.size w (w.drewN n1) := drewN_below w n1 _
 have hs1 : Own ul 5 1 (w.drewN n1) B s0 [] := hs0.below hb1x
 generalize hw1 : w.drewN n1 = w1 at *
 have hsz1 : w1.heap.size = w.heap.size := by rw [← hw1]; rfl
 clear hw1
 show Code.wp _ _ _ _ _
 refine wp_seq ?_
 refine wp_region_lit ?_
 refine ev_r (w' := w1) hE (ex_mv (hE.get 9 rfl)) fun a hE => ?_
 refine ev_r (w' := w1) hE (ex_mv (hE.get 11 rfl)) fun a hE => ?_
 refine ev_r (v := .int .u64 8388608) (w' := w1) hE (ei_shl rfl (hE.get 59 rfl) (by omega) (by simp only [IntKind.bits]; omega) (by decide)) fun a hE => ?_
 refine ev_r (v := .int .u64 8388607) (w' := w1) hE (ei_sub (hE.get 60 rfl) rfl (by decide)) fun a hE => ?_
 refine ev_r (v := .int .u64 0) (w' := w1) hE (ei_and (hE.get 58 rfl) (hE.get 61 rfl) (by decide)) fun a hE => ?_
 refine ev_r (w' := w1) hE (ex_as (hE.get 62 rfl)) fun a hE => ?_
 refine wpList_nil ?_
 show Code.wp _ _ _ _ _
 refine wp_seq ?_
 refine wp_seq ?_
 refine wp_region_lit ?_
 refine ev_r (w' := w1) hE (ex_mv (hE.get 14 rfl)) fun a hE => ?_
 refine ev_r (w' := w1) hE (ex_mv (hE.get 10 rfl)) fun a hE => ?_
 refine ev_r (v := .int .i64 256) (w' := w1) hE (ei_shl rfl (hE.get 64 rfl) (by omega) (by simp only [IntKind.bits]; omega) (by decide)) fun a hE => ?_
 refine ev_r (v := .int .i64 255) (w' := w1) hE (ei_sub (hE.get 65 rfl) rfl (by decide)) fun a hE => ?_
 refine ev_r (v := .bool false) (w' := w1) hE (by simp only [execOp, hE.get 63 rfl, hE.get 66 rfl]; go_simp) fun a hE => ?_
 refine wpList_nil ?_
 show Code.wp _ _ _ _ _
 refine wp_cond_split (hE.get 67 rfl) (fun h => by cases h) (fun _ => ?_)
 refine wp_skip ?_
 show Code.wp _ _ _ _ _
 refine wp_seq ?_
 refine wp_seq ?_
 refine wp_region_lit ?_
 refine ev_r (w' := w1) hE (ex_mv (hE.get 14 rfl)) fun a hE => ?_
 refine ev_r (v := .bool true) (w' := w1) hE (by simp only [execOp, hE.get 77 rfl]; go_simp) fun a hE => ?_
 refine wpList_nil ?_
 show Code.wp _ _ _ _ _
 refine wp_cond_split (hE.get 78 rfl) (fun _ => ?_) (fun h => by cases h)
 refine wp_region_lit ?_
 refine ev_r (w' := w1) hE (ex_mv (hE.get 14 rfl)) fun a hE => ?_
 refine ev_r (v := .int .i64 1) (w' := w1) hE (ei_add (hE.get 79 rfl) rfl (by decide)) fun a hE => ?_
 refine ev_r (w' := w1) hE (ex_as (hE.get 80 rfl)) fun a hE => ?_
 refine wpList_nil ?_
 show Code.wp _ _ _ _ _
 refine wp_seq ?_
 refine wp_region_lit ?_
 refine ev_r (w' := w1) hE (ex_mv (hE.get 14 rfl)) fun a hE => ?_
 refine ev_r (w' := w1) hE (ex_mv (hE.get 12 rfl)) fun a hE => ?_
 refine ev_r (v := .int .i64 (-126)) (w' := w1) hE (ei_add (hE.get 85 rfl) (hE.get 86 rfl) (by decide)) fun a hE => ?_
 refine ev_r (w' := w1) hE (ex_as (hE.get 87 rfl)) fun a hE => ?_
 refine wpList_nil ?_
 show Code.wp _ _ _ _ _
 refine wp_seq ?_
 refine wp_seq ?_
 refine wp_region_lit ?_
 refine ev_r (w' := w1) hE (ex_mv (hE.get 2 rfl)) fun a hE => ?_
 refine ev_r (v := .bool false) (w' := w1) hE (by simp only [execOp, hE.get 88 rfl]; go_simp) fun a hE => ?_
 refine wpList_nil ?_
 show Code.wp _ _ _ _ _
 refine wp_cond_split (hE.get 89 rfl) (fun h => by cases h) (fun _ => ?_)
 refine wp_skip ?_
 show Code.wp _ _ _ _ _
 refine wp_seq ?_
 refine wp_seq ?_
 refine wp_region_lit ?_
 refine ev_r (w' := w1) hE (ex_mv (hE.get 2 rfl)) fun a hE => ?_
 refine ev_r (v := .bool false) (w' := w1) hE (by simp only [execOp, hE.get 97 rfl]; go_simp) fun a hE => ?_
 refine ev_r (w' := w1) hE (ex_mv (hE.get 98 rfl)) fun a hE => ?_
 refine ev_gon (w' := w1) hE rfl rfl (hE.get 99 rfl) rfl (by decide) (ex_mv (hE.get 2 rfl)) ?_
 intro a hE
 refine ev_gon (v := .bool false) (w' := w1) hE rfl rfl (hE.get 99 rfl) rfl (by decide) (by simp only [execOp, hE.get 100 rfl]; go_simp) ?_
 intro a hE
 refine ev_r (v := .bool false) (w' := w1) hE (by rw [ex_pick (b := false) (hE.get 99 rfl)]; have e1 := hE.get 101 rfl; simp only [e1]; rfl) fun a hE => ?_
 refine wpList_nil ?_
 show Code.wp _ _ _ _ _
 refine wp_cond_split (hE.get 102 rfl) (fun h => by cases h) (fun _ => ?_)
 refine wp_skip ?_
 show Code.wp _ _ _ _ _
 refine wp_seq ?_
 refine wp_seq ?_
 refine wp_region_lit ?_
 refine ev_r (w' := w1) hE (ex_mv (hE.get 15 rfl)) fun a hE => ?_
 refine ev_r (v := .bool true) (w' := w1) hE (by simp only [execOp, hE.get 111 rfl]; go_simp) fun a hE => ?_
 refine wpList_nil ?_
 show Code.wp _ _ _ _ _
 refine wp_cond_split (hE.get 112 rfl) (fun _ => ?_) (fun h => by cases h)
 refine wp_seq ?_
 refine wp_region_lit ?_
 refine ev_r (w' := w1) hE (ex_mv (hE.get 0 rfl)) fun a hE => ?_
 refine ev_r (w' := w1) hE (ex_mv (hE.get 13 rfl)) fun a hE => ?_
 refine ev_r (w' := w1) hE (ex_mv (hE.get 3 rfl)) fun a hE => ?_
 refine ev_r (w' := w1) hE (ex_mv (hE.get 2 rfl)) fun a hE => ?_
 refine ev_r (w' := w1) hE (ex_mv (hE.get 3 rfl)) fun a hE => ?_
 refine ev_r (v := .bool false) (w' := w1) hE (ei_lss (hE.get 117 rfl) rfl (by decide)) fun a hE => ?_
 refine ev_call (S := fun u w' => Q.Fx 0 [] B w1 (Q.efg 3 [] 0 0) u w') hE rfl rfl (by decide) (f := 88) (args := #[s0, .bool false, .slice none 0 0, .int .i64 0, .int .i64 0, .int .i64 3, .int .u8 102, .bool false]) (by simp only [execOp, resolve, List.map_toArray, List.map_cons, List.map_nil, hE.get 113 rfl, hE.get 114 rfl, hE.get 115 rfl, hE.get 116 rfl, hE.get 118 rfl]; go_simp) (Q.fmtEFG_any (.slice none 0 0) 24 3 false (by decide) (by decide) 0 [] B w1 s0 0 0 (by decide) (by decide) (by decide) (fun h => absurd rfl h) (fun h => absurd h (by decide)) w1 ⟨hs1, (fun h => absurd rfl h), Below.refl _ _, by omega⟩) ?_
 intro a s w5 hF5 hE
 refine ev_as hE (hE.get 119 rfl) (by decide) ?_
 intro a hE
 refine wpList_nil ?_
 show Code.wp _ _ _ _ _
 refine wp_ret ?_
 try simp only [Exit.inBlock, Exit.then]
 exact ret_of_ev hE rfl (hE.get 8 rfl) ⟨s, rfl, hF5.own, (hb1x.mono hB).trans hF5.below⟩
theorem ftoa64_zero (B : Nat) (s0 : Value) (w : World) (hB : B ≤ w.heap.size) (hs0 : Own ul 5 1 w B s0 []) :
  Calls Tryz.prog 74 #[s0, .float .f64 0, .int .u8 102, .int .i64 (-1)] w fun e w' => ∃ (s : Value), e = .returned s ∧ Own ul 5 1 w' B s (Q.efg (-1) [] 0 0) ∧ Below B w w' := by
 refine calls_of_ev Tryz.func74 rfl (show 4 ≤ 298 from by decide) ?_
 intro a hE
 have hE : Ev 298 ((0, s0) :: (1, .float .f64 0) :: (2, .int .u8 102) :: (3, .int .i64 (-1)) :: []) a := hE
 refine wp_seq ?_
 refine wp_region_lit ?_
 refine ev_ac hE (by decide) ?_
 intro a hE
 refine wpList_nil ?_
 show Code.wp _ _ _ _ _
 refine wp_seq ?_
 refine wp_region_lit ?_
 refine ev_ac hE (by decide) ?_
 intro a hE
 refine wpList_nil ?_
 show Code.wp _ _ _ _ _
 refine wp_seq ?_
 refine wp_region_lit ?_
 refine ev_ac hE (by decide) ?_
 intro a hE
 refine ev_ac hE (by decide) ?_
 intro a hE
 refine ev_ac hE (by decide) ?_
 intro a hE
 refine wpList_nil ?_
 show Code.wp _ _ _ _ _
 refine wp_seq ?_
 refine wp_block ?_
 refine wp_seq ?_
 refine wp_region_lit ?_
 refine ev_r (v := .bool false) (w' := w) hE (by simp only [execOp, ]; go_simp) fun a hE => ?_
 refine ev_r (w' := w) hE (ex_as (hE.get 35 rfl)) fun a hE => ?_
 refine wpList_nil ?_
 show Code.wp _ _ _ _ _
 refine wp_cond_split (hE.get 34 rfl) (fun h => by cases h) (fun _ => ?_)
 refine wp_seq ?_
 refine wp_region_lit ?_
 refine ev_r (v := .bool true) (w' := w) hE (by simp only [execOp, ]; go_simp) fun a hE => ?_
 refine ev_r (w' := w) hE (ex_as (hE.get 41 rfl)) fun a hE => ?_
 refine wpList_nil ?_
 show Code.wp _ _ _ _ _
 refine wp_cond_split (hE.get 40 rfl) (fun _ => ?_) (fun h => by cases h)
 refine wp_seq ?_
 refine wp_region_lit ?_
 refine ev_r (w' := w) hE (ex_mv (hE.get 1 rfl)) fun a hE => ?_
 refine ev_run (v := .int .u64 0) (w' := w) hE rfl rfl (by decide) ?_ ?_
 ·simp only [execOp, resolve, List.map_toArray, List.map_cons, List.map_nil, hE.get 42 rfl]
  first | exact run_f64bits 0 w | (have h := run_f64bits 0 w; go_simp; exact h)
 intro a hE
 refine ev_r (w' := w) hE (ex_as (hE.get 43 rfl)) fun a hE => ?_
 refine wpList_nil ?_
 show Code.wp _ _ _ _ _
 refine wp_seq ?_
 refine wp_region_lit ?_
 refine ev_ac hE (by decide) ?_
 intro a hE
 refine wpList_nil ?_
 show Code.wp _ _ _ _ _
 refine wp_seq ?_
 refine wp_region_lit ?_
 refine ev_ac hE (by decide) ?_
 intro a hE
 refine wpList_nil ?_
 show Code.wp _ _ _ _ _
 refine wp_region_lit ?_
 refine ev_ac hE (by decide) ?_
 intro a hE
 refine wpList_nil ?_
 show Code.wp _ _ _ _ _
 have hE : Ev 298 ((0, s0) :: (2, .int .u8 102) :: (3, .int .i64 (-1)) :: (9, .int .u64 0) :: (10, .int .i64 11) :: (11, .int .i64 52) :: (12, .int .i64 (-1023)) :: []) a := hE.pick rfl
 refine wp_seq ?_
 refine wp_region_lit ?_
 refine ev_r (w' := w) hE (ex_mv (hE.get 9 rfl)) fun a hE => ?_
 refine ev_r (w' := w) hE (ex_mv (hE.get 10 rfl)) fun a hE => ?_
 refine ev_r (w' := w) hE (ex_mv (hE.get 11 rfl)) fun a hE => ?_
 refine ev_r (v := .int .i64 63) (w' := w) hE (ei_add (hE.get 45 rfl) (hE.get 46 rfl) (by decide)) fun a hE => ?_
 refine ev_r (v := .int .u64 0) (w' := w) hE (ei_shr (hE.get 44 rfl) (hE.get 47 rfl) (by omega) (by simp only [IntKind.bits]; omega) (by decide)) fun a hE => ?_
 refine ev_r (v := .bool false) (w' := w) hE (by simp only [execOp, hE.get 48 rfl]; go_simp) fun a hE => ?_
 refine ev_r (w' := w) hE (ex_as (hE.get 49 rfl)) fun a hE => ?_
 refine wpList_nil ?_
 show Code.wp _ _ _ _ _
 refine wp_seq ?_
 refine wp_region_quiet_lit (by kernel_rfl) (by kernel_rfl) ?_
 refine qv_run hE rfl rfl (by decide) (fun w hC => (ex_mv (hE.get 9 rfl))) ?_
 intro a hE
 refine qv_run hE rfl rfl (by decide) (fun w hC => (ex_mv (hE.get 11 rfl))) ?_
 intro a hE
 refine qv_run (v := .int .u64 0) hE rfl rfl (by decide) (fun w hC => (ei_shr (hE.get 50 rfl) (hE.get 51 rfl) (by omega) (by simp only [IntKind.bits]; omega) (by decide))) ?_
 intro a hE
 refine qv_run (v := .int .i64 0) hE rfl rfl (by decide) (fun w hC => ?_) ?_
 ·simp only [execOp, hE.get 52 rfl]
  go_simp
  try rfl
 intro a hE
 refine qv_run hE rfl rfl (by decide) (fun w hC => (ex_mv (hE.get 10 rfl))) ?_
 intro a hE
 refine qv_run (v := .int .i64 2048) hE rfl rfl (by decide) (fun w hC => (ei_shl rfl (hE.get 54 rfl) (by omega) (by simp only [IntKind.bits]; omega) (by decide))) ?_
 intro a hE
 refine qv_run (v := .int .i64 2047) hE rfl rfl (by decide) (fun w hC => (ei_sub (hE.get 55 rfl) rfl (by decide))) ?_
 intro a hE
 refine qv_run (v := .int .i64 0) hE rfl rfl (by decide) (fun w hC => (ei_and (hE.get 53 rfl) (hE.get 56 rfl) (by decide))) ?_
 intro a hE
 refine qv_run hE rfl rfl (by decide) (fun w hC => (ex_as (hE.get 57 rfl))) ?_
 intro a hE
 refine wpQuiet_nil ?_
 rintro w1 ⟨n1, rfl⟩
 have hb1x : Below w.heap.size w (w.drewN n1) := drewN_below w n1 _
 have hs1 : Own ul 5 1 (w.drewN n1) B s0 [] := hs0.below hb1x
 generalize hw1 : w.drewN n1 = w1 at *
 have hsz1 : w1.heap.size = w.heap.size := by rw [← hw1]; rfl
 clear hw1
 show Code.wp _ _ _ _ _
 refine wp_seq ?_
 refine wp_region_lit ?_
 refine ev_r (w' := w1) hE (ex_mv (hE.get 9 rfl)) fun a hE => ?_
 refine ev_r (w' := w1) hE (ex_mv (hE.get 11 rfl)) fun a hE => ?_
 refine ev_r (v := .int .u64 4503599627370496) (w' := w1) hE (ei_shl rfl (hE.get 59 rfl) (by omega) (by simp only [IntKind.bits]; omega) (by decide)) fun a hE => ?_
 refine ev_r (v := .int .u64 4503599627370495) (w' := w1) hE (ei_sub (hE.get 60 rfl) rfl (by decide)) fun a hE => ?_
 refine ev_r (v := .int .u64 0) (w' := w1) hE (ei_and (hE.get 58 rfl) (hE.get 61 rfl) (by decide)) fun a hE => ?_
 refine ev_r (w' := w1) hE (ex_as (hE.get 62 rfl)) fun a hE => ?_
 refine wpList_nil ?_
 show Code.wp _ _ _ _ _
 refine wp_seq ?_
 refine wp_seq ?_
 refine wp_region_lit ?_
 refine ev_r (w' := w1) hE (ex_mv (hE.get 14 rfl)) fun a hE => ?_
 refine ev_r (w' := w1) hE (ex_mv (hE.get 10 rfl)) fun a hE => ?_
 refine ev_r (v := .int .i64 2048) (w' := w1) hE (ei_shl rfl (hE.get 64 rfl) (by omega) (by simp only [IntKind.bits]; omega) (by decide)) fun a hE => ?_
 refine ev_r (v := .int .i64 2047) (w' := w1) hE (ei_sub (hE.get 65 rfl) rfl (by decide)) fun a hE => ?_
 refine ev_r (v := .bool false) (w' := w1) hE (by simp only [execOp, hE.get 63 rfl, hE.get 66 rfl]; go_simp) fun a hE => ?_
 refine wpList_nil ?_
 show Code.wp _ _ _ _ _
 refine wp_cond_split (hE.get 67 rfl) (fun h => by cases h) (fun _ => ?_)
 refine wp_skip ?_
 show Code.wp _ _ _ _ _
 refine wp_seq ?_
 refine wp_seq ?_
 refine wp_region_lit ?_
 refine ev_r (w' := w1) hE (ex_mv (hE.get 14 rfl)) fun a hE => ?_
 refine ev_r (v := .bool true) (w' := w1) hE (by simp only [execOp, hE.get 77 rfl]; go_simp) fun a hE => ?_
 refine wpList_nil ?_
 show Code.wp _ _ _ _ _
 refine wp_cond_split (hE.get 78 rfl) (fun _ => ?_) (fun h => by cases h)
 refine wp_region_lit ?_
 refine ev_r (w' := w1) hE (ex_mv (hE.get 14 rfl)) fun a hE => ?_
 refine ev_r (v := .int .i64 1) (w' := w1) hE (ei_add (hE.get 79 rfl) rfl (by decide)) fun a hE => ?_
 refine ev_r (w' := w1) hE (ex_as (hE.get 80 rfl)) fun a hE => ?_
 refine wpList_nil ?_
 show Code.wp _ _ _ _ _
 refine wp_seq ?_
 refine wp_region_lit ?_
 refine ev_r (w' := w1) hE (ex_mv (hE.get 14 rfl)) fun a hE => ?_
 refine ev_r (w' := w1) hE (ex_mv (hE.get 12 rfl)) fun a hE => ?_
 refine ev_r (v := .int .i64 (-1022)) (w' := w1) hE (ei_add (hE.get 85 rfl) (hE.get 86 rfl) (by decide)) fun a hE => ?_
 refine ev_r (w' := w1) hE (ex_as (hE.get 87 rfl)) fun a hE => ?_
 refine wpList_nil ?_
 show Code.wp _ _ _ _ _
 refine wp_seq ?_
 refine wp_seq ?_
 refine wp_region_lit ?_
 refine ev_r (w' := w1) hE (ex_mv (hE.get 2 rfl)) fun a hE => ?_
 refine ev_r (v := .bool false) (w' := w1) hE (by simp only [execOp, hE.get 88 rfl]; go_simp) fun a hE => ?_
 refine wpList_nil ?_
 show Code.wp _ _ _ _ _
 refine wp_cond_split (hE.get 89 rfl) (fun h => by cases h) (fun _ => ?_)
 refine wp_skip ?_
 show Code.wp _ _ _ _ _
 refine wp_seq ?_
 refine wp_seq ?_
 refine wp_region_lit ?_
 refine ev_r (w' := w1) hE (ex_mv (hE.get 2 rfl)) fun a hE => ?_
 refine ev_r (v := .bool false) (w' := w1) hE (by simp only [execOp, hE.get 97 rfl]; go_simp) fun a hE => ?_
 refine ev_r (w' := w1) hE (ex_mv (hE.get 98 rfl)) fun a hE => ?_
 refine ev_gon (w' := w1) hE rfl rfl (hE.get 99 rfl) rfl (by decide) (ex_mv (hE.get 2 rfl)) ?_
 intro a hE
 refine ev_gon (v := .bool false) (w' := w1) hE rfl rfl (hE.get 99 rfl) rfl (by decide) (by simp only [execOp, hE.get 100 rfl]; go_simp) ?_
 intro a hE
 refine ev_r (v := .bool false) (w' := w1) hE (by rw [ex_pick (b := false) (hE.get 99 rfl)]; have e1 := hE.get 101 rfl; simp only [e1]; rfl) fun a hE => ?_
 refine wpList_nil ?_
 show Code.wp _ _ _ _ _
 refine wp_cond_split (hE.get 102 rfl) (fun h => by cases h) (fun _ => ?_)
 refine wp_skip ?_
 show Code.wp _ _ _ _ _
 refine wp_seq ?_
 refine wp_seq ?_
 refine wp_region_lit ?_
 refine ev_r (w' := w1) hE (ex_mv (hE.get 15 rfl)) fun a hE => ?_
 refine ev_r (v := .bool true) (w' := w1) hE (by simp only [execOp, hE.get 111 rfl]; go_simp) fun a hE => ?_
 refine wpList_nil ?_
 show Code.wp _ _ _ _ _
 refine wp_cond_split (hE.get 112 rfl) (fun _ => ?_) (fun h => by cases h)
 refine wp_seq ?_
 refine wp_region_lit ?_
 refine ev_r (w' := w1) hE (ex_mv (hE.get 0 rfl)) fun a hE => ?_
 refine ev_r (w' := w1) hE (ex_mv (hE.get 13 rfl)) fun a hE => ?_
 refine ev_r (w' := w1) hE (ex_mv (hE.get 3 rfl)) fun a hE => ?_
 refine ev_r (w' := w1) hE (ex_mv (hE.get 2 rfl)) fun a hE => ?_
 refine ev_r (w' := w1) hE (ex_mv (hE.get 3 rfl)) fun a hE => ?_
 refine ev_r (v := .bool true) (w' := w1) hE (ei_lss (hE.get 117 rfl) rfl (by decide)) fun a hE => ?_
 refine ev_call (S := fun u w' => Q.Fx 0 [] B w1 (Q.efg (-1) [] 0 0) u w') hE rfl rfl (by decide) (f := 88) (args := #[s0, .bool false, .slice none 0 0, .int .i64 0, .int .i64 0, .int .i64 (-1), .int .u8 102, .bool true]) (by simp only [execOp, resolve, List.map_toArray, List.map_cons, List.map_nil, hE.get 113 rfl, hE.get 114 rfl, hE.get 115 rfl, hE.get 116 rfl, hE.get 118 rfl]; go_simp) (Q.fmtEFG_any (.slice none 0 0) 24 (-1) true (by decide) (by decide) 0 [] B w1 s0 0 0 (by decide) (by decide) (by decide) (fun h => absurd rfl h) (fun h => absurd h (by decide)) w1 ⟨hs1, (fun h => absurd rfl h), Below.refl _ _, by omega⟩) ?_
 intro a s w5 hF5 hE
 refine ev_as hE (hE.get 119 rfl) (by decide) ?_
 intro a hE
 refine wpList_nil ?_
 show Code.wp _ _ _ _ _
 refine wp_ret ?_
 try simp only [Exit.inBlock, Exit.then]
 exact ret_of_ev hE rfl (hE.get 8 rfl) ⟨s, rfl, hF5.own, (hb1x.mono hB).trans hF5.below⟩
theorem secs_zero : Q.efg 3 [] 0 0 = (secs 0).data.toList := by decide +kernel
theorem formatSecs_all (r : Nat) (h2 : r < 160) (w : World) (hT : FfTab w) : Calls Tryz.prog 56 #[.float .f64 (e8 r), .int .u8 102, .int .i64 3, .int .i64 32] w fun e w' => e = .returned (.string (secs r)) ∧ Below w.heap.size w w' := by
 rcases Nat.eq_zero_or_pos r with h | h
 ·subst h
  have hX : floatToFloatBits .f64 (e8 0) .f32 = some 0 := by decide +kernel
  refine formatFloat32_out 0 w (formatFloat32_in 0 0 (cv_f32 hX) w hT fun B s0 w hB hs hT => ?_)
  have h := ftoa32_zero B s0 w hB hs
  rw [secs_zero] at h
  exact h
 ·exact formatSecs_any r h h2 w hT
end Go.Proofs.YtfonjeoiallhhaaGreatDoor
