/- Joined: Ffg, Ffh, Ffi. -/
import Derived.Test.YtkddkmiomhadaaaDoorFfx
/-! strconv.setDigits. -/
namespace Go.Proofs.YtkddkmiomhadaaaDoor
open Go.Shelf Go.RowKit Go.Sort Go.Lib
section
variable {N : Nat} {l : List (Nat × Value)} {a : Act} {w : World} {ops : Array Oper} {rest : List Oper} {o : Oper} {Q : Act → Prop} {d : Nat} {v : Value}
theorem sv_run (h : Ev N l a) (hg : o.guard = none) (hd : o.dst = some d) (hdN : d < N) (hr : (execOp a.eval o).run Tryd.prog w = .ok (.value v) w)
    (hK : ∀ a', Ev N ((d, v) :: l) a' → wpStill Tryd.prog ops w Q rest a') : wpStill Tryd.prog ops w Q (o :: rest) a := by
  have hw : Region.wanted o (yielded ops a.tmps) = true := by unfold Region.wanted; rw [hg]
  unfold wpStill
  rw [if_pos hw]
  unfold Oper.still
  rw [hr]
  exact ⟨rfl, by rw [hd]; exact hK _ (h.set hdN)⟩
theorem sv_call {f : FuncId} {args : Array Value} (h : Ev N l a) (hg : o.guard = none) (hd : o.dst = some d) (hdN : d < N) (hr : (execOp a.eval o).run Tryd.prog w = .ok (.enter f args) w) (hc : Calls Tryd.prog f args w fun e w' => e = .returned v ∧ w' = w)
    (hK : ∀ a', Ev N ((d, v) :: l) a' → wpStill Tryd.prog ops w Q rest a') : wpStill Tryd.prog ops w Q (o :: rest) a := by
  have hw : Region.wanted o (yielded ops a.tmps) = true := by unfold Region.wanted; rw [hg]
  unfold wpStill
  rw [if_pos hw]
  unfold Oper.still
  rw [hr]
  exact ⟨rfl, v, hc, by rw [hd]; exact hK _ (h.set hdN)⟩
end
theorem ld_u8x : Ld 5 := ld_u8
theorem ix_u8 {a : Act} {w : World} {dst : Option Nat} {ty : TypeId} {ps : String} {af : Array Edge} {gd : Option (Nat × Bool)} {s : Nat} {g n len cap : Nat} {i : Operand} (hs : a.eval (.tmp s) = .slice (some ⟨g, 0, none⟩) len cap) (hi : a.eval i = .int .i64 n) (hlt : n < len) :
    (execOp a.eval ⟨dst, .indexAddr 68 (.tmp s) i, ty, ps, af, gd⟩).run Tryd.prog w = .ok (.value (pt g n)) w := by
  have hun := run_underlying (P := Tryd.prog) Tryd.underlying68
  have hz := Tryd.sizeOf5
  simp only [execOp, hs, hi]
  refine run_andValue ?_
  have hadd : (⟨g, 0, none⟩ : Addr).add n = ⟨g, n, none⟩ := by unfold Addr.add; split <;> simp_all
  simp [Instr.indexAt, asIntOf, hun, hlt, hz, hadd]
theorem sl_hi (g n : Nat) (h : n ≤ 24) (w : World) : (Instr.sliceAt 68 (.slice (some ⟨g, 0, none⟩) 24 24) none (some (.int .i64 n)) none).run Tryd.prog w = .ok (.slice (some ⟨g, 0, none⟩) n 24) w := by
  have h0 : (0 : Int) ≤ (n : Int) := by omega
  have h2 : (n : Int) ≤ 24 := by omega
  have h3 : (0 : Nat) ≠ 24 := by decide
  go_simp
theorem frozen_of_heap2 {w : World} {g i : Nat} {cs : Array Value} {t : TypeId} (h : w.heap[g]? = some (.cells cs t (0, 0))) : w.frozen? ⟨g, i, none⟩ = false := by simp [World.frozen?, h]
/-- The digits lie in block g. -/
def DgAt (g : Nat) (L : List UInt8) (w : World) : Prop := ∃ cs : Array Value, w.heap[g]? = some (.cells cs 109 (0, 0)) ∧ ∀ (j : Nat) (b : UInt8), L[j]? = some b → cs[j]? = some (.int .u8 (b.toNat : Int))
theorem DgAt.cell {g : Nat} {L : List UInt8} {w : World} (h : DgAt g L w) {j : Nat} {b : UInt8} (hb : L[j]? = some b) : w.cell? ⟨g, j, none⟩ = some (.int .u8 (b.toNat : Int)) := by
  obtain ⟨cs, h1, h2⟩ := h
  exact cell_of_heap h1 (h2 j b hb)
theorem putRow_only (w : World) (g : Nat) (dk : Array UInt8) (k : Nat) : Only (fun x => x = g) w ((putRow (fun (b : UInt8) => Value.int .u8 (b.toNat : Int)) w g 0 dk).drewN k) := by
  refine ⟨rfl, rfl, rfl, by simp [putRow, mapBlock, World.drewN], fun x _ hne => ?_⟩
  show (w.heap.modify g _)[x]? = _
  rw [Array.getElem?_modify, if_neg (fun h => hne h.symm)]
theorem putRow_dg (w : World) (g D : Nat) (v' : Nat) (dk : Array UInt8) (k : Nat) (hg : w.heap[g]? = some (.cells zeros24 109 (0, 0))) (hD : nDigits D ≤ 24) (h : FmtInv (nDigits D) D 0 v' dk) : DgAt g (decDigits D) ((putRow (fun (b : UInt8) => Value.int .u8 (b.toNat : Int)) w g 0 dk).drewN k) := by
  refine ⟨putCells (fun (b : UInt8) => Value.int .u8 (b.toNat : Int)) 0 dk zeros24, ?_, fun j b hj => ?_⟩
  · show (w.heap.modify g _)[g]? = _
    rw [Array.getElem?_modify, if_pos rfl, hg]
    rfl
  · obtain ⟨hlt, hjb⟩ := List.getElem?_eq_some_iff.1 hj
    have hr := row_is_numeral h j hlt
    have hl : j < nDigits D := by rw [decDigits_length] at hlt; exact hlt
    rw [hjb] at hr
    have hz : zeros24.size = 24 := rfl
    unfold putCells
    rw [Array.getElem?_mapIdx, Array.getElem?_eq_getElem (by omega)]
    simp [h.size, hl, hr]
set_option maxRecDepth 100000 in
/-- strconv.setDigits. -/
theorem setDigits_any (g D n : Nat) (hn : nDigits D = n) (h1 : 1 ≤ n) (h7 : n ≤ 7) (hD : D < 10 ^ n) (hD2 : D ≤ 10000000) (b0 : UInt8) (hb0 : (decDigits D)[0]? = some b0) (hb1 : b0 ≠ 48) (w : World) (hg : w.heap[g]? = some (.cells zeros24 109 (0, 0))) :
    Calls Tryd.prog 66 #[.slice (some ⟨g, 0, none⟩) 24 24, .int .u64 D, .int .i64 (-3), .int .i64 n] w fun e w' => ∃ nd : Nat, e = .returned (.tuple #[.int .i64 ((n : Int) - 3), .int .i64 nd]) ∧ 1 ≤ nd ∧ nd ≤ n ∧ (∀ (j : Nat) (b : UInt8), nd ≤ j → (decDigits D)[j]? = some b → b = 48) ∧ DgAt g (decDigits D) w' ∧ Only (fun x => x = g) w w' := by
  have hlen : (decDigits D).length = n := by rw [decDigits_length, hn]
  refine calls_of_ev Tryd.func66 rfl (show 4 ≤ 36 from by decide) ?_
  intro a hE
  have hE : Ev 36 ((0, .slice (some ⟨g, 0, none⟩) 24 24) :: (1, .int .u64 D) :: (2, .int .i64 (-3)) :: (3, .int .i64 n) :: []) a := hE

  refine wp_seq ?_
  refine wp_region_lit ?_
  refine ev_ac hE (by decide) ?_
  intro a hE
  refine ev_ac hE (by decide) ?_
  intro a hE
  refine wpList_nil ?_
  show Code.wp _ _ _ _ _
  refine wp_seq ?_
  refine wp_seq ?_
  refine wp_region_lit ?_
  refine ev_run (w' := w) hE rfl rfl (by decide) (ex_mv (hE.get 3 rfl)) ?_
  intro a hE
  refine ev_run (w' := w) hE rfl rfl (by decide) (ex_mv (hE.get 0 rfl)) ?_
  intro a hE
  refine ev_run hE rfl rfl (by decide) (ex_len Tryd.underlying68 (hE.get 11 rfl)) ?_
  intro a hE
  refine ev_run (v := .bool true) (w' := w) hE rfl rfl (by decide) (ei_leq (hE.get 10 rfl) (hE.get 12 rfl) (decide_eq_true (by omega))) ?_
  intro a hE
  refine wpList_nil ?_
  show Code.wp _ _ _ _ _
  refine wp_cond_split (hE.get 13 rfl) (fun _ => ?_) (fun h => by cases h)
  refine wp_seq ?_
  refine wp_region_lit ?_
  refine ev_run (w' := w) hE rfl rfl (by decide) (ex_mv (hE.get 0 rfl)) ?_
  intro a hE
  refine ev_run (w' := w) hE rfl rfl (by decide) (ex_mv (hE.get 3 rfl)) ?_
  intro a hE
  refine ev_run (v := .slice (some ⟨g, 0, none⟩) n 24) (w' := w) hE rfl rfl (by decide) ?_ ?_
  · have hs := sl_hi g n (by omega) w
    simp only [execOp, hE.get 14 rfl, Option.map, hE.get 15 rfl]
    exact run_andValue hs
  intro a hE
  refine ev_run (w' := w) hE rfl rfl (by decide) (ex_mv (hE.get 1 rfl)) ?_
  intro a hE
  have hfm := formatBase10_any g 0 24 D (Array.replicate n 0) w (fun j hj => by
    have hj' : j < n := by simpa using hj
    have hz := zeros24_at j (by omega)
    rw [Nat.zero_add]
    refine ⟨?_, frozen_of_heap2 hg⟩
    rw [cell_of_heap hg hz]
    rw [getElem!_pos _ j hj]
    simp) (by rw [Array.size_replicate]; exact hD) (by omega) (by rw [Array.size_replicate]; omega)
  rw [Array.size_replicate] at hfm
  refine ev_call (S := fun u w' => DgAt g (decDigits D) w' ∧ Only (fun x => x = g) w w') hE rfl rfl (by decide) (f := 50) (args := #[.slice (some ⟨g, 0, none⟩) n 24, .int .u64 D]) (by simp only [execOp, resolve, List.map_toArray, List.map_cons, List.map_nil, hE.get 16 rfl, hE.get 17 rfl]; go_simp) (hfm.mono ?_) ?_
  · rintro e w' ⟨rfl, k, v', dk, rfl, hF⟩
    subst hn
    exact ⟨_, rfl, putRow_dg w g D v' dk k hg (by omega) hF, putRow_only w g dk k⟩
  rintro a u w2 ⟨hdg, ho⟩ hE
  refine wpList_nil ?_
  show Code.wp _ _ _ _ _
  refine wp_seq ?_
  refine wp_region_lit ?_
  refine ev_run (w' := w2) hE rfl rfl (by decide) (ex_mv (hE.get 3 rfl)) ?_
  intro a hE
  refine ev_run (w' := w2) hE rfl rfl (by decide) (ex_mv (hE.get 2 rfl)) ?_
  intro a hE
  refine ev_run (v := .int .i64 ((n : Int) - 3)) (w' := w2) hE rfl rfl (by decide) (ei_add (hE.get 19 rfl) (hE.get 20 rfl) (by rw [IntKind.wrap_i64]; omega)) ?_
  intro a hE
  refine ev_run (w' := w2) hE rfl rfl (by decide) (ex_as (hE.get 21 rfl)) ?_
  intro a hE
  refine wpList_nil ?_
  show Code.wp _ _ _ _ _
  refine wp_block ?_
  refine wp_loop (fun a wr => wr = w2 ∧ ∃ k : Nat, 1 ≤ k ∧ k ≤ n ∧ (∀ (j : Nat) (b : UInt8), k ≤ j → (decDigits D)[j]? = some b → b = 48) ∧ Ev 36 ((0, .slice (some ⟨g, 0, none⟩) 24 24) :: (8, .int .i64 ((n : Int) - 3)) :: (3, .int .i64 k) :: []) a) (fun a _ => (RowKit.intOf (a.eval (.tmp 3))).toNat) ⟨rfl, n, h1, Nat.le_refl _, fun j b hj hb => by have := (List.getElem?_eq_some_iff.1 hb).1; omega, hE.pick rfl⟩ ?_
  rintro a wr ⟨rfl, k, hk1, hkn, hz, hE⟩
  obtain ⟨b, hb⟩ : ∃ b, (decDigits D)[k - 1]? = some b := ⟨_, List.getElem?_eq_getElem (by omega)⟩
  have e3 : a.eval (.tmp 3) = .int .i64 k := hE.get 3 rfl
  refine wp_seq ?_
  refine wp_seq ?_
  refine wp_region_lit ?_
  refine ev_run (w' := wr) hE rfl rfl (by decide) (ex_mv (hE.get 3 rfl)) ?_
  intro a hE
  refine ev_run (v := .bool true) (w' := wr) hE rfl rfl (by decide) (ei_gtr (hE.get 22 rfl) rfl (decide_eq_true (by omega))) ?_
  intro a hE
  refine ev_run (w' := wr) hE rfl rfl (by decide) (ex_mv (hE.get 23 rfl)) ?_
  intro a hE
  refine ev_gon (w' := wr) hE rfl rfl (hE.get 24 rfl) rfl (by decide) (ex_mv (hE.get 0 rfl)) ?_
  intro a hE
  refine ev_gon (w' := wr) hE rfl rfl (hE.get 24 rfl) rfl (by decide) (ex_mv (hE.get 3 rfl)) ?_
  intro a hE
  refine ev_gon (v := .int .i64 ((k - 1 : Nat) : Int)) (w' := wr) hE rfl rfl (hE.get 24 rfl) rfl (by decide) (ei_sub (hE.get 26 rfl) rfl (by rw [IntKind.wrap_i64]; omega)) ?_
  intro a hE
  refine ev_gon (v := pt g (k - 1)) (w' := wr) hE rfl rfl (hE.get 24 rfl) rfl (by decide) (ix_u8 (hE.get 25 rfl) (hE.get 27 rfl) (by omega)) ?_
  intro a hE
  refine ev_gon (v := .int .u8 (b.toNat : Int)) (w' := wr) hE rfl rfl (hE.get 24 rfl) rfl (by decide) (ex_ld (hE.get 28 rfl) ld_u8 (hdg.cell hb)) ?_
  intro a hE
  refine ev_gon (v := .bool ((b.toNat : Int) == 48)) (w' := wr) hE rfl rfl (hE.get 24 rfl) rfl (by decide) (by simp only [execOp, hE.get 29 rfl]; go_simp) ?_
  intro a hE
  refine ev_run (v := .bool ((b.toNat : Int) == 48)) (w' := wr) hE rfl rfl (by decide) (by rw [ex_pick (b := true) (hE.get 24 rfl)]; have e1 := hE.get 30 rfl; simp only [e1]; rfl) ?_
  intro a hE
  refine wpList_nil ?_
  show Code.wp _ _ _ _ _
  refine wp_cond_split (hE.get 31 rfl) (fun h => ?_) (fun h => ?_)
  · have hb48 : b = 48 := by
      have : (b.toNat : Int) = 48 := by simpa using h
      apply UInt8.toNat_inj.1
      show b.toNat = 48
      omega
    have hk2 : 2 ≤ k := by
      by_cases hk : k = 1
      · subst hk
        rw [show 1 - 1 = 0 from rfl, hb0] at hb
        exact absurd ((Option.some.inj hb).trans hb48) hb1
      · omega
    refine wp_skip ?_
    show Code.wp _ _ _ _ _
    refine wp_block ?_
    refine wp_region_lit ?_
    refine ev_run (w' := wr) hE rfl rfl (by decide) (ex_mv (hE.get 3 rfl)) ?_
    intro a hE
    refine ev_run (v := .int .i64 ((k - 1 : Nat) : Int)) (w' := wr) hE rfl rfl (by decide) (ei_sub (hE.get 32 rfl) rfl (by rw [IntKind.wrap_i64]; omega)) ?_
    intro a hE
    refine ev_run (w' := wr) hE rfl rfl (by decide) (ex_as (hE.get 33 rfl)) ?_
    intro a hE
    refine wpList_nil ?_
    refine ⟨⟨rfl, k - 1, by omega, by omega, fun j b' hj hb' => ?_, hE.pick rfl⟩, ?_⟩
    · by_cases hjk : j = k - 1
      · subst hjk
        rw [hb] at hb'
        rw [← Option.some.inj hb']
        exact hb48
      · exact hz j b' (by omega) hb'
    · have h5 := hE.get 3 rfl
      rw [h5, e3]
      simp only [RowKit.intOf]
      omega
  · refine wp_exit ?_
    simp only [Exit.then, Exit.inBlock, if_true]
    show Code.wp _ _ _ _ _
    refine wp_seq ?_
    refine wp_region_lit ?_
    refine ev_run (w' := wr) hE rfl rfl (by decide) (ex_mv (hE.get 8 rfl)) ?_
    intro a hE
    refine ev_run (w' := wr) hE rfl rfl (by decide) (ex_mv (hE.get 3 rfl)) ?_
    intro a hE
    refine ev_run (w' := wr) hE rfl rfl (by decide) (ex_as (hE.get 34 rfl)) ?_
    intro a hE
    refine ev_run (w' := wr) hE rfl rfl (by decide) (ex_as (hE.get 35 rfl)) ?_
    intro a hE
    refine wpList_nil ?_
    show Code.wp _ _ _ _ _
    refine wp_ret ?_
    exact ret2_of_ev hE rfl (hE.get 8 rfl) (hE.get 9 rfl) ⟨k, rfl, hk1, hkn, hz, hdg, ho⟩
end Go.Proofs.YtkddkmiomhadaaaDoor
/-! strconv.fmtEFG at 'f', precision 3. -/
namespace Go.Proofs.YtkddkmiomhadaaaDoor
open Go.RowKit
noncomputable def egBody : Code := Tryd.f64.body.getD .skip
abbrev ul (b : UInt8) : List Value := [.int .u8 (b.toNat : Int)]
theorem info_u8 : (Tryd.prog.info? 5).map (fun i => (i.zero, i.size, i.bytes)) = some (some (.int .u8 0), 1, 1) := by kernel_rfl
/-- The text so far, behind the digits. -/
structure Fx (g : Nat) (L : List UInt8) (B : Nat) (w0 : World) (X : List UInt8) (s : Value) (w : World) : Prop where
  own : Own ul 5 1 w B s X
  dg : DgAt g L w
  below : Below B w0 w
  le : B ≤ w.heap.size
theorem ev_fx {N : Nat} {l : List (Nat × Value)} {a : Act} {w w0 : World} {ops : Array Oper} {rest : List Oper} {Q : Exit → Act → World → Prop} {d1 d2 ts : Nat} {ty1 ty2 : TypeId} {ps1 ps2 : String} {af1 af2 : Array Edge} {x : Operand} {b : UInt8} {g B : Nat} {L X : List UInt8} {s : Value} (h : Ev N l a) (hx : a.eval x = .int .u8 (b.toNat : Int)) (hs : a.eval (.tmp ts) = s) (hne : ts ≠ d1) (hd1 : d1 < N) (hd2 : d2 < N) (hF : Fx g L B w0 X s w) (hX : X.length ≤ 1000)
    (hK : ∀ a' s' w', Fx g L B w0 (X ++ [b]) s' w' → Ev N ((d2, s') :: (d1, .slice (some ⟨w.heap.size, 0, none⟩) 1 1) :: l) a' → wpList Tryd.prog ops Q rest a' w') :
    wpList Tryd.prog ops Q (⟨some d1, .buildSlice 68 1 #[(0, x)], ty1, ps1, af1, none⟩ :: ⟨some d2, .call { callee := .builtin .append, args := #[.tmp ts, .tmp d1], argTypes := #[68, 68] }, ty2, ps2, af2, none⟩ :: rest) a w := by
  obtain ⟨i0, hi, hz0, hz1, hz2⟩ := info_parts info_u8
  refine arm_push (f := ul) 68 Tryd.underlying68 i0 _ 1 hi hz0 hz1 hz2 (by rfl) (by decide) (fun _ => rfl) (by intro x u hu; obtain rfl := List.mem_singleton.1 hu; rfl) b ?_ hs (fun e => hne (by injection e)) (by rw [h.size]; exact hd1) hF.own hF.le (by omega) (by omega) ?_
  · simp only [execOp, List.map_toArray, List.map_cons, List.map_nil, hx]
    go_simp
  · intro v' w' ho hon hb
    refine hK _ v' w' ⟨ho, ?_, hF.below.trans (hon.below hF.le fun k hk hv => by have := (hF.own.block_lt k hv).1; omega), Nat.le_trans hF.le hon.size⟩ ((h.set hd1).set hd2)
    obtain ⟨cs, hg, hc⟩ := hF.dg
    exact ⟨cs, by rw [hon.block g (Array.getElem?_eq_some_iff.1 hg).1 (hF.own.ne_blk hg (by decide))]; exact hg, hc⟩
theorem ex_min {a : Act} {w : World} {dst : Option Nat} {ty : TypeId} {ps : String} {af : Array Edge} {gd : Option (Nat × Bool)} {x y : Operand} {i j z : Int} (hx : a.eval x = .int .i64 i) (hy : a.eval y = .int .i64 j) (hz : min i j = z) : (execOp a.eval ⟨dst, .call { callee := .builtin .min, args := #[x, y], argTypes := #[3, 3] }, ty, ps, af, gd⟩).run Tryd.prog w = .ok (.value (.int .i64 z)) w := by
  rw [← hz]
  simp only [execOp, resolve, List.map_toArray, List.map_cons, List.map_nil, hx, hy]
  go_simp
theorem ex_max {a : Act} {w : World} {dst : Option Nat} {ty : TypeId} {ps : String} {af : Array Edge} {gd : Option (Nat × Bool)} {x y : Operand} {i j z : Int} (hx : a.eval x = .int .i64 i) (hy : a.eval y = .int .i64 j) (hz : max i j = z) : (execOp a.eval ⟨dst, .call { callee := .builtin .max, args := #[x, y], argTypes := #[3, 3] }, ty, ps, af, gd⟩).run Tryd.prog w = .ok (.value (.int .i64 z)) w := by
  rw [← hz]
  simp only [execOp, resolve, List.map_toArray, List.map_cons, List.map_nil, hx, hy]
  go_simp
/-- The point and what stands behind it. -/
def efgTail (L : List UInt8) (dp nd : Nat) : List UInt8 := [46] ++ (L.drop dp).take (min 3 (nd - dp)) ++ List.replicate (3 - min 3 (nd - dp)) 48
def efg (L : List UInt8) (dp nd : Nat) : List UInt8 := (if 0 < dp then L.take (min nd dp) ++ List.replicate (dp - min nd dp) 48 else [48]) ++ efgTail L dp nd
set_option maxRecDepth 100000 in
set_option maxHeartbeats 4000000 in
theorem efg_tail {Q : Exit → Act → World → Prop} (g : Nat) (L : List UInt8) (B : Nat) (w0 : World) (X : List UInt8) (s : Value) (dp nd : Nat) (hX : X.length ≤ 100) (hdp : dp ≤ 10) (hnd : nd ≤ L.length) (hLl : L.length ≤ 20) (a : Act) (w : World) (hE : Ev 272 ((0, s) :: (2, .slice (some ⟨g, 0, none⟩) 24 24) :: (3, .int .i64 dp) :: (4, .int .i64 nd) :: (5, .int .i64 3) :: []) a) (hF : Fx g L B w0 X s w) (hR : ∀ s a w, Fx g L B w0 (X ++ efgTail L dp nd) s w → Ev 272 ((16, s) :: []) a → Q .ret a w) :
    Code.wp Tryd.prog (cB (cB (cA (cB (cB (cB (cA (cB (cA (cB (cB egBody))))))))))) Q a w := by
  refine wp_seq ?_
  refine wp_seq ?_
  refine wp_region_lit ?_
  refine ev_run (w' := w) hE rfl rfl (by decide) (ex_mv (hE.get 5 rfl)) ?_
  intro a hE
  refine ev_run (v := .bool true) (w' := w) hE rfl rfl (by decide) (ei_gtr (hE.get 212 rfl) rfl (by decide)) ?_
  intro a hE
  refine wpList_nil ?_
  show Code.wp _ _ _ _ _
  refine wp_cond_split (hE.get 213 rfl) (fun _ => ?_) (fun h => by cases h)
  refine wp_seq ?_
  refine wp_region_lit ?_
  refine ev_mv hE (hE.get 0 rfl) (by decide) ?_
  intro a hE
  refine ev_fx (b := 46) hE (by first | rfl | exact rfl) (hE.get 214 rfl) (by decide) (by decide) (by decide) hF (by omega) ?_
  intro a s w hF hE
  refine ev_as hE (hE.get 216 rfl) (by decide) ?_
  intro a hE
  refine wpList_nil ?_
  show Code.wp _ _ _ _ _
  have hX1 : (X ++ [(46 : UInt8)]).length ≤ 101 := by rw [List.length_append]; simpa using hX
  refine wp_seq ?_
  refine wp_region_lit ?_
  refine ev_run (w' := w) hE rfl rfl (by decide) (ex_mv (hE.get 5 rfl)) ?_
  intro a hE
  refine ev_run (w' := w) hE rfl rfl (by decide) (ex_mv (hE.get 3 rfl)) ?_
  intro a hE
  refine ev_run (v := .int .i64 (-(dp : Int))) (w' := w) hE rfl rfl (by decide) (ei_neg (hE.get 218 rfl) (by rw [IntKind.wrap_i64]; omega)) ?_
  intro a hE
  refine ev_run (v := .int .i64 0) (w' := w) hE rfl rfl (by decide) (ex_max rfl (hE.get 219 rfl) (by omega)) ?_
  intro a hE
  refine ev_run (v := .int .i64 (0 : Nat)) (w' := w) hE rfl rfl (by decide) (ex_min (hE.get 217 rfl) (hE.get 220 rfl) (by decide)) ?_
  intro a hE
  refine ev_run (w' := w) hE rfl rfl (by decide) (ex_as (hE.get 221 rfl)) ?_
  intro a hE
  refine wpList_nil ?_
  show Code.wp _ _ _ _ _
  refine wp_seq ?_
  refine wp_region_lit ?_
  refine ev_run (w' := w) hE rfl rfl (by decide) (ex_mv (hE.get 3 rfl)) ?_
  intro a hE
  refine ev_run (w' := w) hE rfl rfl (by decide) (ex_mv (hE.get 26 rfl)) ?_
  intro a hE
  refine ev_run (v := .int .i64 dp) (w' := w) hE rfl rfl (by decide) (ei_add (hE.get 222 rfl) (hE.get 223 rfl) (by rw [IntKind.wrap_i64]; omega)) ?_
  intro a hE
  refine ev_run (w' := w) hE rfl rfl (by decide) (ex_as (hE.get 224 rfl)) ?_
  intro a hE
  refine wpList_nil ?_
  show Code.wp _ _ _ _ _
  refine wp_seq ?_
  refine wp_region_lit ?_
  refine ev_run (w' := w) hE rfl rfl (by decide) (ex_mv (hE.get 5 rfl)) ?_
  intro a hE
  refine ev_run (w' := w) hE rfl rfl (by decide) (ex_mv (hE.get 26 rfl)) ?_
  intro a hE
  refine ev_run (v := .int .i64 3) (w' := w) hE rfl rfl (by decide) (ei_sub (hE.get 225 rfl) (hE.get 226 rfl) (by decide)) ?_
  intro a hE
  refine ev_run (w' := w) hE rfl rfl (by decide) (ex_mv (hE.get 4 rfl)) ?_
  intro a hE
  refine ev_run (w' := w) hE rfl rfl (by decide) (ex_mv (hE.get 27 rfl)) ?_
  intro a hE
  refine ev_run (v := .int .i64 ((nd : Int) - dp)) (w' := w) hE rfl rfl (by decide) (ei_sub (hE.get 228 rfl) (hE.get 229 rfl) (by rw [IntKind.wrap_i64]; omega)) ?_
  intro a hE
  refine ev_run (v := .int .i64 ((nd - dp : Nat) : Int)) (w' := w) hE rfl rfl (by decide) (ex_max rfl (hE.get 230 rfl) (by omega)) ?_
  intro a hE
  refine ev_run (v := .int .i64 ((min 3 (nd - dp) : Nat) : Int)) (w' := w) hE rfl rfl (by decide) (ex_min (hE.get 227 rfl) (hE.get 231 rfl) (by omega)) ?_
  intro a hE
  refine ev_run (w' := w) hE rfl rfl (by decide) (ex_as (hE.get 232 rfl)) ?_
  intro a hE
  refine wpList_nil ?_
  show Code.wp _ _ _ _ _
  refine wp_seq ?_
  refine wp_region_lit ?_
  refine ev_run (w' := w) hE rfl rfl (by decide) (ex_mv (hE.get 5 rfl)) ?_
  intro a hE
  refine ev_run (w' := w) hE rfl rfl (by decide) (ex_mv (hE.get 26 rfl)) ?_
  intro a hE
  refine ev_run (v := .int .i64 3) (w' := w) hE rfl rfl (by decide) (ei_sub (hE.get 233 rfl) (hE.get 234 rfl) (by decide)) ?_
  intro a hE
  refine ev_run (w' := w) hE rfl rfl (by decide) (ex_mv (hE.get 28 rfl)) ?_
  intro a hE
  refine ev_run (v := .int .i64 (3 - ((min 3 (nd - dp) : Nat) : Int))) (w' := w) hE rfl rfl (by decide) (ei_sub (hE.get 235 rfl) (hE.get 236 rfl) (by rw [IntKind.wrap_i64]; omega)) ?_
  intro a hE
  refine ev_run (v := .int .i64 ((3 - min 3 (nd - dp) : Nat) : Int)) (w' := w) hE rfl rfl (by decide) (ex_max rfl (hE.get 237 rfl) (by omega)) ?_
  intro a hE
  refine ev_run (w' := w) hE rfl rfl (by decide) (ex_as (hE.get 238 rfl)) ?_
  intro a hE
  refine wpList_nil ?_
  show Code.wp _ _ _ _ _
  refine wp_seq ?_
  refine wp_seq ?_
  refine wp_region_lit ?_
  refine ev_run (w' := w) hE rfl rfl (by decide) (ex_mv (hE.get 26 rfl)) ?_
  intro a hE
  refine ev_run (v := .int .i64 (0 : Nat)) (w' := w) hE rfl rfl (by decide) (by simp only [execOp]; rfl) ?_
  intro a hE
  refine wpList_nil ?_
  show Code.wp _ _ _ _ _
  generalize hXe : X ++ [(46 : UInt8)] = Y at *
  refine range_wp2 (N := 272) (n := 0) [0, 2, 3, 4, 5, 27, 28, 29] (l0 := ((0, s) :: (2, .slice (some ⟨g, 0, none⟩) 24 24) :: (3, .int .i64 dp) :: (4, .int .i64 nd) :: (5, .int .i64 3) :: (27, .int .i64 dp) :: (28, .int .i64 (min 3 (nd - dp) : Nat)) :: (29, .int .i64 ((3 - min 3 (nd - dp) : Nat) : Int)) :: [])) (fun k l w => ∃ s, l = ((0, s) :: (2, .slice (some ⟨g, 0, none⟩) 24 24) :: (3, .int .i64 dp) :: (4, .int .i64 nd) :: (5, .int .i64 3) :: (27, .int .i64 dp) :: (28, .int .i64 (min 3 (nd - dp) : Nat)) :: (29, .int .i64 ((3 - min 3 (nd - dp) : Nat) : Int)) :: []) ∧ Fx g L B w0 (Y ++ List.replicate k 48) s w) (by omega) (hE.pick rfl) rfl ⟨_, rfl, by rw [List.replicate_zero, List.append_nil]; exact hF⟩ (by decide) (by decide) (by decide) ?_ ?_
  · rintro k l a w hk hE ⟨s, rfl, hF⟩ Q' hQ'
    refine wp_block ?_
    refine wp_region_lit ?_
    have hXk : (Y ++ List.replicate k (48 : UInt8)).length ≤ 300 := by rw [List.length_append, List.length_replicate]; omega
    refine ev_mv hE (hE.get 0 rfl) (by decide) ?_
    intro a hE
    refine ev_fx (b := 48) hE (by first | rfl | exact rfl) (hE.get 242 rfl) (by decide) (by decide) (by decide) hF (by omega) ?_
    intro a s w hF hE
    refine ev_as hE (hE.get 244 rfl) (by decide) ?_
    intro a hE
    refine wpList_nil ?_
    refine hQ' _ a w ?_ (hE.pick ?_) ⟨s, rfl, ?_⟩
    · rfl
    · rfl
    · rw [List.replicate_succ', ← List.append_assoc]; exact hF
  rintro l a w hE ⟨s, rfl, hF⟩
  rw [List.replicate_zero, List.append_nil] at hF
  show Code.wp _ _ _ _ _
  refine wp_seq ?_
  refine wp_seq ?_
  refine wp_region_lit ?_
  refine ev_run (w' := w) hE rfl rfl (by decide) (ex_mv (hE.get 28 rfl)) ?_
  intro a hE
  refine ev_run (v := .int .i64 (0 : Nat)) (w' := w) hE rfl rfl (by decide) (by simp only [execOp]; rfl) ?_
  intro a hE
  refine wpList_nil ?_
  show Code.wp _ _ _ _ _
  generalize hq : min 3 (nd - dp) = q at *
  refine range_wp2 (N := 272) (n := q) [0, 2, 3, 4, 5, 27, 28, 29] (l0 := ((0, s) :: (2, .slice (some ⟨g, 0, none⟩) 24 24) :: (3, .int .i64 dp) :: (4, .int .i64 nd) :: (5, .int .i64 3) :: (27, .int .i64 dp) :: (28, .int .i64 q) :: (29, .int .i64 ((3 - q : Nat) : Int)) :: [])) (fun k l w => ∃ s, l = ((0, s) :: (2, .slice (some ⟨g, 0, none⟩) 24 24) :: (3, .int .i64 dp) :: (4, .int .i64 nd) :: (5, .int .i64 3) :: (27, .int .i64 dp) :: (28, .int .i64 q) :: (29, .int .i64 ((3 - q : Nat) : Int)) :: []) ∧ Fx g L B w0 (Y ++ (L.drop dp).take k) s w) (by omega) (hE.pick rfl) rfl ⟨_, rfl, by rw [List.take_zero, List.append_nil]; exact hF⟩ (by decide) (by decide) (by decide) ?_ ?_
  · rintro k l a w hk hE ⟨s, rfl, hF⟩ Q' hQ'
    obtain ⟨b, hb⟩ : ∃ b, L[dp + k]? = some b := ⟨_, List.getElem?_eq_getElem (by omega)⟩
    have hb2 : (L.drop dp)[k]? = some b := by rw [List.getElem?_drop]; exact hb
    have hYk : (Y ++ (L.drop dp).take k).length ≤ 300 := by rw [List.length_append, List.length_take]; omega
    refine wp_block ?_
    refine wp_seq ?_
    refine wp_region_lit ?_
    refine ev_run (w' := w) hE rfl rfl (by decide) (ex_mv (hE.get 247 rfl)) ?_
    intro a hE
    refine ev_run (w' := w) hE rfl rfl (by decide) (ex_as (hE.get 249 rfl)) ?_
    intro a hE
    refine wpList_nil ?_
    show Code.wp _ _ _ _ _
    refine wp_region_lit ?_
    refine ev_run (w' := w) hE rfl rfl (by decide) (ex_mv (hE.get 0 rfl)) ?_
    intro a hE
    refine ev_run (w' := w) hE rfl rfl (by decide) (ex_mv (hE.get 2 rfl)) ?_
    intro a hE
    refine ev_run (w' := w) hE rfl rfl (by decide) (ex_mv (hE.get 27 rfl)) ?_
    intro a hE
    refine ev_run (w' := w) hE rfl rfl (by decide) (ex_mv (hE.get 30 rfl)) ?_
    intro a hE
    refine ev_run (v := .int .i64 ((dp + k : Nat) : Int)) (w' := w) hE rfl rfl (by decide) (ei_add (hE.get 252 rfl) (hE.get 253 rfl) (by rw [IntKind.wrap_i64]; omega)) ?_
    intro a hE
    refine ev_run (v := pt g (dp + k)) (w' := w) hE rfl rfl (by decide) (ix_u8 (hE.get 251 rfl) (hE.get 254 rfl) (by omega)) ?_
    intro a hE
    refine ev_run (v := .int .u8 (b.toNat : Int)) (w' := w) hE rfl rfl (by decide) (ex_ld (hE.get 255 rfl) ld_u8 (hF.dg.cell hb)) ?_
    intro a hE
    refine ev_fx (b := b) hE (by first | rfl | exact (hE.get 256 rfl)) (hE.get 250 rfl) (by decide) (by decide) (by decide) hF (by omega) ?_
    intro a s w hF hE
    refine ev_as hE (hE.get 258 rfl) (by decide) ?_
    intro a hE
    refine wpList_nil ?_
    refine hQ' _ a w ?_ (hE.pick ?_) ⟨s, rfl, ?_⟩
    · rfl
    · rfl
    · rw [take_app hb2, ← List.append_assoc]; exact hF
  rintro l a w hE ⟨s, rfl, hF⟩
  show Code.wp _ _ _ _ _
  refine wp_seq ?_
  refine wp_region_lit ?_
  refine ev_run (w' := w) hE rfl rfl (by decide) (ex_mv (hE.get 29 rfl)) ?_
  intro a hE
  refine ev_run (v := .int .i64 (0 : Nat)) (w' := w) hE rfl rfl (by decide) (by simp only [execOp]; rfl) ?_
  intro a hE
  refine wpList_nil ?_
  show Code.wp _ _ _ _ _
  have hZl : (Y ++ (L.drop dp).take q).length ≤ 200 := by rw [List.length_append, List.length_take]; omega
  generalize hZe : Y ++ (L.drop dp).take q = Z at *
  refine range_wp2 (N := 272) (n := 3 - q) [0, 2, 3, 4, 5] (l0 := ((0, s) :: (2, .slice (some ⟨g, 0, none⟩) 24 24) :: (3, .int .i64 dp) :: (4, .int .i64 nd) :: (5, .int .i64 3) :: [])) (fun k l w => ∃ s, l = ((0, s) :: (2, .slice (some ⟨g, 0, none⟩) 24 24) :: (3, .int .i64 dp) :: (4, .int .i64 nd) :: (5, .int .i64 3) :: []) ∧ Fx g L B w0 (Z ++ List.replicate k 48) s w) (by omega) (hE.pick rfl) rfl ⟨_, rfl, by rw [List.replicate_zero, List.append_nil]; exact hF⟩ (by decide) (by decide) (by decide) ?_ ?_
  · rintro k l a w hk hE ⟨s, rfl, hF⟩ Q' hQ'
    refine wp_block ?_
    refine wp_region_lit ?_
    have hXk : (Z ++ List.replicate k (48 : UInt8)).length ≤ 300 := by rw [List.length_append, List.length_replicate]; omega
    refine ev_mv hE (hE.get 0 rfl) (by decide) ?_
    intro a hE
    refine ev_fx (b := 48) hE (by first | rfl | exact rfl) (hE.get 263 rfl) (by decide) (by decide) (by decide) hF (by omega) ?_
    intro a s w hF hE
    refine ev_as hE (hE.get 265 rfl) (by decide) ?_
    intro a hE
    refine wpList_nil ?_
    refine hQ' _ a w ?_ (hE.pick ?_) ⟨s, rfl, ?_⟩
    · rfl
    · rfl
    · rw [List.replicate_succ', ← List.append_assoc]; exact hF
  rintro l a w hE ⟨s, rfl, hF⟩
  show Code.wp _ _ _ _ _
  refine wp_seq ?_
  refine wp_region_lit ?_
  refine ev_run (w' := w) hE rfl rfl (by decide) (ex_mv (hE.get 0 rfl)) ?_
  intro a hE
  refine ev_run (w' := w) hE rfl rfl (by decide) (ex_as (hE.get 267 rfl)) ?_
  intro a hE
  refine wpList_nil ?_
  show Code.wp _ _ _ _ _
  refine wp_ret ?_
  refine hR s a w ?_ (hE.pick rfl)
  unfold efgTail
  rw [hq]
  rw [← hZe, ← hXe] at hF
  simpa [List.append_assoc] using hF
end Go.Proofs.YtkddkmiomhadaaaDoor
/-! strconv.fmtEFG at 'f', precision 3: the whole. -/
namespace Go.Proofs.YtkddkmiomhadaaaDoor
open Go.RowKit
set_option maxRecDepth 100000 in
set_option maxHeartbeats 4000000 in
theorem fmtEFG_any (g : Nat) (L : List UInt8) (B : Nat) (w0 : World) (s : Value) (dp nd : Nat) (hdp : dp ≤ 10) (hnd : nd ≤ L.length) (hLl : L.length ≤ 20) (w : World) (hF : Fx g L B w0 [] s w) :
    Calls Tryd.prog 64 #[s, .bool false, .slice (some ⟨g, 0, none⟩) 24 24, .int .i64 dp, .int .i64 nd, .int .i64 3, .int .u8 102, .bool false] w fun e w' => ∃ s, e = .returned s ∧ Fx g L B w0 (efg L dp nd) s w' := by
  refine calls_of_ev Tryd.func64 rfl (show 8 ≤ 272 from by decide) ?_
  intro a hE
  have hE : Ev 272 ((0, s) :: (1, .bool false) :: (2, .slice (some ⟨g, 0, none⟩) 24 24) :: (3, .int .i64 dp) :: (4, .int .i64 nd) :: (5, .int .i64 3) :: (6, .int .u8 102) :: (7, .bool false) :: []) a := hE
  refine wp_seq ?_
  refine wp_region_lit ?_
  refine ev_ac hE (by decide) ?_
  intro a hE
  refine wpList_nil ?_
  show Code.wp _ _ _ _ _
  refine wp_seq ?_
  refine wp_seq ?_
  refine wp_region_lit ?_
  refine ev_run (w' := w) hE rfl rfl (by decide) (ex_mv (hE.get 6 rfl)) ?_
  intro a hE
  refine ev_run (v := .bool false) (w' := w) hE rfl rfl (by decide) (by simp only [execOp, hE.get 31 rfl]; go_simp) ?_
  intro a hE
  refine ev_run (w' := w) hE rfl rfl (by decide) (ex_mv (hE.get 32 rfl)) ?_
  intro a hE
  refine ev_gon (w' := w) hE rfl rfl (hE.get 33 rfl) rfl (by decide) (ex_mv (hE.get 6 rfl)) ?_
  intro a hE
  refine ev_gon (v := .bool false) (w' := w) hE rfl rfl (hE.get 33 rfl) rfl (by decide) (by simp only [execOp, hE.get 34 rfl]; go_simp) ?_
  intro a hE
  refine ev_run (v := .bool false) (w' := w) hE rfl rfl (by decide) (by rw [ex_pick (b := false) (hE.get 33 rfl)]; have e1 := hE.get 35 rfl; simp only [e1]; rfl) ?_
  intro a hE
  refine wpList_nil ?_
  show Code.wp _ _ _ _ _
  refine wp_cond_split (hE.get 36 rfl) (fun h => by cases h) (fun _ => ?_)
  refine wp_skip ?_
  show Code.wp _ _ _ _ _
  refine wp_seq ?_
  refine wp_seq ?_
  refine wp_region_lit ?_
  refine ev_run (w' := w) hE rfl rfl (by decide) (ex_mv (hE.get 6 rfl)) ?_
  intro a hE
  refine wpList_nil ?_
  show Code.wp _ _ _ _ _
  refine wp_block ?_
  refine wp_seq ?_
  refine wp_seq ?_
  refine wp_region_lit ?_
  refine ev_run (v := .bool false) (w' := w) hE rfl rfl (by decide) (by simp only [execOp, hE.get 74 rfl]; go_simp) ?_
  intro a hE
  refine ev_run (w' := w) hE rfl rfl (by decide) (ex_as (hE.get 76 rfl)) ?_
  intro a hE
  refine wpList_nil ?_
  show Code.wp _ _ _ _ _
  refine wp_cond_split (hE.get 75 rfl) (fun h => by cases h) (fun _ => ?_)
  refine wp_region_lit ?_
  refine ev_run (v := .bool false) (w' := w) hE rfl rfl (by decide) (by simp only [execOp, hE.get 74 rfl]; go_simp) ?_
  intro a hE
  refine ev_run (w' := w) hE rfl rfl (by decide) (ex_as (hE.get 77 rfl)) ?_
  intro a hE
  refine wpList_nil ?_
  show Code.wp _ _ _ _ _
  refine wp_cond_split (hE.get 75 rfl) (fun h => by cases h) (fun _ => ?_)
  refine wp_seq ?_
  refine wp_region_lit ?_
  refine ev_run (v := .bool true) (w' := w) hE rfl rfl (by decide) (by simp only [execOp, hE.get 74 rfl]; go_simp) ?_
  intro a hE
  refine ev_run (w' := w) hE rfl rfl (by decide) (ex_as (hE.get 177 rfl)) ?_
  intro a hE
  refine wpList_nil ?_
  show Code.wp _ _ _ _ _
  refine wp_cond_split (hE.get 176 rfl) (fun _ => ?_) (fun h => by cases h)
  refine wp_seq ?_
  refine wp_seq ?_
  refine wp_region_lit ?_
  refine ev_run (w' := w) hE rfl rfl (by decide) (ex_mv (hE.get 1 rfl)) ?_
  intro a hE
  refine wpList_nil ?_
  show Code.wp _ _ _ _ _
  refine wp_cond_split (hE.get 178 rfl) (fun h => by cases h) (fun _ => ?_)
  refine wp_skip ?_
  show Code.wp _ _ _ _ _
  refine wp_seq ?_
  refine wp_seq ?_
  refine wp_region_lit ?_
  refine ev_run (w' := w) hE rfl rfl (by decide) (ex_mv (hE.get 3 rfl)) ?_
  intro a hE
  refine ev_run (v := .bool (decide (0 < dp))) (w' := w) hE rfl rfl (by decide) (ei_gtr (hE.get 182 rfl) rfl (by rw [decide_eq_decide]; omega)) ?_
  intro a hE
  refine wpList_nil ?_
  show Code.wp _ _ _ _ _
  refine wp_cond_split (hE.get 183 rfl) (fun hb => ?_) (fun hb => ?_)
  · have hp := of_decide_eq_true hb
    have hE : Ev 272 ((0, s) :: (2, .slice (some ⟨g, 0, none⟩) 24 24) :: (3, .int .i64 dp) :: (4, .int .i64 nd) :: (5, .int .i64 3) :: []) a := hE.pick rfl
    refine wp_seq ?_
    refine wp_region_lit ?_
    refine ev_run (w' := w) hE rfl rfl (by decide) (ex_mv (hE.get 4 rfl)) ?_
    intro a hE
    refine ev_run (w' := w) hE rfl rfl (by decide) (ex_mv (hE.get 3 rfl)) ?_
    intro a hE
    refine ev_run (v := .int .i64 ((min nd dp : Nat) : Int)) (w' := w) hE rfl rfl (by decide) (ex_min (hE.get 184 rfl) (hE.get 185 rfl) (by omega)) ?_
    intro a hE
    refine ev_run (w' := w) hE rfl rfl (by decide) (ex_as (hE.get 186 rfl)) ?_
    intro a hE
    refine wpList_nil ?_
    show Code.wp _ _ _ _ _
    generalize hm : min nd dp = m at *
    have hmb : m ≤ 10 := by omega
    refine wp_seq ?_
    refine wp_seq ?_
    refine wp_region_lit ?_
    refine ev_run (w' := w) hE rfl rfl (by decide) (ex_mv (hE.get 2 rfl)) ?_
    intro a hE
    refine ev_run (w' := w) hE rfl rfl (by decide) (ex_mv (hE.get 23 rfl)) ?_
    intro a hE
    refine ev_run (v := .slice (some ⟨g, 0, none⟩) m 24) (w' := w) hE rfl rfl (by decide) ?_ ?_
    · have hs := sl_hi g m (by omega) w
      simp only [execOp, hE.get 187 rfl, Option.map, hE.get 188 rfl]
      exact run_andValue hs
    intro a hE
    refine ev_run hE rfl rfl (by decide) (ex_len Tryd.underlying68 (hE.get 189 rfl)) ?_
    intro a hE
    refine ev_run (v := .int .i64 (0 : Nat)) (w' := w) hE rfl rfl (by decide) (by simp only [execOp]; rfl) ?_
    intro a hE
    refine wpList_nil ?_
    show Code.wp _ _ _ _ _
    refine range_wp2 (N := 272) (n := m) [0, 2, 3, 4, 5, 23, 189] (l0 := ((0, s) :: (2, .slice (some ⟨g, 0, none⟩) 24 24) :: (3, .int .i64 dp) :: (4, .int .i64 nd) :: (5, .int .i64 3) :: (23, .int .i64 m) :: (189, .slice (some ⟨g, 0, none⟩) m 24) :: [])) (fun k l w => ∃ s, l = ((0, s) :: (2, .slice (some ⟨g, 0, none⟩) 24 24) :: (3, .int .i64 dp) :: (4, .int .i64 nd) :: (5, .int .i64 3) :: (23, .int .i64 m) :: (189, .slice (some ⟨g, 0, none⟩) m 24) :: []) ∧ Fx g L B w0 (L.take k) s w) (by omega) (hE.pick rfl) rfl ⟨_, rfl, by rw [List.take_zero]; exact hF⟩ (by decide) (by decide) (by decide) ?_ ?_
    · rintro k l a w hk hE ⟨s, rfl, hF⟩ Q' hQ'
      obtain ⟨b, hb⟩ : ∃ b, L[k]? = some b := ⟨_, List.getElem?_eq_getElem (by omega)⟩
      have hYk : (L.take k).length ≤ 300 := by rw [List.length_take]; omega
      refine wp_block ?_
      refine wp_seq ?_
      refine wp_region_lit ?_
      refine ev_run (v := pt g k) (w' := w) hE rfl rfl (by decide) (ix_u8 (hE.get 189 rfl) (hE.get 191 rfl) (by omega)) ?_
      intro a hE
      refine ev_run (v := .int .u8 (b.toNat : Int)) (w' := w) hE rfl rfl (by decide) (ex_ld (hE.get 193 rfl) ld_u8 (hF.dg.cell hb)) ?_
      intro a hE
      refine ev_run (w' := w) hE rfl rfl (by decide) (ex_as (hE.get 194 rfl)) ?_
      intro a hE
      refine wpList_nil ?_
      show Code.wp _ _ _ _ _
      refine wp_region_lit ?_
      refine ev_mv hE (hE.get 0 rfl) (by decide) ?_
      intro a hE
      refine ev_mv hE (hE.get 25 rfl) (by decide) ?_
      intro a hE
      refine ev_fx (b := b) hE (by first | rfl | exact (hE.get 196 rfl)) (hE.get 195 rfl) (by decide) (by decide) (by decide) hF (by omega) ?_
      intro a s w hF hE
      refine ev_as hE (hE.get 198 rfl) (by decide) ?_
      intro a hE
      refine wpList_nil ?_
      refine hQ' _ a w ?_ (hE.pick ?_) ⟨s, rfl, ?_⟩
      · rfl
      · rfl
      · rw [take_app hb]; exact hF
    rintro l a w hE ⟨s, rfl, hF⟩
    show Code.wp _ _ _ _ _
    refine wp_seq ?_
    refine wp_region_lit ?_
    refine ev_run (w' := w) hE rfl rfl (by decide) (ex_mv (hE.get 3 rfl)) ?_
    intro a hE
    refine ev_run (w' := w) hE rfl rfl (by decide) (ex_mv (hE.get 23 rfl)) ?_
    intro a hE
    refine ev_run (v := .int .i64 ((dp - m : Nat) : Int)) (w' := w) hE rfl rfl (by decide) (ei_sub (hE.get 200 rfl) (hE.get 201 rfl) (by rw [IntKind.wrap_i64]; omega)) ?_
    intro a hE
    refine ev_run (v := .int .i64 (0 : Nat)) (w' := w) hE rfl rfl (by decide) (by simp only [execOp]; rfl) ?_
    intro a hE
    refine wpList_nil ?_
    show Code.wp _ _ _ _ _
    have hXl : (L.take m).length ≤ 20 := by rw [List.length_take]; omega
    generalize hXe : L.take m = X at *
    refine range_wp2 (N := 272) (n := dp - m) [0, 2, 3, 4, 5] (l0 := ((0, s) :: (2, .slice (some ⟨g, 0, none⟩) 24 24) :: (3, .int .i64 dp) :: (4, .int .i64 nd) :: (5, .int .i64 3) :: [])) (fun k l w => ∃ s, l = ((0, s) :: (2, .slice (some ⟨g, 0, none⟩) 24 24) :: (3, .int .i64 dp) :: (4, .int .i64 nd) :: (5, .int .i64 3) :: []) ∧ Fx g L B w0 (X ++ List.replicate k 48) s w) (by omega) (hE.pick rfl) rfl ⟨_, rfl, by rw [List.replicate_zero, List.append_nil]; exact hF⟩ (by decide) (by decide) (by decide) ?_ ?_
    · rintro k l a w hk hE ⟨s, rfl, hF⟩ Q' hQ'
      refine wp_block ?_
      refine wp_region_lit ?_
      have hXk : (X ++ List.replicate k (48 : UInt8)).length ≤ 300 := by rw [List.length_append, List.length_replicate]; omega
      refine ev_mv hE (hE.get 0 rfl) (by decide) ?_
      intro a hE
      refine ev_fx (b := 48) hE (by first | rfl | exact rfl) (hE.get 205 rfl) (by decide) (by decide) (by decide) hF (by omega) ?_
      intro a s w hF hE
      refine ev_as hE (hE.get 207 rfl) (by decide) ?_
      intro a hE
      refine wpList_nil ?_
      refine hQ' _ a w ?_ (hE.pick ?_) ⟨s, rfl, ?_⟩
      · rfl
      · rfl
      · rw [List.replicate_succ', ← List.append_assoc]; exact hF
    rintro l a w hE ⟨s, rfl, hF⟩
    show Code.wp _ _ _ _ _
    refine efg_tail g L B w0 _ s dp nd (by rw [List.length_append, List.length_replicate]; omega) hdp hnd hLl a w (hE.pick rfl) hF (fun s a w hF hE => ?_)
    simp only [Exit.inBlock, Exit.then]
    refine ret_of_ev hE rfl (hE.get 16 rfl) ⟨s, rfl, ?_⟩
    unfold efg
    rw [if_pos hp, hm, hXe]
    exact hF
  · have hp := of_decide_eq_false hb
    refine wp_region_lit ?_
    refine ev_mv hE (hE.get 0 rfl) (by decide) ?_
    intro a hE
    refine ev_fx (b := 48) hE (by first | rfl | exact rfl) (hE.get 209 rfl) (by decide) (by decide) (by decide) hF (by decide) ?_
    intro a s w hF hE
    refine ev_as hE (hE.get 211 rfl) (by decide) ?_
    intro a hE
    refine wpList_nil ?_
    show Code.wp _ _ _ _ _
    refine efg_tail g L B w0 _ s dp nd (by decide) hdp hnd hLl a w (hE.pick rfl) hF (fun s a w hF hE => ?_)
    simp only [Exit.inBlock, Exit.then]
    refine ret_of_ev hE rfl (hE.get 16 rfl) ⟨s, rfl, ?_⟩
    unfold efg
    rw [if_neg hp]
    exact hF
end Go.Proofs.YtkddkmiomhadaaaDoor
