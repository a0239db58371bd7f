/- Joined: Fgq, Fgr, Fgs. -/
import Derived.Test.YtfonjeoiallhhaaGreatDoorB09
/- strconv.setDigits into [32]uint8. Printed by wip/tools/gen_fgq.py. -/
set_option maxRecDepth 100000
namespace Go.Proofs.YtfonjeoiallhhaaGreatDoor.Q3
open Go.Shelf Go.RowKit Go.Sort Go.Lib
/-- The digits' end: behind it zeros alone, at it none. -/
def Lst (nd : Nat) (L : List UInt8) : Prop := (∀ (j : Nat) (b : UInt8), nd ≤ j → L[j]? = some b → b = 48) ∧ ∃ b, L[nd - 1]? = some b ∧ b ≠ 48
def zeros32 : Array Value := Array.replicate 32 (Value.int .u8 0)
theorem zeros32_at (j : Nat) (h : j < 32) : zeros32[j]? = some (Value.int .u8 0) := by unfold zeros32; simp [h]
theorem al_u32b : Al 161 zeros32 := by intro w; unfold zeros32; go_simp; rfl
theorem sl_hi (g n : Nat) (h : n ≤ 32) (w : World) : (Instr.sliceAt 24 (.slice (some ⟨g, 0, none⟩) 32 32) none (some (.int .i64 n)) none).run Tryz.prog w = .ok (.slice (some ⟨g, 0, none⟩) n 32) w := by
 have h0 : (0 : Int) ≤ (n : Int) := by omega
 have h2 : (n : Int) ≤ 32 := by omega
 have h3 : (0 : Nat) ≠ 32 := by decide
 go_simp
def DgAt (g : Nat) (L : List UInt8) (w : World) : Prop := ∃ cs : Array Value, w.heap[g]? = some (.cells cs 161 (0, 0)) ∧ ∀ (j : Nat) (b : UInt8), L[j]? = some b → cs[j]? = some (.int .u8 (b.toNat : Int))
theorem DgAt.cell {g : Nat} {L : List UInt8} {w : World} (h : DgAt g L w) {j : Nat} {b : UInt8} (hb : L[j]? = some b) : w.cell? ⟨g, j, none⟩ = some (.int .u8 (b.toNat : Int)) := by
 obtain ⟨cs, h1, h2⟩ := h
 exact cell_of_heap h1 (h2 j b hb)
theorem putRow_dg (w : World) (g D : Nat) (v' : Nat) (dk : Array UInt8) (k : Nat) (hg : w.heap[g]? = some (.cells zeros32 161 (0, 0))) (hD : nDigits D ≤ 32) (h : FmtInv (nDigits D) D 0 v' dk) : DgAt g (decDigits D) ((putRow (fun (b : UInt8) => Value.int .u8 (b.toNat : Int)) w g 0 dk).drewN k) := by
 refine ⟨putCells (fun (b : UInt8) => Value.int .u8 (b.toNat : Int)) 0 dk zeros32, ?_, fun j b hj => ?_⟩
 ·show (w.heap.modify g _)[g]? = _
  rw [Array.getElem?_modify, if_pos rfl, hg]
  rfl
 ·obtain ⟨hlt, hjb⟩ := List.getElem?_eq_some_iff.1 hj
  have hr := row_is_numeral h j hlt
  have hl : j < nDigits D := by rw [decDigits_length] at hlt; exact hlt
  rw [hjb] at hr
  have hz : zeros32.size = 32 := by simp [zeros32]
  unfold putCells
  rw [Array.getElem?_mapIdx, Array.getElem?_eq_getElem (by omega)]
  simp [h.size, hl, hr]
/-- strconv.setDigits. -/
theorem setDigits_any (g D n : Nat) (hn : nDigits D = n) (h1 : 1 ≤ n) (h7 : n ≤ 20) (hD : D < 10 ^ n) (hD2 : D < 18446744073709551616) (p : Int) (hp : -100 ≤ p ∧ p ≤ 100) (b0 : UInt8) (hb0 : (decDigits D)[0]? = some b0) (hb1 : b0 ≠ 48) (w : World) (hg : w.heap[g]? = some (.cells zeros32 161 (0, 0))) :
  Calls Tryz.prog 90 #[.slice (some ⟨g, 0, none⟩) 32 32, .int .u64 D, .int .i64 p, .int .i64 n] w fun e w' => ∃ nd : Nat, e = .returned (.tuple #[.int .i64 ((n : Int) + p), .int .i64 nd]) ∧ 1 ≤ nd ∧ nd ≤ n ∧ Lst nd (decDigits D) ∧ DgAt g (decDigits D) w' ∧ Only (fun x => x = g) w w' := by
 have hlen : (decDigits D).length = n := by rw [decDigits_length, hn]
 refine calls_of_ev Tryz.func90 rfl (show 4 ≤ 36 from by decide) ?_
 intro a hE
 have hE : Ev 36 ((0, .slice (some ⟨g, 0, none⟩) 32 32) :: (1, .int .u64 D) :: (2, .int .i64 p) :: (3, .int .i64 n) :: []) a := hE

 refine wp_seq ?_
 refine wp_region_lit ?_
 refine ev_ac hE (by decide) ?_
 intro a hE
 refine ev_ac hE (by decide) ?_
 intro a hE
 refine nx1 ?_
 refine wp_seq ?_
 refine wp_seq ?_
 refine wp_region_lit ?_
 refine ev_r (w' := w) hE (ex_mv (hE.get 3 rfl)) fun a hE => ?_
 refine ev_r (w' := w) hE (ex_mv (hE.get 0 rfl)) fun a hE => ?_
 refine ev_r hE (ex_len Tryz.underlying24 (hE.get 11 rfl)) fun a hE => ?_
 refine ev_r (v := .bool true) (w' := w) hE (ei_leq (hE.get 10 rfl) (hE.get 12 rfl) (decide_eq_true (by omega))) fun a hE => ?_
 refine nx1 ?_
 refine wp_cond_split (hE.get 13 rfl) (fun _ => ?_) (fun h => by cases h)
 refine wp_seq ?_
 refine wp_region_lit ?_
 refine ev_r (w' := w) hE (ex_mv (hE.get 0 rfl)) fun a hE => ?_
 refine ev_r (w' := w) hE (ex_mv (hE.get 3 rfl)) fun a hE => ?_
 refine ev_run (v := .slice (some ⟨g, 0, none⟩) n 32) (w' := w) hE rfl rfl (by decide) ?_ ?_
 ·have hs := sl_hi g n (by omega) w
  simp only [execOp, hE.get 14 rfl, Option.map, hE.get 15 rfl]
  exact run_andValue hs
 intro a hE
 refine ev_r (w' := w) hE (ex_mv (hE.get 1 rfl)) fun a hE => ?_
 have hfm := formatBase10_any g 0 32 D (Array.replicate n 0) w (fun j hj => by
  have hj' : j < n := by simpa using hj
  have hz := zeros32_at j (by omega)
  rw [Nat.zero_add]
  refine ⟨?_, frozen_of_heap2 hg⟩
  rw [cell_of_heap hg hz]
  rw [getElem!_pos _ j hj]
  simp) (by rw [Array.size_replicate]; exact hD) (by omega) (by rw [Array.size_replicate]; omega)
 rw [Array.size_replicate] at hfm
 refine ev_call (S := fun u w' => DgAt g (decDigits D) w' ∧ Only (fun x => x = g) w w') hE rfl rfl (by decide) (f := 71) (args := #[.slice (some ⟨g, 0, none⟩) n 32, .int .u64 D]) (by simp only [execOp, resolve, List.map_toArray, List.map_cons, List.map_nil, hE.get 16 rfl, hE.get 17 rfl]; go_simp) (hfm.mono ?_) ?_
 ·rintro e w' ⟨rfl, k, v', dk, rfl, hF⟩
  subst hn
  exact ⟨_, rfl, putRow_dg w g D v' dk k hg (by omega) hF, putRow_only w g dk k⟩
 rintro a u w2 ⟨hdg, ho⟩ hE
 refine nx3 ?_
 refine ev_r (w' := w2) hE (ex_mv (hE.get 3 rfl)) fun a hE => ?_
 refine ev_r (w' := w2) hE (ex_mv (hE.get 2 rfl)) fun a hE => ?_
 refine ev_r (v := .int .i64 ((n : Int) + p)) (w' := w2) hE (ei_add (hE.get 19 rfl) (hE.get 20 rfl) (by rw [IntKind.wrap_i64]; omega)) fun a hE => ?_
 refine ev_r (w' := w2) hE (ex_as (hE.get 21 rfl)) fun a hE => ?_
 refine nx1 ?_
 refine wp_block ?_
 refine wp_loop (fun a wr => wr = w2 ∧ ∃ k : Nat, 1 ≤ k ∧ k ≤ n ∧ (∀ (j : Nat) (b : UInt8), k ≤ j → (decDigits D)[j]? = some b → b = 48) ∧ Ev 36 ((0, .slice (some ⟨g, 0, none⟩) 32 32) :: (8, .int .i64 ((n : Int) + p)) :: (3, .int .i64 k) :: []) a) (fun a _ => (RowKit.intOf (a.eval (.tmp 3))).toNat) ⟨rfl, n, h1, Nat.le_refl _, fun j b hj hb => by have := (List.getElem?_eq_some_iff.1 hb).1; omega, hE.pick rfl⟩ ?_
 rintro a wr ⟨rfl, k, hk1, hkn, hz, hE⟩
 obtain ⟨b, hb⟩ : ∃ b, (decDigits D)[k - 1]? = some b := ⟨_, List.getElem?_eq_getElem (by omega)⟩
 have e3 : a.eval (.tmp 3) = .int .i64 k := hE.get 3 rfl
 refine wp_seq ?_
 refine wp_seq ?_
 refine wp_region_lit ?_
 refine ev_r (w' := wr) hE (ex_mv (hE.get 3 rfl)) fun a hE => ?_
 refine ev_r (v := .bool true) (w' := wr) hE (ei_gtr (hE.get 22 rfl) rfl (decide_eq_true (by omega))) fun a hE => ?_
 refine ev_r (w' := wr) hE (ex_mv (hE.get 23 rfl)) fun a hE => ?_
 refine ev_gon (w' := wr) hE rfl rfl (hE.get 24 rfl) rfl (by decide) (ex_mv (hE.get 0 rfl)) ?_
 intro a hE
 refine ev_gon (w' := wr) hE rfl rfl (hE.get 24 rfl) rfl (by decide) (ex_mv (hE.get 3 rfl)) ?_
 intro a hE
 refine ev_gon (v := .int .i64 ((k - 1 : Nat) : Int)) (w' := wr) hE rfl rfl (hE.get 24 rfl) rfl (by decide) (ei_sub (hE.get 26 rfl) rfl (by rw [IntKind.wrap_i64]; omega)) ?_
 intro a hE
 refine ev_gon (v := pt g (k - 1)) (w' := wr) hE rfl rfl (hE.get 24 rfl) rfl (by decide) (ix_u8 (hE.get 25 rfl) (hE.get 27 rfl) (by omega)) ?_
 intro a hE
 refine ev_gon (v := .int .u8 (b.toNat : Int)) (w' := wr) hE rfl rfl (hE.get 24 rfl) rfl (by decide) (ex_ld (hE.get 28 rfl) ld_u8 (hdg.cell hb)) ?_
 intro a hE
 refine ev_gon (v := .bool ((b.toNat : Int) == 48)) (w' := wr) hE rfl rfl (hE.get 24 rfl) rfl (by decide) (by simp only [execOp, hE.get 29 rfl]; go_simp) ?_
 intro a hE
 refine ev_r (v := .bool ((b.toNat : Int) == 48)) (w' := wr) hE (by rw [ex_pick (b := true) (hE.get 24 rfl)]; have e1 := hE.get 30 rfl; simp only [e1]; rfl) fun a hE => ?_
 refine nx1 ?_
 refine wp_cond_split (hE.get 31 rfl) (fun h => ?_) (fun h => ?_)
 ·have hb48 : b = 48 := by
   have : (b.toNat : Int) = 48 := by simpa using h
   apply UInt8.toNat_inj.1
   show b.toNat = 48
   omega
  have hk2 : 2 ≤ k := by
   by_cases hk : k = 1
   ·subst hk
    rw [show 1 - 1 = 0 from rfl, hb0] at hb
    exact absurd ((Option.some.inj hb).trans hb48) hb1
   ·omega
  refine wp_skip ?_
  show Code.wp _ _ _ _ _
  refine wp_block ?_
  refine wp_region_lit ?_
  refine ev_r (w' := wr) hE (ex_mv (hE.get 3 rfl)) fun a hE => ?_
  refine ev_r (v := .int .i64 ((k - 1 : Nat) : Int)) (w' := wr) hE (ei_sub (hE.get 32 rfl) rfl (by rw [IntKind.wrap_i64]; omega)) fun a hE => ?_
  refine ev_r (w' := wr) hE (ex_as (hE.get 33 rfl)) fun a hE => ?_
  refine wpList_nil ?_
  refine ⟨⟨rfl, k - 1, by omega, by omega, fun j b' hj hb' => ?_, hE.pick rfl⟩, ?_⟩
  ·by_cases hjk : j = k - 1
   ·subst hjk
    rw [hb] at hb'
    rw [← Option.some.inj hb']
    exact hb48
   ·exact hz j b' (by omega) hb'
  ·have h5 := hE.get 3 rfl
   rw [h5, e3]
   simp only [RowKit.intOf]
   omega
 ·refine wp_exit ?_
  simp only [Exit.then, Exit.inBlock, if_true]
  show Code.wp _ _ _ _ _
  refine wp_seq ?_
  refine wp_region_lit ?_
  refine ev_r (w' := wr) hE (ex_mv (hE.get 8 rfl)) fun a hE => ?_
  refine ev_r (w' := wr) hE (ex_mv (hE.get 3 rfl)) fun a hE => ?_
  refine ev_r (w' := wr) hE (ex_as (hE.get 34 rfl)) fun a hE => ?_
  refine ev_r (w' := wr) hE (ex_as (hE.get 35 rfl)) fun a hE => ?_
  refine nx1 ?_
  refine wp_ret ?_
  exact ret2_of_ev hE rfl (hE.get 8 rfl) (hE.get 9 rfl) ⟨k, rfl, hk1, hkn, ⟨hz, b, hb, fun e => by subst e; simp at h⟩, hdg, ho⟩
end Go.Proofs.YtfonjeoiallhhaaGreatDoor.Q3
/- ftoa64's region of numDigits and setDigits into [32]uint8. Printed by wip/tools/gen_fgr.py. -/
set_option maxRecDepth 100000
set_option maxHeartbeats 4000000
namespace Go.Proofs.YtfonjeoiallhhaaGreatDoor
open Go.Shelf Go.RowKit Go.Sort Go.Lib
theorem sl_all32 (g : Nat) (w : World) : (Instr.sliceAt 161 (.pointer (some ⟨g, 0, none⟩)) none none none).run Tryz.prog w = .ok (.slice (some ⟨g, 0, none⟩) 32 32) w := by
 have hal : Tryz.prog.arrayLen 161 = 32 := by simp [Program.arrayLen, Tryz.underlying161]
 rw [run_sliceAt_array_all w 161 ⟨g, 0, none⟩ (by simp [Program.arrayLen, Program.elem, Tryz.underlying161])]
 go_simp
def P5q (p : Int) (g d n : Nat) (v : Value) (w : World) : Prop := ∃ nd : Nat, v = .tuple #[.int .i64 ((n : Int) + p), .int .i64 nd] ∧ 1 ≤ nd ∧ nd ≤ n ∧ Q3.Lst nd (decDigits d) ∧ Q3.DgAt g (decDigits d) w
def Pnq (d n : Nat) (v : Value) : Prop := ∃ nd : Nat, v = .int .i64 nd ∧ 1 ≤ nd ∧ nd ≤ n ∧ Q3.Lst nd (decDigits d)
namespace G2
theorem sd_rgn38 {id g d n : Nat} {a0 : Act} {w : World} {Q : Exit → Act → World → Prop} (hd0 : d ≠ 0) (hd1 : d < 18446744073709551616) (p : Int) (hp : -100 ≤ p ∧ p ≤ 100) (hn : nDigits d = n) (hn3 : 1 ≤ n) (hn7 : n ≤ 20) (hdn : d < 10 ^ n) (b0 : UInt8) (hb0 : (decDigits d)[0]? = some b0) (hb1 : b0 ≠ 48) (hg : w.heap[g]? = some (.cells Q3.zeros32 161 (0, 0))) (hP : ∀ w', Only (fun k => k = g) w w' → PowTab w')
  (hsz : a0.tmps.size = 298) (h25 : a0.eval (.tmp 16) = pt g 0) (h31 : a0.eval (.tmp 20) = .int .u64 d) (h32 : a0.eval (.tmp 21) = .int .i64 p)
  (hK : ∀ a' w' (nd : Nat), a'.tmps.size = 298 → a'.defers = a0.defers → (∀ t, t < 139 → t ≠ 22 → t ≠ 23 → a'.eval (.tmp t) = a0.eval (.tmp t)) → a'.eval (.tmp 22) = .int .i64 ((n : Int) + p) → a'.eval (.tmp 23) = .int .i64 nd → 1 ≤ nd → nd ≤ n → Q3.Lst nd (decDigits d) → Q3.DgAt g (decDigits d) w' → Only (fun k => k = g) w w' → Q .normal a' w') :
  (Code.region id #[{ dst := some 140, op := Op.slice 161 (Operand.tmp 16) none none none, type := 24, pos := "ftoa.go:274", after := #[], guard := none },
   { dst := some 141, op := Op.move (Operand.tmp 20), type := 25, pos := "ftoa.go:274", after := #[], guard := none },
   { dst := some 142, op := Op.move (Operand.tmp 21), type := 3, pos := "ftoa.go:274", after := #[], guard := none },
   { dst := some 143, op := Op.move (Operand.tmp 20), type := 25, pos := "ftoa.go:274", after := #[], guard := none },
   { dst := some 144, op := Op.call { callee := Callee.value (Operand.func 70), args := #[Operand.tmp 143], argTypes := #[25] }, type := 3, pos := "ftoa.go:274", after := #[{ on := 3, ground := Ground.data }], guard := none },
   { dst := some 145, op := Op.call { callee := Callee.value (Operand.func 90), args := #[Operand.tmp 140, Operand.tmp 141, Operand.tmp 142, Operand.tmp 144], argTypes := #[24, 25, 3, 3] }, type := 164, pos := "ftoa.go:274", after := #[{ on := 0, ground := Ground.data }, { on := 1, ground := Ground.data }, { on := 2, ground := Ground.data }, { on := 4, ground := Ground.data }, { on := 4, ground := Ground.chain }], guard := none },
   { dst := some 139, op := Op.move (Operand.tmp 145), type := 164, pos := "ftoa.go:274", after := #[{ on := 5, ground := Ground.data }], guard := none },
   { dst := some 146, op := Op.extract (Operand.tmp 139) 0, type := 3, pos := "ftoa.go:274", after := #[{ on := 6, ground := Ground.data }], guard := none },
   { dst := some 147, op := Op.extract (Operand.tmp 139) 1, type := 3, pos := "ftoa.go:274", after := #[{ on := 6, ground := Ground.data }, { on := 9, ground := Ground.gcOnly Departure.lateStores }], guard := none },
   { dst := some 22, op := Op.assign (Operand.tmp 146), type := 3, pos := "ftoa.go:274", after := #[{ on := 7, ground := Ground.data }, { on := 5, ground := Ground.chain }, { on := 0, ground := Ground.phase }, { on := 1, ground := Ground.phase }, { on := 2, ground := Ground.phase }, { on := 3, ground := Ground.phase }, { on := 4, ground := Ground.phase }, { on := 5, ground := Ground.phase }, { on := 6, ground := Ground.phase }, { on := 7, ground := Ground.phase }, { on := 8, ground := Ground.textOnly Departure.lateStores }], guard := none },
   { dst := some 23, op := Op.assign (Operand.tmp 147), type := 3, pos := "ftoa.go:274", after := #[{ on := 8, ground := Ground.data }, { on := 9, ground := Ground.chain }, { on := 0, ground := Ground.phase }, { on := 1, ground := Ground.phase }, { on := 2, ground := Ground.phase }, { on := 3, ground := Ground.phase }, { on := 4, ground := Ground.phase }, { on := 5, ground := Ground.phase }, { on := 6, ground := Ground.phase }, { on := 7, ground := Ground.phase }, { on := 8, ground := Ground.phase }, { on := 9, ground := Ground.phase }], guard := none }] true).wp Tryz.prog Q a0 w := by
 have hgl := (Array.getElem?_eq_some_iff.1 hg).1
 refine wp_region_ogE (n := 298) [Asr.eq (.slice (some ⟨g, 0, none⟩) 32 32), Asr.eq (.int .u64 d), Asr.eq (.int .i64 p), Asr.eq (.int .u64 d), Asr.eq (.int .i64 n), Asr.any (P5q p g d n), Asr.any (P5q p g d n), Asr.eq (.int .i64 ((n : Int) + p)), Asr.pure (Pnq d n), Asr.eq (.int .i64 ((n : Int) + p)), Asr.pure (Pnq d n)] (fun e k => e = 5 ∧ k = g) (by kernel_rfl) (by kernel_rfl) (by kernel_rfl) hsz (fun e k h => by rw [h.2]; exact hgl) ⟨?_, ?_, trivial⟩ ⟨?_, ?_, ?_, ?_, ?_, ?_, ?_, ?_, ?_, ?_, ?_, trivial⟩ ?_
 ·rintro i _ hne v w1 w2 hB ho ⟨nd, hv, h1, h2, h3, cs, hc, hcs⟩
  exact ⟨nd, hv, h1, h2, h3, cs, by rw [ho.block g (Array.getElem?_eq_some_iff.1 hc).1 (fun h => hne h.1.symm)]; exact hc, hcs⟩
 ·rintro i ha hne v w1 w2 hB ho ⟨nd, hv, h1, h2, h3, cs, hc, hcs⟩
  refine ⟨nd, hv, h1, h2, h3, cs, ?_, hcs⟩
  rw [ho.block g (Array.getElem?_eq_some_iff.1 hc).1 (fun h => ?_)]
  ·exact hc
  ·rw [h.1] at ha
   have hah : ahead #[{ dst := some 140, op := Op.slice 161 (Operand.tmp 16) none none none, type := 24, pos := "ftoa.go:274", after := #[], guard := none },
   { dst := some 141, op := Op.move (Operand.tmp 20), type := 25, pos := "ftoa.go:274", after := #[], guard := none },
   { dst := some 142, op := Op.move (Operand.tmp 21), type := 3, pos := "ftoa.go:274", after := #[], guard := none },
   { dst := some 143, op := Op.move (Operand.tmp 20), type := 25, pos := "ftoa.go:274", after := #[], guard := none },
   { dst := some 144, op := Op.call { callee := Callee.value (Operand.func 70), args := #[Operand.tmp 143], argTypes := #[25] }, type := 3, pos := "ftoa.go:274", after := #[{ on := 3, ground := Ground.data }], guard := none },
   { dst := some 145, op := Op.call { callee := Callee.value (Operand.func 90), args := #[Operand.tmp 140, Operand.tmp 141, Operand.tmp 142, Operand.tmp 144], argTypes := #[24, 25, 3, 3] }, type := 164, pos := "ftoa.go:274", after := #[{ on := 0, ground := Ground.data }, { on := 1, ground := Ground.data }, { on := 2, ground := Ground.data }, { on := 4, ground := Ground.data }, { on := 4, ground := Ground.chain }], guard := none },
   { dst := some 139, op := Op.move (Operand.tmp 145), type := 164, pos := "ftoa.go:274", after := #[{ on := 5, ground := Ground.data }], guard := none },
   { dst := some 146, op := Op.extract (Operand.tmp 139) 0, type := 3, pos := "ftoa.go:274", after := #[{ on := 6, ground := Ground.data }], guard := none },
   { dst := some 147, op := Op.extract (Operand.tmp 139) 1, type := 3, pos := "ftoa.go:274", after := #[{ on := 6, ground := Ground.data }, { on := 9, ground := Ground.gcOnly Departure.lateStores }], guard := none },
   { dst := some 22, op := Op.assign (Operand.tmp 146), type := 3, pos := "ftoa.go:274", after := #[{ on := 7, ground := Ground.data }, { on := 5, ground := Ground.chain }, { on := 0, ground := Ground.phase }, { on := 1, ground := Ground.phase }, { on := 2, ground := Ground.phase }, { on := 3, ground := Ground.phase }, { on := 4, ground := Ground.phase }, { on := 5, ground := Ground.phase }, { on := 6, ground := Ground.phase }, { on := 7, ground := Ground.phase }, { on := 8, ground := Ground.textOnly Departure.lateStores }], guard := none },
   { dst := some 23, op := Op.assign (Operand.tmp 147), type := 3, pos := "ftoa.go:274", after := #[{ on := 8, ground := Ground.data }, { on := 9, ground := Ground.chain }, { on := 0, ground := Ground.phase }, { on := 1, ground := Ground.phase }, { on := 2, ground := Ground.phase }, { on := 3, ground := Ground.phase }, { on := 4, ground := Ground.phase }, { on := 5, ground := Ground.phase }, { on := 6, ground := Ground.phase }, { on := 7, ground := Ground.phase }, { on := 8, ground := Ground.phase }, { on := 9, ground := Ground.phase }], guard := none }] 6 5 = true := by kernel_rfl
   exact absurd (hah.symm.trans ha) (by decide)
 ·intro a wx c
  have e25 : a.eval (.tmp 16) = pt g 0 := c.outE (by decide +kernel) h25
  clear c
  show Oper.wp _ _ _ _ _ _
  have hs := sl_all32 g wx
  exact og_val (by simp only [execOp, e25, Option.map]; exact run_andValue hs) rfl
 ·intro a wx c
  have e31 : a.eval (.tmp 20) = .int .u64 d := c.outE (by decide +kernel) h31
  clear c
  show Oper.wp _ _ _ _ _ _
  exact og_val (ex_mv e31) rfl
 ·intro a wx c
  have e32 : a.eval (.tmp 21) = .int .i64 p := c.outE (by decide +kernel) h32
  clear c
  show Oper.wp _ _ _ _ _ _
  exact og_val (ex_mv e32) rfl
 ·intro a wx c
  have e31 : a.eval (.tmp 20) = .int .u64 d := c.outE (by decide +kernel) h31
  clear c
  show Oper.wp _ _ _ _ _ _
  exact og_val (ex_mv e31) rfl
 ·intro a wx c
  have e233 : a.eval (.tmp 143) = .int .u64 d := c.slot 3 _ (by decide +kernel) rfl
  have hP' := hP wx ((((Only.refl (fun k => k = g) w).drew).trans c.only).mono fun x _ h => by rcases h with h | ⟨_, h⟩ <;> first | exact h | exact h.2)
  clear c
  show Oper.wp _ _ _ _ _ _
  unfold Oper.wp
  simp only [execOp, resolve, List.map_toArray, List.map_cons, List.map_nil, e233]
  go_simp
  have h := numDigits_any d (by omega) (by omega) wx hP'
  rw [hn] at h
  refine h.mono ?_
  rintro e w' ⟨rfl, rfl⟩
  exact ⟨_, rfl, Only.refl _ _, rfl⟩
 ·intro a wx c
  have e230 : a.eval (.tmp 140) = .slice (some ⟨g, 0, none⟩) 32 32 := c.slot 0 _ (by decide +kernel) rfl
  have e231 : a.eval (.tmp 141) = .int .u64 d := c.slot 1 _ (by decide +kernel) rfl
  have e232 : a.eval (.tmp 142) = .int .i64 p := c.slot 2 _ (by decide +kernel) rfl
  have e234 : a.eval (.tmp 144) = .int .i64 n := c.slot 4 _ (by decide +kernel) rfl
  have hgx : wx.heap[g]? = some (.cells Q3.zeros32 161 (0, 0)) := c.heap hg (fun e h => .inl h.1)
  clear c
  show Oper.wp _ _ _ _ _ _
  unfold Oper.wp
  simp only [execOp, resolve, List.map_toArray, List.map_cons, List.map_nil, e230, e231, e232, e234]
  go_simp
  refine (Q3.setDigits_any g d n hn (by omega) hn7 hdn hd1 p hp b0 hb0 hb1 wx hgx).mono ?_
  rintro e w' ⟨nd, rfl, h1, h2, h3, h4, ho⟩
  exact ⟨_, rfl, ho.mono (fun x _ h => ⟨rfl, h⟩), nd, rfl, h1, h2, h3, h4⟩
 ·intro a wx c
  obtain p235 : (P5q p g d n) (a.eval (.tmp 145)) wx := c.slot 5 _ (by decide +kernel) rfl
  clear c
  show Oper.wp _ _ _ _ _ _
  exact og_val (ex_mv rfl) p235
 ·intro a wx c
  obtain p229 : (P5q p g d n) (a.eval (.tmp 139)) wx := c.slot 6 _ (by decide +kernel) rfl
  clear c
  show Oper.wp _ _ _ _ _ _
  obtain ⟨nd, hv, _⟩ := p229
  exact og_val (ei_ext hv rfl) rfl
 ·intro a wx c
  obtain p229 : (P5q p g d n) (a.eval (.tmp 139)) wx := c.slot 6 _ (by decide +kernel) rfl
  clear c
  show Oper.wp _ _ _ _ _ _
  obtain ⟨nd, hv, h1, h2, h3, _⟩ := p229
  exact og_val (ei_ext hv rfl) ⟨nd, rfl, h1, h2, h3⟩
 ·intro a wx c
  have e236 : a.eval (.tmp 146) = .int .i64 ((n : Int) + p) := c.slot 7 _ (by decide +kernel) rfl
  clear c
  show Oper.wp _ _ _ _ _ _
  exact og_val (ex_as e236) rfl
 ·intro a wx c
  obtain p237 : (Pnq d n) (a.eval (.tmp 147)) := c.slot 8 _ (by decide +kernel) rfl
  clear c
  show Oper.wp _ _ _ _ _ _
  exact og_val (ex_as rfl) p237
 ·intro a1 w1 c hon
  have r26 : a1.tmps.getD 22 undef = .int .i64 ((n : Int) + p) := c.slot 9 _ rfl
  obtain ⟨nd, r27, h1, h2, h3⟩ : Pnq d n (a1.tmps.getD 23 undef) := c.slot 10 _ rfl
  obtain ⟨_, _, _, _, _, hdg⟩ : P5q p g d n (a1.tmps.getD 139 undef) w1 := c.slot 6 _ rfl
  refine hK a1 w1 nd (c.size.trans hsz) c.defers (fun t ht h26 h27 => ?_) r26 r27 h1 h2 h3 hdg (hon.mono fun x _ h => by obtain ⟨_, h⟩ := h; exact h.2)
  have := c.out t (by
   intro j o hj hd
   have key : (ogDsts #[{ dst := some 140, op := Op.slice 161 (Operand.tmp 16) none none none, type := 24, pos := "ftoa.go:274", after := #[], guard := none },
   { dst := some 141, op := Op.move (Operand.tmp 20), type := 25, pos := "ftoa.go:274", after := #[], guard := none },
   { dst := some 142, op := Op.move (Operand.tmp 21), type := 3, pos := "ftoa.go:274", after := #[], guard := none },
   { dst := some 143, op := Op.move (Operand.tmp 20), type := 25, pos := "ftoa.go:274", after := #[], guard := none },
   { dst := some 144, op := Op.call { callee := Callee.value (Operand.func 70), args := #[Operand.tmp 143], argTypes := #[25] }, type := 3, pos := "ftoa.go:274", after := #[{ on := 3, ground := Ground.data }], guard := none },
   { dst := some 145, op := Op.call { callee := Callee.value (Operand.func 90), args := #[Operand.tmp 140, Operand.tmp 141, Operand.tmp 142, Operand.tmp 144], argTypes := #[24, 25, 3, 3] }, type := 164, pos := "ftoa.go:274", after := #[{ on := 0, ground := Ground.data }, { on := 1, ground := Ground.data }, { on := 2, ground := Ground.data }, { on := 4, ground := Ground.data }, { on := 4, ground := Ground.chain }], guard := none },
   { dst := some 139, op := Op.move (Operand.tmp 145), type := 164, pos := "ftoa.go:274", after := #[{ on := 5, ground := Ground.data }], guard := none },
   { dst := some 146, op := Op.extract (Operand.tmp 139) 0, type := 3, pos := "ftoa.go:274", after := #[{ on := 6, ground := Ground.data }], guard := none },
   { dst := some 147, op := Op.extract (Operand.tmp 139) 1, type := 3, pos := "ftoa.go:274", after := #[{ on := 6, ground := Ground.data }, { on := 9, ground := Ground.gcOnly Departure.lateStores }], guard := none },
   { dst := some 22, op := Op.assign (Operand.tmp 146), type := 3, pos := "ftoa.go:274", after := #[{ on := 7, ground := Ground.data }, { on := 5, ground := Ground.chain }, { on := 0, ground := Ground.phase }, { on := 1, ground := Ground.phase }, { on := 2, ground := Ground.phase }, { on := 3, ground := Ground.phase }, { on := 4, ground := Ground.phase }, { on := 5, ground := Ground.phase }, { on := 6, ground := Ground.phase }, { on := 7, ground := Ground.phase }, { on := 8, ground := Ground.textOnly Departure.lateStores }], guard := none },
   { dst := some 23, op := Op.assign (Operand.tmp 147), type := 3, pos := "ftoa.go:274", after := #[{ on := 8, ground := Ground.data }, { on := 9, ground := Ground.chain }, { on := 0, ground := Ground.phase }, { on := 1, ground := Ground.phase }, { on := 2, ground := Ground.phase }, { on := 3, ground := Ground.phase }, { on := 4, ground := Ground.phase }, { on := 5, ground := Ground.phase }, { on := 6, ground := Ground.phase }, { on := 7, ground := Ground.phase }, { on := 8, ground := Ground.phase }, { on := 9, ground := Ground.phase }], guard := none }] [22, 23, 139, 140, 141, 142, 143, 144, 145, 146, 147]) = true := by kernel_rfl
   unfold ogDsts at key
   rw [List.all_eq_true] at key
   have := key o (by have := Array.mem_of_getElem? hj; simpa using this)
   rw [hd] at this
   have h9 : (t ∈ [22, 23, 139, 140, 141, 142, 143, 144, 145, 146, 147]) := by simpa using this
   rcases (by decide : ∀ x ∈ [22, 23, 139, 140, 141, 142, 143, 144, 145, 146, 147], x = 22 ∨ x = 23 ∨ 139 ≤ x) t h9 with e | e | e
   ·exact h26 e
   ·exact h27 e
   ·exact absurd ht (Nat.not_lt.2 e))
  simp only [Act.eval, Array.getD_eq_getD_getElem?, this]
end G2
end Go.Proofs.YtfonjeoiallhhaaGreatDoor
/- strconv.ftoa64 at 'f', -1. Printed by wip/tools/gen_fgs.py. -/
set_option maxRecDepth 100000
set_option maxHeartbeats 4000000
namespace Go.Proofs.YtfonjeoiallhhaaGreatDoor
open Go.Shelf Go.RowKit Go.Sort Go.Lib
theorem ftoa64_short (X ex fr mt m d n dp : Nat) (E q : Int) (hX : X < 9223372036854775808) (hex : X / 4503599627370496 = ex) (hex0 : 0 < ex) (hex1 : ex < 2047) (hexb : bits .and .i64 (ex : Int) 2047 = ex) (hfr : X &&& 4503599627370495 = fr) (hmt : fr ||| 4503599627370496 = mt) (hfb : fr < 4503599627370496) (hE0 : (ex : Int) - 1023 = E) (hEb : -10 ≤ E ∧ E ≤ 10) (hlen : Lib.bitLen mt = 53) (hmb : mt < 9007199254740992) (hmt0 : mt ≠ 0) (hm : mt * 2048 = m)
  (B : Nat) (s0 : Value) (w : World) (hB : B ≤ w.heap.size) (hs0 : Own ul 5 1 w B s0 []) (hP : ∀ w', Below w.heap.size w w' → PowTab w')
  (hsf : ∀ w', Below w.heap.size w w' → Calls Tryz.prog 95 #[.int .u64 m, .int .i64 (E - 63)] w' fun x w'' => x = .returned (.tuple #[.int .u64 d, .int .i64 q]) ∧ Below w'.heap.size w' w'')
  (hd0 : d ≠ 0) (hd1 : d < 18446744073709551616) (hqb : -100 ≤ q ∧ q ≤ 100) (hn : nDigits d = n) (hn1 : 1 ≤ n) (hn20 : n ≤ 20) (hdn : d < 10 ^ n) (b0 : UInt8) (hb0 : (decDigits d)[0]? = some b0) (hb1 : b0 ≠ 48) (hdp : (n : Int) + q = (dp : Int)) (hdp10 : dp ≤ 10) (hnd : ∀ nd, Q3.Lst nd (decDigits d) → nd ≤ dp + 3) :
  Calls Tryz.prog 74 #[s0, .float .f64 X, .int .u8 102, .int .i64 (-1)] w fun e w' => ∃ (s : Value) (nd : Nat), e = .returned s ∧ Q3.Lst nd (decDigits d) ∧ 1 ≤ nd ∧ nd ≤ n ∧ Own ul 5 1 w' B s (Q.efg ((nd - dp : Nat) : Int) (decDigits d) dp nd) ∧ Below B w w' := by
 have hlenD : (decDigits d).length = n := by rw [decDigits_length, hn]
 refine calls_of_ev Tryz.func74 rfl (show 4 ≤ 298 from by decide) ?_
 intro a hE
 have hE : Ev 298 ((0, s0) :: (1, .float .f64 X) :: (2, .int .u8 102) :: (3, .int .i64 (-1)) :: []) a := hE
 refine wp_seq ?_
 refine wp_region_lit ?_
 refine ev_ac hE (by decide) ?_
 intro a hE
 refine wpList_nil ?_
 show Code.wp _ _ _ _ _
 refine wp_seq ?_
 refine wp_region_lit ?_
 refine ev_ac hE (by decide) ?_
 intro a hE
 refine wpList_nil ?_
 show Code.wp _ _ _ _ _
 refine wp_seq ?_
 refine wp_region_lit ?_
 refine ev_ac hE (by decide) ?_
 intro a hE
 refine ev_ac hE (by decide) ?_
 intro a hE
 refine ev_ac hE (by decide) ?_
 intro a hE
 refine wpList_nil ?_
 show Code.wp _ _ _ _ _
 refine wp_seq ?_
 refine wp_block ?_
 refine wp_seq ?_
 refine wp_region_lit ?_
 refine ev_r (v := .bool false) (w' := w) hE (by simp only [execOp, ]; go_simp) fun a hE => ?_
 refine ev_r (w' := w) hE (ex_as (hE.get 35 rfl)) fun a hE => ?_
 refine wpList_nil ?_
 show Code.wp _ _ _ _ _
 refine wp_cond_split (hE.get 34 rfl) (fun h => by cases h) (fun _ => ?_)
 refine wp_seq ?_
 refine wp_region_lit ?_
 refine ev_r (v := .bool true) (w' := w) hE (by simp only [execOp, ]; go_simp) fun a hE => ?_
 refine ev_r (w' := w) hE (ex_as (hE.get 41 rfl)) fun a hE => ?_
 refine wpList_nil ?_
 show Code.wp _ _ _ _ _
 refine wp_cond_split (hE.get 40 rfl) (fun _ => ?_) (fun h => by cases h)
 refine wp_seq ?_
 refine wp_region_lit ?_
 refine ev_r (w' := w) hE (ex_mv (hE.get 1 rfl)) fun a hE => ?_
 refine ev_run (v := .int .u64 X) (w' := w) hE rfl rfl (by decide) ?_ ?_
 ·simp only [execOp, resolve, List.map_toArray, List.map_cons, List.map_nil, hE.get 42 rfl]
  first | exact run_f64bits X w | (have h := run_f64bits X w; go_simp; exact h)
 intro a hE
 refine ev_r (w' := w) hE (ex_as (hE.get 43 rfl)) fun a hE => ?_
 refine wpList_nil ?_
 show Code.wp _ _ _ _ _
 refine wp_seq ?_
 refine wp_region_lit ?_
 refine ev_ac hE (by decide) ?_
 intro a hE
 refine wpList_nil ?_
 show Code.wp _ _ _ _ _
 refine wp_seq ?_
 refine wp_region_lit ?_
 refine ev_ac hE (by decide) ?_
 intro a hE
 refine wpList_nil ?_
 show Code.wp _ _ _ _ _
 refine wp_region_lit ?_
 refine ev_ac hE (by decide) ?_
 intro a hE
 refine wpList_nil ?_
 show Code.wp _ _ _ _ _
 have hE : Ev 298 ((0, s0) :: (2, .int .u8 102) :: (3, .int .i64 (-1)) :: (9, .int .u64 X) :: (10, .int .i64 11) :: (11, .int .i64 52) :: (12, .int .i64 (-1023)) :: []) a := hE.pick rfl
 refine wp_seq ?_
 refine wp_region_lit ?_
 refine ev_r (w' := w) hE (ex_mv (hE.get 9 rfl)) fun a hE => ?_
 refine ev_r (w' := w) hE (ex_mv (hE.get 10 rfl)) fun a hE => ?_
 refine ev_r (w' := w) hE (ex_mv (hE.get 11 rfl)) fun a hE => ?_
 refine ev_r (v := .int .i64 63) (w' := w) hE (ei_add (hE.get 45 rfl) (hE.get 46 rfl) (by decide)) fun a hE => ?_
 refine ev_r (v := .int .u64 0) (w' := w) hE (ei_shr (hE.get 44 rfl) (hE.get 47 rfl) (by omega) (by simp only [IntKind.bits]; omega) (by show (X : Int) / 9223372036854775808 = 0; omega)) fun a hE => ?_
 refine ev_r (v := .bool false) (w' := w) hE (by simp only [execOp, hE.get 48 rfl]; go_simp) fun a hE => ?_
 refine ev_r (w' := w) hE (ex_as (hE.get 49 rfl)) fun a hE => ?_
 refine wpList_nil ?_
 show Code.wp _ _ _ _ _
 refine wp_seq ?_
 refine wp_region_quiet_lit (by kernel_rfl) (by kernel_rfl) ?_
 refine qv_run hE rfl rfl (by decide) (fun w hC => (ex_mv (hE.get 9 rfl))) ?_
 intro a hE
 refine qv_run hE rfl rfl (by decide) (fun w hC => (ex_mv (hE.get 11 rfl))) ?_
 intro a hE
 refine qv_run (v := .int .u64 ex) hE rfl rfl (by decide) (fun w hC => (ei_shr (hE.get 50 rfl) (hE.get 51 rfl) (by omega) (by simp only [IntKind.bits]; omega) (by show (X : Int) / 4503599627370496 = ex; omega))) ?_
 intro a hE
 refine qv_run (v := .int .i64 ex) hE rfl rfl (by decide) (fun w hC => ?_) ?_
 ·have hw8 : IntKind.i64.wrap (ex : Int) = ex := by rw [IntKind.wrap_i64]; omega
  simp only [execOp, hE.get 52 rfl]
  go_simp
 intro a hE
 refine qv_run hE rfl rfl (by decide) (fun w hC => (ex_mv (hE.get 10 rfl))) ?_
 intro a hE
 refine qv_run (v := .int .i64 2048) hE rfl rfl (by decide) (fun w hC => (ei_shl rfl (hE.get 54 rfl) (by omega) (by simp only [IntKind.bits]; omega) (by decide))) ?_
 intro a hE
 refine qv_run (v := .int .i64 2047) hE rfl rfl (by decide) (fun w hC => (ei_sub (hE.get 55 rfl) rfl (by decide))) ?_
 intro a hE
 refine qv_run (v := .int .i64 ex) hE rfl rfl (by decide) (fun w hC => (ei_and (hE.get 53 rfl) (hE.get 56 rfl) hexb)) ?_
 intro a hE
 refine qv_run hE rfl rfl (by decide) (fun w hC => (ex_as (hE.get 57 rfl))) ?_
 intro a hE
 refine wpQuiet_nil ?_
 rintro w1 ⟨n1, rfl⟩
 have hb1x : Below w.heap.size w (w.drewN n1) := drewN_below w n1 _
 have hs1 : Own ul 5 1 (w.drewN n1) B s0 [] := hs0.below hb1x
 generalize hw1 : w.drewN n1 = w1 at *
 have hsz1 : w1.heap.size = w.heap.size := by rw [← hw1]; rfl
 clear hw1
 show Code.wp _ _ _ _ _
 refine wp_seq ?_
 refine wp_region_lit ?_
 refine ev_r (w' := w1) hE (ex_mv (hE.get 9 rfl)) fun a hE => ?_
 refine ev_r (w' := w1) hE (ex_mv (hE.get 11 rfl)) fun a hE => ?_
 refine ev_r (v := .int .u64 (4503599627370496 : Nat)) (w' := w1) hE (ei_shl rfl (hE.get 59 rfl) (by omega) (by simp only [IntKind.bits]; omega) (by decide)) fun a hE => ?_
 refine ev_r (v := .int .u64 (4503599627370495 : Nat)) (w' := w1) hE (ei_sub (hE.get 60 rfl) rfl (by decide)) fun a hE => ?_
 refine ev_r (v := .int .u64 fr) (w' := w1) hE (ei_and (hE.get 58 rfl) (hE.get 61 rfl) (by rw [and_u64 X _ (by omega) (by omega), hfr])) fun a hE => ?_
 refine ev_r (w' := w1) hE (ex_as (hE.get 62 rfl)) fun a hE => ?_
 refine wpList_nil ?_
 show Code.wp _ _ _ _ _
 refine wp_seq ?_
 refine wp_seq ?_
 refine wp_region_lit ?_
 refine ev_r (w' := w1) hE (ex_mv (hE.get 14 rfl)) fun a hE => ?_
 refine ev_r (w' := w1) hE (ex_mv (hE.get 10 rfl)) fun a hE => ?_
 refine ev_r (v := .int .i64 2048) (w' := w1) hE (ei_shl rfl (hE.get 64 rfl) (by omega) (by simp only [IntKind.bits]; omega) (by decide)) fun a hE => ?_
 refine ev_r (v := .int .i64 2047) (w' := w1) hE (ei_sub (hE.get 65 rfl) rfl (by decide)) fun a hE => ?_
 refine ev_r (v := .bool false) (w' := w1) hE (by simp only [execOp, hE.get 63 rfl, hE.get 66 rfl]; have hne : ((ex : Int) == 2047) = false := (beq_false_of_ne (by omega)); go_simp) fun a hE => ?_
 refine wpList_nil ?_
 show Code.wp _ _ _ _ _
 refine wp_cond_split (hE.get 67 rfl) (fun h => by cases h) (fun _ => ?_)
 refine wp_skip ?_
 show Code.wp _ _ _ _ _
 refine wp_seq ?_
 refine wp_seq ?_
 refine wp_region_lit ?_
 refine ev_r (w' := w1) hE (ex_mv (hE.get 14 rfl)) fun a hE => ?_
 refine ev_r (v := .bool false) (w' := w1) hE (by simp only [execOp, hE.get 77 rfl]; have hne : ((ex : Int) == 0) = false := (beq_false_of_ne (by omega)); go_simp) fun a hE => ?_
 refine wpList_nil ?_
 show Code.wp _ _ _ _ _
 refine wp_cond_split (hE.get 78 rfl) (fun h => by cases h) (fun _ => ?_)
 refine wp_region_lit ?_
 refine ev_r (w' := w1) hE (ex_mv (hE.get 15 rfl)) fun a hE => ?_
 refine ev_r (w' := w1) hE (ex_mv (hE.get 11 rfl)) fun a hE => ?_
 refine ev_r (v := .int .u64 (4503599627370496 : Nat)) (w' := w1) hE (ei_shl rfl (hE.get 82 rfl) (by omega) (by simp only [IntKind.bits]; omega) (by decide)) fun a hE => ?_
 refine ev_r (v := .int .u64 mt) (w' := w1) hE (ei_or (hE.get 81 rfl) (hE.get 83 rfl) (by rw [or_u64 fr _ (by omega) (by omega), hmt])) fun a hE => ?_
 refine ev_r (w' := w1) hE (ex_as (hE.get 84 rfl)) fun a hE => ?_
 refine wpList_nil ?_
 show Code.wp _ _ _ _ _
 refine wp_seq ?_
 refine wp_region_lit ?_
 refine ev_r (w' := w1) hE (ex_mv (hE.get 14 rfl)) fun a hE => ?_
 refine ev_r (w' := w1) hE (ex_mv (hE.get 12 rfl)) fun a hE => ?_
 refine ev_r (v := .int .i64 E) (w' := w1) hE (ei_add (hE.get 85 rfl) (hE.get 86 rfl) (by rw [← hE0, IntKind.wrap_i64]; omega)) fun a hE => ?_
 refine ev_r (w' := w1) hE (ex_as (hE.get 87 rfl)) fun a hE => ?_
 refine wpList_nil ?_
 show Code.wp _ _ _ _ _
 refine wp_seq ?_
 refine wp_seq ?_
 refine wp_region_lit ?_
 refine ev_r (w' := w1) hE (ex_mv (hE.get 2 rfl)) fun a hE => ?_
 refine ev_r (v := .bool false) (w' := w1) hE (by simp only [execOp, hE.get 88 rfl]; go_simp) fun a hE => ?_
 refine wpList_nil ?_
 show Code.wp _ _ _ _ _
 refine wp_cond_split (hE.get 89 rfl) (fun h => by cases h) (fun _ => ?_)
 refine wp_skip ?_
 show Code.wp _ _ _ _ _
 refine wp_seq ?_
 refine wp_seq ?_
 refine wp_region_lit ?_
 refine ev_r (w' := w1) hE (ex_mv (hE.get 2 rfl)) fun a hE => ?_
 refine ev_r (v := .bool false) (w' := w1) hE (by simp only [execOp, hE.get 97 rfl]; go_simp) fun a hE => ?_
 refine ev_r (w' := w1) hE (ex_mv (hE.get 98 rfl)) fun a hE => ?_
 refine ev_gon (w' := w1) hE rfl rfl (hE.get 99 rfl) rfl (by decide) (ex_mv (hE.get 2 rfl)) ?_
 intro a hE
 refine ev_gon (v := .bool false) (w' := w1) hE rfl rfl (hE.get 99 rfl) rfl (by decide) (by simp only [execOp, hE.get 100 rfl]; go_simp) ?_
 intro a hE
 refine ev_r (v := .bool false) (w' := w1) hE (by rw [ex_pick (b := false) (hE.get 99 rfl)]; have e1 := hE.get 101 rfl; simp only [e1]; rfl) fun a hE => ?_
 refine wpList_nil ?_
 show Code.wp _ _ _ _ _
 refine wp_cond_split (hE.get 102 rfl) (fun h => by cases h) (fun _ => ?_)
 refine wp_skip ?_
 show Code.wp _ _ _ _ _
 refine wp_seq ?_
 refine wp_seq ?_
 refine wp_region_lit ?_
 refine ev_r (w' := w1) hE (ex_mv (hE.get 15 rfl)) fun a hE => ?_
 refine ev_r (v := .bool false) (w' := w1) hE (by simp only [execOp, hE.get 111 rfl]; have hne : ((mt : Int) == 0) = false := (beq_false_of_ne (by exact_mod_cast hmt0)); go_simp) fun a hE => ?_
 refine wpList_nil ?_
 show Code.wp _ _ _ _ _
 refine wp_cond_split (hE.get 112 rfl) (fun h => by cases h) (fun _ => ?_)
 refine wp_skip ?_
 show Code.wp _ _ _ _ _
 refine wp_seq ?_
 refine wp_seq ?_
 refine wp_region_lit ?_
 refine ev_r (w' := w1) hE (ex_mv (hE.get 3 rfl)) fun a hE => ?_
 refine ev_r (v := .bool true) (w' := w1) hE (ei_lss (hE.get 120 rfl) rfl (by decide)) fun a hE => ?_
 refine wpList_nil ?_
 show Code.wp _ _ _ _ _
 refine wp_cond_split (hE.get 121 rfl) (fun _ => ?_) (fun h => by cases h)
 refine wp_seq ?_
 refine wp_region_lit ?_
 refine ev_al hE Q3.al_u32b (by decide) ?_
 intro a w2 hE hg hbl1 hsz2
 generalize hgg : w1.heap.size = g at hE hg
 have hgB : B ≤ g := by omega
 have hbl2 : Below w.heap.size w w2 := hb1x.trans (hbl1.mono (by omega))
 refine wpList_nil ?_
 show Code.wp _ _ _ _ _
 refine wp_seq ?_
 refine wp_region_lit ?_
 refine ev_r (w' := w2) hE (ex_mv (hE.get 15 rfl)) fun a hE => ?_
 refine ev_call (S := fun u w' => u = .int .i64 53 ∧ w2 = w') hE rfl rfl (by decide) (f := 80) (args := #[.int .u64 mt]) (by simp only [execOp, resolve, List.map_toArray, List.map_cons, List.map_nil, hE.get 122 rfl]; go_simp) (Calls.mono (by have h := len64_any mt (by omega) w2; rw [hlen] at h; exact h) (by rintro e w' ⟨rfl, h⟩; exact ⟨_, rfl, rfl, h.symm⟩)) ?_
 rintro a u wx ⟨rfl, rfl⟩ hE
 refine ev_r (v := .int .i64 11) (w' := w2) hE (ei_sub rfl (hE.get 123 rfl) (by decide)) fun a hE => ?_
 refine ev_r (w' := w2) hE (ex_as (hE.get 124 rfl)) fun a hE => ?_
 refine wpList_nil ?_
 show Code.wp _ _ _ _ _
 refine wp_seq ?_
 refine wp_region_lit ?_
 refine ev_r (w' := w2) hE (ex_mv (hE.get 15 rfl)) fun a hE => ?_
 refine ev_r (w' := w2) hE (ex_mv (hE.get 17 rfl)) fun a hE => ?_
 refine ev_r (v := .int .u64 m) (w' := w2) hE (ei_shl (hE.get 125 rfl) (hE.get 126 rfl) (by omega) (by simp only [IntKind.bits]; omega) (by show IntKind.u64.wrap ((mt : Int) * 2048) = m; rw [IntKind.wrap_u64]; omega)) fun a hE => ?_
 refine ev_r (w' := w2) hE (ex_as (hE.get 127 rfl)) fun a hE => ?_
 refine wpList_nil ?_
 show Code.wp _ _ _ _ _
 refine wp_seq ?_
 refine wp_region_lit ?_
 refine ev_r (w' := w2) hE (ex_mv (hE.get 14 rfl)) fun a hE => ?_
 refine ev_r (w' := w2) hE (ex_mv (hE.get 17 rfl)) fun a hE => ?_
 refine ev_r (v := .int .i64 (E - 11)) (w' := w2) hE (ei_sub (hE.get 128 rfl) (hE.get 129 rfl) (by rw [IntKind.wrap_i64]; omega)) fun a hE => ?_
 refine ev_r (w' := w2) hE (ex_as (hE.get 130 rfl)) fun a hE => ?_
 refine wpList_nil ?_
 show Code.wp _ _ _ _ _
 refine wp_seq ?_
 refine wp_region_lit ?_
 refine ev_r (w' := w2) hE (ex_mv (hE.get 18 rfl)) fun a hE => ?_
 refine ev_r (w' := w2) hE (ex_mv (hE.get 19 rfl)) fun a hE => ?_
 refine ev_r (w' := w2) hE (ex_mv (hE.get 11 rfl)) fun a hE => ?_
 refine ev_r (v := .int .i64 (E - 63)) (w' := w2) hE (ei_sub (hE.get 133 rfl) (hE.get 134 rfl) (by rw [IntKind.wrap_i64]; omega)) fun a hE => ?_
 refine ev_call (S := fun u w' => u = .tuple #[.int .u64 d, .int .i64 q] ∧ Below w2.heap.size w2 w') hE rfl rfl (by decide) (f := 95) (args := #[.int .u64 m, .int .i64 (E - 63)]) (by simp only [execOp, resolve, List.map_toArray, List.map_cons, List.map_nil, hE.get 132 rfl, hE.get 135 rfl]; go_simp) (Calls.mono (hsf w2 hbl2) (by rintro x w' ⟨rfl, h⟩; exact ⟨_, rfl, rfl, h⟩)) ?_
 rintro a u w3 ⟨rfl, hb23⟩ hE
 have hg := hp_below hg hb23
 have hbl3 := hbl2.trans (hb23.mono hbl2.size)
 have hg3 : g < w3.heap.size := (Array.getElem?_eq_some_iff.1 hg).1
 refine ev_r (w' := w3) hE (ex_mv (hE.get 136 rfl)) fun a hE => ?_
 refine ev_r (w' := w3) hE (ei_ext (hE.get 131 rfl) rfl) fun a hE => ?_
 refine ev_r (w' := w3) hE (ei_ext (hE.get 131 rfl) rfl) fun a hE => ?_
 refine ev_r (w' := w3) hE (ex_as (hE.get 137 rfl)) fun a hE => ?_
 refine ev_r (w' := w3) hE (ex_as (hE.get 138 rfl)) fun a hE => ?_
 refine wpList_nil ?_
 show Code.wp _ _ _ _ _
 refine wp_seq ?_
 refine G2.sd_rgn38 hd0 hd1 q hqb hn hn1 hn20 hdn b0 hb0 hb1 hg (fun w' ho => hP w' (hbl3.trans (only_bel ho (by omega) (by omega)))) hE.size (hE.get 16 rfl) (hE.get 20 rfl) (hE.get 21 rfl) ?_
 intro a4 w4 nd hs4 hd4 hlow h22 h23 hnd1 hnd2 hz hdga ho4
 rw [hdp] at h22
 have hE : Ev 298 ((0, s0) :: (2, .int .u8 102) :: (13, .bool false) :: (16, pt g 0) :: []) a := hE.pick rfl
 have hE := hE.from2 (m0 := 139) (d1 := 22) (d2 := 23) hs4 hd4 hlow h22 h23 rfl
 have hb4 : Below w.heap.size w w4 := hbl3.trans (only_bel ho4 (by omega) (by omega))
 have hndp := hnd nd hz
 obtain ⟨P, hPd⟩ : ∃ P : Nat, P = nd - dp := ⟨_, rfl⟩
 show Code.wp _ _ _ _ _
 refine wp_seq ?_
 refine wp_seq ?_
 refine wp_region_lit ?_
 refine ev_r (w' := w4) hE (ex_mv (hE.get 2 rfl)) fun a hE => ?_
 refine wpList_nil ?_
 show Code.wp _ _ _ _ _
 refine wp_block ?_
 refine wp_seq ?_
 refine wp_seq ?_
 refine wp_region_lit ?_
 refine ev_r (v := .bool false) (w' := w4) hE (by simp only [execOp, hE.get 148 rfl]; go_simp) fun a hE => ?_
 refine ev_r (w' := w4) hE (ex_as (hE.get 150 rfl)) fun a hE => ?_
 refine wpList_nil ?_
 show Code.wp _ _ _ _ _
 refine wp_cond_split (hE.get 149 rfl) (fun h => by cases h) (fun _ => ?_)
 refine wp_region_lit ?_
 refine ev_r (v := .bool false) (w' := w4) hE (by simp only [execOp, hE.get 148 rfl]; go_simp) fun a hE => ?_
 refine ev_r (w' := w4) hE (ex_as (hE.get 151 rfl)) fun a hE => ?_
 refine wpList_nil ?_
 show Code.wp _ _ _ _ _
 refine wp_cond_split (hE.get 149 rfl) (fun h => by cases h) (fun _ => ?_)
 refine wp_seq ?_
 refine wp_region_lit ?_
 refine ev_r (v := .bool true) (w' := w4) hE (by simp only [execOp, hE.get 148 rfl]; go_simp) fun a hE => ?_
 refine ev_r (w' := w4) hE (ex_as (hE.get 156 rfl)) fun a hE => ?_
 refine wpList_nil ?_
 show Code.wp _ _ _ _ _
 refine wp_cond_split (hE.get 155 rfl) (fun _ => ?_) (fun h => by cases h)
 refine wp_region_lit ?_
 refine ev_r (w' := w4) hE (ex_mv (hE.get 23 rfl)) fun a hE => ?_
 refine ev_r (w' := w4) hE (ex_mv (hE.get 22 rfl)) fun a hE => ?_
 refine ev_r (v := .int .i64 ((nd : Int) - dp)) (w' := w4) hE (ei_sub (hE.get 157 rfl) (hE.get 158 rfl) (by rw [IntKind.wrap_i64]; omega)) fun a hE => ?_
 refine ev_r (v := .int .i64 ((P : Nat) : Int)) (w' := w4) hE (fx_max (hE.get 159 rfl) rfl (by omega)) fun a hE => ?_
 refine ev_r (w' := w4) hE (ex_as (hE.get 160 rfl)) fun a hE => ?_
 refine wpList_nil ?_
 show Code.wp _ _ _ _ _
 refine wp_seq ?_
 refine wp_region_lit ?_
 have hF : Q.Fx g (decDigits d) B w [] s0 w4 := ⟨hs1.below (hbl1.trans ((hb23.mono hbl1.size).trans (only_bel ho4 (by omega) (by omega)))), (fun _ => by obtain ⟨cs, h1, h2⟩ := hdga; exact ⟨cs, _, by decide, h1, h2⟩), hb4.mono hB, Nat.le_trans hB hb4.size⟩
 refine ev_r (w' := w4) hE (ex_mv (hE.get 0 rfl)) fun a hE => ?_
 refine ev_r (w' := w4) hE (ex_mv (hE.get 13 rfl)) fun a hE => ?_
 refine ev_r (v := .slice (some ⟨g, 0, none⟩) 32 32) (w' := w4) hE (by have hs := sl_all32 g w4; simp only [execOp, hE.get 16 rfl, Option.map]; exact run_andValue hs) fun a hE => ?_
 refine ev_r (w' := w4) hE (ex_mv (hE.get 22 rfl)) fun a hE => ?_
 refine ev_r (w' := w4) hE (ex_mv (hE.get 23 rfl)) fun a hE => ?_
 refine ev_r (w' := w4) hE (ex_mv (hE.get 3 rfl)) fun a hE => ?_
 refine ev_r (w' := w4) hE (ex_mv (hE.get 2 rfl)) fun a hE => ?_
 refine ev_call (S := fun u w' => Q.Fx g (decDigits d) B w (Q.efg ((P : Nat) : Int) (decDigits d) dp nd) u w') hE rfl rfl (by decide) (f := 88) (args := #[s0, .bool false, .slice (some ⟨g, 0, none⟩) 32 32, .int .i64 (dp : Nat), .int .i64 nd, .int .i64 ((P : Nat) : Int), .int .u8 102, .bool true]) (by simp only [execOp, resolve, List.map_toArray, List.map_cons, List.map_nil, hE.get 165 rfl, hE.get 166 rfl, hE.get 167 rfl, hE.get 168 rfl, hE.get 169 rfl, hE.get 170 rfl, hE.get 171 rfl]; go_simp) (Q.fmtEFG_any (.slice (some ⟨g, 0, none⟩) 32 32) 32 ((P : Nat) : Int) true (by decide) (by omega) g (decDigits d) B w s0 dp nd hdp10 (by omega) (by omega) (fun _ => rfl) (fun _ e => by rw [e] at hlenD; simp at hlenD; omega) w4 hF) ?_
 intro a s w5 hF5 hE
 refine ev_as hE (hE.get 172 rfl) (by decide) ?_
 intro a hE
 refine wpList_nil ?_
 show Code.wp _ _ _ _ _
 refine wp_ret ?_
 try simp only [Exit.inBlock, Exit.then]
 rw [hPd] at hF5
 exact ret_of_ev hE rfl (hE.get 8 rfl) ⟨s, nd, rfl, hz, hnd1, hnd2, hF5.own, hF5.below⟩
end Go.Proofs.YtfonjeoiallhhaaGreatDoor
