/- The walk of impl.inOrder. -/
import Derived.Test.YtbehijhpichniaaDoorPlu
namespace Go.Proofs.YtbehijhpichniaaDoor
open Go.RowKit
theorem ret_three {P : Program} {w : World} {fn : Func} {tmps : Array Value} {i j k : Nat} {x y z : Value} (hf : fn.results = #[.tmp i, .tmp j, .tmp k]) (h4 : tmps.getD i undef = x) (h5 : tmps.getD j undef = y) (h6 : tmps.getD k undef = z) : (results fn tmps).run P w = .ok (.tuple #[x, y, z]) w := by
  unfold results
  rw [hf]
  simp only [Array.getD_eq_getD_getElem?] at h4 h5 h6
  simp [h4, h5, h6]
set_option maxRecDepth 100000 in
set_option maxHeartbeats 8000000 in
theorem ino_reg {id : Nat} {a0 : Act} {w : World} {Q : Exit → Act → World → Prop} {P SB i g B : Nat} {out : Value} {L : List Nat} (hsz : a0.tmps.size = 39) (h6 : a0.eval (.tmp 6) = out) (h0 : a0.eval (.tmp 0) = .pointer (some ⟨P, 0, none⟩)) (h3 : a0.eval (.tmp 3) = .int .u64 0) (h7 : a0.eval (.tmp 7) = .int .u64 (i : Int)) (c2 : w.cell? ⟨P, 2, none⟩ = some (.slice (some ⟨SB, 0, none⟩) 12 12)) (cb : w.cell? ⟨SB, i, none⟩ = some (.pointer (some ⟨g, 0, none⟩))) (hi : i < 12) (hown : Own (fun g => [Value.pointer (some ⟨g, 0, none⟩)]) 60 1 w B out L) (hB : B ≤ w.heap.size) (hL : L.length ≤ 1000)
    (hK : ∀ (y19 y20 y21 y22 y23 y24 y25 y26 y27 y28 y29 y30 y31 y32 y33 y34 y35 y36 : Value) (v2 : Value) (w' : World), Own (fun g => [Value.pointer (some ⟨g, 0, none⟩)]) 60 1 w' B v2 (L ++ [g]) → Only (fun g => out.ownBlock = some g) w w' → Q .normal ((((((((((((((((((((a0.put (some 19) y19).put (some 20) y20).put (some 21) y21).put (some 22) y22).put (some 23) y23).put (some 24) y24).put (some 25) y25).put (some 26) y26).put (some 27) y27).put (some 28) y28).put (some 29) y29).put (some 30) y30).put (some 31) y31).put (some 32) y32).put (some 33) y33).put (some 34) y34).put (some 35) y35).put (some 36) y36).put (some 37) v2).put (some 6) v2) w') :
    (Code.region id #[{ dst := some 19, op := Op.move (Operand.tmp 6), type := 58, pos := "list.go:199", after := #[], guard := none },
      { dst := some 20, op := Op.move (Operand.tmp 0), type := 51, pos := "list.go:199", after := #[], guard := none },
      { dst := some 21, op := Op.nilCheck (Operand.tmp 20), type := 0, pos := "list.go:199", after := #[{ on := 1, ground := Ground.data }], guard := none },
      { dst := some 22, op := Op.fieldAddr 74 (Operand.tmp 21) 2, type := 0, pos := "list.go:199", after := #[{ on := 2, ground := Ground.data }], guard := none },
      { dst := some 23, op := Op.load 58 (Operand.tmp 22), type := 58, pos := "list.go:199", after := #[{ on := 3, ground := Ground.data }], guard := none },
      { dst := some 24, op := Op.move (Operand.tmp 3), type := 37, pos := "list.go:199", after := #[], guard := none },
      { dst := some 25, op := Op.move (Operand.tmp 7), type := 37, pos := "list.go:199", after := #[], guard := none },
      { dst := some 26, op := Op.binOp BinOp.add 37 (Operand.tmp 24) (Operand.tmp 25) 37, type := 37, pos := "list.go:199", after := #[{ on := 5, ground := Ground.data }, { on := 6, ground := Ground.data }], guard := none },
      { dst := some 27, op := Op.move (Operand.tmp 0), type := 51, pos := "list.go:199", after := #[], guard := none },
      { dst := some 28, op := Op.nilCheck (Operand.tmp 27), type := 0, pos := "list.go:199", after := #[{ on := 8, ground := Ground.data }], guard := none },
      { dst := some 29, op := Op.fieldAddr 74 (Operand.tmp 28) 2, type := 0, pos := "list.go:199", after := #[{ on := 9, ground := Ground.data }], guard := none },
      { dst := some 30, op := Op.load 58 (Operand.tmp 29), type := 58, pos := "list.go:199", after := #[{ on := 10, ground := Ground.data }], guard := none },
      { dst := some 31, op := Op.call { callee := Callee.builtin Builtin.len, args := #[Operand.tmp 30], argTypes := #[58] }, type := 3, pos := "list.go:199", after := #[{ on := 11, ground := Ground.data }], guard := none },
      { dst := some 32, op := Op.convert 3 37 (Operand.tmp 31), type := 37, pos := "list.go:199", after := #[{ on := 12, ground := Ground.data }], guard := none },
      { dst := some 33, op := Op.binOp BinOp.rem 37 (Operand.tmp 26) (Operand.tmp 32) 37, type := 37, pos := "list.go:199", after := #[{ on := 7, ground := Ground.data }, { on := 13, ground := Ground.data }], guard := none },
      { dst := some 34, op := Op.indexAddr 58 (Operand.tmp 23) (Operand.tmp 33), type := 0, pos := "list.go:199", after := #[{ on := 4, ground := Ground.data }, { on := 14, ground := Ground.data }], guard := none },
      { dst := some 35, op := Op.load 60 (Operand.tmp 34), type := 60, pos := "list.go:199", after := #[{ on := 15, ground := Ground.data }], guard := none },
      { dst := some 36, op := Op.buildSlice 58 1 #[(0, Operand.tmp 35)], type := 58, pos := "list.go:199", after := #[{ on := 16, ground := Ground.data }], guard := none },
      { dst := some 37, op := Op.call { callee := Callee.builtin Builtin.append, args := #[Operand.tmp 19, Operand.tmp 36], argTypes := #[58, 58] }, type := 58, pos := "list.go:199", after := #[{ on := 0, ground := Ground.data }, { on := 17, ground := Ground.data }], guard := none },
      { dst := some 6, op := Op.assign (Operand.tmp 37), type := 58, pos := "list.go:199", after := #[{ on := 18, ground := Ground.data }, { on := 18, ground := Ground.chain }, { on := 0, ground := Ground.phase }, { on := 1, ground := Ground.phase }, { on := 2, ground := Ground.phase }, { on := 3, ground := Ground.phase }, { on := 4, ground := Ground.phase }, { on := 5, ground := Ground.phase }, { on := 6, ground := Ground.phase }, { on := 7, ground := Ground.phase }, { on := 8, ground := Ground.phase }, { on := 9, ground := Ground.phase }, { on := 10, ground := Ground.phase }, { on := 11, ground := Ground.phase }, { on := 12, ground := Ground.phase }, { on := 13, ground := Ground.phase }, { on := 14, ground := Ground.phase }, { on := 15, ground := Ground.phase }, { on := 16, ground := Ground.phase }, { on := 17, ground := Ground.phase }, { on := 18, ground := Ground.phase }], guard := none }] true).wp Tryd.prog Q a0 w := by
  obtain ⟨iP, hiP, hzP, hsP, hbP⟩ := info_parts info_seg
  have hi2 : (i : Int) < 12 := by omega
  have hm1 : (i : Int) % 12 = i := by omega
  have hm2 : (i : Int).tmod 12 = i := by rw [Int.tmod_eq_emod_of_nonneg (by omega)]; omega
  refine wp_region_og1 (n := 39) 18 [Asr.eq (out), Asr.eq (.pointer (some ⟨P, 0, none⟩)), Asr.eq (.pointer (some ⟨P, 0, none⟩)), Asr.eq (.pointer (some ⟨P, 2, none⟩)), Asr.eq (.slice (some ⟨SB, 0, none⟩) 12 12), Asr.eq (.int .u64 0), Asr.eq (.int .u64 i), Asr.eq (.int .u64 i), Asr.eq (.pointer (some ⟨P, 0, none⟩)), Asr.eq (.pointer (some ⟨P, 0, none⟩)), Asr.eq (.pointer (some ⟨P, 2, none⟩)), Asr.eq (.slice (some ⟨SB, 0, none⟩) 12 12), Asr.eq (.int .i64 12), Asr.eq (.int .u64 12), Asr.eq (.int .u64 i), Asr.eq (.pointer (some ⟨SB, i, none⟩)), Asr.eq (.pointer (some ⟨g, 0, none⟩)), Asr.blk (fun q => .slice (some ⟨q, 0, none⟩) 1 1) 60 #[.pointer (some ⟨g, 0, none⟩)]] (by kernel_rfl) (by kernel_rfl) (by kernel_rfl) (by simp) (by kernel_rfl) hsz trivial ?_ ?_
  · simp only [List.take_succ_cons, List.take_zero]
    refine ⟨?_, ?_, ?_, ?_, ?_, ?_, ?_, ?_, ?_, ?_, ?_, ?_, ?_, ?_, ?_, ?_, ?_, ?_, trivial⟩
    · intro a wx c
      have e6 : a.eval (.tmp 6) = out := c.outE (by decide +kernel) h6
      clear c
      show Oper.wp _ _ _ _ _ _
      unfold Oper.wp
      simp only [execOp, resolve, e6]
      go_simp; try go_bits
      exact ⟨_, rfl, Only.refl _ _, rfl⟩
    · intro a wx c
      have e0 : a.eval (.tmp 0) = .pointer (some ⟨P, 0, none⟩) := c.outE (by decide +kernel) h0
      clear c
      show Oper.wp _ _ _ _ _ _
      unfold Oper.wp
      simp only [execOp, resolve, e0]
      go_simp; try go_bits
      exact ⟨_, rfl, Only.refl _ _, rfl⟩
    · intro a wx c
      have e20 : a.eval (.tmp 20) = .pointer (some ⟨P, 0, none⟩) := c.slot 1 _ (by decide +kernel) rfl
      clear c
      show Oper.wp _ _ _ _ _ _
      unfold Oper.wp
      simp only [execOp, resolve, e20]
      go_simp; try go_bits
      exact ⟨_, rfl, Only.refl _ _, rfl⟩
    · intro a wx c
      have e21 : a.eval (.tmp 21) = .pointer (some ⟨P, 0, none⟩) := c.slot 2 _ (by decide +kernel) rfl
      clear c
      show Oper.wp _ _ _ _ _ _
      unfold Oper.wp
      simp only [execOp, resolve, e21]
      go_simp; try go_bits
      exact ⟨_, rfl, Only.refl _ _, rfl⟩
    · intro a wx c
      have e22 : a.eval (.tmp 22) = .pointer (some ⟨P, 2, none⟩) := c.slot 3 _ (by decide +kernel) rfl
      have hc := c.cell (p := ⟨P, 2, none⟩) (v := .slice (some ⟨SB, 0, none⟩) 12 12) c2 (fun _ h => h.elim)
      clear c
      show Oper.wp _ _ _ _ _ _
      unfold Oper.wp
      simp only [execOp, resolve, e22]
      go_simp; try go_bits
      exact ⟨_, rfl, Only.refl _ _, rfl⟩
    · intro a wx c
      have e3 : a.eval (.tmp 3) = .int .u64 0 := c.outE (by decide +kernel) h3
      clear c
      show Oper.wp _ _ _ _ _ _
      unfold Oper.wp
      simp only [execOp, resolve, e3]
      go_simp; try go_bits
      exact ⟨_, rfl, Only.refl _ _, rfl⟩
    · intro a wx c
      have e7 : a.eval (.tmp 7) = .int .u64 (i : Int) := c.outE (by decide +kernel) h7
      clear c
      show Oper.wp _ _ _ _ _ _
      unfold Oper.wp
      simp only [execOp, resolve, e7]
      go_simp; try go_bits
      exact ⟨_, rfl, Only.refl _ _, rfl⟩
    · intro a wx c
      have e24 : a.eval (.tmp 24) = .int .u64 0 := c.slot 5 _ (by decide +kernel) rfl
      have e25 : a.eval (.tmp 25) = .int .u64 i := c.slot 6 _ (by decide +kernel) rfl
      clear c
      show Oper.wp _ _ _ _ _ _
      unfold Oper.wp
      simp only [execOp, resolve, e24, e25]
      go_simp; try go_bits
      exact ⟨_, rfl, Only.refl _ _, rfl⟩
    · intro a wx c
      have e0 : a.eval (.tmp 0) = .pointer (some ⟨P, 0, none⟩) := c.outE (by decide +kernel) h0
      clear c
      show Oper.wp _ _ _ _ _ _
      unfold Oper.wp
      simp only [execOp, resolve, e0]
      go_simp; try go_bits
      exact ⟨_, rfl, Only.refl _ _, rfl⟩
    · intro a wx c
      have e27 : a.eval (.tmp 27) = .pointer (some ⟨P, 0, none⟩) := c.slot 8 _ (by decide +kernel) rfl
      clear c
      show Oper.wp _ _ _ _ _ _
      unfold Oper.wp
      simp only [execOp, resolve, e27]
      go_simp; try go_bits
      exact ⟨_, rfl, Only.refl _ _, rfl⟩
    · intro a wx c
      have e28 : a.eval (.tmp 28) = .pointer (some ⟨P, 0, none⟩) := c.slot 9 _ (by decide +kernel) rfl
      clear c
      show Oper.wp _ _ _ _ _ _
      unfold Oper.wp
      simp only [execOp, resolve, e28]
      go_simp; try go_bits
      exact ⟨_, rfl, Only.refl _ _, rfl⟩
    · intro a wx c
      have e29 : a.eval (.tmp 29) = .pointer (some ⟨P, 2, none⟩) := c.slot 10 _ (by decide +kernel) rfl
      have hc := c.cell (p := ⟨P, 2, none⟩) (v := .slice (some ⟨SB, 0, none⟩) 12 12) c2 (fun _ h => h.elim)
      clear c
      show Oper.wp _ _ _ _ _ _
      unfold Oper.wp
      simp only [execOp, resolve, e29]
      go_simp; try go_bits
      exact ⟨_, rfl, Only.refl _ _, rfl⟩
    · intro a wx c
      have e30 : a.eval (.tmp 30) = .slice (some ⟨SB, 0, none⟩) 12 12 := c.slot 11 _ (by decide +kernel) rfl
      clear c
      show Oper.wp _ _ _ _ _ _
      unfold Oper.wp
      simp only [execOp, resolve, List.map_toArray, List.map_cons, List.map_nil, e30]
      go_simp
      exact ⟨_, rfl, Only.refl _ _, rfl⟩
    · intro a wx c
      have e31 : a.eval (.tmp 31) = .int .i64 12 := c.slot 12 _ (by decide +kernel) rfl
      clear c
      show Oper.wp _ _ _ _ _ _
      unfold Oper.wp
      simp only [execOp, resolve, e31]
      go_simp; try go_bits
      exact ⟨_, rfl, Only.refl _ _, rfl⟩
    · intro a wx c
      have e26 : a.eval (.tmp 26) = .int .u64 i := c.slot 7 _ (by decide +kernel) rfl
      have e32 : a.eval (.tmp 32) = .int .u64 12 := c.slot 13 _ (by decide +kernel) rfl
      clear c
      show Oper.wp _ _ _ _ _ _
      unfold Oper.wp
      simp only [execOp, resolve, e26, e32]
      go_simp; try go_bits
      exact ⟨_, rfl, Only.refl _ _, rfl⟩
    · intro a wx c
      have e23 : a.eval (.tmp 23) = .slice (some ⟨SB, 0, none⟩) 12 12 := c.slot 4 _ (by decide +kernel) rfl
      have e33 : a.eval (.tmp 33) = .int .u64 i := c.slot 14 _ (by decide +kernel) rfl
      clear c
      show Oper.wp _ _ _ _ _ _
      unfold Oper.wp
      simp only [execOp, resolve, e23, e33]
      go_simp; try go_bits
      exact ⟨_, rfl, Only.refl _ _, rfl⟩
    · intro a wx c
      have e34 : a.eval (.tmp 34) = .pointer (some ⟨SB, i, none⟩) := c.slot 15 _ (by decide +kernel) rfl
      have hc := c.cell (p := ⟨SB, i, none⟩) (v := .pointer (some ⟨g, 0, none⟩)) cb (fun _ h => h.elim)
      clear c
      show Oper.wp _ _ _ _ _ _
      unfold Oper.wp
      simp only [execOp, resolve, e34]
      go_simp; try go_bits
      exact ⟨_, rfl, Only.refl _ _, rfl⟩
    · intro a wx c
      have e35 : a.eval (.tmp 35) = .pointer (some ⟨g, 0, none⟩) := c.slot 16 _ (by decide +kernel) rfl
      have hsz := c.only.size
      clear c
      show Oper.wp _ _ _ _ _ _
      unfold Oper.wp
      simp only [execOp, List.map_toArray, List.map_cons, List.map_nil, e35]
      go_simp
      exact ⟨_, rfl, Only.of_below ((Below.refl _ _).alloc (Nat.le_refl _) _), _, by simpa using hsz, rfl, heap_alloc_new _ _⟩
  · intro a1 w1 c hbl
    have r0 : a1.eval (.tmp 19) = out := c.slot 0 _ (by decide) rfl
    obtain ⟨q, _, r17, hq⟩ : Asr.holds _ (Asr.blk (fun q => .slice (some ⟨q, 0, none⟩) 1 1) 60 #[.pointer (some ⟨g, 0, none⟩)]) (a1.eval (.tmp 36)) w1 := c.slot 17 _ (by decide) rfl
    have ha := frame_head c [19, 20, 21, 22, 23, 24, 25, 26, 27, 28, 29, 30, 31, 32, 33, 34, 35, 36] (by kernel_rfl)
    have hsz1 := c.size
    clear c
    simp only [List.drop_succ_cons, List.drop_zero]
    refine arm_append (f := fun g => [Value.pointer (some ⟨g, 0, none⟩)]) 58 Tryd.underlying58 hiP hzP hsP hbP (by rfl) (by decide) (fun _ => rfl) (by simp [Value.oneCell']) g r0 r17 hq (hown.below hbl) (Nat.le_trans hB hbl.size) (by omega) (by omega) ?_
    intro v2 w2 ho2 hon2
    refine arm_run rfl (v := v2) (w' := w2) ?_ ?_
    · simp only [execOp]
      rw [ev_eq (by rw [hsz1, hsz]; decide)]
      go_simp
    refine wpList_nil ?_
    rw [ha]
    exact hK _ _ _ _ _ _ _ _ _ _ _ _ _ _ _ _ _ _ v2 w2 ho2 (((Only.of_below (M := fun g => out.ownBlock = some g) hbl).trans hon2).mono fun g _ h => h.elim (fun x => x) (fun x => x))
/-- A slice of segments of the call's own. -/
def Ptrs (w : World) (B : Nat) (v : Value) (L : List Nat) : Prop := Own (fun g => [Value.pointer (some ⟨g, 0, none⟩)]) 60 1 w B v L
theorem zzhead_any (B : Nat) (s : Pl) (w : World) (h : PlAt B s w) : Calls Tryd.prog 48 #[.pointer (some ⟨s.P, 0, none⟩)] w (fun e w' => ∃ n, e = .returned (.tuple #[.int .u64 0, .int .u64 s.segs.length, .int .u64 s.segs.length]) ∧ w' = w.drewN n) := by
  have c14 : w.cell? ⟨s.P, 14, none⟩ = some (.int .u64 0) := cell_of_heap h.pl rfl
  have c15 : w.cell? ⟨s.P, 15, none⟩ = some (.int .u64 s.segs.length) := cell_of_heap h.pl rfl
  have c16 : w.cell? ⟨s.P, 16, none⟩ = some (.int .u64 s.segs.length) := cell_of_heap h.pl rfl
  go_enter Tryd.func48, Tryd.ntmps48
  go_upto_region 1 with fail
  go_quiet (fail)
  go_wp2
  refine bodyPost_ret (ret_three rfl rfl rfl rfl) rfl ?_
  exact ⟨_, rfl, rfl⟩
set_option maxRecDepth 100000 in
set_option maxHeartbeats 8000000 in
theorem inOrder_any (B : Nat) (s : Pl) (w : World) (h : PlAt B s w) : Calls Tryd.prog 31 #[.pointer (some ⟨s.P, 0, none⟩)] w (fun e w' => ∃ v, e = .returned v ∧ Ptrs w' w.heap.size v (s.segs.map Sg.g) ∧ Below w.heap.size w w') := by
  have hz := zzhead_any B s w h
  have hlen := h.len
  go_enter Tryd.func31, Tryd.ntmps31
  go_wp2_with (go_at_call 48; refine hz.mono ?_; rintro e w1 ⟨n, rfl, rfl⟩)
  have hb0 : Below w.heap.size w (w.drewN n) := ⟨rfl, rfl, rfl, Nat.le_refl _, fun _ _ => rfl⟩
  go_loopg [6, 7] (s.segs.length) (fun m out i wx => ∃ k : Nat, k ≤ s.segs.length ∧ m = s.segs.length - k ∧ i = .int .u64 k ∧ Ptrs wx w.heap.size out ((s.segs.map Sg.g).take k) ∧ Below w.heap.size w wx)
  case atStart => exact ⟨0, Nat.zero_le _, rfl, rfl, Own.nil _ _ _ _ _, hb0⟩
  case round =>
    obtain ⟨k, hk, rfl, rfl, hO, hB⟩ := hrel
    clear hb0 hz
    by_cases hlt : k < s.segs.length
    · have hP := h.below hB
      have c2 : wr.cell? ⟨s.P, 2, none⟩ = some (.slice (some ⟨s.SB, 0, none⟩) 12 12) := cell_of_heap hP.pl rfl
      have hkm : k < (s.segs.map Sg.g).length := by simpa using hlt
      have cb : wr.cell? ⟨s.SB, k, none⟩ = some (.pointer (some ⟨(s.segs.map Sg.g)[k]'hkm, 0, none⟩)) := cell_of_heap hP.sb (slots_get hkm)
      have hnx := List.take_succ_eq_append_getElem hkm
      go_upto_region 6 with fail
      refine ino_reg (P := s.P) (SB := s.SB) (i := k) (g := (s.segs.map Sg.g)[k]'hkm) ?_ ?_ ?_ ?_ ?_ c2 cb (by omega) hO hB.size (by rw [List.length_take]; simp; omega) ?_
      · rfl
      · rfl
      · rfl
      · rfl
      · rfl
      intro y19 y20 y21 y22 y23 y24 y25 y26 y27 y28 y29 y30 y31 y32 y33 y34 y35 y36 v2 w2 ho2 hon2
      rw [← hnx] at ho2
      have hB2 : Below w.heap.size w w2 := hB.trans (hon2.below hB.size fun g hg e => by have := (hO.block_lt g e).1; omega)
      clear hO hP c2 cb hB hon2 hnx
      go_frame
      go_wp2_with fail
      go_roundg (s.segs.length - (k + 1))
      case measure => omega
      case rel => exact ⟨k + 1, by omega, rfl, by go_num, ho2, hB2⟩
    · obtain rfl : k = s.segs.length := by omega
      clear hlt
      go_wp2_with fail
      go_ret
      rw [List.take_of_length_le (by simp)] at hO
      exact ⟨_, rfl, hO, hB⟩
end Go.Proofs.YtbehijhpichniaaDoor
