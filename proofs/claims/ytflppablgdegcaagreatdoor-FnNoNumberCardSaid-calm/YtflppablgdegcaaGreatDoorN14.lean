/- Joined: Rs, Dl. -/
import Derived.Test.YtflppablgdegcaaGreatDoorN13
import Derived.Shelf.Bytes.IndexByte
import Derived.Shelf.Bytes.SlIndexAt
/- (*bytes.Buffer).readSlice and ReadString. -/
set_option maxRecDepth 100000
set_option maxHeartbeats 8000000
namespace Go.Proofs.YtflppablgdegcaaGreatDoor
open Go.RowKit
theorem bytesOf_nums (l : List UInt8) : Lib.bytesOf (l.map fun x => (x.toNat : Int)) = l := by
 unfold Lib.bytesOf
 rw [List.map_map]
 conv => rhs; rw [← List.map_id l]
 exact List.map_congr_left fun x _ => by simp
theorem indexByte_line {b : UInt8} : ∀ (ln more : List UInt8), (∀ x ∈ ln, x ≠ b) → Lib.indexByte (ln ++ b :: more) b = ((ln.length : Nat) : Int)
 | [], more, _ => by simp [Lib.indexByte]
 | x :: ln, more, h => by
  have ih := indexByte_line ln more fun y hy => h y (List.mem_cons_of_mem _ hy)
  have hx : (x == b) = false := by simpa using h x (List.mem_cons_self)
  have hne : ((((ln.length : Nat) : Int)) == -1) = false := by rw [beq_eq_false_iff_ne]; omega
  simp only [List.cons_append, Lib.indexByte, hx, ih, hne, Bool.false_eq_true, if_false, List.length_cons]
  omega
theorem indexByte_none {b : UInt8} : ∀ (ln : List UInt8), (∀ x ∈ ln, x ≠ b) → Lib.indexByte ln b = -1
 | [], _ => rfl
 | x :: ln, h => by
  have ih := indexByte_none ln fun y hy => h y (List.mem_cons_of_mem _ hy)
  have hx : (x == b) = false := by simpa using h x (List.mem_cons_self)
  simp [Lib.indexByte, hx, ih]
theorem idxB {H off n cap : Nat} {s : ByteArray} (w : World) (hB : Lib.Bytes w H 0 s) (hs : s.size = n) (ho : off ≤ n) (hc : n ≤ cap) : Calls Tryz.prog 80 #[bsl H off n cap, .int .u8 10] w fun e w' => e = .returned (.int .i64 (Lib.indexByte (s.data.toList.drop off) 10)) ∧ w' = w := by
 have hl : ((s.data.toList.drop off).map fun x : UInt8 => (x.toNat : Int)).length = n - off := by simp only [List.length_map, List.length_drop, len_list, hs]
 have hcl : ∀ p : Addr, (∀ i, i < n - off → p.add i = ⟨H, off + i, none⟩) → Calls Tryz.prog 80 #[.slice (some p) (n - off) (cap - off), .int .u8 10] w fun e w' => e = .returned (.int .i64 (Lib.indexByte (s.data.toList.drop off) 10)) ∧ w' = w := by
  intro p hp
  have h := Any.bytes_IndexByte_at Tryz.lays187 p (n - off) (cap - off) ((s.data.toList.drop off).map fun x => (x.toNat : Int)) 10 w hl (fun i hi => by
   have h1 := hB (off + i) (by omega)
   rw [Nat.zero_add] at h1
   rw [hp i hi, h1, List.getD_eq_getElem?_getD, List.getElem?_map, List.getElem?_drop, at_list (by omega)]
   rfl)
  rw [bytesOf_nums] at h
  exact h
 unfold bsl
 split
 ·exact hcl _ fun i hi => by omega
 ·exact hcl _ fun i hi => by unfold Addr.add; split <;> simp_all
theorem conv_bsl {H i j cap : Nat} {s : ByteArray} (w : World) (hB : Lib.Bytes w H 0 s) (hij : i ≤ j) (hj : j ≤ s.size) (hc : s.size ≤ cap) : (convert 45 9 (bsl H i j cap)).run Tryz.prog w = .ok (.string (s.extract i j)) w := by
 unfold bsl
 split
 ·rename_i h
  have h1 := Lib.run_convert_window (P := Tryz.prog) w _ _ _ Tryz.underlying45 Tryz.underlying5 Tryz.underlying9 H 0 s hB 0 (j - i) (cap - i) (by omega)
  have e : s.extract 0 (0 + (j - i)) = s.extract i j := ba_eq (by
   have : j - i = 0 := by omega
   simp only [this, ByteArray.data_extract, Array.toList_extract]
   simp; omega)
  rw [e] at h1; exact h1
 ·have h1 := Lib.run_convert_window (P := Tryz.prog) w _ _ _ Tryz.underlying45 Tryz.underlying5 Tryz.underlying9 H 0 s hB i (j - i) (cap - i) (by omega)
  rw [Nat.zero_add, show i + (j - i) = j from by omega] at h1; exact h1
/-- A buffer from which some bytes are read. -/
structure BufAt (b H n cap off : Nat) (s : ByteArray) (w : World) : Prop where
 blk : ∃ lr : Int, w.heap[b]? = some (.cells #[.slice (some ⟨H, 0, none⟩) n cap, .int .i64 ((off : Nat) : Int), .int .i8 lr] 84 (0, 0))
 bytes : Lib.Bytes w H 0 s
 size : s.size = n
 cap : n ≤ cap
 le : off ≤ n
 ne : b ≠ H
 lim : n ≤ 100000000
theorem BufAt.keep {b H n cap off : Nat} {s : ByteArray} {w w' : World} {X : Nat → Prop} (h : BufAt b H n cap off s w) (ho : Only X w w') (hb : ¬ X b) (hH : ¬ X H) (hlt : H < w.heap.size) : BufAt b H n cap off s w' := by
 obtain ⟨lr, hk⟩ := h.blk
 refine ⟨⟨lr, by rw [ho.block b (Array.getElem?_eq_some_iff.1 hk).1 hb]; exact hk⟩, fun i hi => ?_, h.size, h.cap, h.le, h.ne, h.lim⟩
 rw [World.cell?_of_block (w := w) (ho.block H hlt hH)]; exact h.bytes i hi
theorem readSlice_line {b H n cap off : Nat} {s : ByteArray} (w : World) (hb : BufAt b H n cap off s w) (hH : H < w.heap.size) {ln more : List UInt8} (hl : s.data.toList.drop off = ln ++ 10 :: more) (hno : ∀ x ∈ ln, x ≠ 10) : Calls Tryz.prog 56 #[pt b 0, .int .u8 10] w fun e w' => ∃ v, e = .returned v ∧ Only (fun q => q = b) w w' ∧ v = .tuple #[bsl H off (off + ln.length + 1) cap, .nilIface] ∧ BufAt b H n cap (off + ln.length + 1) s w' := by
 obtain ⟨lr, hbk⟩ := hb.blk
 have hof := hb.le
 have hca := hb.cap
 have hsz0 := hb.size
 have hlim := hb.lim
 have hdl : ln.length + 1 ≤ n - off := by
  have := congrArg List.length hl
  simp only [List.length_drop, len_list, hsz0, List.length_append, List.length_cons] at this
  omega
 refine calls_of_ev Tryz.func56 rfl (show 2 ≤ 53 from by decide) ?_
 intro a hE
 have hE : Ev 53 ((0, pt b 0) :: (1, .int .u8 10) :: []) a := hE
 have hS : Sv 53 ((0, pt b 0) :: (1, .int .u8 10) :: []) [] (fun q => q = b) w a w := Sv.start hE _ _
 clear hE
 replace hS : Sv 53 ((0, pt b 0) :: (1, .int .u8 10) :: []) [⟨b, #[.slice (some ⟨H, 0, none⟩) n cap, .int .i64 ((off : Nat) : Int), .int .i8 lr], 84, true⟩] (fun q => q = b) w a w := (hS.addB hbk (by intro q hq; cases hq) (fun _ => .inl rfl)).pick rfl
 refine wp_seq ?_
 refine wp_region_lit ?_
 refine sv_r (v := .slice none 0 0) hS ex_ac fun a hS => ?_
 refine sv_r (v := .nilIface) hS ex_ac fun a hS => ?_
 refine wpList_nil ?_
 replace hS := hS.cut [5, 4, 0, 1]
 show Code.wp _ _ _ _ _
 refine wp_seq ?_
 refine wp_region_og1 (n := 53) 10 [Asr.eq (pt b 0), Asr.eq (pt b 0), Asr.eq (pt b 0), Asr.eq (.slice (some ⟨H, 0, none⟩) n cap), Asr.eq (pt b 0), Asr.eq (pt b 0), Asr.eq (pt b 1), Asr.eq (.int .i64 ((off : Nat) : Int)), Asr.eq (bsl H off n cap), Asr.eq (.int .u8 10)] (by kernel_rfl) (by kernel_rfl) (by kernel_rfl) (by simp) (by kernel_rfl) hS.ev.size ⟨⟩ ?_ ?_
 ·simp only [List.take_succ_cons, List.take_zero]
  refine ⟨?_, ?_, ?_, ?_, ?_, ?_, ?_, ?_, ?_, ?_, trivial⟩
  ·intro a wx c
   have e_0 : a.eval (.tmp 0) = pt b 0 := c.outE (by decide +kernel) (hS.get 0 rfl)
   clear c
   exact og_val (ex_mv e_0) rfl
  ·intro a wx c
   have e_8 : a.eval (.tmp 8) = pt b 0 := c.slot 0 _ (by decide +kernel) rfl
   clear c
   exact og_val (ex_nc e_8) rfl
  ·intro a wx c
   have e_9 : a.eval (.tmp 9) = pt b 0 := c.slot 1 _ (by decide +kernel) rfl
   clear c
   exact og_val (ex_fo e_9 fo_bytes_Buffer_0 rfl) rfl
  ·intro a wx c
   have e_10 : a.eval (.tmp 10) = pt b 0 := c.slot 2 _ (by decide +kernel) rfl
   have hO := hS.ogc c
   clear c
   exact og_val (ex_ld e_10 lt_sl_uint8 (cell_of_heap (v := .slice (some ⟨H, 0, none⟩) n cap) (hO.at 0 rfl) rfl)) rfl
  ·intro a wx c
   have e_0 : a.eval (.tmp 0) = pt b 0 := c.outE (by decide +kernel) (hS.get 0 rfl)
   clear c
   exact og_val (ex_mv e_0) rfl
  ·intro a wx c
   have e_12 : a.eval (.tmp 12) = pt b 0 := c.slot 4 _ (by decide +kernel) rfl
   clear c
   exact og_val (ex_nc e_12) rfl
  ·intro a wx c
   have e_13 : a.eval (.tmp 13) = pt b 0 := c.slot 5 _ (by decide +kernel) rfl
   clear c
   exact og_val (ex_fo e_13 fo_bytes_Buffer_1 rfl) rfl
  ·intro a wx c
   have e_14 : a.eval (.tmp 14) = pt b 1 := c.slot 6 _ (by decide +kernel) rfl
   have hO := hS.ogc c
   clear c
   exact og_val (ex_ld e_14 lt_int (cell_of_heap (v := .int .i64 ((off : Nat) : Int)) (hO.at 0 rfl) rfl)) rfl
  ·intro a wx c
   have e_11 : a.eval (.tmp 11) = .slice (some ⟨H, 0, none⟩) n cap := c.slot 3 _ (by decide +kernel) rfl
   have e_15 : a.eval (.tmp 15) = .int .i64 ((off : Nat) : Int) := c.slot 7 _ (by decide +kernel) rfl
   clear c
   exact og_val (ex_bl (E := 5) (i := off) Tryz.underlying45 Tryz.sizeOf5 e_11 e_15 (by omega)) rfl
  ·intro a wx c
   have e_1 : a.eval (.tmp 1) = .int .u8 10 := c.outE (by decide +kernel) (hS.get 1 rfl)
   clear c
   exact og_val (ex_mv e_1) rfl
 ·intro a w1 c hbw1
  replace hS : Sv 53 ((17, .int .u8 10) :: (16, bsl H off n cap) :: (1, .int .u8 10) :: (0, pt b 0) :: (4, .slice none 0 0) :: (5, .nilIface) :: []) [⟨b, #[.slice (some ⟨H, 0, none⟩) n cap, .int .i64 ((off : Nat) : Int), .int .i8 lr], 84, true⟩] (fun q => q = b) w a w1 := (((((((hS.ogh c).know (c.outE (by decide +kernel) (hS.get 5 rfl))).know (c.outE (by decide +kernel) (hS.get 4 rfl))).know (c.outE (by decide +kernel) (hS.get 0 rfl))).know (c.outE (by decide +kernel) (hS.get 1 rfl))).know (c.slot 8 _ (by decide +kernel) rfl)).know (c.slot 9 _ (by decide +kernel) rfl))
  clear c
  simp only [List.drop_succ_cons, List.drop_zero]
  refine sv_callq (v := .int .i64 ((ln.length : Nat) : Int)) hS rfl rfl (by decide) (ex_call2 cf_bytes_IndexByte (hS.get 16 rfl) (hS.get 17 rfl)) (by have h := idxB w1 (by intro i hi; rw [World.cell?_of_block (w := w) (hS.only.block H hH (fun e => hb.ne e.symm))]; exact hb.bytes i hi) hb.size hb.le hb.cap; rw [hl, indexByte_line ln more hno] at h; exact h) ?_
  intro a hS
  refine sv_r (v := .int .i64 ((ln.length : Nat) : Int)) hS (ex_as (hS.get 18 rfl)) fun a hS => ?_
  refine wpList_nil ?_
  replace hS := hS.cut [6, 0, 4, 5]
  show Code.wp _ _ _ _ _
  refine wp_seq ?_
  refine wp_region_lit ?_
  refine sv_r (v := pt b 0) hS (ex_mv (hS.get 0 rfl)) fun a hS => ?_
  refine sv_r (v := pt b 0) hS (ex_nc (hS.get 19 rfl)) fun a hS => ?_
  refine sv_r (v := pt b 1) hS (ex_fo (hS.get 20 rfl) fo_bytes_Buffer_1 rfl) fun a hS => ?_
  refine sv_r (v := .int .i64 ((off : Nat) : Int)) hS (ex_ld (hS.get 21 rfl) lt_int (cell_of_heap (v := .int .i64 ((off : Nat) : Int)) (hS.at 0 rfl) rfl)) fun a hS => ?_
  refine sv_r (v := .int .i64 ((ln.length : Nat) : Int)) hS (ex_mv (hS.get 6 rfl)) fun a hS => ?_
  refine sv_r (v := .int .i64 ((off + ln.length : Nat) : Int)) hS (ei_add (hS.get 22 rfl) (hS.get 23 rfl) (by rw [IntKind.wrap_i64]; omega)) fun a hS => ?_
  refine sv_r (v := .int .i64 (((off + ln.length) + 1 : Nat) : Int)) hS (ei_add (hS.get 24 rfl) rfl (by rw [IntKind.wrap_i64]; omega)) fun a hS => ?_
  refine sv_r (v := .int .i64 (((off + ln.length) + 1 : Nat) : Int)) hS (ex_as (hS.get 25 rfl)) fun a hS => ?_
  replace hS : Sv 53 ((7, .int .i64 (((off + ln.length) + 1 : Nat) : Int)) :: (6, .int .i64 ((ln.length : Nat) : Int)) :: (0, pt b 0) :: (4, .slice none 0 0) :: (5, .nilIface) :: []) [⟨b, #[.slice (some ⟨H, 0, none⟩) n cap, .int .i64 ((off : Nat) : Int), .int .i8 lr], 84, true⟩] (fun q => q = b) w a w1 := hS.pick rfl
  refine nx1 ?_
  refine wp_seq ?_
  refine wp_seq ?_
  refine wp_region_lit ?_
  refine sv_r (v := .int .i64 ((ln.length : Nat) : Int)) hS (ex_mv (hS.get 6 rfl)) fun a hS => ?_
  refine sv_r (v := .bool false) hS (ei_lss (hS.get 26 rfl) rfl (by rw [decide_eq_false_iff_not]; omega)) fun a hS => ?_
  refine wpList_nil ?_
  replace hS := hS.cut [27, 7, 6, 0, 4, 5]
  show Code.wp _ _ _ _ _
  refine cond_f (hS.get 27 rfl) ?_
  refine wp_skip ?_
  show Code.wp _ _ _ _ _
  refine wp_seq ?_
  refine wp_region_og1 (n := 53) 9 [Asr.eq (pt b 0), Asr.eq (pt b 0), Asr.eq (pt b 0), Asr.eq (.slice (some ⟨H, 0, none⟩) n cap), Asr.eq (pt b 0), Asr.eq (pt b 0), Asr.eq (pt b 1), Asr.eq (.int .i64 ((off : Nat) : Int)), Asr.eq (.int .i64 (((off + ln.length) + 1 : Nat) : Int))] (by kernel_rfl) (by kernel_rfl) (by kernel_rfl) (by simp) (by kernel_rfl) hS.ev.size ⟨⟩ ?_ ?_
  ·simp only [List.take_succ_cons, List.take_zero]
   refine ⟨?_, ?_, ?_, ?_, ?_, ?_, ?_, ?_, ?_, trivial⟩
   ·intro a wx c
    have e_0 : a.eval (.tmp 0) = pt b 0 := c.outE (by decide +kernel) (hS.get 0 rfl)
    clear c
    exact og_val (ex_mv e_0) rfl
   ·intro a wx c
    have e_34 : a.eval (.tmp 34) = pt b 0 := c.slot 0 _ (by decide +kernel) rfl
    clear c
    exact og_val (ex_nc e_34) rfl
   ·intro a wx c
    have e_35 : a.eval (.tmp 35) = pt b 0 := c.slot 1 _ (by decide +kernel) rfl
    clear c
    exact og_val (ex_fo e_35 fo_bytes_Buffer_0 rfl) rfl
   ·intro a wx c
    have e_36 : a.eval (.tmp 36) = pt b 0 := c.slot 2 _ (by decide +kernel) rfl
    have hO := hS.ogc c
    clear c
    exact og_val (ex_ld e_36 lt_sl_uint8 (cell_of_heap (v := .slice (some ⟨H, 0, none⟩) n cap) (hO.at 0 rfl) rfl)) rfl
   ·intro a wx c
    have e_0 : a.eval (.tmp 0) = pt b 0 := c.outE (by decide +kernel) (hS.get 0 rfl)
    clear c
    exact og_val (ex_mv e_0) rfl
   ·intro a wx c
    have e_38 : a.eval (.tmp 38) = pt b 0 := c.slot 4 _ (by decide +kernel) rfl
    clear c
    exact og_val (ex_nc e_38) rfl
   ·intro a wx c
    have e_39 : a.eval (.tmp 39) = pt b 0 := c.slot 5 _ (by decide +kernel) rfl
    clear c
    exact og_val (ex_fo e_39 fo_bytes_Buffer_1 rfl) rfl
   ·intro a wx c
    have e_40 : a.eval (.tmp 40) = pt b 1 := c.slot 6 _ (by decide +kernel) rfl
    have hO := hS.ogc c
    clear c
    exact og_val (ex_ld e_40 lt_int (cell_of_heap (v := .int .i64 ((off : Nat) : Int)) (hO.at 0 rfl) rfl)) rfl
   ·intro a wx c
    have e_7 : a.eval (.tmp 7) = .int .i64 (((off + ln.length) + 1 : Nat) : Int) := c.outE (by decide +kernel) (hS.get 7 rfl)
    clear c
    exact og_val (ex_mv e_7) rfl
  ·intro a w2 c hbw2
   replace hS : Sv 53 ((42, .int .i64 (((off + ln.length) + 1 : Nat) : Int)) :: (41, .int .i64 ((off : Nat) : Int)) :: (37, .slice (some ⟨H, 0, none⟩) n cap) :: (5, .nilIface) :: (4, .slice none 0 0) :: (0, pt b 0) :: (6, .int .i64 ((ln.length : Nat) : Int)) :: (7, .int .i64 (((off + ln.length) + 1 : Nat) : Int)) :: (27, .bool false) :: []) [⟨b, #[.slice (some ⟨H, 0, none⟩) n cap, .int .i64 ((off : Nat) : Int), .int .i8 lr], 84, true⟩] (fun q => q = b) w a w2 := ((((((((((hS.ogh c).know (c.outE (by decide +kernel) (hS.get 27 rfl))).know (c.outE (by decide +kernel) (hS.get 7 rfl))).know (c.outE (by decide +kernel) (hS.get 6 rfl))).know (c.outE (by decide +kernel) (hS.get 0 rfl))).know (c.outE (by decide +kernel) (hS.get 4 rfl))).know (c.outE (by decide +kernel) (hS.get 5 rfl))).know (c.slot 3 _ (by decide +kernel) rfl)).know (c.slot 7 _ (by decide +kernel) rfl)).know (c.slot 8 _ (by decide +kernel) rfl))
   clear c
   simp only [List.drop_succ_cons, List.drop_zero]
   refine sv_r (v := bsl H off ((off + ln.length) + 1) cap) hS (ex_blh (E := 5) (i := off) (j := ((off + ln.length) + 1)) Tryz.underlying45 Tryz.sizeOf5 (hS.get 37 rfl) (hS.get 41 rfl) (hS.get 42 rfl) (by omega) (by omega)) fun a hS => ?_
   refine sv_r (v := bsl H off ((off + ln.length) + 1) cap) hS (ex_as (hS.get 43 rfl)) fun a hS => ?_
   refine wpList_nil ?_
   replace hS := hS.cut [4, 5, 0, 6, 7, 27]
   show Code.wp _ _ _ _ _
   refine wp_seq ?_
   refine wp_region_lit ?_
   refine sv_r (v := pt b 0) hS (ex_mv (hS.get 0 rfl)) fun a hS => ?_
   refine sv_r (v := .int .i64 (((off + ln.length) + 1 : Nat) : Int)) hS (ex_mv (hS.get 7 rfl)) fun a hS => ?_
   refine sv_r (v := pt b 0) hS (ex_nc (hS.get 44 rfl)) fun a hS => ?_
   refine sv_r (v := pt b 1) hS (ex_fo (hS.get 46 rfl) fo_bytes_Buffer_1 rfl) fun a hS => ?_
   refine sv_st (i := 0) (v := .int .i64 (((off + ln.length) + 1 : Nat) : Int)) (cs' := #[.slice (some ⟨H, 0, none⟩) n cap, .int .i64 (((off + ln.length) + 1 : Nat) : Int), .int .i8 lr]) (m' := [⟨b, #[.slice (some ⟨H, 0, none⟩) n cap, .int .i64 (((off + ln.length) + 1 : Nat) : Int), .int .i8 lr], 84, true⟩]) hS (su_int _) (hS.get 47 rfl) (hS.get 45 rfl) rfl (show 1 < 3 from by decide) rfl rfl ?_
   intro w3 hty hS
   replace hS : Sv 53 ((4, bsl H off ((off + ln.length) + 1) cap) :: (5, .nilIface) :: (0, pt b 0) :: (6, .int .i64 ((ln.length : Nat) : Int)) :: (7, .int .i64 (((off + ln.length) + 1 : Nat) : Int)) :: (27, .bool false) :: []) [⟨b, #[.slice (some ⟨H, 0, none⟩) n cap, .int .i64 (((off + ln.length) + 1 : Nat) : Int), .int .i8 lr], 84, true⟩] (fun q => q = b) w a w3 := hS.pick rfl
   refine nx3 ?_
   refine sv_r (v := pt b 0) hS (ex_mv (hS.get 0 rfl)) fun a hS => ?_
   refine sv_r (v := pt b 0) hS (ex_nc (hS.get 48 rfl)) fun a hS => ?_
   refine sv_r (v := pt b 2) hS (ex_fo (hS.get 49 rfl) fo_bytes_Buffer_2 rfl) fun a hS => ?_
   refine sv_st (i := 0) (v := .int .i8 (-1)) (cs' := #[.slice (some ⟨H, 0, none⟩) n cap, .int .i64 (((off + ln.length) + 1 : Nat) : Int), .int .i8 (-1)]) (m' := [⟨b, #[.slice (some ⟨H, 0, none⟩) n cap, .int .i64 (((off + ln.length) + 1 : Nat) : Int), .int .i8 (-1)], 84, true⟩]) hS (su_bytes_readOp _) (hS.get 50 rfl) rfl rfl (show 2 < 3 from by decide) rfl rfl ?_
   intro w4 hty hS
   refine wpList_nil ?_
   replace hS := hS.cut [4, 5, 0, 6, 7, 27]
   show Code.wp _ _ _ _ _
   refine wp_seq ?_
   refine wp_region_lit ?_
   refine sv_r (v := bsl H off ((off + ln.length) + 1) cap) hS (ex_mv (hS.get 4 rfl)) fun a hS => ?_
   refine sv_r (v := .nilIface) hS (ex_mv (hS.get 5 rfl)) fun a hS => ?_
   refine sv_r (v := bsl H off ((off + ln.length) + 1) cap) hS (ex_as (hS.get 51 rfl)) fun a hS => ?_
   refine sv_r (v := .nilIface) hS (ex_as (hS.get 52 rfl)) fun a hS => ?_
   refine wpList_nil ?_
   replace hS := hS.cut [5, 4, 0, 6, 7, 27]
   show Code.wp _ _ _ _ _
   refine wp_ret ?_
   try simp only [Exit.inBlock, Exit.then]
   exact ret2_of_ev hS.ev rfl (hS.get 4 rfl) (hS.get 5 rfl) ⟨_, rfl, hS.only, rfl, ⟨_, hS.at 0 rfl⟩, (fun i hi => by rw [World.cell?_of_block (w := w) (hS.only.block H hH (fun e => hb.ne e.symm))]; exact hb.bytes i hi), hb.size, hb.cap, by omega, hb.ne, hb.lim⟩
theorem readStr_line {b H n cap off : Nat} {s : ByteArray} (w : World) (hb : BufAt b H n cap off s w) (hH : H < w.heap.size) {ln more : List UInt8} (hl : s.data.toList.drop off = ln ++ 10 :: more) (hno : ∀ x ∈ ln, x ≠ 10) : Calls Tryz.prog 46 #[pt b 0, .int .u8 10] w fun e w' => ∃ v, e = .returned v ∧ Only (fun q => q = b) w w' ∧ v = .tuple #[.string (s.extract off (off + ln.length + 1)), .nilIface] ∧ BufAt b H n cap (off + ln.length + 1) s w' := by
 have hof := hb.le
 have hca := hb.cap
 have hsz0 := hb.size
 have hlim := hb.lim
 have hdl : ln.length + 1 ≤ n - off := by
  have := congrArg List.length hl
  simp only [List.length_drop, len_list, hsz0, List.length_append, List.length_cons] at this
  omega
 refine calls_of_ev Tryz.func46 rfl (show 2 ≤ 16 from by decide) ?_
 intro a hE
 have hE : Ev 16 ((0, pt b 0) :: (1, .int .u8 10) :: []) a := hE
 have hS : Sv 16 ((0, pt b 0) :: (1, .int .u8 10) :: []) [] (fun q => q = b) w a w := Sv.start hE _ _
 clear hE
 refine wp_seq ?_
 refine wp_region_lit ?_
 refine sv_r (v := .string (⟨#[]⟩)) hS ex_ac fun a hS => ?_
 refine sv_r (v := .nilIface) hS ex_ac fun a hS => ?_
 refine wpList_nil ?_
 replace hS := hS.cut [5, 4, 0, 1]
 show Code.wp _ _ _ _ _
 refine wp_seq ?_
 refine wp_region_lit ?_
 refine sv_r (v := pt b 0) hS (ex_mv (hS.get 0 rfl)) fun a hS => ?_
 refine sv_r (v := .int .u8 10) hS (ex_mv (hS.get 1 rfl)) fun a hS => ?_
 refine sv_callo (X := fun q => q = b) hS rfl rfl (by decide) (ex_call2 cf_bytes_Buffer_readSlice (hS.get 8 rfl) (hS.get 9 rfl)) (readSlice_line w hb hH hl hno) (by intro q hq; cases hq) (fun q hq _ => hq) ?_
 rintro a _ w1 ⟨rfl, hb1⟩ hO1 hS
 refine sv_r (v := .tuple #[bsl H off (off + ln.length + 1) cap, .nilIface]) hS (ex_mv (hS.get 10 rfl)) fun a hS => ?_
 refine sv_r (v := bsl H off (off + ln.length + 1) cap) hS (ei_ext (hS.get 7 rfl) rfl) fun a hS => ?_
 refine sv_r (v := .nilIface) hS (ei_ext (hS.get 7 rfl) rfl) fun a hS => ?_
 refine sv_r (v := bsl H off (off + ln.length + 1) cap) hS (ex_as (hS.get 11 rfl)) fun a hS => ?_
 refine sv_r (v := .nilIface) hS (ex_as (hS.get 12 rfl)) fun a hS => ?_
 refine wpList_nil ?_
 replace hS := hS.cut [5, 6, 4]
 show Code.wp _ _ _ _ _
 refine wp_seq ?_
 refine wp_region_lit ?_
 refine sv_r (v := bsl H off (off + ln.length + 1) cap) hS (ex_mv (hS.get 6 rfl)) fun a hS => ?_
 refine sv_r (v := .string (s.extract off (off + ln.length + 1))) hS (by simp only [execOp, hS.get 13 rfl]; exact run_andValue (conv_bsl _ hb1.bytes (by omega) (by omega) (by omega))) fun a hS => ?_
 refine sv_r (v := .nilIface) hS (ex_mv (hS.get 5 rfl)) fun a hS => ?_
 refine sv_r (v := .string (s.extract off (off + ln.length + 1))) hS (ex_as (hS.get 14 rfl)) fun a hS => ?_
 refine sv_r (v := .nilIface) hS (ex_as (hS.get 15 rfl)) fun a hS => ?_
 replace hS : Sv 16 ((5, .nilIface) :: (4, .string (s.extract off (off + ln.length + 1))) :: []) [] (fun q => q = b) w a w1 := hS.pick rfl
 refine nx1 ?_
 refine wp_ret ?_
 try simp only [Exit.inBlock, Exit.then]
 exact ret2_of_ev hS.ev rfl (hS.get 4 rfl) (hS.get 5 rfl) ⟨_, rfl, hO1, rfl, hb1⟩
theorem readSlice_last {b H n cap off : Nat} {s : ByteArray} (w : World) (hb : BufAt b H n cap off s w) (hH : H < w.heap.size) (hno : ∀ x ∈ s.data.toList.drop off, x ≠ 10) {B : Nat} {G : Ge} (hG : Env B G w) (hbB : B ≤ b) : Calls Tryz.prog 56 #[pt b 0, .int .u8 10] w fun e w' => ∃ v, e = .returned v ∧ Only (fun q => q = b) w w' ∧ v = .tuple #[bsl H off (n) cap, eofV G] ∧ BufAt b H n cap (n) s w' := by
 obtain ⟨lr, hbk⟩ := hb.blk
 have hof := hb.le
 have hca := hb.cap
 have hsz0 := hb.size
 have hlim := hb.lim
 refine calls_of_ev Tryz.func56 rfl (show 2 ≤ 53 from by decide) ?_
 intro a hE
 have hE : Ev 53 ((0, pt b 0) :: (1, .int .u8 10) :: []) a := hE
 have hS : Sv 53 ((0, pt b 0) :: (1, .int .u8 10) :: []) [] (fun q => q = b) w a w := Sv.start hE _ _
 clear hE
 replace hS : Sv 53 ((0, pt b 0) :: (1, .int .u8 10) :: []) [⟨b, #[.slice (some ⟨H, 0, none⟩) n cap, .int .i64 ((off : Nat) : Int), .int .i8 lr], 84, true⟩] (fun q => q = b) w a w := (hS.addB hbk (by intro q hq; cases hq) (fun _ => .inl rfl)).pick rfl
 refine wp_seq ?_
 refine wp_region_lit ?_
 refine sv_r (v := .slice none 0 0) hS ex_ac fun a hS => ?_
 refine sv_r (v := .nilIface) hS ex_ac fun a hS => ?_
 refine wpList_nil ?_
 replace hS := hS.cut [5, 4, 0, 1]
 show Code.wp _ _ _ _ _
 refine wp_seq ?_
 refine wp_region_og1 (n := 53) 10 [Asr.eq (pt b 0), Asr.eq (pt b 0), Asr.eq (pt b 0), Asr.eq (.slice (some ⟨H, 0, none⟩) n cap), Asr.eq (pt b 0), Asr.eq (pt b 0), Asr.eq (pt b 1), Asr.eq (.int .i64 ((off : Nat) : Int)), Asr.eq (bsl H off n cap), Asr.eq (.int .u8 10)] (by kernel_rfl) (by kernel_rfl) (by kernel_rfl) (by simp) (by kernel_rfl) hS.ev.size ⟨⟩ ?_ ?_
 ·simp only [List.take_succ_cons, List.take_zero]
  refine ⟨?_, ?_, ?_, ?_, ?_, ?_, ?_, ?_, ?_, ?_, trivial⟩
  ·intro a wx c
   have e_0 : a.eval (.tmp 0) = pt b 0 := c.outE (by decide +kernel) (hS.get 0 rfl)
   clear c
   exact og_val (ex_mv e_0) rfl
  ·intro a wx c
   have e_8 : a.eval (.tmp 8) = pt b 0 := c.slot 0 _ (by decide +kernel) rfl
   clear c
   exact og_val (ex_nc e_8) rfl
  ·intro a wx c
   have e_9 : a.eval (.tmp 9) = pt b 0 := c.slot 1 _ (by decide +kernel) rfl
   clear c
   exact og_val (ex_fo e_9 fo_bytes_Buffer_0 rfl) rfl
  ·intro a wx c
   have e_10 : a.eval (.tmp 10) = pt b 0 := c.slot 2 _ (by decide +kernel) rfl
   have hO := hS.ogc c
   clear c
   exact og_val (ex_ld e_10 lt_sl_uint8 (cell_of_heap (v := .slice (some ⟨H, 0, none⟩) n cap) (hO.at 0 rfl) rfl)) rfl
  ·intro a wx c
   have e_0 : a.eval (.tmp 0) = pt b 0 := c.outE (by decide +kernel) (hS.get 0 rfl)
   clear c
   exact og_val (ex_mv e_0) rfl
  ·intro a wx c
   have e_12 : a.eval (.tmp 12) = pt b 0 := c.slot 4 _ (by decide +kernel) rfl
   clear c
   exact og_val (ex_nc e_12) rfl
  ·intro a wx c
   have e_13 : a.eval (.tmp 13) = pt b 0 := c.slot 5 _ (by decide +kernel) rfl
   clear c
   exact og_val (ex_fo e_13 fo_bytes_Buffer_1 rfl) rfl
  ·intro a wx c
   have e_14 : a.eval (.tmp 14) = pt b 1 := c.slot 6 _ (by decide +kernel) rfl
   have hO := hS.ogc c
   clear c
   exact og_val (ex_ld e_14 lt_int (cell_of_heap (v := .int .i64 ((off : Nat) : Int)) (hO.at 0 rfl) rfl)) rfl
  ·intro a wx c
   have e_11 : a.eval (.tmp 11) = .slice (some ⟨H, 0, none⟩) n cap := c.slot 3 _ (by decide +kernel) rfl
   have e_15 : a.eval (.tmp 15) = .int .i64 ((off : Nat) : Int) := c.slot 7 _ (by decide +kernel) rfl
   clear c
   exact og_val (ex_bl (E := 5) (i := off) Tryz.underlying45 Tryz.sizeOf5 e_11 e_15 (by omega)) rfl
  ·intro a wx c
   have e_1 : a.eval (.tmp 1) = .int .u8 10 := c.outE (by decide +kernel) (hS.get 1 rfl)
   clear c
   exact og_val (ex_mv e_1) rfl
 ·intro a w1 c hbw1
  replace hS : Sv 53 ((17, .int .u8 10) :: (16, bsl H off n cap) :: (1, .int .u8 10) :: (0, pt b 0) :: (4, .slice none 0 0) :: (5, .nilIface) :: []) [⟨b, #[.slice (some ⟨H, 0, none⟩) n cap, .int .i64 ((off : Nat) : Int), .int .i8 lr], 84, true⟩] (fun q => q = b) w a w1 := (((((((hS.ogh c).know (c.outE (by decide +kernel) (hS.get 5 rfl))).know (c.outE (by decide +kernel) (hS.get 4 rfl))).know (c.outE (by decide +kernel) (hS.get 0 rfl))).know (c.outE (by decide +kernel) (hS.get 1 rfl))).know (c.slot 8 _ (by decide +kernel) rfl)).know (c.slot 9 _ (by decide +kernel) rfl))
  clear c
  simp only [List.drop_succ_cons, List.drop_zero]
  refine sv_callq (v := .int .i64 (-1)) hS rfl rfl (by decide) (ex_call2 cf_bytes_IndexByte (hS.get 16 rfl) (hS.get 17 rfl)) (by have h := idxB w1 (by intro i hi; rw [World.cell?_of_block (w := w) (hS.only.block H hH (fun e => hb.ne e.symm))]; exact hb.bytes i hi) hb.size hb.le hb.cap; rw [indexByte_none _ hno] at h; exact h) ?_
  intro a hS
  refine sv_r (v := .int .i64 (-1)) hS (ex_as (hS.get 18 rfl)) fun a hS => ?_
  refine wpList_nil ?_
  replace hS := hS.cut [6, 0, 4, 5]
  show Code.wp _ _ _ _ _
  refine wp_seq ?_
  refine wp_region_lit ?_
  refine sv_r (v := pt b 0) hS (ex_mv (hS.get 0 rfl)) fun a hS => ?_
  refine sv_r (v := pt b 0) hS (ex_nc (hS.get 19 rfl)) fun a hS => ?_
  refine sv_r (v := pt b 1) hS (ex_fo (hS.get 20 rfl) fo_bytes_Buffer_1 rfl) fun a hS => ?_
  refine sv_r (v := .int .i64 ((off : Nat) : Int)) hS (ex_ld (hS.get 21 rfl) lt_int (cell_of_heap (v := .int .i64 ((off : Nat) : Int)) (hS.at 0 rfl) rfl)) fun a hS => ?_
  refine sv_r (v := .int .i64 (-1)) hS (ex_mv (hS.get 6 rfl)) fun a hS => ?_
  refine sv_r (v := .int .i64 ((off : Int) - 1)) hS (ei_add (hS.get 22 rfl) (hS.get 23 rfl) (by rw [IntKind.wrap_i64]; omega)) fun a hS => ?_
  refine sv_r (v := .int .i64 ((off : Nat) : Int)) hS (ei_add (hS.get 24 rfl) rfl (by rw [IntKind.wrap_i64]; omega)) fun a hS => ?_
  refine sv_r (v := .int .i64 ((off : Nat) : Int)) hS (ex_as (hS.get 25 rfl)) fun a hS => ?_
  replace hS : Sv 53 ((7, .int .i64 ((off : Nat) : Int)) :: (6, .int .i64 (-1)) :: (0, pt b 0) :: (4, .slice none 0 0) :: (5, .nilIface) :: []) [⟨b, #[.slice (some ⟨H, 0, none⟩) n cap, .int .i64 ((off : Nat) : Int), .int .i8 lr], 84, true⟩] (fun q => q = b) w a w1 := hS.pick rfl
  refine nx1 ?_
  refine wp_seq ?_
  refine wp_seq ?_
  refine wp_region_lit ?_
  refine sv_r (v := .int .i64 (-1)) hS (ex_mv (hS.get 6 rfl)) fun a hS => ?_
  refine sv_r (v := .bool true) hS (ei_lss (hS.get 26 rfl) rfl (by decide)) fun a hS => ?_
  refine wpList_nil ?_
  replace hS := hS.cut [27, 7, 6, 0, 4, 5]
  show Code.wp _ _ _ _ _
  refine cond_t (hS.get 27 rfl) ?_
  refine wp_seq ?_
  refine wp_region_lit ?_
  refine sv_r (v := pt b 0) hS (ex_mv (hS.get 0 rfl)) fun a hS => ?_
  refine sv_r (v := pt b 0) hS (ex_nc (hS.get 28 rfl)) fun a hS => ?_
  refine sv_r (v := pt b 0) hS (ex_fo (hS.get 29 rfl) fo_bytes_Buffer_0 rfl) fun a hS => ?_
  refine sv_r (v := .slice (some ⟨H, 0, none⟩) n cap) hS (ex_ld (hS.get 30 rfl) lt_sl_uint8 (cell_of_heap (v := .slice (some ⟨H, 0, none⟩) n cap) (hS.at 0 rfl) rfl)) fun a hS => ?_
  refine sv_r (v := .int .i64 ((n : Nat) : Int)) hS (ex_lenS (E := 5) Tryz.underlying45 (hS.get 31 rfl)) fun a hS => ?_
  refine sv_r (v := .int .i64 ((n : Nat) : Int)) hS (ex_as (hS.get 32 rfl)) fun a hS => ?_
  refine wpList_nil ?_
  replace hS := hS.cut [7, 27, 6, 0, 4, 5]
  show Code.wp _ _ _ _ _
  refine wp_region_lit ?_
  refine sv_r (v := eofV G) hS (ex_ldg lt_error (hG.keep hS.only (fun q hq => by rw [hq]; exact hbB)).eof) fun a hS => ?_
  refine sv_r (v := eofV G) hS (ex_as (hS.get 33 rfl)) fun a hS => ?_
  replace hS : Sv 53 ((5, eofV G) :: (7, .int .i64 ((n : Nat) : Int)) :: (27, .bool true) :: (6, .int .i64 (-1)) :: (0, pt b 0) :: (4, .slice none 0 0) :: []) [⟨b, #[.slice (some ⟨H, 0, none⟩) n cap, .int .i64 ((off : Nat) : Int), .int .i8 lr], 84, true⟩] (fun q => q = b) w a w1 := hS.pick rfl
  refine nx1 ?_
  refine wp_seq ?_
  refine wp_region_og1 (n := 53) 9 [Asr.eq (pt b 0), Asr.eq (pt b 0), Asr.eq (pt b 0), Asr.eq (.slice (some ⟨H, 0, none⟩) n cap), Asr.eq (pt b 0), Asr.eq (pt b 0), Asr.eq (pt b 1), Asr.eq (.int .i64 ((off : Nat) : Int)), Asr.eq (.int .i64 ((n : Nat) : Int))] (by kernel_rfl) (by kernel_rfl) (by kernel_rfl) (by simp) (by kernel_rfl) hS.ev.size ⟨⟩ ?_ ?_
  ·simp only [List.take_succ_cons, List.take_zero]
   refine ⟨?_, ?_, ?_, ?_, ?_, ?_, ?_, ?_, ?_, trivial⟩
   ·intro a wx c
    have e_0 : a.eval (.tmp 0) = pt b 0 := c.outE (by decide +kernel) (hS.get 0 rfl)
    clear c
    exact og_val (ex_mv e_0) rfl
   ·intro a wx c
    have e_34 : a.eval (.tmp 34) = pt b 0 := c.slot 0 _ (by decide +kernel) rfl
    clear c
    exact og_val (ex_nc e_34) rfl
   ·intro a wx c
    have e_35 : a.eval (.tmp 35) = pt b 0 := c.slot 1 _ (by decide +kernel) rfl
    clear c
    exact og_val (ex_fo e_35 fo_bytes_Buffer_0 rfl) rfl
   ·intro a wx c
    have e_36 : a.eval (.tmp 36) = pt b 0 := c.slot 2 _ (by decide +kernel) rfl
    have hO := hS.ogc c
    clear c
    exact og_val (ex_ld e_36 lt_sl_uint8 (cell_of_heap (v := .slice (some ⟨H, 0, none⟩) n cap) (hO.at 0 rfl) rfl)) rfl
   ·intro a wx c
    have e_0 : a.eval (.tmp 0) = pt b 0 := c.outE (by decide +kernel) (hS.get 0 rfl)
    clear c
    exact og_val (ex_mv e_0) rfl
   ·intro a wx c
    have e_38 : a.eval (.tmp 38) = pt b 0 := c.slot 4 _ (by decide +kernel) rfl
    clear c
    exact og_val (ex_nc e_38) rfl
   ·intro a wx c
    have e_39 : a.eval (.tmp 39) = pt b 0 := c.slot 5 _ (by decide +kernel) rfl
    clear c
    exact og_val (ex_fo e_39 fo_bytes_Buffer_1 rfl) rfl
   ·intro a wx c
    have e_40 : a.eval (.tmp 40) = pt b 1 := c.slot 6 _ (by decide +kernel) rfl
    have hO := hS.ogc c
    clear c
    exact og_val (ex_ld e_40 lt_int (cell_of_heap (v := .int .i64 ((off : Nat) : Int)) (hO.at 0 rfl) rfl)) rfl
   ·intro a wx c
    have e_7 : a.eval (.tmp 7) = .int .i64 ((n : Nat) : Int) := c.outE (by decide +kernel) (hS.get 7 rfl)
    clear c
    exact og_val (ex_mv e_7) rfl
  ·intro a w2 c hbw2
   replace hS : Sv 53 ((42, .int .i64 ((n : Nat) : Int)) :: (41, .int .i64 ((off : Nat) : Int)) :: (37, .slice (some ⟨H, 0, none⟩) n cap) :: (4, .slice none 0 0) :: (0, pt b 0) :: (6, .int .i64 (-1)) :: (27, .bool true) :: (7, .int .i64 ((n : Nat) : Int)) :: (5, eofV G) :: []) [⟨b, #[.slice (some ⟨H, 0, none⟩) n cap, .int .i64 ((off : Nat) : Int), .int .i8 lr], 84, true⟩] (fun q => q = b) w a w2 := ((((((((((hS.ogh c).know (c.outE (by decide +kernel) (hS.get 5 rfl))).know (c.outE (by decide +kernel) (hS.get 7 rfl))).know (c.outE (by decide +kernel) (hS.get 27 rfl))).know (c.outE (by decide +kernel) (hS.get 6 rfl))).know (c.outE (by decide +kernel) (hS.get 0 rfl))).know (c.outE (by decide +kernel) (hS.get 4 rfl))).know (c.slot 3 _ (by decide +kernel) rfl)).know (c.slot 7 _ (by decide +kernel) rfl)).know (c.slot 8 _ (by decide +kernel) rfl))
   clear c
   simp only [List.drop_succ_cons, List.drop_zero]
   refine sv_r (v := bsl H off n cap) hS (ex_blh (E := 5) (i := off) (j := n) Tryz.underlying45 Tryz.sizeOf5 (hS.get 37 rfl) (hS.get 41 rfl) (hS.get 42 rfl) (by omega) (by omega)) fun a hS => ?_
   refine sv_r (v := bsl H off n cap) hS (ex_as (hS.get 43 rfl)) fun a hS => ?_
   refine wpList_nil ?_
   replace hS := hS.cut [4, 0, 6, 27, 7, 5]
   show Code.wp _ _ _ _ _
   refine wp_seq ?_
   refine wp_region_lit ?_
   refine sv_r (v := pt b 0) hS (ex_mv (hS.get 0 rfl)) fun a hS => ?_
   refine sv_r (v := .int .i64 ((n : Nat) : Int)) hS (ex_mv (hS.get 7 rfl)) fun a hS => ?_
   refine sv_r (v := pt b 0) hS (ex_nc (hS.get 44 rfl)) fun a hS => ?_
   refine sv_r (v := pt b 1) hS (ex_fo (hS.get 46 rfl) fo_bytes_Buffer_1 rfl) fun a hS => ?_
   refine sv_st (i := 0) (v := .int .i64 ((n : Nat) : Int)) (cs' := #[.slice (some ⟨H, 0, none⟩) n cap, .int .i64 ((n : Nat) : Int), .int .i8 lr]) (m' := [⟨b, #[.slice (some ⟨H, 0, none⟩) n cap, .int .i64 ((n : Nat) : Int), .int .i8 lr], 84, true⟩]) hS (su_int _) (hS.get 47 rfl) (hS.get 45 rfl) rfl (show 1 < 3 from by decide) rfl rfl ?_
   intro w3 hty hS
   refine wpList_nil ?_
   replace hS := hS.cut [4, 0, 6, 27, 7, 5]
   show Code.wp _ _ _ _ _
   refine wp_seq ?_
   refine wp_region_lit ?_
   refine sv_r (v := pt b 0) hS (ex_mv (hS.get 0 rfl)) fun a hS => ?_
   refine sv_r (v := pt b 0) hS (ex_nc (hS.get 48 rfl)) fun a hS => ?_
   refine sv_r (v := pt b 2) hS (ex_fo (hS.get 49 rfl) fo_bytes_Buffer_2 rfl) fun a hS => ?_
   refine sv_st (i := 0) (v := .int .i8 (-1)) (cs' := #[.slice (some ⟨H, 0, none⟩) n cap, .int .i64 ((n : Nat) : Int), .int .i8 (-1)]) (m' := [⟨b, #[.slice (some ⟨H, 0, none⟩) n cap, .int .i64 ((n : Nat) : Int), .int .i8 (-1)], 84, true⟩]) hS (su_bytes_readOp _) (hS.get 50 rfl) rfl rfl (show 2 < 3 from by decide) rfl rfl ?_
   intro w4 hty hS
   replace hS : Sv 53 ((4, bsl H off n cap) :: (0, pt b 0) :: (6, .int .i64 (-1)) :: (27, .bool true) :: (7, .int .i64 ((n : Nat) : Int)) :: (5, eofV G) :: []) [⟨b, #[.slice (some ⟨H, 0, none⟩) n cap, .int .i64 ((n : Nat) : Int), .int .i8 (-1)], 84, true⟩] (fun q => q = b) w a w4 := hS.pick rfl
   refine nx3 ?_
   refine sv_r (v := bsl H off n cap) hS (ex_mv (hS.get 4 rfl)) fun a hS => ?_
   refine sv_r (v := eofV G) hS (ex_mv (hS.get 5 rfl)) fun a hS => ?_
   refine sv_r (v := bsl H off n cap) hS (ex_as (hS.get 51 rfl)) fun a hS => ?_
   refine sv_r (v := eofV G) hS (ex_as (hS.get 52 rfl)) fun a hS => ?_
   refine wpList_nil ?_
   replace hS := hS.cut [5, 4, 0, 6, 27, 7]
   show Code.wp _ _ _ _ _
   refine wp_ret ?_
   try simp only [Exit.inBlock, Exit.then]
   exact ret2_of_ev hS.ev rfl (hS.get 4 rfl) (hS.get 5 rfl) ⟨_, rfl, hS.only, rfl, ⟨_, hS.at 0 rfl⟩, (fun i hi => by rw [World.cell?_of_block (w := w) (hS.only.block H hH (fun e => hb.ne e.symm))]; exact hb.bytes i hi), hb.size, hb.cap, by omega, hb.ne, hb.lim⟩
theorem readStr_last {b H n cap off : Nat} {s : ByteArray} (w : World) (hb : BufAt b H n cap off s w) (hH : H < w.heap.size) (hno : ∀ x ∈ s.data.toList.drop off, x ≠ 10) {B : Nat} {G : Ge} (hG : Env B G w) (hbB : B ≤ b) : Calls Tryz.prog 46 #[pt b 0, .int .u8 10] w fun e w' => ∃ v, e = .returned v ∧ Only (fun q => q = b) w w' ∧ v = .tuple #[.string (s.extract off (n)), eofV G] ∧ BufAt b H n cap (n) s w' := by
 have hof := hb.le
 have hca := hb.cap
 have hsz0 := hb.size
 have hlim := hb.lim
 refine calls_of_ev Tryz.func46 rfl (show 2 ≤ 16 from by decide) ?_
 intro a hE
 have hE : Ev 16 ((0, pt b 0) :: (1, .int .u8 10) :: []) a := hE
 have hS : Sv 16 ((0, pt b 0) :: (1, .int .u8 10) :: []) [] (fun q => q = b) w a w := Sv.start hE _ _
 clear hE
 refine wp_seq ?_
 refine wp_region_lit ?_
 refine sv_r (v := .string (⟨#[]⟩)) hS ex_ac fun a hS => ?_
 refine sv_r (v := .nilIface) hS ex_ac fun a hS => ?_
 refine wpList_nil ?_
 replace hS := hS.cut [5, 4, 0, 1]
 show Code.wp _ _ _ _ _
 refine wp_seq ?_
 refine wp_region_lit ?_
 refine sv_r (v := pt b 0) hS (ex_mv (hS.get 0 rfl)) fun a hS => ?_
 refine sv_r (v := .int .u8 10) hS (ex_mv (hS.get 1 rfl)) fun a hS => ?_
 refine sv_callo (X := fun q => q = b) hS rfl rfl (by decide) (ex_call2 cf_bytes_Buffer_readSlice (hS.get 8 rfl) (hS.get 9 rfl)) (readSlice_last w hb hH hno hG hbB) (by intro q hq; cases hq) (fun q hq _ => hq) ?_
 rintro a _ w1 ⟨rfl, hb1⟩ hO1 hS
 refine sv_r (v := .tuple #[bsl H off (n) cap, eofV G]) hS (ex_mv (hS.get 10 rfl)) fun a hS => ?_
 refine sv_r (v := bsl H off (n) cap) hS (ei_ext (hS.get 7 rfl) rfl) fun a hS => ?_
 refine sv_r (v := eofV G) hS (ei_ext (hS.get 7 rfl) rfl) fun a hS => ?_
 refine sv_r (v := bsl H off (n) cap) hS (ex_as (hS.get 11 rfl)) fun a hS => ?_
 refine sv_r (v := eofV G) hS (ex_as (hS.get 12 rfl)) fun a hS => ?_
 refine wpList_nil ?_
 replace hS := hS.cut [5, 6, 4]
 show Code.wp _ _ _ _ _
 refine wp_seq ?_
 refine wp_region_lit ?_
 refine sv_r (v := bsl H off (n) cap) hS (ex_mv (hS.get 6 rfl)) fun a hS => ?_
 refine sv_r (v := .string (s.extract off (n))) hS (by simp only [execOp, hS.get 13 rfl]; exact run_andValue (conv_bsl _ hb1.bytes (by omega) (by omega) (by omega))) fun a hS => ?_
 refine sv_r (v := eofV G) hS (ex_mv (hS.get 5 rfl)) fun a hS => ?_
 refine sv_r (v := .string (s.extract off (n))) hS (ex_as (hS.get 14 rfl)) fun a hS => ?_
 refine sv_r (v := eofV G) hS (ex_as (hS.get 15 rfl)) fun a hS => ?_
 replace hS : Sv 16 ((5, eofV G) :: (4, .string (s.extract off (n))) :: []) [] (fun q => q = b) w a w1 := hS.pick rfl
 refine nx1 ?_
 refine wp_ret ?_
 try simp only [Exit.inBlock, Exit.then]
 exact ret2_of_ev hS.ev rfl (hS.get 4 rfl) (hS.get 5 rfl) ⟨_, rfl, hO1, rfl, hb1⟩
end Go.Proofs.YtflppablgdegcaaGreatDoor
/- decodeLineOfMediaPlaylist: the head's lines. -/
set_option maxRecDepth 100000
set_option maxHeartbeats 8000000
namespace Go.Proofs.YtflppablgdegcaaGreatDoor
open Go.RowKit
theorem hasP {s p : ByteArray} {b : Bool} (h : Lib.hasPrefix s.data.toList p.data.toList = b) (w : World) : Calls Tryz.prog 58 #[.string s, .string p] w fun e w' => e = .returned (.bool b) ∧ w' = w := by
 have h1 := hasPrefix_any s p w
 rw [h] at h1; exact h1
theorem pre_t : ∀ (p pre rest : List UInt8), p.isPrefixOf pre = true → p.isPrefixOf (pre ++ rest) = true
 | [], _, _, _ => rfl
 | b :: p, [], _, h => by cases h
 | b :: p, c :: pre, rest, h => by
  simp only [List.cons_append, List.isPrefixOf, Bool.and_eq_true] at h ⊢
  exact ⟨h.1, pre_t p pre rest h.2⟩
theorem pre_f : ∀ (p pre rest : List UInt8), p.isPrefixOf pre = false → pre.isPrefixOf p = false → p.isPrefixOf (pre ++ rest) = false
 | [], _, _, h, _ => by cases h
 | b :: p, [], _, _, h => by cases h
 | b :: p, c :: pre, rest, h, h2 => by
  simp only [List.cons_append, List.isPrefixOf] at h h2 ⊢
  cases hb : (b == c) with
  | false => rfl
  | true =>
   have hc : (c == b) = true := by rw [beq_iff_eq] at hb ⊢; exact hb.symm
   rw [hb, Bool.true_and] at h
   rw [hc, Bool.true_and] at h2
   rw [Bool.true_and]; exact pre_f p pre rest h h2
theorem hasPt {s p : ByteArray} {pre rest : List UInt8} (hL : s.data.toList = pre ++ rest) (h : p.data.toList.isPrefixOf pre = true) (w : World) : Calls Tryz.prog 58 #[.string s, .string p] w fun e w' => e = .returned (.bool true) ∧ w' = w := hasP (by rw [hL]; exact pre_t _ _ _ h) w
theorem hasPf {s p : ByteArray} {pre rest : List UInt8} (hL : s.data.toList = pre ++ rest) (h : (p.data.toList.isPrefixOf pre || pre.isPrefixOf p.data.toList) = false) (w : World) : Calls Tryz.prog 58 #[.string s, .string p] w fun e w' => e = .returned (.bool false) ∧ w' = w := by
 rw [Bool.or_eq_false_iff] at h
 exact hasP (by rw [hL]; exact pre_f _ _ _ h.1 h.2) w
theorem trimL {s L : ByteArray} (hL : trimA s = L) (hs : s.size ≤ 1000000000) (ha : Asc s) {B : Nat} {G : Ge} (w : World) (hG : Env B G w) : Calls Tryz.prog 57 #[.string s] w fun e w' => e = .returned (.string L) ∧ Below w.heap.size w w' := by
 have h := trimS_any s hs ha w hG
 rw [hL] at h; exact h
theorem ex_eqsk {a : Act} {w : World} {x y : Operand} {s p : ByteArray} {b : Bool} {dst : Option Nat} {T' ty : TypeId} {ps : String} {af : Array Edge} {gd : Option (Nat × Bool)} (hx : a.eval x = .string s) (hy : a.eval y = .string p) (hz : decide (s.data.toList = p.data.toList) = b) : (execOp a.eval ⟨dst, .binOp .eql 9 x y T', ty, ps, af, gd⟩).run Tryz.prog w = .ok (.value (.bool b)) w := by subst hz; exact ex_eqs hx hy
theorem only_sto {ops : Array Oper} {a0 a : Act} {w w1 : World} {Φ : Nat → Value → World → Prop} {i gp : Nat} {As : List G2.Ast} (c : G2.OgCtx ops a0 w.drew (G2.astE gp As) Φ i a w1) : Only (fun q => q = gp) w w1 := ⟨c.only.os, c.only.tape, c.only.output, c.only.size, fun g hg hne => c.only.block g hg (fun ⟨e, he⟩ => hne he.2)⟩
theorem dl_m3u {B : Nat} {G : Ge} {gp gs : Nat} {s L : ByteArray} {st : Bool} {P0 P1 P2 P3 P4 P5 P6 P7 P8 P9 P10 P11 P12 P13 P14 P15 P16 P17 P18 P19 P20 P21 P22 S0 S1 S2 S4 S5 S6 S7 S8 S9 S10 S11 S12 S13 S14 S15 S16 S17 S18 S19 : Value} (w : World) (hG : Env B G w) (hsz : s.size ≤ 1000000) (hasc : Asc s) (hLs : trimA s = L) (hL : L.data.toList = [35, 69, 88, 84, 77, 51, 85]) (hgp : w.heap[gp]? = some (.cells #[P0, P1, P2, P3, P4, P5, P6, P7, P8, P9, P10, P11, P12, P13, P14, P15, P16, P17, P18, P19, P20, P21, P22] 88 (0, 0))) (hgs : w.heap[gs]? = some (.cells #[S0, S1, S2, .bool false, S4, S5, S6, S7, S8, S9, S10, S11, S12, S13, S14, S15, S16, S17, S18, S19] 121 (0, 0))) (hne : gp ≠ gs) (hBp : B ≤ gp) (hBs : B ≤ gs) : Calls Tryz.prog 47 #[pt gp 0, pt gs 0, .string s, .bool st] w fun e w' => e = .returned .nilIface ∧ Only (fun q => q = gp ∨ q = gs) w w' ∧ w'.heap[gp]? = some (.cells #[P0, P1, P2, P3, P4, P5, P6, P7, P8, P9, P10, P11, P12, P13, P14, P15, P16, P17, P18, P19, P20, P21, P22] 88 (0, 0)) ∧ w'.heap[gs]? = some (.cells #[S0, .bool true, S2, .bool false, S4, S5, S6, S7, S8, S9, S10, S11, S12, S13, S14, S15, S16, S17, S18, S19] 121 (0, 0)) := by
 refine calls_of_ev Tryz.func47 rfl (show 4 ≤ 1040 from by decide) ?_
 intro a hE
 have hE : Ev 1040 ((0, pt gp 0) :: (1, pt gs 0) :: (2, .string s) :: (3, .bool st) :: []) a := hE
 have hS : Sv 1040 ((0, pt gp 0) :: (1, pt gs 0) :: (2, .string s) :: (3, .bool st) :: []) [] (fun q => q = gp ∨ q = gs) w a w := Sv.start hE _ _
 clear hE
 replace hS : Sv 1040 ((0, pt gp 0) :: (1, pt gs 0) :: (2, .string s) :: (3, .bool st) :: []) [⟨gs, #[S0, S1, S2, .bool false, S4, S5, S6, S7, S8, S9, S10, S11, S12, S13, S14, S15, S16, S17, S18, S19], 121, true⟩, ⟨gp, #[P0, P1, P2, P3, P4, P5, P6, P7, P8, P9, P10, P11, P12, P13, P14, P15, P16, P17, P18, P19, P20, P21, P22], 88, true⟩] (fun q => q = gp ∨ q = gs) w a w := ((hS.addB hgp (by intro q hq; cases hq) (fun _ => .inl (.inl rfl))).addB hgs (by intro q hq; cases List.mem_singleton.1 hq; exact hne) (fun _ => .inl (.inr rfl))).pick rfl
 refine wp_seq ?_
 refine wp_region_lit ?_
 refine sv_r (v := .nilIface) hS ex_ac fun a hS => ?_
 refine wpList_nil ?_
 replace hS := hS.cut [8, 0, 1, 2, 3]
 show Code.wp _ _ _ _ _
 refine wp_seq ?_
 refine wp_region_lit ?_
 refine sv_r (v := .nilIface) hS ex_ac fun a hS => ?_
 refine wpList_nil ?_
 replace hS := hS.cut [9, 8, 0, 1, 2, 3]
 show Code.wp _ _ _ _ _
 refine wp_seq ?_
 refine wp_region_lit ?_
 refine sv_r (v := .string s) hS (ex_mv (hS.get 2 rfl)) fun a hS => ?_
 refine sv_callv (v := .string L) hS rfl rfl (by decide) (ex_call1 cf_strings_TrimSpace (hS.get 30 rfl)) (trimL hLs (Nat.le_trans hsz (by decide)) hasc _ (hG.keep hS.only (fun q hq => by rcases hq with rfl | rfl; (· exact hBp); (· exact hBs)))) ?_
 intro a w1 hbw1 hS
 refine sv_r (v := .string L) hS (ex_as (hS.get 31 rfl)) fun a hS => ?_
 replace hS : Sv 1040 ((2, .string L) :: (9, .nilIface) :: (8, .nilIface) :: (0, pt gp 0) :: (1, pt gs 0) :: (3, .bool st) :: []) [⟨gs, #[S0, S1, S2, .bool false, S4, S5, S6, S7, S8, S9, S10, S11, S12, S13, S14, S15, S16, S17, S18, S19], 121, true⟩, ⟨gp, #[P0, P1, P2, P3, P4, P5, P6, P7, P8, P9, P10, P11, P12, P13, P14, P15, P16, P17, P18, P19, P20, P21, P22], 88, true⟩] (fun q => q = gp ∨ q = gs) w a w1 := hS.pick rfl
 refine nx1 ?_
 refine wp_seq ?_
 refine wp_block ?_
 refine wp_seq ?_
 refine wp_region_lit ?_
 refine sv_r (v := pt gs 0) hS (ex_mv (hS.get 1 rfl)) fun a hS => ?_
 refine sv_r (v := pt gs 0) hS (ex_nc (hS.get 33 rfl)) fun a hS => ?_
 refine sv_r (v := pt gs 3) hS (ex_fo (hS.get 34 rfl) fo_m3u8_decodingState_3 rfl) fun a hS => ?_
 refine sv_r (v := .bool false) hS (ex_ld (hS.get 35 rfl) lt_bool (cell_of_heap (v := .bool false) (hS.at 0 rfl) rfl)) fun a hS => ?_
 refine sv_r (v := .bool true) hS (ex_not (hS.get 36 rfl)) fun a hS => ?_
 refine sv_r (v := .bool true) hS (ex_mv (hS.get 37 rfl)) fun a hS => ?_
 refine sv_g (v := .string L) hS (hS.get 38 rfl) (ex_mv (hS.get 2 rfl)) fun a hS => ?_
 refine sv_gcallq (v := .bool false) hS rfl rfl (hS.get 38 rfl) rfl (by decide) (ex_call2 cf_strings_HasPrefix (hS.get 39 rfl) rfl) (hasP (by rw [hL]; rfl) _) ?_
 intro a hS
 refine sv_r (v := .bool false) hS (ex_pickT (hS.get 38 rfl) (hS.get 40 rfl)) fun a hS => ?_
 refine sv_r (v := .bool false) hS (ex_as (hS.get 41 rfl)) fun a hS => ?_
 refine wpList_nil ?_
 replace hS := hS.cut [32, 2, 9, 8, 0, 1, 3]
 show Code.wp _ _ _ _ _
 refine cond_f (hS.get 32 rfl) ?_
 refine wp_seq ?_
 refine wp_region_lit ?_
 refine sv_r (v := .string L) hS (ex_mv (hS.get 2 rfl)) fun a hS => ?_
 refine sv_callq (v := .bool true) hS rfl rfl (by decide) (ex_call2 cf_strings_HasPrefix (hS.get 88 rfl) rfl) (hasP (by rw [hL]; rfl) _) ?_
 intro a hS
 refine sv_r (v := .bool false) hS (ex_not (hS.get 89 rfl)) fun a hS => ?_
 refine sv_r (v := .bool false) hS (ex_as (hS.get 90 rfl)) fun a hS => ?_
 refine wpList_nil ?_
 replace hS := hS.cut [87, 32, 2, 9, 8, 0, 1, 3]
 show Code.wp _ _ _ _ _
 refine cond_f (hS.get 87 rfl) ?_
 refine wp_seq ?_
 refine wp_region_lit ?_
 refine sv_r (v := .string L) hS (ex_mv (hS.get 2 rfl)) fun a hS => ?_
 refine sv_r (v := .bool true) hS (ex_eqsk (hS.get 352 rfl) rfl (by rw [decide_eq_true_iff, hL])) fun a hS => ?_
 refine sv_r (v := .bool true) hS (ex_as (hS.get 353 rfl)) fun a hS => ?_
 replace hS : Sv 1040 ((351, .bool true) :: (87, .bool false) :: (32, .bool false) :: (2, .string L) :: (9, .nilIface) :: (8, .nilIface) :: (0, pt gp 0) :: (1, pt gs 0) :: (3, .bool st) :: []) [⟨gs, #[S0, S1, S2, .bool false, S4, S5, S6, S7, S8, S9, S10, S11, S12, S13, S14, S15, S16, S17, S18, S19], 121, true⟩, ⟨gp, #[P0, P1, P2, P3, P4, P5, P6, P7, P8, P9, P10, P11, P12, P13, P14, P15, P16, P17, P18, P19, P20, P21, P22], 88, true⟩] (fun q => q = gp ∨ q = gs) w a w1 := hS.pick rfl
 refine nx1 ?_
 refine cond_t (hS.get 351 rfl) ?_
 refine wp_region_lit ?_
 refine sv_r (v := pt gs 0) hS (ex_mv (hS.get 1 rfl)) fun a hS => ?_
 refine sv_r (v := pt gs 0) hS (ex_nc (hS.get 354 rfl)) fun a hS => ?_
 refine sv_r (v := pt gs 1) hS (ex_fo (hS.get 355 rfl) fo_m3u8_decodingState_1 rfl) fun a hS => ?_
 refine sv_st (i := 0) (v := .bool true) (cs' := #[S0, .bool true, S2, .bool false, S4, S5, S6, S7, S8, S9, S10, S11, S12, S13, S14, S15, S16, S17, S18, S19]) (m' := [⟨gs, #[S0, .bool true, S2, .bool false, S4, S5, S6, S7, S8, S9, S10, S11, S12, S13, S14, S15, S16, S17, S18, S19], 121, true⟩, ⟨gp, #[P0, P1, P2, P3, P4, P5, P6, P7, P8, P9, P10, P11, P12, P13, P14, P15, P16, P17, P18, P19, P20, P21, P22], 88, true⟩]) hS (su_bool _) (hS.get 356 rfl) rfl rfl (show 1 < 20 from by decide) rfl rfl ?_
 intro w2 hty hS
 refine wpList_nil ?_
 replace hS := hS.cut [351, 87, 32, 2, 9, 8, 0, 1, 3]
 show Code.wp _ _ _ _ _
 refine wp_seq ?_
 refine wp_region_lit ?_
 refine sv_r (v := .nilIface) hS (ex_mv (hS.get 9 rfl)) fun a hS => ?_
 refine sv_r (v := .nilIface) hS (ex_as (hS.get 1039 rfl)) fun a hS => ?_
 refine wpList_nil ?_
 replace hS := hS.cut [8, 351, 87, 32, 2, 9, 0, 1, 3]
 show Code.wp _ _ _ _ _
 refine wp_ret ?_
 try simp only [Exit.inBlock, Exit.then]
 exact ret_of_ev hS.ev rfl (hS.get 8 rfl) ⟨rfl, hS.only, hS.at 1 rfl, hS.at 0 rfl⟩
end Go.Proofs.YtflppablgdegcaaGreatDoor
