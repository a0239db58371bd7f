/- Joined: Rd, Rs, Dl, Na. -/
import Derived.Test.YtflppablgdegcaaGreatDoorR08
import Derived.Shelf.Bytes.IndexByte
import Derived.Shelf.Bytes.SlIndexAt
set_option maxRecDepth 100000
set_option maxHeartbeats 8000000
namespace Go.Proofs.YtflppablgdegcaaGreatDoor
open Go.RowKit

noncomputable def xxRf4 : Code := (cA (cB (cB (cA (cA (cA (cB (cB (Tryz.f35.body.getD .skip)))))))))
theorem rf_R4 {b r H k k' cap m : Nat} {sv v1 v2 ev : Value} {X : Nat → Prop} {p : World → Prop} {a : Act} {w : World} {Q : Exit → Act → World → Prop} (hs : a.tmps.size = 67) (h0 : a.eval (.tmp 0) = pt b 0) (h1 : a.eval (.tmp 1) = .iface 62 (pt r 0)) (h6 : a.eval (.tmp 6) = .int .i64 ((k : Nat) : Int))
  (hb : w.heap[b]? = some (.cells #[sv, v1, v2] 84 (0, 0))) (hsv : sv = .slice (some ⟨H, 0, none⟩) k' cap) (hkc : k ≤ cap) (hXb : ¬ X b) (hX : ∀ g, X g → g < w.heap.size) (hp : ∀ w w', Only (fun _ => False) w w' → p w → p w')
  (hcall : ∀ wx : World, Below w.heap.size w wx → Calls Tryz.prog 202 #[pt r 0, bsl H k cap cap] wx fun e w' => e = .returned (.tuple #[.int .i64 ((m : Nat) : Int), ev]) ∧ Only X wx w' ∧ p w')
  (hend : ∀ a' w', a'.tmps.size = 67 → a'.defers = a.defers → a'.eval (.tmp 0) = pt b 0 → a'.eval (.tmp 1) = .iface 62 (pt r 0) → a'.eval (.tmp 6) = .int .i64 ((k : Nat) : Int) → a'.eval (.tmp 4) = a.eval (.tmp 4) → a'.eval (.tmp 7) = .int .i64 ((m : Nat) : Int) → a'.eval (.tmp 8) = ev → Only X w w' → p w' → Q .normal a' w') : xxRf4.wp Tryz.prog Q a w := by
 show (Code.region 4 _ true).wp _ _ _ _
 refine G2.wp_region_ogE (n := 67) [G2.Asr.eq (.iface 62 (pt r 0)), G2.Asr.eq (pt b 0), G2.Asr.eq (pt b 0), G2.Asr.eq (pt b 0), G2.Asr.eq (sv), G2.Asr.eq (.int .i64 ((k : Nat) : Int)), G2.Asr.eq (pt b 0), G2.Asr.eq (pt b 0), G2.Asr.eq (pt b 0), G2.Asr.eq (sv), G2.Asr.eq (.int .i64 ((cap : Nat) : Int)), G2.Asr.eq (bsl H k cap cap), G2.Asr.eq (.func (.method "Read") #[.iface 62 (pt r 0)] #[]), G2.Asr.eq (.func (.method "Read") #[.iface 62 (pt r 0)] #[]), G2.Asr.eq (.iface 62 (pt r 0)), G2.Asr.any (fun v w' => v = .tuple #[.int .i64 ((m : Nat) : Int), ev] ∧ p w'), G2.Asr.eq (.tuple #[.int .i64 ((m : Nat) : Int), ev]), G2.Asr.eq (.int .i64 ((m : Nat) : Int)), G2.Asr.eq (ev), G2.Asr.eq (.int .i64 ((m : Nat) : Int)), G2.Asr.eq (ev)] (fun e g => e = 15 ∧ X g) (by kernel_rfl) (by kernel_rfl) (by kernel_rfl) hs (fun e g h => hX g h.2) ⟨(fun i _ hne v w w' _ ho hp' => ⟨hp'.1, hp _ _ (ho.mono fun g _ hg => hne hg.1.symm) hp'.2⟩), ⟨⟩⟩ ?_ ?_
 ·refine ⟨?_, ?_, ?_, ?_, ?_, ?_, ?_, ?_, ?_, ?_, ?_, ?_, ?_, ?_, ?_, ?_, ?_, ?_, ?_, ?_, ?_, trivial⟩
  ·exact G2.qm h1
  ·exact G2.qm h0
  ·exact G2.qn 1
  ·exact G2.qf 2
  ·exact fun _ _ c => G2.og_val (ex_ld (c.s 3 rfl) lt_sl_uint8 (cell_of_heap (v := sv) (c.heap hb (fun e he => absurd he.2 hXb)) rfl)) rfl
  ·exact G2.qm h6
  ·exact G2.qm h0
  ·exact G2.qn 6
  ·exact G2.qf 7
  ·exact fun _ _ c => G2.og_val (ex_ld (c.s 8 rfl) lt_sl_uint8 (cell_of_heap (v := sv) (c.heap hb (fun e he => absurd he.2 hXb)) rfl)) rfl
  ·intro a wx c
   have e_33 : a.eval (.tmp 33) = sv := c.s 9 rfl
   exact G2.og_val (ex_cap Tryz.underlying45 (by rw [e_33, hsv])) rfl
  ·intro a wx c
   have e_28 : a.eval (.tmp 28) = sv := c.s 4 rfl
   have e_29 : a.eval (.tmp 29) = .int .i64 ((k : Nat) : Int) := c.s 5 rfl
   have e_34 : a.eval (.tmp 34) = .int .i64 ((cap : Nat) : Int) := c.s 10 rfl
   exact G2.og_val (ex_blh (E := 5) Tryz.underlying45 Tryz.sizeOf5 (by rw [e_28, hsv]) e_29 e_34 hkc (Nat.le_refl _)) rfl
  ·exact fun _ _ c => G2.og_val (ex_mf (c.s 0 rfl)) rfl
  ·exact fun _ _ c => G2.og_val (ex_ncf (c.s 12 rfl)) rfl
  ·exact fun _ _ c => G2.og_val (ex_mv (c.s 0 rfl)) rfl
  ·intro a wx c
   have e_38 : a.eval (.tmp 38) = .iface 62 (pt r 0) := c.s 14 rfl
   have e_35 : a.eval (.tmp 35) = bsl H k cap cap := c.s 11 rfl
   have hsame : ∀ g, g < w.heap.size → wx.heap[g]? = w.heap[g]? := fun g hg => c.block g hg (fun e he => .inl he.1)
   have hle : w.heap.size ≤ wx.heap.size := c.only.size
   have hos : wx.os = w.os := c.only.os
   have hta : wx.tape = w.tape := c.only.tape
   have hou : wx.output = w.output := c.only.output
   unfold Oper.wp
   rw [ex_inv e_38 e_35]
   refine Calls.mono (hcall wx ⟨hos, hta, hou, hle, fun g hg => hsame g hg⟩) ?_
   rintro e w' ⟨rfl, ho, hp1⟩
   exact ⟨_, rfl, ho.mono fun g _ hg => ⟨rfl, hg⟩, rfl, hp1⟩
  ·intro a wx c
   have e_39 : a.eval (.tmp 39) = .tuple #[.int .i64 ((m : Nat) : Int), ev] := (c.s 15 rfl).1
   exact G2.og_val (ex_mv e_39) rfl
  ·exact fun _ _ c => G2.og_val (ei_ext (c.s 16 rfl) rfl) rfl
  ·exact fun _ _ c => G2.og_val (ei_ext (c.s 16 rfl) rfl) rfl
  ·exact fun _ _ c => G2.og_val (ex_as (c.s 17 rfl)) rfl
  ·exact fun _ _ c => G2.og_val (ex_as (c.s 18 rfl)) rfl
 ·intro a' w' c ho
  exact hend a' w' (c.size.trans hs) c.defers (G2.OgEnd.outG c (by decide +kernel) h0) (G2.OgEnd.outG c (by decide +kernel) h1) (G2.OgEnd.outG c (by decide +kernel) h6) (G2.OgEnd.outG c (by decide +kernel) rfl) (c.slot 19 _ rfl) (c.slot 20 _ rfl) (ho.mono fun g _ ⟨e, he⟩ => he.2) (c.slot 15 _ rfl).2
def BufRow (b n : Nat) (l : List UInt8) (w : World) : Prop := ∃ (H cap : Nat) (cur : Array Value) (lr : Int), b < H ∧ w.heap[b]? = some (.cells #[.slice (some ⟨H, 0, none⟩) n cap, .int .i64 0, .int .i8 lr] 84 (0, 0)) ∧ w.heap[H]? = some (.cells cur 5 (0, 0)) ∧ n ≤ cap ∧ cap ≤ maxLen ∧ cur.size = cap ∧ cur.toList.take n = Lib.byteCells l
theorem take_row {k m : Nat} {A B C : List Value} (hA : A.length = k) (hB : B.length = m) : (A ++ B ++ C).take (k + m) = A ++ B := by
 rw [List.take_append_of_le_length (by rw [List.length_append]; omega), List.take_of_length_le (by rw [List.length_append]; omega)]
theorem byteCells_add (l : List UInt8) (k m : Nat) : Lib.byteCells (l.take k) ++ Lib.byteCells ((l.drop k).take m) = Lib.byteCells (l.take (k + m)) := by
 simp only [Lib.byteCells, ← List.map_append, List.take_add]
theorem readFrom_any {B0 r g n cc b : Nat} {prev0 : Int} {s : ByteArray} {Ge0 : Ge} (w : World) (hG : Env B0 Ge0 w) (hr : w.heap[r]? = some (.cells #[.slice (some ⟨g, 0, none⟩) n cc, .int .i64 ((0 : Nat) : Int), .int .i64 prev0] 97 (0, 0))) (hD : Lib.Bytes w g 0 s) (hs : s.size = n) (hc : n ≤ cc) (hn : n ≤ 100000000)
  (hb : w.heap[b]? = some (.cells #[.slice none 0 0, .int .i64 0, .int .i8 0] 84 (0, 0))) (hrb : r < b) (hgb : g < b) (hgr : g ≠ r) (hB0 : B0 ≤ r) :
  Calls Tryz.prog 35 #[pt b 0, .iface 62 (pt r 0)] w fun e w' => e = .returned (.tuple #[.int .i64 ((n : Nat) : Int), .nilIface]) ∧ BufRow b n s.data.toList w' ∧ Only (fun q => q = r ∨ b ≤ q) w w' := by
 have hll : s.data.toList.length = n := by rw [len_list, hs]
 refine calls_of_ev Tryz.func35 rfl (show 2 ≤ 67 from by decide) fun a hE => ?_
 have hE : Ev 67 ((0, pt b 0) :: (1, .iface 62 (pt r 0)) :: []) a := hE
 have Z : Sv 67 ((0, pt b 0) :: (1, .iface 62 (pt r 0)) :: []) [] (fun q => q = r ∨ b ≤ q) w a w := Sv.start hE _ _
 clear hE
 replace Z : Sv 67 ((0, pt b 0) :: (1, .iface 62 (pt r 0)) :: []) [⟨b, #[.slice none 0 0, .int .i64 0, .int .i8 0], 84, true⟩, ⟨r, #[.slice (some ⟨g, 0, none⟩) n cc, .int .i64 0, .int .i64 prev0], 97, true⟩] (fun q => q = r ∨ b ≤ q) w a w := ((Z.addB hr (by intro b hb; cases hb) (fun _ => .inl (.inl rfl))).addB hb (by intro b' hb'; cases List.mem_singleton.1 hb'; exact (Nat.ne_of_lt hrb)) (fun _ => .inl (.inr (Nat.le_refl _)))).pick rfl
 refine wr (sv_n 2 Z rfl fun a Z => Z.nx [5, 4, 0, 1] rfl fun Z => sh (wr (sv_n 3 Z rfl fun a Z => sv_st (i := 0) (v := .int .i8 0) (cs' := #[.slice none 0 0, .int .i64 0, .int .i8 0]) Z (su_bytes_readOp _) (Z.g 11 rfl) rfl rfl (show 2 < 3 from by decide) rfl rfl fun w1 hty Z => Z.nx [5, 4, 0, 1] rfl fun Z => sh ?_)))
 have hI : BufIs b b (Lib.byteCells (s.data.toList.take 0)) w1 := ⟨Nat.le_refl _, _, _, Z.at 0 rfl, World.ownsRow_nil _ _ _ _, by simp [Value.ownBlock]⟩
 replace Z := (Z.mz [false, true] rfl).ct [5, 4, 0, 1] rfl
 refine wp_block ?_
 refine wp_loop (fun a w' => ∃ (k : Nat) (prev : Int), k ≤ n ∧ BufIs b b (Lib.byteCells (s.data.toList.take k)) w' ∧ Sv 67 ((4, .int .i64 ((k : Nat) : Int)) :: (0, pt b 0) :: (1, .iface 62 (pt r 0)) :: []) [⟨r, #[.slice (some ⟨g, 0, none⟩) n cc, .int .i64 ((k : Nat) : Int), .int .i64 prev], 97, true⟩] (fun q => q = r ∨ b ≤ q) w a w') (fun a _ => n - (intOf (a.eval (.tmp 4))).toNat) ⟨0, prev0, Nat.zero_le _, hI, Z.pick rfl⟩ ?_
 clear Z hI
 rintro a w1 ⟨k, prev, hk, hI, Z⟩
 have hS0 := Z.g 4 rfl
 have hkl : (Lib.byteCells (s.data.toList.take k)).length = k := by simp only [Lib.byteCells, List.length_map, List.length_take, hll]; omega
 refine wp_block (wr (sv_n 1 Z rfl fun a Z => ?_))
 have hrlt := (Array.getElem?_eq_some_iff.1 (Z.at 0 rfl)).1
 have hbsz : b ≤ w1.heap.size := by obtain ⟨_, _, _, hq, _⟩ := hI; exact Nat.le_of_lt (Array.getElem?_eq_some_iff.1 hq).1
 refine sv_callo (X := fun q => b ≤ q) (S := fun v w' => v = .int .i64 ((k : Nat) : Int) ∧ ∃ xs : List Value, xs.length = 512 ∧ BufIs b b (Lib.byteCells (s.data.toList.take k) ++ xs) w') Z rfl rfl (by decide) (ex_call2 cf_bytes_Buffer_grow (Z.g 12 rfl) rfl) (Calls.mono (grow_any (n := 512) hI hbsz (Lib.byteCells_one _) (by rw [hkl]; omega)) fun e w' ⟨h1, xs, h2, h3, h4⟩ => ⟨_, h1, only_ge h4, by rw [hkl], xs, h2, h3⟩) (by intro q hq; cases List.mem_singleton.1 hq; exact Nat.not_le.2 hrb) (fun q hq _ => .inr hq) ?_
 rintro a _ w2 ⟨rfl, xs, hxs, hI2⟩ hOg Z
 refine sv_n 1 Z rfl fun a Z => Z.nx [6, 4, 0, 1] rfl fun Z => sh (wp_seq ?_)
 obtain ⟨_, lr, ⟨hnil, _⟩ | ⟨H, cap, cur, hbk, hbH, hH, hlc, hcm, hcs, htk, hHb⟩⟩ := hI2.cases
 ·exfalso; have := congrArg List.length hnil; simp only [List.length_append, List.length_nil, hxs] at this; omega
 have hlen : (Lib.byteCells (s.data.toList.take k) ++ xs).length = k + 512 := by rw [List.length_append, hkl, hxs]
 rw [hlen] at hbk hlc htk
 have hck : cur.toList.take k = Lib.byteCells (s.data.toList.take k) := by
  have h1 : cur.toList.take k = (cur.toList.take (k + 512)).take k := by rw [List.take_take]; congr 1; omega
  rw [h1, htk, List.take_append_of_le_length (by rw [hkl]; exact Nat.le_refl _), List.take_of_length_le (by rw [hkl]; exact Nat.le_refl _)]
 have hrH : r ≠ H := by omega
 replace Z : Sv 67 ((6, .int .i64 ((k : Nat) : Int)) :: (4, .int .i64 ((k : Nat) : Int)) :: (0, pt b 0) :: (1, .iface 62 (pt r 0)) :: []) [⟨H, cur, 5, true⟩, ⟨b, #[.slice (some ⟨H, 0, none⟩) (k + 512) cap, .int .i64 0, .int .i8 lr], 84, true⟩, ⟨r, #[.slice (some ⟨g, 0, none⟩) n cc, .int .i64 ((k : Nat) : Int), .int .i64 prev], 97, true⟩] (fun q => q = r ∨ b ≤ q) w a w2 := ((Z.addB hbk (by intro q hq; cases List.mem_singleton.1 hq; exact Nat.ne_of_lt hrb) (fun _ => .inl (.inr (Nat.le_refl _)))).addB hH (by intro q hq; simp only [List.mem_cons, List.not_mem_nil, or_false] at hq; rcases hq with rfl | rfl; (· exact hHb.symm); (· exact hrH)) (fun _ => .inl (.inr hbH))).pick rfl
 refine wp_region_lit (sv_n 4 Z rfl fun a Z => sv_l (v := .slice (some ⟨H, 0, none⟩) (k + 512) cap) 1 Z rfl (Z.g 17 rfl) lt_sl_uint8 rfl fun a Z => sv_n 1 Z rfl fun a Z => ?_)
 refine sv_r (v := .slice (some ⟨H, 0, none⟩) k cap) Z (ex_slh (E := 5) (h := k) Tryz.underlying45 Tryz.sizeOf5 (Z.g 18 rfl) (Z.g 19 rfl) (by omega)) fun a Z => sv_n 2 Z rfl fun a Z => sv_st (i := 1) (v := .slice (some ⟨H, 0, none⟩) k cap) (cs' := #[.slice (some ⟨H, 0, none⟩) k cap, .int .i64 0, .int .i8 lr]) Z (su_sl_uint8 _ _ _) (Z.g 22 rfl) (Z.g 20 rfl) rfl (show 0 < 3 from by decide) rfl rfl fun w2 hty Z => Z.nx [6, 4, 0, 1] rfl fun Z => sh (wp_seq ?_)
 rcases Nat.lt_or_ge k n with hkn | hkn
 ·have hXlt : ∀ q, (q = r ∨ q = H) → q < w2.heap.size := by rintro q (rfl | rfl); (· exact (Array.getElem?_eq_some_iff.1 (Z.at 2 rfl)).1); (· exact (Array.getElem?_eq_some_iff.1 (Z.at 0 rfl)).1)
  refine rf_R4 (m := min (n - k) (cap - k)) (ev := .nilIface) (H := H) (X := fun q => q = r ∨ q = H) (p := fun w' => w'.heap[r]? = some (.cells #[.slice (some ⟨g, 0, none⟩) n cc, .int .i64 ((k + min (n - k) (cap - k) : Nat) : Int), .int .i64 (-1)] 97 (0, 0)) ∧ w'.heap[H]? = some (.cells (cur.toList.take k ++ Lib.byteCells ((s.data.toList.drop k).take (min (n - k) (cap - k))) ++ cur.toList.drop (k + min (n - k) (cap - k))).toArray 5 (0, 0))) Z.ev.size (Z.g 0 rfl) (Z.g 1 rfl) (Z.g 6 rfl) (Z.at 1 rfl) rfl (by omega) (by rintro (h | h); (· omega); (· exact hHb h.symm)) hXlt (fun w w' ho hp => ⟨by rw [ho.block r (Array.getElem?_eq_some_iff.1 hp.1).1 (fun h => h)]; exact hp.1, by rw [ho.block H (Array.getElem?_eq_some_iff.1 hp.2).1 (fun h => h)]; exact hp.2⟩) ?_ ?_
  ·intro wx hbx
   have hr' := hbx.block r (hXlt r (.inl rfl)) |>.trans (Z.at 2 rfl)
   have hH' := hbx.block H (hXlt H (.inr rfl)) |>.trans (Z.at 0 rfl)
   have hD' : Lib.Bytes wx g 0 s := by
    intro j hj
    have hgl : g < w.heap.size := by have := (Array.getElem?_eq_some_iff.1 hb).1; omega
    have h1 := Z.only.block g hgl (by rintro (h | h); (· exact hgr h); (· omega))
    rw [World.cell?_of_block (w := w) ((hbx.block g (Nat.lt_of_lt_of_le hgl Z.only.size)).trans h1)]; exact hD j hj
   rw [bsl_ne (by omega)]
   exact Calls.mono (rdRead_some hr' hD' hs hc hH' hrH.symm (by omega) hkn (by omega) (L := cap - k) (show k + (cap - k) ≤ cur.size by omega)) fun e w' ⟨h1, h2, h3, h4⟩ => ⟨h1, h2, h3, h4⟩
  intro a' w5 hsz hdf e0 e1 e6 e4 e7 e8 hO5 ⟨hr5, hH5⟩
  obtain ⟨a, rfl⟩ : ∃ x, x = a' := ⟨a', rfl⟩
  have hS5 : Sv 67 [] [⟨b, #[.slice (some ⟨H, 0, none⟩) k cap, .int .i64 0, .int .i8 lr], 84, true⟩] (fun q => q = r ∨ b ≤ q) w a w5 := ((Z.mz [false, true, false] rfl).go hO5 (by intro q hq; cases List.mem_singleton.1 (show q ∈ [(_ : Bk)] from hq); rintro (h | h); (· exact absurd h (Nat.ne_of_gt hrb)); (· exact hHb h.symm)) (fun q hq _ => by rcases hq with rfl | rfl; (· exact .inl rfl); (· exact .inr hbH))).empty (a := a) (hsz.trans Z.ev.size.symm) hdf
  replace Z : Sv 67 ((8, .nilIface) :: (7, .int .i64 ((min (n - k) (cap - k) : Nat) : Int)) :: (6, .int .i64 ((k : Nat) : Int)) :: (4, .int .i64 ((k : Nat) : Int)) :: (0, pt b 0) :: (1, .iface 62 (pt r 0)) :: []) [⟨H, (cur.toList.take k ++ Lib.byteCells ((s.data.toList.drop k).take (min (n - k) (cap - k))) ++ cur.toList.drop (k + min (n - k) (cap - k))).toArray, 5, true⟩, ⟨r, #[.slice (some ⟨g, 0, none⟩) n cc, .int .i64 ((k + min (n - k) (cap - k) : Nat) : Int), .int .i64 (-1)], 97, true⟩, ⟨b, #[.slice (some ⟨H, 0, none⟩) k cap, .int .i64 0, .int .i8 lr], 84, true⟩] (fun q => q = r ∨ b ≤ q) w a w5 := (((((((hS5.know e1).know e0).know (e4.trans (Z.g 4 rfl))).know e6).know e7).know e8).addB hr5 (by intro q hq; cases List.mem_singleton.1 hq; exact (Nat.ne_of_gt hrb)) (fun _ => .inl (.inl rfl))).addB hH5 (by intro q hq; simp only [List.mem_cons, List.not_mem_nil, or_false] at hq; rcases hq with rfl | rfl; (· exact hrH); (· exact hHb.symm)) (fun _ => .inl (.inr hbH))
  clear hS5
  refine sh (wp_seq (wr (sv_n 1 Z rfl fun a Z => ?_)))
  refine sv_r (v := .bool false) Z (ei_lss (Z.g 42 rfl) rfl (by rw [decide_eq_false_iff_not]; omega)) fun a Z => Z.nx [43, 8, 7, 6, 4, 0, 1] rfl fun Z => sh (cond_f (Z.g 43 rfl) (wp_skip (sh (wr (sv_n 4 Z rfl fun a Z => sv_l (v := .slice (some ⟨H, 0, none⟩) k cap) 2 Z rfl (Z.g 48 rfl) lt_sl_uint8 rfl fun a Z => sv_n 2 Z rfl fun a Z => ?_)))))
  refine sv_r (v := .int .i64 ((k + (min (n - k) (cap - k)) : Nat) : Int)) Z (ei_add (Z.g 50 rfl) (Z.g 51 rfl) (by rw [IntKind.wrap_i64]; omega)) fun a Z => ?_
  refine sv_r (v := .slice (some ⟨H, 0, none⟩) (k + (min (n - k) (cap - k))) cap) Z (ex_slh (E := 5) (h := (k + (min (n - k) (cap - k)))) Tryz.underlying45 Tryz.sizeOf5 (Z.g 49 rfl) (Z.g 52 rfl) (by omega)) fun a Z => sv_n 2 Z rfl fun a Z => sv_st (i := 2) (v := .slice (some ⟨H, 0, none⟩) (k + (min (n - k) (cap - k))) cap) (cs' := #[.slice (some ⟨H, 0, none⟩) (k + (min (n - k) (cap - k))) cap, .int .i64 0, .int .i8 lr]) Z (su_sl_uint8 _ _ _) (Z.g 55 rfl) (Z.g 53 rfl) rfl (show 0 < 3 from by decide) rfl rfl fun w3 hty Z => Z.nx [43, 8, 7, 6, 4, 0, 1] rfl fun Z => sh (wr (sv_n 2 Z rfl fun a Z => ?_))
  refine sv_r (v := .int .i64 ((k + (min (n - k) (cap - k)) : Nat) : Int)) Z (ei_add (Z.g 56 rfl) (Z.g 57 rfl) (by rw [IntKind.wrap_i64]; omega)) fun a Z => sv_n 1 Z rfl fun a Z => Z.nx [4, 43, 8, 7, 6, 0, 1] rfl fun Z => sh (wp_seq (wr (sv_n 1 Z rfl fun a Z => ?_)))
  have hGw : Env B0 Ge0 w3 := hG.keep Z.only (fun q hq => by rcases hq with rfl | hq; (· exact hB0); (· omega))
  refine sv_r (v := eofV Ge0) Z (ex_ldg lt_error hGw.eof) fun a Z => sv_r (v := .bool false) Z (ex_nileq (Z.g 59 rfl) (Z.g 60 rfl)) fun a Z => Z.nx [61, 4, 43, 8, 7, 6, 0, 1] rfl fun Z => sh (cond_f (Z.g 61 rfl) (wp_skip (sh (wr (sv_n 1 Z rfl fun a Z => sv_r (v := .bool false) Z (ex_ine eqi_error (Z.g 63 rfl)) fun a Z => Z.nx [64, 61, 4, 43, 8, 7, 6, 0, 1] rfl fun Z => sh ?_)))))
  refine cond_f (Z.g 64 rfl) (wp_skip ?_)
  have hmm : min (n - k) (cap - k) ≤ n - k := Nat.min_le_left _ _
  have hmp : 0 < min (n - k) (cap - k) := by omega
  have hnl : (Lib.byteCells ((s.data.toList.drop k).take (min (n - k) (cap - k)))).length = min (n - k) (cap - k) := by simp only [Lib.byteCells, List.length_map, List.length_take, List.length_drop, hll]; omega
  have hI' : BufIs b b (Lib.byteCells (s.data.toList.take (k + min (n - k) (cap - k)))) w3 := by
   have h := Lib.isBuffer_mk (Nat.le_refl b) (Z.at 2 rfl) hbH (Z.at 0 rfl) (by omega) hcm (by simp only [List.size_toArray, List.length_append, hnl, List.length_drop, List.length_take, Array.length_toList, hcs]; omega) hHb
   rw [List.toList_toArray, take_row (by rw [List.length_take, Array.length_toList]; omega) hnl, hck, byteCells_add] at h
   exact h
  refine ⟨⟨k + min (n - k) (cap - k), -1, by omega, hI', (Z.mz [false, true, false] rfl).pick rfl⟩, ?_⟩
  have h1 := Z.g 4 rfl
  rw [h1, hS0]
  simp only [intOf]
  omega
 ·have hG4 : Env B0 Ge0 w2 := hG.keep Z.only (fun q hq => by rcases hq with rfl | hq; (· exact hB0); (· omega))
  have hXlt : ∀ q, (q = r ∨ q = H) → q < w2.heap.size := by rintro q (rfl | rfl); (· exact (Array.getElem?_eq_some_iff.1 (Z.at 2 rfl)).1); (· exact (Array.getElem?_eq_some_iff.1 (Z.at 0 rfl)).1)
  refine rf_R4 (m := 0) (ev := eofV Ge0) (H := H) (X := fun q => q = r ∨ q = H) (p := fun w' => w'.heap[r]? = some (.cells #[.slice (some ⟨g, 0, none⟩) n cc, .int .i64 ((k : Nat) : Int), .int .i64 prev] 97 (0, 0)) ∧ w'.heap[H]? = some (.cells cur 5 (0, 0))) Z.ev.size (Z.g 0 rfl) (Z.g 1 rfl) (Z.g 6 rfl) (Z.at 1 rfl) rfl (by omega) (by rintro (h | h); (· omega); (· exact hHb h.symm)) hXlt (fun w w' ho hp => ⟨by rw [ho.block r (Array.getElem?_eq_some_iff.1 hp.1).1 (fun h => h)]; exact hp.1, by rw [ho.block H (Array.getElem?_eq_some_iff.1 hp.2).1 (fun h => h)]; exact hp.2⟩) ?_ ?_
  ·intro wx hbx
   have hr' := hbx.block r (hXlt r (.inl rfl)) |>.trans (Z.at 2 rfl)
   have hH' := hbx.block H (hXlt H (.inr rfl)) |>.trans (Z.at 0 rfl)
   exact Calls.mono (rdRead_end hr' hkn (by omega) (hG4.below hbx)) fun e w' ⟨h1, h2⟩ => ⟨h1, Only.of_below h2, by rw [h2.block r (Array.getElem?_eq_some_iff.1 hr').1]; exact hr', by rw [h2.block H (Array.getElem?_eq_some_iff.1 hH').1]; exact hH'⟩
  intro a' w5 hsz hdf e0 e1 e6 e4 e7 e8 hO5 ⟨hr5, hH5⟩
  obtain ⟨a, rfl⟩ : ∃ x, x = a' := ⟨a', rfl⟩
  have hS5 : Sv 67 [] [⟨b, #[.slice (some ⟨H, 0, none⟩) k cap, .int .i64 0, .int .i8 lr], 84, true⟩] (fun q => q = r ∨ b ≤ q) w a w5 := ((Z.mz [false, true, false] rfl).go hO5 (by intro q hq; cases List.mem_singleton.1 (show q ∈ [(_ : Bk)] from hq); rintro (h | h); (· exact absurd h (Nat.ne_of_gt hrb)); (· exact hHb h.symm)) (fun q hq _ => by rcases hq with rfl | rfl; (· exact .inl rfl); (· exact .inr hbH))).empty (a := a) (hsz.trans Z.ev.size.symm) hdf
  replace Z : Sv 67 ((8, eofV Ge0) :: (7, .int .i64 0) :: (6, .int .i64 ((k : Nat) : Int)) :: (4, .int .i64 ((k : Nat) : Int)) :: (0, pt b 0) :: (1, .iface 62 (pt r 0)) :: []) [⟨H, cur, 5, true⟩, ⟨r, #[.slice (some ⟨g, 0, none⟩) n cc, .int .i64 ((k : Nat) : Int), .int .i64 prev], 97, true⟩, ⟨b, #[.slice (some ⟨H, 0, none⟩) k cap, .int .i64 0, .int .i8 lr], 84, true⟩] (fun q => q = r ∨ b ≤ q) w a w5 := (((((((hS5.know e1).know e0).know (e4.trans (Z.g 4 rfl))).know e6).know e7).know e8).addB hr5 (by intro q hq; cases List.mem_singleton.1 hq; exact (Nat.ne_of_gt hrb)) (fun _ => .inl (.inl rfl))).addB hH5 (by intro q hq; simp only [List.mem_cons, List.not_mem_nil, or_false] at hq; rcases hq with rfl | rfl; (· exact hrH); (· exact hHb.symm)) (fun _ => .inl (.inr hbH))
  clear hS5
  refine sh (wp_seq (wr (sv_n 1 Z rfl fun a Z => sv_r (v := .bool false) Z (ei_lss (Z.g 42 rfl) rfl (by decide)) fun a Z => Z.nx [43, 8, 7, 6, 4, 0, 1] rfl fun Z => sh (cond_f (Z.g 43 rfl) (wp_skip (sh (wr (sv_n 4 Z rfl fun a Z => ?_))))))))
  refine sv_l (v := .slice (some ⟨H, 0, none⟩) k cap) 2 Z rfl (Z.g 48 rfl) lt_sl_uint8 rfl fun a Z => sv_n 2 Z rfl fun a Z => ?_
  refine sv_r (v := .int .i64 ((k + 0 : Nat) : Int)) Z (ei_add (Z.g 50 rfl) (Z.g 51 rfl) (by rw [IntKind.wrap_i64]; omega)) fun a Z => ?_
  refine sv_r (v := .slice (some ⟨H, 0, none⟩) (k + 0) cap) Z (ex_slh (E := 5) (h := (k + 0)) Tryz.underlying45 Tryz.sizeOf5 (Z.g 49 rfl) (Z.g 52 rfl) (by omega)) fun a Z => sv_n 2 Z rfl fun a Z => sv_st (i := 2) (v := .slice (some ⟨H, 0, none⟩) (k + 0) cap) (cs' := #[.slice (some ⟨H, 0, none⟩) (k + 0) cap, .int .i64 0, .int .i8 lr]) Z (su_sl_uint8 _ _ _) (Z.g 55 rfl) (Z.g 53 rfl) rfl (show 0 < 3 from by decide) rfl rfl fun w4 hty Z => Z.nx [43, 8, 7, 6, 4, 0, 1] rfl fun Z => sh (wr (sv_n 2 Z rfl fun a Z => ?_))
  refine sv_r (v := .int .i64 ((k + 0 : Nat) : Int)) Z (ei_add (Z.g 56 rfl) (Z.g 57 rfl) (by rw [IntKind.wrap_i64]; omega)) fun a Z => sv_n 1 Z rfl fun a Z => Z.nx [4, 43, 8, 7, 6, 0, 1] rfl fun Z => sh (wp_seq (wr (sv_n 1 Z rfl fun a Z => ?_)))
  have hGw : Env B0 Ge0 w4 := hG.keep Z.only (fun q hq => by rcases hq with rfl | hq; (· exact hB0); (· omega))
  refine sv_r (v := eofV Ge0) Z (ex_ldg lt_error hGw.eof) fun a Z => sv_r (v := .bool true) Z (ex_sameeq (Z.g 59 rfl) (Z.g 60 rfl)) fun a Z => Z.nx [61, 4, 43, 8, 7, 6, 0, 1] rfl fun Z => sh (cond_t (Z.g 61 rfl) (wr (sv_n 3 Z rfl fun a Z => Z.nx [5, 4, 61, 43, 8, 7, 6, 0, 1] rfl fun Z => sh (wp_ret ?_))))
  try simp only [Exit.inBlock, Exit.then]
  have hkn' : k = n := by omega
  subst hkn'
  have hck' : cur.toList.take k = Lib.byteCells s.data.toList := by rw [hck, List.take_of_length_le (by rw [hll]; exact Nat.le_refl _)]
  exact ret2_of_ev Z.ev rfl (Z.g 4 rfl) (Z.g 5 rfl) ⟨rfl, ⟨H, cap, cur, lr, by omega, Z.at 2 rfl, Z.at 0 rfl, by omega, hcm, hcs, hck'⟩, Z.only⟩
theorem bytesOf_nums (l : List UInt8) : Lib.bytesOf (l.map fun x => (x.toNat : Int)) = l := by
 unfold Lib.bytesOf
 rw [List.map_map]
 conv => rhs; rw [← List.map_id l]
 exact List.map_congr_left fun x _ => by simp
theorem indexByte_line {b : UInt8} : ∀ (ln more : List UInt8), (∀ x ∈ ln, x ≠ b) → Lib.indexByte (ln ++ b :: more) b = ((ln.length : Nat) : Int)
 | [], more, _ => by simp [Lib.indexByte]
 | x :: ln, more, h => by
  have ih := indexByte_line ln more fun y hy => h y (List.mem_cons_of_mem _ hy)
  have hx : (x == b) = false := by simpa using h x (List.mem_cons_self)
  have hne : ((((ln.length : Nat) : Int)) == -1) = false := by rw [beq_eq_false_iff_ne]; omega
  simp only [List.cons_append, Lib.indexByte, hx, ih, hne, Bool.false_eq_true, if_false, List.length_cons]
  omega
theorem indexByte_none {b : UInt8} : ∀ (ln : List UInt8), (∀ x ∈ ln, x ≠ b) → Lib.indexByte ln b = -1
 | [], _ => rfl
 | x :: ln, h => by
  have ih := indexByte_none ln fun y hy => h y (List.mem_cons_of_mem _ hy)
  have hx : (x == b) = false := by simpa using h x (List.mem_cons_self)
  simp [Lib.indexByte, hx, ih]
theorem idxB {H off n cap : Nat} {s : ByteArray} (w : World) (hB : Lib.Bytes w H 0 s) (hs : s.size = n) (ho : off ≤ n) (hc : n ≤ cap) : Calls Tryz.prog 80 #[bsl H off n cap, .int .u8 10] w fun e w' => e = .returned (.int .i64 (Lib.indexByte (s.data.toList.drop off) 10)) ∧ w' = w := by
 have hl : ((s.data.toList.drop off).map fun x : UInt8 => (x.toNat : Int)).length = n - off := by simp only [List.length_map, List.length_drop, len_list, hs]
 have hcl : ∀ p : Addr, (∀ i, i < n - off → p.add i = ⟨H, off + i, none⟩) → Calls Tryz.prog 80 #[.slice (some p) (n - off) (cap - off), .int .u8 10] w fun e w' => e = .returned (.int .i64 (Lib.indexByte (s.data.toList.drop off) 10)) ∧ w' = w := by
  intro p hp
  have h := Any.bytes_IndexByte_at Tryz.lays187 p (n - off) (cap - off) ((s.data.toList.drop off).map fun x => (x.toNat : Int)) 10 w hl (fun i hi => by
   have h1 := hB (off + i) (by omega)
   rw [Nat.zero_add] at h1
   rw [hp i hi, h1, List.getD_eq_getElem?_getD, List.getElem?_map, List.getElem?_drop, at_list (by omega)]
   rfl)
  rw [bytesOf_nums] at h
  exact h
 unfold bsl
 split
 ·exact hcl _ fun i hi => by omega
 ·exact hcl _ fun i hi => by unfold Addr.add; split <;> simp_all
theorem conv_bsl {H i j cap : Nat} {s : ByteArray} (w : World) (hB : Lib.Bytes w H 0 s) (hij : i ≤ j) (hj : j ≤ s.size) (hc : s.size ≤ cap) : (convert 45 9 (bsl H i j cap)).run Tryz.prog w = .ok (.string (s.extract i j)) w := by
 unfold bsl
 split
 ·rename_i h
  have h1 := Lib.run_convert_window (P := Tryz.prog) w _ _ _ Tryz.underlying45 Tryz.underlying5 Tryz.underlying9 H 0 s hB 0 (j - i) (cap - i) (by omega)
  have e : s.extract 0 (0 + (j - i)) = s.extract i j := ba_eq (by
   have : j - i = 0 := by omega
   simp only [this, ByteArray.data_extract, Array.toList_extract]
   simp; omega)
  rw [e] at h1; exact h1
 ·have h1 := Lib.run_convert_window (P := Tryz.prog) w _ _ _ Tryz.underlying45 Tryz.underlying5 Tryz.underlying9 H 0 s hB i (j - i) (cap - i) (by omega)
  rw [Nat.zero_add, show i + (j - i) = j from by omega] at h1; exact h1
structure BufAt (b H n cap off : Nat) (s : ByteArray) (w : World) : Prop where
 blk : ∃ lr : Int, w.heap[b]? = some (.cells #[.slice (some ⟨H, 0, none⟩) n cap, .int .i64 ((off : Nat) : Int), .int .i8 lr] 84 (0, 0))
 bytes : Lib.Bytes w H 0 s
 size : s.size = n
 cap : n ≤ cap
 le : off ≤ n
 ne : b ≠ H
 lim : n ≤ 100000000
theorem BufAt.keep {b H n cap off : Nat} {s : ByteArray} {w w' : World} {X : Nat → Prop} (h : BufAt b H n cap off s w) (ho : Only X w w') (hb : ¬ X b) (hH : ¬ X H) (hlt : H < w.heap.size) : BufAt b H n cap off s w' := by
 obtain ⟨lr, hk⟩ := h.blk
 refine ⟨⟨lr, by rw [ho.block b (Array.getElem?_eq_some_iff.1 hk).1 hb]; exact hk⟩, fun i hi => ?_, h.size, h.cap, h.le, h.ne, h.lim⟩
 rw [World.cell?_of_block (w := w) (ho.block H hlt hH)]; exact h.bytes i hi
theorem readSlice_line {b H n cap off : Nat} {s : ByteArray} (w : World) (hb : BufAt b H n cap off s w) (hH : H < w.heap.size) {ln more : List UInt8} (hl : s.data.toList.drop off = ln ++ 10 :: more) (hno : ∀ x ∈ ln, x ≠ 10) : Calls Tryz.prog 56 #[pt b 0, .int .u8 10] w fun e w' => ∃ v, e = .returned v ∧ Only (fun q => q = b) w w' ∧ v = .tuple #[bsl H off (off + ln.length + 1) cap, .nilIface] ∧ BufAt b H n cap (off + ln.length + 1) s w' := by
 obtain ⟨lr, hbk⟩ := hb.blk
 have hof := hb.le
 have hca := hb.cap
 have hsz0 := hb.size
 have hlim := hb.lim
 have hdl : ln.length + 1 ≤ n - off := by
  have := congrArg List.length hl
  simp only [List.length_drop, len_list, hsz0, List.length_append, List.length_cons] at this
  omega
 refine calls_of_ev Tryz.func56 rfl (show 2 ≤ 53 from by decide) fun a hE => ?_
 have hE : Ev 53 ((0, pt b 0) :: (1, .int .u8 10) :: []) a := hE
 have Z : Sv 53 ((0, pt b 0) :: (1, .int .u8 10) :: []) [] (fun q => q = b) w a w := Sv.start hE _ _
 clear hE
 replace Z := (Z.addB (o := true) hbk (by intro q hq; cases hq) (fun _ => .inl rfl)).ct [0, 1] rfl
 refine wr (sv_n 2 Z rfl fun a Z => Z.nx [5, 4, 0, 1] rfl fun Z => sh (wp_seq ?_))
 refine qg 10 [pt b 0, pt b 0, pt b 0, .slice (some ⟨H, 0, none⟩) n cap, pt b 0, pt b 0, pt b 1, .int .i64 ((off : Nat) : Int), bsl H off n cap, .int .u8 10] Z ?_ ?_
 ·simp only [List.take_succ_cons, List.take_zero]
  exact ⟨qm (Z.g 0 rfl), qn 0, qf 1, ql 2 lt_sl_uint8 Z 0, qm (Z.g 0 rfl), qn 4, qf 5, ql 6 lt_int Z 0, fun _ _ c => og_val (ex_bl (E := 5) (i := off) Tryz.underlying45 Tryz.sizeOf5 (c.s 3 rfl) (c.s 7 rfl) (by omega)) rfl, qm (Z.g 1 rfl), trivial⟩
 ·intro a w1 c hbw1
  replace Z := ((Z.ogk c [1, 0, 4, 5]).kS c 8 rfl rfl).kS c 9 rfl rfl
  clear c
  simp only [List.drop_succ_cons, List.drop_zero]
  refine sv_callq (v := .int .i64 ((ln.length : Nat) : Int)) Z rfl rfl (by decide) (ex_call2 cf_bytes_IndexByte (Z.g 16 rfl) (Z.g 17 rfl)) (by have h := idxB w1 (by intro i hi; rw [World.cell?_of_block (w := w) (Z.only.block H hH (fun e => hb.ne e.symm))]; exact hb.bytes i hi) hb.size hb.le hb.cap; rw [hl, indexByte_line ln more hno] at h; exact h) ?_
  intro a Z
  refine sv_n 1 Z rfl fun a Z => Z.nx [6, 0, 4, 5] rfl fun Z => sh (wr (sv_n 3 Z rfl fun a Z => sv_l (v := .int .i64 ((off : Nat) : Int)) 0 Z rfl (Z.g 21 rfl) lt_int rfl fun a Z => sv_n 1 Z rfl fun a Z => ?_))
  refine sv_r (v := .int .i64 ((off + ln.length : Nat) : Int)) Z (ei_add (Z.g 22 rfl) (Z.g 23 rfl) (by rw [IntKind.wrap_i64]; omega)) fun a Z => ?_
  refine sv_r (v := .int .i64 (((off + ln.length) + 1 : Nat) : Int)) Z (ei_add (Z.g 24 rfl) rfl (by rw [IntKind.wrap_i64]; omega)) fun a Z => sv_n 1 Z rfl fun a Z => Z.nx [7, 6, 0, 4, 5] rfl fun Z => sh (wp_seq (wr (sv_n 1 Z rfl fun a Z => ?_)))
  refine sv_r (v := .bool false) Z (ei_lss (Z.g 26 rfl) rfl (by rw [decide_eq_false_iff_not]; omega)) fun a Z => Z.nx [27, 7, 6, 0, 4, 5] rfl fun Z => sh (cond_f (Z.g 27 rfl) (wp_skip (sh (wp_seq ?_))))
  refine qg 9 [pt b 0, pt b 0, pt b 0, .slice (some ⟨H, 0, none⟩) n cap, pt b 0, pt b 0, pt b 1, .int .i64 ((off : Nat) : Int), .int .i64 (((off + ln.length) + 1 : Nat) : Int)] Z ?_ ?_
  ·simp only [List.take_succ_cons, List.take_zero]
   exact ⟨qm (Z.g 0 rfl), qn 0, qf 1, ql 2 lt_sl_uint8 Z 0, qm (Z.g 0 rfl), qn 4, qf 5, ql 6 lt_int Z 0, qm (Z.g 7 rfl), trivial⟩
  ·intro a w2 c hbw2
   replace Z := (((Z.ogk c [5, 4, 0, 6, 7, 27]).kS c 3 rfl rfl).kS c 7 rfl rfl).kS c 8 rfl rfl
   clear c
   simp only [List.drop_succ_cons, List.drop_zero]
   refine sv_r (v := bsl H off ((off + ln.length) + 1) cap) Z (ex_blh (E := 5) (i := off) (j := ((off + ln.length) + 1)) Tryz.underlying45 Tryz.sizeOf5 (Z.g 37 rfl) (Z.g 41 rfl) (Z.g 42 rfl) (by omega) (by omega)) fun a Z => sv_n 1 Z rfl fun a Z => Z.nx [4, 5, 0, 6, 7, 27] rfl fun Z => sh (wr (sv_n 4 Z rfl fun a Z => sv_st (i := 0) (v := .int .i64 (((off + ln.length) + 1 : Nat) : Int)) (cs' := #[.slice (some ⟨H, 0, none⟩) n cap, .int .i64 (((off + ln.length) + 1 : Nat) : Int), .int .i8 lr]) Z (su_int _) (Z.g 47 rfl) (Z.g 45 rfl) rfl (show 1 < 3 from by decide) rfl rfl fun w3 hty Z => Z.nx [4, 5, 0, 6, 7, 27] rfl fun Z => sh (wr (sv_n 3 Z rfl fun a Z => ?_))))
   refine sv_st (i := 0) (v := .int .i8 (-1)) (cs' := #[.slice (some ⟨H, 0, none⟩) n cap, .int .i64 (((off + ln.length) + 1 : Nat) : Int), .int .i8 (-1)]) Z (su_bytes_readOp _) (Z.g 50 rfl) rfl rfl (show 2 < 3 from by decide) rfl rfl fun w4 hty Z => Z.nx [4, 5, 0, 6, 7, 27] rfl fun Z => sh (wr (sv_n 4 Z rfl fun a Z => Z.nx [5, 4, 0, 6, 7, 27] rfl fun Z => sh (wp_ret ?_)))
   try simp only [Exit.inBlock, Exit.then]
   exact ret2_of_ev Z.ev rfl (Z.g 4 rfl) (Z.g 5 rfl) ⟨_, rfl, Z.only, rfl, ⟨_, Z.at 0 rfl⟩, (fun i hi => by rw [World.cell?_of_block (w := w) (Z.only.block H hH (fun e => hb.ne e.symm))]; exact hb.bytes i hi), hb.size, hb.cap, by omega, hb.ne, hb.lim⟩
theorem readStr_line {b H n cap off : Nat} {s : ByteArray} (w : World) (hb : BufAt b H n cap off s w) (hH : H < w.heap.size) {ln more : List UInt8} (hl : s.data.toList.drop off = ln ++ 10 :: more) (hno : ∀ x ∈ ln, x ≠ 10) : Calls Tryz.prog 46 #[pt b 0, .int .u8 10] w fun e w' => ∃ v, e = .returned v ∧ Only (fun q => q = b) w w' ∧ v = .tuple #[.string (s.extract off (off + ln.length + 1)), .nilIface] ∧ BufAt b H n cap (off + ln.length + 1) s w' := by
 have hof := hb.le
 have hca := hb.cap
 have hsz0 := hb.size
 have hlim := hb.lim
 have hdl : ln.length + 1 ≤ n - off := by
  have := congrArg List.length hl
  simp only [List.length_drop, len_list, hsz0, List.length_append, List.length_cons] at this
  omega
 refine calls_of_ev Tryz.func46 rfl (show 2 ≤ 16 from by decide) fun a hE => ?_
 have hE : Ev 16 ((0, pt b 0) :: (1, .int .u8 10) :: []) a := hE
 have Z : Sv 16 ((0, pt b 0) :: (1, .int .u8 10) :: []) [] (fun q => q = b) w a w := Sv.start hE _ _
 clear hE
 refine wr (sv_n 2 Z rfl fun a Z => Z.nx [5, 4, 0, 1] rfl fun Z => sh (wr (sv_n 2 Z rfl fun a Z => ?_)))
 refine sv_callo (X := fun q => q = b) Z rfl rfl (by decide) (ex_call2 cf_bytes_Buffer_readSlice (Z.g 8 rfl) (Z.g 9 rfl)) (readSlice_line w hb hH hl hno) (by intro q hq; cases hq) (fun q hq _ => hq) ?_
 rintro a _ w1 ⟨rfl, hb1⟩ hO1 Z
 refine sv_n 1 Z rfl fun a Z => sv_r (v := bsl H off (off + ln.length + 1) cap) Z (ei_ext (Z.g 7 rfl) rfl) fun a Z => sv_n 3 Z rfl fun a Z => Z.nx [5, 6, 4] rfl fun Z => sh (wr (sv_n 1 Z rfl fun a Z => ?_))
 refine sv_r (v := .string (s.extract off (off + ln.length + 1))) Z (by simp only [execOp, Z.g 13 rfl]; exact run_andValue (conv_bsl _ hb1.bytes (by omega) (by omega) (by omega))) fun a Z => sv_n 3 Z rfl fun a Z => Z.nx [5, 4] rfl fun Z => sh (wp_ret ?_)
 try simp only [Exit.inBlock, Exit.then]
 exact ret2_of_ev Z.ev rfl (Z.g 4 rfl) (Z.g 5 rfl) ⟨_, rfl, hO1, rfl, hb1⟩
theorem readSlice_last {b H n cap off : Nat} {s : ByteArray} (w : World) (hb : BufAt b H n cap off s w) (hH : H < w.heap.size) (hno : ∀ x ∈ s.data.toList.drop off, x ≠ 10) {B : Nat} {G : Ge} (hG : Env B G w) (hbB : B ≤ b) : Calls Tryz.prog 56 #[pt b 0, .int .u8 10] w fun e w' => ∃ v, e = .returned v ∧ Only (fun q => q = b) w w' ∧ v = .tuple #[bsl H off (n) cap, eofV G] ∧ BufAt b H n cap (n) s w' := by
 obtain ⟨lr, hbk⟩ := hb.blk
 have hof := hb.le
 have hca := hb.cap
 have hsz0 := hb.size
 have hlim := hb.lim
 refine calls_of_ev Tryz.func56 rfl (show 2 ≤ 53 from by decide) fun a hE => ?_
 have hE : Ev 53 ((0, pt b 0) :: (1, .int .u8 10) :: []) a := hE
 have Z : Sv 53 ((0, pt b 0) :: (1, .int .u8 10) :: []) [] (fun q => q = b) w a w := Sv.start hE _ _
 clear hE
 replace Z := (Z.addB (o := true) hbk (by intro q hq; cases hq) (fun _ => .inl rfl)).ct [0, 1] rfl
 refine wr (sv_n 2 Z rfl fun a Z => Z.nx [5, 4, 0, 1] rfl fun Z => sh (wp_seq ?_))
 refine qg 10 [pt b 0, pt b 0, pt b 0, .slice (some ⟨H, 0, none⟩) n cap, pt b 0, pt b 0, pt b 1, .int .i64 ((off : Nat) : Int), bsl H off n cap, .int .u8 10] Z ?_ ?_
 ·simp only [List.take_succ_cons, List.take_zero]
  exact ⟨qm (Z.g 0 rfl), qn 0, qf 1, ql 2 lt_sl_uint8 Z 0, qm (Z.g 0 rfl), qn 4, qf 5, ql 6 lt_int Z 0, fun _ _ c => og_val (ex_bl (E := 5) (i := off) Tryz.underlying45 Tryz.sizeOf5 (c.s 3 rfl) (c.s 7 rfl) (by omega)) rfl, qm (Z.g 1 rfl), trivial⟩
 ·intro a w1 c hbw1
  replace Z := ((Z.ogk c [1, 0, 4, 5]).kS c 8 rfl rfl).kS c 9 rfl rfl
  clear c
  simp only [List.drop_succ_cons, List.drop_zero]
  refine sv_callq (v := .int .i64 (-1)) Z rfl rfl (by decide) (ex_call2 cf_bytes_IndexByte (Z.g 16 rfl) (Z.g 17 rfl)) (by have h := idxB w1 (by intro i hi; rw [World.cell?_of_block (w := w) (Z.only.block H hH (fun e => hb.ne e.symm))]; exact hb.bytes i hi) hb.size hb.le hb.cap; rw [indexByte_none _ hno] at h; exact h) ?_
  intro a Z
  refine sv_n 1 Z rfl fun a Z => Z.nx [6, 0, 4, 5] rfl fun Z => sh (wr (sv_n 3 Z rfl fun a Z => sv_l (v := .int .i64 ((off : Nat) : Int)) 0 Z rfl (Z.g 21 rfl) lt_int rfl fun a Z => sv_n 1 Z rfl fun a Z => ?_))
  refine sv_r (v := .int .i64 ((off : Int) - 1)) Z (ei_add (Z.g 22 rfl) (Z.g 23 rfl) (by rw [IntKind.wrap_i64]; omega)) fun a Z => ?_
  refine sv_r (v := .int .i64 ((off : Nat) : Int)) Z (ei_add (Z.g 24 rfl) rfl (by rw [IntKind.wrap_i64]; omega)) fun a Z => sv_n 1 Z rfl fun a Z => Z.nx [7, 6, 0, 4, 5] rfl fun Z => sh (wp_seq (wr (sv_n 1 Z rfl fun a Z => sv_r (v := .bool true) Z (ei_lss (Z.g 26 rfl) rfl (by decide)) fun a Z => Z.nx [27, 7, 6, 0, 4, 5] rfl fun Z => sh (cond_t (Z.g 27 rfl) (wr ?_)))))
  refine sv_n 3 Z rfl fun a Z => sv_l (v := .slice (some ⟨H, 0, none⟩) n cap) 0 Z rfl (Z.g 30 rfl) lt_sl_uint8 rfl fun a Z => sv_r (v := .int .i64 ((n : Nat) : Int)) Z (ex_lenS (E := 5) Tryz.underlying45 (Z.g 31 rfl)) fun a Z => sv_n 1 Z rfl fun a Z => Z.nx [7, 27, 6, 0, 4, 5] rfl fun Z => sh (wp_region_lit ?_)
  refine sv_r (v := eofV G) Z (ex_ldg lt_error (hG.keep Z.only (fun q hq => by rw [hq]; exact hbB)).eof) fun a Z => sv_n 1 Z rfl fun a Z => Z.nx [5, 7, 27, 6, 0, 4] rfl fun Z => sh (wp_seq ?_)
  refine qg 9 [pt b 0, pt b 0, pt b 0, .slice (some ⟨H, 0, none⟩) n cap, pt b 0, pt b 0, pt b 1, .int .i64 ((off : Nat) : Int), .int .i64 ((n : Nat) : Int)] Z ?_ ?_
  ·simp only [List.take_succ_cons, List.take_zero]
   exact ⟨qm (Z.g 0 rfl), qn 0, qf 1, ql 2 lt_sl_uint8 Z 0, qm (Z.g 0 rfl), qn 4, qf 5, ql 6 lt_int Z 0, qm (Z.g 7 rfl), trivial⟩
  ·intro a w2 c hbw2
   replace Z := (((Z.ogk c [4, 0, 6, 27, 7, 5]).kS c 3 rfl rfl).kS c 7 rfl rfl).kS c 8 rfl rfl
   clear c
   simp only [List.drop_succ_cons, List.drop_zero]
   refine sv_r (v := bsl H off n cap) Z (ex_blh (E := 5) (i := off) (j := n) Tryz.underlying45 Tryz.sizeOf5 (Z.g 37 rfl) (Z.g 41 rfl) (Z.g 42 rfl) (by omega) (by omega)) fun a Z => sv_n 1 Z rfl fun a Z => Z.nx [4, 0, 6, 27, 7, 5] rfl fun Z => sh (wr (sv_n 4 Z rfl fun a Z => sv_st (i := 0) (v := .int .i64 ((n : Nat) : Int)) (cs' := #[.slice (some ⟨H, 0, none⟩) n cap, .int .i64 ((n : Nat) : Int), .int .i8 lr]) Z (su_int _) (Z.g 47 rfl) (Z.g 45 rfl) rfl (show 1 < 3 from by decide) rfl rfl fun w3 hty Z => Z.nx [4, 0, 6, 27, 7, 5] rfl fun Z => sh (wr (sv_n 3 Z rfl fun a Z => ?_))))
   refine sv_st (i := 0) (v := .int .i8 (-1)) (cs' := #[.slice (some ⟨H, 0, none⟩) n cap, .int .i64 ((n : Nat) : Int), .int .i8 (-1)]) Z (su_bytes_readOp _) (Z.g 50 rfl) rfl rfl (show 2 < 3 from by decide) rfl rfl fun w4 hty Z => Z.nx [4, 0, 6, 27, 7, 5] rfl fun Z => sh (wr (sv_n 4 Z rfl fun a Z => Z.nx [5, 4, 0, 6, 27, 7] rfl fun Z => sh (wp_ret ?_)))
   try simp only [Exit.inBlock, Exit.then]
   exact ret2_of_ev Z.ev rfl (Z.g 4 rfl) (Z.g 5 rfl) ⟨_, rfl, Z.only, rfl, ⟨_, Z.at 0 rfl⟩, (fun i hi => by rw [World.cell?_of_block (w := w) (Z.only.block H hH (fun e => hb.ne e.symm))]; exact hb.bytes i hi), hb.size, hb.cap, by omega, hb.ne, hb.lim⟩
theorem readStr_last {b H n cap off : Nat} {s : ByteArray} (w : World) (hb : BufAt b H n cap off s w) (hH : H < w.heap.size) (hno : ∀ x ∈ s.data.toList.drop off, x ≠ 10) {B : Nat} {G : Ge} (hG : Env B G w) (hbB : B ≤ b) : Calls Tryz.prog 46 #[pt b 0, .int .u8 10] w fun e w' => ∃ v, e = .returned v ∧ Only (fun q => q = b) w w' ∧ v = .tuple #[.string (s.extract off (n)), eofV G] ∧ BufAt b H n cap (n) s w' := by
 have hof := hb.le
 have hca := hb.cap
 have hsz0 := hb.size
 have hlim := hb.lim
 refine calls_of_ev Tryz.func46 rfl (show 2 ≤ 16 from by decide) fun a hE => ?_
 have hE : Ev 16 ((0, pt b 0) :: (1, .int .u8 10) :: []) a := hE
 have Z : Sv 16 ((0, pt b 0) :: (1, .int .u8 10) :: []) [] (fun q => q = b) w a w := Sv.start hE _ _
 clear hE
 refine wr (sv_n 2 Z rfl fun a Z => Z.nx [5, 4, 0, 1] rfl fun Z => sh (wr (sv_n 2 Z rfl fun a Z => ?_)))
 refine sv_callo (X := fun q => q = b) Z rfl rfl (by decide) (ex_call2 cf_bytes_Buffer_readSlice (Z.g 8 rfl) (Z.g 9 rfl)) (readSlice_last w hb hH hno hG hbB) (by intro q hq; cases hq) (fun q hq _ => hq) ?_
 rintro a _ w1 ⟨rfl, hb1⟩ hO1 Z
 refine sv_n 1 Z rfl fun a Z => sv_r (v := bsl H off (n) cap) Z (ei_ext (Z.g 7 rfl) rfl) fun a Z => sv_r (v := eofV G) Z (ei_ext (Z.g 7 rfl) rfl) fun a Z => sv_n 2 Z rfl fun a Z => Z.nx [5, 6, 4] rfl fun Z => sh (wr (sv_n 1 Z rfl fun a Z => ?_))
 refine sv_r (v := .string (s.extract off (n))) Z (by simp only [execOp, Z.g 13 rfl]; exact run_andValue (conv_bsl _ hb1.bytes (by omega) (by omega) (by omega))) fun a Z => sv_n 3 Z rfl fun a Z => Z.nx [5, 4] rfl fun Z => sh (wp_ret ?_)
 try simp only [Exit.inBlock, Exit.then]
 exact ret2_of_ev Z.ev rfl (Z.g 4 rfl) (Z.g 5 rfl) ⟨_, rfl, hO1, rfl, hb1⟩
theorem hasP {s p : ByteArray} {b : Bool} (h : Lib.hasPrefix s.data.toList p.data.toList = b) (w : World) : Calls Tryz.prog 58 #[.string s, .string p] w fun e w' => e = .returned (.bool b) ∧ w' = w := by
 have h1 := hasPrefix_any s p w
 rw [h] at h1; exact h1
theorem pre_t : ∀ (p pre rest : List UInt8), p.isPrefixOf pre = true → p.isPrefixOf (pre ++ rest) = true
 | [], _, _, _ => rfl
 | b :: p, [], _, h => by cases h
 | b :: p, c :: pre, rest, h => by
  simp only [List.cons_append, List.isPrefixOf, Bool.and_eq_true] at h ⊢
  exact ⟨h.1, pre_t p pre rest h.2⟩
theorem pre_f : ∀ (p pre rest : List UInt8), p.isPrefixOf pre = false → pre.isPrefixOf p = false → p.isPrefixOf (pre ++ rest) = false
 | [], _, _, h, _ => by cases h
 | b :: p, [], _, _, h => by cases h
 | b :: p, c :: pre, rest, h, h2 => by
  simp only [List.cons_append, List.isPrefixOf] at h h2 ⊢
  cases hb : (b == c) with
  | false => rfl
  | true =>
   have hc : (c == b) = true := by rw [beq_iff_eq] at hb ⊢; exact hb.symm
   rw [hb, Bool.true_and] at h
   rw [hc, Bool.true_and] at h2
   rw [Bool.true_and]; exact pre_f p pre rest h h2
theorem trimL {s L : ByteArray} (hL : trimA s = L) (hs : s.size ≤ 1000000000) (ha : Asc s) {B : Nat} {G : Ge} (w : World) (hG : Env B G w) : Calls Tryz.prog 57 #[.string s] w fun e w' => e = .returned (.string L) ∧ Below w.heap.size w w' := by
 have h := trimS_any s hs ha w hG
 rw [hL] at h; exact h
theorem ex_eqsk {a : Act} {w : World} {x y : Operand} {s p : ByteArray} {b : Bool} {dst : Option Nat} {T' ty : TypeId} {ps : String} {af : Array Edge} {gd : Option (Nat × Bool)} (hx : a.eval x = .string s) (hy : a.eval y = .string p) (hz : decide (s.data.toList = p.data.toList) = b) : (execOp a.eval ⟨dst, .binOp .eql 9 x y T', ty, ps, af, gd⟩).run Tryz.prog w = .ok (.value (.bool b)) w := by subst hz; exact ex_eqs hx hy
theorem only_sto {ops : Array Oper} {a0 a : Act} {w w1 : World} {Φ : Nat → Value → World → Prop} {i gp : Nat} {As : List G2.Ast} (c : G2.OgCtx ops a0 w.drew (G2.astE gp As) Φ i a w1) : Only (fun q => q = gp) w w1 := ⟨c.only.os, c.only.tape, c.only.output, c.only.size, fun g hg hne => c.only.block g hg (fun ⟨e, he⟩ => hne he.2)⟩

end Go.Proofs.YtflppablgdegcaaGreatDoor
