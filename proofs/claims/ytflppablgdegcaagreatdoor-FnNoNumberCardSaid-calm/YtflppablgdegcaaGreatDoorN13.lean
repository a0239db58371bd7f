/- Joined: Rc, Rd. -/
import Derived.Test.YtflppablgdegcaaGreatDoorN12
/- (*bytes.Buffer).ReadFrom. -/
namespace Go.Proofs.YtflppablgdegcaaGreatDoor
open Go.RowKit
section
variable {a : Act} {w : World} {v u : Value} {x y : Operand} {ty : TypeId} {ps : String} {af : Array Edge} {dst : Option Nat} {gd : Option (Nat × Bool)} {T T' : TypeId} {ats : Array TypeId}
theorem cf_bytes_Reader_Read : Cf 202 := by intro args w; go_simp
theorem rd_m (r : Nat) (w : World) : (Go.method (Tryz.prog.types.size + Made.depth) 62 (pt r 0) "Read").run Tryz.prog w = .ok (202, pt r 0) w := by kernel_rfl
theorem rd_n (r : Nat) (w : World) : (nilAhead (Tryz.prog.types.size + Made.depth) 62 (pt r 0) "Read").run Tryz.prog w = .ok (some false) w := by kernel_rfl
theorem ex_inv {t r : Nat} (hx : a.eval (.tmp t) = .iface 62 (pt r 0)) (hy : a.eval y = u) : (execOp a.eval ⟨dst, .call { callee := .invoke (.tmp t) "Read", args := #[y], argTypes := ats }, ty, ps, af, gd⟩).run Tryz.prog w = .ok (.enter 202 #[pt r 0, u]) w := by
 have hc := cf_bytes_Reader_Read #[pt r 0, u] w
 have hm := rd_m r w
 simp only [execOp, resolve, List.map_toArray, List.map_cons, List.map_nil, hx, hy]
 simp [go_sem] at hm hc
 simp [invoke, callMethod, go_sem, hm, hc, Result.andThen]
theorem ex_mf {t : Nat} (hx : a.eval (.tmp t) = v) : (execOp a.eval ⟨dst, .makeFunc (.method "Read") #[.tmp t] #[], ty, ps, af, gd⟩).run Tryz.prog w = .ok (.value (.func (.method "Read") #[v] #[])) w := by
 simp only [execOp, List.map_toArray, List.map_cons, List.map_nil, hx]
 rfl
theorem ex_ncf {t r : Nat} (hx : a.eval (.tmp t) = .func (.method "Read") #[.iface 62 (pt r 0)] #[]) : (execOp a.eval ⟨dst, .nilCheck (.tmp t), ty, ps, af, gd⟩).run Tryz.prog w = .ok (.value (.func (.method "Read") #[.iface 62 (pt r 0)] #[])) w := by
 have hn := rd_n r w
 simp [go_sem] at hn
 simp only [execOp, hx]
 simp [go_sem, hn, Result.andThen]
end
end Go.Proofs.YtflppablgdegcaaGreatDoor
/- (*bytes.Buffer).ReadFrom of a bytes.Reader. -/
set_option maxRecDepth 100000
set_option maxHeartbeats 8000000
namespace Go.Proofs.YtflppablgdegcaaGreatDoor
open Go.RowKit

noncomputable def xxRf4 : Code := (cA (cB (cB (cA (cA (cA (cB (cB (Tryz.f35.body.getD .skip)))))))))
theorem rf_R4 {b r H k k' cap m : Nat} {sv v1 v2 ev : Value} {X : Nat → Prop} {p : World → Prop} {a : Act} {w : World} {Q : Exit → Act → World → Prop} (hs : a.tmps.size = 67) (h0 : a.eval (.tmp 0) = pt b 0) (h1 : a.eval (.tmp 1) = .iface 62 (pt r 0)) (h6 : a.eval (.tmp 6) = .int .i64 ((k : Nat) : Int))
  (hb : w.heap[b]? = some (.cells #[sv, v1, v2] 84 (0, 0))) (hsv : sv = .slice (some ⟨H, 0, none⟩) k' cap) (hkc : k ≤ cap) (hXb : ¬ X b) (hX : ∀ g, X g → g < w.heap.size) (hp : ∀ w w', Only (fun _ => False) w w' → p w → p w')
  (hcall : ∀ wx : World, Below w.heap.size w wx → Calls Tryz.prog 202 #[pt r 0, bsl H k cap cap] wx fun e w' => e = .returned (.tuple #[.int .i64 ((m : Nat) : Int), ev]) ∧ Only X wx w' ∧ p w')
  (hend : ∀ a' w', a'.tmps.size = 67 → a'.defers = a.defers → a'.eval (.tmp 0) = pt b 0 → a'.eval (.tmp 1) = .iface 62 (pt r 0) → a'.eval (.tmp 6) = .int .i64 ((k : Nat) : Int) → a'.eval (.tmp 4) = a.eval (.tmp 4) → a'.eval (.tmp 7) = .int .i64 ((m : Nat) : Int) → a'.eval (.tmp 8) = ev → Only X w w' → p w' → Q .normal a' w') : xxRf4.wp Tryz.prog Q a w := by
 show (Code.region 4 _ true).wp _ _ _ _
 refine G2.wp_region_ogE (n := 67) [G2.Asr.eq (.iface 62 (pt r 0)), G2.Asr.eq (pt b 0), G2.Asr.eq (pt b 0), G2.Asr.eq (pt b 0), G2.Asr.eq (sv), G2.Asr.eq (.int .i64 ((k : Nat) : Int)), G2.Asr.eq (pt b 0), G2.Asr.eq (pt b 0), G2.Asr.eq (pt b 0), G2.Asr.eq (sv), G2.Asr.eq (.int .i64 ((cap : Nat) : Int)), G2.Asr.eq (bsl H k cap cap), G2.Asr.eq (.func (.method "Read") #[.iface 62 (pt r 0)] #[]), G2.Asr.eq (.func (.method "Read") #[.iface 62 (pt r 0)] #[]), G2.Asr.eq (.iface 62 (pt r 0)), G2.Asr.any (fun v w' => v = .tuple #[.int .i64 ((m : Nat) : Int), ev] ∧ p w'), G2.Asr.eq (.tuple #[.int .i64 ((m : Nat) : Int), ev]), G2.Asr.eq (.int .i64 ((m : Nat) : Int)), G2.Asr.eq (ev), G2.Asr.eq (.int .i64 ((m : Nat) : Int)), G2.Asr.eq (ev)] (fun e g => e = 15 ∧ X g) (by kernel_rfl) (by kernel_rfl) (by kernel_rfl) hs (fun e g h => hX g h.2) ⟨(fun i _ hne v w w' _ ho hp' => ⟨hp'.1, hp _ _ (ho.mono fun g _ hg => hne hg.1.symm) hp'.2⟩), ⟨⟩⟩ ?_ ?_
 ·refine ⟨?_, ?_, ?_, ?_, ?_, ?_, ?_, ?_, ?_, ?_, ?_, ?_, ?_, ?_, ?_, ?_, ?_, ?_, ?_, ?_, ?_, trivial⟩
  ·intro a wx c
   have e_1 : a.eval (.tmp 1) = .iface 62 (pt r 0) := c.outE (by decide +kernel) h1
   exact G2.og_val (ex_mv e_1) rfl
  ·intro a wx c
   have e_0 : a.eval (.tmp 0) = pt b 0 := c.outE (by decide +kernel) h0
   exact G2.og_val (ex_mv e_0) rfl
  ·intro a wx c
   have e_25 : a.eval (.tmp 25) = pt b 0 := c.slot 1 _ (by decide +kernel) rfl
   exact G2.og_val (ex_nc e_25) rfl
  ·intro a wx c
   have e_26 : a.eval (.tmp 26) = pt b 0 := c.slot 2 _ (by decide +kernel) rfl
   exact G2.og_val (ex_fo e_26 fo_bytes_Buffer_0 rfl) rfl
  ·intro a wx c
   have e_27 : a.eval (.tmp 27) = pt b 0 := c.slot 3 _ (by decide +kernel) rfl
   have hb' := c.heap hb (fun e he => absurd he.2 hXb)
   exact G2.og_val (ex_ld e_27 lt_sl_uint8 (cell_of_heap (v := sv) hb' rfl)) rfl
  ·intro a wx c
   have e_6 : a.eval (.tmp 6) = .int .i64 ((k : Nat) : Int) := c.outE (by decide +kernel) h6
   exact G2.og_val (ex_mv e_6) rfl
  ·intro a wx c
   have e_0 : a.eval (.tmp 0) = pt b 0 := c.outE (by decide +kernel) h0
   exact G2.og_val (ex_mv e_0) rfl
  ·intro a wx c
   have e_30 : a.eval (.tmp 30) = pt b 0 := c.slot 6 _ (by decide +kernel) rfl
   exact G2.og_val (ex_nc e_30) rfl
  ·intro a wx c
   have e_31 : a.eval (.tmp 31) = pt b 0 := c.slot 7 _ (by decide +kernel) rfl
   exact G2.og_val (ex_fo e_31 fo_bytes_Buffer_0 rfl) rfl
  ·intro a wx c
   have e_32 : a.eval (.tmp 32) = pt b 0 := c.slot 8 _ (by decide +kernel) rfl
   have hb' := c.heap hb (fun e he => absurd he.2 hXb)
   exact G2.og_val (ex_ld e_32 lt_sl_uint8 (cell_of_heap (v := sv) hb' rfl)) rfl
  ·intro a wx c
   have e_33 : a.eval (.tmp 33) = sv := c.slot 9 _ (by decide +kernel) rfl
   exact G2.og_val (ex_cap Tryz.underlying45 (by rw [e_33, hsv])) rfl
  ·intro a wx c
   have e_28 : a.eval (.tmp 28) = sv := c.slot 4 _ (by decide +kernel) rfl
   have e_29 : a.eval (.tmp 29) = .int .i64 ((k : Nat) : Int) := c.slot 5 _ (by decide +kernel) rfl
   have e_34 : a.eval (.tmp 34) = .int .i64 ((cap : Nat) : Int) := c.slot 10 _ (by decide +kernel) rfl
   exact G2.og_val (ex_blh (E := 5) Tryz.underlying45 Tryz.sizeOf5 (by rw [e_28, hsv]) e_29 e_34 hkc (Nat.le_refl _)) rfl
  ·intro a wx c
   have e_24 : a.eval (.tmp 24) = .iface 62 (pt r 0) := c.slot 0 _ (by decide +kernel) rfl
   exact G2.og_val (ex_mf e_24) rfl
  ·intro a wx c
   have e_36 : a.eval (.tmp 36) = .func (.method "Read") #[.iface 62 (pt r 0)] #[] := c.slot 12 _ (by decide +kernel) rfl
   exact G2.og_val (ex_ncf e_36) rfl
  ·intro a wx c
   have e_24 : a.eval (.tmp 24) = .iface 62 (pt r 0) := c.slot 0 _ (by decide +kernel) rfl
   exact G2.og_val (ex_mv e_24) rfl
  ·intro a wx c
   have e_38 : a.eval (.tmp 38) = .iface 62 (pt r 0) := c.slot 14 _ (by decide +kernel) rfl
   have e_35 : a.eval (.tmp 35) = bsl H k cap cap := c.slot 11 _ (by decide +kernel) rfl
   have hsame : ∀ g, g < w.heap.size → wx.heap[g]? = w.heap[g]? := fun g hg => c.block g hg (fun e he => .inl he.1)
   have hle : w.heap.size ≤ wx.heap.size := c.only.size
   have hos : wx.os = w.os := c.only.os
   have hta : wx.tape = w.tape := c.only.tape
   have hou : wx.output = w.output := c.only.output
   unfold Oper.wp
   rw [ex_inv e_38 e_35]
   refine Calls.mono (hcall wx ⟨hos, hta, hou, hle, fun g hg => hsame g hg⟩) ?_
   rintro e w' ⟨rfl, ho, hp1⟩
   exact ⟨_, rfl, ho.mono fun g _ hg => ⟨rfl, hg⟩, rfl, hp1⟩
  ·intro a wx c
   have e_39 : a.eval (.tmp 39) = .tuple #[.int .i64 ((m : Nat) : Int), ev] := (c.slot 15 _ (by decide +kernel) rfl).1
   exact G2.og_val (ex_mv e_39) rfl
  ·intro a wx c
   have e_23 : a.eval (.tmp 23) = .tuple #[.int .i64 ((m : Nat) : Int), ev] := c.slot 16 _ (by decide +kernel) rfl
   exact G2.og_val (ei_ext e_23 rfl) rfl
  ·intro a wx c
   have e_23 : a.eval (.tmp 23) = .tuple #[.int .i64 ((m : Nat) : Int), ev] := c.slot 16 _ (by decide +kernel) rfl
   exact G2.og_val (ei_ext e_23 rfl) rfl
  ·intro a wx c
   have e_40 : a.eval (.tmp 40) = .int .i64 ((m : Nat) : Int) := c.slot 17 _ (by decide +kernel) rfl
   exact G2.og_val (ex_as e_40) rfl
  ·intro a wx c
   have e_41 : a.eval (.tmp 41) = ev := c.slot 18 _ (by decide +kernel) rfl
   exact G2.og_val (ex_as e_41) rfl
 ·intro a' w' c ho
  exact hend a' w' (c.size.trans hs) c.defers (G2.OgEnd.outG c (by decide +kernel) h0) (G2.OgEnd.outG c (by decide +kernel) h1) (G2.OgEnd.outG c (by decide +kernel) h6) (G2.OgEnd.outG c (by decide +kernel) rfl) (c.slot 19 _ rfl) (c.slot 20 _ rfl) (ho.mono fun g _ ⟨e, he⟩ => he.2) (c.slot 15 _ rfl).2
/-- What ReadFrom leaves of the buffer: its bytes in a block of its own. -/
def BufRow (b n : Nat) (l : List UInt8) (w : World) : Prop := ∃ (H cap : Nat) (cur : Array Value) (lr : Int), b < H ∧ w.heap[b]? = some (.cells #[.slice (some ⟨H, 0, none⟩) n cap, .int .i64 0, .int .i8 lr] 84 (0, 0)) ∧ w.heap[H]? = some (.cells cur 5 (0, 0)) ∧ n ≤ cap ∧ cap ≤ maxLen ∧ cur.size = cap ∧ cur.toList.take n = Lib.byteCells l
theorem take_row {k m : Nat} {A B C : List Value} (hA : A.length = k) (hB : B.length = m) : (A ++ B ++ C).take (k + m) = A ++ B := by
 rw [List.take_append_of_le_length (by rw [List.length_append]; omega), List.take_of_length_le (by rw [List.length_append]; omega)]
theorem byteCells_add (l : List UInt8) (k m : Nat) : Lib.byteCells (l.take k) ++ Lib.byteCells ((l.drop k).take m) = Lib.byteCells (l.take (k + m)) := by
 simp only [Lib.byteCells, ← List.map_append, List.take_add]
theorem readFrom_any {B0 r g n cc b : Nat} {prev0 : Int} {s : ByteArray} {Ge0 : Ge} (w : World) (hG : Env B0 Ge0 w) (hr : w.heap[r]? = some (.cells #[.slice (some ⟨g, 0, none⟩) n cc, .int .i64 ((0 : Nat) : Int), .int .i64 prev0] 97 (0, 0))) (hD : Lib.Bytes w g 0 s) (hs : s.size = n) (hc : n ≤ cc) (hn : n ≤ 100000000)
  (hb : w.heap[b]? = some (.cells #[.slice none 0 0, .int .i64 0, .int .i8 0] 84 (0, 0))) (hrb : r < b) (hgb : g < b) (hgr : g ≠ r) (hB0 : B0 ≤ r) :
  Calls Tryz.prog 35 #[pt b 0, .iface 62 (pt r 0)] w fun e w' => e = .returned (.tuple #[.int .i64 ((n : Nat) : Int), .nilIface]) ∧ BufRow b n s.data.toList w' ∧ Only (fun q => q = r ∨ b ≤ q) w w' := by
 have hll : s.data.toList.length = n := by rw [len_list, hs]
 refine calls_of_ev Tryz.func35 rfl (show 2 ≤ 67 from by decide) ?_
 intro a hE
 have hE : Ev 67 ((0, pt b 0) :: (1, .iface 62 (pt r 0)) :: []) a := hE
 have hS : Sv 67 ((0, pt b 0) :: (1, .iface 62 (pt r 0)) :: []) [] (fun q => q = r ∨ b ≤ q) w a w := Sv.start hE _ _
 clear hE
 replace hS : Sv 67 ((0, pt b 0) :: (1, .iface 62 (pt r 0)) :: []) [⟨b, #[.slice none 0 0, .int .i64 0, .int .i8 0], 84, true⟩, ⟨r, #[.slice (some ⟨g, 0, none⟩) n cc, .int .i64 0, .int .i64 prev0], 97, true⟩] (fun q => q = r ∨ b ≤ q) w a w := ((hS.addB hr (by intro b hb; cases hb) (fun _ => .inl (.inl rfl))).addB hb (by intro b' hb'; cases List.mem_singleton.1 hb'; exact (Nat.ne_of_lt hrb)) (fun _ => .inl (.inr (Nat.le_refl _)))).pick rfl
 refine wp_seq ?_
 refine wp_region_lit ?_
 refine sv_r (v := .int .i64 0) hS ex_ac fun a hS => ?_
 refine sv_r (v := .nilIface) hS ex_ac fun a hS => ?_
 refine wpList_nil ?_
 replace hS := hS.cut [5, 4, 0, 1]
 show Code.wp _ _ _ _ _
 refine wp_seq ?_
 refine wp_region_lit ?_
 refine sv_r (v := pt b 0) hS (ex_mv (hS.get 0 rfl)) fun a hS => ?_
 refine sv_r (v := pt b 0) hS (ex_nc (hS.get 9 rfl)) fun a hS => ?_
 refine sv_r (v := pt b 2) hS (ex_fo (hS.get 10 rfl) fo_bytes_Buffer_2 rfl) fun a hS => ?_
 refine sv_st (i := 0) (v := .int .i8 0) (cs' := #[.slice none 0 0, .int .i64 0, .int .i8 0]) (m' := [⟨b, #[.slice none 0 0, .int .i64 0, .int .i8 0], 84, true⟩, ⟨r, #[.slice (some ⟨g, 0, none⟩) n cc, .int .i64 0, .int .i64 prev0], 97, true⟩]) hS (su_bytes_readOp _) (hS.get 11 rfl) rfl rfl (show 2 < 3 from by decide) rfl rfl ?_
 intro w1 hty hS
 refine wpList_nil ?_
 replace hS := hS.cut [5, 4, 0, 1]
 show Code.wp _ _ _ _ _
 have hI : BufIs b b (Lib.byteCells (s.data.toList.take 0)) w1 := ⟨Nat.le_refl _, _, _, hS.at 0 rfl, World.ownsRow_nil _ _ _ _, by simp [Value.ownBlock]⟩
 replace hS : Sv 67 ((5, .nilIface) :: (4, .int .i64 0) :: (0, pt b 0) :: (1, .iface 62 (pt r 0)) :: []) [⟨r, #[.slice (some ⟨g, 0, none⟩) n cc, .int .i64 0, .int .i64 prev0], 97, true⟩] (fun q => q = r ∨ b ≤ q) w a w1 := (hS.mask [false, true]).pick rfl
 refine wp_block ?_
 refine wp_loop (fun a w' => ∃ (k : Nat) (prev : Int), k ≤ n ∧ BufIs b b (Lib.byteCells (s.data.toList.take k)) w' ∧ Sv 67 ((4, .int .i64 ((k : Nat) : Int)) :: (0, pt b 0) :: (1, .iface 62 (pt r 0)) :: []) [⟨r, #[.slice (some ⟨g, 0, none⟩) n cc, .int .i64 ((k : Nat) : Int), .int .i64 prev], 97, true⟩] (fun q => q = r ∨ b ≤ q) w a w') (fun a _ => n - (intOf (a.eval (.tmp 4))).toNat) ⟨0, prev0, Nat.zero_le _, hI, hS.pick rfl⟩ ?_
 clear hS hI
 rintro a w1 ⟨k, prev, hk, hI, hS⟩
 have hS0 := hS.get 4 rfl
 have hkl : (Lib.byteCells (s.data.toList.take k)).length = k := by simp only [Lib.byteCells, List.length_map, List.length_take, hll]; omega
 refine wp_block ?_
 refine wp_seq ?_
 refine wp_region_lit ?_
 refine sv_r (v := pt b 0) hS (ex_mv (hS.get 0 rfl)) fun a hS => ?_
 have hrlt := (Array.getElem?_eq_some_iff.1 (hS.at 0 rfl)).1
 have hbsz : b ≤ w1.heap.size := by obtain ⟨_, _, _, hq, _⟩ := hI; exact Nat.le_of_lt (Array.getElem?_eq_some_iff.1 hq).1
 refine sv_callo (X := fun q => b ≤ q) (S := fun v w' => v = .int .i64 ((k : Nat) : Int) ∧ ∃ xs : List Value, xs.length = 512 ∧ BufIs b b (Lib.byteCells (s.data.toList.take k) ++ xs) w') hS rfl rfl (by decide) (ex_call2 cf_bytes_Buffer_grow (hS.get 12 rfl) rfl) (Calls.mono (grow_any (n := 512) hI hbsz (Lib.byteCells_one _) (by rw [hkl]; omega)) fun e w' ⟨h1, xs, h2, h3, h4⟩ => ⟨_, h1, only_ge h4, by rw [hkl], xs, h2, h3⟩) (by intro q hq; cases List.mem_singleton.1 hq; exact Nat.not_le.2 hrb) (fun q hq _ => .inr hq) ?_
 rintro a _ w2 ⟨rfl, xs, hxs, hI2⟩ hOg hS
 refine sv_r (v := .int .i64 ((k : Nat) : Int)) hS (ex_as (hS.get 13 rfl)) fun a hS => ?_
 replace hS : Sv 67 ((6, .int .i64 ((k : Nat) : Int)) :: (4, .int .i64 ((k : Nat) : Int)) :: (0, pt b 0) :: (1, .iface 62 (pt r 0)) :: []) [⟨r, #[.slice (some ⟨g, 0, none⟩) n cc, .int .i64 ((k : Nat) : Int), .int .i64 prev], 97, true⟩] (fun q => q = r ∨ b ≤ q) w a w2 := hS.pick rfl
 refine nx1 ?_
 refine wp_seq ?_
 obtain ⟨_, lr, ⟨hnil, _⟩ | ⟨H, cap, cur, hbk, hbH, hH, hlc, hcm, hcs, htk, hHb⟩⟩ := hI2.cases
 ·exfalso; have := congrArg List.length hnil; simp only [List.length_append, List.length_nil, hxs] at this; omega
 have hlen : (Lib.byteCells (s.data.toList.take k) ++ xs).length = k + 512 := by rw [List.length_append, hkl, hxs]
 rw [hlen] at hbk hlc htk
 have hck : cur.toList.take k = Lib.byteCells (s.data.toList.take k) := by
  have h1 : cur.toList.take k = (cur.toList.take (k + 512)).take k := by rw [List.take_take]; congr 1; omega
  rw [h1, htk, List.take_append_of_le_length (by rw [hkl]; exact Nat.le_refl _), List.take_of_length_le (by rw [hkl]; exact Nat.le_refl _)]
 have hrH : r ≠ H := by omega
 replace hS : Sv 67 ((6, .int .i64 ((k : Nat) : Int)) :: (4, .int .i64 ((k : Nat) : Int)) :: (0, pt b 0) :: (1, .iface 62 (pt r 0)) :: []) [⟨H, cur, 5, true⟩, ⟨b, #[.slice (some ⟨H, 0, none⟩) (k + 512) cap, .int .i64 0, .int .i8 lr], 84, true⟩, ⟨r, #[.slice (some ⟨g, 0, none⟩) n cc, .int .i64 ((k : Nat) : Int), .int .i64 prev], 97, true⟩] (fun q => q = r ∨ b ≤ q) w a w2 := ((hS.addB hbk (by intro q hq; cases List.mem_singleton.1 hq; exact Nat.ne_of_lt hrb) (fun _ => .inl (.inr (Nat.le_refl _)))).addB hH (by intro q hq; simp only [List.mem_cons, List.not_mem_nil, or_false] at hq; rcases hq with rfl | rfl; (· exact hHb.symm); (· exact hrH)) (fun _ => .inl (.inr hbH))).pick rfl
 refine wp_region_lit ?_
 refine sv_r (v := pt b 0) hS (ex_mv (hS.get 0 rfl)) fun a hS => ?_
 refine sv_r (v := pt b 0) hS (ex_mv (hS.get 0 rfl)) fun a hS => ?_
 refine sv_r (v := pt b 0) hS (ex_nc (hS.get 15 rfl)) fun a hS => ?_
 refine sv_r (v := pt b 0) hS (ex_fo (hS.get 16 rfl) fo_bytes_Buffer_0 rfl) fun a hS => ?_
 refine sv_r (v := .slice (some ⟨H, 0, none⟩) (k + 512) cap) hS (ex_ld (hS.get 17 rfl) lt_sl_uint8 (cell_of_heap (v := .slice (some ⟨H, 0, none⟩) (k + 512) cap) (hS.at 1 rfl) rfl)) fun a hS => ?_
 refine sv_r (v := .int .i64 ((k : Nat) : Int)) hS (ex_mv (hS.get 6 rfl)) fun a hS => ?_
 refine sv_r (v := .slice (some ⟨H, 0, none⟩) k cap) hS (ex_slh (E := 5) (h := k) Tryz.underlying45 Tryz.sizeOf5 (hS.get 18 rfl) (hS.get 19 rfl) (by omega)) fun a hS => ?_
 refine sv_r (v := pt b 0) hS (ex_nc (hS.get 14 rfl)) fun a hS => ?_
 refine sv_r (v := pt b 0) hS (ex_fo (hS.get 21 rfl) fo_bytes_Buffer_0 rfl) fun a hS => ?_
 refine sv_st (i := 1) (v := .slice (some ⟨H, 0, none⟩) k cap) (cs' := #[.slice (some ⟨H, 0, none⟩) k cap, .int .i64 0, .int .i8 lr]) (m' := [⟨H, cur, 5, true⟩, ⟨b, #[.slice (some ⟨H, 0, none⟩) k cap, .int .i64 0, .int .i8 lr], 84, true⟩, ⟨r, #[.slice (some ⟨g, 0, none⟩) n cc, .int .i64 ((k : Nat) : Int), .int .i64 prev], 97, true⟩]) hS (su_sl_uint8 _ _ _) (hS.get 22 rfl) (hS.get 20 rfl) rfl (show 0 < 3 from by decide) rfl rfl ?_
 intro w2 hty hS
 refine wpList_nil ?_
 replace hS := hS.cut [6, 4, 0, 1]
 show Code.wp _ _ _ _ _
 refine wp_seq ?_
 rcases Nat.lt_or_ge k n with hkn | hkn
 ·have hXlt : ∀ q, (q = r ∨ q = H) → q < w2.heap.size := by rintro q (rfl | rfl); (· exact (Array.getElem?_eq_some_iff.1 (hS.at 2 rfl)).1); (· exact (Array.getElem?_eq_some_iff.1 (hS.at 0 rfl)).1)
  refine rf_R4 (m := min (n - k) (cap - k)) (ev := .nilIface) (H := H) (X := fun q => q = r ∨ q = H) (p := fun w' => w'.heap[r]? = some (.cells #[.slice (some ⟨g, 0, none⟩) n cc, .int .i64 ((k + min (n - k) (cap - k) : Nat) : Int), .int .i64 (-1)] 97 (0, 0)) ∧ w'.heap[H]? = some (.cells (cur.toList.take k ++ Lib.byteCells ((s.data.toList.drop k).take (min (n - k) (cap - k))) ++ cur.toList.drop (k + min (n - k) (cap - k))).toArray 5 (0, 0))) hS.ev.size (hS.get 0 rfl) (hS.get 1 rfl) (hS.get 6 rfl) (hS.at 1 rfl) rfl (by omega) (by rintro (h | h); (· omega); (· exact hHb h.symm)) hXlt (fun w w' ho hp => ⟨by rw [ho.block r (Array.getElem?_eq_some_iff.1 hp.1).1 (fun h => h)]; exact hp.1, by rw [ho.block H (Array.getElem?_eq_some_iff.1 hp.2).1 (fun h => h)]; exact hp.2⟩) ?_ ?_
  ·intro wx hbx
   have hr' := hbx.block r (hXlt r (.inl rfl)) |>.trans (hS.at 2 rfl)
   have hH' := hbx.block H (hXlt H (.inr rfl)) |>.trans (hS.at 0 rfl)
   have hD' : Lib.Bytes wx g 0 s := by
    intro j hj
    have hgl : g < w.heap.size := by have := (Array.getElem?_eq_some_iff.1 hb).1; omega
    have h1 := hS.only.block g hgl (by rintro (h | h); (· exact hgr h); (· omega))
    rw [World.cell?_of_block (w := w) ((hbx.block g (Nat.lt_of_lt_of_le hgl hS.only.size)).trans h1)]; exact hD j hj
   rw [bsl_ne (by omega)]
   exact Calls.mono (rdRead_some hr' hD' hs hc hH' hrH.symm (by omega) hkn (by omega) (L := cap - k) (show k + (cap - k) ≤ cur.size by omega)) fun e w' ⟨h1, h2, h3, h4⟩ => ⟨h1, h2, h3, h4⟩
  intro a' w5 hsz hdf e0 e1 e6 e4 e7 e8 hO5 ⟨hr5, hH5⟩
  obtain ⟨a, rfl⟩ : ∃ x, x = a' := ⟨a', rfl⟩
  have hS5 : Sv 67 [] [⟨b, #[.slice (some ⟨H, 0, none⟩) k cap, .int .i64 0, .int .i8 lr], 84, true⟩] (fun q => q = r ∨ b ≤ q) w a w5 := ((hS.mask [false, true, false]).go hO5 (by intro q hq; cases List.mem_singleton.1 (show q ∈ [(_ : Bk)] from hq); rintro (h | h); (· exact absurd h (Nat.ne_of_gt hrb)); (· exact hHb h.symm)) (fun q hq _ => by rcases hq with rfl | rfl; (· exact .inl rfl); (· exact .inr hbH))).empty (a := a) (hsz.trans hS.ev.size.symm) hdf
  replace hS : Sv 67 ((8, .nilIface) :: (7, .int .i64 ((min (n - k) (cap - k) : Nat) : Int)) :: (6, .int .i64 ((k : Nat) : Int)) :: (4, .int .i64 ((k : Nat) : Int)) :: (0, pt b 0) :: (1, .iface 62 (pt r 0)) :: []) [⟨H, (cur.toList.take k ++ Lib.byteCells ((s.data.toList.drop k).take (min (n - k) (cap - k))) ++ cur.toList.drop (k + min (n - k) (cap - k))).toArray, 5, true⟩, ⟨r, #[.slice (some ⟨g, 0, none⟩) n cc, .int .i64 ((k + min (n - k) (cap - k) : Nat) : Int), .int .i64 (-1)], 97, true⟩, ⟨b, #[.slice (some ⟨H, 0, none⟩) k cap, .int .i64 0, .int .i8 lr], 84, true⟩] (fun q => q = r ∨ b ≤ q) w a w5 := (((((((hS5.know e1).know e0).know (e4.trans (hS.get 4 rfl))).know e6).know e7).know e8).addB hr5 (by intro q hq; cases List.mem_singleton.1 hq; exact (Nat.ne_of_gt hrb)) (fun _ => .inl (.inl rfl))).addB hH5 (by intro q hq; simp only [List.mem_cons, List.not_mem_nil, or_false] at hq; rcases hq with rfl | rfl; (· exact hrH); (· exact hHb.symm)) (fun _ => .inl (.inr hbH))
  clear hS5
  show Code.wp _ _ _ _ _
  refine wp_seq ?_
  refine wp_seq ?_
  refine wp_region_lit ?_
  refine sv_r (v := .int .i64 ((min (n - k) (cap - k) : Nat) : Int)) hS (ex_mv (hS.get 7 rfl)) fun a hS => ?_
  refine sv_r (v := .bool false) hS (ei_lss (hS.get 42 rfl) rfl (by rw [decide_eq_false_iff_not]; omega)) fun a hS => ?_
  refine wpList_nil ?_
  replace hS := hS.cut [43, 8, 7, 6, 4, 0, 1]
  show Code.wp _ _ _ _ _
  refine cond_f (hS.get 43 rfl) ?_
  refine wp_skip ?_
  show Code.wp _ _ _ _ _
  refine wp_seq ?_
  refine wp_region_lit ?_
  refine sv_r (v := pt b 0) hS (ex_mv (hS.get 0 rfl)) fun a hS => ?_
  refine sv_r (v := pt b 0) hS (ex_mv (hS.get 0 rfl)) fun a hS => ?_
  refine sv_r (v := pt b 0) hS (ex_nc (hS.get 46 rfl)) fun a hS => ?_
  refine sv_r (v := pt b 0) hS (ex_fo (hS.get 47 rfl) fo_bytes_Buffer_0 rfl) fun a hS => ?_
  refine sv_r (v := .slice (some ⟨H, 0, none⟩) k cap) hS (ex_ld (hS.get 48 rfl) lt_sl_uint8 (cell_of_heap (v := .slice (some ⟨H, 0, none⟩) k cap) (hS.at 2 rfl) rfl)) fun a hS => ?_
  refine sv_r (v := .int .i64 ((k : Nat) : Int)) hS (ex_mv (hS.get 6 rfl)) fun a hS => ?_
  refine sv_r (v := .int .i64 ((min (n - k) (cap - k) : Nat) : Int)) hS (ex_mv (hS.get 7 rfl)) fun a hS => ?_
  refine sv_r (v := .int .i64 ((k + (min (n - k) (cap - k)) : Nat) : Int)) hS (ei_add (hS.get 50 rfl) (hS.get 51 rfl) (by rw [IntKind.wrap_i64]; omega)) fun a hS => ?_
  refine sv_r (v := .slice (some ⟨H, 0, none⟩) (k + (min (n - k) (cap - k))) cap) hS (ex_slh (E := 5) (h := (k + (min (n - k) (cap - k)))) Tryz.underlying45 Tryz.sizeOf5 (hS.get 49 rfl) (hS.get 52 rfl) (by omega)) fun a hS => ?_
  refine sv_r (v := pt b 0) hS (ex_nc (hS.get 45 rfl)) fun a hS => ?_
  refine sv_r (v := pt b 0) hS (ex_fo (hS.get 54 rfl) fo_bytes_Buffer_0 rfl) fun a hS => ?_
  refine sv_st (i := 2) (v := .slice (some ⟨H, 0, none⟩) (k + (min (n - k) (cap - k))) cap) (cs' := #[.slice (some ⟨H, 0, none⟩) (k + (min (n - k) (cap - k))) cap, .int .i64 0, .int .i8 lr]) (m' := [⟨H, (cur.toList.take k ++ Lib.byteCells ((s.data.toList.drop k).take (min (n - k) (cap - k))) ++ cur.toList.drop (k + min (n - k) (cap - k))).toArray, 5, true⟩, ⟨r, #[.slice (some ⟨g, 0, none⟩) n cc, .int .i64 ((k + min (n - k) (cap - k) : Nat) : Int), .int .i64 (-1)], 97, true⟩, ⟨b, #[.slice (some ⟨H, 0, none⟩) (k + (min (n - k) (cap - k))) cap, .int .i64 0, .int .i8 lr], 84, true⟩]) hS (su_sl_uint8 _ _ _) (hS.get 55 rfl) (hS.get 53 rfl) rfl (show 0 < 3 from by decide) rfl rfl ?_
  intro w3 hty hS
  replace hS : Sv 67 ((43, .bool false) :: (8, .nilIface) :: (7, .int .i64 ((min (n - k) (cap - k) : Nat) : Int)) :: (6, .int .i64 ((k : Nat) : Int)) :: (4, .int .i64 ((k : Nat) : Int)) :: (0, pt b 0) :: (1, .iface 62 (pt r 0)) :: []) [⟨H, (cur.toList.take k ++ Lib.byteCells ((s.data.toList.drop k).take (min (n - k) (cap - k))) ++ cur.toList.drop (k + min (n - k) (cap - k))).toArray, 5, true⟩, ⟨r, #[.slice (some ⟨g, 0, none⟩) n cc, .int .i64 ((k + min (n - k) (cap - k) : Nat) : Int), .int .i64 (-1)], 97, true⟩, ⟨b, #[.slice (some ⟨H, 0, none⟩) (k + (min (n - k) (cap - k))) cap, .int .i64 0, .int .i8 lr], 84, true⟩] (fun q => q = r ∨ b ≤ q) w a w3 := hS.pick rfl
  refine nx3 ?_
  refine sv_r (v := .int .i64 ((k : Nat) : Int)) hS (ex_mv (hS.get 4 rfl)) fun a hS => ?_
  refine sv_r (v := .int .i64 ((min (n - k) (cap - k) : Nat) : Int)) hS (ex_mv (hS.get 7 rfl)) fun a hS => ?_
  refine sv_r (v := .int .i64 ((k + (min (n - k) (cap - k)) : Nat) : Int)) hS (ei_add (hS.get 56 rfl) (hS.get 57 rfl) (by rw [IntKind.wrap_i64]; omega)) fun a hS => ?_
  refine sv_r (v := .int .i64 ((k + (min (n - k) (cap - k)) : Nat) : Int)) hS (ex_as (hS.get 58 rfl)) fun a hS => ?_
  refine wpList_nil ?_
  replace hS := hS.cut [4, 43, 8, 7, 6, 0, 1]
  show Code.wp _ _ _ _ _
  refine wp_seq ?_
  refine wp_seq ?_
  refine wp_region_lit ?_
  refine sv_r (v := .nilIface) hS (ex_mv (hS.get 8 rfl)) fun a hS => ?_
  have hGw : Env B0 Ge0 w3 := hG.keep hS.only (fun q hq => by rcases hq with rfl | hq; (· exact hB0); (· omega))
  refine sv_r (v := eofV Ge0) hS (ex_ldg lt_error hGw.eof) fun a hS => ?_
  refine sv_r (v := .bool false) hS (ex_nileq (hS.get 59 rfl) (hS.get 60 rfl)) fun a hS => ?_
  refine wpList_nil ?_
  replace hS := hS.cut [61, 4, 43, 8, 7, 6, 0, 1]
  show Code.wp _ _ _ _ _
  refine cond_f (hS.get 61 rfl) ?_
  refine wp_skip ?_
  show Code.wp _ _ _ _ _
  refine wp_seq ?_
  refine wp_region_lit ?_
  refine sv_r (v := .nilIface) hS (ex_mv (hS.get 8 rfl)) fun a hS => ?_
  refine sv_r (v := .bool false) hS (ex_ine eqi_error (hS.get 63 rfl)) fun a hS => ?_
  replace hS : Sv 67 ((64, .bool false) :: (61, .bool false) :: (4, .int .i64 ((k + (min (n - k) (cap - k)) : Nat) : Int)) :: (43, .bool false) :: (8, .nilIface) :: (7, .int .i64 ((min (n - k) (cap - k) : Nat) : Int)) :: (6, .int .i64 ((k : Nat) : Int)) :: (0, pt b 0) :: (1, .iface 62 (pt r 0)) :: []) [⟨H, (cur.toList.take k ++ Lib.byteCells ((s.data.toList.drop k).take (min (n - k) (cap - k))) ++ cur.toList.drop (k + min (n - k) (cap - k))).toArray, 5, true⟩, ⟨r, #[.slice (some ⟨g, 0, none⟩) n cc, .int .i64 ((k + min (n - k) (cap - k) : Nat) : Int), .int .i64 (-1)], 97, true⟩, ⟨b, #[.slice (some ⟨H, 0, none⟩) (k + (min (n - k) (cap - k))) cap, .int .i64 0, .int .i8 lr], 84, true⟩] (fun q => q = r ∨ b ≤ q) w a w3 := hS.pick rfl
  refine nx1 ?_
  refine cond_f (hS.get 64 rfl) ?_
  refine wp_skip ?_
  have hmm : min (n - k) (cap - k) ≤ n - k := Nat.min_le_left _ _
  have hmp : 0 < min (n - k) (cap - k) := by omega
  have hnl : (Lib.byteCells ((s.data.toList.drop k).take (min (n - k) (cap - k)))).length = min (n - k) (cap - k) := by simp only [Lib.byteCells, List.length_map, List.length_take, List.length_drop, hll]; omega
  have hI' : BufIs b b (Lib.byteCells (s.data.toList.take (k + min (n - k) (cap - k)))) w3 := by
   have h := Lib.isBuffer_mk (Nat.le_refl b) (hS.at 2 rfl) hbH (hS.at 0 rfl) (by omega) hcm (by simp only [List.size_toArray, List.length_append, hnl, List.length_drop, List.length_take, Array.length_toList, hcs]; omega) hHb
   rw [List.toList_toArray, take_row (by rw [List.length_take, Array.length_toList]; omega) hnl, hck, byteCells_add] at h
   exact h
  refine ⟨⟨k + min (n - k) (cap - k), -1, by omega, hI', (hS.mask [false, true, false]).pick rfl⟩, ?_⟩
  have h1 := hS.get 4 rfl
  rw [h1, hS0]
  simp only [intOf]
  omega
 ·have hG4 : Env B0 Ge0 w2 := hG.keep hS.only (fun q hq => by rcases hq with rfl | hq; (· exact hB0); (· omega))
  have hXlt : ∀ q, (q = r ∨ q = H) → q < w2.heap.size := by rintro q (rfl | rfl); (· exact (Array.getElem?_eq_some_iff.1 (hS.at 2 rfl)).1); (· exact (Array.getElem?_eq_some_iff.1 (hS.at 0 rfl)).1)
  refine rf_R4 (m := 0) (ev := eofV Ge0) (H := H) (X := fun q => q = r ∨ q = H) (p := fun w' => w'.heap[r]? = some (.cells #[.slice (some ⟨g, 0, none⟩) n cc, .int .i64 ((k : Nat) : Int), .int .i64 prev] 97 (0, 0)) ∧ w'.heap[H]? = some (.cells cur 5 (0, 0))) hS.ev.size (hS.get 0 rfl) (hS.get 1 rfl) (hS.get 6 rfl) (hS.at 1 rfl) rfl (by omega) (by rintro (h | h); (· omega); (· exact hHb h.symm)) hXlt (fun w w' ho hp => ⟨by rw [ho.block r (Array.getElem?_eq_some_iff.1 hp.1).1 (fun h => h)]; exact hp.1, by rw [ho.block H (Array.getElem?_eq_some_iff.1 hp.2).1 (fun h => h)]; exact hp.2⟩) ?_ ?_
  ·intro wx hbx
   have hr' := hbx.block r (hXlt r (.inl rfl)) |>.trans (hS.at 2 rfl)
   have hH' := hbx.block H (hXlt H (.inr rfl)) |>.trans (hS.at 0 rfl)
   exact Calls.mono (rdRead_end hr' hkn (by omega) (hG4.below hbx)) fun e w' ⟨h1, h2⟩ => ⟨h1, Only.of_below h2, by rw [h2.block r (Array.getElem?_eq_some_iff.1 hr').1]; exact hr', by rw [h2.block H (Array.getElem?_eq_some_iff.1 hH').1]; exact hH'⟩
  intro a' w5 hsz hdf e0 e1 e6 e4 e7 e8 hO5 ⟨hr5, hH5⟩
  obtain ⟨a, rfl⟩ : ∃ x, x = a' := ⟨a', rfl⟩
  have hS5 : Sv 67 [] [⟨b, #[.slice (some ⟨H, 0, none⟩) k cap, .int .i64 0, .int .i8 lr], 84, true⟩] (fun q => q = r ∨ b ≤ q) w a w5 := ((hS.mask [false, true, false]).go hO5 (by intro q hq; cases List.mem_singleton.1 (show q ∈ [(_ : Bk)] from hq); rintro (h | h); (· exact absurd h (Nat.ne_of_gt hrb)); (· exact hHb h.symm)) (fun q hq _ => by rcases hq with rfl | rfl; (· exact .inl rfl); (· exact .inr hbH))).empty (a := a) (hsz.trans hS.ev.size.symm) hdf
  replace hS : Sv 67 ((8, eofV Ge0) :: (7, .int .i64 0) :: (6, .int .i64 ((k : Nat) : Int)) :: (4, .int .i64 ((k : Nat) : Int)) :: (0, pt b 0) :: (1, .iface 62 (pt r 0)) :: []) [⟨H, cur, 5, true⟩, ⟨r, #[.slice (some ⟨g, 0, none⟩) n cc, .int .i64 ((k : Nat) : Int), .int .i64 prev], 97, true⟩, ⟨b, #[.slice (some ⟨H, 0, none⟩) k cap, .int .i64 0, .int .i8 lr], 84, true⟩] (fun q => q = r ∨ b ≤ q) w a w5 := (((((((hS5.know e1).know e0).know (e4.trans (hS.get 4 rfl))).know e6).know e7).know e8).addB hr5 (by intro q hq; cases List.mem_singleton.1 hq; exact (Nat.ne_of_gt hrb)) (fun _ => .inl (.inl rfl))).addB hH5 (by intro q hq; simp only [List.mem_cons, List.not_mem_nil, or_false] at hq; rcases hq with rfl | rfl; (· exact hrH); (· exact hHb.symm)) (fun _ => .inl (.inr hbH))
  clear hS5
  show Code.wp _ _ _ _ _
  refine wp_seq ?_
  refine wp_seq ?_
  refine wp_region_lit ?_
  refine sv_r (v := .int .i64 0) hS (ex_mv (hS.get 7 rfl)) fun a hS => ?_
  refine sv_r (v := .bool false) hS (ei_lss (hS.get 42 rfl) rfl (by decide)) fun a hS => ?_
  refine wpList_nil ?_
  replace hS := hS.cut [43, 8, 7, 6, 4, 0, 1]
  show Code.wp _ _ _ _ _
  refine cond_f (hS.get 43 rfl) ?_
  refine wp_skip ?_
  show Code.wp _ _ _ _ _
  refine wp_seq ?_
  refine wp_region_lit ?_
  refine sv_r (v := pt b 0) hS (ex_mv (hS.get 0 rfl)) fun a hS => ?_
  refine sv_r (v := pt b 0) hS (ex_mv (hS.get 0 rfl)) fun a hS => ?_
  refine sv_r (v := pt b 0) hS (ex_nc (hS.get 46 rfl)) fun a hS => ?_
  refine sv_r (v := pt b 0) hS (ex_fo (hS.get 47 rfl) fo_bytes_Buffer_0 rfl) fun a hS => ?_
  refine sv_r (v := .slice (some ⟨H, 0, none⟩) k cap) hS (ex_ld (hS.get 48 rfl) lt_sl_uint8 (cell_of_heap (v := .slice (some ⟨H, 0, none⟩) k cap) (hS.at 2 rfl) rfl)) fun a hS => ?_
  refine sv_r (v := .int .i64 ((k : Nat) : Int)) hS (ex_mv (hS.get 6 rfl)) fun a hS => ?_
  refine sv_r (v := .int .i64 0) hS (ex_mv (hS.get 7 rfl)) fun a hS => ?_
  refine sv_r (v := .int .i64 ((k + 0 : Nat) : Int)) hS (ei_add (hS.get 50 rfl) (hS.get 51 rfl) (by rw [IntKind.wrap_i64]; omega)) fun a hS => ?_
  refine sv_r (v := .slice (some ⟨H, 0, none⟩) (k + 0) cap) hS (ex_slh (E := 5) (h := (k + 0)) Tryz.underlying45 Tryz.sizeOf5 (hS.get 49 rfl) (hS.get 52 rfl) (by omega)) fun a hS => ?_
  refine sv_r (v := pt b 0) hS (ex_nc (hS.get 45 rfl)) fun a hS => ?_
  refine sv_r (v := pt b 0) hS (ex_fo (hS.get 54 rfl) fo_bytes_Buffer_0 rfl) fun a hS => ?_
  refine sv_st (i := 2) (v := .slice (some ⟨H, 0, none⟩) (k + 0) cap) (cs' := #[.slice (some ⟨H, 0, none⟩) (k + 0) cap, .int .i64 0, .int .i8 lr]) (m' := [⟨H, cur, 5, true⟩, ⟨r, #[.slice (some ⟨g, 0, none⟩) n cc, .int .i64 ((k : Nat) : Int), .int .i64 prev], 97, true⟩, ⟨b, #[.slice (some ⟨H, 0, none⟩) (k + 0) cap, .int .i64 0, .int .i8 lr], 84, true⟩]) hS (su_sl_uint8 _ _ _) (hS.get 55 rfl) (hS.get 53 rfl) rfl (show 0 < 3 from by decide) rfl rfl ?_
  intro w4 hty hS
  replace hS : Sv 67 ((43, .bool false) :: (8, eofV Ge0) :: (7, .int .i64 0) :: (6, .int .i64 ((k : Nat) : Int)) :: (4, .int .i64 ((k : Nat) : Int)) :: (0, pt b 0) :: (1, .iface 62 (pt r 0)) :: []) [⟨H, cur, 5, true⟩, ⟨r, #[.slice (some ⟨g, 0, none⟩) n cc, .int .i64 ((k : Nat) : Int), .int .i64 prev], 97, true⟩, ⟨b, #[.slice (some ⟨H, 0, none⟩) (k + 0) cap, .int .i64 0, .int .i8 lr], 84, true⟩] (fun q => q = r ∨ b ≤ q) w a w4 := hS.pick rfl
  refine nx3 ?_
  refine sv_r (v := .int .i64 ((k : Nat) : Int)) hS (ex_mv (hS.get 4 rfl)) fun a hS => ?_
  refine sv_r (v := .int .i64 0) hS (ex_mv (hS.get 7 rfl)) fun a hS => ?_
  refine sv_r (v := .int .i64 ((k + 0 : Nat) : Int)) hS (ei_add (hS.get 56 rfl) (hS.get 57 rfl) (by rw [IntKind.wrap_i64]; omega)) fun a hS => ?_
  refine sv_r (v := .int .i64 ((k + 0 : Nat) : Int)) hS (ex_as (hS.get 58 rfl)) fun a hS => ?_
  refine wpList_nil ?_
  replace hS := hS.cut [4, 43, 8, 7, 6, 0, 1]
  show Code.wp _ _ _ _ _
  refine wp_seq ?_
  refine wp_seq ?_
  refine wp_region_lit ?_
  refine sv_r (v := eofV Ge0) hS (ex_mv (hS.get 8 rfl)) fun a hS => ?_
  have hGw : Env B0 Ge0 w4 := hG.keep hS.only (fun q hq => by rcases hq with rfl | hq; (· exact hB0); (· omega))
  refine sv_r (v := eofV Ge0) hS (ex_ldg lt_error hGw.eof) fun a hS => ?_
  refine sv_r (v := .bool true) hS (ex_sameeq (hS.get 59 rfl) (hS.get 60 rfl)) fun a hS => ?_
  refine wpList_nil ?_
  replace hS := hS.cut [61, 4, 43, 8, 7, 6, 0, 1]
  show Code.wp _ _ _ _ _
  refine cond_t (hS.get 61 rfl) ?_
  refine wp_seq ?_
  refine wp_region_lit ?_
  refine sv_r (v := .int .i64 ((k + 0 : Nat) : Int)) hS (ex_mv (hS.get 4 rfl)) fun a hS => ?_
  refine sv_r (v := .int .i64 ((k + 0 : Nat) : Int)) hS (ex_as (hS.get 62 rfl)) fun a hS => ?_
  refine sv_r (v := .nilIface) hS ex_ac fun a hS => ?_
  replace hS : Sv 67 ((5, .nilIface) :: (4, .int .i64 ((k + 0 : Nat) : Int)) :: (61, .bool true) :: (43, .bool false) :: (8, eofV Ge0) :: (7, .int .i64 0) :: (6, .int .i64 ((k : Nat) : Int)) :: (0, pt b 0) :: (1, .iface 62 (pt r 0)) :: []) [⟨H, cur, 5, true⟩, ⟨r, #[.slice (some ⟨g, 0, none⟩) n cc, .int .i64 ((k : Nat) : Int), .int .i64 prev], 97, true⟩, ⟨b, #[.slice (some ⟨H, 0, none⟩) (k + 0) cap, .int .i64 0, .int .i8 lr], 84, true⟩] (fun q => q = r ∨ b ≤ q) w a w4 := hS.pick rfl
  refine nx1 ?_
  refine wp_ret ?_
  try simp only [Exit.inBlock, Exit.then]
  have hkn' : k = n := by omega
  subst hkn'
  have hck' : cur.toList.take k = Lib.byteCells s.data.toList := by rw [hck, List.take_of_length_le (by rw [hll]; exact Nat.le_refl _)]
  exact ret2_of_ev hS.ev rfl (hS.get 4 rfl) (hS.get 5 rfl) ⟨rfl, ⟨H, cap, cur, lr, by omega, hS.at 2 rfl, hS.at 0 rfl, by omega, hcm, hcs, hck'⟩, hS.only⟩
end Go.Proofs.YtflppablgdegcaaGreatDoor
