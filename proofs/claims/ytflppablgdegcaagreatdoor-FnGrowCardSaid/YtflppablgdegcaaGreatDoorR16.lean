/- Joined: Da. -/
import Derived.Test.YtflppablgdegcaaGreatDoorR15
set_option maxRecDepth 100000
set_option maxHeartbeats 8000000
namespace Go.Proofs.YtflppablgdegcaaGreatDoor
open Go.RowKit
structure Pz where
 tgt : Nat
 seq : Nat
 iframe : Bool
 closed : Bool
 typ : Nat
 disc : Nat
 start : Nat
 precise : Bool
 ver : Nat
 key : Option Addr
 map : Option Addr
def Pz.cells (p : Pz) (sv : Value) (cap tail cnt : Nat) : Array Value := #[.float .f64 (p.tgt), .int .u64 ((p.seq : Nat) : Int), sv, .string (⟨#[]⟩), .bool (p.iframe), .bool (p.closed), .int .u64 ((p.typ : Nat) : Int), .int .u64 ((p.disc : Nat) : Int), .float .f64 (p.start), .bool (p.precise), .bool false, .int .i64 0, .int .u64 0, .int .u64 ((cap : Nat) : Int), .int .u64 0, .int .u64 ((tail : Nat) : Int), .int .u64 ((cnt : Nat) : Int), .slice none 0 0, .int .i64 0, .int .i8 0, .int .u8 ((p.ver : Nat) : Int), .pointer p.key, .pointer p.map]
structure Dz where
 lt : Nat
 m3 : Bool
 inf : Bool
 range : Bool
 disc : Bool
 date : Bool
 key : Bool
 map : Bool
 dateV : ByteArray
 limit : Nat
 offset : Nat
 dur : Nat
 title : ByteArray
 xkey : Option Addr
 xmap : Option Addr
def Dz.cells (d : Dz) : Array Value := #[.int .u64 ((d.lt : Nat) : Int), .bool (d.m3), .bool false, .bool (d.inf), .bool false, .bool (d.range), .bool (d.disc), .bool (d.date), .bool (d.key), .bool (d.map), .string d.dateV, .int .i64 ((d.limit : Nat) : Int), .int .i64 ((d.offset : Nat) : Int), .float .f64 (d.dur), .string d.title, .pointer none, .slice none 0 0, .pointer d.xkey, .pointer d.xmap, .pointer none]
def Hh (gp gs : Nat) (P S : Array Value) (w : World) : Prop := w.heap[gp]? = some (.cells P 88 (0, 0)) ∧ w.heap[gs]? = some (.cells S 121 (0, 0))
theorem hpf {L : ByteArray} {p pre rest : List UInt8} (hL : L.data.toList = pre ++ rest) (h : (p.isPrefixOf pre || pre.isPrefixOf p) = false) : Lib.hasPrefix L.data.toList p = false := by
 rw [Bool.or_eq_false_iff] at h
 rw [hL]; exact pre_f _ _ _ h.1 h.2
theorem hpt {L : ByteArray} {p pre rest : List UInt8} (hL : L.data.toList = pre ++ rest) (h : p.isPrefixOf pre = true) : Lib.hasPrefix L.data.toList p = true := by
 rw [hL]; exact pre_t _ _ _ h
theorem isPre_app : ∀ (p r : List UInt8), p.isPrefixOf (p ++ r) = true
 | [], _ => rfl
 | b :: p, r => by
  simp only [List.cons_append, List.isPrefixOf, Bool.and_eq_true, beq_iff_eq, true_and]
  exact isPre_app p r
theorem hne {L : ByteArray} {c pre rest : List UInt8} (hL : L.data.toList = pre ++ rest) (h : pre.isPrefixOf c = false) : decide (L.data.toList = c) = false := by
 rw [decide_eq_false_iff_not]
 intro e
 rw [hL] at e
 have := isPre_app pre rest
 rw [e, h] at this
 cases this
theorem heq {L : ByteArray} {c : List UInt8} (hL : L.data.toList = c) : decide (L.data.toList = c) = true := by rw [decide_eq_true_iff]; exact hL
theorem hpw {L : ByteArray} {c p : List UInt8} {b : Bool} (hL : L.data.toList = c) (h : Lib.hasPrefix c p = b) : Lib.hasPrefix L.data.toList p = b := by rw [hL]; exact h
theorem hnw {L : ByteArray} {c e : List UInt8} (hL : L.data.toList = c) (h : decide (c = e) = false) : decide (L.data.toList = e) = false := by rw [hL]; exact h
theorem Hh.sv {N gp gs : Nat} {P S : Array Value} {l : List (Nat × Value)} {w w1 : World} {a : Act} {M : Nat → Prop} (h : Hh gp gs P S w) (hb : Below w.heap.size w w1) (hp : M gp) (hs : M gs) (Z : Sv N l [] M w a w1) : Sv N l [⟨gs, S, 121, true⟩, ⟨gp, P, 88, true⟩] M w a w1 := by
 have h1 := (hb.block gp (Array.getElem?_eq_some_iff.1 h.1).1).trans h.1
 have h2 := (hb.block gs (Array.getElem?_eq_some_iff.1 h.2).1).trans h.2
 have hS1 := Z.addB (o := true) h1 (by intro q hq; cases hq) (fun _ => .inl hp)
 exact hS1.addB (o := true) h2 (hS1.neT h2 rfl) (fun _ => .inl hs)
abbrev GS (gp gs : Nat) : Nat → Prop := fun q => q = gp ∨ q = gs
def Lx (gp gs : Nat) (w : World) (P S : Array Value) (e : Ending) (w2 : World) : Prop := e = .returned .nilIface ∧ Only (GS gp gs) w w2 ∧ Hh gp gs P S w2
theorem da_m3u {B : Nat} {G : Ge} {gp gs : Nat} {s L : ByteArray} {st : Bool} {p : Pz} {d : Dz} {sv : Value} {cap tail cnt : Nat} (w : World) (hG : Env B G w) (hsz : s.size ≤ 1000000) (hasc : Asc s) (hLs : trimA s = L) (hh : Hh gp gs (p.cells sv cap tail cnt) d.cells w) (hBp : B ≤ gp) (hBs : B ≤ gs) (hL : L.data.toList = [35, 69, 88, 84, 77, 51, 85])  : Calls Tryz.prog 47 #[pt gp 0, pt gs 0, .string s, .bool st] w (Lx gp gs w (p.cells sv cap tail cnt) ({ d with m3 := true }.cells)) := by
 refine dl_in w hG hsz hasc hLs (GS gp gs) fun a w1 hb1 Z => ?_
 replace Z := hh.sv hb1 (.inl rfl) (.inr rfl) Z
 refine ch3 Z (cell_of_heap (v := .bool d.inf) (Z.at 0 rfl) rfl) (hpw hL (by decide)) fun a Z => ch18 Z (hpw hL (by decide)) fun a Z => hit59 Z (heq hL) fun a Z => ?_
 replace Z := Z.ct [2, 0, 1, 3, 8, 9] rfl
 refine wp_region_lit (sv_n 3 Z rfl fun a Z => sv_st (i := 0) (v := .bool true) (cs' := ({ d with m3 := true }.cells)) Z (su_bool _) (Z.g 356 rfl) rfl rfl (show 1 < 20 from by decide) rfl rfl fun w1 hty Z => Z.nx [2, 0, 1, 3, 8, 9] rfl fun Z => sh ?_)
 exact dl_end (Z.pick rfl) ⟨rfl, Z.only, Z.at 1 rfl, Z.at 0 rfl⟩
theorem da_end {B : Nat} {G : Ge} {gp gs : Nat} {s L : ByteArray} {st : Bool} {p : Pz} {d : Dz} {sv : Value} {cap tail cnt : Nat} (w : World) (hG : Env B G w) (hsz : s.size ≤ 1000000) (hasc : Asc s) (hLs : trimA s = L) (hh : Hh gp gs (p.cells sv cap tail cnt) d.cells w) (hBp : B ≤ gp) (hBs : B ≤ gs) (hL : L.data.toList = [35, 69, 88, 84, 45, 88, 45, 69, 78, 68, 76, 73, 83, 84])  : Calls Tryz.prog 47 #[pt gp 0, pt gs 0, .string s, .bool st] w (Lx gp gs w ({ p with closed := true }.cells sv cap tail cnt) ({ d with lt := 2 }.cells)) := by
 refine dl_in w hG hsz hasc hLs (GS gp gs) fun a w1 hb1 Z => ?_
 replace Z := hh.sv hb1 (.inl rfl) (.inr rfl) Z
 refine ch3 Z (cell_of_heap (v := .bool d.inf) (Z.at 0 rfl) rfl) (hpw hL (by decide)) fun a Z => ch18 Z (hpw hL (by decide)) fun a Z => ch59 Z (hnw hL (by decide)) fun a Z => hit61 Z (heq hL) fun a Z => ?_
 replace Z := Z.ct [2, 0, 1, 3, 8, 9] rfl
 refine wr (sv_n 3 Z rfl fun a Z => sv_st (i := 0) (v := .int .u64 2) (cs' := ({ d with lt := 2 }.cells)) Z (su_m3u8_ListType _) (Z.g 362 rfl) rfl rfl (show 0 < 20 from by decide) rfl rfl fun w1 hty Z => Z.nx [2, 0, 1, 3, 8, 9] rfl fun Z => sh (wp_region_lit (sv_n 3 Z rfl fun a Z => ?_)))
 refine sv_st (i := 1) (v := .bool true) (cs' := ({ p with closed := true }.cells sv cap tail cnt)) Z (su_bool _) (Z.g 365 rfl) rfl rfl (show 5 < 23 from by decide) rfl rfl fun w2 hty Z => Z.nx [2, 0, 1, 3, 8, 9] rfl fun Z => sh ?_
 exact dl_end (Z.pick rfl) ⟨rfl, Z.only, Z.at 1 rfl, Z.at 0 rfl⟩
theorem da_ver {B : Nat} {G : Ge} {gp gs : Nat} {s L : ByteArray} {st : Bool} {p : Pz} {d : Dz} {sv : Value} {cap tail cnt : Nat} (w : World) (hG : Env B G w) (hsz : s.size ≤ 1000000) (hasc : Asc s) (hLs : trimA s = L) (hh : Hh gp gs (p.cells sv cap tail cnt) d.cells w) (hBp : B ≤ gp) (hBs : B ≤ gs) {rest : List UInt8} (hL : L.data.toList = [35, 69, 88, 84, 45, 88, 45, 86, 69, 82, 83, 73, 79, 78, 58] ++ rest) {nw : Nat} (hn : 15 ≤ L.size) (hz : ∀ w, Env B G w → Calls Tryz.prog 68 #[.string (L.extract 15 L.size), .int .u8 ((p.ver : Nat) : Int)] w fun e w' => e = .returned (.tuple #[.int .u8 ((nw : Nat) : Int), .nilIface]) ∧ Below w.heap.size w w') : Calls Tryz.prog 47 #[pt gp 0, pt gs 0, .string s, .bool st] w (Lx gp gs w ({ p with ver := nw }.cells sv cap tail cnt) ({ d with lt := 2 }.cells)) := by
 refine dl_in w hG hsz hasc hLs (GS gp gs) fun a w1 hb1 Z => ?_
 replace Z := hh.sv hb1 (.inl rfl) (.inr rfl) Z
 refine ch3 Z (cell_of_heap (v := .bool d.inf) (Z.at 0 rfl) rfl) (hpf hL (by decide)) fun a Z => ch18 Z (hpt hL (by decide)) fun a Z => ch59 Z (hne hL (by decide)) fun a Z => ch61 Z (hne hL (by decide)) fun a Z => hit64 Z (hpt hL (by decide)) fun a Z => ?_
 replace Z := Z.ct [2, 0, 1, 3, 8, 9] rfl
 refine wr (sv_n 3 Z rfl fun a Z => sv_st (i := 0) (v := .int .u64 2) (cs' := ({ d with lt := 2 }.cells)) Z (su_m3u8_ListType _) (Z.g 371 rfl) rfl rfl (show 0 < 20 from by decide) rfl rfl fun w1 hty Z => Z.nx [2, 0, 1, 3, 8, 9] rfl fun Z => sh (wp_seq ?_))
 have hGw : Env B G w1 := (hG.keep Z.only (fun q hq => by rcases hq with rfl | rfl; (· exact hBp); (· exact hBs)))
 let cf2 : Nat → Array Value := fun k : Nat => if k = 0 then (p.cells sv cap tail cnt) else ({ p with ver := nw }.cells sv cap tail cnt)
 refine G2.wp_region_sto (N := 1040) [G2.Ast.eq (pt gp 0), G2.Ast.eq (.string L), G2.Ast.eq (.string (L.extract 15 L.size)), G2.Ast.eq (pt gp 0), G2.Ast.eq (pt gp 0), G2.Ast.eq (pt gp 20), G2.Ast.eq (.int .u8 ((p.ver : Nat) : Int)), G2.Ast.eq (.tuple #[.int .u8 ((nw : Nat) : Int), .nilIface]), G2.Ast.eq (.tuple #[.int .u8 ((nw : Nat) : Int), .nilIface]), G2.Ast.eq (.int .u8 ((nw : Nat) : Int)), G2.Ast.eq (.nilIface), G2.Ast.eq (pt gp 0), G2.Ast.eq (pt gp 20), G2.Ast.sto 1, G2.Ast.eq (.nilIface)] gp 88 1 cf2 (by kernel_rfl) (by kernel_rfl) (by kernel_rfl) Z.ev.size (by simp) ?_ ?_
 ·refine ⟨?_, ?_, ?_, ?_, ?_, ?_, ?_, ?_, ?_, ?_, ?_, ?_, ?_, ?_, ?_, trivial⟩
  ·exact fun _ _ c => G2.og_val (ex_mv (c.o (Z.g 0 rfl))) rfl
  ·exact fun _ _ c => G2.og_val (ex_mv (c.o (Z.g 2 rfl))) rfl
  ·exact fun _ _ c => G2.og_val (ex_ssl (i := 15) (c.s 1 rfl) rfl (by omega)) rfl
  ·exact fun _ _ c => G2.og_val (ex_mv (c.o (Z.g 0 rfl))) rfl
  ·exact fun _ _ c => G2.og_val (ex_nc (c.s 3 rfl)) rfl
  ·exact fun _ _ c => G2.og_val (ex_fo (c.s 4 rfl) (fo rfl) rfl) rfl
  ·intro a wx c
   have e_378 : a.eval (.tmp 378) = pt gp 20 := c.s 5 rfl
   have hK1 := G2.sto_first Z c 1 rfl rfl (by kernel_rfl)
   clear c
   exact G2.og_val (ex_ld e_378 lt_uint8 (cell_of_heap (v := .int .u8 ((p.ver : Nat) : Int)) hK1 rfl)) rfl
  ·intro a wx c
   have e_375 : a.eval (.tmp 375) = .string (L.extract 15 L.size) := c.s 2 rfl
   have e_379 : a.eval (.tmp 379) = .int .u8 ((p.ver : Nat) : Int) := c.s 6 rfl
   have hGx : Env B G wx := hGw.keep (only_sto c) (fun q hq => by rw [hq]; exact hBp)
   clear c
   have hcl : Calls Tryz.prog _ _ wx (fun e w' => e = .returned (.tuple #[.int .u8 ((nw : Nat) : Int), .nilIface]) ∧ Below wx.heap.size wx w') := hz _ hGx
   refine G2.og_call (ex_call2 cf_m3u8_zzUint8 e_375 e_379) (Calls.mono hcl ?_)
   rintro e w' ⟨rfl, hb⟩
   exact ⟨_, rfl, hb, rfl⟩
  ·exact fun _ _ c => G2.og_val (ex_mv (c.s 7 rfl)) rfl
  ·exact fun _ _ c => G2.og_val (ei_ext (c.s 8 rfl) rfl) rfl
  ·exact fun _ _ c => G2.og_val (ei_ext (c.s 8 rfl) rfl) rfl
  ·exact fun _ _ c => G2.og_val (ex_nc (c.s 0 rfl)) rfl
  ·exact fun _ _ c => G2.og_val (ex_fo (c.s 11 rfl) (fo rfl) rfl) rfl
  ·intro a wx c
   have e_384 : a.eval (.tmp 384) = pt gp 20 := c.s 12 rfl
   have e_381 : a.eval (.tmp 381) = .int .u8 ((nw : Nat) : Int) := c.s 9 rfl
   have ms3 := G2.sto_first Z c 1 rfl rfl (by kernel_rfl)
   clear c
   exact G2.og_sto (k := 1) (m := 0) (m' := 1) (off := 20) rfl ms3 (su_uint8 _) e_384 e_381 (show 20 < 23 from by decide) rfl (by decide) (by decide)
  ·exact fun _ _ c => G2.og_val (ex_as (c.s 10 rfl)) rfl
 ·intro a w3 c
  obtain ⟨mi, ms1, ms2, ms3⟩ : ∃ mi, 1 ≤ mi ∧ mi ≤ 1 ∧ w3.heap[gp]? = some (.cells (cf2 mi) 88 (0, 0)) := c.slot 13 _ rfl
  obtain rfl : mi = 1 := by omega
  have ms3 : w3.heap[gp]? = some (.cells ({ p with ver := nw }.cells sv cap tail cnt) 88 (0, 0)) := ms3
  obtain ⟨Z', hty⟩ := G2.sto_end (m' := [⟨gs, ({ d with lt := 2 }.cells), 121, true⟩, ⟨gp, ({ p with ver := nw }.cells sv cap tail cnt), 88, true⟩]) Z c (i := 1) rfl rfl ms3
  replace Z : Sv 1040 ((9, .nilIface) :: (8, .nilIface) :: (3, .bool st) :: (1, pt gs 0) :: (0, pt gp 0) :: (2, .string L) :: []) [⟨gs, ({ d with lt := 2 }.cells), 121, true⟩, ⟨gp, ({ p with ver := nw }.cells sv cap tail cnt), 88, true⟩] (GS gp gs) w a w3 := ((((((Z'.know (c.outS (by decide +kernel) (Z.g 2 rfl))).know (c.outS (by decide +kernel) (Z.g 0 rfl))).know (c.outS (by decide +kernel) (Z.g 1 rfl))).know (c.outS (by decide +kernel) (Z.g 3 rfl))).know (c.outS (by decide +kernel) (Z.g 8 rfl))).know (a := a) (t := 9) (v := .nilIface) (c.slot 14 _ rfl))
  clear c Z'
  replace Z := Z.ct [9, 8, 3, 1, 0, 2] rfl
  refine sh (wp_seq ?_)
  cases st with
  | true =>
   refine wp_region_lit (sv_n 3 Z rfl fun a Z => sv_g (v := .bool false) Z (Z.g 386 rfl) (ex_ine eqi_error (Z.g 387 rfl)) fun a Z => sv_n 1 Z rfl fun a Z => Z.nx [389, 9, 8, 3, 1, 0, 2] rfl fun Z => sh (cond_f (Z.g 389 rfl) (wp_skip (sh ?_))))
   exact dl_end (Z.pick rfl) ⟨rfl, Z.only, Z.at 1 rfl, Z.at 0 rfl⟩
  | false =>
   refine wp_region_lit (sv_n 5 Z rfl fun a Z => Z.nx [389, 9, 8, 3, 1, 0, 2] rfl fun Z => sh (cond_f (Z.g 389 rfl) (wp_skip (sh ?_))))
   exact dl_end (Z.pick rfl) ⟨rfl, Z.only, Z.at 1 rfl, Z.at 0 rfl⟩
theorem da_tgt {B : Nat} {G : Ge} {gp gs : Nat} {s L : ByteArray} {st : Bool} {p : Pz} {d : Dz} {sv : Value} {cap tail cnt : Nat} (w : World) (hG : Env B G w) (hsz : s.size ≤ 1000000) (hasc : Asc s) (hLs : trimA s = L) (hh : Hh gp gs (p.cells sv cap tail cnt) d.cells w) (hBp : B ≤ gp) (hBs : B ≤ gs) {rest : List UInt8} (hL : L.data.toList = [35, 69, 88, 84, 45, 88, 45, 84, 65, 82, 71, 69, 84, 68, 85, 82, 65, 84, 73, 79, 78, 58] ++ rest) {nw : Nat} (hn : 22 ≤ L.size) (hz : ∀ w, Env B G w → Calls Tryz.prog 69 #[.string (L.extract 22 L.size), .float .f64 (p.tgt)] w fun e w' => e = .returned (.tuple #[.float .f64 (nw), .nilIface]) ∧ Below w.heap.size w w') : Calls Tryz.prog 47 #[pt gp 0, pt gs 0, .string s, .bool st] w (Lx gp gs w ({ p with tgt := nw }.cells sv cap tail cnt) ({ d with lt := 2 }.cells)) := by
 refine dl_in w hG hsz hasc hLs (GS gp gs) fun a w1 hb1 Z => ?_
 replace Z := hh.sv hb1 (.inl rfl) (.inr rfl) Z
 refine ch3 Z (cell_of_heap (v := .bool d.inf) (Z.at 0 rfl) rfl) (hpf hL (by decide)) fun a Z => ch18 Z (hpt hL (by decide)) fun a Z => ch59 Z (hne hL (by decide)) fun a Z => ch61 Z (hne hL (by decide)) fun a Z => ch64 Z (hpf hL (by decide)) fun a Z => hit69 Z (hpt hL (by decide)) fun a Z => ?_
 replace Z := Z.ct [2, 0, 1, 3, 8, 9] rfl
 refine wr (sv_n 3 Z rfl fun a Z => sv_st (i := 0) (v := .int .u64 2) (cs' := ({ d with lt := 2 }.cells)) Z (su_m3u8_ListType _) (Z.g 396 rfl) rfl rfl (show 0 < 20 from by decide) rfl rfl fun w1 hty Z => Z.nx [2, 0, 1, 3, 8, 9] rfl fun Z => sh (wp_seq ?_))
 have hGw : Env B G w1 := (hG.keep Z.only (fun q hq => by rcases hq with rfl | rfl; (· exact hBp); (· exact hBs)))
 let cf2 : Nat → Array Value := fun k : Nat => if k = 0 then (p.cells sv cap tail cnt) else ({ p with tgt := nw }.cells sv cap tail cnt)
 refine G2.wp_region_sto (N := 1040) [G2.Ast.eq (pt gp 0), G2.Ast.eq (.string L), G2.Ast.eq (.string (L.extract 22 L.size)), G2.Ast.eq (pt gp 0), G2.Ast.eq (pt gp 0), G2.Ast.eq (pt gp 0), G2.Ast.eq (.float .f64 (p.tgt)), G2.Ast.eq (.tuple #[.float .f64 (nw), .nilIface]), G2.Ast.eq (.tuple #[.float .f64 (nw), .nilIface]), G2.Ast.eq (.float .f64 (nw)), G2.Ast.eq (.nilIface), G2.Ast.eq (pt gp 0), G2.Ast.eq (pt gp 0), G2.Ast.sto 1, G2.Ast.eq (.nilIface)] gp 88 1 cf2 (by kernel_rfl) (by kernel_rfl) (by kernel_rfl) Z.ev.size (by simp) ?_ ?_
 ·refine ⟨?_, ?_, ?_, ?_, ?_, ?_, ?_, ?_, ?_, ?_, ?_, ?_, ?_, ?_, ?_, trivial⟩
  ·exact fun _ _ c => G2.og_val (ex_mv (c.o (Z.g 0 rfl))) rfl
  ·exact fun _ _ c => G2.og_val (ex_mv (c.o (Z.g 2 rfl))) rfl
  ·exact fun _ _ c => G2.og_val (ex_ssl (i := 22) (c.s 1 rfl) rfl (by omega)) rfl
  ·exact fun _ _ c => G2.og_val (ex_mv (c.o (Z.g 0 rfl))) rfl
  ·exact fun _ _ c => G2.og_val (ex_nc (c.s 3 rfl)) rfl
  ·exact fun _ _ c => G2.og_val (ex_fo (c.s 4 rfl) (fo rfl) rfl) rfl
  ·intro a wx c
   have e_403 : a.eval (.tmp 403) = pt gp 0 := c.s 5 rfl
   have hK1 := G2.sto_first Z c 1 rfl rfl (by kernel_rfl)
   clear c
   exact G2.og_val (ex_ld e_403 lt_float64 (cell_of_heap (v := .float .f64 (p.tgt)) hK1 rfl)) rfl
  ·intro a wx c
   have e_400 : a.eval (.tmp 400) = .string (L.extract 22 L.size) := c.s 2 rfl
   have e_404 : a.eval (.tmp 404) = .float .f64 (p.tgt) := c.s 6 rfl
   have hGx : Env B G wx := hGw.keep (only_sto c) (fun q hq => by rw [hq]; exact hBp)
   clear c
   have hcl : Calls Tryz.prog _ _ wx (fun e w' => e = .returned (.tuple #[.float .f64 (nw), .nilIface]) ∧ Below wx.heap.size wx w') := hz _ hGx
   refine G2.og_call (ex_call2 cf_m3u8_zzFloat e_400 e_404) (Calls.mono hcl ?_)
   rintro e w' ⟨rfl, hb⟩
   exact ⟨_, rfl, hb, rfl⟩
  ·exact fun _ _ c => G2.og_val (ex_mv (c.s 7 rfl)) rfl
  ·exact fun _ _ c => G2.og_val (ei_ext (c.s 8 rfl) rfl) rfl
  ·exact fun _ _ c => G2.og_val (ei_ext (c.s 8 rfl) rfl) rfl
  ·exact fun _ _ c => G2.og_val (ex_nc (c.s 0 rfl)) rfl
  ·exact fun _ _ c => G2.og_val (ex_fo (c.s 11 rfl) (fo rfl) rfl) rfl
  ·intro a wx c
   have e_409 : a.eval (.tmp 409) = pt gp 0 := c.s 12 rfl
   have e_406 : a.eval (.tmp 406) = .float .f64 (nw) := c.s 9 rfl
   have ms3 := G2.sto_first Z c 1 rfl rfl (by kernel_rfl)
   clear c
   exact G2.og_sto (k := 1) (m := 0) (m' := 1) (off := 0) rfl ms3 (su_float64 _) e_409 e_406 (show 0 < 23 from by decide) rfl (by decide) (by decide)
  ·exact fun _ _ c => G2.og_val (ex_as (c.s 10 rfl)) rfl
 ·intro a w3 c
  obtain ⟨mi, ms1, ms2, ms3⟩ : ∃ mi, 1 ≤ mi ∧ mi ≤ 1 ∧ w3.heap[gp]? = some (.cells (cf2 mi) 88 (0, 0)) := c.slot 13 _ rfl
  obtain rfl : mi = 1 := by omega
  have ms3 : w3.heap[gp]? = some (.cells ({ p with tgt := nw }.cells sv cap tail cnt) 88 (0, 0)) := ms3
  obtain ⟨Z', hty⟩ := G2.sto_end (m' := [⟨gs, ({ d with lt := 2 }.cells), 121, true⟩, ⟨gp, ({ p with tgt := nw }.cells sv cap tail cnt), 88, true⟩]) Z c (i := 1) rfl rfl ms3
  replace Z : Sv 1040 ((9, .nilIface) :: (8, .nilIface) :: (3, .bool st) :: (1, pt gs 0) :: (0, pt gp 0) :: (2, .string L) :: []) [⟨gs, ({ d with lt := 2 }.cells), 121, true⟩, ⟨gp, ({ p with tgt := nw }.cells sv cap tail cnt), 88, true⟩] (GS gp gs) w a w3 := ((((((Z'.know (c.outS (by decide +kernel) (Z.g 2 rfl))).know (c.outS (by decide +kernel) (Z.g 0 rfl))).know (c.outS (by decide +kernel) (Z.g 1 rfl))).know (c.outS (by decide +kernel) (Z.g 3 rfl))).know (c.outS (by decide +kernel) (Z.g 8 rfl))).know (a := a) (t := 9) (v := .nilIface) (c.slot 14 _ rfl))
  clear c Z'
  replace Z := Z.ct [9, 8, 3, 1, 0, 2] rfl
  refine sh (wp_seq ?_)
  cases st with
  | true =>
   refine wp_region_lit (sv_n 3 Z rfl fun a Z => sv_g (v := .bool false) Z (Z.g 411 rfl) (ex_ine eqi_error (Z.g 412 rfl)) fun a Z => sv_n 1 Z rfl fun a Z => Z.nx [414, 9, 8, 3, 1, 0, 2] rfl fun Z => sh (cond_f (Z.g 414 rfl) (wp_skip (sh ?_))))
   exact dl_end (Z.pick rfl) ⟨rfl, Z.only, Z.at 1 rfl, Z.at 0 rfl⟩
  | false =>
   refine wp_region_lit (sv_n 5 Z rfl fun a Z => Z.nx [414, 9, 8, 3, 1, 0, 2] rfl fun Z => sh (cond_f (Z.g 414 rfl) (wp_skip (sh ?_))))
   exact dl_end (Z.pick rfl) ⟨rfl, Z.only, Z.at 1 rfl, Z.at 0 rfl⟩
theorem da_seq {B : Nat} {G : Ge} {gp gs : Nat} {s L : ByteArray} {st : Bool} {p : Pz} {d : Dz} {sv : Value} {cap tail cnt : Nat} (w : World) (hG : Env B G w) (hsz : s.size ≤ 1000000) (hasc : Asc s) (hLs : trimA s = L) (hh : Hh gp gs (p.cells sv cap tail cnt) d.cells w) (hBp : B ≤ gp) (hBs : B ≤ gs) {rest : List UInt8} (hL : L.data.toList = [35, 69, 88, 84, 45, 88, 45, 77, 69, 68, 73, 65, 45, 83, 69, 81, 85, 69, 78, 67, 69, 58] ++ rest) {nw : Nat} (hn : 22 ≤ L.size) (hz : ∀ w, Env B G w → Calls Tryz.prog 70 #[.string (L.extract 22 L.size), .int .u64 ((p.seq : Nat) : Int)] w fun e w' => e = .returned (.tuple #[.int .u64 ((nw : Nat) : Int), .nilIface]) ∧ Below w.heap.size w w') : Calls Tryz.prog 47 #[pt gp 0, pt gs 0, .string s, .bool st] w (Lx gp gs w ({ p with seq := nw }.cells sv cap tail cnt) ({ d with lt := 2 }.cells)) := by
 refine dl_in w hG hsz hasc hLs (GS gp gs) fun a w1 hb1 Z => ?_
 replace Z := hh.sv hb1 (.inl rfl) (.inr rfl) Z
 refine ch3 Z (cell_of_heap (v := .bool d.inf) (Z.at 0 rfl) rfl) (hpf hL (by decide)) fun a Z => ch18 Z (hpt hL (by decide)) fun a Z => ch59 Z (hne hL (by decide)) fun a Z => ch61 Z (hne hL (by decide)) fun a Z => ch64 Z (hpf hL (by decide)) fun a Z => ch69 Z (hpf hL (by decide)) fun a Z => hit74 Z (hpt hL (by decide)) fun a Z => ?_
 replace Z := Z.ct [2, 0, 1, 3, 8, 9] rfl
 refine wr (sv_n 3 Z rfl fun a Z => sv_st (i := 0) (v := .int .u64 2) (cs' := ({ d with lt := 2 }.cells)) Z (su_m3u8_ListType _) (Z.g 421 rfl) rfl rfl (show 0 < 20 from by decide) rfl rfl fun w1 hty Z => Z.nx [2, 0, 1, 3, 8, 9] rfl fun Z => sh (wp_seq ?_))
 have hGw : Env B G w1 := (hG.keep Z.only (fun q hq => by rcases hq with rfl | rfl; (· exact hBp); (· exact hBs)))
 let cf2 : Nat → Array Value := fun k : Nat => if k = 0 then (p.cells sv cap tail cnt) else ({ p with seq := nw }.cells sv cap tail cnt)
 refine G2.wp_region_sto (N := 1040) [G2.Ast.eq (pt gp 0), G2.Ast.eq (.string L), G2.Ast.eq (.string (L.extract 22 L.size)), G2.Ast.eq (pt gp 0), G2.Ast.eq (pt gp 0), G2.Ast.eq (pt gp 1), G2.Ast.eq (.int .u64 ((p.seq : Nat) : Int)), G2.Ast.eq (.tuple #[.int .u64 ((nw : Nat) : Int), .nilIface]), G2.Ast.eq (.tuple #[.int .u64 ((nw : Nat) : Int), .nilIface]), G2.Ast.eq (.int .u64 ((nw : Nat) : Int)), G2.Ast.eq (.nilIface), G2.Ast.eq (pt gp 0), G2.Ast.eq (pt gp 1), G2.Ast.sto 1, G2.Ast.eq (.nilIface)] gp 88 1 cf2 (by kernel_rfl) (by kernel_rfl) (by kernel_rfl) Z.ev.size (by simp) ?_ ?_
 ·refine ⟨?_, ?_, ?_, ?_, ?_, ?_, ?_, ?_, ?_, ?_, ?_, ?_, ?_, ?_, ?_, trivial⟩
  ·exact fun _ _ c => G2.og_val (ex_mv (c.o (Z.g 0 rfl))) rfl
  ·exact fun _ _ c => G2.og_val (ex_mv (c.o (Z.g 2 rfl))) rfl
  ·exact fun _ _ c => G2.og_val (ex_ssl (i := 22) (c.s 1 rfl) rfl (by omega)) rfl
  ·exact fun _ _ c => G2.og_val (ex_mv (c.o (Z.g 0 rfl))) rfl
  ·exact fun _ _ c => G2.og_val (ex_nc (c.s 3 rfl)) rfl
  ·exact fun _ _ c => G2.og_val (ex_fo (c.s 4 rfl) (fo rfl) rfl) rfl
  ·intro a wx c
   have e_428 : a.eval (.tmp 428) = pt gp 1 := c.s 5 rfl
   have hK1 := G2.sto_first Z c 1 rfl rfl (by kernel_rfl)
   clear c
   exact G2.og_val (ex_ld e_428 lt_uint64 (cell_of_heap (v := .int .u64 ((p.seq : Nat) : Int)) hK1 rfl)) rfl
  ·intro a wx c
   have e_425 : a.eval (.tmp 425) = .string (L.extract 22 L.size) := c.s 2 rfl
   have e_429 : a.eval (.tmp 429) = .int .u64 ((p.seq : Nat) : Int) := c.s 6 rfl
   have hGx : Env B G wx := hGw.keep (only_sto c) (fun q hq => by rw [hq]; exact hBp)
   clear c
   have hcl : Calls Tryz.prog _ _ wx (fun e w' => e = .returned (.tuple #[.int .u64 ((nw : Nat) : Int), .nilIface]) ∧ Below wx.heap.size wx w') := hz _ hGx
   refine G2.og_call (ex_call2 cf_m3u8_zzUint64 e_425 e_429) (Calls.mono hcl ?_)
   rintro e w' ⟨rfl, hb⟩
   exact ⟨_, rfl, hb, rfl⟩
  ·exact fun _ _ c => G2.og_val (ex_mv (c.s 7 rfl)) rfl
  ·exact fun _ _ c => G2.og_val (ei_ext (c.s 8 rfl) rfl) rfl
  ·exact fun _ _ c => G2.og_val (ei_ext (c.s 8 rfl) rfl) rfl
  ·exact fun _ _ c => G2.og_val (ex_nc (c.s 0 rfl)) rfl
  ·exact fun _ _ c => G2.og_val (ex_fo (c.s 11 rfl) (fo rfl) rfl) rfl
  ·intro a wx c
   have e_434 : a.eval (.tmp 434) = pt gp 1 := c.s 12 rfl
   have e_431 : a.eval (.tmp 431) = .int .u64 ((nw : Nat) : Int) := c.s 9 rfl
   have ms3 := G2.sto_first Z c 1 rfl rfl (by kernel_rfl)
   clear c
   exact G2.og_sto (k := 1) (m := 0) (m' := 1) (off := 1) rfl ms3 (su_uint64 _) e_434 e_431 (show 1 < 23 from by decide) rfl (by decide) (by decide)
  ·exact fun _ _ c => G2.og_val (ex_as (c.s 10 rfl)) rfl
 ·intro a w3 c
  obtain ⟨mi, ms1, ms2, ms3⟩ : ∃ mi, 1 ≤ mi ∧ mi ≤ 1 ∧ w3.heap[gp]? = some (.cells (cf2 mi) 88 (0, 0)) := c.slot 13 _ rfl
  obtain rfl : mi = 1 := by omega
  have ms3 : w3.heap[gp]? = some (.cells ({ p with seq := nw }.cells sv cap tail cnt) 88 (0, 0)) := ms3
  obtain ⟨Z', hty⟩ := G2.sto_end (m' := [⟨gs, ({ d with lt := 2 }.cells), 121, true⟩, ⟨gp, ({ p with seq := nw }.cells sv cap tail cnt), 88, true⟩]) Z c (i := 1) rfl rfl ms3
  replace Z : Sv 1040 ((9, .nilIface) :: (8, .nilIface) :: (3, .bool st) :: (1, pt gs 0) :: (0, pt gp 0) :: (2, .string L) :: []) [⟨gs, ({ d with lt := 2 }.cells), 121, true⟩, ⟨gp, ({ p with seq := nw }.cells sv cap tail cnt), 88, true⟩] (GS gp gs) w a w3 := ((((((Z'.know (c.outS (by decide +kernel) (Z.g 2 rfl))).know (c.outS (by decide +kernel) (Z.g 0 rfl))).know (c.outS (by decide +kernel) (Z.g 1 rfl))).know (c.outS (by decide +kernel) (Z.g 3 rfl))).know (c.outS (by decide +kernel) (Z.g 8 rfl))).know (a := a) (t := 9) (v := .nilIface) (c.slot 14 _ rfl))
  clear c Z'
  replace Z := Z.ct [9, 8, 3, 1, 0, 2] rfl
  refine sh (wp_seq ?_)
  cases st with
  | true =>
   refine wp_region_lit (sv_n 3 Z rfl fun a Z => sv_g (v := .bool false) Z (Z.g 436 rfl) (ex_ine eqi_error (Z.g 437 rfl)) fun a Z => sv_n 1 Z rfl fun a Z => Z.nx [439, 9, 8, 3, 1, 0, 2] rfl fun Z => sh (cond_f (Z.g 439 rfl) (wp_skip (sh ?_))))
   exact dl_end (Z.pick rfl) ⟨rfl, Z.only, Z.at 1 rfl, Z.at 0 rfl⟩
  | false =>
   refine wp_region_lit (sv_n 5 Z rfl fun a Z => Z.nx [439, 9, 8, 3, 1, 0, 2] rfl fun Z => sh (cond_f (Z.g 439 rfl) (wp_skip (sh ?_))))
   exact dl_end (Z.pick rfl) ⟨rfl, Z.only, Z.at 1 rfl, Z.at 0 rfl⟩
theorem da_dsq {B : Nat} {G : Ge} {gp gs : Nat} {s L : ByteArray} {st : Bool} {p : Pz} {d : Dz} {sv : Value} {cap tail cnt : Nat} (w : World) (hG : Env B G w) (hsz : s.size ≤ 1000000) (hasc : Asc s) (hLs : trimA s = L) (hh : Hh gp gs (p.cells sv cap tail cnt) d.cells w) (hBp : B ≤ gp) (hBs : B ≤ gs) {rest : List UInt8} (hL : L.data.toList = [35, 69, 88, 84, 45, 88, 45, 68, 73, 83, 67, 79, 78, 84, 73, 78, 85, 73, 84, 89, 45, 83, 69, 81, 85, 69, 78, 67, 69, 58] ++ rest) {nw : Nat} (hn : 30 ≤ L.size) (hz : ∀ w, Env B G w → Calls Tryz.prog 70 #[.string (L.extract 30 L.size), .int .u64 ((p.disc : Nat) : Int)] w fun e w' => e = .returned (.tuple #[.int .u64 ((nw : Nat) : Int), .nilIface]) ∧ Below w.heap.size w w') : Calls Tryz.prog 47 #[pt gp 0, pt gs 0, .string s, .bool st] w (Lx gp gs w ({ p with disc := nw }.cells sv cap tail cnt) ({ d with lt := 2 }.cells)) := by
 refine dl_in w hG hsz hasc hLs (GS gp gs) fun a w1 hb1 Z => ?_
 replace Z := hh.sv hb1 (.inl rfl) (.inr rfl) Z
 refine ch3 Z (cell_of_heap (v := .bool d.inf) (Z.at 0 rfl) rfl) (hpf hL (by decide)) fun a Z => ch18 Z (hpt hL (by decide)) fun a Z => ch59 Z (hne hL (by decide)) fun a Z => ch61 Z (hne hL (by decide)) fun a Z => ch64 Z (hpf hL (by decide)) fun a Z => ch69 Z (hpf hL (by decide)) fun a Z => ch74 Z (hpf hL (by decide)) fun a Z => ch79 Z (hpf hL (by decide)) fun a Z => hit91 Z (hpt hL (by decide)) fun a Z => ?_
 replace Z := Z.ct [2, 0, 1, 3, 8, 9] rfl
 refine wr (sv_n 3 Z rfl fun a Z => sv_st (i := 0) (v := .int .u64 2) (cs' := ({ d with lt := 2 }.cells)) Z (su_m3u8_ListType _) (Z.g 473 rfl) rfl rfl (show 0 < 20 from by decide) rfl rfl fun w1 hty Z => Z.nx [2, 0, 1, 3, 8, 9] rfl fun Z => sh (wp_seq ?_))
 have hGw : Env B G w1 := (hG.keep Z.only (fun q hq => by rcases hq with rfl | rfl; (· exact hBp); (· exact hBs)))
 let cf2 : Nat → Array Value := fun k : Nat => if k = 0 then (p.cells sv cap tail cnt) else ({ p with disc := nw }.cells sv cap tail cnt)
 refine G2.wp_region_sto (N := 1040) [G2.Ast.eq (pt gp 0), G2.Ast.eq (.string L), G2.Ast.eq (.string (L.extract 30 L.size)), G2.Ast.eq (pt gp 0), G2.Ast.eq (pt gp 0), G2.Ast.eq (pt gp 7), G2.Ast.eq (.int .u64 ((p.disc : Nat) : Int)), G2.Ast.eq (.tuple #[.int .u64 ((nw : Nat) : Int), .nilIface]), G2.Ast.eq (.tuple #[.int .u64 ((nw : Nat) : Int), .nilIface]), G2.Ast.eq (.int .u64 ((nw : Nat) : Int)), G2.Ast.eq (.nilIface), G2.Ast.eq (pt gp 0), G2.Ast.eq (pt gp 7), G2.Ast.sto 1, G2.Ast.eq (.nilIface)] gp 88 1 cf2 (by kernel_rfl) (by kernel_rfl) (by kernel_rfl) Z.ev.size (by simp) ?_ ?_
 ·refine ⟨?_, ?_, ?_, ?_, ?_, ?_, ?_, ?_, ?_, ?_, ?_, ?_, ?_, ?_, ?_, trivial⟩
  ·exact fun _ _ c => G2.og_val (ex_mv (c.o (Z.g 0 rfl))) rfl
  ·exact fun _ _ c => G2.og_val (ex_mv (c.o (Z.g 2 rfl))) rfl
  ·exact fun _ _ c => G2.og_val (ex_ssl (i := 30) (c.s 1 rfl) rfl (by omega)) rfl
  ·exact fun _ _ c => G2.og_val (ex_mv (c.o (Z.g 0 rfl))) rfl
  ·exact fun _ _ c => G2.og_val (ex_nc (c.s 3 rfl)) rfl
  ·exact fun _ _ c => G2.og_val (ex_fo (c.s 4 rfl) (fo rfl) rfl) rfl
  ·intro a wx c
   have e_480 : a.eval (.tmp 480) = pt gp 7 := c.s 5 rfl
   have hK1 := G2.sto_first Z c 1 rfl rfl (by kernel_rfl)
   clear c
   exact G2.og_val (ex_ld e_480 lt_uint64 (cell_of_heap (v := .int .u64 ((p.disc : Nat) : Int)) hK1 rfl)) rfl
  ·intro a wx c
   have e_477 : a.eval (.tmp 477) = .string (L.extract 30 L.size) := c.s 2 rfl
   have e_481 : a.eval (.tmp 481) = .int .u64 ((p.disc : Nat) : Int) := c.s 6 rfl
   have hGx : Env B G wx := hGw.keep (only_sto c) (fun q hq => by rw [hq]; exact hBp)
   clear c
   have hcl : Calls Tryz.prog _ _ wx (fun e w' => e = .returned (.tuple #[.int .u64 ((nw : Nat) : Int), .nilIface]) ∧ Below wx.heap.size wx w') := hz _ hGx
   refine G2.og_call (ex_call2 cf_m3u8_zzUint64 e_477 e_481) (Calls.mono hcl ?_)
   rintro e w' ⟨rfl, hb⟩
   exact ⟨_, rfl, hb, rfl⟩
  ·exact fun _ _ c => G2.og_val (ex_mv (c.s 7 rfl)) rfl
  ·exact fun _ _ c => G2.og_val (ei_ext (c.s 8 rfl) rfl) rfl
  ·exact fun _ _ c => G2.og_val (ei_ext (c.s 8 rfl) rfl) rfl
  ·exact fun _ _ c => G2.og_val (ex_nc (c.s 0 rfl)) rfl
  ·exact fun _ _ c => G2.og_val (ex_fo (c.s 11 rfl) (fo rfl) rfl) rfl
  ·intro a wx c
   have e_486 : a.eval (.tmp 486) = pt gp 7 := c.s 12 rfl
   have e_483 : a.eval (.tmp 483) = .int .u64 ((nw : Nat) : Int) := c.s 9 rfl
   have ms3 := G2.sto_first Z c 1 rfl rfl (by kernel_rfl)
   clear c
   exact G2.og_sto (k := 1) (m := 0) (m' := 1) (off := 7) rfl ms3 (su_uint64 _) e_486 e_483 (show 7 < 23 from by decide) rfl (by decide) (by decide)
  ·exact fun _ _ c => G2.og_val (ex_as (c.s 10 rfl)) rfl
 ·intro a w3 c
  obtain ⟨mi, ms1, ms2, ms3⟩ : ∃ mi, 1 ≤ mi ∧ mi ≤ 1 ∧ w3.heap[gp]? = some (.cells (cf2 mi) 88 (0, 0)) := c.slot 13 _ rfl
  obtain rfl : mi = 1 := by omega
  have ms3 : w3.heap[gp]? = some (.cells ({ p with disc := nw }.cells sv cap tail cnt) 88 (0, 0)) := ms3
  obtain ⟨Z', hty⟩ := G2.sto_end (m' := [⟨gs, ({ d with lt := 2 }.cells), 121, true⟩, ⟨gp, ({ p with disc := nw }.cells sv cap tail cnt), 88, true⟩]) Z c (i := 1) rfl rfl ms3
  replace Z : Sv 1040 ((9, .nilIface) :: (8, .nilIface) :: (3, .bool st) :: (1, pt gs 0) :: (0, pt gp 0) :: (2, .string L) :: []) [⟨gs, ({ d with lt := 2 }.cells), 121, true⟩, ⟨gp, ({ p with disc := nw }.cells sv cap tail cnt), 88, true⟩] (GS gp gs) w a w3 := ((((((Z'.know (c.outS (by decide +kernel) (Z.g 2 rfl))).know (c.outS (by decide +kernel) (Z.g 0 rfl))).know (c.outS (by decide +kernel) (Z.g 1 rfl))).know (c.outS (by decide +kernel) (Z.g 3 rfl))).know (c.outS (by decide +kernel) (Z.g 8 rfl))).know (a := a) (t := 9) (v := .nilIface) (c.slot 14 _ rfl))
  clear c Z'
  replace Z := Z.ct [9, 8, 3, 1, 0, 2] rfl
  refine sh (wp_seq ?_)
  cases st with
  | true =>
   refine wp_region_lit (sv_n 3 Z rfl fun a Z => sv_g (v := .bool false) Z (Z.g 488 rfl) (ex_ine eqi_error (Z.g 489 rfl)) fun a Z => sv_n 1 Z rfl fun a Z => Z.nx [491, 9, 8, 3, 1, 0, 2] rfl fun Z => sh (cond_f (Z.g 491 rfl) (wp_skip (sh ?_))))
   exact dl_end (Z.pick rfl) ⟨rfl, Z.only, Z.at 1 rfl, Z.at 0 rfl⟩
  | false =>
   refine wp_region_lit (sv_n 5 Z rfl fun a Z => Z.nx [491, 9, 8, 3, 1, 0, 2] rfl fun Z => sh (cond_f (Z.g 491 rfl) (wp_skip (sh ?_))))
   exact dl_end (Z.pick rfl) ⟨rfl, Z.only, Z.at 1 rfl, Z.at 0 rfl⟩
theorem da_ev {B : Nat} {G : Ge} {gp gs : Nat} {s L : ByteArray} {st : Bool} {p : Pz} {d : Dz} {sv : Value} {cap tail cnt : Nat} (w : World) (hG : Env B G w) (hsz : s.size ≤ 1000000) (hasc : Asc s) (hLs : trimA s = L) (hh : Hh gp gs (p.cells sv cap tail cnt) d.cells w) (hBp : B ≤ gp) (hBs : B ≤ gs) (hL : L.data.toList = [35, 69, 88, 84, 45, 88, 45, 80, 76, 65, 89, 76, 73, 83, 84, 45, 84, 89, 80, 69, 58, 69, 86, 69, 78, 84]) (hz : ∀ w, Calls Tryz.prog 71 #[.string ⟨#[69, 86, 69, 78, 84]⟩] w fun e w' => e = .returned (.tuple #[.string ⟨#[69, 86, 69, 78, 84]⟩, .nilIface]) ∧ Below w.heap.size w w') : Calls Tryz.prog 47 #[pt gp 0, pt gs 0, .string s, .bool st] w (Lx gp gs w ({ p with typ := 1 }.cells sv cap tail cnt) ({ d with lt := 2 }.cells)) := by
 have hLz : L = ⟨#[35, 69, 88, 84, 45, 88, 45, 80, 76, 65, 89, 76, 73, 83, 84, 45, 84, 89, 80, 69, 58, 69, 86, 69, 78, 84]⟩ := ba_eq hL
 have hex : L.extract 21 L.size = ⟨#[69, 86, 69, 78, 84]⟩ := by rw [hLz]; exact ba_eq (by rw [ext_list _ _ _ (Nat.le_refl _)]; rfl)
 have hLs1 : L.size = 26 := by rw [hLz]; rfl
 refine dl_in w hG hsz hasc hLs (GS gp gs) fun a w1 hb1 Z => ?_
 replace Z := hh.sv hb1 (.inl rfl) (.inr rfl) Z
 refine ch3 Z (cell_of_heap (v := .bool d.inf) (Z.at 0 rfl) rfl) (hpw hL (by decide)) fun a Z => ch18 Z (hpw hL (by decide)) fun a Z => ch59 Z (hnw hL (by decide)) fun a Z => ch61 Z (hnw hL (by decide)) fun a Z => ch64 Z (hpw hL (by decide)) fun a Z => ch69 Z (hpw hL (by decide)) fun a Z => ch74 Z (hpw hL (by decide)) fun a Z => hit79 Z (hpw hL (by decide)) fun a Z => ?_
 replace Z := Z.ct [2, 0, 1, 3, 8, 9] rfl
 refine wr (sv_n 3 Z rfl fun a Z => sv_st (i := 0) (v := .int .u64 2) (cs' := ({ d with lt := 2 }.cells)) Z (su_m3u8_ListType _) (Z.g 446 rfl) rfl rfl (show 0 < 20 from by decide) rfl rfl fun w1 hty Z => Z.nx [2, 0, 1, 3, 8, 9] rfl fun Z => sh (wr (sv_n 1 Z rfl fun a Z => Z.nx [13, 2, 0, 1, 3, 8, 9] rfl fun Z => sh (wr (sv_n 1 Z rfl fun a Z => ?_)))))
 refine sv_r (v := .string (L.extract 21 L.size)) Z (ex_ssl (i := 21) (Z.g 448 rfl) rfl (by omega)) fun a Z => ?_
 refine sv_callv (v := .tuple #[.string ⟨#[69, 86, 69, 78, 84]⟩, .nilIface]) Z rfl rfl (by decide) (ex_call1 cf_m3u8_zzWord (Z.g 449 rfl)) (by rw [hex]; exact hz _) fun a w2 hbw2 Z => sv_n 1 Z rfl fun a Z => sv_r (v := .string (⟨#[69, 86, 69, 78, 84]⟩)) Z (ei_ext (Z.g 447 rfl) rfl) fun a Z => sv_n 3 Z rfl fun a Z => Z.nx [9, 13, 2, 0, 1, 3, 8] rfl fun Z => sh (wr (sv_n 1 Z rfl fun a Z => sv_r (v := .bool false) Z (ex_ine eqi_error (Z.g 453 rfl)) fun a Z => Z.nx [454, 9, 13, 2, 0, 1, 3, 8] rfl fun Z => sh (cond_f (Z.g 454 rfl) ?_)))
 refine wr (sv_n 1 Z rfl fun a Z => Z.nx [457, 454, 9, 2, 0, 1, 3, 8] rfl fun Z => sh (wp_block (wr (sv_r (v := .bool true) Z (ex_eqsk (Z.g 457 rfl) rfl (by decide)) fun a Z => sv_n 1 Z rfl fun a Z => Z.nx [458, 457, 454, 9, 2, 0, 1, 3, 8] rfl fun Z => sh (cond_t (Z.g 458 rfl) (wp_region_lit ?_))))))
 refine sv_n 3 Z rfl fun a Z => sv_st (i := 1) (v := .int .u64 1) (cs' := ({ p with typ := 1 }.cells sv cap tail cnt)) Z (su_m3u8_MediaType _) (Z.g 462 rfl) rfl rfl (show 6 < 23 from by decide) rfl rfl fun w3 hty Z => Z.nx [458, 457, 454, 9, 2, 0, 1, 3, 8] rfl fun Z => sh ?_
 exact dl_end (Z.pick rfl) ⟨rfl, Z.only, Z.at 1 rfl, Z.at 0 rfl⟩
theorem da_vod {B : Nat} {G : Ge} {gp gs : Nat} {s L : ByteArray} {st : Bool} {p : Pz} {d : Dz} {sv : Value} {cap tail cnt : Nat} (w : World) (hG : Env B G w) (hsz : s.size ≤ 1000000) (hasc : Asc s) (hLs : trimA s = L) (hh : Hh gp gs (p.cells sv cap tail cnt) d.cells w) (hBp : B ≤ gp) (hBs : B ≤ gs) (hL : L.data.toList = [35, 69, 88, 84, 45, 88, 45, 80, 76, 65, 89, 76, 73, 83, 84, 45, 84, 89, 80, 69, 58, 86, 79, 68]) (hz : ∀ w, Calls Tryz.prog 71 #[.string ⟨#[86, 79, 68]⟩] w fun e w' => e = .returned (.tuple #[.string ⟨#[86, 79, 68]⟩, .nilIface]) ∧ Below w.heap.size w w') : Calls Tryz.prog 47 #[pt gp 0, pt gs 0, .string s, .bool st] w (Lx gp gs w ({ p with typ := 2 }.cells sv cap tail cnt) ({ d with lt := 2 }.cells)) := by
 have hLz : L = ⟨#[35, 69, 88, 84, 45, 88, 45, 80, 76, 65, 89, 76, 73, 83, 84, 45, 84, 89, 80, 69, 58, 86, 79, 68]⟩ := ba_eq hL
 have hex : L.extract 21 L.size = ⟨#[86, 79, 68]⟩ := by rw [hLz]; exact ba_eq (by rw [ext_list _ _ _ (Nat.le_refl _)]; rfl)
 have hLs1 : L.size = 24 := by rw [hLz]; rfl
 refine dl_in w hG hsz hasc hLs (GS gp gs) fun a w1 hb1 Z => ?_
 replace Z := hh.sv hb1 (.inl rfl) (.inr rfl) Z
 refine ch3 Z (cell_of_heap (v := .bool d.inf) (Z.at 0 rfl) rfl) (hpw hL (by decide)) fun a Z => ch18 Z (hpw hL (by decide)) fun a Z => ch59 Z (hnw hL (by decide)) fun a Z => ch61 Z (hnw hL (by decide)) fun a Z => ch64 Z (hpw hL (by decide)) fun a Z => ch69 Z (hpw hL (by decide)) fun a Z => ch74 Z (hpw hL (by decide)) fun a Z => hit79 Z (hpw hL (by decide)) fun a Z => ?_
 replace Z := Z.ct [2, 0, 1, 3, 8, 9] rfl
 refine wr (sv_n 3 Z rfl fun a Z => sv_st (i := 0) (v := .int .u64 2) (cs' := ({ d with lt := 2 }.cells)) Z (su_m3u8_ListType _) (Z.g 446 rfl) rfl rfl (show 0 < 20 from by decide) rfl rfl fun w1 hty Z => Z.nx [2, 0, 1, 3, 8, 9] rfl fun Z => sh (wr (sv_n 1 Z rfl fun a Z => Z.nx [13, 2, 0, 1, 3, 8, 9] rfl fun Z => sh (wr (sv_n 1 Z rfl fun a Z => ?_)))))
 refine sv_r (v := .string (L.extract 21 L.size)) Z (ex_ssl (i := 21) (Z.g 448 rfl) rfl (by omega)) fun a Z => ?_
 refine sv_callv (v := .tuple #[.string ⟨#[86, 79, 68]⟩, .nilIface]) Z rfl rfl (by decide) (ex_call1 cf_m3u8_zzWord (Z.g 449 rfl)) (by rw [hex]; exact hz _) fun a w2 hbw2 Z => sv_n 1 Z rfl fun a Z => sv_r (v := .string (⟨#[86, 79, 68]⟩)) Z (ei_ext (Z.g 447 rfl) rfl) fun a Z => sv_n 3 Z rfl fun a Z => Z.nx [9, 13, 2, 0, 1, 3, 8] rfl fun Z => sh (wr (sv_n 1 Z rfl fun a Z => sv_r (v := .bool false) Z (ex_ine eqi_error (Z.g 453 rfl)) fun a Z => Z.nx [454, 9, 13, 2, 0, 1, 3, 8] rfl fun Z => sh (cond_f (Z.g 454 rfl) ?_)))
 refine wr (sv_n 1 Z rfl fun a Z => Z.nx [457, 454, 9, 2, 0, 1, 3, 8] rfl fun Z => sh (wp_block (wr (sv_r (v := .bool false) Z (ex_eqsk (Z.g 457 rfl) rfl (by decide)) fun a Z => sv_n 1 Z rfl fun a Z => Z.nx [458, 457, 454, 9, 2, 0, 1, 3, 8] rfl fun Z => sh (cond_f (Z.g 458 rfl) (wr ?_))))))
 refine sv_r (v := .bool true) Z (ex_eqsk (Z.g 457 rfl) rfl (by decide)) fun a Z => sv_n 1 Z rfl fun a Z => Z.nx [463, 458, 457, 454, 9, 2, 0, 1, 3, 8] rfl fun Z => sh (cond_t (Z.g 463 rfl) (wp_region_lit (sv_n 3 Z rfl fun a Z => sv_st (i := 1) (v := .int .u64 2) (cs' := ({ p with typ := 2 }.cells sv cap tail cnt)) Z (su_m3u8_MediaType _) (Z.g 467 rfl) rfl rfl (show 6 < 23 from by decide) rfl rfl fun w3 hty Z => Z.nx [463, 458, 457, 454, 9, 2, 0, 1, 3, 8] rfl fun Z => sh ?_)))
 exact dl_end (Z.pick rfl) ⟨rfl, Z.only, Z.at 1 rfl, Z.at 0 rfl⟩
theorem da_date {B : Nat} {G : Ge} {gp gs : Nat} {s L : ByteArray} {st : Bool} {p : Pz} {d : Dz} {sv : Value} {cap tail cnt : Nat} (w : World) (hG : Env B G w) (hsz : s.size ≤ 1000000) (hasc : Asc s) (hLs : trimA s = L) (hh : Hh gp gs (p.cells sv cap tail cnt) d.cells w) (hBp : B ≤ gp) (hBs : B ≤ gs) {rest : List UInt8} (hL : L.data.toList = [35, 69, 88, 84, 45, 88, 45, 80, 82, 79, 71, 82, 65, 77, 45, 68, 65, 84, 69, 45, 84, 73, 77, 69, 58] ++ rest) (hdate : d.date = false) (hn : 25 ≤ L.size) : Calls Tryz.prog 47 #[pt gp 0, pt gs 0, .string s, .bool st] w (Lx gp gs w (p.cells sv cap tail cnt) ({ d with date := true, lt := 2, dateV := L.extract 25 L.size }.cells)) := by
 refine dl_in w hG hsz hasc hLs (GS gp gs) fun a w1 hb1 Z => ?_
 replace Z := hh.sv hb1 (.inl rfl) (.inr rfl) Z
 refine ch3 Z (cell_of_heap (v := .bool d.inf) (Z.at 0 rfl) rfl) (hpf hL (by decide)) fun a Z => ch18 Z (hpt hL (by decide)) fun a Z => ch59 Z (hne hL (by decide)) fun a Z => ch61 Z (hne hL (by decide)) fun a Z => ch64 Z (hpf hL (by decide)) fun a Z => ch69 Z (hpf hL (by decide)) fun a Z => ch74 Z (hpf hL (by decide)) fun a Z => ch79 Z (hpf hL (by decide)) fun a Z => ch91 Z (hpf hL (by decide)) fun a Z => ch96 Z (hpf hL (by decide)) fun a Z => ch109 Z (hpf hL (by decide)) fun a Z => ch127 Z (hpf hL (by decide)) fun a Z => ?_
 refine hit141 Z (cell_of_heap (v := .bool d.date) (Z.at 0 rfl) rfl) hdate (hpt hL (by decide)) fun a Z => ?_
 replace Z := Z.ct [2, 0, 1, 3, 8, 9] rfl
 refine wr (sv_n 3 Z rfl fun a Z => sv_st (i := 0) (v := .bool true) (cs' := ({ d with date := true }.cells)) Z (su_bool _) (Z.g 664 rfl) rfl rfl (show 7 < 20 from by decide) rfl rfl fun w1 hty Z => Z.nx [2, 0, 1, 3, 8, 9] rfl fun Z => sh (wr (sv_n 3 Z rfl fun a Z => ?_)))
 refine sv_st (i := 0) (v := .int .u64 2) (cs' := ({ d with date := true, lt := 2 }.cells)) Z (su_m3u8_ListType _) (Z.g 667 rfl) rfl rfl (show 0 < 20 from by decide) rfl rfl fun w2 hty Z => Z.nx [2, 0, 1, 3, 8, 9] rfl fun Z => sh (wp_region_lit (sv_n 2 Z rfl fun a Z => ?_))
 refine sv_r (v := .string (L.extract 25 L.size)) Z (ex_ssl (i := 25) (Z.g 669 rfl) rfl (by omega)) fun a Z => sv_n 2 Z rfl fun a Z => sv_st (i := 0) (v := .string (L.extract 25 L.size)) (cs' := ({ d with date := true, lt := 2, dateV := L.extract 25 L.size }.cells)) Z (su_string _) (Z.g 672 rfl) (Z.g 670 rfl) rfl (show 10 < 20 from by decide) rfl rfl fun w3 hty Z => Z.nx [2, 0, 1, 3, 8, 9] rfl fun Z => sh ?_
 exact dl_end (Z.pick rfl) ⟨rfl, Z.only, Z.at 1 rfl, Z.at 0 rfl⟩
theorem da_disc {B : Nat} {G : Ge} {gp gs : Nat} {s L : ByteArray} {st : Bool} {p : Pz} {d : Dz} {sv : Value} {cap tail cnt : Nat} (w : World) (hG : Env B G w) (hsz : s.size ≤ 1000000) (hasc : Asc s) (hLs : trimA s = L) (hh : Hh gp gs (p.cells sv cap tail cnt) d.cells w) (hBp : B ≤ gp) (hBs : B ≤ gs) (hL : L.data.toList = [35, 69, 88, 84, 45, 88, 45, 68, 73, 83, 67, 79, 78, 84, 73, 78, 85, 73, 84, 89]) (hdisc : d.disc = false) : Calls Tryz.prog 47 #[pt gp 0, pt gs 0, .string s, .bool st] w (Lx gp gs w (p.cells sv cap tail cnt) ({ d with disc := true, lt := 2 }.cells)) := by
 refine dl_in w hG hsz hasc hLs (GS gp gs) fun a w1 hb1 Z => ?_
 replace Z := hh.sv hb1 (.inl rfl) (.inr rfl) Z
 refine ch3 Z (cell_of_heap (v := .bool d.inf) (Z.at 0 rfl) rfl) (hpw hL (by decide)) fun a Z => ch18 Z (hpw hL (by decide)) fun a Z => ch59 Z (hnw hL (by decide)) fun a Z => ch61 Z (hnw hL (by decide)) fun a Z => ch64 Z (hpw hL (by decide)) fun a Z => ch69 Z (hpw hL (by decide)) fun a Z => ch74 Z (hpw hL (by decide)) fun a Z => ch79 Z (hpw hL (by decide)) fun a Z => ch91 Z (hpw hL (by decide)) fun a Z => ch96 Z (hpw hL (by decide)) fun a Z => ch109 Z (hpw hL (by decide)) fun a Z => ch127 Z (hpw hL (by decide)) fun a Z => ?_
 refine ch141 Z (cell_of_heap (v := .bool d.date) (Z.at 0 rfl) rfl) (hpw hL (by decide)) fun a Z => ch145 Z (cell_of_heap (v := .bool d.range) (Z.at 0 rfl) rfl) (hpw hL (by decide)) fun a Z => ch157_ Z (cell_of_heap (v := .bool false) (Z.at 0 rfl) rfl) rfl (hpw hL (by decide)) fun a Z => ch172_ Z (cell_of_heap (v := .bool false) (Z.at 0 rfl) rfl) rfl (hpw hL (by decide)) fun a Z => ch177 Z (cell_of_heap (v := .bool false) (Z.at 0 rfl) rfl) rfl fun a Z => ch180_ Z (cell_of_heap (v := .bool false) (Z.at 0 rfl) rfl) rfl (hpw hL (by decide)) fun a Z => ch195_ Z (cell_of_heap (v := .bool false) (Z.at 0 rfl) rfl) rfl (hpw hL (by decide)) fun a Z => ch203_ Z (cell_of_heap (v := .bool false) (Z.at 0 rfl) rfl) rfl (hnw hL (by decide)) fun a Z => hit208 Z (cell_of_heap (v := .bool d.disc) (Z.at 0 rfl) rfl) hdisc (hpw hL (by decide)) fun a Z => ?_
 replace Z := Z.ct [2, 0, 1, 3, 8, 9] rfl
 refine wr (sv_n 3 Z rfl fun a Z => sv_st (i := 0) (v := .bool true) (cs' := ({ d with disc := true }.cells)) Z (su_bool _) (Z.g 1023 rfl) rfl rfl (show 6 < 20 from by decide) rfl rfl fun w1 hty Z => Z.nx [2, 0, 1, 3, 8, 9] rfl fun Z => sh (wp_region_lit (sv_n 3 Z rfl fun a Z => ?_)))
 refine sv_st (i := 0) (v := .int .u64 2) (cs' := ({ d with disc := true, lt := 2 }.cells)) Z (su_m3u8_ListType _) (Z.g 1026 rfl) rfl rfl (show 0 < 20 from by decide) rfl rfl fun w2 hty Z => Z.nx [2, 0, 1, 3, 8, 9] rfl fun Z => sh ?_
 exact dl_end (Z.pick rfl) ⟨rfl, Z.only, Z.at 1 rfl, Z.at 0 rfl⟩
theorem da_ifr {B : Nat} {G : Ge} {gp gs : Nat} {s L : ByteArray} {st : Bool} {p : Pz} {d : Dz} {sv : Value} {cap tail cnt : Nat} (w : World) (hG : Env B G w) (hsz : s.size ≤ 1000000) (hasc : Asc s) (hLs : trimA s = L) (hh : Hh gp gs (p.cells sv cap tail cnt) d.cells w) (hBp : B ≤ gp) (hBs : B ≤ gs) (hL : L.data.toList = [35, 69, 88, 84, 45, 88, 45, 73, 45, 70, 82, 65, 77, 69, 83, 45, 79, 78, 76, 89]) (hdisc : d.disc = false) : Calls Tryz.prog 47 #[pt gp 0, pt gs 0, .string s, .bool st] w (Lx gp gs w ({ p with iframe := true }.cells sv cap tail cnt) ({ d with lt := 2 }.cells)) := by
 refine dl_in w hG hsz hasc hLs (GS gp gs) fun a w1 hb1 Z => ?_
 replace Z := hh.sv hb1 (.inl rfl) (.inr rfl) Z
 refine ch3 Z (cell_of_heap (v := .bool d.inf) (Z.at 0 rfl) rfl) (hpw hL (by decide)) fun a Z => ch18 Z (hpw hL (by decide)) fun a Z => ch59 Z (hnw hL (by decide)) fun a Z => ch61 Z (hnw hL (by decide)) fun a Z => ch64 Z (hpw hL (by decide)) fun a Z => ch69 Z (hpw hL (by decide)) fun a Z => ch74 Z (hpw hL (by decide)) fun a Z => ch79 Z (hpw hL (by decide)) fun a Z => ch91 Z (hpw hL (by decide)) fun a Z => ch96 Z (hpw hL (by decide)) fun a Z => ch109 Z (hpw hL (by decide)) fun a Z => ch127 Z (hpw hL (by decide)) fun a Z => ?_
 refine ch141 Z (cell_of_heap (v := .bool d.date) (Z.at 0 rfl) rfl) (hpw hL (by decide)) fun a Z => ch145 Z (cell_of_heap (v := .bool d.range) (Z.at 0 rfl) rfl) (hpw hL (by decide)) fun a Z => ch157_ Z (cell_of_heap (v := .bool false) (Z.at 0 rfl) rfl) rfl (hpw hL (by decide)) fun a Z => ch172_ Z (cell_of_heap (v := .bool false) (Z.at 0 rfl) rfl) rfl (hpw hL (by decide)) fun a Z => ch177 Z (cell_of_heap (v := .bool false) (Z.at 0 rfl) rfl) rfl fun a Z => ch180_ Z (cell_of_heap (v := .bool false) (Z.at 0 rfl) rfl) rfl (hpw hL (by decide)) fun a Z => ch195_ Z (cell_of_heap (v := .bool false) (Z.at 0 rfl) rfl) rfl (hpw hL (by decide)) fun a Z => ch203_ Z (cell_of_heap (v := .bool false) (Z.at 0 rfl) rfl) rfl (hnw hL (by decide)) fun a Z => ch208_ Z (cell_of_heap (v := .bool d.disc) (Z.at 0 rfl) rfl) hdisc (hpw hL (by decide)) fun a Z => hit211 Z (hpw hL (by decide)) fun a Z => ?_
 replace Z := Z.ct [2, 0, 1, 3, 8, 9] rfl
 refine wr (sv_n 3 Z rfl fun a Z => sv_st (i := 0) (v := .int .u64 2) (cs' := ({ d with lt := 2 }.cells)) Z (su_m3u8_ListType _) (Z.g 1032 rfl) rfl rfl (show 0 < 20 from by decide) rfl rfl fun w1 hty Z => Z.nx [2, 0, 1, 3, 8, 9] rfl fun Z => sh (wp_region_lit (sv_n 3 Z rfl fun a Z => ?_)))
 refine sv_st (i := 1) (v := .bool true) (cs' := ({ p with iframe := true }.cells sv cap tail cnt)) Z (su_bool _) (Z.g 1035 rfl) rfl rfl (show 4 < 23 from by decide) rfl rfl fun w2 hty Z => Z.nx [2, 0, 1, 3, 8, 9] rfl fun Z => sh ?_
 exact dl_end (Z.pick rfl) ⟨rfl, Z.only, Z.at 1 rfl, Z.at 0 rfl⟩
theorem da_range {B : Nat} {G : Ge} {gp gs : Nat} {s L : ByteArray} {st : Bool} {p : Pz} {d : Dz} {sv : Value} {cap tail cnt : Nat} (w : World) (hG : Env B G w) (hsz : s.size ≤ 1000000) (hasc : Asc s) (hLs : trimA s = L) (hh : Hh gp gs (p.cells sv cap tail cnt) d.cells w) (hBp : B ≤ gp) (hBs : B ≤ gs) {rest : List UInt8} (hL : L.data.toList = [35, 69, 88, 84, 45, 88, 45, 66, 89, 84, 69, 82, 65, 78, 71, 69, 58] ++ rest) {t1 t2 : ByteArray} {n1 n2 : Nat} (hn : 17 ≤ L.size) (hrange : d.range = false) (hcut : ∀ w, Calls Tryz.prog 74 #[.string (L.extract 17 L.size), .string ⟨#[64]⟩] w fun e w' => e = .returned (.tuple #[.string t1, .string t2, .bool true]) ∧ Below w.heap.size w w') (ht1 : ∀ w, Calls Tryz.prog 75 #[.string t1, .int .i64 10, .int .i64 64] w fun e w' => e = .returned (.tuple #[.int .i64 ((n1 : Nat) : Int), .nilIface]) ∧ Below w.heap.size w w') (ht2 : ∀ w, Calls Tryz.prog 75 #[.string t2, .int .i64 10, .int .i64 64] w fun e w' => e = .returned (.tuple #[.int .i64 ((n2 : Nat) : Int), .nilIface]) ∧ Below w.heap.size w w') : Calls Tryz.prog 47 #[pt gp 0, pt gs 0, .string s, .bool st] w (Lx gp gs w (p.cells sv cap tail cnt) ({ d with range := true, lt := 2, limit := n1, offset := n2 }.cells)) := by
 refine dl_in w hG hsz hasc hLs (GS gp gs) fun a w1 hb1 Z => ?_
 replace Z := hh.sv hb1 (.inl rfl) (.inr rfl) Z
 refine ch3 Z (cell_of_heap (v := .bool d.inf) (Z.at 0 rfl) rfl) (hpf hL (by decide)) fun a Z => ch18 Z (hpt hL (by decide)) fun a Z => ch59 Z (hne hL (by decide)) fun a Z => ch61 Z (hne hL (by decide)) fun a Z => ch64 Z (hpf hL (by decide)) fun a Z => ch69 Z (hpf hL (by decide)) fun a Z => ch74 Z (hpf hL (by decide)) fun a Z => ch79 Z (hpf hL (by decide)) fun a Z => ch91 Z (hpf hL (by decide)) fun a Z => ch96 Z (hpf hL (by decide)) fun a Z => ch109 Z (hpf hL (by decide)) fun a Z => ch127 Z (hpf hL (by decide)) fun a Z => ?_
 refine ch141 Z (cell_of_heap (v := .bool d.date) (Z.at 0 rfl) rfl) (hpf hL (by decide)) fun a Z => hit145 Z (cell_of_heap (v := .bool d.range) (Z.at 0 rfl) rfl) hrange (hpt hL (by decide)) fun a Z => ?_
 replace Z := Z.ct [2, 0, 1, 3, 8, 9] rfl
 refine wr (sv_n 3 Z rfl fun a Z => sv_st (i := 0) (v := .bool true) (cs' := ({ d with range := true }.cells)) Z (su_bool _) (Z.g 685 rfl) rfl rfl (show 5 < 20 from by decide) rfl rfl fun w1 hty Z => Z.nx [2, 0, 1, 3, 8, 9] rfl fun Z => sh (wr (sv_n 3 Z rfl fun a Z => ?_)))
 refine sv_st (i := 0) (v := .int .u64 2) (cs' := ({ d with range := true, lt := 2 }.cells)) Z (su_m3u8_ListType _) (Z.g 688 rfl) rfl rfl (show 0 < 20 from by decide) rfl rfl fun w2 hty Z => Z.nx [2, 0, 1, 3, 8, 9] rfl fun Z => sh (wr (sv_n 3 Z rfl fun a Z => ?_))
 refine sv_st (i := 0) (v := .int .i64 0) (cs' := ({ d with range := true, lt := 2, offset := 0 }.cells)) Z (su_int64 _) (Z.g 691 rfl) rfl rfl (show 12 < 20 from by decide) rfl rfl fun w3 hty Z => Z.nx [2, 0, 1, 3, 8, 9] rfl fun Z => sh (wr (sv_n 1 Z rfl fun a Z => ?_))
 refine sv_r (v := .string (L.extract 17 L.size)) Z (ex_ssl (i := 17) (Z.g 693 rfl) rfl (by omega)) fun a Z => sv_callv (v := .tuple #[.string t1, .string t2, .bool true]) Z rfl rfl (by decide) (ex_call2 cf_m3u8_zzCut (Z.g 694 rfl) rfl) (hcut _) fun a w4 hbw4 Z => sv_n 7 Z rfl fun a Z => Z.nx [24, 23, 22, 2, 0, 1, 3, 8, 9] rfl fun Z => sh (wp_seq (wr (sv_n 2 Z rfl fun a Z => sv_callv (v := .tuple #[.int .i64 ((n1 : Nat) : Int), .nilIface]) Z rfl rfl (by decide) (ex_call3 cf_strconv_ParseInt (Z.g 701 rfl) rfl rfl) (ht1 _) fun a w5 hbw5 Z => sv_n 5 Z rfl fun a Z => sv_st (i := 0) (v := .int .i64 ((n1 : Nat) : Int)) (cs' := ({ d with range := true, lt := 2, offset := 0, limit := n1 }.cells)) Z (su_int64 _) (Z.g 706 rfl) (Z.g 703 rfl) rfl (show 11 < 20 from by decide) rfl rfl fun w6 hty Z => sv_n 1 Z rfl fun a Z => ?_)))
 refine Z.nx [9, 24, 23, 2, 0, 1, 3, 8] rfl fun Z => sh (wp_seq ?_)
 cases st with
 | true =>
  refine wp_region_lit (sv_n 3 Z rfl fun a Z => sv_g (v := .bool false) Z (Z.g 708 rfl) (ex_ine eqi_error (Z.g 709 rfl)) fun a Z => sv_n 1 Z rfl fun a Z => Z.nx [711, 9, 24, 23, 2, 0, 1, 3, 8] rfl fun Z => sh (cond_f (Z.g 711 rfl) (wp_skip (sh (wr (sv_n 1 Z rfl fun a Z => Z.nx [713, 711, 9, 23, 2, 0, 1, 3, 8] rfl fun Z => ?_))))))
  refine sh (cond_t (Z.g 713 rfl) (wr (sv_n 2 Z rfl fun a Z => sv_callv (v := .tuple #[.int .i64 ((n2 : Nat) : Int), .nilIface]) Z rfl rfl (by decide) (ex_call3 cf_strconv_ParseInt (Z.g 716 rfl) rfl rfl) (ht2 _) fun a w7 hbw7 Z => sv_n 5 Z rfl fun a Z => sv_st (i := 0) (v := .int .i64 ((n2 : Nat) : Int)) (cs' := ({ d with range := true, lt := 2, offset := n2, limit := n1 }.cells)) Z (su_int64 _) (Z.g 721 rfl) (Z.g 718 rfl) rfl (show 12 < 20 from by decide) rfl rfl fun w8 hty Z => sv_n 1 Z rfl fun a Z => Z.nx [9, 713, 711, 2, 0, 1, 3, 8] rfl fun Z => sh (wr (sv_n 3 Z rfl fun a Z => ?_)))))
  refine sv_g (v := .bool false) Z (Z.g 723 rfl) (ex_ine eqi_error (Z.g 724 rfl)) fun a Z => sv_n 1 Z rfl fun a Z => Z.nx [726, 9, 713, 711, 2, 0, 1, 3, 8] rfl fun Z => sh (cond_f (Z.g 726 rfl) (wp_skip (sh ?_)))
  exact dl_end (Z.pick rfl) ⟨rfl, Z.only, Z.at 1 rfl, Z.at 0 rfl⟩
 | false =>
  refine wp_region_lit (sv_n 5 Z rfl fun a Z => Z.nx [711, 9, 24, 23, 2, 0, 1, 3, 8] rfl fun Z => sh (cond_f (Z.g 711 rfl) (wp_skip (sh (wr (sv_n 1 Z rfl fun a Z => Z.nx [713, 711, 9, 23, 2, 0, 1, 3, 8] rfl fun Z => sh (cond_t (Z.g 713 rfl) ?_)))))))
  refine wr (sv_n 2 Z rfl fun a Z => sv_callv (v := .tuple #[.int .i64 ((n2 : Nat) : Int), .nilIface]) Z rfl rfl (by decide) (ex_call3 cf_strconv_ParseInt (Z.g 716 rfl) rfl rfl) (ht2 _) fun a w9 hbw9 Z => sv_n 5 Z rfl fun a Z => sv_st (i := 0) (v := .int .i64 ((n2 : Nat) : Int)) (cs' := ({ d with range := true, lt := 2, offset := n2, limit := n1 }.cells)) Z (su_int64 _) (Z.g 721 rfl) (Z.g 718 rfl) rfl (show 12 < 20 from by decide) rfl rfl fun w10 hty Z => sv_n 1 Z rfl fun a Z => Z.nx [9, 713, 711, 2, 0, 1, 3, 8] rfl fun Z => sh (wr (sv_n 5 Z rfl fun a Z => Z.nx [726, 9, 713, 711, 2, 0, 1, 3, 8] rfl fun Z => sh ?_)))
  refine cond_f (Z.g 726 rfl) (wp_skip (sh ?_))
  exact dl_end (Z.pick rfl) ⟨rfl, Z.only, Z.at 1 rfl, Z.at 0 rfl⟩
theorem da_inf {B : Nat} {G : Ge} {gp gs : Nat} {s L : ByteArray} {st : Bool} {p : Pz} {d : Dz} {sv : Value} {cap tail cnt : Nat} (w : World) (hG : Env B G w) (hsz : s.size ≤ 1000000) (hasc : Asc s) (hLs : trimA s = L) (hh : Hh gp gs (p.cells sv cap tail cnt) d.cells w) (hBp : B ≤ gp) (hBs : B ≤ gs) {rest : List UInt8} (hL : L.data.toList = [35, 69, 88, 84, 73, 78, 70, 58] ++ rest) (hinf : d.inf = false) {z ix : Nat} (hix : zix L 44 = (ix : Int)) (h8 : 8 < ix) (hil : ix < L.size) (hLz : L.size ≤ 1000000) (hz : ∀ w, Env B G w → Calls Tryz.prog 60 #[.string (L.extract 8 ix), .int .i64 64] w fun e w' => e = .returned (.tuple #[.float .f64 z, .nilIface]) ∧ Below w.heap.size w w') : Calls Tryz.prog 47 #[pt gp 0, pt gs 0, .string s, .bool st] w (Lx gp gs w (p.cells sv cap tail cnt) ({ d with inf := true, lt := 2, dur := z, title := L.extract (ix + 1) L.size }.cells)) := by
 refine dl_in w hG hsz hasc hLs (GS gp gs) fun a w1 hb1 Z => ?_
 replace Z := hh.sv hb1 (.inl rfl) (.inr rfl) Z
 refine hit3 Z (cell_of_heap (v := .bool d.inf) (Z.at 0 rfl) rfl) hinf (hpt hL (by decide)) fun a Z => ?_
 replace Z := Z.ct [2, 0, 1, 3, 8, 9] rfl
 refine wr (sv_n 3 Z rfl fun a Z => sv_st (i := 0) (v := .bool true) (cs' := ({ d with inf := true }.cells)) Z (su_bool _) (Z.g 44 rfl) rfl rfl (show 3 < 20 from by decide) rfl rfl fun w1 hty Z => Z.nx [2, 0, 1, 3, 8, 9] rfl fun Z => sh (wr (sv_n 3 Z rfl fun a Z => ?_)))
 refine sv_st (i := 0) (v := .int .u64 2) (cs' := ({ d with inf := true, lt := 2 }.cells)) Z (su_m3u8_ListType _) (Z.g 47 rfl) rfl rfl (show 0 < 20 from by decide) rfl rfl fun w2 hty Z => Z.nx [2, 0, 1, 3, 8, 9] rfl fun Z => sh (wr (sv_n 1 Z rfl fun a Z => ?_))
 refine sv_callv (v := .int .i64 ((ix : Nat) : Int)) Z rfl rfl (by decide) (ex_call2 cf_m3u8_zzIndex (Z.g 48 rfl) rfl) (by have h := zzIndex_any L 44 (by omega) w2; rw [hix] at h; exact h) fun a w3 hbw3 Z => sv_n 1 Z rfl fun a Z => Z.nx [10, 2, 0, 1, 3, 8, 9] rfl fun Z => sh (wp_seq (wr (sv_n 1 Z rfl fun a Z => ?_)))
 refine sv_r (v := .bool false) Z (ei_eql (Z.g 50 rfl) rfl (by rw [decide_eq_false_iff_not]; omega)) fun a Z => Z.nx [51, 10, 2, 0, 1, 3, 8, 9] rfl fun Z => sh (cond_f (Z.g 51 rfl) (wp_skip (sh (wr (sv_n 2 Z rfl fun a Z => ?_)))))
 refine sv_r (v := .string (L.extract 8 ix)) Z (ex_sslh (i := 8) (Z.g 56 rfl) rfl (Z.g 57 rfl) (by omega) (by omega)) fun a Z => sv_n 1 Z rfl fun a Z => Z.nx [11, 51, 10, 2, 0, 1, 3, 8, 9] rfl fun Z => sh (wp_seq (wr (sv_n 1 Z rfl fun a Z => sv_r (v := .int .i64 (((L.extract 8 ix).size : Nat) : Int)) Z (ex_slen (ats := #[]) (Z.g 59 rfl)) fun a Z => ?_)))
 refine sv_r (v := .bool true) Z (ei_gtr (Z.g 60 rfl) rfl (by rw [decide_eq_true_iff, ByteArray.size_extract]; omega)) fun a Z => Z.nx [61, 11, 51, 10, 2, 0, 1, 3, 8, 9] rfl fun Z => sh (cond_t (Z.g 61 rfl) (wr (sv_n 2 Z rfl fun a Z => ?_)))
 refine sv_callv (v := .tuple #[.float .f64 z, .nilIface]) Z rfl rfl (by decide) (ex_call2 cf_strconv_ParseFloat (Z.g 64 rfl) rfl) (hz _ (hG.keep Z.only (fun q hq => by rcases hq with rfl | rfl; (· exact hBp); (· exact hBs)))) fun a w4 hbw4 Z => sv_n 1 Z rfl fun a Z => sv_r (v := .float .f64 (z)) Z (ei_ext (Z.g 62 rfl) rfl) fun a Z => sv_n 3 Z rfl fun a Z => sv_st (i := 0) (v := .float .f64 (z)) (cs' := ({ d with inf := true, lt := 2, dur := z }.cells)) Z (su_float64 _) (Z.g 69 rfl) (Z.g 66 rfl) rfl (show 13 < 20 from by decide) rfl rfl fun w5 hty Z => sv_n 1 Z rfl fun a Z => Z.nx [9, 61, 11, 51, 10, 2, 0, 1, 3, 8] rfl fun Z => sh (wp_seq ?_)
 cases st with
 | true =>
  refine wp_region_lit (sv_n 3 Z rfl fun a Z => sv_g (v := .bool false) Z (Z.g 71 rfl) (ex_ine eqi_error (Z.g 72 rfl)) fun a Z => sv_n 1 Z rfl fun a Z => Z.nx [74, 9, 61, 11, 51, 10, 2, 0, 1, 3, 8] rfl fun Z => sh (cond_f (Z.g 74 rfl) (wp_skip (sh (wr (sv_n 1 Z rfl fun a Z => sv_r (v := .int .i64 ((L.size : Nat) : Int)) Z (ex_slen (ats := #[]) (Z.g 76 rfl)) fun a Z => ?_))))))
  refine sv_n 1 Z rfl fun a Z => ?_
  refine sv_r (v := .bool true) Z (ei_gtr (Z.g 77 rfl) (Z.g 78 rfl) (by rw [decide_eq_true_iff]; omega)) fun a Z => Z.nx [79, 74, 9, 61, 11, 51, 10, 2, 0, 1, 3, 8] rfl fun Z => sh (cond_t (Z.g 79 rfl) (wp_region_lit (sv_n 3 Z rfl fun a Z => ?_)))
  refine sv_r (v := .int .i64 ((ix + 1 : Nat) : Int)) Z (ei_add (Z.g 82 rfl) rfl (by rw [IntKind.wrap_i64]; omega)) fun a Z => ?_
  refine sv_r (v := .string (L.extract (ix + 1) L.size)) Z (ex_ssl (Z.g 81 rfl) (Z.g 83 rfl) (by omega)) fun a Z => sv_n 2 Z rfl fun a Z => sv_st (i := 0) (v := .string (L.extract (ix + 1) L.size)) (cs' := ({ d with inf := true, lt := 2, dur := z, title := L.extract (ix + 1) L.size }.cells)) Z (su_string _) (Z.g 86 rfl) (Z.g 84 rfl) rfl (show 14 < 20 from by decide) rfl rfl fun w6 hty Z => Z.nx [79, 74, 9, 61, 11, 51, 10, 2, 0, 1, 3, 8] rfl fun Z => sh ?_
  exact dl_end (Z.pick rfl) ⟨rfl, Z.only, Z.at 1 rfl, Z.at 0 rfl⟩
 | false =>
  refine wp_region_lit (sv_n 5 Z rfl fun a Z => Z.nx [74, 9, 61, 11, 51, 10, 2, 0, 1, 3, 8] rfl fun Z => sh (cond_f (Z.g 74 rfl) (wp_skip (sh (wr (sv_n 1 Z rfl fun a Z => sv_r (v := .int .i64 ((L.size : Nat) : Int)) Z (ex_slen (ats := #[]) (Z.g 76 rfl)) fun a Z => sv_n 1 Z rfl fun a Z => ?_))))))
  refine sv_r (v := .bool true) Z (ei_gtr (Z.g 77 rfl) (Z.g 78 rfl) (by rw [decide_eq_true_iff]; omega)) fun a Z => Z.nx [79, 74, 9, 61, 11, 51, 10, 2, 0, 1, 3, 8] rfl fun Z => sh (cond_t (Z.g 79 rfl) (wp_region_lit (sv_n 3 Z rfl fun a Z => ?_)))
  refine sv_r (v := .int .i64 ((ix + 1 : Nat) : Int)) Z (ei_add (Z.g 82 rfl) rfl (by rw [IntKind.wrap_i64]; omega)) fun a Z => ?_
  refine sv_r (v := .string (L.extract (ix + 1) L.size)) Z (ex_ssl (Z.g 81 rfl) (Z.g 83 rfl) (by omega)) fun a Z => sv_n 2 Z rfl fun a Z => sv_st (i := 0) (v := .string (L.extract (ix + 1) L.size)) (cs' := ({ d with inf := true, lt := 2, dur := z, title := L.extract (ix + 1) L.size }.cells)) Z (su_string _) (Z.g 86 rfl) (Z.g 84 rfl) rfl (show 14 < 20 from by decide) rfl rfl fun w7 hty Z => Z.nx [79, 74, 9, 61, 11, 51, 10, 2, 0, 1, 3, 8] rfl fun Z => sh ?_
  exact dl_end (Z.pick rfl) ⟨rfl, Z.only, Z.at 1 rfl, Z.at 0 rfl⟩
end Go.Proofs.YtflppablgdegcaaGreatDoor
