/- Joined: Ko, Mi. -/
import Derived.Test.YtflppablgdegcaaGreatDoorR23
import Derived.Test.YtflppablgdegcaaGreatDoorR24
set_option maxRecDepth 100000
set_option maxHeartbeats 8000000
namespace Go.Proofs.YtflppablgdegcaaGreatDoor
open Go.RowKit
theorem kp_below {gs : Nat} {w w' : World} (h : Below w.heap.size w w') : Kp gs w w' := fun g _ _ _ _ hc => (h.block g (Array.getElem?_eq_some_iff.1 hc).1).trans hc
def kvA : Option Nat → Option Addr
 | none => none
 | some g => some ⟨g, 0, none⟩
def kvN : Option Nat → Nat
 | none => 0
 | some _ => 1
abbrev kvV (b : Option Nat) : Value := .slice (kvA b) (kvN b) (kvN b)
def BkIs {α : Type} (f : α → Array Value) (t : TypeId) (w : World) : Option Nat → Option α → Prop
 | none, none => True
 | some g, some k => w.heap[g]? = some (.cells (f k) t (0, 0))
 | _, _ => False
theorem BkIs.below {α : Type} {f : α → Array Value} {t : TypeId} {w w' : World} {b : Option Nat} {k : Option α} (h : BkIs f t w b k) (hb : Below w.heap.size w w') : BkIs f t w' b k := by
 cases b with
 | none => cases k with
  | none => trivial
  | some k => exact h
 | some g => cases k with
  | none => exact h
  | some k => exact (hb.block g (Array.getElem?_eq_some_iff.1 h).1).trans h
theorem BkIs.ty {α : Type} {f : α → Array Value} {t : TypeId} {w w' : World} {ts : List TypeId} {b : Option Nat} {k : Option α} (h : BkIs f t w b k) (hy : TyOnly ts w w') (ht : (ts.all fun u => u != t) = true) : BkIs f t w' b k := by
 cases b with
 | none => cases k with
  | none => trivial
  | some k => exact h
 | some g => cases k with
  | none => exact h
  | some k => exact hy.keep h ht
theorem kvV_one (b : Option Nat) : (kvV b).oneCell' = true := rfl
abbrev IKeyIs := BkIs Kd.cells 105
abbrev IMapIs := BkIs Ud.cells 108

theorem keyOf_nil (w : World) : Calls Tryz.prog 40 #[.pointer none] w fun e w' => e = .returned (.slice none 0 0) ∧ Below w.heap.size w w' := by
 refine calls_of_ev Tryz.func40 rfl (show 1 ≤ 27 from by decide) fun a hE => ?_
 have hE : Ev 27 ((0, .pointer none) :: []) a := hE
 have Z : Sv 27 ((0, .pointer none) :: []) [] (fun _ => False) w a w := Sv.start hE _ _
 clear hE
 refine wr (sv_n 1 Z rfl fun a Z => Z.nx [2, 0] rfl fun Z => sh (wp_seq (wr (sv_n 1 Z rfl fun a Z => sv_r (v := .bool true) Z (ex_pe eqp_p_m3u8_Key (Z.g 3 rfl)) fun a Z => Z.nx [4, 2, 0] rfl fun Z => sh (cond_t (Z.g 4 rfl) (wr ?_))))))
 refine sv_n 1 Z rfl fun a Z => Z.nx [2, 4, 0] rfl fun Z => sh (wp_ret ?_)
 try simp only [Exit.inBlock, Exit.then]
 exact ret_of_ev Z.ev rfl (Z.g 2 rfl) ⟨rfl, Z.toBelow⟩
theorem mapOf_nil (w : World) : Calls Tryz.prog 41 #[.pointer none] w fun e w' => e = .returned (.slice none 0 0) ∧ Below w.heap.size w w' := by
 refine calls_of_ev Tryz.func41 rfl (show 1 ≤ 19 from by decide) fun a hE => ?_
 have hE : Ev 19 ((0, .pointer none) :: []) a := hE
 have Z : Sv 19 ((0, .pointer none) :: []) [] (fun _ => False) w a w := Sv.start hE _ _
 clear hE
 refine wr (sv_n 1 Z rfl fun a Z => Z.nx [2, 0] rfl fun Z => sh (wp_seq (wr (sv_n 1 Z rfl fun a Z => sv_r (v := .bool true) Z (ex_pe eqp_p_m3u8_Map (Z.g 3 rfl)) fun a Z => Z.nx [4, 2, 0] rfl fun Z => sh (cond_t (Z.g 4 rfl) (wr ?_))))))
 refine sv_n 1 Z rfl fun a Z => Z.nx [2, 4, 0] rfl fun Z => sh (wp_ret ?_)
 try simp only [Exit.inBlock, Exit.then]
 exact ret_of_ev Z.ev rfl (Z.g 2 rfl) ⟨rfl, Z.toBelow⟩
theorem cueOf_nil (w : World) : Calls Tryz.prog 48 #[.pointer none] w fun e w' => e = .returned (.slice none 0 0) ∧ Below w.heap.size w w' := by
 refine calls_of_ev Tryz.func48 rfl (show 1 ≤ 33 from by decide) fun a hE => ?_
 have hE : Ev 33 ((0, .pointer none) :: []) a := hE
 have Z : Sv 33 ((0, .pointer none) :: []) [] (fun _ => False) w a w := Sv.start hE _ _
 clear hE
 refine wr (sv_n 1 Z rfl fun a Z => Z.nx [2, 0] rfl fun Z => sh (wp_seq (wr (sv_n 1 Z rfl fun a Z => sv_r (v := .bool true) Z (ex_pe eqp_p_m3u8_SCTE (Z.g 3 rfl)) fun a Z => Z.nx [4, 2, 0] rfl fun Z => sh (cond_t (Z.g 4 rfl) (wr ?_))))))
 refine sv_n 1 Z rfl fun a Z => Z.nx [2, 4, 0] rfl fun Z => sh (wp_ret ?_)
 try simp only [Exit.inBlock, Exit.then]
 exact ret_of_ev Z.ev rfl (Z.g 2 rfl) ⟨rfl, Z.toBelow⟩
theorem keyOf_some (g : Nat) (k : Kd) (w : World) (hk : w.heap[g]? = some (.cells k.cells 132 (0, 0))) : Calls Tryz.prog 40 #[pt g 0] w fun e w' => ∃ v, e = .returned v ∧ Below w.heap.size w w' ∧ ∃ h, v = .slice (some ⟨h, 0, none⟩) 1 1 ∧ w'.heap[h]? = some (.cells k.cells 105 (0, 0)) := by
 refine calls_of_ev Tryz.func40 rfl (show 1 ≤ 27 from by decide) fun a hE => ?_
 have hE : Ev 27 ((0, pt g 0) :: []) a := hE
 have Z : Sv 27 ((0, pt g 0) :: []) [] (fun _ => False) w a w := Sv.start hE _ _
 clear hE
 replace Z := (Z.addR hk (by intro b hb; cases hb)).ct [0] rfl
 refine wr (sv_n 1 Z rfl fun a Z => Z.nx [2, 0] rfl fun Z => sh (wp_seq (wr (sv_n 1 Z rfl fun a Z => sv_r (v := .bool false) Z (ex_pe eqp_p_m3u8_Key (Z.g 3 rfl)) fun a Z => Z.nx [4, 2, 0] rfl fun Z => sh (cond_f (Z.g 4 rfl) (wp_skip ?_))))))
 refine sh (wp_seq ?_)
 refine qg 20 [pt g 0, pt g 0, pt g 0, .string k.m, pt g 0, pt g 0, pt g 1, .string k.u, pt g 0, pt g 0, pt g 2, .string k.v, pt g 0, pt g 0, pt g 3, .string k.f, pt g 0, pt g 0, pt g 4, .string k.n] Z ?_ ?_
 ·simp only [List.take_succ_cons, List.take_zero]
  exact ⟨qm (Z.g 0 rfl), qn 0, qf 1, ql 2 lt_string Z 0, qm (Z.g 0 rfl), qn 4, qf 5, ql 6 lt_string Z 0, qm (Z.g 0 rfl), qn 8, qf 9, ql 10 lt_string Z 0, qm (Z.g 0 rfl), qn 12, qf 13, ql 14 lt_string Z 0, qm (Z.g 0 rfl), qn 16, qf 17, ql 18 lt_string Z 0, trivial⟩
 ·intro a w1 c hbw1
  replace Z := (((((Z.ogk c [0, 2, 4]).kS c 3 rfl rfl).kS c 7 rfl rfl).kS c 11 rfl rfl).kS c 15 rfl rfl).kS c 19 rfl rfl
  clear c
  simp only [List.drop_succ_cons, List.drop_zero]
  refine sv_r (v := .agg #[.string k.m, .string k.u, .string k.v, .string k.f, .string k.n]) Z (by simp only [execOp, List.map_toArray, List.map_cons, List.map_nil, Z.g 8 rfl, Z.g 12 rfl, Z.g 16 rfl, Z.g 20 rfl, Z.g 24 rfl]; go_simp) fun a Z => ?_
  refine sv_new (T := 105) (cs := #[.string k.m, .string k.u, .string k.v, .string k.f, .string k.n]) Z rfl rfl (by decide) (fun g => .slice (some ⟨g, 0, none⟩) 1 1) (by simp only [execOp, List.map_toArray, List.map_cons, List.map_nil, Z.g 25 rfl]; go_simp) fun g2 a w3 hg2 hbw3 hwg2 Z => sv_n 1 Z rfl fun a Z => Z.nx [2, 0, 4] rfl fun Z => sh (wp_ret ?_)
  try simp only [Exit.inBlock, Exit.then]
  exact ret_of_ev Z.ev rfl (Z.g 2 rfl) ⟨_, rfl, Z.toBelow, _, rfl, Z.at 0 rfl⟩
theorem mapOf_some (g : Nat) (k : Ud) (w : World) (hk : w.heap[g]? = some (.cells k.cells 133 (0, 0))) : Calls Tryz.prog 41 #[pt g 0] w fun e w' => ∃ v, e = .returned v ∧ Below w.heap.size w w' ∧ ∃ h, v = .slice (some ⟨h, 0, none⟩) 1 1 ∧ w'.heap[h]? = some (.cells k.cells 108 (0, 0)) := by
 refine calls_of_ev Tryz.func41 rfl (show 1 ≤ 19 from by decide) fun a hE => ?_
 have hE : Ev 19 ((0, pt g 0) :: []) a := hE
 have Z : Sv 19 ((0, pt g 0) :: []) [] (fun _ => False) w a w := Sv.start hE _ _
 clear hE
 replace Z := (Z.addR hk (by intro b hb; cases hb)).ct [0] rfl
 refine wr (sv_n 1 Z rfl fun a Z => Z.nx [2, 0] rfl fun Z => sh (wp_seq (wr (sv_n 1 Z rfl fun a Z => sv_r (v := .bool false) Z (ex_pe eqp_p_m3u8_Map (Z.g 3 rfl)) fun a Z => Z.nx [4, 2, 0] rfl fun Z => sh (cond_f (Z.g 4 rfl) (wp_skip ?_))))))
 refine sh (wp_seq ?_)
 refine qg 12 [pt g 0, pt g 0, pt g 0, .string k.u, pt g 0, pt g 0, pt g 1, .int .i64 ((k.lim : Nat) : Int), pt g 0, pt g 0, pt g 2, .int .i64 ((k.off : Nat) : Int)] Z ?_ ?_
 ·simp only [List.take_succ_cons, List.take_zero]
  exact ⟨qm (Z.g 0 rfl), qn 0, qf 1, ql 2 lt_string Z 0, qm (Z.g 0 rfl), qn 4, qf 5, ql 6 lt_int64 Z 0, qm (Z.g 0 rfl), qn 8, qf 9, ql 10 lt_int64 Z 0, trivial⟩
 ·intro a w1 c hbw1
  replace Z := (((Z.ogk c [0, 2, 4]).kS c 3 rfl rfl).kS c 7 rfl rfl).kS c 11 rfl rfl
  clear c
  simp only [List.drop_succ_cons, List.drop_zero]
  refine sv_r (v := .agg #[.string k.u, .int .i64 ((k.lim : Nat) : Int), .int .i64 ((k.off : Nat) : Int)]) Z (by simp only [execOp, List.map_toArray, List.map_cons, List.map_nil, Z.g 8 rfl, Z.g 12 rfl, Z.g 16 rfl]; go_simp) fun a Z => ?_
  refine sv_new (T := 108) (cs := #[.string k.u, .int .i64 ((k.lim : Nat) : Int), .int .i64 ((k.off : Nat) : Int)]) Z rfl rfl (by decide) (fun g => .slice (some ⟨g, 0, none⟩) 1 1) (by simp only [execOp, List.map_toArray, List.map_cons, List.map_nil, Z.g 17 rfl]; go_simp) fun g2 a w3 hg2 hbw3 hwg2 Z => sv_n 1 Z rfl fun a Z => Z.nx [2, 0, 4] rfl fun Z => sh (wp_ret ?_)
  try simp only [Exit.inBlock, Exit.then]
  exact ret_of_ev Z.ev rfl (Z.g 2 rfl) ⟨_, rfl, Z.toBelow, _, rfl, Z.at 0 rfl⟩
theorem ikeyOf_any {gs : Nat} {a : Option Addr} {k : Option Kd} (w : World) (h : KeyIs gs w a k) : Calls Tryz.prog 40 #[.pointer a] w fun e w' => ∃ v, e = .returned v ∧ Below w.heap.size w w' ∧ ∃ b, v = kvV b ∧ IKeyIs w' b k := by
 cases a with
 | none =>
  cases k with
  | none => exact (keyOf_nil w).mono fun e w' ⟨h1, h2⟩ => ⟨_, h1, h2, none, rfl, trivial⟩
  | some k => exact h.elim
 | some a =>
  cases k with
  | none => exact h.elim
  | some k =>
   obtain ⟨g, _, rfl, h3⟩ := h
   exact (keyOf_some g k w h3).mono fun e w' ⟨v, h1, h2, h4, h5, h6⟩ => ⟨v, h1, h2, some h4, h5, h6⟩
theorem imapOf_any {gs : Nat} {a : Option Addr} {k : Option Ud} (w : World) (h : MapIs gs w a k) : Calls Tryz.prog 41 #[.pointer a] w fun e w' => ∃ v, e = .returned v ∧ Below w.heap.size w w' ∧ ∃ b, v = kvV b ∧ IMapIs w' b k := by
 cases a with
 | none =>
  cases k with
  | none => exact (mapOf_nil w).mono fun e w' ⟨h1, h2⟩ => ⟨_, h1, h2, none, rfl, trivial⟩
  | some k => exact h.elim
 | some a =>
  cases k with
  | none => exact h.elim
  | some k =>
   obtain ⟨g, _, rfl, h3⟩ := h
   exact (mapOf_some g k w h3).mono fun e w' ⟨v, h1, h2, h4, h5, h6⟩ => ⟨v, h1, h2, some h4, h5, h6⟩
theorem ver_any {gp cap tail cnt : Nat} {p : Pz} {sv : Value} (w : World) (hp : w.heap[gp]? = some (.cells (p.cells sv cap tail cnt) 88 (0, 0))) : Calls Tryz.prog 39 #[pt gp 0] w fun e w' => e = .returned (.int .u8 ((p.ver : Nat) : Int)) ∧ Below w.heap.size w w' := by
 refine calls_of_ev Tryz.func39 rfl (show 1 ≤ 7 from by decide) fun a hE => ?_
 have hE : Ev 7 ((0, pt gp 0) :: []) a := hE
 have Z : Sv 7 ((0, pt gp 0) :: []) [] (fun _ => False) w a w := Sv.start hE _ _
 clear hE
 replace Z := (Z.addR hp (by intro b hb; cases hb)).ct [0] rfl
 refine wr (sv_n 1 Z rfl fun a Z => Z.nx [2, 0] rfl fun Z => sh (wr (sv_n 3 Z rfl fun a Z => sv_l (v := .int .u8 ((p.ver : Nat) : Int)) 0 Z rfl (Z.g 5 rfl) lt_uint8 rfl fun a Z => sv_n 1 Z rfl fun a Z => Z.nx [2] rfl fun Z => sh (wp_ret ?_))))
 try simp only [Exit.inBlock, Exit.then]
 exact ret_of_ev Z.ev rfl (Z.g 2 rfl) ⟨rfl, Z.toBelow⟩
theorem win_any {gp cap tail cnt : Nat} {p : Pz} {sv : Value} (w : World) (hp : w.heap[gp]? = some (.cells (p.cells sv cap tail cnt) 88 (0, 0))) : Calls Tryz.prog 42 #[pt gp 0] w fun e w' => e = .returned (.int .u64 0) ∧ Below w.heap.size w w' := by
 refine calls_of_ev Tryz.func42 rfl (show 1 ≤ 7 from by decide) fun a hE => ?_
 have hE : Ev 7 ((0, pt gp 0) :: []) a := hE
 have Z : Sv 7 ((0, pt gp 0) :: []) [] (fun _ => False) w a w := Sv.start hE _ _
 clear hE
 replace Z := (Z.addR hp (by intro b hb; cases hb)).ct [0] rfl
 refine wr (sv_n 1 Z rfl fun a Z => Z.nx [2, 0] rfl fun Z => sh (wr (sv_n 3 Z rfl fun a Z => sv_l (v := .int .u64 0) 0 Z rfl (Z.g 5 rfl) lt_uint rfl fun a Z => sv_n 1 Z rfl fun a Z => Z.nx [2] rfl fun Z => sh (wp_ret ?_))))
 try simp only [Exit.inBlock, Exit.then]
 exact ret_of_ev Z.ev rfl (Z.g 2 rfl) ⟨rfl, Z.toBelow⟩
theorem ihead_any {gp cap tail cnt : Nat} {p : Pz} {sv : Value} (w : World) (hp : w.heap[gp]? = some (.cells (p.cells sv cap tail cnt) 88 (0, 0))) : Calls Tryz.prog 49 #[pt gp 0] w fun e w' => e = .returned (.tuple #[.int .u64 0, .int .u64 ((tail : Nat) : Int), .int .u64 ((cnt : Nat) : Int)]) ∧ Below w.heap.size w w' := by
 refine calls_of_ev Tryz.func49 rfl (show 1 ≤ 17 from by decide) fun a hE => ?_
 have hE : Ev 17 ((0, pt gp 0) :: []) a := hE
 have Z : Sv 17 ((0, pt gp 0) :: []) [] (fun _ => False) w a w := Sv.start hE _ _
 clear hE
 replace Z := (Z.addR hp (by intro b hb; cases hb)).ct [0] rfl
 refine wr (sv_n 3 Z rfl fun a Z => Z.nx [4, 3, 2, 0] rfl fun Z => sh (wp_seq ?_))
 refine G2.wp_region_og0 (n := 17) [G2.Asr.eq (pt gp 0), G2.Asr.eq (pt gp 0), G2.Asr.eq (pt gp 14), G2.Asr.eq (.int .u64 0), G2.Asr.eq (pt gp 0), G2.Asr.eq (pt gp 0), G2.Asr.eq (pt gp 15), G2.Asr.eq (.int .u64 ((tail : Nat) : Int)), G2.Asr.eq (pt gp 0), G2.Asr.eq (pt gp 0), G2.Asr.eq (pt gp 16), G2.Asr.eq (.int .u64 ((cnt : Nat) : Int)), G2.Asr.eq (.int .u64 0), G2.Asr.eq (.int .u64 ((tail : Nat) : Int)), G2.Asr.eq (.int .u64 ((cnt : Nat) : Int))] (by kernel_rfl) (by kernel_rfl) (by kernel_rfl) Z.ev.size ⟨⟩ ?_ ?_
 ·exact ⟨G2.qm (Z.g 0 rfl), G2.qn 0, G2.qf 1, G2.ql 2 lt_uint Z 0, G2.qm (Z.g 0 rfl), G2.qn 4, G2.qf 5, G2.ql 6 lt_uint Z 0, G2.qm (Z.g 0 rfl), G2.qn 8, G2.qf 9, G2.ql 10 lt_uint Z 0, fun _ _ c => G2.og_val (ex_as (c.s 3 rfl)) rfl, fun _ _ c => G2.og_val (ex_as (c.s 7 rfl)) rfl, fun _ _ c => G2.og_val (ex_as (c.s 11 rfl)) rfl, trivial⟩
 ·intro a w1 c hbw1
  replace Z : Sv 17 ((4, .int .u64 ((cnt : Nat) : Int)) :: (3, .int .u64 ((tail : Nat) : Int)) :: (2, .int .u64 0) :: (0, pt gp 0) :: []) [⟨gp, (p.cells sv cap tail cnt), 88, false⟩] (fun _ => False) w a w1 := (((((G2.sv_oge Z c).know (c.outG (by decide +kernel) (Z.g 0 rfl))).know (c.slot 12 _ rfl)).know (c.slot 13 _ rfl)).know (c.slot 14 _ rfl))
  clear c
  replace Z := Z.ct [4, 3, 2] rfl
  refine sh (wp_ret ?_)
  try simp only [Exit.inBlock, Exit.then]
  exact ret3_of_ev Z.ev rfl (Z.g 2 rfl) (Z.g 3 rfl) (Z.g 4 rfl) ⟨rfl, Z.toBelow⟩
def ptL (g : Nat) : List Value := [pt g 0]
theorem inOrder_any {gp gr cap c2 n : Nat} {p : Pz} {ps : List Nat} (hn : ps.length = n) (hc : n ≤ cap) (h0 : 0 < cap) (hc2 : cap ≤ c2) (hcap : cap ≤ 100000) (w : World) (hp : w.heap[gp]? = some (.cells (p.cells (.slice (some ⟨gr, 0, none⟩) cap c2) cap (n % cap) n) 88 (0, 0))) (hr : w.heap[gr]? = some (.cells (rcA ps c2) 125 (0, 0))) : Calls Tryz.prog 38 #[pt gp 0] w fun e w' => ∃ v, e = .returned v ∧ Below w.heap.size w w' ∧ Own ptL 125 1 w' w.heap.size v ps := by
 refine calls_of_ev Tryz.func38 rfl (show 1 ≤ 39 from by decide) fun a hE => ?_
 have hE : Ev 39 ((0, pt gp 0) :: []) a := hE
 have Z : Sv 39 ((0, pt gp 0) :: []) [] (fun _ => False) w a w := Sv.start hE _ _
 clear hE
 have hne : gp ≠ gr := ne_of_type hp hr (by decide)
 replace Z : Sv 39 ((0, pt gp 0) :: []) [⟨gr, (rcA ps c2), 125, false⟩, ⟨gp, (p.cells (.slice (some ⟨gr, 0, none⟩) cap c2) cap (n % cap) n), 88, false⟩] (fun _ => False) w a w := ((Z.addR hp (by intro q hq; cases hq)).addR hr (by intro q hq; cases List.mem_singleton.1 hq; exact hne)).pick rfl
 refine wr (sv_n 1 Z rfl fun a Z => Z.nx [2, 0] rfl fun Z => sh (wr (sv_n 1 Z rfl fun a Z => sv_callv (v := .tuple #[.int .u64 0, .int .u64 ((n % cap : Nat) : Int), .int .u64 ((n : Nat) : Int)]) Z rfl rfl (by decide) (ex_call1 cf_m3u8_MediaPlaylist_ZZHead (Z.g 9 rfl)) (ihead_any _ (Z.at 1 rfl)) fun a w1 hbw1 Z => sv_n 7 Z rfl fun a Z => Z.nx [5, 3, 2, 0] rfl fun Z => sh (wr (sv_n 1 Z rfl fun a Z => ?_)))))
 refine Z.nx [6, 5, 3, 2, 0] rfl fun Z => sh (wp_seq (wr (sv_n 1 Z rfl fun a Z => Z.nx [7, 6, 5, 3, 2, 0] rfl fun Z => sh (wp_block ?_))))
 refine wp_loop (fun a w' => ∃ (i : Nat) (lv : Value), i ≤ n ∧ Own ptL 125 1 w' w.heap.size lv (ps.take i) ∧ Sv 39 ((6, lv) :: (7, .int .u64 ((i : Nat) : Int)) :: (3, .int .u64 0) :: (5, .int .u64 ((n : Nat) : Int)) :: (0, pt gp 0) :: []) [⟨gr, (rcA ps c2), 125, false⟩, ⟨gp, (p.cells (.slice (some ⟨gr, 0, none⟩) cap c2) cap (n % cap) n), 88, false⟩] (fun _ => False) w a w') (fun a _ => n + 1 - (intOf (a.eval (.tmp 7))).toNat) ⟨0, .slice none 0 0, Nat.zero_le _, Own.nil _ _ _ _ _, Z.pick rfl⟩ ?_
 clear Z
 rintro a w5 ⟨i, lv, hi, ho, Z⟩
 have h7 := Z.g 7 rfl
 rcases Nat.lt_or_ge i n with hlt | hge
 ·obtain ⟨sx, hg⟩ : ∃ g, ps[i]? = some g := ⟨_, List.getElem?_eq_getElem (by omega)⟩
  have htk : ps.take (i + 1) = ps.take i ++ [sx] := by rw [List.take_add_one, hg]; rfl
  have hri : (rcA ps c2)[i]? = some (pt sx 0) := rcA_get hg
  have hl : (ps.take i).length ≤ n := by rw [List.length_take]; omega
  refine wp_seq (wr (sv_n 2 Z rfl fun a Z => ?_))
  refine sv_r (v := .bool true) Z (ei_lss (Z.g 14 rfl) (Z.g 15 rfl) (by rw [decide_eq_true_iff]; omega)) fun a Z => Z.nx [16, 6, 7, 3, 5, 0] rfl fun Z => sh (cond_t (Z.g 16 rfl) (wp_skip (sh (wp_seq (wp_block ?_)))))
  refine wp_region_og1 (n := 39) 18 [Asr.eq (lv), Asr.eq (pt gp 0), Asr.eq (pt gp 0), Asr.eq (pt gp 2), Asr.eq (.slice (some ⟨gr, 0, none⟩) cap c2), Asr.eq (.int .u64 0), Asr.eq (.int .u64 ((i : Nat) : Int)), Asr.eq (.int .u64 ((i : Nat) : Int)), Asr.eq (pt gp 0), Asr.eq (pt gp 0), Asr.eq (pt gp 2), Asr.eq (.slice (some ⟨gr, 0, none⟩) cap c2), Asr.eq (.int .i64 ((cap : Nat) : Int)), Asr.eq (.int .u64 ((cap : Nat) : Int)), Asr.eq (.int .u64 ((i : Nat) : Int)), Asr.eq (pt gr i), Asr.eq (pt sx 0), Asr.any (fun v w' => ∃ g, v = .slice (some ⟨g, 0, none⟩) 1 1 ∧ w'.heap[g]? = some (.cells #[pt sx 0] 125 (0, 0)))] (by kernel_rfl) (by kernel_rfl) (by kernel_rfl) (by simp) (by kernel_rfl) Z.ev.size ⟨(fun i _ _ v w w' _ ho hp => by obtain ⟨g, h1, h2⟩ := hp; exact ⟨g, h1, hp_below h2 (only_below0 ho)⟩), ⟨⟩⟩ ?_ ?_
  ·simp only [List.take_succ_cons, List.take_zero]
   refine ⟨?_, ?_, ?_, ?_, ?_, ?_, ?_, ?_, ?_, ?_, ?_, ?_, ?_, ?_, ?_, ?_, ?_, ?_, trivial⟩
   ·exact qm (Z.g 6 rfl)
   ·exact qm (Z.g 0 rfl)
   ·exact qn 1
   ·exact qf 2
   ·exact ql 3 lt_sl_p_m3u8_MediaSegment Z 1
   ·exact qm (Z.g 3 rfl)
   ·exact qm (Z.g 7 rfl)
   ·exact fun _ _ c => og_val (v := .int .u64 ((i : Nat) : Int)) (ei_add (c.s 5 rfl) (c.s 6 rfl) (by rw [IntKind.wrap_u64]; omega)) rfl
   ·exact qm (Z.g 0 rfl)
   ·exact qn 8
   ·exact qf 9
   ·exact ql 10 lt_sl_p_m3u8_MediaSegment Z 1
   ·exact fun _ _ c => og_val (ex_lenS (E := 125) Tryz.underlying79 (c.s 11 rfl)) rfl
   ·exact fun _ _ c => og_val (ex_cv (c.s 12 rfl) (cv_int_uint _ (by rw [IntKind.wrap_u64]; omega))) rfl
   ·intro a wx c
    have e_26 : a.eval (.tmp 26) = .int .u64 ((i : Nat) : Int) := c.s 7 rfl
    have e_32 : a.eval (.tmp 32) = .int .u64 ((cap : Nat) : Int) := c.s 13 rfl
    clear c
    have e : i % cap = i := Nat.mod_eq_of_lt (by omega)
    exact og_val (v := .int .u64 ((i : Nat) : Int)) (ni_rem' (n := i) cap e_26 e_32 (by omega) e) rfl
   ·exact fun _ _ c => og_val (v := pt gr i) (ex_ia1 (E := 125) (i := i) Tryz.underlying79 Tryz.sizeOf125 (c.s 4 rfl) (c.s 14 rfl) (by omega)) rfl
   ·exact fun _ _ c => og_val (ex_ld (c.s 15 rfl) lt_p_m3u8_MediaSegment (cell_of_heap (v := pt sx 0) ((Z.ogc c).at 0 rfl) hri)) rfl
   ·intro a wx c
    have e_35 : a.eval (.tmp 35) = pt sx 0 := c.s 16 rfl
    clear c
    exact og_ext (v := .slice (some ⟨wx.heap.size, 0, none⟩) 1 1) (w' := wx.alloc (.cells #[pt sx 0] 125)) (by simp only [execOp, List.map_toArray, List.map_cons, List.map_nil, e_35]; go_simp) ((Below.refl _ _).alloc (Nat.le_refl _) _) ⟨_, rfl, heap_alloc_new _ _⟩
  ·intro a w10 c hbw10
   replace ho := ho.ty (TyOnly.of_below (ts := []) hbw10) (by decide)
   obtain ⟨g9, e_36, hxg9⟩ : ∃ g, (a.eval (.tmp 36)) = .slice (some ⟨g, 0, none⟩) 1 1 ∧ w10.heap[g]? = some (.cells #[pt sx 0] 125 (0, 0)) := c.s 17 rfl
   replace Z : Sv 39 ((36, .slice (some ⟨g9, 0, none⟩) 1 1) :: (19, lv) :: (0, pt gp 0) :: (5, .int .u64 ((n : Nat) : Int)) :: (3, .int .u64 0) :: (7, .int .u64 ((i : Nat) : Int)) :: (6, lv) :: (16, .bool true) :: []) [⟨gr, (rcA ps c2), 125, false⟩, ⟨gp, (p.cells (.slice (some ⟨gr, 0, none⟩) cap c2) cap (n % cap) n), 88, false⟩] (fun _ => False) w a w10 := (((((((((Z.ogh c).know (c.o (Z.g 16 rfl))).know (c.o (Z.g 6 rfl))).know (c.o (Z.g 7 rfl))).know (c.o (Z.g 3 rfl))).know (c.o (Z.g 5 rfl))).know (c.o (Z.g 0 rfl))).know (c.s 0 rfl)).know e_36)
   clear c
   simp only [List.drop_succ_cons, List.drop_zero]
   replace Z := (Z.mz [false, true] rfl).ct [36, 19, 0, 5, 3, 7, 6, 16] rfl
   refine sv_append (f := ptL) (L := (ps.take i)) sli_sl_p_m3u8_MediaSegment (by decide) (fun _ => rfl) [sx] Z (Z.g 19 rfl) (Z.g 36 rfl) hxg9 rfl rfl (by intro y hy u hu; simp only [ptL, List.mem_cons, List.not_mem_nil, or_false] at hu; subst hu; rfl) ho rfl (by decide) (by omega) (by omega) fun a lv2 w11 hty ho2 Z => ?_
   replace Z := (Z.addR ((Z.toBelow.block gr (Array.getElem?_eq_some_iff.1 hr).1).trans hr) (by intro q hq; cases List.mem_singleton.1 hq; exact hne)).ct [37, 36, 19, 0, 5, 3, 7, 6, 16] rfl
   refine sv_n 1 Z rfl fun a Z => Z.nx [6, 0, 5, 3, 7, 16] rfl fun Z => sh (wp_region_lit (sv_n 1 Z rfl fun a Z => ?_))
   refine sv_r (v := .int .u64 ((i + 1 : Nat) : Int)) Z (ei_add (Z.g 17 rfl) rfl (by rw [IntKind.wrap_u64]; omega)) fun a Z => sv_n 1 Z rfl fun a Z => Z.nx [7, 6, 0, 5, 3, 16] rfl fun Z => ?_
   refine ⟨⟨i + 1, lv2, hlt, by rw [htk]; exact ho2, Z.pick rfl⟩, ?_⟩
   have h7' := Z.g 7 rfl
   rw [h7, h7']
   simp only [intOf]
   omega
 ·have hall : ps.take i = ps := List.take_of_length_le (by omega)
  refine wp_seq (wr (sv_n 2 Z rfl fun a Z => ?_))
  refine sv_r (v := .bool false) Z (ei_lss (Z.g 14 rfl) (Z.g 15 rfl) (by rw [decide_eq_false_iff_not]; omega)) fun a Z => Z.nx [16, 6, 7, 3, 5, 0] rfl fun Z => sh (cond_f (Z.g 16 rfl) (wp_exit (sh (wr (sv_n 2 Z rfl fun a Z => Z.nx [2, 16, 6, 7, 3, 5, 0] rfl fun Z => sh (wp_ret ?_))))))
  try simp only [Exit.inBlock, Exit.then]
  exact ret_of_ev Z.ev rfl (Z.g 2 rfl) ⟨_, rfl, Z.toBelow, by rw [hall] at ho; exact ho⟩
structure Sgv where
 s : Sg
 kb : Option Nat
 mb : Option Nat
def sgL (x : Sgv) : List Value := [.int .u64 (x.s.seq : Int), .string x.s.title, .string x.s.uri, .float .f64 x.s.dur, .int .i64 (x.s.limit : Int), .int .i64 (x.s.offset : Int), kvV x.kb, kvV x.mb, .slice none 0 0, .bool x.s.disc, .string x.s.date]
theorem sgL_one (x : Sgv) : ∀ u ∈ sgL x, u.oneCell' = true := by
 intro u hu
 simp only [sgL, List.mem_cons, List.not_mem_nil, or_false] at hu
 rcases hu with rfl | rfl | rfl | rfl | rfl | rfl | rfl | rfl | rfl | rfl | rfl <;> first | rfl | exact kvV_one _
def SgvIs (w : World) (L : List Sgv) (ss : List Sg) : Prop := L.map Sgv.s = ss ∧ ∀ x ∈ L, IKeyIs w x.kb x.s.key ∧ IMapIs w x.mb x.s.map
theorem SgvIs.below {w w' : World} {L : List Sgv} {ss : List Sg} (h : SgvIs w L ss) (hb : Below w.heap.size w w') : SgvIs w' L ss := ⟨h.1, fun x hx => ⟨(h.2 x hx).1.below hb, (h.2 x hx).2.below hb⟩⟩
theorem SgvIs.ty {w w' : World} {ts : List TypeId} {L : List Sgv} {ss : List Sg} (h : SgvIs w L ss) (hy : TyOnly ts w w') (ht : (ts.all fun u => u != 105 && u != 108) = true) : SgvIs w' L ss := by
 have h1 : (ts.all fun u => u != 105) = true := by rw [List.all_eq_true] at ht ⊢; intro u hu; have := ht u hu; simp only [Bool.and_eq_true] at this; exact this.1
 have h2 : (ts.all fun u => u != 108) = true := by rw [List.all_eq_true] at ht ⊢; intro u hu; have := ht u hu; simp only [Bool.and_eq_true] at this; exact this.2
 exact ⟨h.1, fun x hx => ⟨(h.2 x hx).1.ty hy h1, (h.2 x hx).2.ty hy h2⟩⟩
theorem sv_elemP {N : Nat} {l : List (Nat × Value)} {m : List Bk} {M : Nat → Prop} {w0 w : World} {a : Act} {ops : Array Oper} {rest : List Oper} {Q : Exit → Act → World → Prop} {T E s i B n d1 d2 x : Nat} {sv : Value} {L : List Nat} {ty1 ty2 : TypeId} {ps1 ps2 : String} {af1 af2 : Array Edge} (hu : Tryz.prog.underlying T = some (.slice E)) (hz : ∀ w, (sizeOf E).run Tryz.prog w = .ok 1 w) (hL : Ld E) (h : Sv N l m M w0 a w) (ho : Own ptL E 1 w B sv L) (hx : L[n]? = some x) (hs : a.eval (.tmp s) = sv) (hi : a.eval (.tmp i) = .int .i64 n) (h1 : d1 < N) (h2 : d2 < N)
  (hK : ∀ a' p, Sv N ((d2, pt x 0) :: (d1, .pointer p) :: l) m M w0 a' w → wpList Tryz.prog ops Q rest a' w) :
  wpList Tryz.prog ops Q (⟨some d1, .indexAddr T (.tmp s) (.tmp i), ty1, ps1, af1, none⟩ :: ⟨some d2, .load E (.tmp d1), ty2, ps2, af2, none⟩ :: rest) a w := by
 have hlt : n < L.length := (List.getElem?_eq_some_iff.1 hx).1
 obtain ⟨A, cap, hsv, hA0⟩ := ho.shape
 obtain ⟨g, rfl⟩ := hA0 (by intro e; rw [e] at hlt; simp at hlt)
 have hc := Own.cells_at (f := ptL) (fun _ => rfl) Nat.one_pos (hsv ▸ ho) hlt (j := 0) Nat.one_pos
 rw [List.getElem?_eq_getElem hlt] at hx
 rw [Option.some.inj hx] at hc
 refine sv_run (v := .pointer (some ⟨g, n * 1, none⟩)) h rfl rfl h1 ?_ ?_
 ·have h3 := ex_ia (dst := some d1) (ty := ty1) (ps := ps1) (af := af1) (gd := none) (w := w) (i := n) hu hz (hs.trans hsv) hi hlt
  rw [add_block, Nat.zero_add] at h3
  exact h3
 ·intro a' h'
  refine sv_run (v := pt x 0) h' rfl rfl h2 (ex_ld (h'.get d1 look_eq) hL hc) fun a2 h2' => ?_
  exact hK a2 _ h2'
theorem segsOf_any {gs Bo : Nat} {v0 : Value} {ps : List Nat} {ss : List Sg} (hlen : ps.length ≤ 1000) (w : World) (hsg : All2 (SegIs gs w) ps ss) (hin : Own ptL 125 1 w Bo v0 ps) : Calls Tryz.prog 37 #[v0] w fun e w' => ∃ v, e = .returned v ∧ Below w.heap.size w w' ∧ ∃ L, Own sgL 67 11 w' w.heap.size v L ∧ SgvIs w' L ss := by
 refine calls_of_ev Tryz.func37 rfl (show 1 ≤ 67 from by decide) fun a hE => ?_
 have hE : Ev 67 ((0, v0) :: []) a := hE
 have Z : Sv 67 ((0, v0) :: []) [] (fun _ => False) w a w := Sv.start hE _ _
 clear hE
 have hl2 := hsg.len
 refine wr (sv_n 1 Z rfl fun a Z => Z.nx [2, 0] rfl fun Z => sh (wr (sv_n 1 Z rfl fun a Z => Z.nx [3, 2, 0] rfl fun Z => sh (wp_seq (wr (sv_n 1 Z rfl fun a Z => sv_r (v := .int .i64 ((ps.length : Nat) : Int)) Z (ex_lenO Tryz.underlying79 (Z.g 6 rfl) hin) fun a Z => ?_))))))
 refine sv_r (v := .int .i64 0) Z ex_mc fun a Z => Z.nx [8, 7, 6, 3, 2, 0] rfl fun Z => sh (wp_block ?_)
 refine wp_loop (fun a w' => ∃ (i : Nat) (lv : Value) (LL : List Sgv), i ≤ ps.length ∧ SgvIs w' LL (ss.take i) ∧ Own sgL 67 11 w' w.heap.size lv LL ∧ Own ptL 125 1 w' Bo v0 ps ∧ Sv 67 ((3, lv) :: (6, v0) :: (7, .int .i64 ((ps.length : Nat) : Int)) :: (8, .int .i64 ((i : Nat) : Int)) :: []) [] (fun _ => False) w a w') (fun a _ => ps.length + 1 - (intOf (a.eval (.tmp 8))).toNat) ⟨0, .slice none 0 0, [], Nat.zero_le _, ⟨rfl, fun x hx => by cases hx⟩, Own.nil _ _ _ _ _, hin, Z.pick rfl⟩ ?_
 clear Z hin
 rintro a w5 ⟨i, lv, LL, hi, hLs, ho, hin, Z⟩
 have h8 := Z.g 8 rfl
 rcases Nat.lt_or_ge i ps.length with hlt | hge
 ·obtain ⟨g, hg⟩ : ∃ g, ps[i]? = some g := ⟨_, List.getElem?_eq_getElem hlt⟩
  obtain ⟨s, hs, hsi⟩ := hsg.get i g hg
  obtain ⟨ka, ma, _, hgz, hka, hma⟩ := hsi.kp (kp_below Z.toBelow)
  have hLL : LL.length = i := by have h := congrArg List.length hLs.1; rw [List.length_map, List.length_take] at h; omega
  have hbW := Z.toBelow
  replace Z := (Z.addR hgz (by intro q hq; cases hq)).ct [3, 6, 7, 8] rfl
  refine wr ?_
  refine sv_r (v := .bool true) Z (ei_lss (Z.g 8 rfl) (Z.g 7 rfl) (by rw [decide_eq_true_iff]; omega)) fun a Z => Z.nx [9, 3, 6, 7, 8] rfl fun Z => sh (wp_seq (cond_t (Z.g 9 rfl) (wp_skip (sh (wp_seq (wp_block (wr (sv_elemP Tryz.underlying79 Tryz.sizeOf125 lt_p_m3u8_MediaSegment Z hin (n := i) hg (Z.g 6 rfl) (Z.g 8 rfl) (by decide) (by decide) fun a p Z => sv_n 1 Z rfl fun a Z => ?_))))))))
  refine Z.nx [5, 9, 3, 6, 7, 8] rfl fun Z => sh (wp_seq (wr (sv_n 1 Z rfl fun a Z => sv_r (v := .bool false) Z (ex_pe eqp_p_m3u8_MediaSegment (Z.g 12 rfl)) fun a Z => Z.nx [13, 5, 9, 3, 6, 7, 8] rfl fun Z => sh (cond_f (Z.g 13 rfl) (wp_skip (sh ?_))))))
  refine wp_region_og1 (n := 67) 50 [Asr.eq (lv), Asr.eq (pt g 0), Asr.eq (pt g 0), Asr.eq (pt g 0), Asr.eq (.int .u64 ((s.seq : Nat) : Int)), Asr.eq (pt g 0), Asr.eq (pt g 0), Asr.eq (pt g 1), Asr.eq (.string s.title), Asr.eq (pt g 0), Asr.eq (pt g 0), Asr.eq (pt g 2), Asr.eq (.string s.uri), Asr.eq (pt g 0), Asr.eq (pt g 0), Asr.eq (pt g 3), Asr.eq (.float .f64 (s.dur)), Asr.eq (pt g 0), Asr.eq (pt g 0), Asr.eq (pt g 4), Asr.eq (.int .i64 ((s.limit : Nat) : Int)), Asr.eq (pt g 0), Asr.eq (pt g 0), Asr.eq (pt g 5), Asr.eq (.int .i64 ((s.offset : Nat) : Int)), Asr.eq (pt g 0), Asr.eq (pt g 0), Asr.eq (pt g 6), Asr.eq (.pointer ka), Asr.any (fun v w' => ∃ b, v = .slice (kvA b) (kvN b) (kvN b) ∧ IKeyIs w' b s.key), Asr.eq (pt g 0), Asr.eq (pt g 0), Asr.eq (pt g 7), Asr.eq (.pointer ma), Asr.any (fun v w' => ∃ b, v = .slice (kvA b) (kvN b) (kvN b) ∧ IMapIs w' b s.map), Asr.eq (pt g 0), Asr.eq (pt g 0), Asr.eq (pt g 9), Asr.eq (.pointer none), Asr.eq (.slice none 0 0), Asr.eq (pt g 0), Asr.eq (pt g 0), Asr.eq (pt g 8), Asr.eq (.bool (s.disc)), Asr.eq (pt g 0), Asr.eq (pt g 0), Asr.eq (pt g 10), Asr.eq (.string s.date), Asr.any (fun v w' => ∃ kb mb, v = .agg #[.int .u64 ((s.seq : Nat) : Int), .string s.title, .string s.uri, .float .f64 (s.dur), .int .i64 ((s.limit : Nat) : Int), .int .i64 ((s.offset : Nat) : Int), .slice (kvA kb) (kvN kb) (kvN kb), .slice (kvA mb) (kvN mb) (kvN mb), .slice none 0 0, .bool (s.disc), .string s.date] ∧ IKeyIs w' kb s.key ∧ IMapIs w' mb s.map), Asr.any (fun v w' => ∃ gq kb mb, v = .slice (some ⟨gq, 0, none⟩) 1 1 ∧ w'.heap[gq]? = some (.cells #[.int .u64 ((s.seq : Nat) : Int), .string s.title, .string s.uri, .float .f64 (s.dur), .int .i64 ((s.limit : Nat) : Int), .int .i64 ((s.offset : Nat) : Int), .slice (kvA kb) (kvN kb) (kvN kb), .slice (kvA mb) (kvN mb) (kvN mb), .slice none 0 0, .bool (s.disc), .string s.date] 67 (0, 0)) ∧ IKeyIs w' kb s.key ∧ IMapIs w' mb s.map)] (by kernel_rfl) (by kernel_rfl) (by kernel_rfl) (by simp) (by kernel_rfl) Z.ev.size ⟨(fun i _ _ v w w' _ ho hp => by obtain ⟨b, h1, h2⟩ := hp; exact ⟨b, h1, h2.below (only_below0 ho)⟩), (fun i _ _ v w w' _ ho hp => by obtain ⟨b, h1, h2⟩ := hp; exact ⟨b, h1, h2.below (only_below0 ho)⟩), (fun i _ _ v w w' _ ho hp => by obtain ⟨kb, mb, h1, h2, h3⟩ := hp; exact ⟨kb, mb, h1, h2.below (only_below0 ho), h3.below (only_below0 ho)⟩), (fun i _ _ v w w' _ ho hp => by obtain ⟨gq, kb, mb, h1, h2, h3, h4⟩ := hp; exact ⟨gq, kb, mb, h1, hp_below h2 (only_below0 ho), h3.below (only_below0 ho), h4.below (only_below0 ho)⟩), ⟨⟩⟩ ?_ ?_
  ·simp only [List.take_succ_cons, List.take_zero]
   refine ⟨?_, ?_, ?_, ?_, ?_, ?_, ?_, ?_, ?_, ?_, ?_, ?_, ?_, ?_, ?_, ?_, ?_, ?_, ?_, ?_, ?_, ?_, ?_, ?_, ?_, ?_, ?_, ?_, ?_, ?_, ?_, ?_, ?_, ?_, ?_, ?_, ?_, ?_, ?_, ?_, ?_, ?_, ?_, ?_, ?_, ?_, ?_, ?_, ?_, ?_, trivial⟩
   ·exact qm (Z.g 3 rfl)
   ·exact qm (Z.g 5 rfl)
   ·exact qn 1
   ·exact qf 2
   ·exact ql 3 lt_uint64 Z 0
   ·exact qm (Z.g 5 rfl)
   ·exact qn 5
   ·exact qf 6
   ·exact ql 7 lt_string Z 0
   ·exact qm (Z.g 5 rfl)
   ·exact qn 9
   ·exact qf 10
   ·exact ql 11 lt_string Z 0
   ·exact qm (Z.g 5 rfl)
   ·exact qn 13
   ·exact qf 14
   ·exact ql 15 lt_float64 Z 0
   ·exact qm (Z.g 5 rfl)
   ·exact qn 17
   ·exact qf 18
   ·exact ql 19 lt_int64 Z 0
   ·exact qm (Z.g 5 rfl)
   ·exact qn 21
   ·exact qf 22
   ·exact ql 23 lt_int64 Z 0
   ·exact qm (Z.g 5 rfl)
   ·exact qn 25
   ·exact qf 26
   ·exact ql 27 lt_p_m3u8_Key Z 0
   ·intro a wx c
    have e_42 : a.eval (.tmp 42) = .pointer ka := c.s 28 rfl
    have hO := Z.ogc c
    have hbx := drew_below c.only
    clear c
    exact og_call (ex_call1 cf_impl_keyOf e_42) ((ikeyOf_any wx (hka.kp (kp_below hbx) (.inr (.inl rfl)))).mono fun e w' ⟨v, h1, h2, b, h3, h4⟩ => ⟨v, h1, h2, b, h3, h4⟩)
   ·exact qm (Z.g 5 rfl)
   ·exact qn 30
   ·exact qf 31
   ·exact ql 32 lt_p_m3u8_Map Z 0
   ·intro a wx c
    have e_47 : a.eval (.tmp 47) = .pointer ma := c.s 33 rfl
    have hO := Z.ogc c
    have hbx := drew_below c.only
    clear c
    exact og_call (ex_call1 cf_impl_mapOf e_47) ((imapOf_any wx (hma.kp (kp_below hbx) (.inr (.inr rfl)))).mono fun e w' ⟨v, h1, h2, b, h3, h4⟩ => ⟨v, h1, h2, b, h3, h4⟩)
   ·exact qm (Z.g 5 rfl)
   ·exact qn 35
   ·exact qf 36
   ·exact ql 37 lt_p_m3u8_SCTE Z 0
   ·intro a wx c
    have e_52 : a.eval (.tmp 52) = .pointer none := c.s 38 rfl
    have hO := Z.ogc c
    have hbx := drew_below c.only
    clear c
    have hcl : Calls Tryz.prog _ _ wx (fun e w' => e = .returned (.slice none 0 0) ∧ Below wx.heap.size wx w') := (cueOf_nil wx)
    refine og_call (ex_call1 cf_impl_cueOf e_52) (Calls.mono hcl ?_)
    rintro e w' ⟨rfl, hb⟩
    exact ⟨_, rfl, hb, rfl⟩
   ·exact qm (Z.g 5 rfl)
   ·exact qn 40
   ·exact qf 41
   ·exact ql 42 lt_bool Z 0
   ·exact qm (Z.g 5 rfl)
   ·exact qn 44
   ·exact qf 45
   ·exact ql 46 lt_string Z 0
   ·intro a wx c
    have e_18 : a.eval (.tmp 18) = .int .u64 ((s.seq : Nat) : Int) := c.s 4 rfl
    have e_22 : a.eval (.tmp 22) = .string s.title := c.s 8 rfl
    have e_26 : a.eval (.tmp 26) = .string s.uri := c.s 12 rfl
    have e_30 : a.eval (.tmp 30) = .float .f64 (s.dur) := c.s 16 rfl
    have e_34 : a.eval (.tmp 34) = .int .i64 ((s.limit : Nat) : Int) := c.s 20 rfl
    have e_38 : a.eval (.tmp 38) = .int .i64 ((s.offset : Nat) : Int) := c.s 24 rfl
    obtain ⟨kb, e_43, hkb⟩ : ∃ b, (a.eval (.tmp 43)) = .slice (kvA b) (kvN b) (kvN b) ∧ IKeyIs wx b s.key := c.s 29 rfl
    obtain ⟨mb, e_48, hmb⟩ : ∃ b, (a.eval (.tmp 48)) = .slice (kvA b) (kvN b) (kvN b) ∧ IMapIs wx b s.map := c.s 34 rfl
    have e_53 : a.eval (.tmp 53) = .slice none 0 0 := c.s 39 rfl
    have e_57 : a.eval (.tmp 57) = .bool (s.disc) := c.s 43 rfl
    have e_61 : a.eval (.tmp 61) = .string s.date := c.s 47 rfl
    clear c
    exact og_val (v := .agg #[.int .u64 ((s.seq : Nat) : Int), .string s.title, .string s.uri, .float .f64 (s.dur), .int .i64 ((s.limit : Nat) : Int), .int .i64 ((s.offset : Nat) : Int), .slice (kvA kb) (kvN kb) (kvN kb), .slice (kvA mb) (kvN mb) (kvN mb), .slice none 0 0, .bool (s.disc), .string s.date]) (by simp only [execOp, List.map_toArray, List.map_cons, List.map_nil, e_18, e_22, e_26, e_30, e_34, e_38, e_43, e_48, e_53, e_57, e_61]; go_simp) ⟨kb, mb, rfl, hkb, hmb⟩
   ·intro a wx c
    obtain ⟨kb, mb, e_62, hkb, hmb⟩ : ∃ kb mb, (a.eval (.tmp 62)) = .agg #[.int .u64 ((s.seq : Nat) : Int), .string s.title, .string s.uri, .float .f64 (s.dur), .int .i64 ((s.limit : Nat) : Int), .int .i64 ((s.offset : Nat) : Int), .slice (kvA kb) (kvN kb) (kvN kb), .slice (kvA mb) (kvN mb) (kvN mb), .slice none 0 0, .bool (s.disc), .string s.date] ∧ IKeyIs wx kb s.key ∧ IMapIs wx mb s.map := c.s 48 rfl
    clear c
    exact og_ext (v := .slice (some ⟨wx.heap.size, 0, none⟩) 1 1) (w' := wx.alloc (.cells #[.int .u64 ((s.seq : Nat) : Int), .string s.title, .string s.uri, .float .f64 (s.dur), .int .i64 ((s.limit : Nat) : Int), .int .i64 ((s.offset : Nat) : Int), .slice (kvA kb) (kvN kb) (kvN kb), .slice (kvA mb) (kvN mb) (kvN mb), .slice none 0 0, .bool (s.disc), .string s.date] 67)) (by simp only [execOp, List.map_toArray, List.map_cons, List.map_nil, e_62]; go_simp) ((Below.refl _ _).alloc (Nat.le_refl _) _) ⟨_, kb, mb, rfl, heap_alloc_new _ _, hkb.below ((Below.refl _ _).alloc (Nat.le_refl _) _), hmb.below ((Below.refl _ _).alloc (Nat.le_refl _) _)⟩
  ·intro a w9 c hbw9
   replace hin := hin.ty (TyOnly.of_below (ts := []) hbw9) (by decide)
   replace ho := ho.ty (TyOnly.of_below (ts := []) hbw9) (by decide)
   replace hLs := hLs.ty (TyOnly.of_below (ts := []) hbw9) (by decide)
   obtain ⟨gq, kb, mb, e_63, hxq, hkb, hmb⟩ : ∃ gq kb mb, (a.eval (.tmp 63)) = .slice (some ⟨gq, 0, none⟩) 1 1 ∧ w9.heap[gq]? = some (.cells #[.int .u64 ((s.seq : Nat) : Int), .string s.title, .string s.uri, .float .f64 (s.dur), .int .i64 ((s.limit : Nat) : Int), .int .i64 ((s.offset : Nat) : Int), .slice (kvA kb) (kvN kb) (kvN kb), .slice (kvA mb) (kvN mb) (kvN mb), .slice none 0 0, .bool (s.disc), .string s.date] 67 (0, 0)) ∧ IKeyIs w9 kb s.key ∧ IMapIs w9 mb s.map := c.s 49 rfl
   replace Z : Sv 67 ((63, .slice (some ⟨gq, 0, none⟩) 1 1) :: (14, lv) :: (8, .int .i64 ((i : Nat) : Int)) :: (7, .int .i64 ((ps.length : Nat) : Int)) :: (6, v0) :: (3, lv) :: (9, .bool true) :: (5, pt g 0) :: (13, .bool false) :: []) [⟨g, (Sz.cells ⟨s.seq, s.title, s.uri, s.dur, s.limit, s.offset, ka, ma, s.disc, s.date⟩), 127, false⟩] (fun _ => False) w a w9 := ((((((((((Z.ogh c).know (c.o (Z.g 13 rfl))).know (c.o (Z.g 5 rfl))).know (c.o (Z.g 9 rfl))).know (c.o (Z.g 3 rfl))).know (c.o (Z.g 6 rfl))).know (c.o (Z.g 7 rfl))).know (c.o (Z.g 8 rfl))).know (c.s 0 rfl)).know e_63)
   clear c
   simp only [List.drop_succ_cons, List.drop_zero]
   refine sv_append (f := sgL) (L := LL) sli_sl_impl_Segment (by decide) (fun _ => rfl) [⟨s, kb, mb⟩] Z (Z.g 14 rfl) (Z.g 63 rfl) hxq rfl rfl (fun y _ u hu => sgL_one y u hu) ho rfl (by decide) (by omega) (by omega) fun a lv2 w10 hty ho2 Z => ?_
   replace hin := hin.ty hty (by decide)
   replace hLs := hLs.ty hty (by decide)
   replace hkb := hkb.ty hty (by decide)
   replace hmb := hmb.ty hty (by decide)
   refine sv_n 1 Z rfl fun a Z => Z.nx [3, 8, 7, 6, 9, 5, 13] rfl fun Z => sh (wp_region_lit ?_)
   refine sv_r (v := .int .i64 ((i + 1 : Nat) : Int)) Z (ei_add (Z.g 8 rfl) rfl (by rw [IntKind.wrap_i64]; omega)) fun a Z => sv_n 1 Z rfl fun a Z => Z.nx [8, 3, 7, 6, 9, 5, 13] rfl fun Z => ?_
   replace Z := (Z.mz [false] rfl).ct [8, 3, 7, 6, 9, 5, 13] rfl
   refine ⟨⟨i + 1, lv2, _, hlt, ?_, ho2, hin, Z.pick rfl⟩, ?_⟩
   ·have hts : ss.take (i + 1) = ss.take i ++ [s] := by rw [List.take_add_one, hs]; rfl
    rw [hts]
    refine ⟨by rw [List.map_append, hLs.1]; rfl, fun x hx => ?_⟩
    rcases List.mem_append.1 hx with hx | hx
    ·exact hLs.2 x hx
    ·cases List.mem_singleton.1 hx; exact ⟨hkb, hmb⟩
   ·have h8' := Z.g 8 rfl
    rw [h8, h8']
    simp only [intOf]
    omega
 ·have hall : ss.take i = ss := List.take_of_length_le (by omega)
  refine wr ?_
  refine sv_r (v := .bool false) Z (ei_lss (Z.g 8 rfl) (Z.g 7 rfl) (by rw [decide_eq_false_iff_not]; omega)) fun a Z => Z.nx [9, 3, 6, 7, 8] rfl fun Z => sh (wp_seq (cond_f (Z.g 9 rfl) (wp_exit (sh (wr (sv_n 2 Z rfl fun a Z => Z.nx [2, 9, 3, 6, 7, 8] rfl fun Z => sh (wp_ret ?_)))))))
  try simp only [Exit.inBlock, Exit.then]
  exact ret_of_ev Z.ev rfl (Z.g 2 rfl) ⟨_, rfl, Z.toBelow, LL, ho, by rw [hall] at hLs; exact hLs⟩
theorem cv_m3u8_MediaType_int (n : Int) {z : Int} (h : IntKind.i64.wrap n = z) : Cv 80 3 (.int .u64 n) (.int .i64 z) := by subst h; intro w; go_simp
theorem cv_uint_int (n : Int) {z : Int} (h : IntKind.i64.wrap n = z) : Cv 48 3 (.int .u64 n) (.int .i64 z) := by subst h; intro w; go_simp
theorem cv_uint8_int (n : Int) {z : Int} (h : IntKind.i64.wrap n = z) : Cv 5 3 (.int .u8 n) (.int .i64 z) := by subst h; intro w; go_simp
def mcs (r : Rst) (sv : Value) (kb mb : Option Nat) : Array Value := #[(.float .f64 r.tgt), (.int .u64 (r.seq : Int)), sv, (.string ⟨#[]⟩), (.bool r.iframe), (.bool r.closed), (.int .i64 (r.typ : Int)), (.int .u64 (r.disc : Int)), (.float .f64 r.start), (.bool r.precise), (.int .i64 (r.ver : Int)), (.slice (kvA kb) (kvN kb) (kvN kb)), (.slice (kvA mb) (kvN mb) (kvN mb)), (.int .i64 0)]
theorem mcs_one {r : Rst} {p : Option Addr} {n c : Nat} {kb mb : Option Nat} : ∀ u ∈ (mcs r (.slice p n c) kb mb).toList, u.oneCell' = true := by
 intro u hu
 simp only [mcs, List.mem_cons, List.not_mem_nil, or_false] at hu
 rcases hu with rfl | rfl | rfl | rfl | rfl | rfl | rfl | rfl | rfl | rfl | rfl | rfl | rfl | rfl <;> rfl
theorem Kp.trans {gs : Nat} {a b c : World} (h : Kp gs a b) (k : Kp gs b c) : Kp gs a c := fun g cs t h1 h2 h3 => k g cs t h1 h2 (h g cs t h1 h2 h3)
def Got (r : Rst) (w : World) (v : Value) : Prop := ∃ p n c kb mb L, v = .agg (mcs r (.slice p n c) kb mb) ∧ Own sgL 67 11 w 0 (.slice p n c) L ∧ SgvIs w L r.segs ∧ IKeyIs w kb r.pkey ∧ IMapIs w mb r.pmap
theorem mediaOf_r {gp gs gr0 : Nat} {r : Rst} (hn : r.segs.length ≤ 200) (hv : r.ver < 256) (ht : r.typ < 256) (w : World) (h : RsIs gp gs gr0 r w) : Calls Tryz.prog 20 #[pt gp 0] w fun e w' => ∃ v, e = .returned v ∧ Below w.heap.size w w' ∧ Got r w' v := by
 obtain ⟨lt, pk, pm, xk, xm, cap, c2, gr, ps, hw, k1, k2, _, _, k5⟩ := h
 have hlen : ps.length = r.segs.length := k5.len
 have hlim := hw.lim
 have hcap : cap ≤ 100000 := by omega
 have hp := hw.hh.1
 have hr := hw.row
 refine calls_of_ev Tryz.func20 rfl (show 1 ≤ 60 from by decide) fun a hE => ?_
 have hE : Ev 60 ((0, pt gp 0) :: []) a := hE
 have Z : Sv 60 ((0, pt gp 0) :: []) [] (fun _ => False) w a w := Sv.start hE _ _
 clear hE
 have hne : gp ≠ gr := ne_of_type hp hr (by decide)
 replace Z : Sv 60 ((0, pt gp 0) :: []) [⟨gr, (rcA ps c2), 125, false⟩, ⟨gp, ((r.pz pk pm).cells (.slice (some ⟨gr, 0, none⟩) cap c2) cap (ps.length % cap) ps.length), 88, false⟩] (fun _ => False) w a w := ((Z.addR hp (by intro q hq; cases hq)).addR hr (by intro q hq; cases List.mem_singleton.1 hq; exact hne)).pick rfl
 refine wr (sv_al Z al_impl_Media (by decide) fun g1 a w2 hg1 hbw2 hwg1 Z => Z.nx [2, 0] rfl fun Z => sh (wp_seq ?_))
 have hbS := Z.toBelow
 refine wp_region_og1 (n := 60) 56 [Asr.eq (pt gp 0), Asr.eq (pt gp 0), Asr.eq (pt gp 0), Asr.eq (.float .f64 (r.tgt)), Asr.eq (pt gp 0), Asr.eq (pt gp 0), Asr.eq (pt gp 1), Asr.eq (.int .u64 ((r.seq : Nat) : Int)), Asr.eq (pt gp 0), Asr.any (fun v w' => ∃ iv, v = iv ∧ Own ptL 125 1 w' 0 iv ps), Asr.any (fun v w' => ∃ p n c L, v = .slice p n c ∧ Own sgL 67 11 w' 0 (.slice p n c) L ∧ SgvIs w' L r.segs), Asr.eq (pt gp 0), Asr.eq (pt gp 0), Asr.eq (pt gp 3), Asr.eq (.string (⟨#[]⟩)), Asr.eq (pt gp 0), Asr.eq (pt gp 0), Asr.eq (pt gp 4), Asr.eq (.bool (r.iframe)), Asr.eq (pt gp 0), Asr.eq (pt gp 0), Asr.eq (pt gp 5), Asr.eq (.bool (r.closed)), Asr.eq (pt gp 0), Asr.eq (pt gp 0), Asr.eq (pt gp 6), Asr.eq (.int .u64 ((r.typ : Nat) : Int)), Asr.eq (.int .i64 ((r.typ : Nat) : Int)), Asr.eq (pt gp 0), Asr.eq (pt gp 0), Asr.eq (pt gp 7), Asr.eq (.int .u64 ((r.disc : Nat) : Int)), Asr.eq (pt gp 0), Asr.eq (pt gp 0), Asr.eq (pt gp 8), Asr.eq (.float .f64 (r.start)), Asr.eq (pt gp 0), Asr.eq (pt gp 0), Asr.eq (pt gp 9), Asr.eq (.bool (r.precise)), Asr.eq (pt gp 0), Asr.eq (.int .u8 ((r.ver : Nat) : Int)), Asr.eq (.int .i64 ((r.ver : Nat) : Int)), Asr.eq (pt gp 0), Asr.eq (pt gp 0), Asr.eq (pt gp 21), Asr.eq (.pointer pk), Asr.any (fun v w' => ∃ b, v = .slice (kvA b) (kvN b) (kvN b) ∧ IKeyIs w' b r.pkey), Asr.eq (pt gp 0), Asr.eq (pt gp 0), Asr.eq (pt gp 22), Asr.eq (.pointer pm), Asr.any (fun v w' => ∃ b, v = .slice (kvA b) (kvN b) (kvN b) ∧ IMapIs w' b r.pmap), Asr.eq (pt gp 0), Asr.eq (.int .u64 0), Asr.eq (.int .i64 0)] (by kernel_rfl) (by kernel_rfl) (by kernel_rfl) (by simp) (by kernel_rfl) Z.ev.size ⟨(fun i _ _ v w w' _ ho hp => by obtain ⟨iv, h1, h2⟩ := hp; exact ⟨iv, h1, h2.below (only_below0 ho)⟩), (fun i _ _ v w w' _ ho hp => by obtain ⟨p, n, c, L, h1, h2, h3⟩ := hp; exact ⟨p, n, c, L, h1, h2.below (only_below0 ho), h3.below (only_below0 ho)⟩), (fun i _ _ v w w' _ ho hp => by obtain ⟨b, h1, h2⟩ := hp; exact ⟨b, h1, h2.below (only_below0 ho)⟩), (fun i _ _ v w w' _ ho hp => by obtain ⟨b, h1, h2⟩ := hp; exact ⟨b, h1, h2.below (only_below0 ho)⟩), ⟨⟩⟩ ?_ ?_
 ·simp only [List.take_succ_cons, List.take_zero]
  refine ⟨?_, ?_, ?_, ?_, ?_, ?_, ?_, ?_, ?_, ?_, ?_, ?_, ?_, ?_, ?_, ?_, ?_, ?_, ?_, ?_, ?_, ?_, ?_, ?_, ?_, ?_, ?_, ?_, ?_, ?_, ?_, ?_, ?_, ?_, ?_, ?_, ?_, ?_, ?_, ?_, ?_, ?_, ?_, ?_, ?_, ?_, ?_, ?_, ?_, ?_, ?_, ?_, ?_, ?_, ?_, ?_, trivial⟩
  ·exact qm (Z.g 0 rfl)
  ·exact qn 0
  ·exact qf 1
  ·exact ql 2 lt_float64 Z 2
  ·exact qm (Z.g 0 rfl)
  ·exact qn 4
  ·exact qf 5
  ·exact ql 6 lt_uint64 Z 2
  ·exact qm (Z.g 0 rfl)
  ·intro a wx c
   have e_11 : a.eval (.tmp 11) = pt gp 0 := c.s 8 rfl
   have hO := Z.ogc c
   have hbx := drew_below c.only
   clear c
   exact og_call (ex_call1 cf_impl_inOrder e_11) ((inOrder_any (ps := ps) rfl hw.le hw.pos hw.c2 hcap wx (hO.at 2 rfl) (hO.at 1 rfl)).mono fun e w' ⟨v, h1, h2, h3⟩ => ⟨v, h1, h2, v, rfl, h3.base (Nat.zero_le _)⟩)
  ·intro a wx c
   obtain ⟨iv, e_12, hin⟩ : ∃ iv, (a.eval (.tmp 12)) = iv ∧ Own ptL 125 1 wx 0 iv ps := c.s 9 rfl
   have hO := Z.ogc c
   have hbx := drew_below c.only
   clear c
   exact og_call (ex_call1 cf_impl_segmentsOf e_12) ((segsOf_any (by omega) wx (segs_kp ((kp_below hbS).trans (kp_below hbx)) k5) hin).mono fun e w' ⟨v, h1, h2, L, h3, h4⟩ => ⟨v, h1, h2, by obtain ⟨A, c, h5, _⟩ := h3.shape; exact ⟨A, L.length, c, L, h5, h5 ▸ h3.base (Nat.zero_le _), h4⟩⟩)
  ·exact qm (Z.g 0 rfl)
  ·exact qn 11
  ·exact qf 12
  ·exact ql 13 lt_string Z 2
  ·exact qm (Z.g 0 rfl)
  ·exact qn 15
  ·exact qf 16
  ·exact ql 17 lt_bool Z 2
  ·exact qm (Z.g 0 rfl)
  ·exact qn 19
  ·exact qf 20
  ·exact ql 21 lt_bool Z 2
  ·exact qm (Z.g 0 rfl)
  ·exact qn 23
  ·exact qf 24
  ·exact ql 25 lt_m3u8_MediaType Z 2
  ·exact fun _ _ c => og_val (ex_cv (c.s 26 rfl) (cv_m3u8_MediaType_int _ (by rw [IntKind.wrap_i64]; omega))) rfl
  ·exact qm (Z.g 0 rfl)
  ·exact qn 28
  ·exact qf 29
  ·exact ql 30 lt_uint64 Z 2
  ·exact qm (Z.g 0 rfl)
  ·exact qn 32
  ·exact qf 33
  ·exact ql 34 lt_float64 Z 2
  ·exact qm (Z.g 0 rfl)
  ·exact qn 36
  ·exact qf 37
  ·exact ql 38 lt_bool Z 2
  ·exact qm (Z.g 0 rfl)
  ·intro a wx c
   have e_43 : a.eval (.tmp 43) = pt gp 0 := c.s 40 rfl
   have hO := Z.ogc c
   have hbx := drew_below c.only
   clear c
   have hcl : Calls Tryz.prog _ _ wx (fun e w' => e = .returned (.int .u8 ((r.ver : Nat) : Int)) ∧ Below wx.heap.size wx w') := (ver_any wx (hO.at 2 rfl))
   refine og_call (ex_call1 cf_m3u8_MediaPlaylist_Version e_43) (Calls.mono hcl ?_)
   rintro e w' ⟨rfl, hb⟩
   exact ⟨_, rfl, hb, rfl⟩
  ·exact fun _ _ c => og_val (ex_cv (c.s 41 rfl) (cv_uint8_int _ (by rw [IntKind.wrap_i64]; omega))) rfl
  ·exact qm (Z.g 0 rfl)
  ·exact qn 43
  ·exact qf 44
  ·exact ql 45 lt_p_m3u8_Key Z 2
  ·intro a wx c
   have e_49 : a.eval (.tmp 49) = .pointer pk := c.s 46 rfl
   have hO := Z.ogc c
   have hbx := drew_below c.only
   clear c
   exact og_call (ex_call1 cf_impl_keyOf e_49) ((ikeyOf_any wx (k1.kp ((kp_below hbS).trans (kp_below hbx)) (.inr (.inl rfl)))).mono fun e w' ⟨v, h1, h2, b, h3, h4⟩ => ⟨v, h1, h2, b, h3, h4⟩)
  ·exact qm (Z.g 0 rfl)
  ·exact qn 48
  ·exact qf 49
  ·exact ql 50 lt_p_m3u8_Map Z 2
  ·intro a wx c
   have e_54 : a.eval (.tmp 54) = .pointer pm := c.s 51 rfl
   have hO := Z.ogc c
   have hbx := drew_below c.only
   clear c
   exact og_call (ex_call1 cf_impl_mapOf e_54) ((imapOf_any wx (k2.kp ((kp_below hbS).trans (kp_below hbx)) (.inr (.inr rfl)))).mono fun e w' ⟨v, h1, h2, b, h3, h4⟩ => ⟨v, h1, h2, b, h3, h4⟩)
  ·exact qm (Z.g 0 rfl)
  ·intro a wx c
   have e_56 : a.eval (.tmp 56) = pt gp 0 := c.s 53 rfl
   have hO := Z.ogc c
   have hbx := drew_below c.only
   clear c
   have hcl : Calls Tryz.prog _ _ wx (fun e w' => e = .returned (.int .u64 0) ∧ Below wx.heap.size wx w') := (win_any wx (hO.at 2 rfl))
   refine og_call (ex_call1 cf_m3u8_MediaPlaylist_WinSize e_56) (Calls.mono hcl ?_)
   rintro e w' ⟨rfl, hb⟩
   exact ⟨_, rfl, hb, rfl⟩
  ·exact fun _ _ c => og_val (ex_cv (c.s 54 rfl) (cv_uint_int _ (by rw [IntKind.wrap_i64]; omega))) rfl
 ·intro a w3 c hbw3
  obtain ⟨p, n, c0, L, e_13, hsv, hsL⟩ : ∃ p n c0 L, (a.eval (.tmp 13)) = .slice p n c0 ∧ Own sgL 67 11 w3 0 (.slice p n c0) L ∧ SgvIs w3 L r.segs := c.s 10 rfl
  obtain ⟨kb, e_50, hkb⟩ : ∃ b, (a.eval (.tmp 50)) = .slice (kvA b) (kvN b) (kvN b) ∧ IKeyIs w3 b r.pkey := c.s 47 rfl
  obtain ⟨mb, e_55, hmb⟩ : ∃ b, (a.eval (.tmp 55)) = .slice (kvA b) (kvN b) (kvN b) ∧ IMapIs w3 b r.pmap := c.s 52 rfl
  replace Z : Sv 60 ((58, .int .i64 0) :: (55, .slice (kvA mb) (kvN mb) (kvN mb)) :: (50, .slice (kvA kb) (kvN kb) (kvN kb)) :: (45, .int .i64 ((r.ver : Nat) : Int)) :: (42, .bool (r.precise)) :: (38, .float .f64 (r.start)) :: (34, .int .u64 ((r.disc : Nat) : Int)) :: (30, .int .i64 ((r.typ : Nat) : Int)) :: (25, .bool (r.closed)) :: (21, .bool (r.iframe)) :: (17, .string (⟨#[]⟩)) :: (13, .slice p n c0) :: (10, .int .u64 ((r.seq : Nat) : Int)) :: (6, .float .f64 (r.tgt)) :: (0, pt gp 0) :: (2, pt g1 0) :: []) [⟨g1, #[.float .f64 0, .int .u64 0, .slice none 0 0, .string ⟨#[]⟩, .bool false, .bool false, .int .i64 0, .int .u64 0, .float .f64 0, .bool false, .int .i64 0, .slice none 0 0, .slice none 0 0, .int .i64 0], 40, true⟩, ⟨gr, (rcA ps c2), 125, false⟩, ⟨gp, ((r.pz pk pm).cells (.slice (some ⟨gr, 0, none⟩) cap c2) cap (ps.length % cap) ps.length), 88, false⟩] (fun _ => False) w a w3 := (((((((((((((((((Z.ogh c).know (c.o (Z.g 2 rfl))).know (c.o (Z.g 0 rfl))).know (c.s 3 rfl)).know (c.s 7 rfl)).know e_13).know (c.s 14 rfl)).know (c.s 18 rfl)).know (c.s 22 rfl)).know (c.s 27 rfl)).know (c.s 31 rfl)).know (c.s 35 rfl)).know (c.s 39 rfl)).know (c.s 42 rfl)).know e_50).know e_55).know (c.s 55 rfl))
  clear c
  simp only [List.drop_succ_cons, List.drop_zero]
  refine sv_r (v := .agg (mcs r (.slice p n c0) kb mb)) Z (by unfold mcs; simp only [execOp, List.map_toArray, List.map_cons, List.map_nil, (Z.g 6 rfl), (Z.g 10 rfl), (Z.g 13 rfl), (Z.g 17 rfl), (Z.g 21 rfl), (Z.g 25 rfl), (Z.g 30 rfl), (Z.g 34 rfl), (Z.g 38 rfl), (Z.g 42 rfl), (Z.g 45 rfl), (Z.g 50 rfl), (Z.g 55 rfl), (Z.g 58 rfl)]; go_simp) fun a Z => sv_sb (i := 0) Z ag_impl_Media (Z.g 2 rfl) (Z.g 59 rfl) rfl rfl rfl mcs_one rfl fun w4 hty Z => ?_
  replace hsv := hsv.ty hty (by decide)
  replace hsL := hsL.ty hty (by decide)
  replace hkb := hkb.ty hty (by decide)
  replace hmb := hmb.ty hty (by decide)
  refine Z.nx [2] rfl fun Z => sh (wp_ret ?_)
  try simp only [Exit.inBlock, Exit.then]
  exact ret_cell Z.ev rfl ag_impl_Media (Z.g 2 rfl) (Z.at 0 rfl) rfl ⟨_, rfl, Z.toBelow, p, n, c0, kb, mb, L, rfl, hsv, hsL, hkb, hmb⟩
end Go.Proofs.YtflppablgdegcaaGreatDoor
