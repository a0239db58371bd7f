/- Joined: Rx, Ry. -/
import Derived.Test.YtflppablgdegcaaGreatDoorR22
import Derived.Test.YtflppablgdegcaaGreatDoorR19
import Derived.Test.YtflppablgdegcaaGreatDoorR10
namespace Go.Proofs.YtflppablgdegcaaGreatDoor
open Go.RowKit
def All2 {α β : Type} (R : α → β → Prop) : List α → List β → Prop
 | [], [] => True
 | a :: l, b :: m => R a b ∧ All2 R l m
 | _, _ => False
theorem All2.mono {α β : Type} {R S : α → β → Prop} (h : ∀ a b, R a b → S a b) : ∀ {l : List α} {m : List β}, All2 R l m → All2 S l m
 | [], [], _ => trivial
 | _ :: _, _ :: _, ⟨h1, h2⟩ => ⟨h _ _ h1, All2.mono h h2⟩
 | [], _ :: _, h => h.elim
 | _ :: _, [], h => h.elim
theorem All2.len {α β : Type} {R : α → β → Prop} : ∀ {l : List α} {m : List β}, All2 R l m → l.length = m.length
 | [], [], _ => rfl
 | _ :: _, _ :: _, ⟨_, h2⟩ => by simp only [List.length_cons, All2.len h2]
 | [], _ :: _, h => h.elim
 | _ :: _, [], h => h.elim
theorem All2.snoc {α β : Type} {R : α → β → Prop} {a : α} {b : β} (hr : R a b) : ∀ {l : List α} {m : List β}, All2 R l m → All2 R (l ++ [a]) (m ++ [b])
 | [], [], _ => ⟨hr, trivial⟩
 | _ :: _, _ :: _, ⟨h1, h2⟩ => ⟨h1, All2.snoc hr h2⟩
 | [], _ :: _, h => h.elim
 | _ :: _, [], h => h.elim
theorem All2.last {α β : Type} {R : α → β → Prop} : ∀ {l : List α} {m : List β}, All2 R l m → ∀ a, l.getLast? = some a → ∃ b, m.getLast? = some b ∧ R a b
 | [], [], _, a, h => by cases h
 | [x], [y], ⟨h1, _⟩, a, h => by cases h; exact ⟨y, rfl, h1⟩
 | _ :: x :: l, _ :: y :: m, ⟨_, h2⟩, a, h => by
  rw [List.getLast?_cons_cons] at h
  obtain ⟨b, h3, h4⟩ := All2.last (l := x :: l) (m := y :: m) h2 a h
  exact ⟨b, by rw [List.getLast?_cons_cons]; exact h3, h4⟩
 | [], _ :: _, h, _, _ => h.elim
 | _ :: _, [], h, _, _ => h.elim
 | [_], _ :: _ :: _, h, _, _ => h.2.elim
 | _ :: _ :: _, [_], h, _, _ => h.2.elim
theorem All2.get {α β : Type} {R : α → β → Prop} : ∀ {l : List α} {m : List β}, All2 R l m → ∀ (i : Nat) (a : α), l[i]? = some a → ∃ b, m[i]? = some b ∧ R a b
 | [], [], _, _, _, h => by cases h
 | _ :: _, y :: _, ⟨h1, _⟩, 0, a, h => by cases h; exact ⟨y, rfl, h1⟩
 | _ :: _, _ :: _, ⟨_, h2⟩, i + 1, a, h => All2.get h2 i a h
 | [], _ :: _, h, _, _, _ => h.elim
 | _ :: _, [], h, _, _, _ => h.elim
structure Kd where
 m : ByteArray
 u : ByteArray
 v : ByteArray
 f : ByteArray
 n : ByteArray
structure Ud where
 u : ByteArray
 lim : Nat
 off : Nat
def Kd.cells (k : Kd) : Array Value := #[.string k.m, .string k.u, .string k.v, .string k.f, .string k.n]
def Ud.cells (k : Ud) : Array Value := #[.string k.u, .int .i64 ((k.lim : Nat) : Int), .int .i64 ((k.off : Nat) : Int)]
structure Sg where
 seq : Nat
 title : ByteArray
 uri : ByteArray
 dur : Nat
 limit : Nat
 offset : Nat
 key : Option Kd
 map : Option Ud
 disc : Bool
 date : ByteArray
structure Rst where
 tgt : Nat
 seq : Nat
 iframe : Bool
 closed : Bool
 typ : Nat
 disc : Nat
 start : Nat
 precise : Bool
 ver : Nat
 pkey : Option Kd
 pmap : Option Ud
 m3 : Bool
 inf : Bool
 range : Bool
 dis : Bool
 dat : Bool
 ky : Bool
 mp : Bool
 dateV : ByteArray
 limit : Nat
 offset : Nat
 dur : Nat
 title : ByteArray
 xkey : Option Kd
 xmap : Option Ud
 segs : List Sg
def Rst.pz (r : Rst) (k m : Option Addr) : Pz := ⟨r.tgt, r.seq, r.iframe, r.closed, r.typ, r.disc, r.start, r.precise, r.ver, k, m⟩
def Rst.dz (r : Rst) (lt : Nat) (k m : Option Addr) : Dz := ⟨lt, r.m3, r.inf, r.range, r.dis, r.dat, r.ky, r.mp, r.dateV, r.limit, r.offset, r.dur, r.title, k, m⟩
def AtIs {α : Type} (f : α → Array Value) (t : TypeId) (gs : Nat) (w : World) : Option Addr → Option α → Prop
 | none, none => True
 | some a, some k => ∃ g, gs < g ∧ a = ⟨g, 0, none⟩ ∧ w.heap[g]? = some (.cells (f k) t (0, 0))
 | _, _ => False
abbrev KeyIs := AtIs Kd.cells 132
abbrev MapIs := AtIs Ud.cells 133
def SegIs (gs : Nat) (w : World) (g : Nat) (s : Sg) : Prop := ∃ k m, gs < g ∧ w.heap[g]? = some (.cells (Sz.cells ⟨s.seq, s.title, s.uri, s.dur, s.limit, s.offset, k, m, s.disc, s.date⟩) 127 (0, 0)) ∧ KeyIs gs w k s.key ∧ MapIs gs w m s.map
def Kp (gs : Nat) (w w' : World) : Prop := ∀ g cs t, gs < g → (t = 127 ∨ t = 132 ∨ t = 133) → w.heap[g]? = some (.cells cs t (0, 0)) → w'.heap[g]? = some (.cells cs t (0, 0))
theorem AtIs.kp {α : Type} {f : α → Array Value} {t : TypeId} {gs : Nat} {w w' : World} {a : Option Addr} {k : Option α} (h : AtIs f t gs w a k) (hk : Kp gs w w') (ht : t = 127 ∨ t = 132 ∨ t = 133) : AtIs f t gs w' a k := by
 cases a with
 | none => cases k with
  | none => trivial
  | some k => exact h
 | some a => cases k with
  | none => exact h
  | some k =>
   obtain ⟨g, h1, h2, h3⟩ := h
   exact ⟨g, h1, h2, hk g _ _ h1 ht h3⟩
theorem SegIs.kp {gs : Nat} {w w' : World} {g : Nat} {s : Sg} (h : SegIs gs w g s) (hk : Kp gs w w') : SegIs gs w' g s := by
 obtain ⟨k, m, h0, h1, h2, h3⟩ := h
 exact ⟨k, m, h0, hk g _ _ h0 (.inl rfl) h1, h2.kp hk (.inr (.inl rfl)), h3.kp hk (.inr (.inr rfl))⟩
theorem segs_kp {gs : Nat} {w w' : World} (hk : Kp gs w w') {ps : List Nat} {ss : List Sg} (h : All2 (SegIs gs w) ps ss) : All2 (SegIs gs w') ps ss := by
 exact h.mono fun _ _ h => h.kp hk
structure Rw (gp gs gr0 : Nat) (p : Pz) (d : Dz) (cap c2 gr : Nat) (ps : List Nat) (w : World) : Prop where
 hh : Hh gp gs (p.cells (.slice (some ⟨gr, 0, none⟩) cap c2) cap (ps.length % cap) ps.length) d.cells w
 row : w.heap[gr]? = some (.cells (rcA ps c2) 125 (0, 0))
 hgr : gr = gr0 ∨ gs ≤ gr
 le : ps.length ≤ cap
 pos : 0 < cap
 c2 : cap ≤ c2
 lim : cap ≤ 20 + (ps.length + ps.length)
def RsIs (gp gs gr0 : Nat) (r : Rst) (w : World) : Prop := ∃ lt pk pm xk xm cap c2 gr ps, Rw gp gs gr0 (r.pz pk pm) (r.dz lt xk xm) cap c2 gr ps w ∧ KeyIs gs w pk r.pkey ∧ MapIs gs w pm r.pmap ∧ KeyIs gs w xk r.xkey ∧ MapIs gs w xm r.xmap ∧ All2 (SegIs gs w) ps r.segs
theorem kp_only {gs : Nat} {w w' : World} {X : Nat → Prop} (h : Only X w w') (hX : ∀ g cs t, gs < g → (t = 127 ∨ t = 132 ∨ t = 133) → w.heap[g]? = some (.cells cs t (0, 0)) → ¬ X g) : Kp gs w w' := fun g cs t hg ht hc => (h.block g (Array.getElem?_eq_some_iff.1 hc).1 (hX g cs t hg ht hc)).trans hc
theorem kp_gr {gp gs gr : Nat} {w w' : World} {cp cs cr : Array Value} (h : Only (GR gp gs gr) w w') (h1 : w.heap[gp]? = some (.cells cp 88 (0, 0))) (h2 : w.heap[gs]? = some (.cells cs 121 (0, 0))) (h3 : w.heap[gr]? = some (.cells cr 125 (0, 0))) : Kp gs w w' := kp_only h fun g c t _ ht hc hx => by
 rcases hx with q | q | q
 ·exact ne_of_type hc h1 (by rcases ht with rfl | rfl | rfl <;> decide) q
 ·exact ne_of_type hc h2 (by rcases ht with rfl | rfl | rfl <;> decide) q
 ·exact ne_of_type hc h3 (by rcases ht with rfl | rfl | rfl <;> decide) q
theorem only_xx {gp gs gr gr0 : Nat} {w w' : World} (h : Only (GR gp gs gr) w w') (hg : gr = gr0 ∨ gs ≤ gr) : Only (XX gp gr0 gs) w w' := h.mono fun q _ hq => by
 rcases hq with rfl | rfl | rfl
 ·exact .inl rfl
 ·exact .inr (.inr (Nat.le_refl _))
 ·rcases hg with rfl | hg
  ·exact .inr (.inl rfl)
  ·exact .inr (.inr hg)
theorem only_gs {gp gs gr : Nat} {w w' : World} (h : Only (GS gp gs) w w') : Only (GR gp gs gr) w w' := h.mono fun q _ hq => by
 rcases hq with rfl | rfl
 ·exact .inl rfl
 ·exact .inr (.inl rfl)
theorem RsIs.keep {gp gs gr0 b : Nat} {r : Rst} {w w' : World} (h : RsIs gp gs gr0 r w) (ho : Only (fun q => q = b) w w') (hb : b < gs) (hp : gp ≠ b) (hr : gr0 ≠ b) : RsIs gp gs gr0 r w' := by
 obtain ⟨lt, pk, pm, xk, xm, cap, c2, gr, ps, hw, k1, k2, k3, k4, k5⟩ := h
 have hk : Kp gs w w' := kp_only ho fun g cs t hg _ _ e => by have e : g = b := e; omega
 have hgb : ∀ (g : Nat) (o : Obj), w.heap[g]? = some o → g ≠ b → w'.heap[g]? = some o := fun g o hg hne => (ho.block g (Array.getElem?_eq_some_iff.1 hg).1 hne).trans hg
 refine ⟨lt, pk, pm, xk, xm, cap, c2, gr, ps, ⟨⟨hgb _ _ hw.hh.1 hp, hgb _ _ hw.hh.2 (by omega)⟩, hgb _ _ hw.row ?_, hw.hgr, hw.le, hw.pos, hw.c2, hw.lim⟩, k1.kp hk (.inr (.inl rfl)), k2.kp hk (.inr (.inr rfl)), k3.kp hk (.inr (.inl rfl)), k4.kp hk (.inr (.inr rfl)), segs_kp hk k5⟩
 rcases hw.hgr with rfl | h
 ·exact hr
 ·omega
def StepOk (B : Nat) (G : Ge) (ln : ByteArray) (r r' : Rst) : Prop := ∀ (gp gs gr0 : Nat) (st : Bool) (w : World), Env B G w → B ≤ gp → B ≤ gs → B ≤ gr0 → RsIs gp gs gr0 r w → Calls Tryz.prog 47 #[pt gp 0, pt gs 0, .string ln, .bool st] w fun e w2 => e = .returned .nilIface ∧ Only (XX gp gr0 gs) w w2 ∧ RsIs gp gs gr0 r' w2
theorem step_of_lx {gp gs gr0 : Nat} {r r' : Rst} {w : World} {args : Array Value} {lt lt' : Nat} {pk pm xk xm : Option Addr} {cap c2 gr : Nat} {ps : List Nat} (hw : Rw gp gs gr0 (r.pz pk pm) (r.dz lt xk xm) cap c2 gr ps w) (k1 : KeyIs gs w pk r'.pkey) (k2 : MapIs gs w pm r'.pmap) (k3 : KeyIs gs w xk r'.xkey) (k4 : MapIs gs w xm r'.xmap) (k5 : All2 (SegIs gs w) ps r'.segs)
  (hc : Calls Tryz.prog 47 args w (Lx gp gs w ((r'.pz pk pm).cells (.slice (some ⟨gr, 0, none⟩) cap c2) cap (ps.length % cap) ps.length) (r'.dz lt' xk xm).cells)) : Calls Tryz.prog 47 args w fun e w2 => e = .returned .nilIface ∧ Only (XX gp gr0 gs) w w2 ∧ RsIs gp gs gr0 r' w2 := by
 refine hc.mono ?_
 rintro e w2 ⟨h1, h2, h3⟩
 have ho : Only (GR gp gs gr) w w2 := only_gs h2
 have hk : Kp gs w w2 := kp_gr ho hw.hh.1 hw.hh.2 hw.row
 refine ⟨h1, only_xx ho hw.hgr, lt', pk, pm, xk, xm, cap, c2, gr, ps, ⟨h3, (h2.block gr (Array.getElem?_eq_some_iff.1 hw.row).1 ?_).trans hw.row, hw.hgr, hw.le, hw.pos, hw.c2, hw.lim⟩, k1.kp hk (.inr (.inl rfl)), k2.kp hk (.inr (.inr rfl)), k3.kp hk (.inr (.inl rfl)), k4.kp hk (.inr (.inr rfl)), segs_kp hk k5⟩
 rintro (q | q)
 ·exact ne_of_type hw.row hw.hh.1 (by decide) q
 ·exact ne_of_type hw.row hw.hh.2 (by decide) q
theorem st_m3u {B : Nat} {G : Ge} {s L : ByteArray} {r : Rst} (hsz : s.size ≤ 1000000) (hasc : Asc s) (hLs : trimA s = L) (hL : L.data.toList = [35, 69, 88, 84, 77, 51, 85]) : StepOk B G s r ({ r with m3 := true }) := by
 intro gp gs gr0 st w hG hBp hBs hBr ⟨lt, pk, pm, xk, xm, cap, c2, gr, ps, hw, k1, k2, k3, k4, k5⟩
 exact step_of_lx (r := r) (r' := { r with m3 := true }) hw k1 k2 k3 k4 k5 (da_m3u w hG hsz hasc hLs hw.hh hBp hBs hL)
theorem st_end {B : Nat} {G : Ge} {s L : ByteArray} {r : Rst} (hsz : s.size ≤ 1000000) (hasc : Asc s) (hLs : trimA s = L) (hL : L.data.toList = [35, 69, 88, 84, 45, 88, 45, 69, 78, 68, 76, 73, 83, 84]) : StepOk B G s r ({ r with closed := true }) := by
 intro gp gs gr0 st w hG hBp hBs hBr ⟨lt, pk, pm, xk, xm, cap, c2, gr, ps, hw, k1, k2, k3, k4, k5⟩
 exact step_of_lx (r := r) (r' := { r with closed := true }) hw k1 k2 k3 k4 k5 (da_end w hG hsz hasc hLs hw.hh hBp hBs hL)
theorem st_ver {B : Nat} {G : Ge} {s L : ByteArray} {r : Rst} (hsz : s.size ≤ 1000000) (hasc : Asc s) (hLs : trimA s = L) {rest : List UInt8} (hL : L.data.toList = [35, 69, 88, 84, 45, 88, 45, 86, 69, 82, 83, 73, 79, 78, 58] ++ rest) {nw : Nat} (hn : 15 ≤ L.size) (hz : ∀ w, Env B G w → Calls Tryz.prog 68 #[.string (L.extract 15 L.size), .int .u8 ((r.ver : Nat) : Int)] w fun e w' => e = .returned (.tuple #[.int .u8 ((nw : Nat) : Int), .nilIface]) ∧ Below w.heap.size w w') : StepOk B G s r ({ r with ver := nw }) := by
 intro gp gs gr0 st w hG hBp hBs hBr ⟨lt, pk, pm, xk, xm, cap, c2, gr, ps, hw, k1, k2, k3, k4, k5⟩
 exact step_of_lx (r := r) (r' := { r with ver := nw }) hw k1 k2 k3 k4 k5 (da_ver w hG hsz hasc hLs hw.hh hBp hBs hL hn hz)
theorem st_tgt {B : Nat} {G : Ge} {s L : ByteArray} {r : Rst} (hsz : s.size ≤ 1000000) (hasc : Asc s) (hLs : trimA s = L) {rest : List UInt8} (hL : L.data.toList = [35, 69, 88, 84, 45, 88, 45, 84, 65, 82, 71, 69, 84, 68, 85, 82, 65, 84, 73, 79, 78, 58] ++ rest) {nw : Nat} (hn : 22 ≤ L.size) (hz : ∀ w, Env B G w → Calls Tryz.prog 69 #[.string (L.extract 22 L.size), .float .f64 (r.tgt)] w fun e w' => e = .returned (.tuple #[.float .f64 (nw), .nilIface]) ∧ Below w.heap.size w w') : StepOk B G s r ({ r with tgt := nw }) := by
 intro gp gs gr0 st w hG hBp hBs hBr ⟨lt, pk, pm, xk, xm, cap, c2, gr, ps, hw, k1, k2, k3, k4, k5⟩
 exact step_of_lx (r := r) (r' := { r with tgt := nw }) hw k1 k2 k3 k4 k5 (da_tgt w hG hsz hasc hLs hw.hh hBp hBs hL hn hz)
theorem st_seq {B : Nat} {G : Ge} {s L : ByteArray} {r : Rst} (hsz : s.size ≤ 1000000) (hasc : Asc s) (hLs : trimA s = L) {rest : List UInt8} (hL : L.data.toList = [35, 69, 88, 84, 45, 88, 45, 77, 69, 68, 73, 65, 45, 83, 69, 81, 85, 69, 78, 67, 69, 58] ++ rest) {nw : Nat} (hn : 22 ≤ L.size) (hz : ∀ w, Env B G w → Calls Tryz.prog 70 #[.string (L.extract 22 L.size), .int .u64 ((r.seq : Nat) : Int)] w fun e w' => e = .returned (.tuple #[.int .u64 ((nw : Nat) : Int), .nilIface]) ∧ Below w.heap.size w w') : StepOk B G s r ({ r with seq := nw }) := by
 intro gp gs gr0 st w hG hBp hBs hBr ⟨lt, pk, pm, xk, xm, cap, c2, gr, ps, hw, k1, k2, k3, k4, k5⟩
 exact step_of_lx (r := r) (r' := { r with seq := nw }) hw k1 k2 k3 k4 k5 (da_seq w hG hsz hasc hLs hw.hh hBp hBs hL hn hz)
theorem st_dsq {B : Nat} {G : Ge} {s L : ByteArray} {r : Rst} (hsz : s.size ≤ 1000000) (hasc : Asc s) (hLs : trimA s = L) {rest : List UInt8} (hL : L.data.toList = [35, 69, 88, 84, 45, 88, 45, 68, 73, 83, 67, 79, 78, 84, 73, 78, 85, 73, 84, 89, 45, 83, 69, 81, 85, 69, 78, 67, 69, 58] ++ rest) {nw : Nat} (hn : 30 ≤ L.size) (hz : ∀ w, Env B G w → Calls Tryz.prog 70 #[.string (L.extract 30 L.size), .int .u64 ((r.disc : Nat) : Int)] w fun e w' => e = .returned (.tuple #[.int .u64 ((nw : Nat) : Int), .nilIface]) ∧ Below w.heap.size w w') : StepOk B G s r ({ r with disc := nw }) := by
 intro gp gs gr0 st w hG hBp hBs hBr ⟨lt, pk, pm, xk, xm, cap, c2, gr, ps, hw, k1, k2, k3, k4, k5⟩
 exact step_of_lx (r := r) (r' := { r with disc := nw }) hw k1 k2 k3 k4 k5 (da_dsq w hG hsz hasc hLs hw.hh hBp hBs hL hn hz)
theorem st_ev {B : Nat} {G : Ge} {s L : ByteArray} {r : Rst} (hsz : s.size ≤ 1000000) (hasc : Asc s) (hLs : trimA s = L) (hL : L.data.toList = [35, 69, 88, 84, 45, 88, 45, 80, 76, 65, 89, 76, 73, 83, 84, 45, 84, 89, 80, 69, 58, 69, 86, 69, 78, 84]) (hz : ∀ w, Calls Tryz.prog 71 #[.string ⟨#[69, 86, 69, 78, 84]⟩] w fun e w' => e = .returned (.tuple #[.string ⟨#[69, 86, 69, 78, 84]⟩, .nilIface]) ∧ Below w.heap.size w w') : StepOk B G s r ({ r with typ := 1 }) := by
 intro gp gs gr0 st w hG hBp hBs hBr ⟨lt, pk, pm, xk, xm, cap, c2, gr, ps, hw, k1, k2, k3, k4, k5⟩
 exact step_of_lx (r := r) (r' := { r with typ := 1 }) hw k1 k2 k3 k4 k5 (da_ev w hG hsz hasc hLs hw.hh hBp hBs hL hz)
theorem st_vod {B : Nat} {G : Ge} {s L : ByteArray} {r : Rst} (hsz : s.size ≤ 1000000) (hasc : Asc s) (hLs : trimA s = L) (hL : L.data.toList = [35, 69, 88, 84, 45, 88, 45, 80, 76, 65, 89, 76, 73, 83, 84, 45, 84, 89, 80, 69, 58, 86, 79, 68]) (hz : ∀ w, Calls Tryz.prog 71 #[.string ⟨#[86, 79, 68]⟩] w fun e w' => e = .returned (.tuple #[.string ⟨#[86, 79, 68]⟩, .nilIface]) ∧ Below w.heap.size w w') : StepOk B G s r ({ r with typ := 2 }) := by
 intro gp gs gr0 st w hG hBp hBs hBr ⟨lt, pk, pm, xk, xm, cap, c2, gr, ps, hw, k1, k2, k3, k4, k5⟩
 exact step_of_lx (r := r) (r' := { r with typ := 2 }) hw k1 k2 k3 k4 k5 (da_vod w hG hsz hasc hLs hw.hh hBp hBs hL hz)
theorem st_date {B : Nat} {G : Ge} {s L : ByteArray} {r : Rst} (hsz : s.size ≤ 1000000) (hasc : Asc s) (hLs : trimA s = L) {rest : List UInt8} (hL : L.data.toList = [35, 69, 88, 84, 45, 88, 45, 80, 82, 79, 71, 82, 65, 77, 45, 68, 65, 84, 69, 45, 84, 73, 77, 69, 58] ++ rest) (hdate : r.dat = false) (hn : 25 ≤ L.size) : StepOk B G s r ({ r with dat := true, dateV := L.extract 25 L.size }) := by
 intro gp gs gr0 st w hG hBp hBs hBr ⟨lt, pk, pm, xk, xm, cap, c2, gr, ps, hw, k1, k2, k3, k4, k5⟩
 exact step_of_lx (r := r) (r' := { r with dat := true, dateV := L.extract 25 L.size }) hw k1 k2 k3 k4 k5 (da_date w hG hsz hasc hLs hw.hh hBp hBs hL hdate hn)
theorem st_disc {B : Nat} {G : Ge} {s L : ByteArray} {r : Rst} (hsz : s.size ≤ 1000000) (hasc : Asc s) (hLs : trimA s = L) (hL : L.data.toList = [35, 69, 88, 84, 45, 88, 45, 68, 73, 83, 67, 79, 78, 84, 73, 78, 85, 73, 84, 89]) (hdisc : r.dis = false) : StepOk B G s r ({ r with dis := true }) := by
 intro gp gs gr0 st w hG hBp hBs hBr ⟨lt, pk, pm, xk, xm, cap, c2, gr, ps, hw, k1, k2, k3, k4, k5⟩
 exact step_of_lx (r := r) (r' := { r with dis := true }) hw k1 k2 k3 k4 k5 (da_disc w hG hsz hasc hLs hw.hh hBp hBs hL hdisc)
theorem st_ifr {B : Nat} {G : Ge} {s L : ByteArray} {r : Rst} (hsz : s.size ≤ 1000000) (hasc : Asc s) (hLs : trimA s = L) (hL : L.data.toList = [35, 69, 88, 84, 45, 88, 45, 73, 45, 70, 82, 65, 77, 69, 83, 45, 79, 78, 76, 89]) (hdisc : r.dis = false) : StepOk B G s r ({ r with iframe := true }) := by
 intro gp gs gr0 st w hG hBp hBs hBr ⟨lt, pk, pm, xk, xm, cap, c2, gr, ps, hw, k1, k2, k3, k4, k5⟩
 exact step_of_lx (r := r) (r' := { r with iframe := true }) hw k1 k2 k3 k4 k5 (da_ifr w hG hsz hasc hLs hw.hh hBp hBs hL hdisc)
theorem st_range {B : Nat} {G : Ge} {s L : ByteArray} {r : Rst} (hsz : s.size ≤ 1000000) (hasc : Asc s) (hLs : trimA s = L) {rest : List UInt8} (hL : L.data.toList = [35, 69, 88, 84, 45, 88, 45, 66, 89, 84, 69, 82, 65, 78, 71, 69, 58] ++ rest) {t1 t2 : ByteArray} {n1 n2 : Nat} (hn : 17 ≤ L.size) (hrange : r.range = false) (hcut : ∀ w, Calls Tryz.prog 74 #[.string (L.extract 17 L.size), .string ⟨#[64]⟩] w fun e w' => e = .returned (.tuple #[.string t1, .string t2, .bool true]) ∧ Below w.heap.size w w') (ht1 : ∀ w, Calls Tryz.prog 75 #[.string t1, .int .i64 10, .int .i64 64] w fun e w' => e = .returned (.tuple #[.int .i64 ((n1 : Nat) : Int), .nilIface]) ∧ Below w.heap.size w w') (ht2 : ∀ w, Calls Tryz.prog 75 #[.string t2, .int .i64 10, .int .i64 64] w fun e w' => e = .returned (.tuple #[.int .i64 ((n2 : Nat) : Int), .nilIface]) ∧ Below w.heap.size w w') : StepOk B G s r ({ r with range := true, limit := n1, offset := n2 }) := by
 intro gp gs gr0 st w hG hBp hBs hBr ⟨lt, pk, pm, xk, xm, cap, c2, gr, ps, hw, k1, k2, k3, k4, k5⟩
 exact step_of_lx (r := r) (r' := { r with range := true, limit := n1, offset := n2 }) hw k1 k2 k3 k4 k5 (da_range w hG hsz hasc hLs hw.hh hBp hBs hL hn hrange hcut ht1 ht2)
theorem st_inf {B : Nat} {G : Ge} {s L : ByteArray} {r : Rst} (hsz : s.size ≤ 1000000) (hasc : Asc s) (hLs : trimA s = L) {rest : List UInt8} (hL : L.data.toList = [35, 69, 88, 84, 73, 78, 70, 58] ++ rest) (hinf : r.inf = false) {z ix : Nat} (hix : zix L 44 = (ix : Int)) (h8 : 8 < ix) (hil : ix < L.size) (hLz : L.size ≤ 1000000) (hz : ∀ w, Env B G w → Calls Tryz.prog 60 #[.string (L.extract 8 ix), .int .i64 64] w fun e w' => e = .returned (.tuple #[.float .f64 z, .nilIface]) ∧ Below w.heap.size w w') : StepOk B G s r ({ r with inf := true, dur := z, title := L.extract (ix + 1) L.size }) := by
 intro gp gs gr0 st w hG hBp hBs hBr ⟨lt, pk, pm, xk, xm, cap, c2, gr, ps, hw, k1, k2, k3, k4, k5⟩
 exact step_of_lx (r := r) (r' := { r with inf := true, dur := z, title := L.extract (ix + 1) L.size }) hw k1 k2 k3 k4 k5 (da_inf w hG hsz hasc hLs hw.hh hBp hBs hL hinf hix h8 hil hLz hz)
set_option maxRecDepth 100000
set_option maxHeartbeats 8000000
theorem du_nil {gp gs cap tail cnt : Nat} {sv : Value} {L : ByteArray} {st : Bool} {p : Pz} {d : Dz} {w0 w : World} {a : Act} {Q : Exit → Act → World → Prop} (hinf : d.inf = false) (hrange : d.range = false) (hdis : d.disc = false) (hdat : d.date = false) (hky : d.key = false) (hmp : d.map = false) (Z : Sv 1040 (dl0 gp gs L st) [⟨gs, d.cells, 121, true⟩, ⟨gp, p.cells sv cap tail cnt, 88, true⟩] (GS gp gs) w0 a w) (hK : ∀ a', Sv 1040 (dl0 gp gs L st) [⟨gs, d.cells, 121, true⟩, ⟨gp, p.cells sv cap tail cnt, 88, true⟩] (GS gp gs) w0 a' w → Q .normal a' w) : (ar18).wp Tryz.prog Q a w := by
 refine wp_seq (wr (sv_n 3 Z rfl fun a Z => ?_))
 refine sv_r (v := .bool false) Z (ex_ld (Z.g 93 rfl) lt_bool (by have h := cell_of_heap (cs := d.cells) (v := .bool d.inf) (Z.at 0 rfl) (show d.cells[3]? = some (.bool d.inf) from rfl); rw [hinf] at h; exact h)) fun a Z => Z.nx [94, 2, 0, 1, 3, 8, 9] rfl fun Z => sh (cond_f (Z.g 94 rfl) (wp_skip (sh (wp_seq (wr (sv_n 3 Z rfl fun a Z => ?_))))))
 refine sv_r (v := .bool false) Z (ex_ld (Z.g 154 rfl) lt_bool (by have h := cell_of_heap (cs := d.cells) (v := .bool d.range) (Z.at 0 rfl) (show d.cells[5]? = some (.bool d.range) from rfl); rw [hrange] at h; exact h)) fun a Z => Z.nx [155, 94, 2, 0, 1, 3, 8, 9] rfl fun Z => sh (cond_f (Z.g 155 rfl) (wp_skip (sh (wp_seq (wr (sv_n 3 Z rfl fun a Z => sv_l (v := .bool false) 0 Z rfl (Z.g 177 rfl) lt_bool rfl fun a Z => Z.nx [178, 155, 94, 2, 0, 1, 3, 8, 9] rfl fun Z => sh ?_))))))
 refine cond_f (Z.g 178 rfl) (wp_skip (sh (wp_seq (wr (sv_n 3 Z rfl fun a Z => ?_)))))
 refine sv_r (v := .bool false) Z (ex_ld (Z.g 196 rfl) lt_bool (by have h := cell_of_heap (cs := d.cells) (v := .bool d.disc) (Z.at 0 rfl) (show d.cells[6]? = some (.bool d.disc) from rfl); rw [hdis] at h; exact h)) fun a Z => Z.nx [197, 178, 155, 94, 2, 0, 1, 3, 8, 9] rfl fun Z => sh (cond_f (Z.g 197 rfl) (wp_skip (sh (wp_seq (wr (sv_n 3 Z rfl fun a Z => ?_))))))
 refine sv_r (v := .bool false) Z (ex_ld (Z.g 211 rfl) lt_bool (by have h := cell_of_heap (cs := d.cells) (v := .bool d.date) (Z.at 0 rfl) (show d.cells[7]? = some (.bool d.date) from rfl); rw [hdat] at h; exact h)) fun a Z => sv_n 5 Z rfl fun a Z => Z.nx [217, 197, 178, 155, 94, 2, 0, 1, 3, 8, 9] rfl fun Z => sh (cond_f (Z.g 217 rfl) (wp_skip (sh (wp_seq (wr (sv_n 3 Z rfl fun a Z => ?_))))))
 refine sv_r (v := .bool false) Z (ex_ld (Z.g 235 rfl) lt_bool (by have h := cell_of_heap (cs := d.cells) (v := .bool d.key) (Z.at 0 rfl) (show d.cells[8]? = some (.bool d.key) from rfl); rw [hky] at h; exact h)) fun a Z => Z.nx [236, 217, 197, 178, 155, 94, 2, 0, 1, 3, 8, 9] rfl fun Z => sh (cond_f (Z.g 236 rfl) (wp_skip (sh (wr (sv_n 3 Z rfl fun a Z => ?_)))))
 refine sv_r (v := .bool false) Z (ex_ld (Z.g 301 rfl) lt_bool (by have h := cell_of_heap (cs := d.cells) (v := .bool d.map) (Z.at 0 rfl) (show d.cells[9]? = some (.bool d.map) from rfl); rw [hmp] at h; exact h)) fun a Z => Z.nx [302, 236, 217, 197, 178, 155, 94, 2, 0, 1, 3, 8, 9] rfl fun Z => sh (cond_f (Z.g 302 rfl) (wp_skip ?_))
 exact hK _ (Z.pick rfl)
theorem st_none {B : Nat} {G : Ge} {s L : ByteArray} {r : Rst} (hsz : s.size ≤ 1000000) (hasc : Asc s) (hLs : trimA s = L) (hL : L.data.toList = []) (hinf : r.inf = false) (hrange : r.range = false) (hdis : r.dis = false) (hdat : r.dat = false) (hky : r.ky = false) (hmp : r.mp = false) : StepOk B G s r r := by
 intro gp gs gr0 st w hG hBp hBs hBr ⟨lt, pk, pm, xk, xm, cap, c2, gr, ps, hw, k1, k2, k3, k4, k5⟩
 refine step_of_lx (r := r) (r' := r) (lt' := lt) hw k1 k2 k3 k4 k5 (dl_in w hG hsz hasc hLs (GS gp gs) fun a w1 hb1 Z => ?_)
 replace Z := hw.hh.sv hb1 (.inl rfl) (.inr rfl) Z
 refine ch3 Z (cell_of_heap (v := .bool r.inf) (Z.at 0 rfl) rfl) (hpw hL (by decide)) fun a Z => hit18 Z (hpw hL (by decide)) fun a Z => du_nil (d := r.dz lt xk xm) hinf hrange hdis hdat hky hmp Z fun a Z => sh ?_
 exact dl_end (Z.pick rfl) ⟨rfl, Z.only, Z.at 1 rfl, Z.at 0 rfl⟩
theorem st_key {B : Nat} {G : Ge} {s L : ByteArray} {r : Rst} (hsz : s.size ≤ 1000000) (hasc : Asc s) (hLs : trimA s = L) {rest : List UInt8} (hL : L.data.toList = [35, 69, 88, 84, 45, 88, 45, 75, 69, 89, 58] ++ rest) {G2 : List Q4.Tr} (hn : 11 ≤ L.size) (hdec : ∀ w, Calls Tryz.prog 72 #[.string (L.extract 11 L.size)] w (Q4.MapPost G2 w)) (hnd : (G2.map Q4.Tr.name).Nodup) (hnm : ∀ g ∈ G2, g.name = ⟨#[77, 69, 84, 72, 79, 68]⟩ ∨ g.name = ⟨#[85, 82, 73]⟩ ∨ g.name = ⟨#[73, 86]⟩ ∨ g.name = ⟨#[75, 69, 89, 70, 79, 82, 77, 65, 84]⟩ ∨ g.name = ⟨#[75, 69, 89, 70, 79, 82, 77, 65, 84, 86, 69, 82, 83, 73, 79, 78, 83]⟩) (hv0 : ∀ g ∈ G2, g.value.size ≠ 0) : StepOk B G s r { r with xkey := some ⟨Q4.vOf G2 [77, 69, 84, 72, 79, 68], Q4.vOf G2 [85, 82, 73], Q4.vOf G2 [73, 86], Q4.vOf G2 [75, 69, 89, 70, 79, 82, 77, 65, 84], Q4.vOf G2 [75, 69, 89, 70, 79, 82, 77, 65, 84, 86, 69, 82, 83, 73, 79, 78, 83]⟩, ky := true } := by
 intro gp gs gr0 st w hG hBp hBs hBr ⟨lt, pk, pm, xk, xm, cap, c2, gr, ps, hw, k1, k2, k3, k4, k5⟩
 refine (db_key w hG hsz hasc hLs hw.hh hBp hBs hL hn hdec hnd hnm hv0).mono ?_
 rintro e w2 ⟨h1, h2, kx, h3, h4, h5⟩
 have ho : Only (GR gp gs gr) w w2 := only_gs h2
 have hk : Kp gs w w2 := kp_gr ho hw.hh.1 hw.hh.2 hw.row
 have hgl : gs < kx := Nat.lt_of_lt_of_le (Array.getElem?_eq_some_iff.1 hw.hh.2).1 h3
 have hrow : w2.heap[gr]? = some (.cells (rcA ps c2) 125 (0, 0)) := (h2.block gr (Array.getElem?_eq_some_iff.1 hw.row).1 (by
  rintro (q | q)
  ·exact ne_of_type hw.row hw.hh.1 (by decide) q
  ·exact ne_of_type hw.row hw.hh.2 (by decide) q)).trans hw.row
 exact ⟨h1, only_xx ho hw.hgr, 2, pk, pm, some ⟨kx, 0, none⟩, xm, cap, c2, gr, ps, ⟨h4, hrow, hw.hgr, hw.le, hw.pos, hw.c2, hw.lim⟩, k1.kp hk (.inr (.inl rfl)), k2.kp hk (.inr (.inr rfl)), ⟨kx, hgl, rfl, h5⟩, k4.kp hk (.inr (.inr rfl)), segs_kp hk k5⟩
theorem st_map {B : Nat} {G : Ge} {s L : ByteArray} {r : Rst} (hsz : s.size ≤ 1000000) (hasc : Asc s) (hLs : trimA s = L) {rest : List UInt8} (hL : L.data.toList = [35, 69, 88, 84, 45, 88, 45, 77, 65, 80, 58] ++ rest) {G2 : List Q4.Tr} (hn : 11 ≤ L.size) (hdec : ∀ w, Calls Tryz.prog 72 #[.string (L.extract 11 L.size)] w (Q4.MapPost G2 w)) (hnd : (G2.map Q4.Tr.name).Nodup) (hnm : ∀ g ∈ G2, g.name = ⟨#[85, 82, 73]⟩ ∨ g.name = ⟨#[66, 89, 84, 69, 82, 65, 78, 71, 69]⟩) (hv0 : ∀ g ∈ G2, g.value.size ≠ 0) {t1 r1 r2 : ByteArray} {n1 n2 : Nat} (hbr : ∀ g ∈ G2, g.name = ⟨#[66, 89, 84, 69, 82, 65, 78, 71, 69]⟩ → g.value = t1) (hz1 : ∀ w, Calls Tryz.prog 93 #[.string t1] w fun e w' => e = .returned (.tuple #[.int .i64 ((n1 : Nat) : Int), .string r1, .nilIface]) ∧ Below w.heap.size w w') (h0 : 0 < r1.size) (h64 : (r1[0]'h0).toNat = 64) (hs1 : r1.size ≤ 1000000000) (hz2 : ∀ w, Calls Tryz.prog 93 #[.string (r1.extract 1 r1.size)] w fun e w' => e = .returned (.tuple #[.int .i64 ((n2 : Nat) : Int), .string r2, .nilIface]) ∧ Below w.heap.size w w') : StepOk B G s r { r with xmap := some ⟨Q4.vOf G2 [85, 82, 73], if has (Q4.vOf G2 [66, 89, 84, 69, 82, 65, 78, 71, 69]) = true then n1 else 0, if has (Q4.vOf G2 [66, 89, 84, 69, 82, 65, 78, 71, 69]) = true then n2 else 0⟩, mp := true } := by
 intro gp gs gr0 st w hG hBp hBs hBr ⟨lt, pk, pm, xk, xm, cap, c2, gr, ps, hw, k1, k2, k3, k4, k5⟩
 refine (db_map w hG hsz hasc hLs hw.hh hBp hBs hL hn hdec hnd hnm hv0 hbr hz1 h0 h64 hs1 hz2).mono ?_
 rintro e w2 ⟨h1, h2, kx, h3, h4, h5⟩
 have ho : Only (GR gp gs gr) w w2 := only_gs h2
 have hk : Kp gs w w2 := kp_gr ho hw.hh.1 hw.hh.2 hw.row
 have hgl : gs < kx := Nat.lt_of_lt_of_le (Array.getElem?_eq_some_iff.1 hw.hh.2).1 h3
 have hrow : w2.heap[gr]? = some (.cells (rcA ps c2) 125 (0, 0)) := (h2.block gr (Array.getElem?_eq_some_iff.1 hw.row).1 (by
  rintro (q | q)
  ·exact ne_of_type hw.row hw.hh.1 (by decide) q
  ·exact ne_of_type hw.row hw.hh.2 (by decide) q)).trans hw.row
 exact ⟨h1, only_xx ho hw.hgr, 2, pk, pm, xk, some ⟨kx, 0, none⟩, cap, c2, gr, ps, ⟨h4, hrow, hw.hgr, hw.le, hw.pos, hw.c2, hw.lim⟩, k1.kp hk (.inr (.inl rfl)), k2.kp hk (.inr (.inr rfl)), k3.kp hk (.inr (.inl rfl)), ⟨kx, hgl, rfl, h5⟩, segs_kp hk k5⟩
theorem st_start {B : Nat} {G : Ge} {s L : ByteArray} {r : Rst} (hsz : s.size ≤ 1000000) (hasc : Asc s) (hLs : trimA s = L) {rest : List UInt8} (hL : L.data.toList = [35, 69, 88, 84, 45, 88, 45, 83, 84, 65, 82, 84, 58] ++ rest) {G2 : List Q4.Tr} (hn : 13 ≤ L.size) (hdec : ∀ w, Calls Tryz.prog 72 #[.string (L.extract 13 L.size)] w (Q4.MapPost G2 w)) (hnd : (G2.map Q4.Tr.name).Nodup) (hnm : ∀ g ∈ G2, g.name = ⟨#[84, 73, 77, 69, 45, 79, 70, 70, 83, 69, 84]⟩ ∨ g.name = ⟨#[80, 82, 69, 67, 73, 83, 69]⟩) (hv0 : ∀ g ∈ G2, g.value.size ≠ 0) {t1 : ByteArray} {z : Nat} (hto : ∀ g ∈ G2, g.name = ⟨#[84, 73, 77, 69, 45, 79, 70, 70, 83, 69, 84]⟩ → g.value = t1) (hz : ∀ w, Env B G w → Calls Tryz.prog 60 #[.string t1, .int .i64 64] w fun e w' => e = .returned (.tuple #[.float .f64 z, .nilIface]) ∧ Below w.heap.size w w') (hpr : ∀ g ∈ G2, g.name = ⟨#[80, 82, 69, 67, 73, 83, 69]⟩ → g.value = ⟨#[89, 69, 83]⟩) : StepOk B G s r ({ r with start := if has (Q4.vOf G2 [84, 73, 77, 69, 45, 79, 70, 70, 83, 69, 84]) = true then z else r.start, precise := if has (Q4.vOf G2 [80, 82, 69, 67, 73, 83, 69]) = true then true else r.precise }) := by
 intro gp gs gr0 st w hG hBp hBs hBr ⟨lt, pk, pm, xk, xm, cap, c2, gr, ps, hw, k1, k2, k3, k4, k5⟩
 exact step_of_lx (r := r) (r' := { r with start := if has (Q4.vOf G2 [84, 73, 77, 69, 45, 79, 70, 70, 83, 69, 84]) = true then z else r.start, precise := if has (Q4.vOf G2 [80, 82, 69, 67, 73, 83, 69]) = true then true else r.precise }) hw k1 k2 k3 k4 k5 (db_start w hG hsz hasc hLs hw.hh hBp hBs hL hn hdec hnd hnm hv0 hto hz hpr)
theorem du_range {gp gs gr gz gr0 cap c2 n : Nat} {L : ByteArray} {st : Bool} {p : Pz} {d : Dz} {z : Sz} {Rc : Array Value} {w0 w : World} {a : Act} {Q : Exit → Act → World → Prop} (h0 : 0 < n) (hc : n ≤ cap) (hcap : cap ≤ 100000) (hl1 : Rc[n - 1]? = some (pt gz 0)) (Z : Sv 1040 (dl0 gp gs L st) [⟨gz, z.cells, 127, true⟩, ⟨gr, Rc, 125, true⟩, ⟨gp, p.cells (.slice (some ⟨gr, 0, none⟩) cap c2) cap (n % cap) n, 88, true⟩, ⟨gs, d.cells, 121, true⟩] (GR gp gs gr0) w0 a w) (hK : ∀ a' w', Sv 1040 (dl0 gp gs L st) [⟨gz, ({ z with limit := if d.range = true then d.limit else z.limit, offset := if d.range = true then d.offset else z.offset } : Sz).cells, 127, true⟩, ⟨gr, Rc, 125, true⟩, ⟨gp, ({ p with ver := if d.range = true then max p.ver 4 else p.ver } : Pz).cells (.slice (some ⟨gr, 0, none⟩) cap c2) cap (n % cap) n, 88, true⟩, ⟨gs, ({ d with range := false } : Dz).cells, 121, true⟩] (GR gp gs gr0) w0 a' w' → (du34).wp Tryz.prog Q a' w') : (du29).wp Tryz.prog Q a w := by
 have hd : ∀ b, d.range = b → b = false → ({ d with range := false } : Dz) = d := fun b h1 h2 => by rw [h2] at h1; rw [← h1]
 cases hf : d.range with
 | true =>
  simp only [hf, if_true] at hK
  exact du_range_t h0 hc hcap hl1 hf Z hK
 | false =>
  rw [hd _ hf rfl] at hK
  simp only [hf, Bool.false_eq_true, if_false] at hK
  exact du_range_f h0 hc hcap hl1 hf Z hK
theorem du_disc {gp gs gr gz gr0 cap c2 n : Nat} {L : ByteArray} {st : Bool} {p : Pz} {d : Dz} {z : Sz} {Rc : Array Value} {w0 w : World} {a : Act} {Q : Exit → Act → World → Prop} (h0 : 0 < n) (hc : n ≤ cap) (hcap : cap ≤ 100000) (hl1 : Rc[n - 1]? = some (pt gz 0)) (Z : Sv 1040 (dl0 gp gs L st) [⟨gz, z.cells, 127, true⟩, ⟨gr, Rc, 125, true⟩, ⟨gp, p.cells (.slice (some ⟨gr, 0, none⟩) cap c2) cap (n % cap) n, 88, true⟩, ⟨gs, d.cells, 121, true⟩] (GR gp gs gr0) w0 a w) (hK : ∀ a' w', Sv 1040 (dl0 gp gs L st) [⟨gz, ({ z with disc := if d.disc = true then true else z.disc } : Sz).cells, 127, true⟩, ⟨gr, Rc, 125, true⟩, ⟨gp, p.cells (.slice (some ⟨gr, 0, none⟩) cap c2) cap (n % cap) n, 88, true⟩, ⟨gs, ({ d with disc := false } : Dz).cells, 121, true⟩] (GR gp gs gr0) w0 a' w' → (du44).wp Tryz.prog Q a' w') : (du39).wp Tryz.prog Q a w := by
 have hd : ∀ b, d.disc = b → b = false → ({ d with disc := false } : Dz) = d := fun b h1 h2 => by rw [h2] at h1; rw [← h1]
 cases hf : d.disc with
 | true =>
  simp only [hf, if_true] at hK
  exact du_disc_t h0 hc hcap hl1 hf Z hK
 | false =>
  rw [hd _ hf rfl] at hK
  simp only [hf, Bool.false_eq_true, if_false] at hK
  exact du_disc_f h0 hc hcap hl1 hf Z hK
theorem du_date {gp gs gr gz gr0 cap c2 n : Nat} {L : ByteArray} {st : Bool} {p : Pz} {d : Dz} {z : Sz} {Rc : Array Value} {w0 w : World} {a : Act} {Q : Exit → Act → World → Prop} (h0 : 0 < n) (hc : n ≤ cap) (hcap : cap ≤ 100000) (hl1 : Rc[n - 1]? = some (pt gz 0)) (Z : Sv 1040 (dl0 gp gs L st) [⟨gz, z.cells, 127, true⟩, ⟨gr, Rc, 125, true⟩, ⟨gp, p.cells (.slice (some ⟨gr, 0, none⟩) cap c2) cap (n % cap) n, 88, true⟩, ⟨gs, d.cells, 121, true⟩] (GR gp gs gr0) w0 a w) (hK : ∀ a' w', Sv 1040 (dl0 gp gs L st) [⟨gz, ({ z with date := if d.date = true then d.dateV else z.date } : Sz).cells, 127, true⟩, ⟨gr, Rc, 125, true⟩, ⟨gp, p.cells (.slice (some ⟨gr, 0, none⟩) cap c2) cap (n % cap) n, 88, true⟩, ⟨gs, ({ d with date := false } : Dz).cells, 121, true⟩] (GR gp gs gr0) w0 a' w' → (du49).wp Tryz.prog Q a' w') : (du44).wp Tryz.prog Q a w := by
 have hd : ∀ b, d.date = b → b = false → ({ d with date := false } : Dz) = d := fun b h1 h2 => by rw [h2] at h1; rw [← h1]
 cases hf : d.date with
 | true =>
  simp only [hf, if_true] at hK
  exact du_date_t h0 hc hcap hl1 hf Z hK
 | false =>
  rw [hd _ hf rfl] at hK
  simp only [hf, Bool.false_eq_true, if_false] at hK
  exact du_date_f h0 hc hcap hl1 hf Z hK
def Boxed {α : Type} (f : α → Array Value) (t : TypeId) (w0 : World) (b : Bool) (old : Option Addr) (k : Option α) (ka : Option Addr) (kb : List Bk) : Prop := (b = false ∧ ka = old ∧ kb = []) ∨ (b = true ∧ ∃ gk k', k = some k' ∧ w0.heap.size ≤ gk ∧ ka = some ⟨gk, 0, none⟩ ∧ kb = [⟨gk, f k', t, true⟩])
theorem AtIs.some_inv {α : Type} {f : α → Array Value} {t : TypeId} {gs : Nat} {w : World} {a : Option Addr} {k : Option α} (h : AtIs f t gs w a k) (hs : k.isSome = true) : ∃ g k', k = some k' ∧ a = some ⟨g, 0, none⟩ ∧ gs < g ∧ w.heap[g]? = some (.cells (f k') t (0, 0)) := by
 cases k with
 | none => cases hs
 | some k' =>
  cases a with
  | none => exact h.elim
  | some a => obtain ⟨g, h1, rfl, h2⟩ := h; exact ⟨g, k', rfl, rfl, h1, h2⟩
theorem du_key {gp gs gr gz gr0 cap c2 n : Nat} {L : ByteArray} {st : Bool} {p : Pz} {d : Dz} {z : Sz} {Rc : Array Value} {w0 w : World} {a : Act} {Q : Exit → Act → World → Prop} (h0 : 0 < n) (hc : n ≤ cap) (hcap : cap ≤ 100000) (hl1 : Rc[n - 1]? = some (pt gz 0)) {k : Option Kd} {gs0 : Nat} (hks : d.key = true → k.isSome = true) (hx : KeyIs gs0 w d.xkey k) (Z : Sv 1040 (dl0 gp gs L st) [⟨gz, z.cells, 127, true⟩, ⟨gr, Rc, 125, true⟩, ⟨gp, p.cells (.slice (some ⟨gr, 0, none⟩) cap c2) cap (n % cap) n, 88, true⟩, ⟨gs, d.cells, 121, true⟩] (GR gp gs gr0) w0 a w) (hK : ∀ a' w' ka kv kb, Boxed Kd.cells 132 w0 d.key z.key k ka kb → kv = (if d.key = true ∧ p.key.isNone = true then d.xkey else p.key) → Sv 1040 (dl0 gp gs L st) (⟨gz, ({ z with key := ka } : Sz).cells, 127, true⟩ :: ⟨gr, Rc, 125, true⟩ :: ⟨gp, ({ p with key := kv } : Pz).cells (.slice (some ⟨gr, 0, none⟩) cap c2) cap (n % cap) n, 88, true⟩ :: ⟨gs, ({ d with key := false } : Dz).cells, 121, true⟩ :: kb) (GR gp gs gr0) w0 a' w' → (du54).wp Tryz.prog Q a' w') : (du49).wp Tryz.prog Q a w := by
 cases hf : d.key with
 | true =>
  obtain ⟨xk, k', hk1, hk2, hk3, hk4⟩ := hx.some_inv (hks hf)
  refine du_key_t h0 hc hcap hl1 hf hk2 hk4 Z fun a' w' gk kv hg hkv Z' => ?_
  exact hK a' w' _ _ [⟨gk, _, 132, true⟩] (.inr ⟨hf, gk, k', hk1, hg, rfl, rfl⟩) (by rw [hkv]; simp only [hf, true_and]) Z'
 | false =>
  refine du_key_f h0 hc hcap hl1 hf Z fun a' w' Z' => ?_
  have hd : ({ d with key := false } : Dz) = d := by rw [← hf]
  refine hK a' w' z.key p.key [] (.inl ⟨hf, rfl, rfl⟩) (by simp only [hf, Bool.false_eq_true, false_and, if_false]) ?_
  rw [hd]
  exact Z'
theorem du_map {gp gs gr gz gr0 cap c2 n : Nat} {L : ByteArray} {st : Bool} {p : Pz} {d : Dz} {z : Sz} {Rc : Array Value} {w0 w : World} {a : Act} {Q : Exit → Act → World → Prop} (h0 : 0 < n) (hc : n ≤ cap) (hcap : cap ≤ 100000) (hl1 : Rc[n - 1]? = some (pt gz 0)) {ex : List Bk} {k : Option Ud} {gs0 : Nat} (hks : d.map = true → k.isSome = true) (hx : MapIs gs0 w d.xmap k) (hex : ∀ g k', d.xmap = some ⟨g, 0, none⟩ → k = some k' → ∀ b ∈ ex, b.g ≠ g) (Z : Sv 1040 (dl0 gp gs L st) (⟨gz, z.cells, 127, true⟩ :: ⟨gr, Rc, 125, true⟩ :: ⟨gp, p.cells (.slice (some ⟨gr, 0, none⟩) cap c2) cap (n % cap) n, 88, true⟩ :: ⟨gs, d.cells, 121, true⟩ :: ex) (GR gp gs gr0) w0 a w) (hK : ∀ a' w' ka kv kb, Boxed Ud.cells 133 w0 d.map z.map k ka kb → kv = (if d.map = true ∧ p.map.isNone = true then d.xmap else p.map) → Sv 1040 (dl0 gp gs L st) (⟨gz, ({ z with map := ka } : Sz).cells, 127, true⟩ :: ⟨gr, Rc, 125, true⟩ :: ⟨gp, ({ p with map := kv } : Pz).cells (.slice (some ⟨gr, 0, none⟩) cap c2) cap (n % cap) n, 88, true⟩ :: ⟨gs, ({ d with map := false } : Dz).cells, 121, true⟩ :: kb ++ ex) (GR gp gs gr0) w0 a' w' → Q .normal a' w') : (du54).wp Tryz.prog Q a w := by
 cases hf : d.map with
 | true =>
  obtain ⟨xk, k', hk1, hk2, hk3, hk4⟩ := hx.some_inv (hks hf)
  refine du_map_t h0 hc hcap hl1 hf hk2 hk4 (hex _ _ hk2 hk1) Z fun a' w' gk kv hg hkv Z' => ?_
  exact hK a' w' _ _ [⟨gk, _, 133, true⟩] (.inr ⟨hf, gk, k', hk1, hg, rfl, rfl⟩) (by rw [hkv]; simp only [hf, true_and]) Z'
 | false =>
  refine du_map_f h0 hc hcap hl1 hf Z fun a' w' Z' => ?_
  have hd : ({ d with map := false } : Dz) = d := by rw [← hf]
  refine hK a' w' z.map p.map [] (.inl ⟨hf, rfl, rfl⟩) (by simp only [hf, Bool.false_eq_true, false_and, if_false]) ?_
  rw [hd]
  exact Z'
def Rst.put (r : Rst) (uri : ByteArray) : Rst := { r with ver := if r.range = true then max r.ver 4 else r.ver, pkey := if r.ky = true ∧ r.pkey.isNone = true then r.xkey else r.pkey, pmap := if r.mp = true ∧ r.pmap.isNone = true then r.xmap else r.pmap, inf := false, range := false, dis := false, dat := false, ky := false, mp := false, segs := r.segs ++ [⟨r.seq + r.segs.length, r.title, uri, r.dur, if r.range = true then r.limit else 0, if r.range = true then r.offset else 0, if r.ky = true then r.xkey else none, if r.mp = true then r.xmap else none, if r.dis = true then true else false, if r.dat = true then r.dateV else ⟨#[]⟩⟩] }
theorem AtIs.isNone {α : Type} {f : α → Array Value} {t : TypeId} {gs : Nat} {w : World} {a : Option Addr} {k : Option α} (h : AtIs f t gs w a k) : a.isNone = k.isNone := by
 cases a <;> cases k <;> first | rfl | exact h.elim
theorem Boxed.is {α : Type} {f : α → Array Value} {t : TypeId} {w0 w : World} {b : Bool} {k : Option α} {ka : Option Addr} {kb : List Bk} {gs : Nat} (h : Boxed f t w0 b none k ka kb) (hgs : gs < w0.heap.size) (hp : ∀ x ∈ kb, w.heap[x.g]? = some (.cells x.cs x.t (0, 0))) : AtIs f t gs w ka (if b = true then k else none) := by
 rcases h with ⟨rfl, rfl, rfl⟩ | ⟨rfl, gk, k', rfl, hg, rfl, rfl⟩
 ·trivial
 ·exact ⟨gk, Nat.lt_of_lt_of_le hgs hg, rfl, hp _ (List.mem_singleton.2 rfl)⟩
theorem AtIs.pick {α : Type} {f : α → Array Value} {t : TypeId} {gs : Nat} {w : World} {a x kv : Option Addr} {k xk : Option α} {b : Bool} (h : AtIs f t gs w a k) (h2 : AtIs f t gs w x xk) (e : kv = (if b = true ∧ a.isNone = true then x else a)) : AtIs f t gs w kv (if b = true ∧ k.isNone = true then xk else k) := by
 rw [e, h.isNone]
 split
 ·exact h2
 ·exact h
theorem st_uri {B : Nat} {G : Ge} {s L : ByteArray} {r : Rst} (hsz : s.size ≤ 1000000) (hasc : Asc s) (hLs : trimA s = L) (hq : Lib.hasPrefix L.data.toList [35] = false) (hinf : r.inf = true) (hky : r.ky = true → r.xkey.isSome = true) (hmp : r.mp = true → r.xmap.isSome = true) (hseq : r.seq ≤ 4294967296) (hfl : (FloatKind.f64.format.order r.tgt r.dur == some .lt) = false) (hn : r.segs.length ≤ 200) (hls : ∀ g, r.segs.getLast? = some g → g.seq = r.seq + (r.segs.length - 1)) : StepOk B G s r (r.put L) := by
 intro gp gs gr0 st w hG hBp hBs hBr ⟨lt, pk, pm, xk, xm, cap, c2, gr, ps, hw, k1, k2, k3, k4, k5⟩
 have hlen : ps.length = r.segs.length := k5.len
 have hgslt : gs < w.heap.size := (Array.getElem?_eq_some_iff.1 hw.hh.2).1
 have hrlt : gr < w.heap.size := (Array.getElem?_eq_some_iff.1 hw.row).1
 have hBrr : B ≤ gr := by
  rcases hw.hgr with rfl | h
  ·exact hBr
  ·exact Nat.le_trans hBs h
 have hlim := hw.lim
 have hl : LastOk ps ((r.pz pk pm).seq + (ps.length - 1)) w := by
  intro gl hgl
  obtain ⟨g, h1, k, m, h2, h3, _⟩ := k5.last gl hgl
  refine ⟨_, h3, ?_⟩
  show some (Value.int .u64 ((g.seq : Nat) : Int)) = _
  rw [hls g h1, ← hlen]
  rfl
 refine dl_in w hG hsz hasc hLs (GR gp gs gr) fun a w1 hb1 Z => ?_
 replace Z := hw.hh.sv hb1 (.inl rfl) (.inr (.inl rfl)) Z
 have hr1 : w1.heap[gr]? = some (.cells (rcA ps c2) 125 (0, 0)) := (hb1.block gr hrlt).trans hw.row
 have tail : ∀ a' w' gr' cap' c2' gz, w.heap.size ≤ gz → (gr' = gr ∨ w.heap.size ≤ gr') → ps.length < cap' → cap' ≤ c2' → cap' ≤ 20 + (ps.length + 1 + (ps.length + 1)) → Sv 1040 (dl0 gp gs L st) [⟨gz, (Sz.new ((r.pz pk pm).seq + ps.length) (r.dz lt xk xm).title L (r.dz lt xk xm).dur).cells, 127, true⟩, ⟨gr', rcA (ps ++ [gz]) c2', 125, true⟩, ⟨gp, (r.pz pk pm).cells (.slice (some ⟨gr', 0, none⟩) cap' c2') cap' ((ps.length + 1) % cap') (ps.length + 1), 88, true⟩, ⟨gs, ({ (r.dz lt xk xm) with inf := false } : Dz).cells, 121, true⟩] (GR gp gs gr) w a' w' →
   (du29).wp Tryz.prog (Exit.inBlock 0 (Exit.then (cdTail.wp Tryz.prog (bodyPost Tryz.prog Tryz.f47 (fun e w2 => e = .returned .nilIface ∧ Only (XX gp gr0 gs) w w2 ∧ RsIs gp gs gr0 (r.put L) w2))) (bodyPost Tryz.prog Tryz.f47 (fun e w2 => e = .returned .nilIface ∧ Only (XX gp gr0 gs) w w2 ∧ RsIs gp gs gr0 (r.put L) w2)))) a' w' := by
  intro a' w' gr' cap' c2' gz hgz hgr' hcl hcc hcu Z
  have hcap : cap' ≤ 100000 := by omega
  have h0 : 0 < ps.length + 1 := Nat.succ_pos _
  have hl1 : (rcA (ps ++ [gz]) c2')[ps.length + 1 - 1]? = some (pt gz 0) := rcA_get (by simp)
  refine du_range h0 hcl hcap hl1 Z fun a' w' Z => du_scte h0 hcl hcap hl1 Z fun a' w' Z => du_disc h0 hcl hcap hl1 Z fun a' w' Z => du_date h0 hcl hcap hl1 Z fun a' w' Z => ?_
  have hkW : ∀ w3, Only (GR gp gs gr) w w3 → Kp gs w w3 := fun w3 ho => kp_gr ho hw.hh.1 hw.hh.2 hw.row
  refine du_key h0 hcl hcap hl1 hky (k3.kp (hkW _ Z.only) (.inr (.inl rfl))) Z fun a' w' ka kv kb hbx hkv Z => ?_
  refine du_map h0 hcl hcap hl1 hmp (k4.kp (hkW _ Z.only) (.inr (.inr rfl))) ?_ Z fun a' w' ma mv mb hbm hmv Z => ?_
  ·intro g k' hg1 hg2 b hb e
   rcases hbx with ⟨_, _, rfl⟩ | ⟨_, gk, k2', _, hgk, _, rfl⟩
   ·cases hb
   ·cases List.mem_singleton.1 hb
    have hm := k4
    rw [hg2] at hm
    have hg1 : xm = some ⟨g, 0, none⟩ := hg1
    rw [hg1] at hm
    obtain ⟨g2, h1, h2, h3⟩ := hm
    have h2 : g = g2 := by injection h2
    have h4 := (Array.getElem?_eq_some_iff.1 h3).1
    have e : gk = g := e
    omega
  have hkp := hkW _ Z.only
  have hpk := fun x hx => Z.hp x (List.mem_cons_of_mem _ (List.mem_cons_of_mem _ (List.mem_cons_of_mem _ (List.mem_cons_of_mem _ (List.mem_append_left kb hx)))))
  have hpm := fun x hx => Z.hp x (List.mem_cons_of_mem _ (List.mem_cons_of_mem _ (List.mem_cons_of_mem _ (List.mem_cons_of_mem _ (List.mem_append_right mb hx)))))
  have q1 := hbx.is hgslt hpm
  have q2 := hbm.is hgslt hpk
  have q3 := (k1.kp hkp (.inr (.inl rfl))).pick (k3.kp hkp (.inr (.inl rfl))) (b := r.ky) hkv
  have q4 := (k2.kp hkp (.inr (.inr rfl))).pick (k4.kp hkp (.inr (.inr rfl))) (b := r.mp) hmv
  have hps : (ps ++ [gz]).length = ps.length + 1 := by simp
  have hseg : SegIs gs w' gz ⟨r.seq + r.segs.length, r.title, L, r.dur, if r.range = true then r.limit else 0, if r.range = true then r.offset else 0, if r.ky = true then r.xkey else none, if r.mp = true then r.xmap else none, if r.dis = true then true else false, if r.dat = true then r.dateV else ⟨#[]⟩⟩ := by
   refine ⟨ka, ma, Nat.lt_of_lt_of_le hgslt hgz, ?_, q1, q2⟩
   rw [← hlen]
   exact Z.at 0 rfl
  refine sh ?_
  refine dl_end (Z.pick rfl) ⟨rfl, only_xx Z.only hw.hgr, lt, kv, mv, xk, xm, cap', c2', gr', ps ++ [gz], ⟨⟨?_, ?_⟩, Z.at 1 rfl, ?_, by omega, by omega, hcc, by omega⟩, q3, q4, k3.kp hkp (.inr (.inl rfl)), k4.kp hkp (.inr (.inr rfl)), All2.snoc hseg (segs_kp hkp k5)⟩
  ·rw [hps]
   exact Z.at 2 rfl
  ·exact Z.at 3 rfl
  ·rcases hgr' with h | h
   ·rw [h]
    exact hw.hgr
   ·exact .inr (Nat.le_trans (Nat.le_of_lt hgslt) h)
 refine ch3t Z (cell_of_heap (v := .bool r.inf) (Z.at 0 rfl) rfl) hinf fun a Z => hit18 Z hq fun a Z => ?_
 show (du19).wp _ _ _ _
 have hle := hw.le
 by_cases hroom : ps.length < cap
 ·rw [Nat.mod_eq_of_lt hroom] at Z
  exact duA_room hroom (by omega) hw.c2 hinf hseq hfl hG hBp hBs hBrr hw.hh.1 hw.hh.2 hw.row hl Z hr1 fun a' w' gr' cap' c2' gz h1 h2 h3 h4 h5 h6 => tail a' w' gr' cap' c2' gz h1 h2 h3 h4 (by omega) h6
 ·have hc : cap = ps.length := by omega
  have hpos := hw.pos
  have hcc2 := hw.c2
  subst hc
  rw [Nat.mod_self] at Z
  exact duA_full hpos (by omega) hcc2 hinf hseq hfl hG hBp hBs hBrr hw.hh.1 hw.hh.2 hw.row hl Z hr1 fun a' w' gr' cap' c2' gz h1 h2 h3 h4 h5 h6 => tail a' w' gr' cap' c2' gz h1 h2 h3 h4 (by omega) h6
end Go.Proofs.YtflppablgdegcaaGreatDoor
