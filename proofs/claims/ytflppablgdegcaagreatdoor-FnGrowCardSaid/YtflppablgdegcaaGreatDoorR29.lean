/- Joined: Ps, Pw, Eo, Grow, GrowCard. -/
import Derived.Test.YtflppablgdegcaaGreatDoorR28
import Derived.Test.YtflppablgdegcaaGreatDoorRows
import Derived.Test.YtflppablgdegcaaGreatDoorR07
import Derived.ProofKit
import Derived.LaidMore
import Derived.MakeChecks
import Derived.Lib.LaidTab
import Derived.Lib.Space
import Derived.ChangeArms
import Derived.OpenShut
import Derived.WideShapes
import Derived.WalkKit
import Derived.WalkSmall
import Derived.Lay
import Derived.ShutString
import Derived.ChangeOld
import Derived.ChangeVars
import Derived.Below
import Derived.Stop.Joined
import Derived.Test.YtflppablgdegcaaGreatDoorCards
import Derived.Test.YtflppablgdegcaaGreatDoorTie
import Derived.SevenTiedAt
namespace Go.Proofs.YtflppablgdegcaaGreatDoor
open Go.RowKit
def TX (t : ByteArray) (ln : List UInt8) : Prop := t.data.toList = ln ++ [10]
theorem flatLn_app (a b : List (List UInt8)) (l : List UInt8) : flatLn (a ++ b) l = flatLn a (flatLn b l) := by simp [flatLn]
theorem flatLn_last (a : List (List UInt8)) (l : List UInt8) : flatLn a l = flatLn a [] ++ l := by
 induction a with
 | nil => rfl
 | cons x a ih =>
  show x ++ 10 :: flatLn a l = (x ++ 10 :: flatLn a []) ++ l
  rw [ih]
  simp
theorem cat_list : ∀ (ts : List ByteArray) (lns : List (List UInt8)) (o : ByteArray), All2 TX ts lns → (cat o ts).data.toList = o.data.toList ++ flatLn lns []
 | [], [], o, _ => by simp [cat, flatLn]
 | t :: ts, ln :: lns, o, ⟨h1, h2⟩ => by
  show (cat (o ++ t) ts).data.toList = _
  rw [cat_list ts lns (o ++ t) h2, data_app, h1]
  show _ = o.data.toList ++ (ln ++ 10 :: flatLn lns [])
  simp
 | [], _ :: _, _, h => h.elim
 | _ :: _, [], _, h => h.elim
structure Fl (r : Rst) : Prop where
 inf : r.inf = false
 range : r.range = false
 dis : r.dis = false
 dat : r.dat = false
 ky : r.ky = false
 mp : r.mp = false
abbrev LB (l : List UInt8) : ByteArray := ⟨l.toArray⟩
def Tag (ln : List UInt8) : Prop := Lib.hasPrefix ln [35, 69, 88, 84, 73, 78, 70, 58] = false ∧ Lib.hasPrefix ln [35] = true
def KMb (ln : List UInt8) : Bool := Lib.hasPrefix ln [35, 69, 88, 84, 45, 88, 45, 75, 69, 89, 58] || Lib.hasPrefix ln [35, 69, 88, 84, 45, 88, 45, 77, 65, 80, 58]
theorem rdS_tagl {ln : List UInt8} (h : Tag ln) (bo : Bool) (n : Nat) (ls : List ByteArray) : rdS false bo n (LB ln :: ls) = rdS false (bo || KMb ln) n ls := by
 unfold KMb
 rw [rdS, list_of]
 have h1 : Lib.hasPrefix ln (⟨#[35, 69, 88, 84, 73, 78, 70, 58]⟩ : ByteArray).data.toList = false := h.1
 have h2 : Lib.hasPrefix ln (⟨#[35]⟩ : ByteArray).data.toList = true := h.2
 rw [h1, h2]
 simp only [Bool.not_false, Bool.and_false, Bool.false_eq_true, if_false, if_true]
def HD (B : Nat) (G : Ge) (ts : List ByteArray) (f : Rst → Rst) (km : Bool) : Prop := ∃ lns, All2 TX ts lns ∧ (∀ ln ∈ lns, Lin ln) ∧ (∀ r, Fl r → Run B G lns r (f r)) ∧ ∀ bo n ls, rdS false bo n (lns.map LB ++ ls) = rdS false (bo || km) n ls
theorem HD.nil {B : Nat} {G : Ge} : HD B G [] (fun r => r) false := ⟨[], trivial, (fun _ h => nomatch h), (fun _ _ => rfl), fun bo n ls => by rw [Bool.or_false]; rfl⟩
theorem HD.snoc {B : Nat} {G : Ge} {ts : List ByteArray} {f g : Rst → Rst} {km : Bool} (h : HD B G ts f km) {t : ByteArray} {ln : List UInt8} (h1 : TX t ln) (h2 : Lin ln) (h3 : Tag ln) (h4 : ∀ r, Fl r → LnOk B G ln (f r) (g r)) : HD B G (ts ++ [t]) g (km || KMb ln) := by
 obtain ⟨lns, k1, k2, k3, k4⟩ := h
 refine ⟨lns ++ [ln], All2.snoc h1 k1, fun l hl => ?_, fun r hr => Run.app (k3 r hr) ⟨_, h4 r hr, rfl⟩, fun bo n ls => ?_⟩
 ·rcases List.mem_append.1 hl with hl | hl
  ·exact k2 l hl
  ·rw [List.mem_singleton.1 hl]; exact h2
 ·rw [List.map_append, List.append_assoc, k4, List.map_singleton, List.singleton_append, rdS_tagl h3, Bool.or_assoc]
theorem HD.same {B : Nat} {G : Ge} {ts : List ByteArray} {f g : Rst → Rst} {km : Bool} (h : HD B G ts f km) (hg : ∀ r, Fl r → g r = f r) : HD B G ts g km := by
 obtain ⟨lns, k1, k2, k3, k4⟩ := h
 exact ⟨lns, k1, k2, fun r hr => by rw [hg r hr]; exact k3 r hr, k4⟩
theorem HD.opt {B : Nat} {G : Ge} {ts : List ByteArray} {f g : Rst → Rst} {km k2 : Bool} (h : HD B G ts f km) {c : Prop} [Decidable c] {t : ByteArray} (h1 : c → ∃ ln, TX t ln ∧ Lin ln ∧ Tag ln ∧ KMb ln = k2 ∧ ∀ r, Fl r → LnOk B G ln (f r) (g r)) (h0 : ¬ c → ∀ r, Fl r → g r = f r) : HD B G (if c then ts ++ [t] else ts) g (if c then (km || k2) else km) := by
 by_cases hc : c
 ·obtain ⟨ln, a1, a2, a3, a4, a5⟩ := h1 hc
  rw [if_pos hc, if_pos hc, ← a4]
  exact h.snoc a1 a2 a3 a5
 ·rw [if_neg hc, if_neg hc]
  exact h.same (h0 hc)
theorem tag_pre {p q : List UInt8} (h : (([35, 69, 88, 84, 73, 78, 70, 58] : List UInt8).isPrefixOf p || p.isPrefixOf [35, 69, 88, 84, 73, 78, 70, 58]) = false) (h2 : ([35] : List UInt8).isPrefixOf p = true) : Tag (p ++ q) :=
 ⟨by have := hpf (L := LB (p ++ q)) (p := [35, 69, 88, 84, 73, 78, 70, 58]) (pre := p) (rest := q) (list_of _) h; rw [list_of] at this; exact this, by have := hpt (L := LB (p ++ q)) (p := [35]) (pre := p) (rest := q) (list_of _) h2; rw [list_of] at this; exact this⟩
theorem km_no {p q : List UInt8} (h : (([35, 69, 88, 84, 45, 88, 45, 75, 69, 89, 58] : List UInt8).isPrefixOf p || p.isPrefixOf [35, 69, 88, 84, 45, 88, 45, 75, 69, 89, 58]) = false) (h2 : (([35, 69, 88, 84, 45, 88, 45, 77, 65, 80, 58] : List UInt8).isPrefixOf p || p.isPrefixOf [35, 69, 88, 84, 45, 88, 45, 77, 65, 80, 58]) = false) : KMb (p ++ q) = false := by
 have a := hpf (L := LB (p ++ q)) (pre := p) (rest := q) (list_of _) h
 have b := hpf (L := LB (p ++ q)) (pre := p) (rest := q) (list_of _) h2
 rw [list_of] at a b
 unfold KMb
 rw [a, b]
 rfl
theorem km_key (q : List UInt8) : KMb (c_key ++ q) = true := by
 have a := hpt (L := LB (c_key ++ q)) (p := [35, 69, 88, 84, 45, 88, 45, 75, 69, 89, 58]) (pre := c_key) (rest := q) (list_of _) (by decide)
 rw [list_of] at a
 unfold KMb
 rw [a]
 rfl
theorem km_map (q : List UInt8) : KMb (c_map ++ q) = true := by
 have a := hpt (L := LB (c_map ++ q)) (p := [35, 69, 88, 84, 45, 88, 45, 77, 65, 80, 58]) (pre := c_map) (rest := q) (list_of _) (by decide)
 rw [list_of] at a
 unfold KMb
 rw [a, Bool.or_true]
def segR (s : Sm) (r : Rst) : Rst := { r with xkey := if s.key.isSome = true then s.key.map Ky.kd else r.xkey, ky := s.key.isSome, dis := s.disc, xmap := if s.map.isSome = true then s.map.map Mp.ud else r.xmap, mp := s.map.isSome, dat := ne s.date, dateV := if ne s.date = true then s.date else r.dateV, range := decide (0 < s.limit), limit := if 0 < s.limit then s.limit else r.limit, offset := if 0 < s.limit then s.offset else r.offset, inf := true, dur := e8 s.e, title := s.title }
theorem date_sgn {d : ByteArray} (h : DateOk d) : Sgn d.data.toList := by
 rcases h with rfl | ⟨y, _, _, rfl⟩
 ·intro x hx; cases hx
 ·rw [data_app, data_app]
  exact ((sgn_of (by decide)).app (dec_sgn y)).app (sgn_of (by decide))
theorem isSome_map {α β : Type} (f : α → β) (o : Option α) : (o.map f).isSome = o.isSome := by cases o <;> rfl
theorem seg_run {B : Nat} {G : Ge} {s : Sm} (hs : SegOk s) : ∃ lns, (∀ o : ByteArray, (cat o s.lines ++ (s.uri ++ (⟨#[10]⟩ : ByteArray))).data.toList = o.data.toList ++ flatLn lns []) ∧ (∀ ln ∈ lns, Lin ln) ∧ lns.length ≤ 7 ∧ (∀ r r', Fl r → LnOk B G s.uri.data.toList (segR s r) r' → Run B G lns r r') ∧ ∀ n ls, rdS false false n (lns.map LB ++ ls) = rdS false false (n + 1) ls := by
 have hll := lines_len s
 have hprt := hs.part
 have H : ∃ km, HD B G s.lines.dropLast (fun r => { r with xkey := if s.key.isSome = true then s.key.map Ky.kd else r.xkey, ky := s.key.isSome, dis := s.disc, xmap := if s.map.isSome = true then s.map.map Mp.ud else r.xmap, mp := s.map.isSome, dat := ne s.date, dateV := if ne s.date = true then s.date else r.dateV, range := decide (0 < s.limit), limit := if 0 < s.limit then s.limit else r.limit, offset := if 0 < s.limit then s.offset else r.offset }) km := by
  unfold Sm.lines
  dsimp only
  rw [List.dropLast_concat]
  refine ⟨_, HD.opt (k2 := false) (HD.opt (k2 := false) (HD.opt (k2 := true) (HD.opt (k2 := false) (HD.opt (k2 := true) HD.nil (c := (s.key.map Ky.cells).isSome = true) (g := fun r => { r with xkey := if s.key.isSome = true then s.key.map Ky.kd else r.xkey, ky := s.key.isSome }) ?_ ?_) (c := s.disc = true) (g := fun r => { r with xkey := if s.key.isSome = true then s.key.map Ky.kd else r.xkey, ky := s.key.isSome, dis := s.disc }) ?_ ?_) (c := (s.map.map Mp.cells).isSome = true) (g := fun r => { r with xkey := if s.key.isSome = true then s.key.map Ky.kd else r.xkey, ky := s.key.isSome, dis := s.disc, xmap := if s.map.isSome = true then s.map.map Mp.ud else r.xmap, mp := s.map.isSome }) ?_ ?_) (c := ne s.date = true) (g := fun r => { r with xkey := if s.key.isSome = true then s.key.map Ky.kd else r.xkey, ky := s.key.isSome, dis := s.disc, xmap := if s.map.isSome = true then s.map.map Mp.ud else r.xmap, mp := s.map.isSome, dat := ne s.date, dateV := if ne s.date = true then s.date else r.dateV }) ?_ ?_) (c := 0 < s.limit) ?_ ?_⟩
  ·intro hc
   rw [isSome_map] at hc
   cases hk : s.key with
   | none => rw [hk] at hc; cases hc
   | some k =>
    obtain ⟨A, a1, a2, _, a4⟩ := p_key (B := B) (G := G) (hs.key k hk)
    refine ⟨lnA c_key A, a1, a2, tag_pre (by decide) (by decide), km_key _, fun r _ => ?_⟩
    exact a4 r
  ·intro hc r hr
   rw [isSome_map] at hc
   have hc2 : s.key.isSome = false := by simpa using hc
   simp only [hc2, Bool.false_eq_true, if_false]
   rw [← hr.ky]
  ·intro hc
   refine ⟨c_disc, rfl, lin_disc, ?_, by decide, fun r hr => ?_⟩
   ·exact ⟨by decide, by decide⟩
   ·rw [hc]
    exact p_disc hr.dis
  ·intro hc r hr
   have hc2 : s.disc = false := by simpa using hc
   simp only [hc2]
   rw [← hr.dis]
  ·intro hc
   rw [isSome_map] at hc
   cases hk : s.map with
   | none => rw [hk] at hc; cases hc
   | some k =>
    refine ⟨lnA c_map (mapA k), mapT, ?_, tag_pre (by decide) (by decide), km_map _, fun r _ => ?_⟩
    ·obtain ⟨h1, h2, _⟩ := mapA_ok (hs.map k hk)
     exact lin_A (pre := c_map) (sgn_of (by decide)) (by decide) h2 h1
    ·exact p_map (hs.map k hk)
  ·intro hc r hr
   rw [isSome_map] at hc
   have hc2 : s.map.isSome = false := by simpa using hc
   simp only [hc2, Bool.false_eq_true, if_false]
   rw [← hr.mp]
  ·intro hc
   refine ⟨c_date ++ s.date.data.toList, ?_, lin_date (date_sgn hs.date), tag_pre (by decide) (by decide), km_no (by decide) (by decide), fun r hr => ?_⟩
   ·show _ = _
    rw [data_app, data_app]
    rfl
   ·simp only [hc, if_true]
    exact p_date (date_sgn hs.date) (by have := hs.date.size; omega) hr.dat
  ·intro hc r hr
   have hc2 : ne s.date = false := by simpa using hc
   simp only [hc2, Bool.false_eq_true, if_false]
   rw [← hr.dat]
  ·intro hc
   refine ⟨c_range ++ t_range s.limit s.offset, ?_, lin_range _ _, tag_pre (by decide) (by decide), km_no (by decide) (by decide), fun r hr => ?_⟩
   ·show _ = _
    rw [data_app, data_app, data_app, data_app]
    simp [c_range, t_range]
   ·simp only [hc, if_true, decide_true]
    exact p_range (by omega) (by omega) hr.range
  ·intro hc r hr
   simp only [hc, if_false, decide_false]
   rw [← hr.range]
 obtain ⟨km, lns, k1, k2, k3, k4⟩ := H
 have hsp : s.lines = s.lines.dropLast ++ [(((((⟨#[35, 69, 88, 84, 73, 78, 70, 58]⟩ : ByteArray) ++ (secs s.e)) ++ (⟨#[44]⟩ : ByteArray)) ++ s.title) ++ (⟨#[10]⟩ : ByteArray))] := by
  unfold Sm.lines
  dsimp only
  rw [List.dropLast_concat]
 have he := hs.e
 have hti : TX (((((⟨#[35, 69, 88, 84, 73, 78, 70, 58]⟩ : ByteArray) ++ (secs s.e)) ++ (⟨#[44]⟩ : ByteArray)) ++ s.title) ++ (⟨#[10]⟩ : ByteArray)) (t_inf s.e s.title) := by
  show _ = _
  rw [data_app, data_app, data_app, data_app, secs_sx (by omega)]
  simp [t_inf, c_inf]
 have htz := hs.title.size
 have hli := lin_inf he hs.title.sgs hs.title.last
 have hk1 := k1.len
 refine ⟨lns ++ [t_inf s.e s.title, s.uri.data.toList], fun o => ?_, fun ln hl => ?_, ?_, fun r r' hr hu => ?_, fun n ls => ?_⟩
 ·have h2 : All2 TX s.lines (lns ++ [t_inf s.e s.title]) := by rw [hsp]; exact All2.snoc hti k1
  rw [data_app, cat_list _ _ _ h2, data_app, show lns ++ [t_inf s.e s.title, s.uri.data.toList] = (lns ++ [t_inf s.e s.title]) ++ [s.uri.data.toList] from by simp, flatLn_app (lns ++ [t_inf s.e s.title]), flatLn_last (lns ++ [t_inf s.e s.title]) (flatLn [s.uri.data.toList] [])]
  simp [flatLn]
 ·rcases List.mem_append.1 hl with hl | hl
  ·exact k2 ln hl
  ·simp only [List.mem_cons, List.not_mem_nil, or_false] at hl
   rcases hl with rfl | rfl
   ·exact hli
   ·exact hs.uri.val.lin
 ·rw [List.length_append, ← hk1, List.length_dropLast]
  simp only [List.length_cons, List.length_nil]
  omega
 ·refine Run.app (k3 r hr) ⟨_, ?_, r', hu, rfl⟩
  exact p_inf he hs.title.sgs hs.title.last (by omega) hr.inf
 ·rw [List.map_append, List.append_assoc, k4]
  have hin : Lib.hasPrefix (t_inf s.e s.title) (⟨#[35, 69, 88, 84, 73, 78, 70, 58]⟩ : ByteArray).data.toList = true := by
   have a := hpt (L := LB (t_inf s.e s.title)) (p := [35, 69, 88, 84, 73, 78, 70, 58]) (pre := c_inf) (rest := sx s.e ++ 44 :: s.title.data.toList) (by rw [list_of]; unfold t_inf; rw [List.append_assoc]) (by decide)
   rw [list_of] at a
   exact a
  have hun : Lib.hasPrefix s.uri.data.toList (⟨#[35]⟩ : ByteArray).data.toList = false := uri_no hs.uri
  show rdS false (false || km) n (LB (t_inf s.e s.title) :: LB s.uri.data.toList :: ls) = _
  rw [rdS, list_of, hin]
  simp only [Bool.not_false, Bool.and_self, if_true]
  rw [rdS, list_of, hun]
  simp only [Bool.not_true, Bool.false_and, Bool.false_eq_true, if_false, if_true]
  rw [if_neg (by simp)]
structure SegInv (m : Md) (xs : List Sx) (r : Rst) : Prop where
 tgt : r.tgt = floatOfInt .f64 (m.target : Int)
 seq : r.seq = m.seq
 iframe : r.iframe = m.iframe
 closed : r.closed = false
 typ : r.typ = m.typ
 disc : r.disc = m.disc
 start : r.start = e8 m.start
 precise : r.precise = m.precise
 m3 : r.m3 = true
 fl : Fl r
 ver : r.ver = raisedV m xs
 pkey : r.pkey = (firstK xs).map Ky.kd
 pmap : r.pmap = (firstM xs).map Mp.ud
 len : r.segs.length = xs.length
 segs : ∀ (k : Nat) (x : Sx), xs[k]? = some x → r.segs[k]? = some (segAt (m.seq + k) x.1)
theorem raised_snoc (m : Md) (xs : List Sx) (x : Sx) : raisedV m (xs ++ [x]) = if 0 < x.1.limit then max (raisedV m xs) 4 else raisedV m xs := by
 unfold raisedV
 rw [List.any_append]
 by_cases h : 0 < x.1.limit <;> cases ha : xs.any (fun x => decide (0 < x.1.limit)) <;> simp [h] <;> omega
theorem SegInv.step {m : Md} {xs : List Sx} {r : Rst} (h : SegInv m xs r) {x : Sx} (hx : SegOk x.1) : SegInv m (xs ++ [x]) ((segR x.1 r).put x.1.uri) := by
 have hp := hx.part
 refine ⟨h.tgt, h.seq, h.iframe, h.closed, h.typ, h.disc, h.start, h.precise, h.m3, ⟨rfl, rfl, rfl, rfl, rfl, rfl⟩, ?_, ?_, ?_, ?_, ?_⟩
 ·rw [raised_snoc, ← h.ver]
  show (if decide (0 < x.1.limit) = true then max r.ver 4 else r.ver) = _
  simp only [decide_eq_true_eq]
 ·rw [firstK_snoc]
  show (if x.1.key.isSome = true ∧ r.pkey.isNone = true then (if x.1.key.isSome = true then x.1.key.map Ky.kd else r.xkey) else r.pkey) = _
  rw [h.pkey]
  cases hk : x.1.key <;> cases hf : firstK xs <;> simp
 ·rw [firstM_snoc]
  show (if x.1.map.isSome = true ∧ r.pmap.isNone = true then (if x.1.map.isSome = true then x.1.map.map Mp.ud else r.xmap) else r.pmap) = _
  rw [h.pmap]
  cases hk : x.1.map <;> cases hf : firstM xs <;> simp
 ·show (r.segs ++ [_]).length = _
  rw [List.length_append, List.length_append, h.len]
  rfl
 ·intro k y hk
  show (r.segs ++ [_])[k]? = _
  by_cases hlt : k < xs.length
  ·rw [List.getElem?_append_left hlt] at hk
   rw [List.getElem?_append_left (by rw [h.len]; exact hlt)]
   exact h.segs k y hk
  ·have hkl := (List.getElem?_eq_some_iff.1 hk).1
   rw [List.length_append, List.length_singleton] at hkl
   have hke : k = xs.length := by omega
   subst hke
   rw [List.getElem?_append_right (Nat.le_refl _), Nat.sub_self] at hk
   have hk : x = y := by simpa using hk
   subst hk
   rw [List.getElem?_append_right (by rw [h.len]; exact Nat.le_refl _), h.len, Nat.sub_self]
   show some (Sg.mk _ _ _ _ _ _ _ _ _ _) = _
   unfold segAt
   have h1 : (segR x.1 r).seq + (segR x.1 r).segs.length = m.seq + xs.length := by show r.seq + r.segs.length = _; rw [h.seq, h.len]
   rw [h1]
   have h2 : (if (segR x.1 r).range = true then (segR x.1 r).limit else 0) = x.1.limit := by
    show (if decide (0 < x.1.limit) = true then (if 0 < x.1.limit then x.1.limit else r.limit) else 0) = _
    by_cases hc : 0 < x.1.limit <;> simp [hc] <;> omega
   have h3 : (if (segR x.1 r).range = true then (segR x.1 r).offset else 0) = x.1.offset := by
    show (if decide (0 < x.1.limit) = true then (if 0 < x.1.limit then x.1.offset else r.offset) else 0) = _
    by_cases hc : 0 < x.1.limit <;> simp [hc] <;> omega
   have h4 : (if (segR x.1 r).ky = true then (segR x.1 r).xkey else none) = x.1.key.map Ky.kd := by
    show (if x.1.key.isSome = true then (if x.1.key.isSome = true then x.1.key.map Ky.kd else r.xkey) else none) = _
    cases x.1.key <;> simp
   have h5 : (if (segR x.1 r).mp = true then (segR x.1 r).xmap else none) = x.1.map.map Mp.ud := by
    show (if x.1.map.isSome = true then (if x.1.map.isSome = true then x.1.map.map Mp.ud else r.xmap) else none) = _
    cases x.1.map <;> simp
   have h6 : (if (segR x.1 r).dis = true then true else false) = x.1.disc := by
    show (if x.1.disc = true then true else false) = _
    cases x.1.disc <;> rfl
   have h7 : (if (segR x.1 r).dat = true then (segR x.1 r).dateV else ⟨#[]⟩) = x.1.date := by
    show (if ne x.1.date = true then (if ne x.1.date = true then x.1.date else r.dateV) else ⟨#[]⟩) = _
    by_cases hc : ne x.1.date = true
    ·rw [if_pos hc, if_pos hc]
    ·rw [if_neg hc]
     unfold ne at hc
     refine ba_eq ?_
     cases hq : x.1.date.data.toList with
     | nil => rfl
     | cons b l => rw [hq] at hc; simp at hc
   rw [h2, h3, h4, h5, h6, h7]
   rfl
theorem SegInv.last {m : Md} {xs : List Sx} {r : Rst} (h : SegInv m xs r) : ∀ g, r.segs.getLast? = some g → g.seq = r.seq + (r.segs.length - 1) := by
 intro g hg
 rw [List.getLast?_eq_getElem?] at hg
 have hl := (List.getElem?_eq_some_iff.1 hg).1
 obtain ⟨x, hx⟩ : ∃ x, xs[r.segs.length - 1]? = some x := ⟨_, List.getElem?_eq_getElem (by rw [← h.len]; exact hl)⟩
 rw [h.segs _ x hx] at hg
 rw [← Option.some.inj hg, h.seq]
 rfl
theorem segs_run {B : Nat} {G : Ge} {m : Md} (hm : MdOk m) : ∀ (L pre : List Sx) (o : ByteArray) (r : Rst), SegInv m pre r → (∀ x ∈ L, SegOk x.1) → pre.length + L.length ≤ 100 → ∃ lns r', (catS o (L.map (·.1))).data.toList = o.data.toList ++ flatLn lns [] ∧ Run B G lns r r' ∧ SegInv m (pre ++ L) r' ∧ (∀ ln ∈ lns, Lin ln) ∧ lns.length ≤ 7 * L.length ∧ ∀ n ls, rdS false false n (lns.map LB ++ ls) = rdS false false (n + L.length) ls
 | [], pre, o, r, hi, _, _ => ⟨[], r, by simp [catS, flatLn], rfl, by rw [List.append_nil]; exact hi, (fun _ h => nomatch h), Nat.le_refl _, fun n ls => rfl⟩
 | x :: L, pre, o, r, hi, hx, hn => by
  have hx1 := hx x List.mem_cons_self
  rw [List.length_cons] at hn
  obtain ⟨lns, a1, a2, a3, a4, a5⟩ := seg_run (B := B) (G := G) hx1
  have hi2 := hi.step hx1
  obtain ⟨lns2, r2, b1, b2, b3, b4, b5, b6⟩ := segs_run hm L (pre ++ [x]) (cat o x.1.lines ++ (x.1.uri ++ (⟨#[10]⟩ : ByteArray))) _ hi2 (fun y hy => hx y (List.mem_cons_of_mem _ hy)) (by rw [List.length_append, List.length_singleton]; omega)
  have hu : LnOk B G x.1.uri.data.toList (segR x.1 r) ((segR x.1 r).put x.1.uri) := by
   refine p_uri hx1.uri rfl (fun h => ?_) (fun h => ?_) ?_ ?_ ?_ ?_
   ·show (if x.1.key.isSome = true then x.1.key.map Ky.kd else r.xkey).isSome = true
    have h : x.1.key.isSome = true := h
    rw [if_pos h, isSome_map]
    exact h
   ·show (if x.1.map.isSome = true then x.1.map.map Mp.ud else r.xmap).isSome = true
    have h : x.1.map.isSome = true := h
    rw [if_pos h, isSome_map]
    exact h
   ·show r.seq ≤ _
    rw [hi.seq]
    have := hm.seq
    omega
   ·show (FloatKind.f64.format.order r.tgt (e8 x.1.e) == some .lt) = false
    rw [hi.tgt]
    exact dur_le hm.target.1 hm.target.2 hx1.e
   ·show r.segs.length ≤ 200
    rw [hi.len]
    omega
   ·exact hi.last
  refine ⟨lns ++ lns2, r2, ?_, Run.app (a4 r _ hi.fl hu) b2, ?_, ?_, ?_, ?_⟩
  ·show (catS (cat o x.1.lines ++ (x.1.uri ++ (⟨#[10]⟩ : ByteArray))) (L.map (·.1))).data.toList = _
   rw [b1, a1, flatLn_app, flatLn_last lns (flatLn lns2 []), List.append_assoc]
  ·rw [show pre ++ x :: L = (pre ++ [x]) ++ L from by simp]
   exact b3
  ·intro ln hl
   rcases List.mem_append.1 hl with hl | hl
   ·exact a2 ln hl
   ·exact b4 ln hl
  ·rw [List.length_append, List.length_cons]
   omega
  ·intro n ls
   rw [List.map_append, List.append_assoc, a5, b6, List.length_cons]
   congr 1
   omega
def headR (m : Md) (r : Rst) : Rst := { r with typ := if m.typ = 1 then 1 else if m.typ = 2 then 2 else r.typ, seq := m.seq, tgt := floatOfInt .f64 (m.target : Int), start := if 0 < m.start then e8 m.start else r.start, precise := if 0 < m.start then (if m.precise = true then true else r.precise) else r.precise, disc := if 0 < m.disc then m.disc else r.disc, iframe := if m.iframe = true then true else r.iframe }
theorem startT {e : Nat} (p : Bool) : (if p = true then (((⟨#[35, 69, 88, 84, 45, 88, 45, 83, 84, 65, 82, 84, 58, 84, 73, 77, 69, 45, 79, 70, 70, 83, 69, 84, 61]⟩ : ByteArray) ++ (shorts e)) ++ (⟨#[44, 80, 82, 69, 67, 73, 83, 69, 61, 89, 69, 83]⟩ : ByteArray)) ++ (⟨#[10]⟩ : ByteArray) else ((⟨#[35, 69, 88, 84, 45, 88, 45, 83, 84, 65, 82, 84, 58, 84, 73, 77, 69, 45, 79, 70, 70, 83, 69, 84, 61]⟩ : ByteArray) ++ (shorts e)) ++ (⟨#[10]⟩ : ByteArray)).data.toList = lnA c_start (startA e p) ++ [10] := by
 unfold lnA startA c_start
 cases p with
 | true =>
  rw [if_pos rfl, if_pos rfl, List.map_cons, Q4.joinL_cons _ _ (by simp), List.map_cons, List.map_nil, Q4.joinL_one]
  simp [data_app, Q4.Tr.text, attr, ByteArray.data_append]
 | false =>
  rw [if_neg (by decide), if_neg (by decide), List.map_cons, List.map_nil, Q4.joinL_one]
  simp [data_app, Q4.Tr.text, attr, ByteArray.data_append]
theorem head_hd {B : Nat} {G : Ge} {m : Md} (hm : MdOk m) : ∃ km, HD B G m.head (headR m) km ∧ km = false := by
 have hst := hm.start
 have hl3 : ∀ (l : List ByteArray), (if 0 < m.start then (if m.precise = true then l ++ [(((⟨#[35, 69, 88, 84, 45, 88, 45, 83, 84, 65, 82, 84, 58, 84, 73, 77, 69, 45, 79, 70, 70, 83, 69, 84, 61]⟩ : ByteArray) ++ (shorts m.start)) ++ (⟨#[44, 80, 82, 69, 67, 73, 83, 69, 61, 89, 69, 83]⟩ : ByteArray)) ++ (⟨#[10]⟩ : ByteArray)] else l ++ [((⟨#[35, 69, 88, 84, 45, 88, 45, 83, 84, 65, 82, 84, 58, 84, 73, 77, 69, 45, 79, 70, 70, 83, 69, 84, 61]⟩ : ByteArray) ++ (shorts m.start)) ++ (⟨#[10]⟩ : ByteArray)]) else l) = if 0 < m.start then l ++ [if m.precise = true then (((⟨#[35, 69, 88, 84, 45, 88, 45, 83, 84, 65, 82, 84, 58, 84, 73, 77, 69, 45, 79, 70, 70, 83, 69, 84, 61]⟩ : ByteArray) ++ (shorts m.start)) ++ (⟨#[44, 80, 82, 69, 67, 73, 83, 69, 61, 89, 69, 83]⟩ : ByteArray)) ++ (⟨#[10]⟩ : ByteArray) else ((⟨#[35, 69, 88, 84, 45, 88, 45, 83, 84, 65, 82, 84, 58, 84, 73, 77, 69, 45, 79, 70, 70, 83, 69, 84, 61]⟩ : ByteArray) ++ (shorts m.start)) ++ (⟨#[10]⟩ : ByteArray)] else l := by
  intro l
  cases m.precise <;> simp
 have H0 : HD B G (if m.typ = 1 then ([] : List ByteArray) ++ [(⟨#[35, 69, 88, 84, 45, 88, 45, 80, 76, 65, 89, 76, 73, 83, 84, 45, 84, 89, 80, 69, 58, 69, 86, 69, 78, 84, 10]⟩ : ByteArray)] else if m.typ = 2 then ([] : List ByteArray) ++ [(⟨#[35, 69, 88, 84, 45, 88, 45, 80, 76, 65, 89, 76, 73, 83, 84, 45, 84, 89, 80, 69, 58, 86, 79, 68, 10]⟩ : ByteArray)] else ([] : List ByteArray)) (fun r => { r with typ := if m.typ = 1 then 1 else if m.typ = 2 then 2 else r.typ }) false := by
  by_cases h1 : m.typ = 1
  ·simp only [h1, if_true]
   exact HD.nil.snoc (g := fun r => { r with typ := 1 }) (km := false) (ln := c_ev) rfl lin_ev ⟨by decide, by decide⟩ fun r _ => p_ev
  ·by_cases h2 : m.typ = 2
   ·simp only [h2, if_true, show ¬ ((2 : Nat) = 1) from by decide, if_false]
    exact HD.nil.snoc (g := fun r => { r with typ := 2 }) (km := false) (ln := c_vod) rfl lin_vod ⟨by decide, by decide⟩ fun r _ => p_vod
   ·simp only [h1, h2, if_false]
    exact HD.nil.same fun r _ => rfl
 have H1 := H0.snoc (g := fun r => { r with typ := if m.typ = 1 then 1 else if m.typ = 2 then 2 else r.typ, seq := m.seq }) (t := ((⟨#[35, 69, 88, 84, 45, 88, 45, 77, 69, 68, 73, 65, 45, 83, 69, 81, 85, 69, 78, 67, 69, 58]⟩ : ByteArray) ++ (dec m.seq)) ++ (⟨#[10]⟩ : ByteArray)) (ln := c_seq ++ (dec m.seq).data.toList) (by show _ = _; rw [data_app, data_app]; rfl) (lin_seq _) (tag_pre (by decide) (by decide)) fun r _ => p_seq _ hm.seq
 have H2 := H1.snoc (g := fun r => { r with typ := if m.typ = 1 then 1 else if m.typ = 2 then 2 else r.typ, seq := m.seq, tgt := floatOfInt .f64 (m.target : Int) }) (t := ((⟨#[35, 69, 88, 84, 45, 88, 45, 84, 65, 82, 71, 69, 84, 68, 85, 82, 65, 84, 73, 79, 78, 58]⟩ : ByteArray) ++ (dec m.target)) ++ (⟨#[10]⟩ : ByteArray)) (ln := c_tgt ++ (dec m.target).data.toList) (by show _ = _; rw [data_app, data_app]; rfl) (lin_tgt _) (tag_pre (by decide) (by decide)) fun r _ => p_tgt _ hm.target.1 hm.target.2
 rw [km_no (by decide) (by decide), km_no (by decide) (by decide)] at H2
 rw [List.append_assoc] at H2
 have H3 := H2.opt (c := 0 < m.start) (k2 := false) (g := fun r => { r with typ := if m.typ = 1 then 1 else if m.typ = 2 then 2 else r.typ, seq := m.seq, tgt := floatOfInt .f64 (m.target : Int), start := if 0 < m.start then e8 m.start else r.start, precise := if 0 < m.start then (if m.precise = true then true else r.precise) else r.precise }) (t := if m.precise = true then (((⟨#[35, 69, 88, 84, 45, 88, 45, 83, 84, 65, 82, 84, 58, 84, 73, 77, 69, 45, 79, 70, 70, 83, 69, 84, 61]⟩ : ByteArray) ++ (shorts m.start)) ++ (⟨#[44, 80, 82, 69, 67, 73, 83, 69, 61, 89, 69, 83]⟩ : ByteArray)) ++ (⟨#[10]⟩ : ByteArray) else ((⟨#[35, 69, 88, 84, 45, 88, 45, 83, 84, 65, 82, 84, 58, 84, 73, 77, 69, 45, 79, 70, 70, 83, 69, 84, 61]⟩ : ByteArray) ++ (shorts m.start)) ++ (⟨#[10]⟩ : ByteArray)) (fun hc => by
  obtain ⟨h1, h2, _⟩ := startA_ok hm.start m.precise
  refine ⟨lnA c_start (startA m.start m.precise), startT _, lin_A (pre := c_start) (sgn_of (by decide)) (by decide) h2 h1, tag_pre (by decide) (by decide), km_no (by decide) (by decide), fun r _ => ?_⟩
  simp only [hc, if_true]
  exact p_start hc hm.start m.precise) (fun hc r _ => by simp only [hc, if_false])
 have H4 := H3.opt (c := 0 < m.disc) (k2 := false) (g := fun r => { r with typ := if m.typ = 1 then 1 else if m.typ = 2 then 2 else r.typ, seq := m.seq, tgt := floatOfInt .f64 (m.target : Int), start := if 0 < m.start then e8 m.start else r.start, precise := if 0 < m.start then (if m.precise = true then true else r.precise) else r.precise, disc := if 0 < m.disc then m.disc else r.disc }) (t := ((⟨#[35, 69, 88, 84, 45, 88, 45, 68, 73, 83, 67, 79, 78, 84, 73, 78, 85, 73, 84, 89, 45, 83, 69, 81, 85, 69, 78, 67, 69, 58]⟩ : ByteArray) ++ (dec m.disc)) ++ (⟨#[10]⟩ : ByteArray)) (fun hc => by
  refine ⟨c_dsq ++ (dec m.disc).data.toList, (by show _ = _; rw [data_app, data_app]; rfl), lin_dsq _, tag_pre (by decide) (by decide), km_no (by decide) (by decide), fun r _ => ?_⟩
  simp only [hc, if_true]
  exact p_dsq _ hm.disc) (fun hc r _ => by simp only [hc, if_false])
 have H5 := H4.opt (c := m.iframe = true) (k2 := false) (g := headR m) (t := (⟨#[35, 69, 88, 84, 45, 88, 45, 73, 45, 70, 82, 65, 77, 69, 83, 45, 79, 78, 76, 89, 10]⟩ : ByteArray)) (fun hc => by
  refine ⟨c_ifr, rfl, lin_ifr, ⟨by decide, by decide⟩, by decide, fun r hr => ?_⟩
  unfold headR
  simp only [hc, if_true]
  exact p_ifr hr.dis) (fun hc r _ => by unfold headR; simp only [hc, Bool.false_eq_true, if_false])
 refine ⟨_, ?_, rfl⟩
 unfold Md.head
 dsimp only
 rw [hl3]
 have e : (if m.iframe = true then (if 0 < m.disc then (if 0 < m.start then (false || false) || false else false || false) || false else (if 0 < m.start then (false || false) || false else false || false)) || false else (if 0 < m.disc then (if 0 < m.start then (false || false) || false else false || false) || false else (if 0 < m.start then (false || false) || false else false || false))) = false := by
  repeat' split
  all_goals rfl
 first
  | exact H5
  | (rw [e] at H5; exact H5)
  | (simpa using H5)
theorem flat_mem {last : List UInt8} {x : UInt8} : ∀ lns : List (List UInt8), x ∈ flatLn lns last → (∃ l ∈ lns, x ∈ l) ∨ x = 10 ∨ x ∈ last
 | [], h => .inr (.inr h)
 | l :: r, h => by
  have h3 : flatLn (l :: r) last = l ++ 10 :: flatLn r last := rfl
  rw [h3] at h
  rcases List.mem_append.1 h with h | h
  ·exact .inl ⟨l, List.mem_cons_self, h⟩
  ·rcases List.mem_cons.1 h with h | h
   ·exact .inr (.inl h)
   ·rcases flat_mem r h with ⟨l2, h4, h5⟩ | h4
    ·exact .inl ⟨l2, List.mem_cons_of_mem _ h4, h5⟩
    ·exact .inr h4
theorem trL_all {lns : List (List UInt8)} (h : ∀ ln ∈ lns, Lin ln) : (lns ++ [[]]).map trL = lns.map LB ++ [LB []] := by
 rw [List.map_append]
 congr 1
 exact List.map_congr_left fun ln hl => (h ln hl).trL
theorem plain_any {B : Nat} {G : Ge} {m : Md} {xs : List Sx} (hm : MdOk m) (hl : xs.length ≤ 12) (hx : ∀ x ∈ xs, SegOk x.1) : PlainOf B G m xs := by
 have hv := hm.version
 have hty := hm.typ
 obtain ⟨km, ⟨hl1, k1, k2, k3, k4⟩, rfl⟩ := head_hd (B := B) (G := G) hm
 have hi : SegInv m [] (headR m { { rst0 with m3 := true } with ver := m.version }) := by
  refine ⟨rfl, rfl, ?_, rfl, ?_, ?_, ?_, ?_, rfl, ⟨rfl, rfl, rfl, rfl, rfl, rfl⟩, rfl, rfl, rfl, rfl, fun k x h => by cases h⟩
  ·show (if m.iframe = true then true else false) = m.iframe
   cases m.iframe <;> rfl
  ·show (if m.typ = 1 then 1 else if m.typ = 2 then 2 else 0) = m.typ
   split
   ·omega
   ·split <;> omega
  ·show (if 0 < m.disc then m.disc else 0) = m.disc
   split <;> omega
  ·show (if 0 < m.start then e8 m.start else 0) = e8 m.start
   split
   ·rfl
   ·rename_i h
    rw [show m.start = 0 from by omega, e8_zero]
  ·show (if 0 < m.start then (if m.precise = true then true else false) else false) = m.precise
   split
   ·cases m.precise <;> rfl
   ·rename_i h
    rw [hm.precise (by omega)]
 obtain ⟨sl, r1, b1, b2, b3, b4, b5, b6⟩ := segs_run (B := B) (G := G) hm xs [] (cat (((⟨#[35, 69, 88, 84, 77, 51, 85, 10, 35, 69, 88, 84, 45, 88, 45, 86, 69, 82, 83, 73, 79, 78, 58]⟩ : ByteArray) ++ (dec m.version)) ++ (⟨#[10]⟩ : ByteArray)) m.head) _ hi hx (by rw [List.length_nil]; omega)
 rw [List.nil_append] at b3
 have hrun0 : Run B G ([c_m3u, c_ver ++ (dec m.version).data.toList] ++ hl1 ++ sl) rst0 r1 := by
  refine Run.app (Run.app ⟨_, p_m3u, _, p_ver _ (by omega), rfl⟩ (k3 _ ⟨rfl, rfl, rfl, rfl, rfl, rfl⟩)) b2
 have htx0 : (catS (cat (((⟨#[35, 69, 88, 84, 77, 51, 85, 10, 35, 69, 88, 84, 45, 88, 45, 86, 69, 82, 83, 73, 79, 78, 58]⟩ : ByteArray) ++ (dec m.version)) ++ (⟨#[10]⟩ : ByteArray)) m.head) (xs.map (·.1))).data.toList = flatLn ([c_m3u, c_ver ++ (dec m.version).data.toList] ++ hl1 ++ sl) [] := by
  rw [b1, cat_list _ _ _ k1, data_app, data_app, flatLn_app, flatLn_app, flatLn_last hl1 (flatLn sl [])]
  show _ = c_m3u ++ 10 :: ((c_ver ++ (dec m.version).data.toList) ++ 10 :: (flatLn hl1 [] ++ flatLn sl []))
  simp [c_m3u, c_ver]
 have hlin0 : ∀ ln ∈ [c_m3u, c_ver ++ (dec m.version).data.toList] ++ hl1 ++ sl, Lin ln := by
  intro ln h
  rcases List.mem_append.1 h with h | h
  ·rcases List.mem_append.1 h with h | h
   ·simp only [List.mem_cons, List.not_mem_nil, or_false] at h
    rcases h with rfl | rfl
    ·exact lin_m3u
    ·exact lin_ver _
   ·exact k2 ln h
  ·exact b4 ln h
 have hlen0 : ([c_m3u, c_ver ++ (dec m.version).data.toList] ++ hl1 ++ sl).length ≤ 200 := by
  have h1 := k1.len
  have h2 := (head_size hm).2
  simp only [List.length_append, List.length_cons, List.length_nil]
  omega
 have hrd0 : ∀ ls, rdS false false 0 (([c_m3u, c_ver ++ (dec m.version).data.toList] ++ hl1 ++ sl).map LB ++ ls) = rdS false false (0 + xs.length) ls := by
  intro ls
  rw [List.map_append, List.map_append, List.append_assoc, List.append_assoc]
  show rdS false false 0 (LB c_m3u :: LB (c_ver ++ (dec m.version).data.toList) :: (hl1.map LB ++ (sl.map LB ++ ls))) = _
  rw [rdS_tagl (ln := c_m3u) ⟨by decide, by decide⟩, rdS_tagl (ln := c_ver ++ (dec m.version).data.toList) (tag_pre (by decide) (by decide)), km_no (p := c_ver) (by decide) (by decide), show KMb c_m3u = false from by decide, Bool.or_false, Bool.or_false, k4, Bool.or_false, b6]
 have hfin : ∀ n, rdS false false n [LB []] = true := fun n => by
  rw [rdS, list_of]
  rfl
 have hro : ReadOf m xs { r1 with closed := m.closed } := ⟨b3.tgt, b3.seq, b3.iframe, rfl, b3.typ, b3.disc, b3.start, b3.precise, b3.ver, b3.pkey, b3.pmap, b3.len, b3.segs⟩
 have hfl := b3.fl
 have hnone : StepOk B G ⟨([] : List UInt8).toArray⟩ ({ r1 with closed := m.closed } : Rst) { r1 with closed := m.closed } := p_none hfl.inf hfl.range hfl.dis hfl.dat hfl.ky hfl.mp
 have hasc : ∀ (lns : List (List UInt8)) (s : ByteArray), s.data.toList = flatLn lns [] → (∀ ln ∈ lns, Lin ln) → Asc s := by
  intro lns s hs hln j b hb
  have h1 := List.mem_of_getElem? hb
  rw [hs] at h1
  rcases flat_mem _ h1 with ⟨l, h2, h3⟩ | h2 | h2
  ·exact ((hln l h2).sgs b h3).2
  ·rw [h2]; decide
  ·cases h2
 cases hc : m.closed with
 | false =>
  have hw : m.write (xs.map (·.1)) = catS (cat (((⟨#[35, 69, 88, 84, 77, 51, 85, 10, 35, 69, 88, 84, 45, 88, 45, 86, 69, 82, 83, 73, 79, 78, 58]⟩ : ByteArray) ++ (dec m.version)) ++ (⟨#[10]⟩ : ByteArray)) m.head) (xs.map (·.1)) := by
   unfold Md.write
   rw [hc]
   rfl
  have hr : ({ r1 with closed := m.closed } : Rst) = r1 := by rw [hc, ← b3.closed]
  rw [hr] at hro hnone
  refine ⟨r1, [c_m3u, c_ver ++ (dec m.version).data.toList] ++ hl1 ++ sl, by rw [hw]; exact htx0, hrun0, hnone, b3.m3, hro, fun ln h => (hlin0 ln h).sgs.ne10, by rw [hw]; exact hasc _ _ htx0 hlin0, by omega, ?_⟩
  rw [trL_all hlin0, hrd0, hfin]
 | true =>
  have hw : m.write (xs.map (·.1)) = catS (cat (((⟨#[35, 69, 88, 84, 77, 51, 85, 10, 35, 69, 88, 84, 45, 88, 45, 86, 69, 82, 83, 73, 79, 78, 58]⟩ : ByteArray) ++ (dec m.version)) ++ (⟨#[10]⟩ : ByteArray)) m.head) (xs.map (·.1)) ++ (⟨#[35, 69, 88, 84, 45, 88, 45, 69, 78, 68, 76, 73, 83, 84, 10]⟩ : ByteArray) := by
   unfold Md.write
   rw [hc]
   rfl
  have htx1 : (m.write (xs.map (·.1))).data.toList = flatLn ([c_m3u, c_ver ++ (dec m.version).data.toList] ++ hl1 ++ sl ++ [c_end]) [] := by
   rw [hw, data_app, htx0, flatLn_app _ [c_end], flatLn_last _ (flatLn [c_end] [])]
   rfl
  have hlin1 : ∀ ln ∈ [c_m3u, c_ver ++ (dec m.version).data.toList] ++ hl1 ++ sl ++ [c_end], Lin ln := by
   intro ln h
   rcases List.mem_append.1 h with h | h
   ·exact hlin0 ln h
   ·rw [List.mem_singleton.1 h]; exact lin_end
  rw [hc] at hro hnone
  refine ⟨{ r1 with closed := true }, [c_m3u, c_ver ++ (dec m.version).data.toList] ++ hl1 ++ sl ++ [c_end], htx1, Run.app hrun0 ⟨_, p_end, rfl⟩, hnone, b3.m3, hro, fun ln h => (hlin1 ln h).sgs.ne10, hasc _ _ htx1 hlin1, by rw [List.length_append, List.length_singleton]; omega, ?_⟩
  rw [trL_all hlin1, List.map_append, List.append_assoc, hrd0, List.map_singleton, List.singleton_append, rdS_tagl (ln := c_end) ⟨by decide, by decide⟩, show KMb c_end = false from by decide, Bool.or_false, hfin]
theorem fnGrow_any {B : Nat} {G : Ge} (A : Option Addr) (len cap n pl : Nat) (st : Bool) (hn : n < 4294967296) (hpl : pl < 256) (hlen : len ≤ cap) (hl64 : len < 9223372036854775808) (w : World) (hG : Env B G w) (hA : U32s w A len) : Calls Tryz.prog 3 #[.slice A len cap, .int .u32 n, .int .u8 pl, .bool st] w fun e w' => e = .returned (.bool true) ∧ Below w.heap.size w w' :=
 fnGrow_walk A len cap n pl st hn hpl hlen hl64 floats_ok (fun _ _ h1 h2 h3 _ => plain_any h1 h2 h3) w hG hA
end Go.Proofs.YtflppablgdegcaaGreatDoor
set_option maxRecDepth 100000
namespace Go.Proofs.YtflppablgdegcaaGreatDoor
open Go.Shelf Go.RowKit Go.Sort Go.Lib Go.WideShapes
abbrev laid9 : List (String × DataW Unit) := [("math/bits.deBruijn32tab", Rows.laid_math_bits_deBruijn32tab), ("math/bits.deBruijn64tab", Rows.laid_math_bits_deBruijn64tab), ("internal/strconv.float64info", Rows.laid_internal_strconv_float64info), ("internal/strconv.optimize", Rows.laid_internal_strconv_optimize), ("internal/strconv.float64pow10", Rows.laid_internal_strconv_float64pow10), ("io.EOF", Rows.laid_io_EOF), ("bytes.asciiSpace", Rows.laid_bytes_asciiSpace), ("strings.asciiSpace", Rows.laid_strings_asciiSpace), ("loop.example/pub-g03455/pub/m3u8.ErrPlaylistFull", Rows.laid_loop_example_pub_g03455_pub_m3u8_ErrPlaylistFull)]
theorem trod_float {H : Type} {enc : TypeId × Value → H} {P : Program} {w : World} {base : Nat} {sp : Nat → Bool} {held : Bool} {fuel : Nat} {t : TypeId} {cs : List Value} {x : DataW H × List MemPlace} {k : FloatKind} (ht : P.underlying t = some (.float k)) (h : DataW.trod enc P w base sp held fuel t cs = some x) : ∃ b, cs = [.float k b] ∧ x = (.lit (.float k b), []) := by
 cases fuel with
 | zero => simp [DataW.trod] at h
 | succ n =>
  unfold DataW.trod at h
  rw [ht] at h
  split at h <;> simp_all
theorem trod_err {P : Program} {w : World} {base : Nat} {sp : Nat → Bool} {fuel : Nat} {t : TypeId} {ms : Array (String × TypeId)} {cs : List Value} {name : String} {d : DataW Unit} {p : List MemPlace} (ht : P.underlying t = some (.interface ms)) (h : DataW.trod (fun _ => ()) P w base sp false fuel t cs = some (.iface name d, p)) : ∃ u v n q, cs = [.iface u v] ∧ P.typeName? 3 u = some name ∧ DataW.trod (fun _ => ()) P w base sp false n u v.cells.toList = some (d, q) := by
 cases fuel with
 | zero => simp [DataW.trod] at h
 | succ n =>
  rcases cs with _ | ⟨c, _ | ⟨c2, r⟩⟩
  ·simp [DataW.trod, ht] at h
  ·cases c
   case iface u v =>
    simp only [DataW.trod, ht] at h
    cases hn : P.typeName? 3 u with
    | none => rw [hn] at h; cases h
    | some nm =>
     rw [hn] at h
     obtain ⟨x, hx, he⟩ := Option.map_eq_some_iff.1 h
     simp only [Prod.mk.injEq, DataW.iface.injEq] at he
     obtain ⟨⟨h1, h2⟩, _⟩ := he
     exact ⟨u, v, n, x.2, rfl, by rw [hn, h1], by rw [hx, ← h2]⟩
   all_goals (simp [DataW.trod, ht] at h)
  ·simp [DataW.trod, ht] at h
def esName : String := "*errors.errorString"
theorem star : ("*" ++ "errors.errorString" : String) = esName := by decide
theorem es_of {u : TypeId} (h : Tryz.prog.typeName? 3 u = some esName) : u = 137 :=
 typeName_ptr_named (nm := "errors.errorString") (by rw [star]; kernel_rfl) (by kernel_rfl) (by decide) u (by rw [star]; exact h)
theorem err_cell {W : World} {fuel : Nat} {cs : Array Value} {d : DataW Unit} {p : List MemPlace} {g : Nat} (hc : ∀ i, W.cell? ⟨g, i, none⟩ = cs[i]?) (hw : ∀ u v, W.cell? ⟨g, 0, none⟩ = some (.iface u v) → Value.okWide Tryz.prog W .any 0 u v) (h : DataW.trod (fun _ => ()) Tryz.prog W 0 (fun _ => true) false fuel 58 cs.toList = some (.iface esName (.ptr d), p)) : ∃ a : Addr, W.cell? ⟨g, 0, none⟩ = some (.iface 137 (.pointer (some a))) := by
 obtain ⟨u, v, n, q, h1, h2, h3⟩ := trod_err Tryz.underlying58 h
 obtain rfl := es_of h2
 have h4 : W.cell? ⟨g, 0, none⟩ = some (.iface 137 v) := by
  rw [hc, show cs[0]? = cs.toList[0]? by simp, h1]
  rfl
 obtain ⟨a, rfl⟩ := okWide_pointer Tryz.underlying137 (hw _ _ h4)
 rcases DataW.trod_pointer Tryz.underlying137 h3 with ⟨_, h5⟩ | ⟨b, _, _, _, _, h5, _⟩
 ·simp at h5
 ·have h6 : a = some b := by simpa [Value.cells] using h5
  exact ⟨b, by rw [h4, h6]⟩
theorem fl_struct : ∃ fs : Array Field, Tryz.prog.underlying 234 = some (.struct fs) ∧ (fs[0]?).map (fun f => (f.type, f.offset)) = some (48, 0) := ⟨_, Tryz.underlying234, rfl⟩
theorem cu : Tryz.prog.cellsOf 48 = 1 := by kernel_rfl
theorem cf64 : Tryz.prog.cellsOf 35 = 1 := by kernel_rfl
theorem cu8 : Tryz.prog.cellsOf 5 = 1 := by kernel_rfl
theorem c256 : Tryz.prog.cellsOf 136 = 256 := by kernel_rfl
theorem spB : (Rows.laid_bytes_asciiSpace : DataW Unit) = tabData .u8 asciiSpaceTab := by kernel_rfl
theorem spS : (Rows.laid_strings_asciiSpace : DataW Unit) = tabData .u8 asciiSpaceTab := by kernel_rfl
theorem mem_row {b n : Nat} (h : 0 < n) : MemPlace.cell b 0 ∈ MemPlace.row ⟨b, 0, none⟩ n := by
 unfold MemPlace.row
 exact List.mem_map.2 ⟨0, List.mem_range.2 h, rfl⟩
theorem tab_of {W : World} {fuel : Nat} {cs : Array Value} {p : List MemPlace} {name : String} (hv : W.var? Tryz.prog name = some cs) (h : DataW.trod (fun _ => ()) Tryz.prog W 0 (fun _ => true) false fuel 136 cs.toList = some (tabData .u8 asciiSpaceTab, p)) : Lib.TabIs Tryz.prog W name .u8 asciiSpaceTab := by
 show W.var? Tryz.prog name = some _
 rw [hv, ← cells_of_tab (zs := asciiSpaceTab) Tryz.underlying136 Tryz.underlying5 cu8 c256 h]
theorem env_of_laid {W : World} (h : laidMetH Tryz.prog laid9 W) : ∃ G : Ge, Env W.heap.size G W := by
 rw [Go.MakeChecks.laidMetH_plain _ _ _ (by kernel_rfl)] at h
 obtain ⟨ps, h, _, hok⟩ := h
 obtain ⟨_, _, _, _, _, q0, _, _, _, _, h, hp0⟩ := h
 obtain ⟨g1, _, cs1, _, _, q1, hg1, _, hv1, _, h, hp1⟩ := h
 obtain ⟨g2, t2, cs2, fuel2, p2, q2, hg2, ht2, hv2, hd2, h, hp2⟩ := h
 obtain ⟨g3, t3, cs3, fuel3, p3, q3, hg3, ht3, hv3, hd3, h, hp3⟩ := h
 obtain ⟨g4, t4, cs4, fuel4, p4, q4, hg4, ht4, hv4, hd4, h, hp4⟩ := h
 obtain ⟨g5, t5, cs5, fuel5, p5, q5, hg5, ht5, hv5, hd5, h, hp5⟩ := h
 obtain ⟨g6, t6, cs6, fuel6, p6, q6, hg6, ht6, hv6, hd6, h, hp6⟩ := h
 obtain ⟨g7, t7, cs7, fuel7, p7, q7, hg7, ht7, hv7, hd7, h, hp7⟩ := h
 obtain ⟨g8, t8, cs8, fuel8, p8, q8, hg8, ht8, hv8, hd8, h, hp8⟩ := h
 have n1 : Tryz.prog.globalNamed "math/bits.deBruijn64tab" = some 23 := by kernel_rfl
 obtain rfl := Option.some.inj (n1.symm.trans hg1)
 have n2 : Tryz.prog.globalNamed "internal/strconv.float64info" = some 15 := by kernel_rfl
 obtain rfl := Option.some.inj (n2.symm.trans hg2)
 obtain rfl := Option.some.inj ((show (Tryz.prog.globals[15]?).map (·.type) = some 234 by kernel_rfl).symm.trans ht2)
 have n3 : Tryz.prog.globalNamed "internal/strconv.optimize" = some 14 := by kernel_rfl
 obtain rfl := Option.some.inj (n3.symm.trans hg3)
 obtain rfl := Option.some.inj ((show (Tryz.prog.globals[14]?).map (·.type) = some 4 by kernel_rfl).symm.trans ht3)
 have n4 : Tryz.prog.globalNamed "internal/strconv.float64pow10" = some 18 := by kernel_rfl
 obtain rfl := Option.some.inj (n4.symm.trans hg4)
 obtain rfl := Option.some.inj ((show (Tryz.prog.globals[18]?).map (·.type) = some 268 by kernel_rfl).symm.trans ht4)
 have n5 : Tryz.prog.globalNamed "io.EOF" = some 1 := by kernel_rfl
 obtain rfl := Option.some.inj (n5.symm.trans hg5)
 obtain rfl := Option.some.inj ((show (Tryz.prog.globals[1]?).map (·.type) = some 58 by kernel_rfl).symm.trans ht5)
 have n6 : Tryz.prog.globalNamed "bytes.asciiSpace" = some 2 := by kernel_rfl
 obtain rfl := Option.some.inj (n6.symm.trans hg6)
 obtain rfl := Option.some.inj ((show (Tryz.prog.globals[2]?).map (·.type) = some 136 by kernel_rfl).symm.trans ht6)
 have n7 : Tryz.prog.globalNamed "strings.asciiSpace" = some 6 := by kernel_rfl
 obtain rfl := Option.some.inj (n7.symm.trans hg7)
 obtain rfl := Option.some.inj ((show (Tryz.prog.globals[6]?).map (·.type) = some 136 by kernel_rfl).symm.trans ht7)
 have n8 : Tryz.prog.globalNamed "loop.example/pub-g03455/pub/m3u8.ErrPlaylistFull" = some 4 := by kernel_rfl
 obtain rfl := Option.some.inj (n8.symm.trans hg8)
 obtain rfl := Option.some.inj ((show (Tryz.prog.globals[4]?).map (·.type) = some 58 by kernel_rfl).symm.trans ht8)
 have hB : 24 ≤ W.heap.size := by
  simp only [World.var?, n1, Option.bind_some] at hv1
  rcases Nat.lt_or_ge 23 W.heap.size with hl | hl
  ·exact hl
  ·rw [Array.getElem?_eq_none hl] at hv1; cases hv1
 have hps : ∀ x, x ∈ ps ↔ x ∈ ps := fun _ => Iff.rfl
 have hin : ∀ x, (x ∈ q4 → x ∈ ps) := fun x hx => by rw [hp0, hp1, hp2, hp3, hp4]; simp only [List.mem_append]; exact .inr (.inr (.inr (.inr (.inr hx))))
 have hw5 : ∀ u v, W.cell? ⟨1, 0, none⟩ = some (.iface u v) → Value.okWide Tryz.prog W .any 0 u v := by
  refine (hok 1 0 (hin _ ?_)).2
  rw [hp5]
  refine List.mem_append_left _ (List.mem_append_left _ (mem_row ?_))
  rcases Nat.eq_zero_or_pos cs5.size with hz | hz
  ·have e : cs5.toList = [] := by simpa using Array.eq_empty_of_size_eq_zero hz
   rw [e] at hd5
   cases fuel5 <;> simp [DataW.trod, Tryz.underlying58] at hd5
  ·exact hz
 have hw8 : ∀ u v, W.cell? ⟨4, 0, none⟩ = some (.iface u v) → Value.okWide Tryz.prog W .any 0 u v := by
  refine (hok 4 0 (hin _ ?_)).2
  rw [hp5, hp6, hp7, hp8]
  simp only [List.mem_append]
  refine .inr (.inr (.inr (.inl (.inl (mem_row ?_)))))
  rcases Nat.eq_zero_or_pos cs8.size with hz | hz
  ·have e : cs8.toList = [] := by simpa using Array.eq_empty_of_size_eq_zero hz
   rw [e] at hd8
   cases fuel8 <;> simp [DataW.trod, Tryz.underlying58] at hd8
  ·exact hz
 obtain ⟨aE, hE⟩ := err_cell (World.var?_cell n5 hv5) hw5 hd5
 obtain ⟨aF, hF⟩ := err_cell (World.var?_cell n8 hv8) hw8 hd8
 have hopt : W.cell? ⟨14, 0, none⟩ = some (.bool true) := by
  obtain ⟨b, hb, hx⟩ := DataW.trod_bool Tryz.underlying4 hd3
  have hbt : b = true := by
   have h5 : (DataW.lit (.bool true) : DataW Unit) = .lit (.bool b) := congrArg Prod.fst hx
   simp only [DataW.lit.injEq, Lit.bool.injEq] at h5
   exact h5.symm
  rw [World.var?_cell n3 hv3 0]
  have : cs3[0]? = cs3.toList[0]? := by simp
  rw [this, hb, hbt]
  rfl
 have hbits : W.cell? ⟨15, 0, none⟩ = some (.int .u64 52) := by
  obtain ⟨fs, hst, hf0⟩ := fl_struct
  obtain ⟨xs, n, _, hx, hlen, hxl, hat⟩ := DataW.trod_struct hst hd2
  cases e0 : fs[0]? with
  | none => rw [e0] at hf0; cases hf0
  | some f0 =>
   rw [e0] at hf0
   have t0 := Option.some.inj hf0
   simp only [Prod.mk.injEq] at t0
   have hy := hat 0 f0 e0
   rw [t0.1, t0.2, cu] at hy
   have hx1 : (Rows.laid_internal_strconv_float64info : DataW Unit) = .agg (xs.map (·.1)) := congrArg Prod.fst hx
   unfold Rows.laid_internal_strconv_float64info at hx1
   rw [DataW.agg.injEq] at hx1
   cases hx0 : xs[0]? with
   | none =>
    have h0 := congrArg (·[0]?) hx1
    simp [hx0] at h0
   | some x0 =>
    rw [hx0] at hy
    obtain ⟨z, hc, hz, _⟩ := DataW.trod_int Tryz.underlying48 hy
    have h0 := congrArg (·[0]?) hx1
    simp [hx0, hz] at h0
    have k0 := congrArg (·[0]?) hc
    simp [List.getElem?_take, List.getElem?_drop] at k0
    rw [World.var?_cell n2 hv2 0]
    rw [← h0] at k0
    simpa using k0
 obtain ⟨ap, cp, hcs4, hlc, hat4⟩ := open_row (ds := p10bits.map fun x => .lit (.float .f64 x)) Tryz.underlying268 cf64 hd4
 have hpw : W.cell? ⟨18, 0, none⟩ = some (.slice (some ap) 23 cp) := by
  rw [World.var?_cell n4 hv4 0]
  have : cs4[0]? = cs4.toList[0]? := by simp
  rw [this, hcs4]
  rfl
 have hpows : ∀ i x, p10bits[i]? = some x → W.cell? (ap.add i) = some (.float .f64 x) := by
  intro i x hx
  obtain ⟨v, n, q, h1, h2⟩ := hat4 i (.lit (.float .f64 x)) (by rw [List.getElem?_map, hx]; rfl)
  obtain ⟨b, hb, hy⟩ := trod_float Tryz.underlying35 h2
  simp only [Prod.mk.injEq, DataW.lit.injEq, Lit.float.injEq, true_and] at hy
  rw [h1, List.cons.inj hb |>.1, hy.1]
 have hpB : ap.block < W.heap.size := by
  have h1 := World.block_lt_of_cell? W _ (hpows 0 _ rfl)
  have hb : (ap.add 0).block = ap.block := by unfold Addr.add; split <;> rfl
  rw [hb] at h1; exact h1
 exact ⟨⟨aE, aF, ap, 23, cp⟩, hB, Nat.le_refl _, tab_of hv6 (spB ▸ hd6), tab_of hv7 (spS ▸ hd7), hE, hF, hopt, hbits, hpw, hpB, by show 23 ≤ 23; omega, hpows⟩
end Go.Proofs.YtflppablgdegcaaGreatDoor
set_option maxRecDepth 100000
namespace Go.Proofs.YtflppablgdegcaaGreatDoor.fnGrow
open Go.ChangeShapes Go.WideShapes Go.ChangeAt Go.RowKit
open Go.ChangeMaps (open_string shut_string)
set_option linter.unusedVariables false

theorem own : ownKnob Tryz.prog.godebug = none := by kernel_rfl
theorem gFull : Tryz.prog.globalNamed "loop.example/pub-g03455/pub/m3u8.ErrPlaylistFull" = some 4 := by kernel_rfl
theorem tFull : (Tryz.prog.globals[4]?).map (·.type) = some 58 := by kernel_rfl
theorem laidOut : laidOutB Tryz.prog = true := by kernel_rfl

def IsRow (k : IntKind) (w : World) (a : Option Addr) (len cap : Nat) (zs : List Int) : Prop :=
 (a = none ∧ len = 0 ∧ cap = 0 ∧ zs = []) ∨
 ∃ x, a = some x ∧ len ≤ cap ∧ cap ≤ maxLen ∧ zs.length = cap ∧ (∀ i, i < zs.length → w.cell? (x.add i) = some (.int k (zs.getD i 0))) ∧ ∀ n ∈ zs, (Lit.int k n).wf = true

theorem u32_nat {x : Int} (h : (Lit.int .u32 x).wf = true) : ∃ n : Nat, x = n ∧ n < 4294967296 := by
 simp only [Lit.wf, Bool.and_eq_true, decide_eq_true_eq] at h
 have h0 : IntKind.u32.min = 0 := by decide
 have h1 : IntKind.u32.max = 4294967295 := by decide
 rw [h0, h1] at h
 exact ⟨x.toNat, by omega, by omega⟩

theorem u8_nat {x : Int} (h : (Lit.int .u8 x).wf = true) : ∃ n : Nat, x = n ∧ n < 256 := by
 simp only [Lit.wf, Bool.and_eq_true, decide_eq_true_eq] at h
 have h0 : IntKind.u8.min = 0 := by decide
 have h1 : IntKind.u8.max = 255 := by decide
 rw [h0, h1] at h
 exact ⟨x.toNat, by omega, by omega⟩
theorem walk (a0 : Option Addr) (len0 cap0 : Nat) (z0 : List Int) (a1 a2 : Int) (b3 : Bool) (w : World) (w0 : IsRow .u32 w a0 len0 cap0 z0) (w1 : (Lit.int .u32 a1).wf = true) (w2 : (Lit.int .u8 a2).wf = true) (hl63 : len0 < 9223372036854775808) (hT : laidMetH Tryz.prog laid9 w) :
  Calls Tryz.prog 3 #[.slice a0 len0 cap0, .int .u32 a1, .int .u8 a2, .bool b3] w fun e w' => e = .returned (.bool true) ∧ Below w.heap.size w w' := by
 have hU : U32s w a0 len0 := by
  rcases w0 with ⟨rfl, rfl, _, _⟩ | ⟨x, rfl, hl, _, hz, hc, hw⟩
  ·intro j hj; omega
  ·intro j hj
   have hjz : j < z0.length := by omega
   have h1 := hc j hjz
   have h2 := hw _ (List.getElem_mem hjz)
   rw [List.getD_eq_getElem?_getD, List.getElem?_eq_getElem hjz, Option.getD_some] at h1
   obtain ⟨y, hy, hy2⟩ := u32_nat h2
   exact ⟨x, y, rfl, by rw [h1, hy], hy2⟩
 have hle : len0 ≤ cap0 := by
  rcases w0 with ⟨_, rfl, rfl, _⟩ | ⟨x, _, hl, hm, _⟩
  ·omega
  ·exact hl
 obtain ⟨n, rfl, hn⟩ := u32_nat w1
 obtain ⟨k, rfl, hk⟩ := u8_nat w2
 obtain ⟨G, hG⟩ := env_of_laid hT
 exact fnGrow_any a0 len0 cap0 n k b3 hn hk hle hl63 w hG hU

/-! ### THE ROW's STEP -/
theorem lifted (os : Go.Os) (started : os.Started) (H : Type) (enc : TypeId × Value → H) :
  ReturnsInHanded {} Tryz.checked os 3 .any (fun w args => (Rows.fnGrowSpec.pre enc Tryz.prog Tryz.f3 [] false w args ∧ laidMetH Tryz.prog laid9 w) ∧ sizedMet enc Tryz.prog Tryz.f3 (OpenSpec.ofChange Rows.fnGrowSpec) false w args)
   (Rows.fnGrowSpec.post enc Tryz.prog Tryz.f3 false true false false) := by
 refine returnsInHanded_of_change_and (C := Tryz.checked) (X := fun w _ => laidMetH Tryz.prog laid9 w) (fun _ _ _ hh h => h.of_heap hh) own started (by kernel_rfl) Tryz.func3
  (ChangeSpec.witness_shaped (enc := enc) (C := Tryz.checked) (os := os) (X := fun w _ => laidMetH Tryz.prog laid9 w) false (World.laidAll Tryz.prog os laid9) #[.slice none 0 0, .int .u32 0, .int .u8 0, .bool false] 8 (World.laidAll_os _ _ _)
   (World.shaped_of_ZipB (by kernel_rfl) (by kernel_rfl)) (by kernel_rfl) (by kernel_rfl) (by kernel_rfl)
   (by rw [MakeChecks.laidMetH_plain _ _ _ (by kernel_rfl)]; exact laidMet_laidAll _ (by kernel_rfl) (by kernel_rfl))) ?_
 intro W base args ds gs before hval0 hW _ _ hL _
 have hval : ∀ (j : Nat) t v, Tryz.f3.params[j]? = some t → args[j]? = some v → Value.okWide Tryz.prog W .any base t v := hval0
 have hW' := hW
 obtain ⟨p, q, hA0, hV0, rfl, hfz, hnd⟩ := hW
 have hA : DataW.TrodAll enc Tryz.prog W 0 (fun _ => true) true Tryz.f3.params.toList args.toList ds p := hA0
 have hV : DataW.TrodVars enc Tryz.prog W (fun _ => true) ["loop.example/pub-g03455/pub/m3u8.ErrPlaylistFull"] gs q := hV0
 rw [Tryz.params3] at hA hval
 obtain ⟨v0, vs0, d0, ds0, p0, q0, hargs, rfl, rfl, h0, r0⟩ := trodAll_cons hA
 obtain ⟨v1, vs1, d1, ds1, p1, q1, rfl, rfl, rfl, h1, r1⟩ := trodAll_cons r0
 obtain ⟨v2, vs2, d2, ds2, p2, q2, rfl, rfl, rfl, h2, r2⟩ := trodAll_cons r1
 obtain ⟨v3, vs3, d3, ds3, p3, q3, rfl, rfl, rfl, h3, r3⟩ := trodAll_cons r2
 obtain ⟨rfl, rfl, rfl⟩ := trodAll_nil r3
 obtain rfl : args = #[v0, v1, v2, v3] := by cases args; simp_all
 obtain ⟨g, t, cs, fuel, d, p', rfl, hg, ht, hvar, hd, rfl⟩ := trodVars_one hV
 obtain rfl := Option.some.inj (gFull.symm.trans hg)
 obtain rfl := Option.some.inj (tFull.symm.trans ht)
 obtain ⟨old, hcs, ho, hx⟩ := held_of_trod_list Tryz.underlying58 hd
 simp only [Prod.mk.injEq] at hx
 obtain ⟨rfl, rfl⟩ := hx
 have hcs' : cs = #[old] := by
  cases cs
  simp_all
 subst hcs'
 obtain ⟨a0, len0, cap0, rfl⟩ := okWide_slice Tryz.underlying22 (hval 0 22 v0 rfl rfl)
 have k0 := h0
 have lt0 : ∀ x ∈ p0, x.block < W.heap.size := by obtain ⟨m, hm⟩ := k0; exact DataW.trod_lt m _ _ _ hm
 obtain ⟨z0, w0⟩ : ∃ zs, IsRow .u32 W a0 len0 cap0 zs := by
  obtain ⟨fuel, hf⟩ := h0
  rcases open_ints Tryz.underlying22 Tryz.underlying23 (by kernel_rfl) hf with ⟨hcs, _⟩ | ⟨x, l, c, zs, hcs, _, hl, hm, hz, _, hcell, hwz⟩
  ·simp [Value.cells] at hcs
   obtain ⟨rfl, rfl, rfl⟩ := hcs
   exact ⟨[], .inl ⟨rfl, rfl, rfl, rfl⟩⟩
  ·simp [Value.cells] at hcs
   obtain ⟨rfl, rfl, rfl⟩ := hcs
   exact ⟨zs, .inr ⟨_, rfl, hl, hm, by simpa using hz, hcell, hwz⟩⟩
 obtain ⟨a1, rfl, rfl, rfl, w1⟩ := open_int Tryz.underlying23 (hval 1 23 v1 rfl rfl) h1
 obtain ⟨a2, rfl, rfl, rfl, w2⟩ := open_int Tryz.underlying5 (hval 2 5 v2 rfl rfl) h2
 obtain ⟨b3, rfl, rfl, rfl⟩ := open_bool Tryz.underlying4 (hval 3 4 v3 rfl rfl) h3
 have hlt : 4 < W.heap.size := by
  rcases Nat.lt_or_ge 4 W.heap.size with h | h
  ·exact h
  ·simp [World.var?, gFull, Array.getElem?_eq_none h] at hvar
 have hl63 : len0 < 9223372036854775808 := by
  rcases w0 with ⟨_, rfl, _, _⟩ | ⟨x, _, hl, hm, _⟩
  ·omega
  ·unfold maxLen at hm; omega
 clear hA0 hval0
 refine (walk a0 len0 cap0 z0 a1 a2 b3 W w0 w1 w2 hl63 hL).mono fun e W' ⟨he, bel⟩ => ?_
 subst he
 have hvar' := var?_below bel hg hlt hvar
 exact ⟨_, rfl, _, _, _, [], _, _, hW', trodAll_mk1 (shut_bool Tryz.underlying4 _), (trodAll_cons_mk (Below.trod laidOut (by kernel_rfl) (of_decide_eq_true (by kernel_rfl)) k0 bel lt0) (trodAll_cons_mk (shut_int Tryz.underlying23 w1) (trodAll_cons_mk (shut_int Tryz.underlying5 w2) (trodAll_cons_mk (shut_bool Tryz.underlying4 _) trodAll_mk0)))),
  trodVars_mk1 (enc := enc) (fuel := 1) (d := tok enc old) (p := []) hg ht hvar' (trod_held Tryz.underlying58 ho 0), bel.frame _, fun h => by cases h⟩

theorem over : Rows.fnGrowRow.holds Tryz.pinned (OpenSpec.ofChange Rows.fnGrowSpec) :=
 OpenClaim.holds_of_wide 3 Tryz.f3 rfl rfl rfl rfl rfl rfl rfl ⟨rfl, rfl, rfl, rfl, rfl⟩ rfl rfl rfl rfl rfl (by kernel_rfl) Tryz.func3 (by kernel_rfl)
  (of_decide_eq_true (by kernel_rfl)) (by unfold Func.isWrapper; first | (rw [if_pos (by decide +kernel)]; kernel_rfl) | (rw [if_neg (by decide +kernel)]; exact ⟨rfl, rfl⟩))
  (fun os started H enc _ => lifted os started H enc)

theorem proved : Rows.FnGrowSaid := over
end Go.Proofs.YtflppablgdegcaaGreatDoor.fnGrow
namespace Go.Proofs.YtflppablgdegcaaGreatDoor
theorem fnGrow_holds : Rows.FnGrowSaid := fnGrow.proved
#print axioms fnGrow_holds
end Go.Proofs.YtflppablgdegcaaGreatDoor
namespace Go.Proofs.YtflppablgdegcaaGreatDoor
open Go

theorem fnGrow_card : Rows.FnGrowCardSaid :=
 Claim7.holds_tied_plain_at .later [] [.data, .data, .widerDeep, .data, .data, .sentinel, .data, .data, .sentinel] true (true, "76e6d52907818d44a82d0a77e429536a23b46cf9dac0955b57e62d5c07fb55a1") true
  fnGrow_holds (fun _ h => by cases h) (by kernel_rfl) (fun _ h => by cases h) fnGrow_row_tie rfl ⟨rfl, rfl⟩ (by kernel_rfl) rfl
  (fun f fn hf hfn => by
   obtain rfl : f = 3 := Option.some.inj ((show Tryz.prog.funcNamed "loop.example/pub-g03455/laws.FnGrow" = some 3 by kernel_rfl).symm.trans hf) |>.symm
   obtain rfl : fn = Tryz.f3 := (Option.some.inj (Tryz.func3.symm.trans hfn)).symm
   exact ⟨by kernel_rfl, fun j t ht => by
    rw [Tryz.params3] at ht
    have hm : t ∈ [22, 23, 5, 4] := by simpa using Array.mem_of_getElem? ht
    have hall : ([22, 23, 5, 4].all fun u => !Tryz.prog.wantsStandIn u) = true := by kernel_rfl
    exact (show Tryz.prog.wantsStandIn t = false by simpa using List.all_eq_true.1 hall t hm)⟩)
  (by kernel_rfl)
#print axioms fnGrow_card
end Go.Proofs.YtflppablgdegcaaGreatDoor
