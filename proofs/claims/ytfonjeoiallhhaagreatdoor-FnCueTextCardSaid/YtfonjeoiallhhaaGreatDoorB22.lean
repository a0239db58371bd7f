/- Joined: Ed, Fi. -/
import Derived.Test.YtfonjeoiallhhaaGreatDoorB21
import Derived.Test.YtfonjeoiallhhaaGreatDoorB20
import Derived.Test.YtfonjeoiallhhaaGreatDoorLayi
import Derived.Shelf.Strconv.Itoa4
/- MediaPlaylist.Encode: a segment's round; the whole walk. Printed by wip/tools/gen_ed.py. -/
set_option maxRecDepth 100000
set_option maxHeartbeats 8000000
namespace Go.Proofs.YtfonjeoiallhhaaGreatDoor
open Go.RowKit
def tO {α : Type} (f : α → List UInt8) : Option α → List UInt8
 | none => []
 | some x => f x
/-- What a segment adds. -/
def segParts (p : Pq) (z : Mz) : List (List UInt8) := [tO t_cue z.c, tO t_key z.s.key, t_dis z, tO t_map z.s.map, t_date z, t_part z, t_r155, (secs z.s.e).data.toList, t_r163, t_r164 z, t_r165, t_r166 z, t_args p, t_r170]
def addL (s : List UInt8) (L : List (List UInt8)) : List UInt8 := L.foldl (fun s x => s ++ x) s
def segEnc (p : Pq) (s : List UInt8) (z : Mz) : List UInt8 := addL s (segParts p z)
def headParts (p : Pq) (tn st : Nat) : List (List UInt8) := [t_r3, t_r4 p, t_r5, t_typ p, t_r45, t_r46 p, t_r47, t_r48, t_r49 tn, t_r50, t_start p st, t_disc p, t_ifr p]
def encAll (p : Pq) (tn st : Nat) (L : List Mz) : List UInt8 := L.foldl (segEnc p) (addL [] (headParts p tn st)) ++ t_end p
structure SegE (z : Mz) : Prop where
 e : z.s.e < 160
 limit : z.s.limit < 9223372036854775808
 offset : z.s.offset < 9223372036854775808
 map : ∀ m, z.s.map = some m → m.limit < 9223372036854775808 ∧ m.offset < 9223372036854775808
 cue : ∀ c, z.c = some c → CueOk c ∧ (1 ≤ c.time ∨ c.typ = 2 ∨ c.syn = 0)
theorem EM.cells {p : Pq} {B pb gm : Nat} {w0 w : World} {s : List UInt8} (h : EM p B pb gm w0 s w) {g : Nat} {cs : Array Value} {t : TypeId} {fr : Nat × Nat} (hg : w0.heap[g]? = some (.cells cs t fr)) (ht : t ≠ 5) (hp : t ≠ 72) {pc : Array Value} {pf : Nat × Nat} (hpb : w0.heap[pb]? = some (.cells pc 72 pf)) : w.heap[g]? = some (.cells cs t fr) :=
 h.1.cells hg ht fun e => by
  rw [e, hpb] at hg
  injection hg with hg
  injection hg with _ h2 _
  exact hp h2.symm
theorem Ev.of89 {N : Nat} {l : List (Nat × Value)} {a a' : Act} {v8 v9 : Value} (h : Ev N l a) (hf : Fr N 10 (fun t => if t = 9 then v9 else if t = 8 then v8 else a.eval (.tmp t)) a') (hl : (l.all fun q => decide (q.1 < 8)) = true) : Ev N ((8, v8) :: (9, v9) :: l) a' := by
 refine ⟨hf.size, hf.defers, fun t v hv => ?_⟩
 by_cases e8 : t = 8
 ·subst e8; rw [look_eq] at hv; rw [← Option.some.inj hv]; exact hf.low 8 (by decide)
 ·rw [look_ne e8] at hv
  by_cases e9 : t = 9
  ·subst e9; rw [look_eq] at hv; rw [← Option.some.inj hv]; exact hf.low 9 (by decide)
  ·rw [look_ne e9] at hv
   have ht : t < 8 := by
    rw [List.all_eq_true] at hl
    have : ∀ (l : List (Nat × Value)), l.lookup t = some v → (t, v) ∈ l := by
     intro l
     induction l with
     | nil => intro h; cases h
     | cons q r ih =>
      intro h
      obtain ⟨k, u⟩ := q
      by_cases e : t = k
      ·subst e
       rw [look_eq] at h
       rw [Option.some.inj h]
       exact List.mem_cons_self ..
      ·rw [look_ne e] at h
       exact List.mem_cons_of_mem _ (ih h)
    exact of_decide_eq_true (hl _ (this l hv))
   have h1 := hf.low t (by omega)
   simp only [if_neg e9, if_neg e8] at h1
   rw [h1]
   exact h.look t v hv
theorem e_cueO {f : Nat → Value} {W : List UInt8 → World → Prop} {lim pb : Nat} (H : Wr W lim ⟨pb, 17, none⟩) (h0 : f 0 = pt pb 0) (p : Pq) (hP : ∀ s w, W s w → ∀ (j : Nat) (v : Value), p.rest j = some v → w.cell? ⟨pb, j, none⟩ = some v) (z : Mz) (gz : Nat) (h3 : f 3 = pt gz 0) (hZ : ∀ s w, W s w → w.heap[gz]? = some (.cells z.cells 104 (0, 0))) {w0 : World} (hE : SegE z) (hFF : ∀ x : Nat, x ≤ 400 → ∀ s w, W s w → Calls Tryz.prog 56 #[.float .f64 (e8 x), .int .u8 102, .int .i64 (-1), .int .i64 64] w fun e w' => e = .returned (.string (shorts x)) ∧ Below w.heap.size w w') (hK : PtrTo 121 (z.c.map Cq.mcells) z.cp w0) (hKs : ∀ s w, W s w → ∀ (g : Nat) (cs : Array Value), w0.heap[g]? = some (.cells cs 121 (0, 0)) → w.heap[g]? = some (.cells cs 121 (0, 0))) : Tr 1029 10 f W lim (cA (cB (cB (cB (cB (cA (cA (cB (cA (cA (cB (cA (cB (cB (cB (cB (cB (cB (cB (cB (cB (cB (cB (cB (cB (cB (cB (cB (cB (cB (cB (cB (cB encM))))))))))))))))))))))))))))))))) (tO t_cue z.c) := by
 rcases hK with ⟨h1, h2⟩ | ⟨g, cs, h1, h2, h3'⟩
 ·have h1' : z.c = none := by
   cases hh : z.c with
   | none => rfl
   | some x => rw [hh] at h1; cases h1
  rw [h1']
  exact Tr.optF (ts_cue0 H h0 p hP z gz h3 hZ h2)
 ·rw [Option.map_eq_some_iff] at h1
  obtain ⟨x, hx, rfl⟩ := h1
  rw [hx]
  exact Tr.iteT (ts_cue1 H h0 p hP z gz h3 hZ g h2) (e_cue H h0 p hP z gz h3 hZ g x (hE.cue x hx).1 (hE.cue x hx).2 h2 (fun s w hw => hKs s w hw g _ h3') hFF)
theorem e_keyO {f : Nat → Value} {W : List UInt8 → World → Prop} {lim pb : Nat} (H : Wr W lim ⟨pb, 17, none⟩) (h0 : f 0 = pt pb 0) (p : Pq) (hP : ∀ s w, W s w → ∀ (j : Nat) (v : Value), p.rest j = some v → w.cell? ⟨pb, j, none⟩ = some v) (z : Mz) (gz : Nat) (h3 : f 3 = pt gz 0) (hZ : ∀ s w, W s w → w.heap[gz]? = some (.cells z.cells 104 (0, 0))) {w0 : World} (hpk : p.kp = .pointer none) (hK : PtrTo 108 (z.s.key.map Ky.cells) z.kp w0) (hKs : ∀ s w, W s w → ∀ (g : Nat) (cs : Array Value), w0.heap[g]? = some (.cells cs 108 (0, 0)) → w.heap[g]? = some (.cells cs 108 (0, 0))) : Tr 1029 10 f W lim (cA (cB (cB (cB (cB (cB (cA (cA (cB (cA (cA (cB (cA (cB (cB (cB (cB (cB (cB (cB (cB (cB (cB (cB (cB (cB (cB (cB (cB (cB (cB (cB (cB (cB encM)))))))))))))))))))))))))))))))))) (tO t_key z.s.key) := by
 rcases hK with ⟨h1, h2⟩ | ⟨g, cs, h1, h2, h3'⟩
 ·have h1' : z.s.key = none := by
   cases hh : z.s.key with
   | none => rfl
   | some x => rw [hh] at h1; cases h1
  rw [h1']
  exact Tr.optF (ts_key0 H h0 p hP z gz h3 hZ hpk h2)
 ·rw [Option.map_eq_some_iff] at h1
  obtain ⟨x, hx, rfl⟩ := h1
  rw [hx]
  exact Tr.iteT (ts_key1 H h0 p hP z gz h3 hZ hpk g h2) (e_key H h0 p hP z gz h3 hZ g x h2 (fun s w hw => hKs s w hw g _ h3'))
theorem e_mapO {f : Nat → Value} {W : List UInt8 → World → Prop} {lim pb : Nat} (H : Wr W lim ⟨pb, 17, none⟩) (h0 : f 0 = pt pb 0) (p : Pq) (hP : ∀ s w, W s w → ∀ (j : Nat) (v : Value), p.rest j = some v → w.cell? ⟨pb, j, none⟩ = some v) (z : Mz) (gz : Nat) (h3 : f 3 = pt gz 0) (hZ : ∀ s w, W s w → w.heap[gz]? = some (.cells z.cells 104 (0, 0))) {w0 : World} (hpk : p.mp = .pointer none) (hE : SegE z) (hFI : ∀ (n : Nat), n < 9223372036854775808 → ∀ s w, W s w → Calls Tryz.prog 54 #[.int .i64 (n : Int), .int .i64 10] w fun e w' => e = .returned (.string (dec n)) ∧ Below w.heap.size w w') (hK : PtrTo 109 (z.s.map.map Mp.cells) z.mp w0) (hKs : ∀ s w, W s w → ∀ (g : Nat) (cs : Array Value), w0.heap[g]? = some (.cells cs 109 (0, 0)) → w.heap[g]? = some (.cells cs 109 (0, 0))) : Tr 1029 10 f W lim (cA (cB (cB (cB (cB (cB (cB (cB (cA (cA (cB (cA (cA (cB (cA (cB (cB (cB (cB (cB (cB (cB (cB (cB (cB (cB (cB (cB (cB (cB (cB (cB (cB (cB (cB (cB encM)))))))))))))))))))))))))))))))))))) (tO t_map z.s.map) := by
 rcases hK with ⟨h1, h2⟩ | ⟨g, cs, h1, h2, h3'⟩
 ·have h1' : z.s.map = none := by
   cases hh : z.s.map with
   | none => rfl
   | some x => rw [hh] at h1; cases h1
  rw [h1']
  exact Tr.optF (ts_map0 H h0 p hP z gz h3 hZ hpk h2)
 ·rw [Option.map_eq_some_iff] at h1
  obtain ⟨x, hx, rfl⟩ := h1
  rw [hx]
  exact Tr.iteT (ts_map1 H h0 p hP z gz h3 hZ hpk g h2) (e_map H h0 p hP z gz h3 hZ g x h2 (hE.map x hx).1 (hE.map x hx).2 (fun s w hw => hKs s w hw g _ h3') hFI)
theorem segRound_any (p : Pq) (B pb gm gs gz k m : Nat) (w0 : World) (z : Mz) (ps : List Value) (pc : Array Value) (hpb : w0.heap[pb]? = some (.cells pc 72 (0, 0))) (hsv : p.sv = .slice (some ⟨gs, 0, none⟩) p.cap p.cap) (hk : k < p.cap) (hcap : p.cap ≤ 100000) (hps : w0.heap[gs]? = some (.cells ps.toArray 76 (0, 0))) (hpk : ps[k]? = some (pt gz 0)) (hz0 : w0.heap[gz]? = some (.cells z.cells 104 (0, 0))) (hzA : z.At w0) (hzE : SegE z) (hkp : p.kp = .pointer none) (hmp : p.mp = .pointer none) (hgm : w0.heap.size ≤ gm) (hBm : B ≤ gm)
  (hFF : ∀ x : Nat, x ≤ 400 → ∀ s w, EM p B pb gm w0 s w → Calls Tryz.prog 56 #[.float .f64 (e8 x), .int .u8 102, .int .i64 (-1), .int .i64 64] w fun e w' => e = .returned (.string (shorts x)) ∧ Below w.heap.size w w') (hFI : ∀ (n : Nat), n < 9223372036854775808 → ∀ s w, EM p B pb gm w0 s w → Calls Tryz.prog 54 #[.int .i64 (n : Int), .int .i64 10] w fun e w' => e = .returned (.string (dec n)) ∧ Below w.heap.size w w') (hF3 : ∀ x : Nat, x < 160 → ∀ s w, EM p B pb gm w0 s w → Calls Tryz.prog 56 #[.float .f64 (e8 x), .int .u8 102, .int .i64 3, .int .i64 32] w fun e w' => e = .returned (.string (secs x)) ∧ Below w.heap.size w w')
  (s : List UInt8) (a : Act) (w : World) (hlim : (segEnc p s z).length ≤ 140737488355328) (hE : Ev 1029 ((0, pt pb 0) :: (4, .map (some gm)) :: (5, .int .u64 (k : Int)) :: (6, .int .u64 (m : Int)) :: (7, .int .u64 0) :: []) a) (hW : EM p B pb gm w0 s w)
  (Q : Exit → Act → World → Prop) (hQ : ∀ a' w', Ev 1029 ((0, pt pb 0) :: (4, .map (some gm)) :: (5, .int .u64 (((k + 1) % p.cap : Nat) : Int)) :: (6, .int .u64 (m : Int)) :: (7, .int .u64 0) :: []) a' → EM p B pb gm w0 (segEnc p s z) w' → Q .normal a' w') : ((cA (cA (cB (cA (cA (cB (cA (cB (cB (cB (cB (cB (cB (cB (cB (cB (cB (cB (cB (cB (cB (cB (cB (cB (cB (cB (cB (cB encM))))))))))))))))))))))))))))).wp Tryz.prog Q a w := by
 have hZ : ∀ s w, EM p B pb gm w0 s w → w.heap[gz]? = some (.cells z.cells 104 (0, 0)) := fun s w h => h.cells hz0 (by decide) (by decide) hpb
 have hPs : ∀ s w, EM p B pb gm w0 s w → w.heap[gs]? = some (.cells ps.toArray 76 (0, 0)) := fun s w h => h.cells hps (by decide) (by decide) hpb
 simp only [segEnc, segParts, addL, List.foldl_cons, List.foldl_nil] at hlim hQ
 have hlim' := hlim
 simp only [List.length_append] at hlim'
 have hze := hzE.e
 have hmod := Nat.mod_lt (k + 1) (show 0 < p.cap by omega)
 refine wp_seq ?_
 have hS : Sv 1029 ((0, pt pb 0) :: (4, .map (some gm)) :: (5, .int .u64 ((k : Nat) : Int)) :: (6, .int .u64 ((m : Nat) : Int)) :: (7, .int .u64 0) :: []) [] (fun _ => True) w a w := Sv.start hE _ _
 refine wp_region_lit ?_
 refine sv_r (v := pt pb 0) hS (ex_mv (hS.get 0 rfl)) fun a hS => ?_
 refine sv_r (v := pt pb 0) hS (ex_nc (hS.get 392 rfl)) fun a hS => ?_
 refine sv_r (v := pt pb 2) hS (ex_fo (hS.get 393 rfl) fo_m3u8_MediaPlaylist_2 rfl) fun a hS => ?_
 refine sv_r (v := .slice (some ⟨gs, 0, none⟩) p.cap p.cap) hS (ex_ld (hS.get 394 rfl) lt_sl_p_m3u8_MediaSegment (hW.rest 2 (.slice (some ⟨gs, 0, none⟩) p.cap p.cap) (congrArg some hsv))) fun a hS => ?_
 refine sv_r (v := .int .u64 ((k : Nat) : Int)) hS (ex_mv (hS.get 5 rfl)) fun a hS => ?_
 refine sv_r (v := pt gs k) hS (ex_ia1 Tryz.underlying63 Tryz.sizeOf76 (hS.get 395 rfl) (hS.get 396 rfl) hk) fun a hS => ?_
 refine sv_r (v := pt gz 0) hS (ex_ld (hS.get 397 rfl) lt_p_m3u8_MediaSegment (cell_of_heap (v := pt gz 0) (hPs _ _ hW) (by simpa using hpk))) fun a hS => ?_
 refine sv_r (v := pt gz 0) hS (ex_as (hS.get 398 rfl)) fun a hS => ?_
 refine wpList_nil ?_
 replace hS := hS.cut [3, 0, 4, 5, 6, 7]
 have hE : Ev 1029 ((3, pt gz 0) :: (0, pt pb 0) :: (4, .map (some gm)) :: (5, .int .u64 ((k : Nat) : Int)) :: (6, .int .u64 ((m : Nat) : Int)) :: (7, .int .u64 0) :: []) a := hS.ev.pick rfl
 clear hS
 show Code.wp _ _ _ _ _
 refine wp_seq ?_
 have hS : Sv 1029 ((3, pt gz 0) :: (0, pt pb 0) :: (4, .map (some gm)) :: (5, .int .u64 ((k : Nat) : Int)) :: (6, .int .u64 ((m : Nat) : Int)) :: (7, .int .u64 0) :: []) [] (fun _ => True) w a w := Sv.start hE _ _
 refine wp_region_lit ?_
 refine sv_r (v := .int .u64 ((k : Nat) : Int)) hS (ex_mv (hS.get 5 rfl)) fun a hS => ?_
 refine sv_r (v := .int .u64 ((k + 1 : Nat) : Int)) hS (ei_add (hS.get 399 rfl) rfl (by rw [IntKind.wrap_u64]; omega)) fun a hS => ?_
 refine sv_r (v := pt pb 0) hS (ex_mv (hS.get 0 rfl)) fun a hS => ?_
 refine sv_r (v := pt pb 0) hS (ex_nc (hS.get 401 rfl)) fun a hS => ?_
 refine sv_r (v := pt pb 13) hS (ex_fo (hS.get 402 rfl) fo_m3u8_MediaPlaylist_13 rfl) fun a hS => ?_
 refine sv_r (v := .int .u64 ((p.cap : Nat) : Int)) hS (ex_ld (hS.get 403 rfl) lt_uint (hW.rest 13 (.int .u64 (p.cap : Int)) rfl)) fun a hS => ?_
 refine sv_r (v := .int .u64 (((k + 1) % p.cap : Nat) : Int)) hS (ni_rem p.cap (hS.get 400 rfl) (hS.get 404 rfl) (by omega)) fun a hS => ?_
 refine sv_r (v := .int .u64 (((k + 1) % p.cap : Nat) : Int)) hS (ex_as (hS.get 405 rfl)) fun a hS => ?_
 refine wpList_nil ?_
 replace hS := hS.cut [5, 3, 0, 4, 6, 7]
 have hE : Ev 1029 ((5, .int .u64 (((k + 1) % p.cap : Nat) : Int)) :: (3, pt gz 0) :: (0, pt pb 0) :: (4, .map (some gm)) :: (6, .int .u64 ((m : Nat) : Int)) :: (7, .int .u64 0) :: []) a := hS.ev.pick rfl
 clear hS
 show Code.wp _ _ _ _ _
 have hE : Ev 1029 ((0, pt pb 0) :: (3, pt gz 0) :: (4, .map (some gm)) :: (5, .int .u64 (((k + 1) % p.cap : Nat) : Int)) :: (6, .int .u64 ((m : Nat) : Int)) :: (7, .int .u64 0) :: []) a := hE.pick rfl
 refine wp_seq ?_
 refine tr_use (W := EM p B pb gm w0) (lim := 140737488355328) (fun f hf0 => Tr.iteF (ts_nil EM.wr ((hf0 0).symm.trans (hE.get 0 rfl)) p (fun s w h => h.rest) z gz ((hf0 3).symm.trans (hE.get 3 rfl)) hZ) Tr.skip) hE rfl hW (by (try simp only [List.length_append, List.length_nil, t_win0, t_key0, t_map0]); omega) ?_
 intro a w hE hW
 simp only [List.append_nil] at hW
 show Code.wp _ _ _ _ _
 refine wp_seq ?_
 refine tr_use (W := EM p B pb gm w0) (lim := 140737488355328) (fun f hf0 => e_win0 EM.wr ((hf0 0).symm.trans (hE.get 0 rfl)) p (fun s w h => h.rest)) hE rfl hW (by (try simp only [List.length_append, List.length_nil, t_win0, t_key0, t_map0]); omega) ?_
 intro a w hE hW
 simp only [t_win0, List.append_nil] at hW
 show Code.wp _ _ _ _ _
 refine wp_seq ?_
 refine tr_use (W := EM p B pb gm w0) (lim := 140737488355328) (fun f hf0 => e_cueO EM.wr ((hf0 0).symm.trans (hE.get 0 rfl)) p (fun s w h => h.rest) z gz ((hf0 3).symm.trans (hE.get 3 rfl)) hZ (w0 := w0) hzE hFF hzA.c (fun s w h g cs hg => h.cells hg (by decide) (by decide) hpb)) hE rfl hW (by (try simp only [List.length_append, List.length_nil, t_win0, t_key0, t_map0]); omega) ?_
 intro a w hE hW
 show Code.wp _ _ _ _ _
 refine wp_seq ?_
 refine tr_use (W := EM p B pb gm w0) (lim := 140737488355328) (fun f hf0 => e_keyO EM.wr ((hf0 0).symm.trans (hE.get 0 rfl)) p (fun s w h => h.rest) z gz ((hf0 3).symm.trans (hE.get 3 rfl)) hZ (w0 := w0) hkp hzA.k (fun s w h g cs hg => h.cells hg (by decide) (by decide) hpb)) hE rfl hW (by (try simp only [List.length_append, List.length_nil, t_win0, t_key0, t_map0]); omega) ?_
 intro a w hE hW
 show Code.wp _ _ _ _ _
 refine wp_seq ?_
 refine tr_use (W := EM p B pb gm w0) (lim := 140737488355328) (fun f hf0 => e_dis EM.wr ((hf0 0).symm.trans (hE.get 0 rfl)) p (fun s w h => h.rest) z gz ((hf0 3).symm.trans (hE.get 3 rfl)) hZ) hE rfl hW (by (try simp only [List.length_append, List.length_nil, t_win0, t_key0, t_map0]); omega) ?_
 intro a w hE hW
 show Code.wp _ _ _ _ _
 refine wp_seq ?_
 refine tr_use (W := EM p B pb gm w0) (lim := 140737488355328) (fun f hf0 => e_mapO EM.wr ((hf0 0).symm.trans (hE.get 0 rfl)) p (fun s w h => h.rest) z gz ((hf0 3).symm.trans (hE.get 3 rfl)) hZ (w0 := w0) hmp hzE hFI hzA.m (fun s w h g cs hg => h.cells hg (by decide) (by decide) hpb)) hE rfl hW (by (try simp only [List.length_append, List.length_nil, t_win0, t_key0, t_map0]); omega) ?_
 intro a w hE hW
 show Code.wp _ _ _ _ _
 refine wp_seq ?_
 refine tr_use (W := EM p B pb gm w0) (lim := 140737488355328) (fun f hf0 => e_date EM.wr ((hf0 0).symm.trans (hE.get 0 rfl)) p (fun s w h => h.rest) z gz ((hf0 3).symm.trans (hE.get 3 rfl)) hZ) hE rfl hW (by (try simp only [List.length_append, List.length_nil, t_win0, t_key0, t_map0]); omega) ?_
 intro a w hE hW
 show Code.wp _ _ _ _ _
 refine wp_seq ?_
 refine tr_use (W := EM p B pb gm w0) (lim := 140737488355328) (fun f hf0 => e_part EM.wr ((hf0 0).symm.trans (hE.get 0 rfl)) p (fun s w h => h.rest) z gz ((hf0 3).symm.trans (hE.get 3 rfl)) hZ hzE.limit hzE.offset hFI) hE rfl hW (by (try simp only [List.length_append, List.length_nil, t_win0, t_key0, t_map0]); omega) ?_
 intro a w hE hW
 show Code.wp _ _ _ _ _
 refine wp_seq ?_
 refine tr_use (W := EM p B pb gm w0) (lim := 140737488355328) (fun f hf0 => e_r155 EM.wr ((hf0 0).symm.trans (hE.get 0 rfl)) p (fun s w h => h.rest) z gz ((hf0 3).symm.trans (hE.get 3 rfl)) hZ) hE rfl hW (by (try simp only [List.length_append, List.length_nil, t_win0, t_key0, t_map0]); omega) ?_
 intro a w hE hW
 show Code.wp _ _ _ _ _
 refine wp_seq ?_
 refine wp_seq ?_
 refine dur_156 (W := EM p B pb gm w0) (f := fun t => a.eval (.tmp t)) (lim := 0) (hE.get 0 rfl) z hze gz gm (hE.get 3 rfl) (hE.get 4 rfl) hZ (fun s w h => h.2) _ a w hE.fr hW _ ?_
 intro a' b u hu hf
 have hE := hE.of89 hf rfl
 clear hf
 show Code.wp _ _ _ _ _
 refine tr_use (W := EM p B pb gm w0) (lim := 140737488355328) (fun f hf0 => e_dur ((hf0 0).symm.trans (hE.get 0 rfl)) z hze gz ((hf0 3).symm.trans (hE.get 3 rfl)) ((hf0 4).symm.trans (hE.get 4 rfl)) b u ((hf0 8).symm.trans (hE.get 8 rfl)) ((hf0 9).symm.trans (hE.get 9 rfl)) hu hgm hBm hZ (fun s w h => hF3 _ hze s w h)) hE rfl hW (by (try simp only [List.length_append, List.length_nil, t_win0, t_key0, t_map0]); omega) ?_
 intro a w hE hW
 have hE : Ev 1029 ((0, pt pb 0) :: (3, pt gz 0) :: (4, .map (some gm)) :: (5, .int .u64 (((k + 1) % p.cap : Nat) : Int)) :: (6, .int .u64 ((m : Nat) : Int)) :: (7, .int .u64 0) :: []) a := hE.pick rfl
 show Code.wp _ _ _ _ _
 refine wp_seq ?_
 refine tr_use (W := EM p B pb gm w0) (lim := 140737488355328) (fun f hf0 => e_r163 EM.wr ((hf0 0).symm.trans (hE.get 0 rfl)) p (fun s w h => h.rest) z gz ((hf0 3).symm.trans (hE.get 3 rfl)) hZ) hE rfl hW (by (try simp only [List.length_append, List.length_nil, t_win0, t_key0, t_map0]); omega) ?_
 intro a w hE hW
 show Code.wp _ _ _ _ _
 refine wp_seq ?_
 refine tr_use (W := EM p B pb gm w0) (lim := 140737488355328) (fun f hf0 => e_r164 EM.wr ((hf0 0).symm.trans (hE.get 0 rfl)) p (fun s w h => h.rest) z gz ((hf0 3).symm.trans (hE.get 3 rfl)) hZ) hE rfl hW (by (try simp only [List.length_append, List.length_nil, t_win0, t_key0, t_map0]); omega) ?_
 intro a w hE hW
 show Code.wp _ _ _ _ _
 refine wp_seq ?_
 refine tr_use (W := EM p B pb gm w0) (lim := 140737488355328) (fun f hf0 => e_r165 EM.wr ((hf0 0).symm.trans (hE.get 0 rfl)) p (fun s w h => h.rest) z gz ((hf0 3).symm.trans (hE.get 3 rfl)) hZ) hE rfl hW (by (try simp only [List.length_append, List.length_nil, t_win0, t_key0, t_map0]); omega) ?_
 intro a w hE hW
 show Code.wp _ _ _ _ _
 refine wp_seq ?_
 refine tr_use (W := EM p B pb gm w0) (lim := 140737488355328) (fun f hf0 => e_r166 EM.wr ((hf0 0).symm.trans (hE.get 0 rfl)) p (fun s w h => h.rest) z gz ((hf0 3).symm.trans (hE.get 3 rfl)) hZ) hE rfl hW (by (try simp only [List.length_append, List.length_nil, t_win0, t_key0, t_map0]); omega) ?_
 intro a w hE hW
 show Code.wp _ _ _ _ _
 refine wp_seq ?_
 refine tr_use (W := EM p B pb gm w0) (lim := 140737488355328) (fun f hf0 => e_args EM.wr ((hf0 0).symm.trans (hE.get 0 rfl)) p (fun s w h => h.rest) z gz ((hf0 3).symm.trans (hE.get 3 rfl)) hZ) hE rfl hW (by (try simp only [List.length_append, List.length_nil, t_win0, t_key0, t_map0]); omega) ?_
 intro a w hE hW
 show Code.wp _ _ _ _ _
 refine tr_use (W := EM p B pb gm w0) (lim := 140737488355328) (fun f hf0 => e_r170 EM.wr ((hf0 0).symm.trans (hE.get 0 rfl)) p (fun s w h => h.rest) z gz ((hf0 3).symm.trans (hE.get 3 rfl)) hZ) hE rfl hW (by (try simp only [List.length_append, List.length_nil, t_win0, t_key0, t_map0]); omega) ?_
 intro a w hE hW
 have hE : Ev 1029 ((0, pt pb 0) :: (4, .map (some gm)) :: (5, .int .u64 (((k + 1) % p.cap : Nat) : Int)) :: (6, .int .u64 ((m : Nat) : Int)) :: (7, .int .u64 0) :: []) a := hE.pick rfl
 exact hQ _ _ hE hW
theorem EW.rest17 {p : Pq} {B pb : Nat} {w0 w : World} {s : List UInt8} (h : EW 72 p.rest B pb 17 w0 s w) {j : Nat} {v : Value} (hj : p.rest j = some v) : w.cell? ⟨pb, j, none⟩ = some v := by
 have h1 : j < 17 ∨ 17 + 3 ≤ j := by
  unfold Pq.rest at hj
  split at hj
  ·cases hj
  ·omega
 exact (h.1.rest j h1).trans hj
def natOf : Value → Nat
 | .int _ i => i.toNat
 | _ => 0
theorem encode_any (p : Pq) (B pb gs tn st n : Nat) (w0 : World) (L : List (Nat × Mz)) (ps : List Value) (pc : Array Value) (hpb : w0.heap[pb]? = some (.cells pc 72 (0, 0))) (hsv : p.sv = .slice (some ⟨gs, 0, none⟩) p.cap p.cap) (hn : n = L.length) (hcnt : p.count = n) (hnc : n ≤ p.cap) (hcap : p.cap ≤ 100000) (hps : w0.heap[gs]? = some (.cells ps.toArray 76 (0, 0)))
  (hL : ∀ (k : Nat) (q : Nat × Mz), L[k]? = some q → ps[k]? = some (pt q.1 0) ∧ w0.heap[q.1]? = some (.cells q.2.cells 104 (0, 0)) ∧ q.2.At w0 ∧ SegE q.2) (hkp : p.kp = .pointer none) (hmp : p.mp = .pointer none)
  (hver : p.ver < 256) (hseq : p.seq < 18446744073709551616) (hdisc : p.disc < 18446744073709551616) (hst : p.start = e8 st) (hst1 : st ≤ 400) (htn : tn < 9223372036854775808) (hcv : Cv 32 2 (.float .f64 p.tgt) (.int .i64 (tn : Int)))
  (hlim : (encAll p tn st (L.map (·.2))).length ≤ 140737488355328)
  (hT : ∀ s w, EW 72 p.rest B pb 17 w0 s w → PowTab w) (hCe : ∀ s w, EW 72 p.rest B pb 17 w0 s w → Calls Tryz.prog 35 #[.float .f64 p.tgt] w fun e w' => e = .returned (.float .f64 p.tgt) ∧ Below w.heap.size w w')
  (hFF : ∀ x : Nat, x ≤ 400 → ∀ s w, EW 72 p.rest B pb 17 w0 s w → Calls Tryz.prog 56 #[.float .f64 (e8 x), .int .u8 102, .int .i64 (-1), .int .i64 64] w fun e w' => e = .returned (.string (shorts x)) ∧ Below w.heap.size w w') (hFI : ∀ (n : Nat), n < 9223372036854775808 → ∀ s w, EW 72 p.rest B pb 17 w0 s w → Calls Tryz.prog 54 #[.int .i64 (n : Int), .int .i64 10] w fun e w' => e = .returned (.string (dec n)) ∧ Below w.heap.size w w') (hF3 : ∀ x : Nat, x < 160 → ∀ s w, EW 72 p.rest B pb 17 w0 s w → Calls Tryz.prog 56 #[.float .f64 (e8 x), .int .u8 102, .int .i64 3, .int .i64 32] w fun e w' => e = .returned (.string (secs x)) ∧ Below w.heap.size w w')
  (hbuf : LibA.IsBuffer 72 p.rest 5 B pb 17 (Lib.byteCells []) w0) :
  Calls Tryz.prog 39 #[pt pb 0] w0 fun e w' => e = .returned (pt pb 17) ∧ EW 72 p.rest B pb 17 w0 (encAll p tn st (L.map (·.2))) w' := by
 have hlen : ∀ k, (List.foldl (segEnc p) (addL [] (headParts p tn st)) ((L.map (·.2)).take k)).length ≤ 140737488355328 := by
  have hmono : ∀ (L : List Mz) (s : List UInt8), s.length ≤ (L.foldl (segEnc p) s).length := by
   intro L
   induction L with
   | nil => intro s; exact Nat.le_refl _
   | cons z L ih =>
    intro s
    refine Nat.le_trans ?_ (ih _)
    simp only [segEnc, segParts, addL, List.foldl_cons, List.foldl_nil, List.length_append]
    omega
  intro k
  refine Nat.le_trans ?_ hlim
  have e : (L.map (·.2)) = (L.map (·.2)).take k ++ (L.map (·.2)).drop k := (List.take_append_drop k _).symm
  unfold encAll
  rw [List.length_append]
  conv => rhs; rw [e, List.foldl_append]
  exact Nat.le_trans (hmono _ _) (Nat.le_add_right _ _)
 have hh := hlen 0
 simp only [List.take_zero, List.foldl_nil, headParts, addL, List.foldl_cons, List.length_append] at hh
 refine calls_of_ev Tryz.func39 rfl (show 1 ≤ 1029 from by decide) ?_
 intro a hE
 have hE : Ev 1029 ((0, pt pb 0) :: []) a := hE
 have hW := EW.refl hbuf
 show Code.wp _ _ _ _ _
 refine wp_seq ?_
 have hS : Sv 1029 ((0, pt pb 0) :: []) [] (fun _ => True) w0 a w0 := Sv.start hE _ _
 refine wp_region_lit ?_
 refine sv_r (v := .pointer none) hS ex_ac fun a hS => ?_
 refine wpList_nil ?_
 replace hS := hS.cut [2, 0]
 have hE : Ev 1029 ((2, .pointer none) :: (0, pt pb 0) :: []) a := hS.ev.pick rfl
 clear hS
 show Code.wp _ _ _ _ _
 refine wp_seq ?_
 refine wp_seq ?_
 have hS : Sv 1029 ((2, .pointer none) :: (0, pt pb 0) :: []) [] (fun _ => True) w0 a w0 := Sv.start hE _ _
 refine wp_region_lit ?_
 refine sv_r (v := pt pb 0) hS (ex_mv (hS.get 0 rfl)) fun a hS => ?_
 refine sv_r (v := pt pb 0) hS (ex_nc (hS.get 10 rfl)) fun a hS => ?_
 refine sv_r (v := pt pb 17) hS (ex_fo (hS.get 11 rfl) fo_m3u8_MediaPlaylist_17 rfl) fun a hS => ?_
 refine ev_call (S := fun v w' => v = .int .i64 0 ∧ ∃ n, w' = w0.drewN n) hS.ev rfl rfl (by decide) (ex_call1 cf_bytes_Buffer_Len (hS.get 12 rfl)) (Calls.mono (len_any _ _ _ _ _ _ _ hW.1) (by rintro e w' ⟨rfl, h⟩; exact ⟨_, rfl, rfl, h⟩)) ?_
 rintro a v w ⟨rfl, nn, hnn⟩ hE
 have hW : EW 72 p.rest B pb 17 w0 [] w := hW.below (by rw [hnn]; exact below_drewN (Below.refl _ _) nn)
 clear hnn
 have hS : Sv 1029 ((13, .int .i64 0) :: (12, pt pb 17) :: (11, pt pb 0) :: (10, pt pb 0) :: (2, .pointer none) :: (0, pt pb 0) :: []) [] (fun _ => True) w a w := Sv.start hE _ _
 refine sv_r (v := .bool false) hS (ei_gtr (hS.get 13 rfl) rfl (by simp)) fun a hS => ?_
 refine wpList_nil ?_
 replace hS := hS.cut [14, 2, 0]
 have hE : Ev 1029 ((14, .bool false) :: (2, .pointer none) :: (0, pt pb 0) :: []) a := hS.ev.pick rfl
 clear hS
 show Code.wp _ _ _ _ _
 refine cond_f (hE.get 14 rfl) ?_
 refine wp_skip ?_
 show Code.wp _ _ _ _ _
 have hE : Ev 1029 ((0, pt pb 0) :: (2, .pointer none) :: []) a := hE.pick rfl
 refine wp_seq ?_
 refine tr_use (W := EW 72 p.rest B pb 17 w0) (lim := 140737488355328) (fun f hf0 => e_r3 EW.wr ((hf0 0).symm.trans (hE.get 0 rfl)) p (fun s w h j v hj => h.rest17 hj)) hE rfl hW (by (try simp only [List.length_append, List.length_nil, t_win0, t_key0, t_map0]); omega) ?_
 intro a w hE hW
 show Code.wp _ _ _ _ _
 refine wp_seq ?_
 refine tr_use (W := EW 72 p.rest B pb 17 w0) (lim := 140737488355328) (fun f hf0 => e_r4 EW.wr ((hf0 0).symm.trans (hE.get 0 rfl)) p (fun s w h j v hj => h.rest17 hj) hT hver) hE rfl hW (by (try simp only [List.length_append, List.length_nil, t_win0, t_key0, t_map0]); omega) ?_
 intro a w hE hW
 show Code.wp _ _ _ _ _
 refine wp_seq ?_
 refine tr_use (W := EW 72 p.rest B pb 17 w0) (lim := 140737488355328) (fun f hf0 => e_r5 EW.wr ((hf0 0).symm.trans (hE.get 0 rfl)) p (fun s w h j v hj => h.rest17 hj)) hE rfl hW (by (try simp only [List.length_append, List.length_nil, t_win0, t_key0, t_map0]); omega) ?_
 intro a w hE hW
 show Code.wp _ _ _ _ _
 refine wp_seq ?_
 refine tr_use (W := EW 72 p.rest B pb 17 w0) (lim := 140737488355328) (fun f hf0 => e_key0 EW.wr ((hf0 0).symm.trans (hE.get 0 rfl)) p (fun s w h j v hj => h.rest17 hj) hkp) hE rfl hW (by (try simp only [List.length_append, List.length_nil, t_win0, t_key0, t_map0]); omega) ?_
 intro a w hE hW
 simp only [t_key0, List.append_nil] at hW
 show Code.wp _ _ _ _ _
 refine wp_seq ?_
 refine tr_use (W := EW 72 p.rest B pb 17 w0) (lim := 140737488355328) (fun f hf0 => e_map0 EW.wr ((hf0 0).symm.trans (hE.get 0 rfl)) p (fun s w h j v hj => h.rest17 hj) hmp) hE rfl hW (by (try simp only [List.length_append, List.length_nil, t_win0, t_key0, t_map0]); omega) ?_
 intro a w hE hW
 simp only [t_map0, List.append_nil] at hW
 show Code.wp _ _ _ _ _
 refine wp_seq ?_
 refine tr_use (W := EW 72 p.rest B pb 17 w0) (lim := 140737488355328) (fun f hf0 => e_typ EW.wr ((hf0 0).symm.trans (hE.get 0 rfl)) p (fun s w h j v hj => h.rest17 hj)) hE rfl hW (by (try simp only [List.length_append, List.length_nil, t_win0, t_key0, t_map0]); omega) ?_
 intro a w hE hW
 show Code.wp _ _ _ _ _
 refine wp_seq ?_
 refine tr_use (W := EW 72 p.rest B pb 17 w0) (lim := 140737488355328) (fun f hf0 => e_r45 EW.wr ((hf0 0).symm.trans (hE.get 0 rfl)) p (fun s w h j v hj => h.rest17 hj)) hE rfl hW (by (try simp only [List.length_append, List.length_nil, t_win0, t_key0, t_map0]); omega) ?_
 intro a w hE hW
 show Code.wp _ _ _ _ _
 refine wp_seq ?_
 refine tr_use (W := EW 72 p.rest B pb 17 w0) (lim := 140737488355328) (fun f hf0 => e_r46 EW.wr ((hf0 0).symm.trans (hE.get 0 rfl)) p (fun s w h j v hj => h.rest17 hj) hT hseq) hE rfl hW (by (try simp only [List.length_append, List.length_nil, t_win0, t_key0, t_map0]); omega) ?_
 intro a w hE hW
 show Code.wp _ _ _ _ _
 refine wp_seq ?_
 refine tr_use (W := EW 72 p.rest B pb 17 w0) (lim := 140737488355328) (fun f hf0 => e_r47 EW.wr ((hf0 0).symm.trans (hE.get 0 rfl)) p (fun s w h j v hj => h.rest17 hj)) hE rfl hW (by (try simp only [List.length_append, List.length_nil, t_win0, t_key0, t_map0]); omega) ?_
 intro a w hE hW
 show Code.wp _ _ _ _ _
 refine wp_seq ?_
 refine tr_use (W := EW 72 p.rest B pb 17 w0) (lim := 140737488355328) (fun f hf0 => e_r48 EW.wr ((hf0 0).symm.trans (hE.get 0 rfl)) p (fun s w h j v hj => h.rest17 hj)) hE rfl hW (by (try simp only [List.length_append, List.length_nil, t_win0, t_key0, t_map0]); omega) ?_
 intro a w hE hW
 show Code.wp _ _ _ _ _
 refine wp_seq ?_
 refine tr_use (W := EW 72 p.rest B pb 17 w0) (lim := 140737488355328) (fun f hf0 => e_r49 EW.wr ((hf0 0).symm.trans (hE.get 0 rfl)) p (fun s w h j v hj => h.rest17 hj) tn hCe hcv (fun s w h => hFI tn htn s w h)) hE rfl hW (by (try simp only [List.length_append, List.length_nil, t_win0, t_key0, t_map0]); omega) ?_
 intro a w hE hW
 show Code.wp _ _ _ _ _
 refine wp_seq ?_
 refine tr_use (W := EW 72 p.rest B pb 17 w0) (lim := 140737488355328) (fun f hf0 => e_r50 EW.wr ((hf0 0).symm.trans (hE.get 0 rfl)) p (fun s w h j v hj => h.rest17 hj)) hE rfl hW (by (try simp only [List.length_append, List.length_nil, t_win0, t_key0, t_map0]); omega) ?_
 intro a w hE hW
 show Code.wp _ _ _ _ _
 refine wp_seq ?_
 refine tr_use (W := EW 72 p.rest B pb 17 w0) (lim := 140737488355328) (fun f hf0 => e_start EW.wr ((hf0 0).symm.trans (hE.get 0 rfl)) p (fun s w h j v hj => h.rest17 hj) st hst (by omega) (fun _ => hFF st hst1)) hE rfl hW (by (try simp only [List.length_append, List.length_nil, t_win0, t_key0, t_map0]); omega) ?_
 intro a w hE hW
 show Code.wp _ _ _ _ _
 refine wp_seq ?_
 refine tr_use (W := EW 72 p.rest B pb 17 w0) (lim := 140737488355328) (fun f hf0 => e_disc EW.wr ((hf0 0).symm.trans (hE.get 0 rfl)) p (fun s w h j v hj => h.rest17 hj) hT hdisc) hE rfl hW (by (try simp only [List.length_append, List.length_nil, t_win0, t_key0, t_map0]); omega) ?_
 intro a w hE hW
 show Code.wp _ _ _ _ _
 refine wp_seq ?_
 refine tr_use (W := EW 72 p.rest B pb 17 w0) (lim := 140737488355328) (fun f hf0 => e_ifr EW.wr ((hf0 0).symm.trans (hE.get 0 rfl)) p (fun s w h j v hj => h.rest17 hj)) hE rfl hW (by (try simp only [List.length_append, List.length_nil, t_win0, t_key0, t_map0]); omega) ?_
 intro a w hE hW
 show Code.wp _ _ _ _ _
 refine wp_seq ?_
 have hS : Sv 1029 ((0, pt pb 0) :: (2, .pointer none) :: []) [] (fun _ => True) w a w := Sv.start hE _ _
 refine wp_region_lit ?_
 refine sv_r (v := .pointer none) hS ex_ac fun a hS => ?_
 refine wpList_nil ?_
 replace hS := hS.cut [3, 0, 2]
 have hE : Ev 1029 ((3, .pointer none) :: (0, pt pb 0) :: (2, .pointer none) :: []) a := hS.ev.pick rfl
 clear hS
 show Code.wp _ _ _ _ _
 refine wp_seq ?_
 have hS : Sv 1029 ((3, .pointer none) :: (0, pt pb 0) :: (2, .pointer none) :: []) [] (fun _ => True) w a w := Sv.start hE _ _
 refine wp_region_lit ?_
 refine ev_run (v := .map (some w.heap.size)) (w' := w.alloc (.map #[] 0)) hS.ev rfl rfl (by decide) (by simp only [execOp, Option.map_none]; exact run_andValue'' (dur_make w)) ?_
 intro a hE
 have hWm : EM p B pb w.heap.size w0 _ (w.alloc (.map #[] 0)) := ⟨hW.below ((Below.refl _ _).alloc (Nat.le_refl _) _), _, _, heap_alloc_new _ _, by intro e he; simp at he⟩
 have hgm : w0.heap.size ≤ w.heap.size := hW.2.1.size
 have hBm : B ≤ w.heap.size := by have := hW.lt; omega
 generalize w.heap.size = gm at hE hWm hgm hBm
 generalize w.alloc (.map #[] 0) = w1 at hWm ⊢
 clear hW
 have hW := hWm
 clear hWm
 have hS : Sv 1029 ((364, .map (some gm)) :: (3, .pointer none) :: (0, pt pb 0) :: (2, .pointer none) :: []) [] (fun _ => True) w1 a w1 := Sv.start hE _ _
 refine sv_r (v := .map (some gm)) hS (ex_as (hS.get 364 rfl)) fun a hS => ?_
 refine wpList_nil ?_
 replace hS := hS.cut [4, 3, 0, 2]
 have hE : Ev 1029 ((4, .map (some gm)) :: (3, .pointer none) :: (0, pt pb 0) :: (2, .pointer none) :: []) a := hS.ev.pick rfl
 clear hS
 show Code.wp _ _ _ _ _
 refine wp_seq ?_
 have hS : Sv 1029 ((4, .map (some gm)) :: (3, .pointer none) :: (0, pt pb 0) :: (2, .pointer none) :: []) [] (fun _ => True) w1 a w1 := Sv.start hE _ _
 refine wp_region_lit ?_
 refine sv_r (v := pt pb 0) hS (ex_mv (hS.get 0 rfl)) fun a hS => ?_
 refine sv_r (v := pt pb 0) hS (ex_nc (hS.get 365 rfl)) fun a hS => ?_
 refine sv_r (v := pt pb 14) hS (ex_fo (hS.get 366 rfl) fo_m3u8_MediaPlaylist_14 rfl) fun a hS => ?_
 refine sv_r (v := .int .u64 0) hS (ex_ld (hS.get 367 rfl) lt_uint (hW.rest 14 (.int .u64 0) rfl)) fun a hS => ?_
 refine sv_r (v := .int .u64 0) hS (ex_as (hS.get 368 rfl)) fun a hS => ?_
 refine wpList_nil ?_
 replace hS := hS.cut [5, 4, 3, 0, 2]
 have hE : Ev 1029 ((5, .int .u64 0) :: (4, .map (some gm)) :: (3, .pointer none) :: (0, pt pb 0) :: (2, .pointer none) :: []) a := hS.ev.pick rfl
 clear hS
 show Code.wp _ _ _ _ _
 refine wp_seq ?_
 have hS : Sv 1029 ((5, .int .u64 0) :: (4, .map (some gm)) :: (3, .pointer none) :: (0, pt pb 0) :: (2, .pointer none) :: []) [] (fun _ => True) w1 a w1 := Sv.start hE _ _
 refine wp_region_lit ?_
 refine sv_r (v := pt pb 0) hS (ex_mv (hS.get 0 rfl)) fun a hS => ?_
 refine sv_r (v := pt pb 0) hS (ex_nc (hS.get 369 rfl)) fun a hS => ?_
 refine sv_r (v := pt pb 16) hS (ex_fo (hS.get 370 rfl) fo_m3u8_MediaPlaylist_16 rfl) fun a hS => ?_
 refine sv_r (v := .int .u64 ((p.count : Nat) : Int)) hS (ex_ld (hS.get 371 rfl) lt_uint (hW.rest 16 (.int .u64 (p.count : Int)) rfl)) fun a hS => ?_
 refine sv_r (v := .int .u64 ((p.count : Nat) : Int)) hS (ex_as (hS.get 372 rfl)) fun a hS => ?_
 refine wpList_nil ?_
 replace hS := hS.cut [6, 5, 4, 3, 0, 2]
 have hE : Ev 1029 ((6, .int .u64 ((p.count : Nat) : Int)) :: (5, .int .u64 0) :: (4, .map (some gm)) :: (3, .pointer none) :: (0, pt pb 0) :: (2, .pointer none) :: []) a := hS.ev.pick rfl
 clear hS
 show Code.wp _ _ _ _ _
 refine wp_seq ?_
 refine wp_seq ?_
 have hS : Sv 1029 ((6, .int .u64 ((p.count : Nat) : Int)) :: (5, .int .u64 0) :: (4, .map (some gm)) :: (3, .pointer none) :: (0, pt pb 0) :: (2, .pointer none) :: []) [] (fun _ => True) w1 a w1 := Sv.start hE _ _
 refine wp_region_lit ?_
 refine sv_r (v := .int .u64 0) hS ex_ac fun a hS => ?_
 refine wpList_nil ?_
 replace hS := hS.cut [7, 6, 5, 4, 3, 0, 2]
 have hE : Ev 1029 ((7, .int .u64 0) :: (6, .int .u64 ((p.count : Nat) : Int)) :: (5, .int .u64 0) :: (4, .map (some gm)) :: (3, .pointer none) :: (0, pt pb 0) :: (2, .pointer none) :: []) a := hS.ev.pick rfl
 clear hS
 show Code.wp _ _ _ _ _
 refine wp_block ?_
 refine wp_loop (fun a w' => ∃ k, k ≤ n ∧ Ev 1029 ((0, pt pb 0) :: (4, .map (some gm)) :: (5, .int .u64 ((k % p.cap : Nat) : Int)) :: (6, .int .u64 ((n - k : Nat) : Int)) :: (7, .int .u64 0) :: []) a ∧ EM p B pb gm w0 (List.foldl (segEnc p) (addL [] (headParts p tn st)) ((L.map (·.2)).take k)) w') (fun a _ => natOf (a.eval (.tmp 6))) ⟨0, Nat.zero_le _, by rw [Nat.zero_mod, Nat.sub_zero]; rw [hcnt] at hE; exact hE.pick rfl, by simpa only [headParts, addL, List.foldl_cons, List.foldl_nil, List.take_zero] using hW⟩ ?_
 clear hE hW
 rintro a w ⟨k, hkn, hE, hW⟩
 have hm0 : natOf (a.eval (.tmp 6)) = n - k := by rw [hE.get 6 rfl]; simp [natOf]
 refine wp_seq ?_
 refine wp_seq ?_
 have hS : Sv 1029 ((0, pt pb 0) :: (4, .map (some gm)) :: (5, .int .u64 ((k % p.cap : Nat) : Int)) :: (6, .int .u64 ((n - k : Nat) : Int)) :: (7, .int .u64 0) :: []) [] (fun _ => True) w a w := Sv.start hE _ _
 refine wp_region_lit ?_
 refine sv_r (v := .int .u64 0) hS (ex_mv (hS.get 7 rfl)) fun a hS => ?_
 refine sv_r (v := pt pb 0) hS (ex_mv (hS.get 0 rfl)) fun a hS => ?_
 refine sv_r (v := pt pb 0) hS (ex_nc (hS.get 374 rfl)) fun a hS => ?_
 refine sv_r (v := pt pb 12) hS (ex_fo (hS.get 375 rfl) fo_m3u8_MediaPlaylist_12 rfl) fun a hS => ?_
 refine sv_r (v := .int .u64 0) hS (ex_ld (hS.get 376 rfl) lt_uint (hW.rest 12 (.int .u64 0) rfl)) fun a hS => ?_
 refine sv_r (v := .bool false) hS (ei_lss (hS.get 373 rfl) (hS.get 377 rfl) (by simp)) fun a hS => ?_
 refine sv_r (v := .bool false) hS (ex_mv (hS.get 378 rfl)) fun a hS => ?_
 refine sv_g (v := pt pb 0) hS (hS.get 379 rfl) (ex_mv (hS.get 0 rfl)) fun a hS => ?_
 refine sv_g (v := pt pb 0) hS (hS.get 379 rfl) (ex_nc (hS.get 380 rfl)) fun a hS => ?_
 refine sv_g (v := pt pb 12) hS (hS.get 379 rfl) (ex_fo (hS.get 381 rfl) fo_m3u8_MediaPlaylist_12 rfl) fun a hS => ?_
 refine sv_g (v := .int .u64 0) hS (hS.get 379 rfl) (ex_ld (hS.get 382 rfl) lt_uint (hW.rest 12 (.int .u64 0) rfl)) fun a hS => ?_
 refine sv_g (v := .bool true) hS (hS.get 379 rfl) (ei_eql (hS.get 383 rfl) rfl (by simp)) fun a hS => ?_
 refine sv_r (v := .bool true) hS (ex_pickF (hS.get 379 rfl) (hS.get 384 rfl)) fun a hS => ?_
 refine sv_r (v := .bool true) hS (ex_mv (hS.get 385 rfl)) fun a hS => ?_
 refine sv_g (v := .int .u64 ((n - k : Nat) : Int)) hS (hS.get 386 rfl) (ex_mv (hS.get 6 rfl)) fun a hS => ?_
 refine sv_g (v := .bool (decide ((0 : Nat) < n - k))) hS (hS.get 386 rfl) (ei_gtr (hS.get 387 rfl) rfl (by rw [decide_eq_decide]; omega)) fun a hS => ?_
 refine sv_r (v := .bool (decide ((0 : Nat) < n - k))) hS (ex_pickT (hS.get 386 rfl) (hS.get 388 rfl)) fun a hS => ?_
 refine wpList_nil ?_
 replace hS := hS.cut [389, 0, 4, 5, 6, 7]
 have hE : Ev 1029 ((389, .bool (decide ((0 : Nat) < n - k))) :: (0, pt pb 0) :: (4, .map (some gm)) :: (5, .int .u64 ((k % p.cap : Nat) : Int)) :: (6, .int .u64 ((n - k : Nat) : Int)) :: (7, .int .u64 0) :: []) a := hS.ev.pick rfl
 clear hS
 show Code.wp _ _ _ _ _
 refine wp_cond_split (hE.get 389 rfl) (fun hb => ?_) (fun hb => ?_)
 ·have hb := of_decide_eq_true hb
  have hk : k < L.length := by omega
  obtain ⟨q, hq⟩ : ∃ q, L[k]? = some q := ⟨_, List.getElem?_eq_getElem hk⟩
  obtain ⟨hp1, hp2, hp3, hp4⟩ := hL k q hq
  have hmod : k % p.cap = k := Nat.mod_eq_of_lt (by omega)
  have htk : (List.foldl (segEnc p) (addL [] (headParts p tn st)) ((L.map (·.2)).take (k + 1))) = segEnc p (List.foldl (segEnc p) (addL [] (headParts p tn st)) ((L.map (·.2)).take k)) q.2 := by rw [List.take_add_one, List.foldl_append, List.getElem?_map, hq]; rfl
  refine wp_skip ?_
  show Code.wp _ _ _ _ _
  refine wp_seq ?_
  refine wp_block ?_
  rw [hmod] at hE
  have hE : Ev 1029 ((0, pt pb 0) :: (4, .map (some gm)) :: (5, .int .u64 ((k : Nat) : Int)) :: (6, .int .u64 ((n - k : Nat) : Int)) :: (7, .int .u64 0) :: []) a := hE.pick rfl
  refine segRound_any p B pb gm gs q.1 k (n - k) w0 q.2 ps pc hpb hsv (by omega) hcap hps hp1 hp2 hp3 hp4 hkp hmp hgm hBm (fun x hx s w h => hFF x hx s w h.1) (fun x hx s w h => hFI x hx s w h.1) (fun x hx s w h => hF3 x hx s w h.1) _ a w (by rw [← htk]; exact hlen (k + 1)) hE hW _ ?_
  intro a w hE hW
  rw [← htk] at hW
  show Code.wp _ _ _ _ _
  have hS : Sv 1029 ((0, pt pb 0) :: (4, .map (some gm)) :: (5, .int .u64 (((k + 1) % p.cap : Nat) : Int)) :: (6, .int .u64 ((n - k : Nat) : Int)) :: (7, .int .u64 0) :: []) [] (fun _ => True) w a w := Sv.start hE _ _
  refine wp_region_lit ?_
  refine sv_r (v := .int .u64 ((n - k : Nat) : Int)) hS (ex_mv (hS.get 6 rfl)) fun a hS => ?_
  refine sv_r (v := .int .u64 (((n - k) - 1 : Nat) : Int)) hS (ei_sub (hS.get 390 rfl) rfl (by rw [IntKind.wrap_u64]; omega)) fun a hS => ?_
  refine sv_r (v := .int .u64 (((n - k) - 1 : Nat) : Int)) hS (ex_as (hS.get 391 rfl)) fun a hS => ?_
  refine wpList_nil ?_
  replace hS := hS.cut [6, 0, 4, 5, 7]
  have hE : Ev 1029 ((6, .int .u64 (((n - k) - 1 : Nat) : Int)) :: (0, pt pb 0) :: (4, .map (some gm)) :: (5, .int .u64 (((k + 1) % p.cap : Nat) : Int)) :: (7, .int .u64 0) :: []) a := hS.ev.pick rfl
  clear hS
  rw [Nat.sub_sub] at hE
  refine ⟨⟨k + 1, by omega, hE.pick rfl, hW⟩, ?_⟩
  rw [hm0, hE.get 6 rfl]
  show (((n - (k + 1) : Nat) : Int)).toNat < n - k
  omega
 ·have hb := of_decide_eq_false hb
  have hkn' : k = n := by omega
  have htk : (L.map (·.2)).take k = L.map (·.2) := List.take_of_length_le (by rw [List.length_map]; omega)
  rw [htk] at hW
  have hlast : (List.foldl (segEnc p) (addL [] (headParts p tn st)) (L.map (·.2))).length + (t_end p).length ≤ 140737488355328 := by rw [← List.length_append]; exact hlim
  refine wp_exit ?_
  simp only [Exit.inBlock, Exit.then, if_true]
  show Code.wp _ _ _ _ _
  have hE : Ev 1029 ((0, pt pb 0) :: (4, .map (some gm)) :: (5, .int .u64 ((k % p.cap : Nat) : Int)) :: (6, .int .u64 ((n - k : Nat) : Int)) :: (7, .int .u64 0) :: []) a := hE.pick rfl
  refine wp_seq ?_
  refine tr_use (W := EM p B pb gm w0) (lim := 140737488355328) (fun f hf0 => e_end EM.wr ((hf0 0).symm.trans (hE.get 0 rfl)) p (fun s w h => h.rest)) hE rfl hW (by omega) ?_
  intro a w hE hW
  show Code.wp _ _ _ _ _
  refine wp_seq ?_
  have hS : Sv 1029 ((0, pt pb 0) :: (4, .map (some gm)) :: (5, .int .u64 ((k % p.cap : Nat) : Int)) :: (6, .int .u64 ((n - k : Nat) : Int)) :: (7, .int .u64 0) :: []) [] (fun _ => True) w a w := Sv.start hE _ _
  refine wp_region_lit ?_
  refine sv_r (v := pt pb 0) hS (ex_mv (hS.get 0 rfl)) fun a hS => ?_
  refine sv_r (v := pt pb 0) hS (ex_nc (hS.get 1026 rfl)) fun a hS => ?_
  refine sv_r (v := pt pb 17) hS (ex_fo (hS.get 1027 rfl) fo_m3u8_MediaPlaylist_17 rfl) fun a hS => ?_
  refine sv_r (v := pt pb 17) hS (ex_as (hS.get 1028 rfl)) fun a hS => ?_
  refine wpList_nil ?_
  replace hS := hS.cut [2, 0, 4, 5, 6, 7]
  have hE : Ev 1029 ((2, pt pb 17) :: (0, pt pb 0) :: (4, .map (some gm)) :: (5, .int .u64 ((k % p.cap : Nat) : Int)) :: (6, .int .u64 ((n - k : Nat) : Int)) :: (7, .int .u64 0) :: []) a := hS.ev.pick rfl
  clear hS
  show Code.wp _ _ _ _ _
  refine wp_ret ?_
  exact ret_of_ev hE rfl (hE.get 2 rfl) ⟨rfl, hW.1⟩
end Go.Proofs.YtfonjeoiallhhaaGreatDoor
/- strconv.FormatInt at base 10; math.Ceil at whole numbers. -/
set_option maxRecDepth 100000
namespace Go.Proofs.YtfonjeoiallhhaaGreatDoor
open Go.Shelf Go.RowKit Go.Sort Go.Lib
theorem formatInt_any (n : Nat) (hn : n < 9223372036854775808) (w : World) (htab : PowTab w) :
  Calls Tryz.prog 54 #[.int .i64 (n : Int), .int .i64 10] w fun e w' => e = .returned (.string (dec n)) ∧ Below w.heap.size w w' := by
 rw [dec_digits]
 refine (Any.strconv_FormatInt_10 Tryz.lays173 (n : Int) (by omega) (by omega) w htab).mono ?_
 rintro e w' ⟨rfl, k, os, rfl⟩
 have h : itoa (n : Int) = decDigits n := by
  unfold itoa
  simp
 rw [h]
 exact ⟨rfl, below_grow _ _ (Nat.le_refl _) _ _⟩
theorem ceil_k (k : Nat) (hk : k < 50) (w : World) : (Go.Extern.MathFloor.toIntegral "math.archCeil" .up #[.float .f64 (floatOfInt .f64 ((20 + k : Nat) : Int))]).run Tryz.prog w = .ok (.float .f64 (floatOfInt .f64 ((20 + k : Nat) : Int))) w := by
 iterate 50 (rcases k with _ | k; · kernel_rfl)
 omega
theorem run_ceilT (t : Nat) (h1 : 20 ≤ t) (h2 : t < 70) (w : World) : (callFunc 48 #[.float .f64 (floatOfInt .f64 (t : Int))]).run Tryz.prog w = .ok (.value (.float .f64 (floatOfInt .f64 (t : Int)))) w := by
 rw [run_callFunc_extern Tryz.func48 (by kernel_rfl) (by kernel_rfl) (by kernel_rfl) (e := Go.Extern.MathFloor.toIntegral "math.archCeil" .up) (by kernel_rfl)]
 have hr : (Go.Extern.MathFloor.toIntegral "math.archCeil" .up #[.float .f64 (floatOfInt .f64 (t : Int))]).run Tryz.prog w = .ok (.float .f64 (floatOfInt .f64 (t : Int))) w := by
  have h := ceil_k (t - 20) (by omega) w
  rw [show 20 + (t - 20) = t from by omega] at h
  exact h
 simp [hr, Result.andThen]
theorem ceil_any (t : Nat) (h1 : 20 ≤ t) (h2 : t < 70) (w : World) : Calls Tryz.prog 35 #[.float .f64 (floatOfInt .f64 (t : Int))] w (fun e w' => e = .returned (.float .f64 (floatOfInt .f64 (t : Int))) ∧ Below w.heap.size w w') := by
 have hc := fun w => run_ceilT t h1 h2 w
 generalize floatOfInt .f64 (t : Int) = X at hc ⊢
 go_enter Tryz.func35, Tryz.ntmps35
 go_wp2
 go_ret
 exact ⟨rfl, Below.refl _ _⟩
theorem toInt_all : (List.range 70).all (fun t => (FloatKind.f64.decode (floatOfInt .f64 (t : Int))).toInt .zero == some (t : Int)) = true := by decide +kernel
theorem cv_target (t : Nat) (ht : t < 70) : Cv 32 2 (.float .f64 (floatOfInt .f64 (t : Int))) (.int .i64 (t : Int)) := by
 have hx := List.all_eq_true.1 toInt_all t (List.mem_range.2 ht)
 have hx := eq_of_beq hx
 generalize floatOfInt .f64 (t : Int) = X at hx ⊢
 intro w
 unfold convert
 simp only [Sem.run_bind, run_underlying Tryz.underlying32, run_underlying Tryz.underlying2, Result.andThen_ok]
 unfold Conv.floatToInt
 have h1 : IntKind.i64.min ≤ (t : Int) ∧ (t : Int) ≤ IntKind.i64.max := by
  have e1 : IntKind.i64.min = -9223372036854775808 := by decide
  have e2 : IntKind.i64.max = 9223372036854775807 := by decide
  rw [e1, e2]; omega
 simp only [hx, h1, and_self, if_true, Sem.run_pure]
end Go.Proofs.YtfonjeoiallhhaaGreatDoor
