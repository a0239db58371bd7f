/- Joined: Fk, Eb, Ec. -/
import Derived.Test.YtfonjeoiallhhaaGreatDoorB20
import Derived.MapKept
/- A map whose keys are floats (eighths), whose values are their texts: durationCache. -/
namespace Go.Proofs.YtfonjeoiallhhaaGreatDoor
open Go.RowKit
theorem e8_eq_all : (List.range 161).all (fun x => (List.range 161).all fun y => (FloatKind.f64.format.order (e8 x) (e8 y) == some .eq) == decide (x = y)) = true := by decide +kernel
theorem e8_eq {x y : Nat} (hx : x ≤ 160) (hy : y ≤ 160) : (FloatKind.f64.format.order (e8 x) (e8 y) == some .eq) = decide (x = y) := by
 have h1 := List.all_eq_true.1 e8_eq_all x (List.mem_range.2 (by omega))
 have h2 := List.all_eq_true.1 h1 y (List.mem_range.2 (by omega))
 simpa using h2
def durKey (x : Nat) : Value := .float .f64 (e8 x)
def DurE (l : List MapEntry) : Prop := ∀ e ∈ l, ∃ x, x ≤ 160 ∧ e.key = durKey x ∧ e.val = .string (secs x)
def DurMap (g : Nat) (w : World) : Prop := ∃ es clock, w.heap[g]? = some (.map es clock) ∧ DurE es.toList
def DurHas (g k : Nat) (w : World) : Prop := ∃ es clock, w.heap[g]? = some (.map es clock) ∧ DurE es.toList ∧ ∃ e ∈ es.toList, e.key = durKey k
theorem DurHas.map {g k : Nat} {w : World} (h : DurHas g k w) : DurMap g w := by obtain ⟨es, c, h1, h2, _⟩ := h; exact ⟨es, c, h1, h2⟩
theorem dur_equal {x y : Nat} (hx : x ≤ 160) (hy : y ≤ 160) (w : World) : (Op.equal 32 (durKey x) (durKey y)).run Tryz.prog w = .ok (decide (x = y)) w := by
 show (Op.equalIn (9999 + 1) _ (.float .f64 (e8 x)) (.float .f64 (e8 y))).run Tryz.prog w = _
 have h := e8_eq hx hy
 generalize e8 x = X at h ⊢
 generalize e8 y = Y at h ⊢
 generalize 9999 = n
 simp only [Op.equalIn, Sem.run_bind, run_underlying Tryz.underlying32, Result.andThen_ok]
 simp only [Op.floatEq, h, if_true, Sem.run_pure]
theorem dur_asking {k : Nat} (hk : k ≤ 160) (w : World) : ∀ (l : List MapEntry) (i : Nat), DurE l →
  (((Instr.findAsking 32 (durKey k) l i).run Tryz.prog w = .ok none w ∧ ∀ e ∈ l, e.key ≠ durKey k) ∨
   ∃ j e, (Instr.findAsking 32 (durKey k) l i).run Tryz.prog w = .ok (some (i + j, .string (secs k))) w ∧ l[j]? = some e ∧ e.key = durKey k)
 | [], i, _ => .inl ⟨by simp [Instr.findAsking], by simp⟩
 | e :: es, i, h => by
  obtain ⟨x, hx, hkey, hval⟩ := h e (List.mem_cons_self ..)
  have he := dur_equal hk hx w
  rw [← hkey] at he
  by_cases hkx : k = x
  ·subst hkx
   refine .inr ⟨0, e, ?_, rfl, hkey⟩
   rw [Instr.findAsking]
   simp [he, hval, Result.andThen]
  ·have hd : decide (k = x) = false := decide_eq_false hkx
   rw [hd] at he
   have hne : e.key ≠ durKey k := by
    intro q
    rw [hkey] at q
    have h1 := e8_eq hx hk
    have h2 : e8 x = e8 k := by unfold durKey at q; injection q
    have h3 := e8_eq hk hk
    rw [h2, h3] at h1
    have h4 := of_decide_eq_true (h1.symm.trans (decide_eq_true rfl))
    exact hkx h4.symm
   rcases dur_asking hk w es (i + 1) (fun e' he' => h e' (List.mem_cons_of_mem _ he')) with ⟨h1, h2⟩ | ⟨j, e', h1, h2, h3⟩
   ·refine .inl ⟨?_, ?_⟩
    ·rw [Instr.findAsking]
     simp [he, h1, Result.andThen]
    ·intro e' he'
     rcases List.mem_cons.1 he' with rfl | he'
     ·exact hne
     ·exact h2 e' he'
   ·refine .inr ⟨j + 1, e', ?_, by simpa using h2, h3⟩
    rw [Instr.findAsking]
    simp [he, h1, Result.andThen]
    omega
theorem dur_find {k : Nat} (hk : k ≤ 160) (w : World) (l : List MapEntry) (h : DurE l) :
  (((Instr.findKey 32 (durKey k) l).run Tryz.prog w = .ok none w ∧ ∀ e ∈ l, e.key ≠ durKey k) ∨
   ∃ j e, (Instr.findKey 32 (durKey k) l).run Tryz.prog w = .ok (some (j, .string (secs k))) w ∧ l[j]? = some e ∧ e.key = durKey k) := by
 cases l with
 | nil => exact .inl ⟨by simp [Instr.findKey, Instr.findNow, run_underlying Tryz.underlying32, Result.andThen], by simp⟩
 | cons e es =>
  have hn : ∀ d, d = TypeDesc.float .f64 → Instr.findNow d (durKey k) (e :: es) 0 = none := by
   rintro d rfl
   simp [Instr.findNow, Instr.sameNow]
  have hf : (Instr.findKey 32 (durKey k) (e :: es)).run Tryz.prog w = (Instr.findAsking 32 (durKey k) (e :: es) 0).run Tryz.prog w := by
   simp only [Instr.findKey, Sem.run_bind, run_underlying Tryz.underlying32, Result.andThen_ok, hn _ rfl]
  rcases dur_asking hk w (e :: es) 0 h with ⟨h1, h2⟩ | ⟨j, e', h1, h2, h3⟩
  ·exact .inl ⟨hf.trans h1, h2⟩
  ·exact .inr ⟨j, e', by rw [hf, h1, Nat.zero_add], h2, h3⟩
theorem dur_check (em : Bool) (k : Nat) (w : World) : (Instr.checkKey em 10000 32 (durKey k)).run Tryz.prog w = .ok () w := by
 show (Instr.checkKey em (9999 + 1) _ (.float .f64 (e8 k))).run _ _ = _
 generalize e8 k = X
 generalize 9999 = n
 simp [Instr.checkKey, run_underlying Tryz.underlying32, Result.andThen]
theorem dur_lookup {g k : Nat} {w : World} (hk : k ≤ 160) (h : DurMap g w) :
  (Instr.lookup 130 (.map (some g)) (durKey k) true).run Tryz.prog w = .ok (.tuple #[.string (secs k), .bool true]) w ∨ (Instr.lookup 130 (.map (some g)) (durKey k) true).run Tryz.prog w = .ok (.tuple #[.string ⟨#[]⟩, .bool false]) w := by
 obtain ⟨es, c, hg, hE⟩ := h
 rcases dur_find hk w es.toList hE with ⟨h1, h2⟩ | ⟨j, e, h1, h2, h3⟩
 ·right
  simp [Instr.lookup, run_underlying Tryz.underlying130, MapKept.run_getObj_map hg, dur_check, h1, Result.andThen]
  try go_simp
 ·left
  simp [Instr.lookup, run_underlying Tryz.underlying130, MapKept.run_getObj_map hg, dur_check, h1, Result.andThen]
theorem dur_has {g k : Nat} {w : World} (hk : k ≤ 160) (h : DurHas g k w) :
  (Instr.lookup 130 (.map (some g)) (durKey k) false).run Tryz.prog w = .ok (.string (secs k)) w := by
 obtain ⟨es, c, hg, hE, e, he, hek⟩ := h
 rcases dur_find hk w es.toList hE with ⟨h1, h2⟩ | ⟨j, e, h1, h2, h3⟩
 ·exact absurd hek (h2 e he)
 ·simp [Instr.lookup, run_underlying Tryz.underlying130, MapKept.run_getObj_map hg, dur_check, h1, Result.andThen]
/-- The world with the map as it is behind the update. -/
theorem dur_update {g k : Nat} {w : World} (hk : k ≤ 160) (h : DurMap g w) :
  ∃ w', (Instr.mapUpdate 130 (.map (some g)) (durKey k) (.string (secs k))).run Tryz.prog w = .ok () w' ∧ DurHas g k w' ∧ Only (fun g' => g' = g) w w' := by
 obtain ⟨es, c, hg, hE⟩ := h
 have hlt := (Array.getElem?_eq_some_iff.1 hg).1
 have ho : ∀ x, Only (fun g' => g' = g) w { w with heap := w.heap.setIfInBounds g x } := fun x => by
  refine ⟨rfl, rfl, rfl, by simp, fun g' hg' hne => ?_⟩
  simp only [Array.getElem?_setIfInBounds]
  rw [if_neg (fun e => hne e.symm)]
 have hat : ∀ x, (w.heap.setIfInBounds g x)[g]? = some x := fun x => by simp [Array.getElem?_setIfInBounds, hlt]
 rcases dur_find hk w es.toList hE with ⟨h1, h2⟩ | ⟨j, e, h1, h2, h3⟩
 ·refine ⟨_, ?_, ?_, ho (.map (es.push { key := durKey k, val := .string (secs k), born := c }) (c + 1))⟩
  ·simp [Instr.mapUpdate, run_underlying Tryz.underlying130, MapKept.run_getObj_map hg, dur_check, h1, MapKept.run_setObj_map _ hg, Result.andThen]
  ·refine ⟨_, _, hat _, ?_, ⟨{ key := durKey k, val := .string (secs k), born := c }, by simp, rfl⟩⟩
   intro e he
   simp only [Array.toList_push, List.mem_append, List.mem_singleton] at he
   rcases he with he | rfl
   ·exact hE e he
   ·exact ⟨k, hk, rfl, rfl⟩
 ·have hj : es[j]? = some e := by simpa using h2
  have hkt : ∀ w, (Instr.keyThatStays (durKey k) (durKey k)).run Tryz.prog w = .ok (durKey k) w := by
   intro w
   simp [Instr.keyThatStays, Instr.sameBits, durKey]
  refine ⟨_, ?_, ?_, ho (.map (es.modify j fun e => { e with key := durKey k, val := .string (secs k) }) c)⟩
  ·simp [Instr.mapUpdate, run_underlying Tryz.underlying130, MapKept.run_getObj_map hg, dur_check, h1, MapKept.run_setObj_map _ hg, hj, h3, hkt, Result.andThen]
  ·refine ⟨_, _, hat _, ?_, ⟨{ e with key := durKey k, val := .string (secs k) }, ?_, rfl⟩⟩
   ·intro e' he'
    obtain ⟨i, hi⟩ := List.mem_iff_getElem?.1 he'
    rw [Array.getElem?_toList, Array.getElem?_modify] at hi
    split at hi
    ·rw [Option.map_eq_some_iff] at hi
     obtain ⟨e0, _, rfl⟩ := hi
     exact ⟨k, hk, rfl, rfl⟩
    ·exact hE e' (by rw [Array.mem_toList_iff]; exact Array.mem_of_getElem? hi)
   ·rw [Array.mem_toList_iff]
    refine Array.mem_of_getElem? (i := j) ?_
    rw [Array.getElem?_modify, if_pos rfl, hj]
    rfl
theorem dur_make (w : World) : (Instr.makeMap 130 none).run Tryz.prog w = .ok (.map (some w.heap.size)) (w.alloc (.map #[] 0)) := rfl
theorem DurMap.old {g : Nat} {w w' : World} (h : DurMap g w) (hb : Below w.heap.size w w') : DurMap g w' := by
 obtain ⟨es, c, hg, hE⟩ := h
 exact ⟨es, c, by rw [hb.block g (Array.getElem?_eq_some_iff.1 hg).1]; exact hg, hE⟩
theorem DurHas.old {g k : Nat} {w w' : World} (h : DurHas g k w) (hb : Below w.heap.size w w') : DurHas g k w' := by
 obtain ⟨es, c, hg, hE⟩ := h
 exact ⟨es, c, by rw [hb.block g (Array.getElem?_eq_some_iff.1 hg).1]; exact hg, hE⟩
end Go.Proofs.YtfonjeoiallhhaaGreatDoor
/- MediaPlaylist.Encode: the nodes beside the pieces: the cache, the guarded tests, the duration. Printed by wip/tools/gen_eb.py. -/
set_option maxRecDepth 100000
set_option maxHeartbeats 8000000
namespace Go.Proofs.YtfonjeoiallhhaaGreatDoor
open Go.RowKit
/-- The buffer, and the cache beside it. -/
def EM (p : Pq) (B pb gm : Nat) (w0 : World) (s : List UInt8) (w : World) : Prop := EW 72 p.rest B pb 17 w0 s w ∧ DurMap gm w
section
variable {T : TypeId} {R : Nat → Option Value} {B pb o gm : Nat} {w0 w w' : World} {s : List UInt8} {p : Pq}
theorem EW.map (h : EW T R B pb o w0 s w) {ob : Obj} (hm : w.heap[gm]? = some ob) (hc : ∀ cs e fr, ob ≠ .cells cs e fr) (h0 : w0.heap.size ≤ gm) (hB : B ≤ gm) (ho : Only (fun g => g = gm) w w') : EW T R B pb o w0 s w' := by
 obtain ⟨hi, hb, hk⟩ := h
 have hpb : pb ≠ gm := by
  intro e
  obtain ⟨_, v, lr, ⟨cs, hbk, _⟩, _, _⟩ := hi
  rw [e, hm] at hbk
  exact hc _ _ _ (Option.some.inj hbk)
 refine ⟨?_, ?_, ?_⟩
 ·have hlt := hi.lt
  obtain ⟨hB', v, lr, hbk, hown, hne⟩ := hi
  refine ⟨hB', v, lr, hbk.of_heap (ho.block pb hlt hpb), ⟨hown.1, ?_⟩, hne⟩
  rcases hown.2 with hn | ⟨g, cap, cur, hv, hbg, hg, rest⟩
  ·exact .inl hn
  ·refine .inr ⟨g, cap, cur, hv, hbg, ?_, rest⟩
   rw [ho.block g (Array.getElem?_eq_some_iff.1 hg).1 (fun e => by rw [e, hm] at hg; exact hc _ _ _ (Option.some.inj hg))]
   exact hg
 ·exact ⟨ho.os.trans hb.os, ho.tape.trans hb.tape, ho.output.trans hb.output, Nat.le_trans hb.size ho.size, fun g hg => by
   by_cases e : g = gm
   ·omega
   ·rw [ho.block g (by have := hi.1; have := hi.lt; omega) e]; exact hb.block g hg⟩
 ·intro k ob' h1 h2 h3
  rw [ho.block k (by have := hk k ob' h1 h2 h3; exact (Array.getElem?_eq_some_iff.1 this).1) (fun e => by have := (Array.getElem?_eq_some_iff.1 h1).1; omega)]
  exact hk k ob' h1 h2 h3
theorem kept_map {w w' : World} (hk : Lib.OthersKept 5 (some pb) w w') (h : DurMap gm w) (hpb : gm ≠ pb) : DurMap gm w' := by
 obtain ⟨es, c, hg, hE⟩ := h
 exact ⟨es, c, hk gm _ hg (fun e => hpb (Option.some.inj e)) (fun c fz e => by cases e), hE⟩
theorem EM.ne (h : EM p B pb gm w0 s w) : gm ≠ pb := by
 obtain ⟨⟨⟨_, v, lr, ⟨cs, hbk, _⟩, _⟩, _⟩, es, c, hg, _⟩ := h
 intro e
 rw [e, hbk] at hg
 cases hg
theorem EM.wr : Wr (EM p B pb gm w0) 140737488355328 ⟨pb, 17, none⟩ where
 below := fun s w w' h hb => ⟨h.1.below hb, h.2.old hb⟩
 ws := fun s w x h hl => by
  have hn := h.ne
  refine (EW.wr.ws s w x (EW.refl h.1.1) hl).mono ?_
  rintro e w' ⟨hv, h1⟩
  exact ⟨hv, h.1.rebase h1, kept_map h1.2.2 h.2 hn⟩
 wr := fun s w c hc h hl => by
  have hn := h.ne
  refine (EW.wr.wr s w c hc (EW.refl h.1.1) hl).mono ?_
  rintro e w' ⟨hv, h1⟩
  exact ⟨hv, h.1.rebase h1, kept_map h1.2.2 h.2 hn⟩
theorem EM.rest (h : EM p B pb gm w0 s w) (j : Nat) (v : Value) (hj : p.rest j = some v) : w.cell? ⟨pb, j, none⟩ = some v := by
 have h1 : j < 17 ∨ 17 + 3 ≤ j := by
  unfold Pq.rest at hj
  split at hj
  ·cases hj
  ·omega
 exact (h.1.1.rest j h1).trans hj
end
/-- A frame by its ten first slots. -/
def l10 (f : Nat → Value) : List (Nat × Value) := [(0, f 0), (1, f 1), (2, f 2), (3, f 3), (4, f 4), (5, f 5), (6, f 6), (7, f 7), (8, f 8), (9, f 9)]
theorem Fr.ev {N : Nat} {f : Nat → Value} {a : Act} (h : Fr N 10 f a) : Ev N (l10 f) a := by
 refine ⟨h.size, h.defers, fun t v hl => ?_⟩
 unfold l10 at hl
 by_cases ht : t < 10
 ·rw [h.low t ht]
  have : t = 0 ∨ t = 1 ∨ t = 2 ∨ t = 3 ∨ t = 4 ∨ t = 5 ∨ t = 6 ∨ t = 7 ∨ t = 8 ∨ t = 9 := by omega
  rcases this with rfl | rfl | rfl | rfl | rfl | rfl | rfl | rfl | rfl | rfl <;> exact Option.some.inj hl
 ·have hn : ∀ k, k < 10 → (t == k) = false := fun k hk => by simp; omega
  simp [List.lookup, hn] at hl
theorem Ev.fr_of {N : Nat} {f : Nat → Value} {a : Act} {l : List (Nat × Value)} (h : Ev N l a) (e0 : l.lookup 0 = some (f 0)) (e1 : l.lookup 1 = some (f 1)) (e2 : l.lookup 2 = some (f 2)) (e3 : l.lookup 3 = some (f 3)) (e4 : l.lookup 4 = some (f 4)) (e5 : l.lookup 5 = some (f 5)) (e6 : l.lookup 6 = some (f 6)) (e7 : l.lookup 7 = some (f 7)) (e8 : l.lookup 8 = some (f 8)) (e9 : l.lookup 9 = some (f 9)) : Fr N 10 f a := by
 refine ⟨h.size, h.defers, fun t ht => ?_⟩
 have : t = 0 ∨ t = 1 ∨ t = 2 ∨ t = 3 ∨ t = 4 ∨ t = 5 ∨ t = 6 ∨ t = 7 ∨ t = 8 ∨ t = 9 := by omega
 rcases this with rfl | rfl | rfl | rfl | rfl | rfl | rfl | rfl | rfl | rfl
 all_goals exact h.look _ _ (by assumption)
/-- A piece used: what is known of the low slots stays known. -/
theorem Ev.fr' {N : Nat} {l : List (Nat × Value)} {a : Act} (h : Ev N l a) : Fr N 10 (fun t => a.eval (.tmp t)) a := ⟨h.size, h.defers, fun _ _ => rfl⟩
theorem Fr.know {N : Nat} {l : List (Nat × Value)} {a a' : Act} (h : Ev N l a) (h' : Fr N 10 (fun t => a.eval (.tmp t)) a') (hl : (l.all fun q => decide (q.1 < 10)) = true) : Ev N l a' := by
 refine ⟨h'.size, h'.defers, fun t v hv => ?_⟩
 have ht : t < 10 := by
  rw [List.all_eq_true] at hl
  have : ∀ (l : List (Nat × Value)), l.lookup t = some v → (t, v) ∈ l := by
   intro l
   induction l with
   | nil => intro h; cases h
   | cons q r ih =>
    intro h
    obtain ⟨k, u⟩ := q
    by_cases e : t = k
    ·subst e
     rw [look_eq] at h
     rw [Option.some.inj h]
     exact List.mem_cons_self ..
    ·rw [look_ne e] at h
     exact List.mem_cons_of_mem _ (ih h)
  exact of_decide_eq_true (hl _ (this l hv))
 rw [h'.low t ht]
 exact h.look t v hv
theorem tr_use {N : Nat} {l : List (Nat × Value)} {W : List UInt8 → World → Prop} {lim : Nat} {c : Code} {x s : List UInt8} {a : Act} {w : World} {Q : Exit → Act → World → Prop} (hT : ∀ f, (∀ t, a.eval (.tmp t) = f t) → Tr N 10 f W lim c x) (h : Ev N l a) (hl : (l.all fun q => decide (q.1 < 10)) = true) (hw : W s w) (hlim : s.length + x.length ≤ lim)
  (hK : ∀ a' w', Ev N l a' → W (s ++ x) w' → Q .normal a' w') : c.wp Tryz.prog Q a w :=
 hT _ (fun _ => rfl) s a w h.fr' hw hlim Q fun a' w' hf hw' => hK a' w' (Fr.know h hf hl) hw'
section
variable {N : Nat} {l : List (Nat × Value)} {a : Act} {w : World} {ops : Array Oper} {rest : List Oper} {o : Oper} {C : World → Prop} {Q : Act → Prop} {d gj gt : Nat} {b b' : Bool} {v : Value}
theorem qv_gon (h : Ev N l a) (hg : o.guard = some (gj, b)) (hgd : (ops[gj]?).bind (·.dst) = some gt) (ht : a.eval (.tmp gt) = .bool b) (hd : o.dst = some d) (hdN : d < N) (hr : ∀ w, C w → (execOp a.eval o).run Tryz.prog w = .ok (.value v) w)
  (hK : ∀ a', Ev N ((d, v) :: l) a' → wpQuiet Tryz.prog ops C Q rest a') : wpQuiet Tryz.prog ops C Q (o :: rest) a := by
 have hw : Region.wanted o (yielded ops a.tmps) = true := by unfold Region.wanted; rw [hg]; simp [yielded_of hgd ht]
 unfold wpQuiet
 rw [if_pos hw]
 refine ⟨v, fun w hC => ?_, by rw [hd]; exact hK _ (h.set hdN)⟩
 unfold Oper.quietAt
 rw [hr w hC]
 exact ⟨rfl, rfl⟩
theorem qv_goff (h : Ev N l a) (hg : o.guard = some (gj, b)) (hgd : (ops[gj]?).bind (·.dst) = some gt) (ht : a.eval (.tmp gt) = .bool b') (hne : (b' == b) = false) (hd : o.dst = some d) (hdN : d < N)
  (hK : ∀ a', Ev N ((d, undef) :: l) a' → wpQuiet Tryz.prog ops C Q rest a') : wpQuiet Tryz.prog ops C Q (o :: rest) a := by
 have hw : Region.wanted o (yielded ops a.tmps) = false := by
  unfold Region.wanted
  rw [hg]
  simp only [yielded_of hgd ht]
  cases b <;> cases b' <;> simp at hne ⊢
 unfold wpQuiet
 rw [if_neg (by rw [hw]; decide), hd]
 exact hK _ (h.set hdN)
end
theorem ex_pnl {a : Act} {w : World} {dst : Option Nat} {ty : TypeId} {ps : String} {af : Array Edge} {gd : Option (Nat × Bool)} {x y : Operand} {T' : TypeId} {q : Addr} (hx : a.eval x = .pointer none) (hy : a.eval y = .pointer (some q)) : (execOp a.eval ⟨dst, .binOp .neq 69 x y T', ty, ps, af, gd⟩).run Tryz.prog w = .ok (.value (.bool true)) w := by
 have hr : (binOp .neq 69 (.pointer none) (.pointer (some q))).run Tryz.prog w = .ok (.bool true) w := by
  have he : (Op.equal 69 (.pointer none) (.pointer (some q))).run Tryz.prog w = .ok false w := by
   show (Op.equalIn (9999 + 1) _ _ _).run _ _ = _
   generalize 9999 = n
   simp [Op.equalIn, run_underlying Tryz.underlying69]
  simp only [binOp]
  simp [he]
 simp only [execOp, hx, hy]
 simp [eqGuard, hr, Result.andThen]
theorem ts_key0 {f : Nat → Value} {W : List UInt8 → World → Prop} {lim pb : Nat} (H : Wr W lim ⟨pb, 17, none⟩) (h0 : f 0 = pt pb 0) (p : Pq) (hP : ∀ s w, W s w → ∀ (j : Nat) (v : Value), p.rest j = some v → w.cell? ⟨pb, j, none⟩ = some v) (z : Mz) (gz : Nat) (h3 : f 3 = pt gz 0) (hZ : ∀ s w, W s w → w.heap[gz]? = some (.cells z.cells 104 (0, 0))) (hpk : p.kp = .pointer none) (hkp : z.kp = .pointer none) : Ts 1029 10 f W (cA (cA (cB (cB (cB (cB (cB (cA (cA (cB (cA (cA (cB (cA (cB (cB (cB (cB (cB (cB (cB (cB (cB (cB (cB (cB (cB (cB (cB (cB (cB (cB (cB (cB (cB encM))))))))))))))))))))))))))))))))))) 647 (.bool false) := by
 intro s a w hf hw Q hQ
 have hE := hf.ev
 unfold l10 at hE
 rw [h0, h3] at hE
 have hC' : ∀ w', (∃ n, w' = w.drewN n) → W s w' := fun w' ⟨n, e⟩ => e ▸ H.below _ _ _ hw (below_drewN (Below.refl _ _) n)
 refine wp_region_quiet_lit (by kernel_rfl) (by kernel_rfl) ?_
 refine qv_run (v := pt gz 0) hE rfl rfl (by decide) (fun w hC => (ex_mv (hE.get 3 rfl))) ?_
 intro a hE
 refine qv_run (v := pt gz 0) hE rfl rfl (by decide) (fun w hC => (ex_nc (hE.get 632 rfl))) ?_
 intro a hE
 refine qv_run (v := pt gz 6) hE rfl rfl (by decide) (fun w hC => (ex_fo (hE.get 633 rfl) fo_m3u8_MediaSegment_6 rfl)) ?_
 intro a hE
 refine qv_run (v := .pointer none) hE rfl rfl (by decide) (fun w hC => (ex_ld (hE.get 634 rfl) lt_p_m3u8_Key (cell_of_heap (v := .pointer none) (hZ _ _ (hC' _ hC)) (by rw [← hkp]; rfl)))) ?_
 intro a hE
 refine qv_run (v := .bool false) hE rfl rfl (by decide) (fun w hC => (ex_pne eqp_p_m3u8_Key (hE.get 635 rfl))) ?_
 intro a hE
 refine qv_run (v := .bool false) hE rfl rfl (by decide) (fun w hC => (ex_mv (hE.get 636 rfl))) ?_
 intro a hE
 refine qv_goff hE rfl rfl (hE.get 637 rfl) rfl rfl (by decide) ?_
 intro a hE
 refine qv_goff hE rfl rfl (hE.get 637 rfl) rfl rfl (by decide) ?_
 intro a hE
 refine qv_goff hE rfl rfl (hE.get 637 rfl) rfl rfl (by decide) ?_
 intro a hE
 refine qv_goff hE rfl rfl (hE.get 637 rfl) rfl rfl (by decide) ?_
 intro a hE
 refine qv_goff hE rfl rfl (hE.get 637 rfl) rfl rfl (by decide) ?_
 intro a hE
 refine qv_goff hE rfl rfl (hE.get 637 rfl) rfl rfl (by decide) ?_
 intro a hE
 refine qv_goff hE rfl rfl (hE.get 637 rfl) rfl rfl (by decide) ?_
 intro a hE
 refine qv_goff hE rfl rfl (hE.get 637 rfl) rfl rfl (by decide) ?_
 intro a hE
 refine qv_goff hE rfl rfl (hE.get 637 rfl) rfl rfl (by decide) ?_
 intro a hE
 refine qv_run (v := .bool false) hE rfl rfl (by decide) (fun w hC => (ex_pickF (hE.get 637 rfl) rfl)) ?_
 intro a hE
 refine wpQuiet_nil ?_
 intro w' hC
 exact hQ _ _ (Ev.fr_of (f := f) hE (congrArg some h0.symm) rfl rfl (congrArg some h3.symm) rfl rfl rfl rfl rfl rfl) (hC' _ hC) (hE.get 647 rfl)
theorem ts_key1 {f : Nat → Value} {W : List UInt8 → World → Prop} {lim pb : Nat} (H : Wr W lim ⟨pb, 17, none⟩) (h0 : f 0 = pt pb 0) (p : Pq) (hP : ∀ s w, W s w → ∀ (j : Nat) (v : Value), p.rest j = some v → w.cell? ⟨pb, j, none⟩ = some v) (z : Mz) (gz : Nat) (h3 : f 3 = pt gz 0) (hZ : ∀ s w, W s w → w.heap[gz]? = some (.cells z.cells 104 (0, 0))) (hpk : p.kp = .pointer none) (gk : Nat) (hkp : z.kp = pt gk 0) : Ts 1029 10 f W (cA (cA (cB (cB (cB (cB (cB (cA (cA (cB (cA (cA (cB (cA (cB (cB (cB (cB (cB (cB (cB (cB (cB (cB (cB (cB (cB (cB (cB (cB (cB (cB (cB (cB (cB encM))))))))))))))))))))))))))))))))))) 647 (.bool true) := by
 intro s a w hf hw Q hQ
 have hE := hf.ev
 unfold l10 at hE
 rw [h0, h3] at hE
 have hC' : ∀ w', (∃ n, w' = w.drewN n) → W s w' := fun w' ⟨n, e⟩ => e ▸ H.below _ _ _ hw (below_drewN (Below.refl _ _) n)
 refine wp_region_quiet_lit (by kernel_rfl) (by kernel_rfl) ?_
 refine qv_run (v := pt gz 0) hE rfl rfl (by decide) (fun w hC => (ex_mv (hE.get 3 rfl))) ?_
 intro a hE
 refine qv_run (v := pt gz 0) hE rfl rfl (by decide) (fun w hC => (ex_nc (hE.get 632 rfl))) ?_
 intro a hE
 refine qv_run (v := pt gz 6) hE rfl rfl (by decide) (fun w hC => (ex_fo (hE.get 633 rfl) fo_m3u8_MediaSegment_6 rfl)) ?_
 intro a hE
 refine qv_run (v := pt gk 0) hE rfl rfl (by decide) (fun w hC => (ex_ld (hE.get 634 rfl) lt_p_m3u8_Key (cell_of_heap (v := pt gk 0) (hZ _ _ (hC' _ hC)) (by rw [← hkp]; rfl)))) ?_
 intro a hE
 refine qv_run (v := .bool true) hE rfl rfl (by decide) (fun w hC => (ex_pne eqp_p_m3u8_Key (hE.get 635 rfl))) ?_
 intro a hE
 refine qv_run (v := .bool true) hE rfl rfl (by decide) (fun w hC => (ex_mv (hE.get 636 rfl))) ?_
 intro a hE
 refine qv_gon (v := pt pb 0) hE rfl rfl (hE.get 637 rfl) rfl (by decide) (fun w hC => (ex_mv (hE.get 0 rfl))) ?_
 intro a hE
 refine qv_gon (v := pt pb 0) hE rfl rfl (hE.get 637 rfl) rfl (by decide) (fun w hC => (ex_nc (hE.get 638 rfl))) ?_
 intro a hE
 refine qv_gon (v := pt pb 21) hE rfl rfl (hE.get 637 rfl) rfl (by decide) (fun w hC => (ex_fo (hE.get 639 rfl) fo_m3u8_MediaPlaylist_19 rfl)) ?_
 intro a hE
 refine qv_gon (v := .pointer none) hE rfl rfl (hE.get 637 rfl) rfl (by decide) (fun w hC => (ex_ld (hE.get 640 rfl) lt_p_m3u8_Key (hP _ _ (hC' _ hC) 21 (.pointer none) (by rw [← hpk]; rfl)))) ?_
 intro a hE
 refine qv_gon (v := pt gz 0) hE rfl rfl (hE.get 637 rfl) rfl (by decide) (fun w hC => (ex_mv (hE.get 3 rfl))) ?_
 intro a hE
 refine qv_gon (v := pt gz 0) hE rfl rfl (hE.get 637 rfl) rfl (by decide) (fun w hC => (ex_nc (hE.get 642 rfl))) ?_
 intro a hE
 refine qv_gon (v := pt gz 6) hE rfl rfl (hE.get 637 rfl) rfl (by decide) (fun w hC => (ex_fo (hE.get 643 rfl) fo_m3u8_MediaSegment_6 rfl)) ?_
 intro a hE
 refine qv_gon (v := pt gk 0) hE rfl rfl (hE.get 637 rfl) rfl (by decide) (fun w hC => (ex_ld (hE.get 644 rfl) lt_p_m3u8_Key (cell_of_heap (v := pt gk 0) (hZ _ _ (hC' _ hC)) (by rw [← hkp]; rfl)))) ?_
 intro a hE
 refine qv_gon (v := .bool true) hE rfl rfl (hE.get 637 rfl) rfl (by decide) (fun w hC => (ex_pnl (hE.get 641 rfl) (hE.get 645 rfl))) ?_
 intro a hE
 refine qv_run (v := .bool true) hE rfl rfl (by decide) (fun w hC => (ex_pickT (hE.get 637 rfl) (hE.get 646 rfl))) ?_
 intro a hE
 refine wpQuiet_nil ?_
 intro w' hC
 exact hQ _ _ (Ev.fr_of (f := f) hE (congrArg some h0.symm) rfl rfl (congrArg some h3.symm) rfl rfl rfl rfl rfl rfl) (hC' _ hC) (hE.get 647 rfl)
theorem ts_map0 {f : Nat → Value} {W : List UInt8 → World → Prop} {lim pb : Nat} (H : Wr W lim ⟨pb, 17, none⟩) (h0 : f 0 = pt pb 0) (p : Pq) (hP : ∀ s w, W s w → ∀ (j : Nat) (v : Value), p.rest j = some v → w.cell? ⟨pb, j, none⟩ = some v) (z : Mz) (gz : Nat) (h3 : f 3 = pt gz 0) (hZ : ∀ s w, W s w → w.heap[gz]? = some (.cells z.cells 104 (0, 0))) (hpk : p.mp = .pointer none) (hkp : z.mp = .pointer none) : Ts 1029 10 f W (cA (cA (cB (cB (cB (cB (cB (cB (cB (cA (cA (cB (cA (cA (cB (cA (cB (cB (cB (cB (cB (cB (cB (cB (cB (cB (cB (cB (cB (cB (cB (cB (cB (cB (cB (cB (cB encM))))))))))))))))))))))))))))))))))))) 794 (.bool false) := by
 intro s a w hf hw Q hQ
 have hE := hf.ev
 unfold l10 at hE
 rw [h0, h3] at hE
 refine wp_region_lit ?_
 refine ev_r (v := pt pb 0) (w' := w) hE (ex_mv (hE.get 0 rfl)) fun a hE => ?_
 refine ev_r (v := pt pb 0) (w' := w) hE (ex_nc (hE.get 783 rfl)) fun a hE => ?_
 refine ev_r (v := pt pb 22) (w' := w) hE (ex_fo (hE.get 784 rfl) fo_m3u8_MediaPlaylist_20 rfl) fun a hE => ?_
 refine ev_r (v := .pointer none) (w' := w) hE (ex_ld (hE.get 785 rfl) lt_p_m3u8_Map (hP _ _ hw 22 (.pointer none) (by rw [← hpk]; rfl))) fun a hE => ?_
 refine ev_r (v := .bool true) (w' := w) hE (ex_pe eqp_p_m3u8_Map (hE.get 786 rfl)) fun a hE => ?_
 refine ev_r (v := .bool true) (w' := w) hE (ex_mv (hE.get 787 rfl)) fun a hE => ?_
 refine ev_gon (v := pt gz 0) (w' := w) hE rfl rfl (hE.get 788 rfl) rfl (by decide) (ex_mv (hE.get 3 rfl)) ?_
 intro a hE
 refine ev_gon (v := pt gz 0) (w' := w) hE rfl rfl (hE.get 788 rfl) rfl (by decide) (ex_nc (hE.get 789 rfl)) ?_
 intro a hE
 refine ev_gon (v := pt gz 7) (w' := w) hE rfl rfl (hE.get 788 rfl) rfl (by decide) (ex_fo (hE.get 790 rfl) fo_m3u8_MediaSegment_7 rfl) ?_
 intro a hE
 refine ev_gon (v := .pointer none) (w' := w) hE rfl rfl (hE.get 788 rfl) rfl (by decide) (ex_ld (hE.get 791 rfl) lt_p_m3u8_Map (cell_of_heap (v := .pointer none) (hZ _ _ hw) (by rw [← hkp]; rfl))) ?_
 intro a hE
 refine ev_gon (v := .bool false) (w' := w) hE rfl rfl (hE.get 788 rfl) rfl (by decide) (ex_pne eqp_p_m3u8_Map (hE.get 792 rfl)) ?_
 intro a hE
 refine ev_r (v := .bool false) (w' := w) hE (ex_pickT (hE.get 788 rfl) (hE.get 793 rfl)) fun a hE => ?_
 refine wpList_nil ?_
 exact hQ _ _ (Ev.fr_of (f := f) hE (congrArg some h0.symm) rfl rfl (congrArg some h3.symm) rfl rfl rfl rfl rfl rfl) hw (hE.get 794 rfl)
theorem ts_map1 {f : Nat → Value} {W : List UInt8 → World → Prop} {lim pb : Nat} (H : Wr W lim ⟨pb, 17, none⟩) (h0 : f 0 = pt pb 0) (p : Pq) (hP : ∀ s w, W s w → ∀ (j : Nat) (v : Value), p.rest j = some v → w.cell? ⟨pb, j, none⟩ = some v) (z : Mz) (gz : Nat) (h3 : f 3 = pt gz 0) (hZ : ∀ s w, W s w → w.heap[gz]? = some (.cells z.cells 104 (0, 0))) (hpk : p.mp = .pointer none) (gm : Nat) (hkp : z.mp = pt gm 0) : Ts 1029 10 f W (cA (cA (cB (cB (cB (cB (cB (cB (cB (cA (cA (cB (cA (cA (cB (cA (cB (cB (cB (cB (cB (cB (cB (cB (cB (cB (cB (cB (cB (cB (cB (cB (cB (cB (cB (cB (cB encM))))))))))))))))))))))))))))))))))))) 794 (.bool true) := by
 intro s a w hf hw Q hQ
 have hE := hf.ev
 unfold l10 at hE
 rw [h0, h3] at hE
 refine wp_region_lit ?_
 refine ev_r (v := pt pb 0) (w' := w) hE (ex_mv (hE.get 0 rfl)) fun a hE => ?_
 refine ev_r (v := pt pb 0) (w' := w) hE (ex_nc (hE.get 783 rfl)) fun a hE => ?_
 refine ev_r (v := pt pb 22) (w' := w) hE (ex_fo (hE.get 784 rfl) fo_m3u8_MediaPlaylist_20 rfl) fun a hE => ?_
 refine ev_r (v := .pointer none) (w' := w) hE (ex_ld (hE.get 785 rfl) lt_p_m3u8_Map (hP _ _ hw 22 (.pointer none) (by rw [← hpk]; rfl))) fun a hE => ?_
 refine ev_r (v := .bool true) (w' := w) hE (ex_pe eqp_p_m3u8_Map (hE.get 786 rfl)) fun a hE => ?_
 refine ev_r (v := .bool true) (w' := w) hE (ex_mv (hE.get 787 rfl)) fun a hE => ?_
 refine ev_gon (v := pt gz 0) (w' := w) hE rfl rfl (hE.get 788 rfl) rfl (by decide) (ex_mv (hE.get 3 rfl)) ?_
 intro a hE
 refine ev_gon (v := pt gz 0) (w' := w) hE rfl rfl (hE.get 788 rfl) rfl (by decide) (ex_nc (hE.get 789 rfl)) ?_
 intro a hE
 refine ev_gon (v := pt gz 7) (w' := w) hE rfl rfl (hE.get 788 rfl) rfl (by decide) (ex_fo (hE.get 790 rfl) fo_m3u8_MediaSegment_7 rfl) ?_
 intro a hE
 refine ev_gon (v := pt gm 0) (w' := w) hE rfl rfl (hE.get 788 rfl) rfl (by decide) (ex_ld (hE.get 791 rfl) lt_p_m3u8_Map (cell_of_heap (v := pt gm 0) (hZ _ _ hw) (by rw [← hkp]; rfl))) ?_
 intro a hE
 refine ev_gon (v := .bool true) (w' := w) hE rfl rfl (hE.get 788 rfl) rfl (by decide) (ex_pne eqp_p_m3u8_Map (hE.get 792 rfl)) ?_
 intro a hE
 refine ev_r (v := .bool true) (w' := w) hE (ex_pickT (hE.get 788 rfl) (hE.get 793 rfl)) fun a hE => ?_
 refine wpList_nil ?_
 exact hQ _ _ (Ev.fr_of (f := f) hE (congrArg some h0.symm) rfl rfl (congrArg some h3.symm) rfl rfl rfl rfl rfl rfl) hw (hE.get 794 rfl)
theorem ts_cue0 {f : Nat → Value} {W : List UInt8 → World → Prop} {lim pb : Nat} (H : Wr W lim ⟨pb, 17, none⟩) (h0 : f 0 = pt pb 0) (p : Pq) (hP : ∀ s w, W s w → ∀ (j : Nat) (v : Value), p.rest j = some v → w.cell? ⟨pb, j, none⟩ = some v) (z : Mz) (gz : Nat) (h3 : f 3 = pt gz 0) (hZ : ∀ s w, W s w → w.heap[gz]? = some (.cells z.cells 104 (0, 0))) (hkp : z.cp = .pointer none) : Ts 1029 10 f W (cA (cA (cB (cB (cB (cB (cA (cA (cB (cA (cA (cB (cA (cB (cB (cB (cB (cB (cB (cB (cB (cB (cB (cB (cB (cB (cB (cB (cB (cB (cB (cB (cB (cB encM)))))))))))))))))))))))))))))))))) 419 (.bool false) := by
 intro s a w hf hw Q hQ
 have hE := hf.ev
 unfold l10 at hE
 rw [h0, h3] at hE
 refine wp_region_lit ?_
 refine ev_r (v := pt gz 0) (w' := w) hE (ex_mv (hE.get 3 rfl)) fun a hE => ?_
 refine ev_r (v := pt gz 0) (w' := w) hE (ex_nc (hE.get 415 rfl)) fun a hE => ?_
 refine ev_r (v := pt gz 9) (w' := w) hE (ex_fo (hE.get 416 rfl) fo_m3u8_MediaSegment_9 rfl) fun a hE => ?_
 refine ev_r (v := .pointer none) (w' := w) hE (ex_ld (hE.get 417 rfl) lt_p_m3u8_SCTE (cell_of_heap (v := .pointer none) (hZ _ _ hw) (by rw [← hkp]; rfl))) fun a hE => ?_
 refine ev_r (v := .bool false) (w' := w) hE (ex_pne eqp_p_m3u8_SCTE (hE.get 418 rfl)) fun a hE => ?_
 refine wpList_nil ?_
 exact hQ _ _ (Ev.fr_of (f := f) hE (congrArg some h0.symm) rfl rfl (congrArg some h3.symm) rfl rfl rfl rfl rfl rfl) hw (hE.get 419 rfl)
theorem ts_cue1 {f : Nat → Value} {W : List UInt8 → World → Prop} {lim pb : Nat} (H : Wr W lim ⟨pb, 17, none⟩) (h0 : f 0 = pt pb 0) (p : Pq) (hP : ∀ s w, W s w → ∀ (j : Nat) (v : Value), p.rest j = some v → w.cell? ⟨pb, j, none⟩ = some v) (z : Mz) (gz : Nat) (h3 : f 3 = pt gz 0) (hZ : ∀ s w, W s w → w.heap[gz]? = some (.cells z.cells 104 (0, 0))) (gc : Nat) (hkp : z.cp = pt gc 0) : Ts 1029 10 f W (cA (cA (cB (cB (cB (cB (cA (cA (cB (cA (cA (cB (cA (cB (cB (cB (cB (cB (cB (cB (cB (cB (cB (cB (cB (cB (cB (cB (cB (cB (cB (cB (cB (cB encM)))))))))))))))))))))))))))))))))) 419 (.bool true) := by
 intro s a w hf hw Q hQ
 have hE := hf.ev
 unfold l10 at hE
 rw [h0, h3] at hE
 refine wp_region_lit ?_
 refine ev_r (v := pt gz 0) (w' := w) hE (ex_mv (hE.get 3 rfl)) fun a hE => ?_
 refine ev_r (v := pt gz 0) (w' := w) hE (ex_nc (hE.get 415 rfl)) fun a hE => ?_
 refine ev_r (v := pt gz 9) (w' := w) hE (ex_fo (hE.get 416 rfl) fo_m3u8_MediaSegment_9 rfl) fun a hE => ?_
 refine ev_r (v := pt gc 0) (w' := w) hE (ex_ld (hE.get 417 rfl) lt_p_m3u8_SCTE (cell_of_heap (v := pt gc 0) (hZ _ _ hw) (by rw [← hkp]; rfl))) fun a hE => ?_
 refine ev_r (v := .bool true) (w' := w) hE (ex_pne eqp_p_m3u8_SCTE (hE.get 418 rfl)) fun a hE => ?_
 refine wpList_nil ?_
 exact hQ _ _ (Ev.fr_of (f := f) hE (congrArg some h0.symm) rfl rfl (congrArg some h3.symm) rfl rfl rfl rfl rfl rfl) hw (hE.get 419 rfl)
theorem ts_nil {f : Nat → Value} {W : List UInt8 → World → Prop} {lim pb : Nat} (H : Wr W lim ⟨pb, 17, none⟩) (h0 : f 0 = pt pb 0) (p : Pq) (hP : ∀ s w, W s w → ∀ (j : Nat) (v : Value), p.rest j = some v → w.cell? ⟨pb, j, none⟩ = some v) (z : Mz) (gz : Nat) (h3 : f 3 = pt gz 0) (hZ : ∀ s w, W s w → w.heap[gz]? = some (.cells z.cells 104 (0, 0))) : Ts 1029 10 f W (cA (cA (cB (cB (cA (cA (cB (cA (cA (cB (cA (cB (cB (cB (cB (cB (cB (cB (cB (cB (cB (cB (cB (cB (cB (cB (cB (cB (cB (cB (cB (cB encM)))))))))))))))))))))))))))))))) 407 (.bool false) := by
 intro s a w hf hw Q hQ
 have hE := hf.ev
 unfold l10 at hE
 rw [h0, h3] at hE
 refine wp_region_lit ?_
 refine ev_r (v := pt gz 0) (w' := w) hE (ex_mv (hE.get 3 rfl)) fun a hE => ?_
 refine ev_r (v := .bool false) (w' := w) hE (ex_pe eqp_p_m3u8_MediaSegment (hE.get 406 rfl)) fun a hE => ?_
 refine wpList_nil ?_
 exact hQ _ _ (Ev.fr_of (f := f) hE (congrArg some h0.symm) rfl rfl (congrArg some h3.symm) rfl rfl rfl rfl rfl rfl) hw (hE.get 407 rfl)
theorem dur_156 {lim pb : Nat} {W : List UInt8 → World → Prop} {f : Nat → Value} (h0 : f 0 = pt pb 0) (z : Mz) (hze : z.s.e < 160) (gz gm : Nat) (h3 : f 3 = pt gz 0) (h4 : f 4 = .map (some gm)) (hZ : ∀ s w, W s w → w.heap[gz]? = some (.cells z.cells 104 (0, 0))) (hD : ∀ s w, W s w → DurMap gm w)
  (s : List UInt8) (a : Act) (w : World) (hf : Fr 1029 10 f a) (hw : W s w) (Q : Exit → Act → World → Prop) (hQ : ∀ a' (b : Bool) (u : Value), (b = true → u = .string (secs z.s.e)) → Fr 1029 10 (fun t => if t = 9 then .bool b else if t = 8 then u else f t) a' → Q .normal a' w) : ((cA (cA (cB (cB (cB (cB (cB (cB (cB (cB (cB (cB (cB (cA (cA (cB (cA (cA (cB (cA (cB (cB (cB (cB (cB (cB (cB (cB (cB (cB (cB (cB (cB (cB (cB (cB (cB (cB (cB (cB (cB encM)))))))))))))))))))))))))))))))))))))))))).wp Tryz.prog Q a w := by
 have hE := hf.ev
 unfold l10 at hE
 rw [h0, h3, h4] at hE
 rcases dur_lookup (Nat.le_of_lt hze) (hD _ _ hw) with hlk | hlk
 ·refine wp_region_lit ?_
  refine ev_r (v := .map (some gm)) (w' := w) hE (ex_mv (hE.get 4 rfl)) fun a hE => ?_
  refine ev_r (v := pt gz 0) (w' := w) hE (ex_mv (hE.get 3 rfl)) fun a hE => ?_
  refine ev_r (v := pt gz 0) (w' := w) hE (ex_nc (hE.get 924 rfl)) fun a hE => ?_
  refine ev_r (v := pt gz 3) (w' := w) hE (ex_fo (hE.get 925 rfl) fo_m3u8_MediaSegment_3 rfl) fun a hE => ?_
  refine ev_r (v := .float .f64 (e8 z.s.e)) (w' := w) hE (ex_ld (hE.get 926 rfl) lt_float64 (cell_of_heap (v := .float .f64 (e8 z.s.e)) (hZ _ _ hw) rfl)) fun a hE => ?_
  refine ev_r (v := .tuple #[.string (secs z.s.e), .bool true]) (w' := w) hE (by simp only [execOp, hE.get 923 rfl, hE.get 927 rfl]; exact run_andValue hlk) fun a hE => ?_
  refine ev_r (v := .tuple #[.string (secs z.s.e), .bool true]) (w' := w) hE (ex_mv (hE.get 928 rfl)) fun a hE => ?_
  refine ev_r (v := .string (secs z.s.e)) (w' := w) hE (ei_ext (hE.get 922 rfl) rfl) fun a hE => ?_
  refine ev_r (v := .bool true) (w' := w) hE (ei_ext (hE.get 922 rfl) rfl) fun a hE => ?_
  refine ev_r (v := .string (secs z.s.e)) (w' := w) hE (ex_as (hE.get 929 rfl)) fun a hE => ?_
  refine ev_r (v := .bool true) (w' := w) hE (ex_as (hE.get 930 rfl)) fun a hE => ?_
  refine wpList_nil ?_
  refine hQ _ true _ (fun e => rfl) (Ev.fr_of (f := fun t => if t = 9 then .bool true else if t = 8 then .string (secs z.s.e) else f t) hE (congrArg some h0.symm) rfl rfl (congrArg some h3.symm) (congrArg some h4.symm) rfl rfl rfl rfl rfl)
 ·refine wp_region_lit ?_
  refine ev_r (v := .map (some gm)) (w' := w) hE (ex_mv (hE.get 4 rfl)) fun a hE => ?_
  refine ev_r (v := pt gz 0) (w' := w) hE (ex_mv (hE.get 3 rfl)) fun a hE => ?_
  refine ev_r (v := pt gz 0) (w' := w) hE (ex_nc (hE.get 924 rfl)) fun a hE => ?_
  refine ev_r (v := pt gz 3) (w' := w) hE (ex_fo (hE.get 925 rfl) fo_m3u8_MediaSegment_3 rfl) fun a hE => ?_
  refine ev_r (v := .float .f64 (e8 z.s.e)) (w' := w) hE (ex_ld (hE.get 926 rfl) lt_float64 (cell_of_heap (v := .float .f64 (e8 z.s.e)) (hZ _ _ hw) rfl)) fun a hE => ?_
  refine ev_r (v := .tuple #[.string ⟨#[]⟩, .bool false]) (w' := w) hE (by simp only [execOp, hE.get 923 rfl, hE.get 927 rfl]; exact run_andValue hlk) fun a hE => ?_
  refine ev_r (v := .tuple #[.string ⟨#[]⟩, .bool false]) (w' := w) hE (ex_mv (hE.get 928 rfl)) fun a hE => ?_
  refine ev_r (v := .string (⟨#[]⟩)) (w' := w) hE (ei_ext (hE.get 922 rfl) rfl) fun a hE => ?_
  refine ev_r (v := .bool false) (w' := w) hE (ei_ext (hE.get 922 rfl) rfl) fun a hE => ?_
  refine ev_r (v := .string (⟨#[]⟩)) (w' := w) hE (ex_as (hE.get 929 rfl)) fun a hE => ?_
  refine ev_r (v := .bool false) (w' := w) hE (ex_as (hE.get 930 rfl)) fun a hE => ?_
  refine wpList_nil ?_
  refine hQ _ false _ (fun e => by cases e) (Ev.fr_of (f := fun t => if t = 9 then .bool false else if t = 8 then .string ⟨#[]⟩ else f t) hE (congrArg some h0.symm) rfl rfl (congrArg some h3.symm) (congrArg some h4.symm) rfl rfl rfl rfl rfl)
end Go.Proofs.YtfonjeoiallhhaaGreatDoor
/- MediaPlaylist.Encode: the duration's node. Printed by wip/tools/gen_ec.py. -/
set_option maxRecDepth 100000
set_option maxHeartbeats 8000000
namespace Go.Proofs.YtfonjeoiallhhaaGreatDoor
open Go.RowKit
theorem ev_mu {N : Nat} {l : List (Nat × Value)} {a : Act} {w w' : World} {ops : Array Oper} {rest : List Oper} {Q : Exit → Act → World → Prop} {T : TypeId} {x y u : Operand} {v1 v2 v3 : Value} {ty : TypeId} {ps : String} {af : Array Edge} (h : Ev N l a) (h1 : a.eval x = v1) (h2 : a.eval y = v2) (h3 : a.eval u = v3) (hr : (Instr.mapUpdate T v1 v2 v3).run Tryz.prog w = .ok () w')
  (hK : wpList Tryz.prog ops Q rest a w') : wpList Tryz.prog ops Q (⟨none, .mapUpdate T x y u, ty, ps, af, none⟩ :: rest) a w := by
 refine arm_skip rfl rfl ?_ hK
 simp only [execOp, h1, h2, h3]
 simp [hr, Result.andThen]
theorem EM.upd {p : Pq} {B pb gm k : Nat} {w0 w w' : World} {s : List UInt8} (h : EM p B pb gm w0 s w) (h0 : w0.heap.size ≤ gm) (hB : B ≤ gm) (hh : DurHas gm k w') (ho : Only (fun g => g = gm) w w') : EM p B pb gm w0 s w' := by
 obtain ⟨es, c, hg, _⟩ := h.2
 exact ⟨h.1.map hg (fun _ _ _ e => by cases e) h0 hB ho, hh.map⟩
theorem DurMap.ne {g gm : Nat} {w : World} {cs : Array Value} {e : TypeId} {fr : Nat × Nat} (h : DurMap gm w) (hg : w.heap[g]? = some (.cells cs e fr)) : g ≠ gm := by
 obtain ⟨es, c, hm, _⟩ := h
 intro e1
 rw [e1, hm] at hg
 cases hg
theorem e_dur {f : Nat → Value} {p : Pq} {B pb gm : Nat} {w0 : World} (h0 : f 0 = pt pb 0) (z : Mz) (hze : z.s.e < 160) (gz : Nat) (h3 : f 3 = pt gz 0) (h4 : f 4 = .map (some gm)) (b : Bool) (u : Value) (h8 : f 8 = u) (h9 : f 9 = .bool b) (hu : b = true → u = .string (secs z.s.e)) (hgm : w0.heap.size ≤ gm) (hBm : B ≤ gm)
  (hZ : ∀ s w, EM p B pb gm w0 s w → w.heap[gz]? = some (.cells z.cells 104 (0, 0)))
  (hF3 : ∀ s w, EM p B pb gm w0 s w → Calls Tryz.prog 56 #[.float .f64 (e8 z.s.e), .int .u8 102, .int .i64 3, .int .i64 32] w fun e w' => e = .returned (.string (secs z.s.e)) ∧ Below w.heap.size w w') :
  Tr 1029 10 f (EM p B pb gm w0) 140737488355328 (cB (cA (cB (cB (cB (cB (cB (cB (cB (cB (cB (cB (cB (cA (cA (cB (cA (cA (cB (cA (cB (cB (cB (cB (cB (cB (cB (cB (cB (cB (cB (cB (cB (cB (cB (cB (cB (cB (cB (cB (cB encM))))))))))))))))))))))))))))))))))))))))) (secs z.s.e).data.toList := by
 cases b
 ·refine Tr.iteF (tc1 (sp_at h9 sp_move) (by decide) (by decide)) ?_
  intro s a w hf hw hlim Q hQ
  have hE := hf.ev
  unfold l10 at hE
  rw [h0, h3, h4] at hE
  have hzc := hZ _ _ hw
  have hne := hw.2.ne hzc
  have hS : Sv 1029 ((0, pt pb 0) :: (1, f 1) :: (2, f 2) :: (3, pt gz 0) :: (4, .map (some gm)) :: (5, f 5) :: (6, f 6) :: (7, f 7) :: (8, f 8) :: (9, f 9) :: []) [] (fun _ => True) w a w := Sv.start hE _ _
  replace hS : Sv 1029 ((0, pt pb 0) :: (1, f 1) :: (2, f 2) :: (3, pt gz 0) :: (4, .map (some gm)) :: (5, f 5) :: (6, f 6) :: (7, f 7) :: (8, f 8) :: (9, f 9) :: []) [⟨gz, z.cells, 104, false⟩] (fun _ => True) w a w := (hS.addR hzc (by intro b hb; cases hb)).pick rfl
  refine wp_seq ?_
  refine wp_seq ?_
  refine wp_region_lit ?_
  refine sv_r (v := pt pb 0) hS (ex_mv (hS.get 0 rfl)) fun a hS => ?_
  refine sv_r (v := pt pb 0) hS (ex_nc (hS.get 937 rfl)) fun a hS => ?_
  refine sv_r (v := pt pb 10) hS (ex_fo (hS.get 938 rfl) fo_m3u8_MediaPlaylist_10 rfl) fun a hS => ?_
  refine sv_r (v := .bool false) hS (ex_ld (hS.get 939 rfl) lt_bool (hw.rest 10 (.bool false) rfl)) fun a hS => ?_
  refine wpList_nil ?_
  replace hS := hS.cut [940, 0, 1, 2, 3, 4, 5, 6, 7, 8, 9]
  show Code.wp _ _ _ _ _
  refine cond_f (hS.get 940 rfl) ?_
  refine wp_region_og1 (n := 1029) 10 [Asr.eq (.map (some gm)), Asr.eq (pt gz 0), Asr.eq (pt gz 0), Asr.eq (pt gz 3), Asr.eq (.float .f64 (e8 z.s.e)), Asr.eq (pt gz 0), Asr.eq (pt gz 0), Asr.eq (pt gz 3), Asr.eq (.float .f64 (e8 z.s.e)), Asr.eq (.string (secs z.s.e))] (by kernel_rfl) (by kernel_rfl) (by kernel_rfl) (by simp) (by kernel_rfl) hS.ev.size ⟨⟩ ?_ ?_
  ·simp only [List.take_succ_cons, List.take_zero]
   refine ⟨?_, ?_, ?_, ?_, ?_, ?_, ?_, ?_, ?_, ?_, trivial⟩
   ·intro a wx c
    have e_4 : a.eval (.tmp 4) = .map (some gm) := c.outE (by decide +kernel) (hS.get 4 rfl)
    clear c
    exact og_val (ex_mv e_4) rfl
   ·intro a wx c
    have e_3 : a.eval (.tmp 3) = pt gz 0 := c.outE (by decide +kernel) (hS.get 3 rfl)
    clear c
    exact og_val (ex_mv e_3) rfl
   ·intro a wx c
    have e_954 : a.eval (.tmp 954) = pt gz 0 := c.slot 1 _ (by decide +kernel) rfl
    clear c
    exact og_val (ex_nc e_954) rfl
   ·intro a wx c
    have e_955 : a.eval (.tmp 955) = pt gz 0 := c.slot 2 _ (by decide +kernel) rfl
    clear c
    exact og_val (ex_fo e_955 fo_m3u8_MediaSegment_3 rfl) rfl
   ·intro a wx c
    have e_956 : a.eval (.tmp 956) = pt gz 3 := c.slot 3 _ (by decide +kernel) rfl
    have hO := hS.ogc c
    clear c
    exact og_val (ex_ld e_956 lt_float64 (cell_of_heap (v := .float .f64 (e8 z.s.e)) (hO.at 0 rfl) rfl)) rfl
   ·intro a wx c
    have e_3 : a.eval (.tmp 3) = pt gz 0 := c.outE (by decide +kernel) (hS.get 3 rfl)
    clear c
    exact og_val (ex_mv e_3) rfl
   ·intro a wx c
    have e_958 : a.eval (.tmp 958) = pt gz 0 := c.slot 5 _ (by decide +kernel) rfl
    clear c
    exact og_val (ex_nc e_958) rfl
   ·intro a wx c
    have e_959 : a.eval (.tmp 959) = pt gz 0 := c.slot 6 _ (by decide +kernel) rfl
    clear c
    exact og_val (ex_fo e_959 fo_m3u8_MediaSegment_3 rfl) rfl
   ·intro a wx c
    have e_960 : a.eval (.tmp 960) = pt gz 3 := c.slot 7 _ (by decide +kernel) rfl
    have hO := hS.ogc c
    clear c
    exact og_val (ex_ld e_960 lt_float64 (cell_of_heap (v := .float .f64 (e8 z.s.e)) (hO.at 0 rfl) rfl)) rfl
   ·intro a wx c
    have e_961 : a.eval (.tmp 961) = .float .f64 (e8 z.s.e) := c.slot 8 _ (by decide +kernel) rfl
    have hO := hS.ogc c
    have hbx := drew_below c.only
    clear c
    have hcl : Calls Tryz.prog _ _ wx (fun e w' => e = .returned (.string (secs z.s.e)) ∧ Below wx.heap.size wx w') := hF3 _ _ (EM.wr.below _ _ _ hw hbx)
    refine og_call (ex_call4 cf_strconv_FormatFloat e_961 rfl rfl rfl) (Calls.mono hcl ?_)
    rintro e w' ⟨rfl, hb⟩
    exact ⟨_, rfl, hb, rfl⟩
  ·intro a w1 c hbw1
   replace hS : Sv 1029 ((962, .string (secs z.s.e)) :: (957, .float .f64 (e8 z.s.e)) :: (953, .map (some gm)) :: (9, f 9) :: (8, f 8) :: (7, f 7) :: (6, f 6) :: (5, f 5) :: (4, .map (some gm)) :: (3, pt gz 0) :: (2, f 2) :: (1, f 1) :: (0, pt pb 0) :: (940, .bool false) :: []) [⟨gz, z.cells, 104, false⟩] (fun _ => True) w a w1 := (((((((((((((((hS.ogh c).know (c.outE (by decide +kernel) (hS.get 940 rfl))).know (c.outE (by decide +kernel) (hS.get 0 rfl))).know (c.outE (by decide +kernel) (hS.get 1 rfl))).know (c.outE (by decide +kernel) (hS.get 2 rfl))).know (c.outE (by decide +kernel) (hS.get 3 rfl))).know (c.outE (by decide +kernel) (hS.get 4 rfl))).know (c.outE (by decide +kernel) (hS.get 5 rfl))).know (c.outE (by decide +kernel) (hS.get 6 rfl))).know (c.outE (by decide +kernel) (hS.get 7 rfl))).know (c.outE (by decide +kernel) (hS.get 8 rfl))).know (c.outE (by decide +kernel) (hS.get 9 rfl))).know (c.slot 0 _ (by decide +kernel) rfl)).know (c.slot 4 _ (by decide +kernel) rfl)).know (c.slot 9 _ (by decide +kernel) rfl))
   clear c
   simp only [List.drop_succ_cons, List.drop_zero]
   have hwD := EM.wr.below _ _ _ hw hbw1
   obtain ⟨wu, hru, hhas, hou⟩ := dur_update (Nat.le_of_lt hze) hwD.2
   have hwU := hwD.upd hgm hBm hhas hou
   refine ev_mu hS.ev (hS.get 953 rfl) (hS.get 957 rfl) (hS.get 962 rfl) hru ?_
   replace hS : Sv 1029 ((962, .string (secs z.s.e)) :: (957, .float .f64 (e8 z.s.e)) :: (953, .map (some gm)) :: (9, f 9) :: (8, f 8) :: (7, f 7) :: (6, f 6) :: (5, f 5) :: (4, .map (some gm)) :: (3, pt gz 0) :: (2, f 2) :: (1, f 1) :: (0, pt pb 0) :: (940, .bool false) :: []) [⟨gz, z.cells, 104, false⟩] (fun _ => True) w a wu := (hS.go hou (by intro b hb e; simp only [List.mem_singleton] at hb; subst hb; exact hne e) (fun _ _ _ => trivial)).pick rfl
   refine wpList_nil ?_
   replace hS := hS.cut [9, 8, 7, 6, 5, 4, 3, 2, 1, 0, 940]
   show Code.wp _ _ _ _ _
   refine wp_region_og1 (n := 1029) 9 [Asr.eq (pt pb 0), Asr.eq (pt pb 0), Asr.eq (pt pb 17), Asr.eq (.map (some gm)), Asr.eq (pt gz 0), Asr.eq (pt gz 0), Asr.eq (pt gz 3), Asr.eq (.float .f64 (e8 z.s.e)), Asr.eq (.string (secs z.s.e))] (by kernel_rfl) (by kernel_rfl) (by kernel_rfl) (by simp) (by kernel_rfl) hS.ev.size ⟨⟩ ?_ ?_
   ·simp only [List.take_succ_cons, List.take_zero]
    refine ⟨?_, ?_, ?_, ?_, ?_, ?_, ?_, ?_, ?_, trivial⟩
    ·intro a wx c
     have e_0 : a.eval (.tmp 0) = pt pb 0 := c.outE (by decide +kernel) (hS.get 0 rfl)
     clear c
     exact og_val (ex_mv e_0) rfl
    ·intro a wx c
     have e_963 : a.eval (.tmp 963) = pt pb 0 := c.slot 0 _ (by decide +kernel) rfl
     clear c
     exact og_val (ex_nc e_963) rfl
    ·intro a wx c
     have e_964 : a.eval (.tmp 964) = pt pb 0 := c.slot 1 _ (by decide +kernel) rfl
     clear c
     exact og_val (ex_fo e_964 fo_m3u8_MediaPlaylist_17 rfl) rfl
    ·intro a wx c
     have e_4 : a.eval (.tmp 4) = .map (some gm) := c.outE (by decide +kernel) (hS.get 4 rfl)
     clear c
     exact og_val (ex_mv e_4) rfl
    ·intro a wx c
     have e_3 : a.eval (.tmp 3) = pt gz 0 := c.outE (by decide +kernel) (hS.get 3 rfl)
     clear c
     exact og_val (ex_mv e_3) rfl
    ·intro a wx c
     have e_967 : a.eval (.tmp 967) = pt gz 0 := c.slot 4 _ (by decide +kernel) rfl
     clear c
     exact og_val (ex_nc e_967) rfl
    ·intro a wx c
     have e_968 : a.eval (.tmp 968) = pt gz 0 := c.slot 5 _ (by decide +kernel) rfl
     clear c
     exact og_val (ex_fo e_968 fo_m3u8_MediaSegment_3 rfl) rfl
    ·intro a wx c
     have e_969 : a.eval (.tmp 969) = pt gz 3 := c.slot 6 _ (by decide +kernel) rfl
     have hO := hS.ogc c
     clear c
     exact og_val (ex_ld e_969 lt_float64 (cell_of_heap (v := .float .f64 (e8 z.s.e)) (hO.at 0 rfl) rfl)) rfl
    ·intro a wx c
     have e_966 : a.eval (.tmp 966) = .map (some gm) := c.slot 3 _ (by decide +kernel) rfl
     have e_970 : a.eval (.tmp 970) = .float .f64 (e8 z.s.e) := c.slot 7 _ (by decide +kernel) rfl
     have hwx := DurHas.old hhas (drew_below c.only)
     clear c
     exact og_val (by simp only [execOp, e_966, e_970]; exact run_andValue (dur_has (Nat.le_of_lt hze) hwx)) rfl
   ·intro a w2 c hbw2
    replace hS : Sv 1029 ((971, .string (secs z.s.e)) :: (965, pt pb 17) :: (940, .bool false) :: (0, pt pb 0) :: (1, f 1) :: (2, f 2) :: (3, pt gz 0) :: (4, .map (some gm)) :: (5, f 5) :: (6, f 6) :: (7, f 7) :: (8, f 8) :: (9, f 9) :: []) [⟨gz, z.cells, 104, false⟩] (fun _ => True) w a w2 := ((((((((((((((hS.ogh c).know (c.outE (by decide +kernel) (hS.get 9 rfl))).know (c.outE (by decide +kernel) (hS.get 8 rfl))).know (c.outE (by decide +kernel) (hS.get 7 rfl))).know (c.outE (by decide +kernel) (hS.get 6 rfl))).know (c.outE (by decide +kernel) (hS.get 5 rfl))).know (c.outE (by decide +kernel) (hS.get 4 rfl))).know (c.outE (by decide +kernel) (hS.get 3 rfl))).know (c.outE (by decide +kernel) (hS.get 2 rfl))).know (c.outE (by decide +kernel) (hS.get 1 rfl))).know (c.outE (by decide +kernel) (hS.get 0 rfl))).know (c.outE (by decide +kernel) (hS.get 940 rfl))).know (c.slot 2 _ (by decide +kernel) rfl)).know (c.slot 8 _ (by decide +kernel) rfl))
    clear c
    simp only [List.drop_succ_cons, List.drop_zero]
    have hwH := EM.wr.below _ _ _ hwU hbw2
    refine ev_call (S := fun _ w' => EM p B pb gm w0 (_ ++ _) w') hS.ev rfl rfl (by decide) (ex_call2 cf_bytes_Buffer_WriteString (hS.get 965 rfl) (hS.get 971 rfl)) (Calls.mono (EM.wr.ws _ _ (secs z.s.e) hwH hlim) (by rintro e w' ⟨⟨v, rfl⟩, h⟩; exact ⟨v, rfl, h⟩)) ?_
    intro a v wv hwV hE
    have hS : Sv 1029 ((972, v) :: (971, .string (secs z.s.e)) :: (965, pt pb 17) :: (940, .bool false) :: (0, pt pb 0) :: (1, f 1) :: (2, f 2) :: (3, pt gz 0) :: (4, .map (some gm)) :: (5, f 5) :: (6, f 6) :: (7, f 7) :: (8, f 8) :: (9, f 9) :: []) [] (fun _ => True) wv a wv := Sv.start hE _ _
    refine wpList_nil ?_
    replace hS := hS.cut [940, 0, 1, 2, 3, 4, 5, 6, 7, 8, 9]
    exact hQ _ _ (Ev.fr_of (f := f) hS.ev (congrArg some h0.symm) rfl rfl (congrArg some h3.symm) (congrArg some h4.symm) rfl rfl rfl rfl rfl) hwV
 ·refine Tr.iteT (tc1 (sp_at h9 sp_move) (by decide) (by decide)) ?_
  intro s a w hf hw hlim Q hQ
  have hE := hf.ev
  unfold l10 at hE
  rw [h0, h8, hu rfl] at hE
  rw [hu rfl] at h8
  have hS : Sv 1029 ((0, pt pb 0) :: (1, f 1) :: (2, f 2) :: (3, f 3) :: (4, f 4) :: (5, f 5) :: (6, f 6) :: (7, f 7) :: (8, .string (secs z.s.e)) :: (9, f 9) :: []) [] (fun _ => True) w a w := Sv.start hE _ _
  refine wp_region_lit ?_
  refine sv_r (v := pt pb 0) hS (ex_mv (hS.get 0 rfl)) fun a hS => ?_
  refine sv_r (v := pt pb 0) hS (ex_nc (hS.get 932 rfl)) fun a hS => ?_
  refine sv_r (v := pt pb 17) hS (ex_fo (hS.get 933 rfl) fo_m3u8_MediaPlaylist_17 rfl) fun a hS => ?_
  refine sv_r (v := .string (secs z.s.e)) hS (ex_mv (hS.get 8 rfl)) fun a hS => ?_
  refine ev_call (S := fun _ w' => EM p B pb gm w0 (_ ++ _) w') hS.ev rfl rfl (by decide) (ex_call2 cf_bytes_Buffer_WriteString (hS.get 934 rfl) (hS.get 935 rfl)) (Calls.mono (EM.wr.ws _ _ (secs z.s.e) hw hlim) (by rintro e w' ⟨⟨v, rfl⟩, h⟩; exact ⟨v, rfl, h⟩)) ?_
  intro a v wv hwV hE
  have hS : Sv 1029 ((936, v) :: (935, .string (secs z.s.e)) :: (934, pt pb 17) :: (933, pt pb 0) :: (932, pt pb 0) :: (0, pt pb 0) :: (1, f 1) :: (2, f 2) :: (3, f 3) :: (4, f 4) :: (5, f 5) :: (6, f 6) :: (7, f 7) :: (8, .string (secs z.s.e)) :: (9, f 9) :: []) [] (fun _ => True) wv a wv := Sv.start hE _ _
  refine wpList_nil ?_
  replace hS := hS.cut [0, 1, 2, 3, 4, 5, 6, 7, 8, 9]
  exact hQ _ _ (Ev.fr_of (f := f) hS.ev (congrArg some h0.symm) rfl rfl rfl rfl rfl rfl rfl (congrArg some h8.symm) rfl) hwV
end Go.Proofs.YtfonjeoiallhhaaGreatDoor
