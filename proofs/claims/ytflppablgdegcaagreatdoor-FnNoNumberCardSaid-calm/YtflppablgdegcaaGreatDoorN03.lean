/- Joined: Sv, Mpw, Wmm, Qv. -/
import Derived.Test.YtflppablgdegcaaGreatDoorN02
import Derived.BigQuiet
import Derived.Shelf.Bits.Mul64
/- The state of a walk over a frame that is not laid open: slots that are known, blocks that are known, what may have changed since the start. -/
namespace Go.Proofs.YtflppablgdegcaaGreatDoor
open Go.RowKit
def cA : Code → Code | .seq x _ => x | .cond _ x _ => x | .block _ x => x | .loop x => x | c => c
def cB : Code → Code | .seq _ y => y | .cond _ _ y => y | c => c
/-- An eighth's bits. -/
def e8 (t : Nat) : Nat := (floatBits .quo .f64 (floatOfInt .f64 (t : Int)) 4620693217682128896).getD 0
/-- Of the blocks of cells, none but those of these types has changed. -/
structure TyOnly (ts : List TypeId) (w w' : World) : Prop where
 os : w'.os = w.os
 tape : w'.tape = w.tape
 output : w'.output = w.output
 size : w.heap.size ≤ w'.heap.size
 cells : ∀ (g : Nat) (cs : Array Value) (e : TypeId) (fr : Nat × Nat), w.heap[g]? = some (Obj.cells cs e fr) → e ∉ ts → w'.heap[g]? = some (Obj.cells cs e fr)
section
variable {w w' w'' : World} {ts : List TypeId}
theorem TyOnly.refl (ts : List TypeId) (w : World) : TyOnly ts w w := ⟨rfl, rfl, rfl, Nat.le_refl _, fun _ _ _ _ h _ => h⟩
theorem TyOnly.of_below (h : Below w.heap.size w w') : TyOnly ts w w' := ⟨h.os, h.tape, h.output, h.size, fun g cs e fr hg _ => by rw [h.block g (Array.getElem?_eq_some_iff.1 hg).1]; exact hg⟩
theorem TyOnly.trans (h : TyOnly ts w w') (k : TyOnly ts w' w'') : TyOnly ts w w'' :=
 ⟨k.os.trans h.os, k.tape.trans h.tape, k.output.trans h.output, Nat.le_trans h.size k.size, fun g cs e fr hg he => k.cells g cs e fr (h.cells g cs e fr hg he) he⟩
theorem TyOnly.mono {ts' : List TypeId} (h : TyOnly ts w w') (hs : ∀ t ∈ ts, t ∈ ts') : TyOnly ts' w w' :=
 ⟨h.os, h.tape, h.output, h.size, fun g cs e fr hg he => h.cells g cs e fr hg fun hm => he (hs e hm)⟩
theorem TyOnly.keep (h : TyOnly ts w w') {g : Nat} {cs : Array Value} {t : TypeId} {fr : Nat × Nat} (hg : w.heap[g]? = some (.cells cs t fr)) (ht : (ts.all fun u => u != t) = true) : w'.heap[g]? = some (.cells cs t fr) := by
 refine h.cells g cs t fr hg fun hm => ?_
 rw [List.all_eq_true] at ht
 have := ht _ hm
 simp at this
theorem TyOnly.own (h : TyOnly ts w w') {α : Type} {f : α → List Value} {e : TypeId} {k B : Nat} {v : Value} {L : List α} (ho : Own f e k w B v L) (he : (ts.all fun u => u != e) = true) : Own f e k w' B v L := by
 refine ho.at_heap fun g hg => ?_
 obtain ⟨cur, hc⟩ := ho.elem g hg
 rw [h.keep hc he, hc]
/-- From a frame by blocks: each block that may have changed is of one of the types. -/
theorem TyOnly.of_only {M : Nat → Prop} (h : Only M w w') (hM : ∀ (g : Nat) (cs : Array Value) (e : TypeId) (fr : Nat × Nat), M g → w.heap[g]? = some (Obj.cells cs e fr) → e ∈ ts) : TyOnly ts w w' :=
 ⟨h.os, h.tape, h.output, h.size, fun g cs e fr hg he => by rw [h.block g (Array.getElem?_eq_some_iff.1 hg).1 fun hm => he (hM g cs e fr hm hg)]; exact hg⟩
theorem TyOnly.of_set {g : Nat} {cs : Array Value} {e : TypeId} {fr : Nat × Nat} (h : Only (fun g' => g' = g) w w') (hg : w.heap[g]? = some (.cells cs e fr)) : TyOnly [e] w w' := .of_only h fun g' cs' e' fr' e1 h1 => by
 subst e1
 rw [hg] at h1
 injection h1 with h1
 injection h1 with _ h2 _
 simp [h2]
end
/-- A block as it is known. -/
structure Bk where
 g : Nat
 cs : Array Value
 t : TypeId
 o : Bool := true
theorem look_filter (ks : List Nat) (t : Nat) (v : Value) : ∀ l : List (Nat × Value), (l.filter fun q => ks.contains q.1).lookup t = some v → l.lookup t = some v
 | [], h => h
 | (k, u) :: r, h => by
  by_cases e : t = k
  ·subst e
   rw [look_eq]
   by_cases c : ks.contains t = true
   ·rw [List.filter_cons_of_pos (by simpa using c), look_eq] at h; exact h
   ·rw [List.filter_cons_of_neg (by simpa using c)] at h
    have : ∀ l : List (Nat × Value), (l.filter fun q => ks.contains q.1).lookup t = none := by
     intro l
     induction l with
     | nil => rfl
     | cons q r ih =>
      obtain ⟨k, u⟩ := q
      by_cases c2 : ks.contains k = true
      ·rw [List.filter_cons_of_pos (by simpa using c2), look_ne (fun e => c (by rw [e]; exact c2))]; exact ih
      ·rw [List.filter_cons_of_neg (by simpa using c2)]; exact ih
    rw [this] at h; cases h
  ·rw [look_ne e]
   by_cases c : ks.contains k = true
   ·rw [List.filter_cons_of_pos (by simpa using c), look_ne e] at h; exact look_filter ks t v r h
   ·rw [List.filter_cons_of_neg (by simpa using c)] at h; exact look_filter ks t v r h
structure Sv (N : Nat) (l : List (Nat × Value)) (m : List Bk) (M : Nat → Prop) (w0 : World) (a : Act) (w : World) : Prop where
 ev : Ev N l a
 hp : ∀ b ∈ m, w.heap[b.g]? = some (.cells b.cs b.t (0, 0))
 nd : m.Pairwise fun b c => b.g ≠ c.g
 wr : ∀ b ∈ m, b.o = true → M b.g ∨ w0.heap.size ≤ b.g
 only : Only M w0 w
section
variable {N : Nat} {l l' : List (Nat × Value)} {m : List Bk} {M : Nat → Prop} {w0 w w' : World} {a a' : Act}
theorem Sv.start (h : Ev N l a) (M : Nat → Prop) (w : World) : Sv N l [] M w a w := ⟨h, (by simp), List.Pairwise.nil, (by simp), Only.refl _ _⟩
theorem Sv.at (h : Sv N l m M w0 a w) (i : Nat) {b : Bk} (hi : m[i]? = some b) : w.heap[b.g]? = some (.cells b.cs b.t (0, 0)) := h.hp b (List.mem_of_getElem? hi)
theorem Sv.get (h : Sv N l m M w0 a w) (t : Nat) {v : Value} (hl : l.lookup t = some v) : a.eval (.tmp t) = v := h.ev.look t v hl
theorem Sv.lt (h : Sv N l m M w0 a w) : ∀ b ∈ m, b.g < w.heap.size := fun b hb => (Array.getElem?_eq_some_iff.1 (h.hp b hb)).1
theorem Sv.size (h : Sv N l m M w0 a w) : w0.heap.size ≤ w.heap.size := h.only.size
theorem Sv.slot (h : Sv N l m M w0 a w) (hE : Ev N l' a') : Sv N l' m M w0 a' w := ⟨hE, h.hp, h.nd, h.wr, h.only⟩
theorem Sv.pick (h : Sv N l m M w0 a w) (hs : (l'.map fun p => l.lookup p.1) = l'.map fun p => some p.2) : Sv N l' m M w0 a w := h.slot (h.ev.pick hs)
theorem Sv.cut (h : Sv N l m M w0 a w) (ks : List Nat) : Sv N (l.filter fun q => ks.contains q.1) m M w0 a w := h.slot ⟨h.ev.size, h.ev.defers, fun t v hv => h.ev.look t v (look_filter ks t v l hv)⟩
theorem Sv.know (h : Sv N l m M w0 a w) {t : Nat} {v : Value} (e : a.eval (.tmp t) = v) : Sv N ((t, v) :: l) m M w0 a w := h.slot ⟨h.ev.size, h.ev.defers, fun k u hk => by
 by_cases c : k = t
 ·subst c; rw [look_eq] at hk; exact e.trans (Option.some.inj hk)
 ·rw [look_ne c] at hk; exact h.ev.look k u hk⟩
/-- The blocks of a mask. -/
def maskB : List Bool → List Bk → List Bk
 | true :: p, b :: r => b :: maskB p r
 | false :: p, _ :: r => maskB p r
 | _, _ => []
theorem maskB_sub : ∀ (p : List Bool) (m : List Bk), (maskB p m).Sublist m
 | true :: p, b :: r => List.Sublist.cons_cons b (maskB_sub p r)
 | false :: p, b :: r => List.Sublist.cons b (maskB_sub p r)
 | [], m => List.nil_sublist m
 | true :: _, [] => List.nil_sublist _
 | false :: _, [] => List.nil_sublist _
theorem Sv.mask (h : Sv N l m M w0 a w) (p : List Bool) : Sv N l (maskB p m) M w0 a w :=
 ⟨h.ev, fun b hb => h.hp b ((maskB_sub p m).subset hb), h.nd.sublist (maskB_sub p m), fun b hb => h.wr b ((maskB_sub p m).subset hb), h.only⟩
theorem Sv.addB (h : Sv N l m M w0 a w) {g : Nat} {cs : Array Value} {t : TypeId} (hg : w.heap[g]? = some (.cells cs t (0, 0))) (hne : ∀ b ∈ m, b.g ≠ g) {o : Bool} (hw : o = true → M g ∨ w0.heap.size ≤ g) : Sv N l (⟨g, cs, t, o⟩ :: m) M w0 a w := by
 refine ⟨h.ev, ?_, List.Pairwise.cons (fun b hb e => hne b hb e.symm) h.nd, ?_, h.only⟩
 ·intro b hb
  rcases List.mem_cons.1 hb with rfl | hb
  ·exact hg
  ·exact h.hp b hb
 ·intro b hb
  rcases List.mem_cons.1 hb with rfl | hb
  ·exact hw
  ·exact h.wr b hb
/-- A block of another type is another block. -/
theorem Sv.neT (h : Sv N l m M w0 a w) {g : Nat} {cs : Array Value} {t : TypeId} (hg : w.heap[g]? = some (.cells cs t (0, 0))) (ht : (m.all fun b => b.t != t) = true) : ∀ b ∈ m, b.g ≠ g := by
 intro b hb e
 have h1 := h.hp b hb
 rw [e, hg] at h1
 rw [List.all_eq_true] at ht
 have := ht b hb
 injection h1 with h1
 injection h1 with _ h2 _
 rw [← h2] at this
 simp at this
theorem Sv.old (h : Sv N l m M w0 a w) {g : Nat} {ob : Obj} (hg : w0.heap[g]? = some ob) (hM : ¬ M g) : w.heap[g]? = some ob := by
 rw [h.only.block g (Array.getElem?_eq_some_iff.1 hg).1 hM]; exact hg
theorem Sv.go (h : Sv N l m M w0 a w) {X : Nat → Prop} (ho : Only X w w') (hX : ∀ b ∈ m, ¬ X b.g) (hM : ∀ g, X g → g < w0.heap.size → M g) : Sv N l m M w0 a w' :=
 ⟨h.ev, fun b hb => by rw [ho.block b.g (h.lt b hb) (hX b hb)]; exact h.hp b hb, h.nd, h.wr,
  ⟨ho.os.trans h.only.os, ho.tape.trans h.only.tape, ho.output.trans h.only.output, Nat.le_trans h.only.size ho.size, fun g hg hm => by
   rw [ho.block g (Nat.lt_of_lt_of_le hg h.only.size) (fun hx => hm (hM g hx hg))]
   exact h.only.block g hg hm⟩⟩
theorem Sv.below (h : Sv N l m M w0 a w) (hb : Below w.heap.size w w') : Sv N l m M w0 a w' :=
 h.go (X := fun _ => False) (Only.of_below hb) (fun _ _ h => h.elim) (fun _ h => h.elim)
/-- A block that is new since an older world. -/
theorem Sv.addN (h : Sv N l m M w0 a w') {s g : Nat} {cs : Array Value} {t : TypeId} (hg : w'.heap[g]? = some (.cells cs t (0, 0))) (hlt : ∀ b ∈ m, b.g < s) (hs : s ≤ g) (h0 : w0.heap.size ≤ s) : Sv N l (⟨g, cs, t, true⟩ :: m) M w0 a w' :=
 h.addB hg (fun b hb e => by have := hlt b hb; omega) (fun _ => .inr (by omega))
/-- A block that is only read. -/
theorem Sv.addR (h : Sv N l m M w0 a w) {g : Nat} {cs : Array Value} {t : TypeId} (hg : w.heap[g]? = some (.cells cs t (0, 0))) (hne : ∀ b ∈ m, b.g ≠ g) : Sv N l (⟨g, cs, t, false⟩ :: m) M w0 a w := h.addB hg hne (fun e => by cases e)
theorem Sv.toBelow (h : Sv N l m (fun _ => False) w0 a w) : Below w0.heap.size w0 w := h.only.below (Nat.le_refl _) fun _ _ h => h
end
section
variable {N : Nat} {l : List (Nat × Value)} {m : List Bk} {M : Nat → Prop} {w0 w w' : World} {a : Act} {ops : Array Oper} {rest : List Oper} {o : Oper} {Q : Exit → Act → World → Prop} {d : Nat} {v u : Value} {x y : Operand} {ty : TypeId} {ps : String} {af : Array Edge}
/-- An operation that gives a value. -/
theorem sv_run (h : Sv N l m M w0 a w) (hg : o.guard = none) (hd : o.dst = some d) (hdN : d < N) (hr : (execOp a.eval o).run Tryz.prog w = .ok (.value v) w)
  (hK : ∀ a', Sv N ((d, v) :: l) m M w0 a' w → wpList Tryz.prog ops Q rest a' w) : wpList Tryz.prog ops Q (o :: rest) a w :=
 ev_run h.ev hg hd hdN hr fun a' h' => hK a' (h.slot h')
theorem sv_r (h : Sv N l m M w0 a w) (hr : (execOp a.eval o).run Tryz.prog w = .ok (.value v) w) (hK : ∀ a', Sv N ((d, v) :: l) m M w0 a' w → wpList Tryz.prog ops Q rest a' w) (hg : o.guard = none := by rfl) (hd : o.dst = some d := by rfl) (hdN : d < N := by decide) : wpList Tryz.prog ops Q (o :: rest) a w := sv_run h hg hd hdN hr hK
/-- A store of one cell. -/
theorem sv_st {T t g j i : Nat} {cs cs' : Array Value} {e : TypeId} {m' : List Bk} (h : Sv N l m M w0 a w) (hS : St T v) (hx : a.eval (.tmp t) = pt g j) (hy : a.eval y = v) (hb : m[i]? = some ⟨g, cs, e, true⟩) (hj : j < cs.size) (hm : m.set i ⟨g, cs', e, true⟩ = m') (hc : cs.setIfInBounds j v = cs')
  (hK : ∀ w', TyOnly [e] w w' → Sv N l m' M w0 a w' → wpList Tryz.prog ops Q rest a w') :
  wpList Tryz.prog ops Q (⟨none, .store T (.tmp t) y, ty, ps, af, none⟩ :: rest) a w := by
 subst hm hc
 refine ev_sc h.ev hS hx hy (h.at i hb) hj fun w' hg' ho => hK w' (.of_set ho (h.at i hb)) ?_
 have hmem : ∀ b ∈ m.set i ⟨g, cs.setIfInBounds j v, e, true⟩, b = ⟨g, cs.setIfInBounds j v, e, true⟩ ∨ (b ∈ m ∧ b.g ≠ g) := by
  intro b hb'
  obtain ⟨k, hk⟩ := List.mem_iff_getElem?.1 hb'
  rw [List.getElem?_set] at hk
  split at hk
  ·split at hk
   ·left; exact (Option.some.inj hk).symm
   ·cases hk
  ·rename_i hne
   right
   refine ⟨List.mem_of_getElem? hk, ?_⟩
   have := List.pairwise_iff_getElem.1 h.nd
   obtain ⟨hi1, hi2⟩ := List.getElem?_eq_some_iff.1 hb
   obtain ⟨hk1, hk2⟩ := List.getElem?_eq_some_iff.1 hk
   rcases Nat.lt_or_ge i k with hlt | hge
   ·have := this i k hi1 hk1 hlt
    rw [hi2, hk2] at this
    exact fun e => this e.symm
   ·have := this k i hk1 hi1 (by omega)
    rw [hi2, hk2] at this
    exact this
 have hmap : (m.set i ⟨g, cs.setIfInBounds j v, e, true⟩).map Bk.g = m.map Bk.g := by
  rw [List.map_set]
  apply List.ext_getElem?
  intro k
  rw [List.getElem?_set]
  split
  ·rename_i hik
   subst hik
   rw [List.getElem?_map, hb]
   have := (List.getElem?_eq_some_iff.1 hb).1
   simp [this]
  ·rfl
 refine ⟨h.ev, ?_, ?_, ?_, ?_⟩
 ·intro b hb'
  rcases hmem b hb' with rfl | ⟨h1, h2⟩
  ·exact hg'
  ·rw [ho.block b.g (h.lt b h1) h2]; exact h.hp b h1
 ·have h1 : (m.map Bk.g).Pairwise (· ≠ ·) := List.pairwise_map.2 h.nd
  rw [← hmap] at h1
  exact List.pairwise_map.1 h1
 ·intro b hb'
  rcases hmem b hb' with rfl | ⟨h1, h2⟩
  ·have h3 := h.wr _ (List.mem_of_getElem? hb)
   exact h3
  ·exact h.wr b h1
 ·refine ⟨ho.os.trans h.only.os, ho.tape.trans h.only.tape, ho.output.trans h.only.output, Nat.le_trans h.only.size ho.size, fun g' hg1 hm1 => ?_⟩
  rw [ho.block g' (Nat.lt_of_lt_of_le hg1 h.only.size) ?_]
  ·exact h.only.block g' hg1 hm1
  ·intro e1
   subst e1
   rcases h.wr _ (List.mem_of_getElem? hb) rfl with h2 | h2
   ·exact hm1 h2
   ·exact absurd hg1 (Nat.not_lt.2 h2)
/-- A block as a whole takes other cells. -/
theorem Sv.put {X : Nat → Prop} {g i : Nat} {cs cs' : Array Value} {e : TypeId} {m' : List Bk} (h : Sv N l m M w0 a w) (hb : m[i]? = some ⟨g, cs, e, true⟩) (hm : m.set i ⟨g, cs', e, true⟩ = m') (hg' : w'.heap[g]? = some (.cells cs' e (0, 0))) (ho : Only X w w') (hX : ∀ b ∈ m, b.g ≠ g → ¬ X b.g) (hM : ∀ g', X g' → g' < w0.heap.size → M g') : Sv N l m' M w0 a w' := by
 subst hm
 have hmem : ∀ b ∈ m.set i ⟨g, cs', e, true⟩, b = ⟨g, cs', e, true⟩ ∨ (b ∈ m ∧ b.g ≠ g) := by
  intro b hb'
  obtain ⟨k, hk⟩ := List.mem_iff_getElem?.1 hb'
  rw [List.getElem?_set] at hk
  split at hk
  ·split at hk
   ·left; exact (Option.some.inj hk).symm
   ·cases hk
  ·rename_i hne
   right
   refine ⟨List.mem_of_getElem? hk, ?_⟩
   have := List.pairwise_iff_getElem.1 h.nd
   obtain ⟨hi1, hi2⟩ := List.getElem?_eq_some_iff.1 hb
   obtain ⟨hk1, hk2⟩ := List.getElem?_eq_some_iff.1 hk
   rcases Nat.lt_or_ge i k with hlt | hge
   ·have := this i k hi1 hk1 hlt
    rw [hi2, hk2] at this
    exact fun e => this e.symm
   ·have := this k i hk1 hi1 (by omega)
    rw [hi2, hk2] at this
    exact this
 have hmap : (m.set i ⟨g, cs', e, true⟩).map Bk.g = m.map Bk.g := by
  rw [List.map_set]
  apply List.ext_getElem?
  intro k
  rw [List.getElem?_set]
  split
  ·rename_i hik
   subst hik
   rw [List.getElem?_map, hb]
   have := (List.getElem?_eq_some_iff.1 hb).1
   simp [this]
  ·rfl
 refine ⟨h.ev, ?_, ?_, ?_, ?_⟩
 ·intro b hb'
  rcases hmem b hb' with rfl | ⟨h1, h2⟩
  ·exact hg'
  ·rw [ho.block b.g (h.lt b h1) (hX b h1 h2)]; exact h.hp b h1
 ·have h1 : (m.map Bk.g).Pairwise (· ≠ ·) := List.pairwise_map.2 h.nd
  rw [← hmap] at h1
  exact List.pairwise_map.1 h1
 ·intro b hb'
  rcases hmem b hb' with rfl | ⟨h1, h2⟩
  ·have h3 := h.wr _ (List.mem_of_getElem? hb)
   exact h3
  ·exact h.wr b h1
 ·exact ⟨ho.os.trans h.only.os, ho.tape.trans h.only.tape, ho.output.trans h.only.output, Nat.le_trans h.only.size ho.size, fun g' hg1 hm1 => by
   rw [ho.block g' (Nat.lt_of_lt_of_le hg1 h.only.size) (fun hx => hm1 (hM g' hx hg1))]
   exact h.only.block g' hg1 hm1⟩
theorem sv_sb {T k t s g i : Nat} {cs old : Array Value} {e : TypeId} {m' : List Bk} (h : Sv N l m M w0 a w) (hA : Ag T k) (hx : a.eval (.tmp t) = pt g 0) (hy : a.eval (.tmp s) = .agg cs) (hb : m[i]? = some ⟨g, old, e, true⟩) (hsz : cs.size = k) (hso : old.size = k) (h1 : ∀ u ∈ cs.toList, u.oneCell' = true) (hm : m.set i ⟨g, cs, e, true⟩ = m')
  (hK : ∀ w', TyOnly [e] w w' → Sv N l m' M w0 a w' → wpList Tryz.prog ops Q rest a w') :
  wpList Tryz.prog ops Q (⟨none, .store T (.tmp t) (.tmp s), ty, ps, af, none⟩ :: rest) a w := by
 refine ev_sb h.ev hA hx hy (h.at i hb) hsz hso h1 fun w' hg' ho => hK w' (.of_set ho (h.at i hb)) ?_
 refine h.put hb hm hg' ho (fun b _ hne e => hne e) ?_
 intro g' e1 hlt
 subst e1
 rcases h.wr _ (List.mem_of_getElem? hb) rfl with h2 | h2
 ·exact h2
 ·exact absurd hlt (Nat.not_lt.2 h2)
/-- A new block. -/
theorem sv_al {T : Nat} {zs : Array Value} (h : Sv N l m M w0 a w) (hA : Al T zs) (hd : d < N)
  (hK : ∀ g a' w', w0.heap.size ≤ g → Below w.heap.size w w' → w.heap.size ≤ g → Sv N ((d, pt g 0) :: l) (⟨g, zs, T, true⟩ :: m) M w0 a' w' → wpList Tryz.prog ops Q rest a' w') :
  wpList Tryz.prog ops Q (⟨some d, .alloc T, ty, ps, af, none⟩ :: rest) a w :=
 ev_al h.ev hA hd fun a' w' h' hg hb _ => hK _ a' w' h.size hb (Nat.le_refl _) (((h.slot h').below hb).addN hg h.lt (Nat.le_refl _) h.size)
/-- A value of cells put into a box. -/
def Bx (T : Nat) (cs : Array Value) : Prop := ∀ w : World, (Instr.box T (.agg cs)).run Tryz.prog w = .ok (pt w.heap.size 0) (w.alloc (.cells cs T))
theorem sv_box {T t : Nat} {cs : Array Value} (h : Sv N l m M w0 a w) (hx : a.eval (.tmp t) = .agg cs) (hB : Bx T cs) (hd : d < N)
  (hK : ∀ g a' w', w0.heap.size ≤ g → Below w.heap.size w w' → w.heap.size ≤ g → Sv N ((d, pt g 0) :: l) (⟨g, cs, T, true⟩ :: m) M w0 a' w' → wpList Tryz.prog ops Q rest a' w') :
  wpList Tryz.prog ops Q (⟨some d, .box T (.tmp t), ty, ps, af, none⟩ :: rest) a w :=
 ev_box h.ev hx hB hd fun a' w' h' hg hb _ => hK _ a' w' h.size hb (Nat.le_refl _) (((h.slot h').below hb).addN hg h.lt (Nat.le_refl _) h.size)
/-- An operation that makes a block. -/
theorem sv_new {T : TypeId} {cs : Array Value} (h : Sv N l m M w0 a w) (hg : o.guard = none) (hd : o.dst = some d) (hdN : d < N) (V : Nat → Value) (hr : (execOp a.eval o).run Tryz.prog w = .ok (.value (V w.heap.size)) (w.alloc (.cells cs T)))
  (hK : ∀ g a' w', w0.heap.size ≤ g → Below w.heap.size w w' → w.heap.size ≤ g → Sv N ((d, V g) :: l) (⟨g, cs, T, true⟩ :: m) M w0 a' w' → wpList Tryz.prog ops Q rest a' w') : wpList Tryz.prog ops Q (o :: rest) a w := by
 refine ev_run (v := V w.heap.size) (w' := w.alloc (.cells cs T)) h.ev hg hd hdN hr fun a' h' => ?_
 have hb : Below w.heap.size w (w.alloc (.cells cs T)) := (Below.refl _ _).alloc (Nat.le_refl _) _
 exact hK _ a' _ h.size hb (Nat.le_refl _) (((h.slot h').below hb).addN (heap_alloc_new _ _) h.lt (Nat.le_refl _) h.size)
/-- A call that leaves old memory. -/
theorem sv_call {f : FuncId} {args : Array Value} {S : Value → World → Prop} (h : Sv N l m M w0 a w) (hg : o.guard = none) (hd : o.dst = some d) (hdN : d < N) (hr : (execOp a.eval o).run Tryz.prog w = .ok (.enter f args) w) (hc : Calls Tryz.prog f args w fun e w' => ∃ v, e = .returned v ∧ Below w.heap.size w w' ∧ S v w')
  (hK : ∀ a' v w', S v w' → Below w.heap.size w w' → Sv N ((d, v) :: l) m M w0 a' w' → wpList Tryz.prog ops Q rest a' w') : wpList Tryz.prog ops Q (o :: rest) a w :=
 ev_call (S := fun v w' => Below w.heap.size w w' ∧ S v w') h.ev hg hd hdN hr hc fun a' v w' hS h' => hK a' v w' hS.2 hS.1 ((h.slot h').below hS.1)
/-- The same, where the value is known. -/
theorem sv_callv {f : FuncId} {args : Array Value} (h : Sv N l m M w0 a w) (hg : o.guard = none) (hd : o.dst = some d) (hdN : d < N) (hr : (execOp a.eval o).run Tryz.prog w = .ok (.enter f args) w) (hc : Calls Tryz.prog f args w fun e w' => e = .returned v ∧ Below w.heap.size w w')
  (hK : ∀ a' w', Below w.heap.size w w' → Sv N ((d, v) :: l) m M w0 a' w' → wpList Tryz.prog ops Q rest a' w') : wpList Tryz.prog ops Q (o :: rest) a w :=
 sv_call (S := fun u _ => u = v) h hg hd hdN hr (Calls.mono hc fun e w' ⟨he, hb⟩ => ⟨v, he, hb, rfl⟩) fun a' u w' hu hb h' => by subst hu; exact hK a' w' hb h'
/-- The same, where the world stays. -/
theorem sv_callq {f : FuncId} {args : Array Value} (h : Sv N l m M w0 a w) (hg : o.guard = none) (hd : o.dst = some d) (hdN : d < N) (hr : (execOp a.eval o).run Tryz.prog w = .ok (.enter f args) w) (hc : Calls Tryz.prog f args w fun e w' => e = .returned v ∧ w' = w)
  (hK : ∀ a', Sv N ((d, v) :: l) m M w0 a' w → wpList Tryz.prog ops Q rest a' w) : wpList Tryz.prog ops Q (o :: rest) a w :=
 ev_call (S := fun u w' => u = v ∧ w' = w) h.ev hg hd hdN hr (Calls.mono hc fun e w' ⟨he, hb⟩ => ⟨v, he, rfl, hb⟩) fun a' u w' hS h' => by obtain ⟨rfl, rfl⟩ := hS; exact hK a' (h.slot h')
end
/-- A call reaches a function of the text. -/
def Cf (f : FuncId) : Prop := ∀ args w, (callFunc f args).run Tryz.prog w = .ok (.enter f args) w
/-- A field's place, wherever the struct begins. -/
def Fo (T k o : Nat) : Prop := ∀ g i w, (Instr.fieldAt T (pt g i) k).run Tryz.prog w = .ok (pt g (i + o)) w
theorem add_block (g i o : Nat) : (⟨g, i, none⟩ : Addr).add o = ⟨g, i + o, none⟩ := by unfold Addr.add; split <;> simp_all
section
variable {a : Act} {w : World} {v : Value} {x y : Operand} {ty : TypeId} {ps : String} {af : Array Edge} {dst : Option Nat} {gd : Option (Nat × Bool)}
theorem ex_fo {T k o g i j t : Nat} (hx : a.eval (.tmp t) = pt g i) (hf : Fo T k o) (hj : i + o = j) : (execOp a.eval ⟨dst, .fieldAddr T (.tmp t) k, ty, ps, af, gd⟩).run Tryz.prog w = .ok (.value (pt g j)) w := by
 subst hj
 simp only [execOp, hx]; exact run_andValue (hf g i w)
theorem ex_nc {t : Nat} {p : Addr} (hx : a.eval (.tmp t) = .pointer (some p)) : (execOp a.eval ⟨dst, .nilCheck (.tmp t), ty, ps, af, gd⟩).run Tryz.prog w = .ok (.value (.pointer (some p))) w := by simp only [execOp, hx]; rfl
theorem ex_as {t : Nat} (hx : a.eval (.tmp t) = v) : (execOp a.eval ⟨dst, .assign (.tmp t), ty, ps, af, gd⟩).run Tryz.prog w = .ok (.value v) w := by simp only [execOp, hx]; rfl
theorem ex_mc : (execOp a.eval ⟨dst, .move (.const v), ty, ps, af, gd⟩).run Tryz.prog w = .ok (.value v) w := by simp only [execOp]; rfl
theorem ex_ac : (execOp a.eval ⟨dst, .assign (.const v), ty, ps, af, gd⟩).run Tryz.prog w = .ok (.value v) w := by simp only [execOp]; rfl
section
variable {f : FuncId} {at1 : Array TypeId} {x1 x2 x3 x4 x5 : Operand} {v1 v2 v3 v4 v5 : Value}
theorem ex_call1 (hf : Cf f) (h1 : a.eval x1 = v1) : (execOp a.eval ⟨dst, .call { callee := .value (.func f), args := #[x1], argTypes := at1 }, ty, ps, af, gd⟩).run Tryz.prog w = .ok (.enter f #[v1]) w := by
 simp only [execOp, resolve, List.map_toArray, List.map_cons, List.map_nil, h1]; go_simp; exact hf _ w
theorem ex_call2 (hf : Cf f) (h1 : a.eval x1 = v1) (h2 : a.eval x2 = v2) : (execOp a.eval ⟨dst, .call { callee := .value (.func f), args := #[x1, x2], argTypes := at1 }, ty, ps, af, gd⟩).run Tryz.prog w = .ok (.enter f #[v1, v2]) w := by
 simp only [execOp, resolve, List.map_toArray, List.map_cons, List.map_nil, h1, h2]; go_simp; exact hf _ w
theorem ex_call3 (hf : Cf f) (h1 : a.eval x1 = v1) (h2 : a.eval x2 = v2) (h3 : a.eval x3 = v3) : (execOp a.eval ⟨dst, .call { callee := .value (.func f), args := #[x1, x2, x3], argTypes := at1 }, ty, ps, af, gd⟩).run Tryz.prog w = .ok (.enter f #[v1, v2, v3]) w := by
 simp only [execOp, resolve, List.map_toArray, List.map_cons, List.map_nil, h1, h2, h3]; go_simp; exact hf _ w
theorem ex_call4 (hf : Cf f) (h1 : a.eval x1 = v1) (h2 : a.eval x2 = v2) (h3 : a.eval x3 = v3) (h4 : a.eval x4 = v4) : (execOp a.eval ⟨dst, .call { callee := .value (.func f), args := #[x1, x2, x3, x4], argTypes := at1 }, ty, ps, af, gd⟩).run Tryz.prog w = .ok (.enter f #[v1, v2, v3, v4]) w := by
 simp only [execOp, resolve, List.map_toArray, List.map_cons, List.map_nil, h1, h2, h3, h4]; go_simp; exact hf _ w
theorem ex_call5 (hf : Cf f) (h1 : a.eval x1 = v1) (h2 : a.eval x2 = v2) (h3 : a.eval x3 = v3) (h4 : a.eval x4 = v4) (h5 : a.eval x5 = v5) : (execOp a.eval ⟨dst, .call { callee := .value (.func f), args := #[x1, x2, x3, x4, x5], argTypes := at1 }, ty, ps, af, gd⟩).run Tryz.prog w = .ok (.enter f #[v1, v2, v3, v4, v5]) w := by
 simp only [execOp, resolve, List.map_toArray, List.map_cons, List.map_nil, h1, h2, h3, h4, h5]; go_simp; exact hf _ w
end
/-- A conversion between two types. -/
def Cv (T T' : Nat) (u v : Value) : Prop := ∀ w, (convert T T' u).run Tryz.prog w = .ok v w
theorem ex_cv {T T' : Nat} {u : Value} (hx : a.eval x = u) (h : Cv T T' u v) : (execOp a.eval ⟨dst, .convert T T' x, ty, ps, af, gd⟩).run Tryz.prog w = .ok (.value v) w := by
 simp only [execOp, hx]; exact run_andValue (h w)
variable {T T' : TypeId} {k k2 : IntKind} {i j z : Int} {b : Bool}
theorem ei_eql (hx : a.eval x = .int k i) (hy : a.eval y = .int k j) (hz : decide (i = j) = b) : (execOp a.eval ⟨dst, .binOp .eql T x y T', ty, ps, af, gd⟩).run Tryz.prog w = .ok (.value (.bool b)) w := by
 simp only [execOp, hx, hy]
 simp [eqGuard, binOp, Op.intCmp, Result.andThen, ← hz]
 try (by_cases h : i = j <;> simp [h])
theorem ei_neq (hx : a.eval x = .int k i) (hy : a.eval y = .int k j) (hz : decide (i ≠ j) = b) : (execOp a.eval ⟨dst, .binOp .neq T x y T', ty, ps, af, gd⟩).run Tryz.prog w = .ok (.value (.bool b)) w := by
 simp only [execOp, hx, hy]
 simp [eqGuard, binOp, Op.intCmp, Result.andThen, ← hz]
 try (by_cases h : i = j <;> simp [h])
theorem ei_rem (hx : a.eval x = .int k i) (hy : a.eval y = .int k j) (hj : j ≠ 0) (hz : i.tmod j = z) : (execOp a.eval ⟨dst, .binOp .rem T x y T', ty, ps, af, gd⟩).run Tryz.prog w = .ok (.value (.int k z)) w := by
 simp only [execOp, hx, hy]
 rw [← hz]
 simp [eqGuard, binOp, Result.andThen, Op.intDiv, hj, hz]
end
/-- A branch, and what holds where its two roads meet. -/
theorem if_join {t : Nat} {b : Bool} {c d : Code} {a : Act} {w : World} {Q : Exit → Act → World → Prop} (J : Act → World → Prop) (hc : a.eval (.tmp t) = .bool b)
  (h1 : b = true → ∀ Q' : Exit → Act → World → Prop, (∀ a w, J a w → Q' .normal a w) → c.wp Tryz.prog Q' a w) (h2 : b = false → ∀ Q' : Exit → Act → World → Prop, (∀ a w, J a w → Q' .normal a w) → d.wp Tryz.prog Q' a w) (hK : ∀ a w, J a w → Q .normal a w) : (Code.cond (.tmp t) c d).wp Tryz.prog Q a w := by
 refine wp_cond_split hc (fun hb => ?_) (fun hb => ?_)
 ·exact h1 hb Q hK
 ·exact h2 hb Q hK
end Go.Proofs.YtflppablgdegcaaGreatDoor
/- Small walks about a master playlist: new, its version, its buffer reset, its marks; plainNumber. -/
namespace Go.Proofs.YtflppablgdegcaaGreatDoor
open Go.RowKit
theorem end_ev {N : Nat} {l : List (Nat × Value)} {fn : Func} {R : Ending → World → Prop} {a : Act} {w : World} (h : Ev N l a) (hr : fn.results = #[]) (hR : R (.returned (.tuple #[])) w) : bodyPost Tryz.prog fn R .normal a w :=
 ⟨h.defers, _, results_none hr _ _ _, hR⟩
end Go.Proofs.YtflppablgdegcaaGreatDoor
/- The walk of impl.WriteMaster, the whole. -/
namespace Go.Proofs.YtflppablgdegcaaGreatDoor
open Go.RowKit
/-- The result lies in two slots. -/
theorem ret2_of_ev {N t u : Nat} {l : List (Nat × Value)} {fn : Func} {R : Ending → World → Prop} {a : Act} {w : World} {x y : Value} (h : Ev N l a) (hr : fn.results = #[.tmp t, .tmp u]) (hx : a.eval (.tmp t) = x) (hy : a.eval (.tmp u) = y) (hR : R (.returned (.tuple #[x, y])) w) : bodyPost Tryz.prog fn R .ret a w :=
 bodyPost_ret (results_tmp2 hr _ _ _) h.defers (by have e1 : a.tmps.getD t undef = x := hx; have e2 : a.tmps.getD u undef = y := hy; rw [e1, e2]; exact hR)
end Go.Proofs.YtflppablgdegcaaGreatDoor
/- Frames that are not laid open: regions that draw and only read; arithmetic. -/
namespace Go.Proofs.YtflppablgdegcaaGreatDoor
open Go.RowKit
section
variable {N : Nat} {l : List (Nat × Value)} {a : Act} {w : World} {ops : Array Oper} {rest : List Oper} {o : Oper} {C : World → Prop} {Q : Act → Prop} {d : Nat} {v : Value}
end
section
variable {a : Act} {w : World} {dst : Option Nat} {T T' ty : TypeId} {ps : String} {af : Array Edge} {gd : Option (Nat × Bool)} {x y : Operand} {k k2 : IntKind} {i j z : Int} {b : Bool}
theorem ei_add (hx : a.eval x = .int k i) (hy : a.eval y = .int k j) (hz : k.wrap (i + j) = z) : (execOp a.eval ⟨dst, .binOp .add T x y T', ty, ps, af, gd⟩).run Tryz.prog w = .ok (.value (.int k z)) w := by
 simp only [execOp, hx, hy]
 simp [eqGuard, binOp, Op.intArith, Result.andThen, hz]
theorem ei_sub (hx : a.eval x = .int k i) (hy : a.eval y = .int k j) (hz : k.wrap (i - j) = z) : (execOp a.eval ⟨dst, .binOp .sub T x y T', ty, ps, af, gd⟩).run Tryz.prog w = .ok (.value (.int k z)) w := by
 simp only [execOp, hx, hy]
 simp [eqGuard, binOp, Op.intArith, Result.andThen, hz]
theorem ei_mul (hx : a.eval x = .int k i) (hy : a.eval y = .int k j) (hz : k.wrap (i * j) = z) : (execOp a.eval ⟨dst, .binOp .mul T x y T', ty, ps, af, gd⟩).run Tryz.prog w = .ok (.value (.int k z)) w := by
 simp only [execOp, hx, hy]
 simp [eqGuard, binOp, Op.intArith, Result.andThen, hz]
theorem ei_lss (hx : a.eval x = .int k i) (hy : a.eval y = .int k j) (hz : decide (i < j) = b) : (execOp a.eval ⟨dst, .binOp .lss T x y T', ty, ps, af, gd⟩).run Tryz.prog w = .ok (.value (.bool b)) w := by
 simp only [execOp, hx, hy]
 simp [eqGuard, binOp, Op.intCmp, Result.andThen, hz]
theorem ei_leq (hx : a.eval x = .int k i) (hy : a.eval y = .int k j) (hz : decide (i ≤ j) = b) : (execOp a.eval ⟨dst, .binOp .leq T x y T', ty, ps, af, gd⟩).run Tryz.prog w = .ok (.value (.bool b)) w := by
 simp only [execOp, hx, hy]
 simp [eqGuard, binOp, Op.intCmp, Result.andThen, hz]
theorem ei_gtr (hx : a.eval x = .int k i) (hy : a.eval y = .int k j) (hz : decide (j < i) = b) : (execOp a.eval ⟨dst, .binOp .gtr T x y T', ty, ps, af, gd⟩).run Tryz.prog w = .ok (.value (.bool b)) w := by
 simp only [execOp, hx, hy]
 simp [eqGuard, binOp, Op.intCmp, Result.andThen, hz]
theorem ei_geq (hx : a.eval x = .int k i) (hy : a.eval y = .int k j) (hz : decide (j ≤ i) = b) : (execOp a.eval ⟨dst, .binOp .geq T x y T', ty, ps, af, gd⟩).run Tryz.prog w = .ok (.value (.bool b)) w := by
 simp only [execOp, hx, hy]
 simp [eqGuard, binOp, Op.intCmp, Result.andThen, hz]
theorem ei_or (hx : a.eval x = .int k i) (hy : a.eval y = .int k j) (hz : bits .or k i j = z) : (execOp a.eval ⟨dst, .binOp .or T x y T', ty, ps, af, gd⟩).run Tryz.prog w = .ok (.value (.int k z)) w := by
 simp only [execOp, hx, hy]
 rw [← hz]
 simp [eqGuard, binOp, Result.andThen, intBits_or]
theorem ei_shr (hx : a.eval x = .int k i) (hy : a.eval y = .int k2 j) (h0 : 0 ≤ j) (h1 : j ≤ k.bits) (hz : i / 2 ^ j.toNat = z) : (execOp a.eval ⟨dst, .binOp .shr T x y T', ty, ps, af, gd⟩).run Tryz.prog w = .ok (.value (.int k z)) w := by
 simp only [execOp, hx, hy]
 rw [← hz]
 simp [eqGuard, binOp, Result.andThen, shift_shr k k2 i j h0 h1]
theorem ei_ext {t n : Nat} {vs : Array Value} {v : Value} (hx : a.eval (.tmp t) = .tuple vs) (hv : vs[n]? = some v) : (execOp a.eval ⟨dst, .extract (.tmp t) n, ty, ps, af, gd⟩).run Tryz.prog w = .ok (.value v) w := by
 simp only [execOp, hx]
 simp [Instr.extract, hv, Result.andThen]
end
end Go.Proofs.YtflppablgdegcaaGreatDoor
