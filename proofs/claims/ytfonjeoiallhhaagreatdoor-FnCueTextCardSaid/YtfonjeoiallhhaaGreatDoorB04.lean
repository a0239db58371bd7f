/- Joined: Sv, Mpw, Wmm, Qv, Ffa, Ffb, Ffc. -/
import Derived.Test.YtfonjeoiallhhaaGreatDoorB03
import Derived.BigQuiet
import Derived.Shelf.Bits.Mul64
/- The state of a walk over a frame that is not laid open: slots that are known, blocks that are known, what may have changed since the start. -/
namespace Go.Proofs.YtfonjeoiallhhaaGreatDoor
open Go.RowKit
def cA : Code → Code | .seq x _ => x | .cond _ x _ => x | .block _ x => x | .loop x => x | c => c
def cB : Code → Code | .seq _ y => y | .cond _ _ y => y | c => c
/-- An eighth's bits. -/
def e8 (t : Nat) : Nat := (floatBits .quo .f64 (floatOfInt .f64 (t : Int)) 4620693217682128896).getD 0
/-- Of the blocks of cells, none but those of these types has changed. -/
structure TyOnly (ts : List TypeId) (w w' : World) : Prop where
 os : w'.os = w.os
 tape : w'.tape = w.tape
 output : w'.output = w.output
 size : w.heap.size ≤ w'.heap.size
 cells : ∀ (g : Nat) (cs : Array Value) (e : TypeId) (fr : Nat × Nat), w.heap[g]? = some (Obj.cells cs e fr) → e ∉ ts → w'.heap[g]? = some (Obj.cells cs e fr)
section
variable {w w' w'' : World} {ts : List TypeId}
theorem TyOnly.refl (ts : List TypeId) (w : World) : TyOnly ts w w := ⟨rfl, rfl, rfl, Nat.le_refl _, fun _ _ _ _ h _ => h⟩
theorem TyOnly.of_below (h : Below w.heap.size w w') : TyOnly ts w w' := ⟨h.os, h.tape, h.output, h.size, fun g cs e fr hg _ => by rw [h.block g (Array.getElem?_eq_some_iff.1 hg).1]; exact hg⟩
theorem TyOnly.trans (h : TyOnly ts w w') (k : TyOnly ts w' w'') : TyOnly ts w w'' :=
 ⟨k.os.trans h.os, k.tape.trans h.tape, k.output.trans h.output, Nat.le_trans h.size k.size, fun g cs e fr hg he => k.cells g cs e fr (h.cells g cs e fr hg he) he⟩
theorem TyOnly.mono {ts' : List TypeId} (h : TyOnly ts w w') (hs : ∀ t ∈ ts, t ∈ ts') : TyOnly ts' w w' :=
 ⟨h.os, h.tape, h.output, h.size, fun g cs e fr hg he => h.cells g cs e fr hg fun hm => he (hs e hm)⟩
theorem TyOnly.keep (h : TyOnly ts w w') {g : Nat} {cs : Array Value} {t : TypeId} {fr : Nat × Nat} (hg : w.heap[g]? = some (.cells cs t fr)) (ht : (ts.all fun u => u != t) = true) : w'.heap[g]? = some (.cells cs t fr) := by
 refine h.cells g cs t fr hg fun hm => ?_
 rw [List.all_eq_true] at ht
 have := ht _ hm
 simp at this
theorem TyOnly.own (h : TyOnly ts w w') {α : Type} {f : α → List Value} {e : TypeId} {k B : Nat} {v : Value} {L : List α} (ho : Own f e k w B v L) (he : (ts.all fun u => u != e) = true) : Own f e k w' B v L := by
 refine ho.at_heap fun g hg => ?_
 obtain ⟨cur, hc⟩ := ho.elem g hg
 rw [h.keep hc he, hc]
/-- From a frame by blocks: each block that may have changed is of one of the types. -/
theorem TyOnly.of_only {M : Nat → Prop} (h : Only M w w') (hM : ∀ (g : Nat) (cs : Array Value) (e : TypeId) (fr : Nat × Nat), M g → w.heap[g]? = some (Obj.cells cs e fr) → e ∈ ts) : TyOnly ts w w' :=
 ⟨h.os, h.tape, h.output, h.size, fun g cs e fr hg he => by rw [h.block g (Array.getElem?_eq_some_iff.1 hg).1 fun hm => he (hM g cs e fr hm hg)]; exact hg⟩
theorem TyOnly.of_set {g : Nat} {cs : Array Value} {e : TypeId} {fr : Nat × Nat} (h : Only (fun g' => g' = g) w w') (hg : w.heap[g]? = some (.cells cs e fr)) : TyOnly [e] w w' := .of_only h fun g' cs' e' fr' e1 h1 => by
 subst e1
 rw [hg] at h1
 injection h1 with h1
 injection h1 with _ h2 _
 simp [h2]
end
/-- A block as it is known. -/
structure Bk where
 g : Nat
 cs : Array Value
 t : TypeId
 o : Bool := true
theorem look_filter (ks : List Nat) (t : Nat) (v : Value) : ∀ l : List (Nat × Value), (l.filter fun q => ks.contains q.1).lookup t = some v → l.lookup t = some v
 | [], h => h
 | (k, u) :: r, h => by
  by_cases e : t = k
  ·subst e
   rw [look_eq]
   by_cases c : ks.contains t = true
   ·rw [List.filter_cons_of_pos (by simpa using c), look_eq] at h; exact h
   ·rw [List.filter_cons_of_neg (by simpa using c)] at h
    have : ∀ l : List (Nat × Value), (l.filter fun q => ks.contains q.1).lookup t = none := by
     intro l
     induction l with
     | nil => rfl
     | cons q r ih =>
      obtain ⟨k, u⟩ := q
      by_cases c2 : ks.contains k = true
      ·rw [List.filter_cons_of_pos (by simpa using c2), look_ne (fun e => c (by rw [e]; exact c2))]; exact ih
      ·rw [List.filter_cons_of_neg (by simpa using c2)]; exact ih
    rw [this] at h; cases h
  ·rw [look_ne e]
   by_cases c : ks.contains k = true
   ·rw [List.filter_cons_of_pos (by simpa using c), look_ne e] at h; exact look_filter ks t v r h
   ·rw [List.filter_cons_of_neg (by simpa using c)] at h; exact look_filter ks t v r h
structure Sv (N : Nat) (l : List (Nat × Value)) (m : List Bk) (M : Nat → Prop) (w0 : World) (a : Act) (w : World) : Prop where
 ev : Ev N l a
 hp : ∀ b ∈ m, w.heap[b.g]? = some (.cells b.cs b.t (0, 0))
 nd : m.Pairwise fun b c => b.g ≠ c.g
 wr : ∀ b ∈ m, b.o = true → M b.g ∨ w0.heap.size ≤ b.g
 only : Only M w0 w
section
variable {N : Nat} {l l' : List (Nat × Value)} {m : List Bk} {M : Nat → Prop} {w0 w w' : World} {a a' : Act}
theorem Sv.start (h : Ev N l a) (M : Nat → Prop) (w : World) : Sv N l [] M w a w := ⟨h, (by simp), List.Pairwise.nil, (by simp), Only.refl _ _⟩
theorem Sv.at (h : Sv N l m M w0 a w) (i : Nat) {b : Bk} (hi : m[i]? = some b) : w.heap[b.g]? = some (.cells b.cs b.t (0, 0)) := h.hp b (List.mem_of_getElem? hi)
theorem Sv.get (h : Sv N l m M w0 a w) (t : Nat) {v : Value} (hl : l.lookup t = some v) : a.eval (.tmp t) = v := h.ev.look t v hl
theorem Sv.lt (h : Sv N l m M w0 a w) : ∀ b ∈ m, b.g < w.heap.size := fun b hb => (Array.getElem?_eq_some_iff.1 (h.hp b hb)).1
theorem Sv.size (h : Sv N l m M w0 a w) : w0.heap.size ≤ w.heap.size := h.only.size
theorem Sv.slot (h : Sv N l m M w0 a w) (hE : Ev N l' a') : Sv N l' m M w0 a' w := ⟨hE, h.hp, h.nd, h.wr, h.only⟩
theorem Sv.pick (h : Sv N l m M w0 a w) (hs : (l'.map fun p => l.lookup p.1) = l'.map fun p => some p.2) : Sv N l' m M w0 a w := h.slot (h.ev.pick hs)
theorem Sv.cut (h : Sv N l m M w0 a w) (ks : List Nat) : Sv N (l.filter fun q => ks.contains q.1) m M w0 a w := h.slot ⟨h.ev.size, h.ev.defers, fun t v hv => h.ev.look t v (look_filter ks t v l hv)⟩
theorem Sv.know (h : Sv N l m M w0 a w) {t : Nat} {v : Value} (e : a.eval (.tmp t) = v) : Sv N ((t, v) :: l) m M w0 a w := h.slot ⟨h.ev.size, h.ev.defers, fun k u hk => by
 by_cases c : k = t
 ·subst c; rw [look_eq] at hk; exact e.trans (Option.some.inj hk)
 ·rw [look_ne c] at hk; exact h.ev.look k u hk⟩
/-- The blocks of a mask. -/
def maskB : List Bool → List Bk → List Bk
 | true :: p, b :: r => b :: maskB p r
 | false :: p, _ :: r => maskB p r
 | _, _ => []
theorem maskB_sub : ∀ (p : List Bool) (m : List Bk), (maskB p m).Sublist m
 | true :: p, b :: r => List.Sublist.cons_cons b (maskB_sub p r)
 | false :: p, b :: r => List.Sublist.cons b (maskB_sub p r)
 | [], m => List.nil_sublist m
 | true :: _, [] => List.nil_sublist _
 | false :: _, [] => List.nil_sublist _
theorem Sv.mask (h : Sv N l m M w0 a w) (p : List Bool) : Sv N l (maskB p m) M w0 a w :=
 ⟨h.ev, fun b hb => h.hp b ((maskB_sub p m).subset hb), h.nd.sublist (maskB_sub p m), fun b hb => h.wr b ((maskB_sub p m).subset hb), h.only⟩
theorem Sv.addB (h : Sv N l m M w0 a w) {g : Nat} {cs : Array Value} {t : TypeId} (hg : w.heap[g]? = some (.cells cs t (0, 0))) (hne : ∀ b ∈ m, b.g ≠ g) {o : Bool} (hw : o = true → M g ∨ w0.heap.size ≤ g) : Sv N l (⟨g, cs, t, o⟩ :: m) M w0 a w := by
 refine ⟨h.ev, ?_, List.Pairwise.cons (fun b hb e => hne b hb e.symm) h.nd, ?_, h.only⟩
 ·intro b hb
  rcases List.mem_cons.1 hb with rfl | hb
  ·exact hg
  ·exact h.hp b hb
 ·intro b hb
  rcases List.mem_cons.1 hb with rfl | hb
  ·exact hw
  ·exact h.wr b hb
/-- A block of another type is another block. -/
theorem Sv.neT (h : Sv N l m M w0 a w) {g : Nat} {cs : Array Value} {t : TypeId} (hg : w.heap[g]? = some (.cells cs t (0, 0))) (ht : (m.all fun b => b.t != t) = true) : ∀ b ∈ m, b.g ≠ g := by
 intro b hb e
 have h1 := h.hp b hb
 rw [e, hg] at h1
 rw [List.all_eq_true] at ht
 have := ht b hb
 injection h1 with h1
 injection h1 with _ h2 _
 rw [← h2] at this
 simp at this
theorem Sv.old (h : Sv N l m M w0 a w) {g : Nat} {ob : Obj} (hg : w0.heap[g]? = some ob) (hM : ¬ M g) : w.heap[g]? = some ob := by
 rw [h.only.block g (Array.getElem?_eq_some_iff.1 hg).1 hM]; exact hg
theorem Sv.go (h : Sv N l m M w0 a w) {X : Nat → Prop} (ho : Only X w w') (hX : ∀ b ∈ m, ¬ X b.g) (hM : ∀ g, X g → g < w0.heap.size → M g) : Sv N l m M w0 a w' :=
 ⟨h.ev, fun b hb => by rw [ho.block b.g (h.lt b hb) (hX b hb)]; exact h.hp b hb, h.nd, h.wr,
  ⟨ho.os.trans h.only.os, ho.tape.trans h.only.tape, ho.output.trans h.only.output, Nat.le_trans h.only.size ho.size, fun g hg hm => by
   rw [ho.block g (Nat.lt_of_lt_of_le hg h.only.size) (fun hx => hm (hM g hx hg))]
   exact h.only.block g hg hm⟩⟩
theorem Sv.below (h : Sv N l m M w0 a w) (hb : Below w.heap.size w w') : Sv N l m M w0 a w' :=
 h.go (X := fun _ => False) (Only.of_below hb) (fun _ _ h => h.elim) (fun _ h => h.elim)
/-- A block that is new since an older world. -/
theorem Sv.addN (h : Sv N l m M w0 a w') {s g : Nat} {cs : Array Value} {t : TypeId} (hg : w'.heap[g]? = some (.cells cs t (0, 0))) (hlt : ∀ b ∈ m, b.g < s) (hs : s ≤ g) (h0 : w0.heap.size ≤ s) : Sv N l (⟨g, cs, t, true⟩ :: m) M w0 a w' :=
 h.addB hg (fun b hb e => by have := hlt b hb; omega) (fun _ => .inr (by omega))
/-- A block that is only read. -/
theorem Sv.addR (h : Sv N l m M w0 a w) {g : Nat} {cs : Array Value} {t : TypeId} (hg : w.heap[g]? = some (.cells cs t (0, 0))) (hne : ∀ b ∈ m, b.g ≠ g) : Sv N l (⟨g, cs, t, false⟩ :: m) M w0 a w := h.addB hg hne (fun e => by cases e)
/-- The world now as the start: the blocks that are known may change. -/
theorem Sv.rebase (h : Sv N l m M w0 a w) : Sv N l m (fun g => ∃ b ∈ m, b.g = g) w a w := ⟨h.ev, h.hp, h.nd, fun b hb _ => .inl ⟨b, hb, rfl⟩, Only.refl _ _⟩
theorem Sv.toBelow (h : Sv N l m (fun _ => False) w0 a w) : Below w0.heap.size w0 w := h.only.below (Nat.le_refl _) fun _ _ h => h
end
section
variable {N : Nat} {l : List (Nat × Value)} {m : List Bk} {M : Nat → Prop} {w0 w w' : World} {a : Act} {ops : Array Oper} {rest : List Oper} {o : Oper} {Q : Exit → Act → World → Prop} {d : Nat} {v u : Value} {x y : Operand} {ty : TypeId} {ps : String} {af : Array Edge}
/-- An operation that gives a value. -/
theorem sv_run (h : Sv N l m M w0 a w) (hg : o.guard = none) (hd : o.dst = some d) (hdN : d < N) (hr : (execOp a.eval o).run Tryz.prog w = .ok (.value v) w)
  (hK : ∀ a', Sv N ((d, v) :: l) m M w0 a' w → wpList Tryz.prog ops Q rest a' w) : wpList Tryz.prog ops Q (o :: rest) a w :=
 ev_run h.ev hg hd hdN hr fun a' h' => hK a' (h.slot h')
theorem sv_r (h : Sv N l m M w0 a w) (hr : (execOp a.eval o).run Tryz.prog w = .ok (.value v) w) (hK : ∀ a', Sv N ((d, v) :: l) m M w0 a' w → wpList Tryz.prog ops Q rest a' w) (hg : o.guard = none := by rfl) (hd : o.dst = some d := by rfl) (hdN : d < N := by decide) : wpList Tryz.prog ops Q (o :: rest) a w := sv_run h hg hd hdN hr hK
/-- A store of one cell. -/
theorem sv_st {T t g j i : Nat} {cs cs' : Array Value} {e : TypeId} {m' : List Bk} (h : Sv N l m M w0 a w) (hS : St T v) (hx : a.eval (.tmp t) = pt g j) (hy : a.eval y = v) (hb : m[i]? = some ⟨g, cs, e, true⟩) (hj : j < cs.size) (hm : m.set i ⟨g, cs', e, true⟩ = m') (hc : cs.setIfInBounds j v = cs')
  (hK : ∀ w', TyOnly [e] w w' → Sv N l m' M w0 a w' → wpList Tryz.prog ops Q rest a w') :
  wpList Tryz.prog ops Q (⟨none, .store T (.tmp t) y, ty, ps, af, none⟩ :: rest) a w := by
 subst hm hc
 refine ev_sc h.ev hS hx hy (h.at i hb) hj fun w' hg' ho => hK w' (.of_set ho (h.at i hb)) ?_
 have hmem : ∀ b ∈ m.set i ⟨g, cs.setIfInBounds j v, e, true⟩, b = ⟨g, cs.setIfInBounds j v, e, true⟩ ∨ (b ∈ m ∧ b.g ≠ g) := by
  intro b hb'
  obtain ⟨k, hk⟩ := List.mem_iff_getElem?.1 hb'
  rw [List.getElem?_set] at hk
  split at hk
  ·split at hk
   ·left; exact (Option.some.inj hk).symm
   ·cases hk
  ·rename_i hne
   right
   refine ⟨List.mem_of_getElem? hk, ?_⟩
   have := List.pairwise_iff_getElem.1 h.nd
   obtain ⟨hi1, hi2⟩ := List.getElem?_eq_some_iff.1 hb
   obtain ⟨hk1, hk2⟩ := List.getElem?_eq_some_iff.1 hk
   rcases Nat.lt_or_ge i k with hlt | hge
   ·have := this i k hi1 hk1 hlt
    rw [hi2, hk2] at this
    exact fun e => this e.symm
   ·have := this k i hk1 hi1 (by omega)
    rw [hi2, hk2] at this
    exact this
 have hmap : (m.set i ⟨g, cs.setIfInBounds j v, e, true⟩).map Bk.g = m.map Bk.g := by
  rw [List.map_set]
  apply List.ext_getElem?
  intro k
  rw [List.getElem?_set]
  split
  ·rename_i hik
   subst hik
   rw [List.getElem?_map, hb]
   have := (List.getElem?_eq_some_iff.1 hb).1
   simp [this]
  ·rfl
 refine ⟨h.ev, ?_, ?_, ?_, ?_⟩
 ·intro b hb'
  rcases hmem b hb' with rfl | ⟨h1, h2⟩
  ·exact hg'
  ·rw [ho.block b.g (h.lt b h1) h2]; exact h.hp b h1
 ·have h1 : (m.map Bk.g).Pairwise (· ≠ ·) := List.pairwise_map.2 h.nd
  rw [← hmap] at h1
  exact List.pairwise_map.1 h1
 ·intro b hb'
  rcases hmem b hb' with rfl | ⟨h1, h2⟩
  ·have h3 := h.wr _ (List.mem_of_getElem? hb)
   exact h3
  ·exact h.wr b h1
 ·refine ⟨ho.os.trans h.only.os, ho.tape.trans h.only.tape, ho.output.trans h.only.output, Nat.le_trans h.only.size ho.size, fun g' hg1 hm1 => ?_⟩
  rw [ho.block g' (Nat.lt_of_lt_of_le hg1 h.only.size) ?_]
  ·exact h.only.block g' hg1 hm1
  ·intro e1
   subst e1
   rcases h.wr _ (List.mem_of_getElem? hb) rfl with h2 | h2
   ·exact hm1 h2
   ·exact absurd hg1 (Nat.not_lt.2 h2)
/-- A block as a whole takes other cells. -/
theorem Sv.put {X : Nat → Prop} {g i : Nat} {cs cs' : Array Value} {e : TypeId} {m' : List Bk} (h : Sv N l m M w0 a w) (hb : m[i]? = some ⟨g, cs, e, true⟩) (hm : m.set i ⟨g, cs', e, true⟩ = m') (hg' : w'.heap[g]? = some (.cells cs' e (0, 0))) (ho : Only X w w') (hX : ∀ b ∈ m, b.g ≠ g → ¬ X b.g) (hM : ∀ g', X g' → g' < w0.heap.size → M g') : Sv N l m' M w0 a w' := by
 subst hm
 have hmem : ∀ b ∈ m.set i ⟨g, cs', e, true⟩, b = ⟨g, cs', e, true⟩ ∨ (b ∈ m ∧ b.g ≠ g) := by
  intro b hb'
  obtain ⟨k, hk⟩ := List.mem_iff_getElem?.1 hb'
  rw [List.getElem?_set] at hk
  split at hk
  ·split at hk
   ·left; exact (Option.some.inj hk).symm
   ·cases hk
  ·rename_i hne
   right
   refine ⟨List.mem_of_getElem? hk, ?_⟩
   have := List.pairwise_iff_getElem.1 h.nd
   obtain ⟨hi1, hi2⟩ := List.getElem?_eq_some_iff.1 hb
   obtain ⟨hk1, hk2⟩ := List.getElem?_eq_some_iff.1 hk
   rcases Nat.lt_or_ge i k with hlt | hge
   ·have := this i k hi1 hk1 hlt
    rw [hi2, hk2] at this
    exact fun e => this e.symm
   ·have := this k i hk1 hi1 (by omega)
    rw [hi2, hk2] at this
    exact this
 have hmap : (m.set i ⟨g, cs', e, true⟩).map Bk.g = m.map Bk.g := by
  rw [List.map_set]
  apply List.ext_getElem?
  intro k
  rw [List.getElem?_set]
  split
  ·rename_i hik
   subst hik
   rw [List.getElem?_map, hb]
   have := (List.getElem?_eq_some_iff.1 hb).1
   simp [this]
  ·rfl
 refine ⟨h.ev, ?_, ?_, ?_, ?_⟩
 ·intro b hb'
  rcases hmem b hb' with rfl | ⟨h1, h2⟩
  ·exact hg'
  ·rw [ho.block b.g (h.lt b h1) (hX b h1 h2)]; exact h.hp b h1
 ·have h1 : (m.map Bk.g).Pairwise (· ≠ ·) := List.pairwise_map.2 h.nd
  rw [← hmap] at h1
  exact List.pairwise_map.1 h1
 ·intro b hb'
  rcases hmem b hb' with rfl | ⟨h1, h2⟩
  ·have h3 := h.wr _ (List.mem_of_getElem? hb)
   exact h3
  ·exact h.wr b h1
 ·exact ⟨ho.os.trans h.only.os, ho.tape.trans h.only.tape, ho.output.trans h.only.output, Nat.le_trans h.only.size ho.size, fun g' hg1 hm1 => by
   rw [ho.block g' (Nat.lt_of_lt_of_le hg1 h.only.size) (fun hx => hm1 (hM g' hx hg1))]
   exact h.only.block g' hg1 hm1⟩
theorem sv_sb {T k t s g i : Nat} {cs old : Array Value} {e : TypeId} {m' : List Bk} (h : Sv N l m M w0 a w) (hA : Ag T k) (hx : a.eval (.tmp t) = pt g 0) (hy : a.eval (.tmp s) = .agg cs) (hb : m[i]? = some ⟨g, old, e, true⟩) (hsz : cs.size = k) (hso : old.size = k) (h1 : ∀ u ∈ cs.toList, u.oneCell' = true) (hm : m.set i ⟨g, cs, e, true⟩ = m')
  (hK : ∀ w', TyOnly [e] w w' → Sv N l m' M w0 a w' → wpList Tryz.prog ops Q rest a w') :
  wpList Tryz.prog ops Q (⟨none, .store T (.tmp t) (.tmp s), ty, ps, af, none⟩ :: rest) a w := by
 refine ev_sb h.ev hA hx hy (h.at i hb) hsz hso h1 fun w' hg' ho => hK w' (.of_set ho (h.at i hb)) ?_
 refine h.put hb hm hg' ho (fun b _ hne e => hne e) ?_
 intro g' e1 hlt
 subst e1
 rcases h.wr _ (List.mem_of_getElem? hb) rfl with h2 | h2
 ·exact h2
 ·exact absurd hlt (Nat.not_lt.2 h2)
/-- A new block. -/
theorem sv_al {T : Nat} {zs : Array Value} (h : Sv N l m M w0 a w) (hA : Al T zs) (hd : d < N)
  (hK : ∀ g a' w', w0.heap.size ≤ g → Below w.heap.size w w' → w.heap.size ≤ g → Sv N ((d, pt g 0) :: l) (⟨g, zs, T, true⟩ :: m) M w0 a' w' → wpList Tryz.prog ops Q rest a' w') :
  wpList Tryz.prog ops Q (⟨some d, .alloc T, ty, ps, af, none⟩ :: rest) a w :=
 ev_al h.ev hA hd fun a' w' h' hg hb _ => hK _ a' w' h.size hb (Nat.le_refl _) (((h.slot h').below hb).addN hg h.lt (Nat.le_refl _) h.size)
/-- A value of cells put into a box. -/
def Bx (T : Nat) (cs : Array Value) : Prop := ∀ w : World, (Instr.box T (.agg cs)).run Tryz.prog w = .ok (pt w.heap.size 0) (w.alloc (.cells cs T))
theorem sv_box {T t : Nat} {cs : Array Value} (h : Sv N l m M w0 a w) (hx : a.eval (.tmp t) = .agg cs) (hB : Bx T cs) (hd : d < N)
  (hK : ∀ g a' w', w0.heap.size ≤ g → Below w.heap.size w w' → w.heap.size ≤ g → Sv N ((d, pt g 0) :: l) (⟨g, cs, T, true⟩ :: m) M w0 a' w' → wpList Tryz.prog ops Q rest a' w') :
  wpList Tryz.prog ops Q (⟨some d, .box T (.tmp t), ty, ps, af, none⟩ :: rest) a w :=
 ev_box h.ev hx hB hd fun a' w' h' hg hb _ => hK _ a' w' h.size hb (Nat.le_refl _) (((h.slot h').below hb).addN hg h.lt (Nat.le_refl _) h.size)
/-- An operation that makes a block. -/
theorem sv_new {T : TypeId} {cs : Array Value} (h : Sv N l m M w0 a w) (hg : o.guard = none) (hd : o.dst = some d) (hdN : d < N) (V : Nat → Value) (hr : (execOp a.eval o).run Tryz.prog w = .ok (.value (V w.heap.size)) (w.alloc (.cells cs T)))
  (hK : ∀ g a' w', w0.heap.size ≤ g → Below w.heap.size w w' → w.heap.size ≤ g → Sv N ((d, V g) :: l) (⟨g, cs, T, true⟩ :: m) M w0 a' w' → wpList Tryz.prog ops Q rest a' w') : wpList Tryz.prog ops Q (o :: rest) a w := by
 refine ev_run (v := V w.heap.size) (w' := w.alloc (.cells cs T)) h.ev hg hd hdN hr fun a' h' => ?_
 have hb : Below w.heap.size w (w.alloc (.cells cs T)) := (Below.refl _ _).alloc (Nat.le_refl _) _
 exact hK _ a' _ h.size hb (Nat.le_refl _) (((h.slot h').below hb).addN (heap_alloc_new _ _) h.lt (Nat.le_refl _) h.size)
/-- A call that leaves old memory. -/
theorem sv_call {f : FuncId} {args : Array Value} {S : Value → World → Prop} (h : Sv N l m M w0 a w) (hg : o.guard = none) (hd : o.dst = some d) (hdN : d < N) (hr : (execOp a.eval o).run Tryz.prog w = .ok (.enter f args) w) (hc : Calls Tryz.prog f args w fun e w' => ∃ v, e = .returned v ∧ Below w.heap.size w w' ∧ S v w')
  (hK : ∀ a' v w', S v w' → Below w.heap.size w w' → Sv N ((d, v) :: l) m M w0 a' w' → wpList Tryz.prog ops Q rest a' w') : wpList Tryz.prog ops Q (o :: rest) a w :=
 ev_call (S := fun v w' => Below w.heap.size w w' ∧ S v w') h.ev hg hd hdN hr hc fun a' v w' hS h' => hK a' v w' hS.2 hS.1 ((h.slot h').below hS.1)
/-- The same, where the value is known. -/
theorem sv_callv {f : FuncId} {args : Array Value} (h : Sv N l m M w0 a w) (hg : o.guard = none) (hd : o.dst = some d) (hdN : d < N) (hr : (execOp a.eval o).run Tryz.prog w = .ok (.enter f args) w) (hc : Calls Tryz.prog f args w fun e w' => e = .returned v ∧ Below w.heap.size w w')
  (hK : ∀ a' w', Below w.heap.size w w' → Sv N ((d, v) :: l) m M w0 a' w' → wpList Tryz.prog ops Q rest a' w') : wpList Tryz.prog ops Q (o :: rest) a w :=
 sv_call (S := fun u _ => u = v) h hg hd hdN hr (Calls.mono hc fun e w' ⟨he, hb⟩ => ⟨v, he, hb, rfl⟩) fun a' u w' hu hb h' => by subst hu; exact hK a' w' hb h'
/-- The same, where the world stays. -/
theorem sv_callq {f : FuncId} {args : Array Value} (h : Sv N l m M w0 a w) (hg : o.guard = none) (hd : o.dst = some d) (hdN : d < N) (hr : (execOp a.eval o).run Tryz.prog w = .ok (.enter f args) w) (hc : Calls Tryz.prog f args w fun e w' => e = .returned v ∧ w' = w)
  (hK : ∀ a', Sv N ((d, v) :: l) m M w0 a' w → wpList Tryz.prog ops Q rest a' w) : wpList Tryz.prog ops Q (o :: rest) a w :=
 ev_call (S := fun u w' => u = v ∧ w' = w) h.ev hg hd hdN hr (Calls.mono hc fun e w' ⟨he, hb⟩ => ⟨v, he, rfl, hb⟩) fun a' u w' hS h' => by obtain ⟨rfl, rfl⟩ := hS; exact hK a' (h.slot h')
end
/-- A call reaches a function of the text. -/
def Cf (f : FuncId) : Prop := ∀ args w, (callFunc f args).run Tryz.prog w = .ok (.enter f args) w
/-- A field's place, wherever the struct begins. -/
def Fo (T k o : Nat) : Prop := ∀ g i w, (Instr.fieldAt T (pt g i) k).run Tryz.prog w = .ok (pt g (i + o)) w
theorem add_block (g i o : Nat) : (⟨g, i, none⟩ : Addr).add o = ⟨g, i + o, none⟩ := by unfold Addr.add; split <;> simp_all
section
variable {a : Act} {w : World} {v : Value} {x y : Operand} {ty : TypeId} {ps : String} {af : Array Edge} {dst : Option Nat} {gd : Option (Nat × Bool)}
theorem ex_fo {T k o g i j t : Nat} (hx : a.eval (.tmp t) = pt g i) (hf : Fo T k o) (hj : i + o = j) : (execOp a.eval ⟨dst, .fieldAddr T (.tmp t) k, ty, ps, af, gd⟩).run Tryz.prog w = .ok (.value (pt g j)) w := by
 subst hj
 simp only [execOp, hx]; exact run_andValue (hf g i w)
theorem ex_nc {t : Nat} {p : Addr} (hx : a.eval (.tmp t) = .pointer (some p)) : (execOp a.eval ⟨dst, .nilCheck (.tmp t), ty, ps, af, gd⟩).run Tryz.prog w = .ok (.value (.pointer (some p))) w := by simp only [execOp, hx]; rfl
theorem ex_as {t : Nat} (hx : a.eval (.tmp t) = v) : (execOp a.eval ⟨dst, .assign (.tmp t), ty, ps, af, gd⟩).run Tryz.prog w = .ok (.value v) w := by simp only [execOp, hx]; rfl
theorem ex_mc : (execOp a.eval ⟨dst, .move (.const v), ty, ps, af, gd⟩).run Tryz.prog w = .ok (.value v) w := by simp only [execOp]; rfl
theorem ex_ac : (execOp a.eval ⟨dst, .assign (.const v), ty, ps, af, gd⟩).run Tryz.prog w = .ok (.value v) w := by simp only [execOp]; rfl
section
variable {f : FuncId} {at1 : Array TypeId} {x1 x2 x3 x4 x5 : Operand} {v1 v2 v3 v4 v5 : Value}
theorem ex_call1 (hf : Cf f) (h1 : a.eval x1 = v1) : (execOp a.eval ⟨dst, .call { callee := .value (.func f), args := #[x1], argTypes := at1 }, ty, ps, af, gd⟩).run Tryz.prog w = .ok (.enter f #[v1]) w := by
 simp only [execOp, resolve, List.map_toArray, List.map_cons, List.map_nil, h1]; go_simp; exact hf _ w
theorem ex_call2 (hf : Cf f) (h1 : a.eval x1 = v1) (h2 : a.eval x2 = v2) : (execOp a.eval ⟨dst, .call { callee := .value (.func f), args := #[x1, x2], argTypes := at1 }, ty, ps, af, gd⟩).run Tryz.prog w = .ok (.enter f #[v1, v2]) w := by
 simp only [execOp, resolve, List.map_toArray, List.map_cons, List.map_nil, h1, h2]; go_simp; exact hf _ w
theorem ex_call4 (hf : Cf f) (h1 : a.eval x1 = v1) (h2 : a.eval x2 = v2) (h3 : a.eval x3 = v3) (h4 : a.eval x4 = v4) : (execOp a.eval ⟨dst, .call { callee := .value (.func f), args := #[x1, x2, x3, x4], argTypes := at1 }, ty, ps, af, gd⟩).run Tryz.prog w = .ok (.enter f #[v1, v2, v3, v4]) w := by
 simp only [execOp, resolve, List.map_toArray, List.map_cons, List.map_nil, h1, h2, h3, h4]; go_simp; exact hf _ w
end
/-- A conversion between two types. -/
def Cv (T T' : Nat) (u v : Value) : Prop := ∀ w, (convert T T' u).run Tryz.prog w = .ok v w
theorem ex_cv {T T' : Nat} {u : Value} (hx : a.eval x = u) (h : Cv T T' u v) : (execOp a.eval ⟨dst, .convert T T' x, ty, ps, af, gd⟩).run Tryz.prog w = .ok (.value v) w := by
 simp only [execOp, hx]; exact run_andValue (h w)
variable {T T' : TypeId} {k k2 : IntKind} {i j z : Int} {b : Bool}
theorem ei_eql (hx : a.eval x = .int k i) (hy : a.eval y = .int k j) (hz : decide (i = j) = b) : (execOp a.eval ⟨dst, .binOp .eql T x y T', ty, ps, af, gd⟩).run Tryz.prog w = .ok (.value (.bool b)) w := by
 simp only [execOp, hx, hy]
 simp [eqGuard, binOp, Op.intCmp, Result.andThen, ← hz]
 try (by_cases h : i = j <;> simp [h])
theorem ei_neq (hx : a.eval x = .int k i) (hy : a.eval y = .int k j) (hz : decide (i ≠ j) = b) : (execOp a.eval ⟨dst, .binOp .neq T x y T', ty, ps, af, gd⟩).run Tryz.prog w = .ok (.value (.bool b)) w := by
 simp only [execOp, hx, hy]
 simp [eqGuard, binOp, Op.intCmp, Result.andThen, ← hz]
 try (by_cases h : i = j <;> simp [h])
theorem ei_rem (hx : a.eval x = .int k i) (hy : a.eval y = .int k j) (hj : j ≠ 0) (hz : i.tmod j = z) : (execOp a.eval ⟨dst, .binOp .rem T x y T', ty, ps, af, gd⟩).run Tryz.prog w = .ok (.value (.int k z)) w := by
 simp only [execOp, hx, hy]
 rw [← hz]
 simp [eqGuard, binOp, Result.andThen, Op.intDiv, hj, hz]
end
/-- A branch, and what holds where its two roads meet. -/
theorem if_join {t : Nat} {b : Bool} {c d : Code} {a : Act} {w : World} {Q : Exit → Act → World → Prop} (J : Act → World → Prop) (hc : a.eval (.tmp t) = .bool b)
  (h1 : b = true → ∀ Q' : Exit → Act → World → Prop, (∀ a w, J a w → Q' .normal a w) → c.wp Tryz.prog Q' a w) (h2 : b = false → ∀ Q' : Exit → Act → World → Prop, (∀ a w, J a w → Q' .normal a w) → d.wp Tryz.prog Q' a w) (hK : ∀ a w, J a w → Q .normal a w) : (Code.cond (.tmp t) c d).wp Tryz.prog Q a w := by
 refine wp_cond_split hc (fun hb => ?_) (fun hb => ?_)
 ·exact h1 hb Q hK
 ·exact h2 hb Q hK
end Go.Proofs.YtfonjeoiallhhaaGreatDoor
/- Small walks about a master playlist: new, its version, its buffer reset, its marks; plainNumber. -/
set_option maxRecDepth 100000
namespace Go.Proofs.YtfonjeoiallhhaaGreatDoor
open Go.RowKit
theorem end_ev {N : Nat} {l : List (Nat × Value)} {fn : Func} {R : Ending → World → Prop} {a : Act} {w : World} (h : Ev N l a) (hr : fn.results = #[]) (hR : R (.returned (.tuple #[])) w) : bodyPost Tryz.prog fn R .normal a w :=
 ⟨h.defers, _, results_none hr _ _ _, hR⟩
theorem st_int (n : Int) : St 3 (.int .i64 n) := by intro w q u hc hf; simp only [Instr.storeAt, Instr.sureAddr]; go_simp
def plainB (x : Nat) : Bool := (FloatKind.f64.format.order x 14054727237768577024 == some .gt || FloatKind.f64.format.order x 14054727237768577024 == some .eq) && (FloatKind.f64.format.order x 4831355200913801216 == some .lt || FloatKind.f64.format.order x 4831355200913801216 == some .eq)
theorem rate_plain_all : (List.range 1001).all (fun t => plainB (e8 t)) = true := by decide +kernel
theorem rate_plain {t : Nat} (h : t ≤ 1000) : plainB (e8 t) = true := List.all_eq_true.1 rate_plain_all t (List.mem_range.2 (by omega))
theorem rate_neq_all : (List.range 1001).all (fun t => (FloatKind.f64.format.order (e8 t) 0 != some .eq) == decide (t ≠ 0)) = true := by decide +kernel
theorem plain_any (x : Nat) (hx : plainB x = true) (w : World) : Calls Tryz.prog 14 #[.float .f64 x] w fun e w' => e = .returned (.bool true) ∧ w' = w := by
 unfold plainB at hx
 rw [Bool.and_eq_true] at hx
 refine calls_of_ev Tryz.func14 rfl (show 1 ≤ 9 from by decide) ?_
 intro a hE
 have hE : Ev 9 ((0, .float .f64 x) :: []) a := hE
 refine wp_seq ?_
 refine wp_region_lit ?_
 refine ev_ac hE (by decide) ?_
 intro a hE
 refine nx3 ?_
 refine ev_mv hE (hE.get 0 rfl) (by decide) ?_
 intro a hE
 refine ev_run (v := .bool true) (w' := w) hE rfl rfl (by decide) ?_ ?_
 ·simp only [execOp, hE.get 3 rfl]
  rw [← hx.1]
  rfl
 intro a hE
 refine ev_mv hE (hE.get 4 rfl) (by decide) ?_
 intro a hE
 refine ev_gon hE rfl rfl (hE.get 5 rfl) rfl (by decide) (ex_mv (hE.get 0 rfl)) ?_
 intro a hE
 refine ev_gon (v := .bool true) (w' := w) hE rfl rfl (hE.get 5 rfl) rfl (by decide) ?_ ?_
 ·simp only [execOp, hE.get 6 rfl]
  rw [← hx.2]
  rfl
 intro a hE
 refine ev_run (v := .bool true) (w' := w) hE rfl rfl (by decide) ?_ ?_
 ·rw [ex_pick (b := true) (hE.get 5 rfl)]
  have e1 := hE.get 7 rfl
  simp only [if_true, e1]
 intro a hE
 refine ev_as hE (hE.get 8 rfl) (by decide) ?_
 intro a hE
 refine nx1 ?_
 refine wp_ret ?_
 exact ret_of_ev hE rfl (hE.get 2 rfl) ⟨rfl, rfl⟩
end Go.Proofs.YtfonjeoiallhhaaGreatDoor
/- The walk of impl.WriteMaster, the whole. -/
namespace Go.Proofs.YtfonjeoiallhhaaGreatDoor
open Go.RowKit
theorem drewN_below (w : World) (n : Nat) (B : Nat) : Below B w (w.drewN n) := ⟨rfl, rfl, rfl, Nat.le_refl _, fun _ _ => rfl⟩
/-- The result lies in two slots. -/
theorem ret2_of_ev {N t u : Nat} {l : List (Nat × Value)} {fn : Func} {R : Ending → World → Prop} {a : Act} {w : World} {x y : Value} (h : Ev N l a) (hr : fn.results = #[.tmp t, .tmp u]) (hx : a.eval (.tmp t) = x) (hy : a.eval (.tmp u) = y) (hR : R (.returned (.tuple #[x, y])) w) : bodyPost Tryz.prog fn R .ret a w :=
 bodyPost_ret (results_tmp2 hr _ _ _) h.defers (by have e1 : a.tmps.getD t undef = x := hx; have e2 : a.tmps.getD u undef = y := hy; rw [e1, e2]; exact hR)
end Go.Proofs.YtfonjeoiallhhaaGreatDoor
/- Frames that are not laid open: regions that draw and only read; arithmetic. -/
namespace Go.Proofs.YtfonjeoiallhhaaGreatDoor
open Go.RowKit
section
variable {N : Nat} {l : List (Nat × Value)} {a : Act} {w : World} {ops : Array Oper} {rest : List Oper} {o : Oper} {C : World → Prop} {Q : Act → Prop} {d : Nat} {v : Value}
theorem qv_run (h : Ev N l a) (hg : o.guard = none) (hd : o.dst = some d) (hdN : d < N) (hr : ∀ w, C w → (execOp a.eval o).run Tryz.prog w = .ok (.value v) w)
  (hK : ∀ a', Ev N ((d, v) :: l) a' → wpQuiet Tryz.prog ops C Q rest a') : wpQuiet Tryz.prog ops C Q (o :: rest) a := by
 have hw : Region.wanted o (yielded ops a.tmps) = true := by unfold Region.wanted; rw [hg]
 unfold wpQuiet
 rw [if_pos hw]
 refine ⟨v, fun w hC => ?_, by rw [hd]; exact hK _ (h.set hdN)⟩
 unfold Oper.quietAt
 rw [hr w hC]
 exact ⟨rfl, rfl⟩
theorem qv_call {f : FuncId} {args : Array Value} (h : Ev N l a) (hg : o.guard = none) (hd : o.dst = some d) (hdN : d < N) (hr : ∀ w, C w → (execOp a.eval o).run Tryz.prog w = .ok (.enter f args) w) (hc : ∀ w, C w → Calls Tryz.prog f args w fun e w' => e = .returned v ∧ C w')
  (hK : ∀ a', Ev N ((d, v) :: l) a' → wpQuiet Tryz.prog ops C Q rest a') : wpQuiet Tryz.prog ops C Q (o :: rest) a := by
 have hw : Region.wanted o (yielded ops a.tmps) = true := by unfold Region.wanted; rw [hg]
 unfold wpQuiet
 rw [if_pos hw]
 refine ⟨v, fun w hC => ?_, by rw [hd]; exact hK _ (h.set hdN)⟩
 unfold Oper.quietAt
 rw [hr w hC]
 exact ⟨rfl, hc w hC⟩
end
section
variable {a : Act} {w : World} {dst : Option Nat} {T T' ty : TypeId} {ps : String} {af : Array Edge} {gd : Option (Nat × Bool)} {x y : Operand} {k k2 : IntKind} {i j z : Int} {b : Bool}
theorem ei_add (hx : a.eval x = .int k i) (hy : a.eval y = .int k j) (hz : k.wrap (i + j) = z) : (execOp a.eval ⟨dst, .binOp .add T x y T', ty, ps, af, gd⟩).run Tryz.prog w = .ok (.value (.int k z)) w := by
 simp only [execOp, hx, hy]
 simp [eqGuard, binOp, Op.intArith, Result.andThen, hz]
theorem ei_sub (hx : a.eval x = .int k i) (hy : a.eval y = .int k j) (hz : k.wrap (i - j) = z) : (execOp a.eval ⟨dst, .binOp .sub T x y T', ty, ps, af, gd⟩).run Tryz.prog w = .ok (.value (.int k z)) w := by
 simp only [execOp, hx, hy]
 simp [eqGuard, binOp, Op.intArith, Result.andThen, hz]
theorem ei_mul (hx : a.eval x = .int k i) (hy : a.eval y = .int k j) (hz : k.wrap (i * j) = z) : (execOp a.eval ⟨dst, .binOp .mul T x y T', ty, ps, af, gd⟩).run Tryz.prog w = .ok (.value (.int k z)) w := by
 simp only [execOp, hx, hy]
 simp [eqGuard, binOp, Op.intArith, Result.andThen, hz]
theorem ei_lss (hx : a.eval x = .int k i) (hy : a.eval y = .int k j) (hz : decide (i < j) = b) : (execOp a.eval ⟨dst, .binOp .lss T x y T', ty, ps, af, gd⟩).run Tryz.prog w = .ok (.value (.bool b)) w := by
 simp only [execOp, hx, hy]
 simp [eqGuard, binOp, Op.intCmp, Result.andThen, hz]
theorem ei_leq (hx : a.eval x = .int k i) (hy : a.eval y = .int k j) (hz : decide (i ≤ j) = b) : (execOp a.eval ⟨dst, .binOp .leq T x y T', ty, ps, af, gd⟩).run Tryz.prog w = .ok (.value (.bool b)) w := by
 simp only [execOp, hx, hy]
 simp [eqGuard, binOp, Op.intCmp, Result.andThen, hz]
theorem ei_gtr (hx : a.eval x = .int k i) (hy : a.eval y = .int k j) (hz : decide (j < i) = b) : (execOp a.eval ⟨dst, .binOp .gtr T x y T', ty, ps, af, gd⟩).run Tryz.prog w = .ok (.value (.bool b)) w := by
 simp only [execOp, hx, hy]
 simp [eqGuard, binOp, Op.intCmp, Result.andThen, hz]
theorem ei_geq (hx : a.eval x = .int k i) (hy : a.eval y = .int k j) (hz : decide (j ≤ i) = b) : (execOp a.eval ⟨dst, .binOp .geq T x y T', ty, ps, af, gd⟩).run Tryz.prog w = .ok (.value (.bool b)) w := by
 simp only [execOp, hx, hy]
 simp [eqGuard, binOp, Op.intCmp, Result.andThen, hz]
theorem ei_and (hx : a.eval x = .int k i) (hy : a.eval y = .int k j) (hz : bits .and k i j = z) : (execOp a.eval ⟨dst, .binOp .and T x y T', ty, ps, af, gd⟩).run Tryz.prog w = .ok (.value (.int k z)) w := by
 simp only [execOp, hx, hy]
 rw [← hz]
 simp [eqGuard, binOp, Result.andThen, intBits_and]
theorem ei_or (hx : a.eval x = .int k i) (hy : a.eval y = .int k j) (hz : bits .or k i j = z) : (execOp a.eval ⟨dst, .binOp .or T x y T', ty, ps, af, gd⟩).run Tryz.prog w = .ok (.value (.int k z)) w := by
 simp only [execOp, hx, hy]
 rw [← hz]
 simp [eqGuard, binOp, Result.andThen, intBits_or]
theorem ei_shr (hx : a.eval x = .int k i) (hy : a.eval y = .int k2 j) (h0 : 0 ≤ j) (h1 : j ≤ k.bits) (hz : i / 2 ^ j.toNat = z) : (execOp a.eval ⟨dst, .binOp .shr T x y T', ty, ps, af, gd⟩).run Tryz.prog w = .ok (.value (.int k z)) w := by
 simp only [execOp, hx, hy]
 rw [← hz]
 simp [eqGuard, binOp, Result.andThen, shift_shr k k2 i j h0 h1]
theorem ei_shl (hx : a.eval x = .int k i) (hy : a.eval y = .int k2 j) (h0 : 0 ≤ j) (h1 : j ≤ k.bits) (hz : k.wrap (i * 2 ^ j.toNat) = z) : (execOp a.eval ⟨dst, .binOp .shl T x y T', ty, ps, af, gd⟩).run Tryz.prog w = .ok (.value (.int k z)) w := by
 simp only [execOp, hx, hy]
 rw [← hz]
 simp [eqGuard, binOp, Result.andThen, shift_shl k k2 i j h0 h1]
theorem ei_quo (hx : a.eval x = .int k i) (hy : a.eval y = .int k j) (hj : j ≠ 0) (hz : k.wrap (i.tdiv j) = z) : (execOp a.eval ⟨dst, .binOp .quo T x y T', ty, ps, af, gd⟩).run Tryz.prog w = .ok (.value (.int k z)) w := by
 simp only [execOp, hx, hy]
 rw [← hz]
 simp [eqGuard, binOp, Op.intArith, Result.andThen, Op.intDiv, hj]
theorem ei_neg (hx : a.eval x = .int k i) (hz : k.wrap (-i) = z) : (execOp a.eval ⟨dst, .unOp .neg T x, ty, ps, af, gd⟩).run Tryz.prog w = .ok (.value (.int k z)) w := by
 simp only [execOp, hx]
 rw [← hz]
 go_simp
theorem ei_ext {t n : Nat} {vs : Array Value} {v : Value} (hx : a.eval (.tmp t) = .tuple vs) (hv : vs[n]? = some v) : (execOp a.eval ⟨dst, .extract (.tmp t) n, ty, ps, af, gd⟩).run Tryz.prog w = .ok (.value v) w := by
 simp only [execOp, hx]
 simp [Instr.extract, hv, Result.andThen]
end
end Go.Proofs.YtfonjeoiallhhaaGreatDoor
/- strconv.FormatFloat's small callees, as far as eighths need them. -/
namespace Go.Proofs.YtfonjeoiallhhaaGreatDoor
open Go.RowKit
theorem len64_any (x : Nat) (h1 : x ≤ 18446744073709551615) (w : World) : Calls Tryz.prog 80 #[.int .u64 x] w fun e w' => e = .returned (.int .i64 (Lib.bitLen x)) ∧ w' = w := by
 have := Any.bits_Len64 Tryz.lays129 (x : Int) w (by omega) (by omega)
 exact this
theorem mul64_any (x y : Nat) (hx : x < 18446744073709551616) (hy : y < 18446744073709551616) (w : World) :
  Calls Tryz.prog 124 #[.int .u64 x, .int .u64 y] w fun e w' => e = .returned (.tuple #[.int .u64 ((x * y / 18446744073709551616 : Nat) : Int), .int .u64 ((x * y % 18446744073709551616 : Nat) : Int)]) ∧ w' = w := Any.bits_Mul64 Tryz.lays264 x y hx hy w
theorem l10_any (x : Nat) (h : x ≤ 64) (w : World) : Calls Tryz.prog 79 #[.int .i64 x] w fun e w' => e = .returned (.int .i64 (Lib.l10 x)) ∧ w' = w := Any.internal_strconv_log10Pow2 Tryz.lays317 x h w
theorem l10_neg (x : Int) (h : x = -1 ∨ x = -2 ∨ x = -3) (w : World) : Calls Tryz.prog 79 #[.int .i64 x] w fun e w' => e = .returned (.int .i64 (-1)) ∧ w' = w := by
 rcases h with rfl | rfl | rfl
 all_goals
  go_enter Tryz.func79, Tryz.ntmps79
  go_wp2
  go_ret
  exact ⟨rfl, rfl⟩
theorem l2_any (p : Int) (h : p = 3 ∨ p = 4) (w : World) : Calls Tryz.prog 106 #[.int .i64 p] w fun e w' => e = .returned (.int .i64 (p * 108853 / 32768)) ∧ w' = w := by
 rcases h with rfl | rfl
 all_goals
  go_enter Tryz.func106, Tryz.ntmps106
  go_wp2
  go_ret
  exact ⟨rfl, rfl⟩
theorem unmin_any (y : Int) (h : y = 10000 ∨ y = 100000 ∨ y = 1000000) (w : World) : Calls Tryz.prog 112 #[.int .u64 y] w fun e w' => e = .returned (.int .u64 (y * 4 - 2)) ∧ w' = w := by
 rcases h with rfl | rfl | rfl
 all_goals
  go_enter Tryz.func112, Tryz.ntmps112
  go_wp2
  go_ret
  exact ⟨rfl, rfl⟩
theorem bool2u_any (b : Bool) (w : World) : Calls Tryz.prog 126 #[.bool b] w fun e w' => e = .returned (.int .u64 (if b then 1 else 0)) ∧ w' = w := by
 go_enter Tryz.func126, Tryz.ntmps126
 cases b
 all_goals
  go_wp2
  go_ret
  exact ⟨rfl, rfl⟩
theorem bool2w_any (b : Bool) (w : World) : Calls Tryz.prog 125 #[.bool b] w fun e w' => e = .returned (.int .u64 (if b then 1 else 0)) ∧ w' = w := by
 go_enter Tryz.func125, Tryz.ntmps125
 cases b
 all_goals
  go_wp2
  go_ret
  exact ⟨rfl, rfl⟩
theorem ofInt_nat (n x : Nat) : BitVec.ofInt n (x : Int) = BitVec.ofNat n x := by
 apply BitVec.eq_of_toNat_eq
 simp [BitVec.toNat_ofInt]
theorem or_u64 (x y : Nat) (hx : x < 18446744073709551616) (hy : y < 18446744073709551616) : bits .or .u64 (x : Int) (y : Int) = ((x ||| y : Nat) : Int) := by
 have hb : IntKind.u64.bits = 64 := rfl
 have h := Nat.or_lt_two_pow (n := 64) (show x < 2 ^ 64 by omega) (show y < 2 ^ 64 by omega)
 unfold bits
 simp only [hb, ofInt_nat, BitVec.toNat_or, BitVec.toNat_ofNat]
 rw [Nat.mod_eq_of_lt (show x < 2 ^ 64 by omega), Nat.mod_eq_of_lt (show y < 2 ^ 64 by omega), IntKind.wrap_u64]
 omega
theorem and_u64 (x y : Nat) (hx : x < 18446744073709551616) (hy : y < 18446744073709551616) : bits .and .u64 (x : Int) (y : Int) = ((x &&& y : Nat) : Int) := by
 have hb : IntKind.u64.bits = 64 := rfl
 have h := Nat.and_lt_two_pow (n := 64) x (show y < 2 ^ 64 by omega)
 unfold bits
 simp only [hb, ofInt_nat, BitVec.toNat_and, BitVec.toNat_ofNat]
 rw [Nat.mod_eq_of_lt (show x < 2 ^ 64 by omega), Nat.mod_eq_of_lt (show y < 2 ^ 64 by omega), IntKind.wrap_u64]
 omega
theorem round_any (d : Nat) (h : d ≤ 1000000) (w : World) : Calls Tryz.prog 111 #[.int .u64 ((4 * d : Nat) : Int)] w fun e w' => e = .returned (.int .u64 d) ∧ w' = w := by
 have h2 : bits BinOp.and IntKind.u64 (d : Int) 1 = (d : Int) % 2 := by
  have := and_u64 d 1 (by omega) (by omega)
  rw [Nat.and_one_is_mod] at this
  exact this
 have h3 : IntKind.u64.wrap (4 * (d : Int) + 1 + (d : Int) % 2) = 4 * (d : Int) + 1 + (d : Int) % 2 := by rw [IntKind.wrap_u64]; omega
 have e : (4 * (d : Int) + 1 + (d : Int) % 2) / 4 = d := by omega
 go_enter Tryz.func111, Tryz.ntmps111
 go_wp2
 go_ret
 exact ⟨rfl, rfl⟩
theorem div_any (u : Nat) (h : u % 20 = 0) (h1 : u ≤ 100000000) (w : World) : Calls Tryz.prog 113 #[.int .u64 u, .int .u64 10] w fun e w' => e = .returned (.int .u64 ((u / 10 : Nat) : Int)) ∧ ∃ n, w' = w.drewN n := by
 have e1 : bits BinOp.and IntKind.u64 (u : Int) 1 = 0 := by
  have := and_u64 u 1 (by omega) (by omega)
  rw [Nat.and_one_is_mod, show u % 2 = 0 by omega] at this
  exact this
 have e2 : bits BinOp.or IntKind.u64 ((u : Int) / 10) 0 = (u : Int) / 10 := by
  have := or_u64 (u / 10) 0 (by omega) (by omega)
  rw [Nat.or_zero] at this
  exact_mod_cast this
 have e3 : IntKind.u64.wrap ((u : Int) / 10) = (u : Int) / 10 := by rw [IntKind.wrap_u64]; omega
 have e4 : (u : Int) % 10 = 0 := by omega
 go_enter Tryz.func113, Tryz.ntmps113
 go_wp2
 go_quiet ((go_at_call 126; exact Calls.quiet_of_same (bool2u_any _ _)))
 go_wp2
 go_ret
 exact ⟨rfl, nq, rfl⟩
end Go.Proofs.YtfonjeoiallhhaaGreatDoor
/- strconv's uscale, prescale, fixedWidthFloat, as far as eighths need them. -/
set_option maxRecDepth 100000
namespace Go.Proofs.YtfonjeoiallhhaaGreatDoor
open Go.RowKit
theorem fa_sc_0 (g : Nat) : Fa 179 0 g 0 0 := by intro w; go_simp
theorem fa_sc_1 (g : Nat) : Fa 179 1 g 0 1 := by intro w; go_simp
theorem fa_sc_2 (g : Nat) : Fa 179 2 g 0 2 := by intro w; go_simp
theorem ld_u64 : Ld 25 := by intro w p v h; go_simp
theorem uscale_any (x hi q sh g : Nat) (hx : x < 18446744073709551616) (hhi : hi < 18446744073709551616) (h0 : x * hi % 18446744073709551616 = 0) (hh : x * hi / 18446744073709551616 = q * 2 ^ sh) (hsh : sh < 64) (w : World)
  (hg : w.heap[g]? = some (.cells #[.int .u64 hi, .int .u64 (0 : Nat), .int .i64 sh] 179 (0, 0))) :
  Calls Tryz.prog 107 #[.int .u64 x, .pointer (some ⟨g, 0, none⟩)] w fun e w' => e = .returned (.int .u64 q) ∧ ∃ n, w' = w.drewN n := by
 have hhb : q * 2 ^ sh < 18446744073709551616 := by
  rw [← hh]
  have : x * hi < 18446744073709551616 * 18446744073709551616 := Nat.mul_lt_mul'' hx hhi
  omega
 have m1 := fun w => mul64_any x hi hx hhi w
 have m2 := fun w => mul64_any x 0 hx (by omega) w
 rw [h0, hh] at m1
 simp only [Nat.mul_zero, Nat.zero_div, Nat.zero_mod] at m2
 have hp : 0 < 2 ^ sh := Nat.two_pow_pos sh
 have s0 : bits BinOp.and IntKind.i64 (sh : Int) 63 = sh := by
  have hall : (List.range 64).all (fun n => bits BinOp.and IntKind.i64 (n : Int) 63 == (n : Int)) = true := by decide +kernel
  have := List.all_eq_true.1 hall sh (List.mem_range.2 hsh)
  simpa using this
 have s1 : ((q * 2 ^ sh : Nat) : Int) / 2 ^ ((sh : Int)).toNat = q := by
  rw [Int.toNat_natCast]
  push_cast
  exact Int.mul_ediv_cancel _ (by exact_mod_cast Nat.pos_iff_ne_zero.1 hp)
 have s2 : IntKind.u64.wrap ((q : Int) * 2 ^ ((sh : Int)).toNat) = ((q * 2 ^ sh : Nat) : Int) := by
  have : ((q : Int) * 2 ^ ((sh : Int)).toNat) = ((q * 2 ^ sh : Nat) : Int) := by rw [Int.toNat_natCast]; push_cast; rfl
  rw [this, IntKind.wrap_u64]; omega
 have hqb : q < 18446744073709551616 := Nat.lt_of_le_of_lt (Nat.le_mul_of_pos_right _ hp) hhb
 have s6 : bits BinOp.or IntKind.u64 (q : Int) 0 = q := by
  have := or_u64 q 0 hqb (by omega)
  rw [Nat.or_zero] at this
  exact this
 have s7 : IntKind.u64.wrap (((q * 2 ^ sh : Nat) : Int) - 0) = ((q * 2 ^ sh : Nat) : Int) := by rw [IntKind.wrap_u64]; omega
 generalize q * 2 ^ sh = h at *
 refine calls_of_ev Tryz.func107 rfl (show 2 ≤ 59 from by decide) ?_
 intro a hE
 have hE : Ev 59 ((0, .int .u64 x) :: (1, pt g 0) :: []) a := hE
 refine wp_seq ?_
 refine wp_region_lit ?_
 refine ev_ac hE (by decide) ?_
 intro a hE
 refine nx3 ?_
 refine ev_r (w' := w) hE (ex_mv (hE.get 0 rfl)) fun a hE => ?_
 refine ev_r (w' := w) hE (ex_mv (hE.get 1 rfl)) fun a hE => ?_
 refine ev_nc hE (hE.get 12 rfl) (by decide) ?_
 intro a hE
 refine ev_r (w' := w) hE (ex_fa (hE.get 13 rfl) (fa_sc_0 _)) fun a hE => ?_
 refine ev_r (v := .int .u64 hi) (w' := w) hE (ex_ld (hE.get 14 rfl) ld_u64 (cell_of_heap (v := .int .u64 hi) hg rfl)) fun a hE => ?_
 refine ev_call (S := fun u w' => u = .tuple #[.int .u64 h, .int .u64 (0 : Nat)] ∧ w = w') hE rfl rfl (by decide) (f := 124) (args := #[.int .u64 x, .int .u64 hi]) (by simp only [execOp, resolve, List.map_toArray, List.map_cons, List.map_nil, hE.get 11 rfl, hE.get 15 rfl]; go_simp) (Calls.mono (m1 w) (by rintro e w' ⟨rfl, h⟩; exact ⟨_, rfl, rfl, h.symm⟩)) ?_
 rintro a u wx ⟨rfl, rfl⟩ hE
 refine ev_r (w' := w) hE (ex_mv (hE.get 16 rfl)) fun a hE => ?_
 refine ev_r (w' := w) hE (ei_ext (hE.get 10 rfl) rfl) fun a hE => ?_
 refine ev_r (w' := w) hE (ei_ext (hE.get 10 rfl) rfl) fun a hE => ?_
 refine ev_r (w' := w) hE (ex_as (hE.get 17 rfl)) fun a hE => ?_
 refine ev_r (w' := w) hE (ex_as (hE.get 18 rfl)) fun a hE => ?_
 refine nx3 ?_
 refine ev_r (w' := w) hE (ex_mv (hE.get 1 rfl)) fun a hE => ?_
 refine ev_nc hE (hE.get 19 rfl) (by decide) ?_
 intro a hE
 refine ev_r (w' := w) hE (ex_fa (hE.get 20 rfl) (fa_sc_2 _)) fun a hE => ?_
 refine ev_r (v := .int .i64 sh) (w' := w) hE (ex_ld (hE.get 21 rfl) ld_i64 (cell_of_heap (v := .int .i64 sh) hg rfl)) fun a hE => ?_
 refine ev_r (v := .int .i64 sh) (w' := w) hE (ei_and (hE.get 22 rfl) rfl s0) fun a hE => ?_
 refine ev_r (w' := w) hE (ex_as (hE.get 23 rfl)) fun a hE => ?_
 refine nx1 ?_
 refine wp_seq ?_
 refine wp_seq ?_
 refine wp_region_lit ?_
 refine ev_r (w' := w) hE (ex_mv (hE.get 5 rfl)) fun a hE => ?_
 refine ev_r (w' := w) hE (ex_mv (hE.get 7 rfl)) fun a hE => ?_
 refine ev_r (v := .int .u64 q) (w' := w) hE (ei_shr (hE.get 24 rfl) (hE.get 25 rfl) (by omega) (by simp only [IntKind.bits]; omega) s1) fun a hE => ?_
 refine ev_r (w' := w) hE (ex_mv (hE.get 7 rfl)) fun a hE => ?_
 refine ev_r (v := .int .u64 h) (w' := w) hE (ei_shl (hE.get 26 rfl) (hE.get 27 rfl) (by omega) (by simp only [IntKind.bits]; omega) s2) fun a hE => ?_
 refine ev_r (w' := w) hE (ex_mv (hE.get 5 rfl)) fun a hE => ?_
 refine ev_r (v := .bool false) (w' := w) hE (by simp only [execOp, hE.get 28 rfl, hE.get 29 rfl]; go_simp) fun a hE => ?_
 refine nx1 ?_
 refine wp_cond_split (hE.get 30 rfl) (fun h => by cases h) (fun _ => ?_)
 refine wp_skip ?_
 show Code.wp _ _ _ _ _
 refine wp_seq ?_
 refine wp_region_lit ?_
 refine ev_r (w' := w) hE (ex_mv (hE.get 0 rfl)) fun a hE => ?_
 refine ev_r (w' := w) hE (ex_mv (hE.get 1 rfl)) fun a hE => ?_
 refine ev_nc hE (hE.get 37 rfl) (by decide) ?_
 intro a hE
 refine ev_r (w' := w) hE (ex_fa (hE.get 38 rfl) (fa_sc_1 _)) fun a hE => ?_
 refine ev_r (v := .int .u64 (0 : Nat)) (w' := w) hE (ex_ld (hE.get 39 rfl) ld_u64 (cell_of_heap (v := .int .u64 (0 : Nat)) hg rfl)) fun a hE => ?_
 refine ev_call (S := fun u w' => u = .tuple #[.int .u64 (0 : Nat), .int .u64 (0 : Nat)] ∧ w = w') hE rfl rfl (by decide) (f := 124) (args := #[.int .u64 x, .int .u64 (0 : Nat)]) (by simp only [execOp, resolve, List.map_toArray, List.map_cons, List.map_nil, hE.get 36 rfl, hE.get 40 rfl]; go_simp) (Calls.mono (m2 w) (by rintro e w' ⟨rfl, h⟩; exact ⟨_, rfl, rfl, h.symm⟩)) ?_
 rintro a u wx ⟨rfl, rfl⟩ hE
 refine ev_r (w' := w) hE (ex_mv (hE.get 41 rfl)) fun a hE => ?_
 refine ev_r (w' := w) hE (ei_ext (hE.get 35 rfl) rfl) fun a hE => ?_
 refine ev_r (w' := w) hE (ei_ext (hE.get 35 rfl) rfl) fun a hE => ?_
 refine ev_r (w' := w) hE (ex_as (hE.get 42 rfl)) fun a hE => ?_
 refine ev_r (w' := w) hE (ex_as (hE.get 43 rfl)) fun a hE => ?_
 refine nx3 ?_
 refine ev_r (w' := w) hE (ex_mv (hE.get 5 rfl)) fun a hE => ?_
 refine ev_r (w' := w) hE (ex_mv (hE.get 6 rfl)) fun a hE => ?_
 refine ev_r (w' := w) hE (ex_mv (hE.get 8 rfl)) fun a hE => ?_
 refine ev_r (v := .bool false) (w' := w) hE (ei_lss (hE.get 45 rfl) (hE.get 46 rfl) (by decide)) fun a hE => ?_
 refine ev_call (S := fun u w' => u = .int .u64 0 ∧ w = w') hE rfl rfl (by decide) (f := 125) (args := #[.bool false]) (by simp only [execOp, resolve, List.map_toArray, List.map_cons, List.map_nil, hE.get 47 rfl]; go_simp) (Calls.mono (bool2w_any false w) (by rintro e w' ⟨rfl, h⟩; exact ⟨_, rfl, rfl, h.symm⟩)) ?_
 rintro a u wx ⟨rfl, rfl⟩ hE
 refine ev_r (v := .int .u64 h) (w' := w) hE (ei_sub (hE.get 44 rfl) (hE.get 48 rfl) s7) fun a hE => ?_
 refine ev_r (w' := w) hE (ex_as (hE.get 49 rfl)) fun a hE => ?_
 refine nx1 ?_
 refine wp_seq ?_
 refine wp_region_quiet_lit (by kernel_rfl) (by kernel_rfl) ?_
 refine qv_run hE rfl rfl (by decide) (fun w hC => (ex_mv (hE.get 5 rfl))) ?_
 intro a hE
 refine qv_run hE rfl rfl (by decide) (fun w hC => (ex_mv (hE.get 7 rfl))) ?_
 intro a hE
 refine qv_run (v := .int .u64 q) hE rfl rfl (by decide) (fun w hC => (ei_shr (hE.get 50 rfl) (hE.get 51 rfl) (by omega) (by simp only [IntKind.bits]; omega) s1)) ?_
 intro a hE
 refine qv_run hE rfl rfl (by decide) (fun w hC => (ex_mv (hE.get 6 rfl))) ?_
 intro a hE
 refine qv_run hE rfl rfl (by decide) (fun w hC => (ex_mv (hE.get 8 rfl))) ?_
 intro a hE
 refine qv_run (v := .int .u64 0) hE rfl rfl (by decide) (fun w hC => (ei_sub (hE.get 53 rfl) (hE.get 54 rfl) (by decide))) ?_
 intro a hE
 refine qv_run (v := .bool false) hE rfl rfl (by decide) (fun w hC => (ei_gtr (hE.get 55 rfl) rfl (by decide))) ?_
 intro a hE
 refine qv_call (v := .int .u64 0) hE rfl rfl (by decide) (f := 125) (args := #[.bool false]) (fun w hC => (by simp only [execOp, resolve, List.map_toArray, List.map_cons, List.map_nil, hE.get 56 rfl]; go_simp)) (fun w hC => (by obtain ⟨n, rfl⟩ := hC; exact Calls.quiet_of_same (bool2w_any false _))) ?_
 intro a hE
 refine qv_run (v := .int .u64 q) hE rfl rfl (by decide) (fun w hC => (ei_or (hE.get 52 rfl) (hE.get 57 rfl) s6)) ?_
 intro a hE
 refine qv_run hE rfl rfl (by decide) (fun w hC => (ex_as (hE.get 58 rfl))) ?_
 intro a hE
 refine wpQuiet_nil ?_
 intro w' hw
 show Code.wp _ _ _ _ _
 refine wp_ret ?_
 exact ret_of_ev hE rfl (hE.get 4 rfl) ⟨rfl, hw⟩
end Go.Proofs.YtfonjeoiallhhaaGreatDoor
/- strconv.prescale at 3 and 4. -/
set_option maxRecDepth 100000
namespace Go.Proofs.YtfonjeoiallhhaaGreatDoor
open Go.RowKit
theorem st_u64 (n : Int) : St 25 (.int .u64 n) := by intro w q u hc hf; simp only [Instr.storeAt, Instr.sureAddr]; go_simp
theorem al_sc : Al 179 #[.int .u64 0, .int .u64 0, .int .i64 0] := by intro w; go_simp
theorem fa_pm3_0 : Fa 193 0 7 702 702 := by intro w; go_simp
theorem fa_pm3_1 : Fa 193 1 7 702 703 := by intro w; go_simp
theorem fa_pm4_0 : Fa 193 0 7 704 704 := by intro w; go_simp
theorem fa_pm4_1 : Fa 193 1 7 704 705 := by intro w; go_simp
/-- The tables' entries. -/
structure PmTab (w : World) : Prop where
 h3 : w.cell? ⟨7, 702, none⟩ = some (.int .u64 (18014398509481984000 : Nat))
 l3 : w.cell? ⟨7, 703, none⟩ = some (.int .u64 (0 : Nat))
 h4 : w.cell? ⟨7, 704, none⟩ = some (.int .u64 (11258999068426240000 : Nat))
 l4 : w.cell? ⟨7, 705, none⟩ = some (.int .u64 (0 : Nat))
theorem prescale3 (g : Nat) (e lp : Int) (he : -100 ≤ e ∧ e ≤ 100) (hlp : 0 ≤ lp ∧ lp ≤ 100) (w : World) (hT : ∀ w', Only (fun x => x = g) w w' → PmTab w') (hg : w.heap[g]? = some (.cells #[.int .u64 0, .int .u64 0, .int .i64 0] 179 (0, 0))) :
  Calls Tryz.prog 105 #[pt g 0, .int .i64 e, .int .i64 3, .int .i64 lp] w fun x w' => x = .returned (.tuple #[]) ∧ w'.heap[g]? = some (.cells #[.int .u64 (18014398509481984000 : Nat), .int .u64 (0 : Nat), .int .i64 (-(e + lp + 3))] 179 (0, 0)) ∧ Only (fun x => x = g) w w' := by
 have hP := hT w (Only.refl _ _)
 refine calls_of_ev Tryz.func105 rfl (show 4 ≤ 32 from by decide) ?_
 intro a hE
 have hE : Ev 32 ((0, pt g 0) :: (1, .int .i64 e) :: (2, .int .i64 3) :: (3, .int .i64 lp) :: []) a := hE
 refine wp_seq ?_
 refine wp_region_lit ?_
 refine ev_r (w' := w) hE (ex_mv (hE.get 0 rfl)) fun a hE => ?_
 refine ev_r (w' := w) hE (ex_mv (hE.get 2 rfl)) fun a hE => ?_
 refine ev_r (v := .int .i64 351) (w' := w) hE (ei_sub (hE.get 9 rfl) rfl (by decide)) fun a hE => ?_
 refine ev_r (v := pt 7 702) (w' := w) hE (by simp only [execOp, hE.get 10 rfl]; go_simp) fun a hE => ?_
 refine ev_fa hE (hE.get 11 rfl) fa_pm3_0 (by decide) ?_
 intro a hE
 refine ev_ld hE (hE.get 12 rfl) ld_u64 hP.h3 (by decide) ?_
 intro a hE
 refine ev_nc hE (hE.get 8 rfl) (by decide) ?_
 intro a hE
 refine ev_r (w' := w) hE (ex_fa (hE.get 14 rfl) (fa_sc_0 _)) fun a hE => ?_
 refine ev_sc (v := .int .u64 (18014398509481984000 : Nat)) hE (st_u64 _) (hE.get 15 rfl) (hE.get 13 rfl) hg (show 0 < 3 from by decide) ?_
 intro w1 hg ho1
 have hg : w1.heap[g]? = some (.cells #[.int .u64 (18014398509481984000 : Nat), .int .u64 0, .int .i64 0] 179 (0, 0)) := hg
 have hP := hT w1 ho1
 refine nx3 ?_
 refine ev_r (w' := w1) hE (ex_mv (hE.get 0 rfl)) fun a hE => ?_
 refine ev_r (w' := w1) hE (ex_mv (hE.get 2 rfl)) fun a hE => ?_
 refine ev_r (v := .int .i64 351) (w' := w1) hE (ei_sub (hE.get 17 rfl) rfl (by decide)) fun a hE => ?_
 refine ev_r (v := pt 7 702) (w' := w1) hE (by simp only [execOp, hE.get 18 rfl]; go_simp) fun a hE => ?_
 refine ev_fa hE (hE.get 19 rfl) fa_pm3_1 (by decide) ?_
 intro a hE
 refine ev_ld hE (hE.get 20 rfl) ld_u64 hP.l3 (by decide) ?_
 intro a hE
 refine ev_nc hE (hE.get 16 rfl) (by decide) ?_
 intro a hE
 refine ev_r (w' := w1) hE (ex_fa (hE.get 22 rfl) (fa_sc_1 _)) fun a hE => ?_
 refine ev_sc (v := .int .u64 (0 : Nat)) hE (st_u64 _) (hE.get 23 rfl) (hE.get 21 rfl) hg (show 1 < 3 from by decide) ?_
 intro w2 hg ho2
 have hg : w2.heap[g]? = some (.cells #[.int .u64 (18014398509481984000 : Nat), .int .u64 (0 : Nat), .int .i64 0] 179 (0, 0)) := hg
 refine nx1 ?_
 refine wp_region_lit ?_
 refine ev_r (w' := w2) hE (ex_mv (hE.get 0 rfl)) fun a hE => ?_
 refine ev_r (w' := w2) hE (ex_mv (hE.get 1 rfl)) fun a hE => ?_
 refine ev_r (w' := w2) hE (ex_mv (hE.get 3 rfl)) fun a hE => ?_
 refine ev_r (v := .int .i64 (e + lp)) (w' := w2) hE (ei_add (hE.get 25 rfl) (hE.get 26 rfl) (by rw [IntKind.wrap_i64]; omega)) fun a hE => ?_
 refine ev_r (v := .int .i64 (e + lp + 3)) (w' := w2) hE (ei_add (hE.get 27 rfl) rfl (by rw [IntKind.wrap_i64]; omega)) fun a hE => ?_
 refine ev_r (v := .int .i64 (-(e + lp + 3))) (w' := w2) hE (ei_neg (hE.get 28 rfl) (by rw [IntKind.wrap_i64]; omega)) fun a hE => ?_
 refine ev_nc hE (hE.get 24 rfl) (by decide) ?_
 intro a hE
 refine ev_r (w' := w2) hE (ex_fa (hE.get 30 rfl) (fa_sc_2 _)) fun a hE => ?_
 refine ev_sc (v := .int .i64 (-(e + lp + 3))) hE (st_int _) (hE.get 31 rfl) (hE.get 29 rfl) hg (show 2 < 3 from by decide) ?_
 intro w3 hg ho3
 refine wpList_nil ?_
 exact end_ev hE rfl ⟨rfl, hg, ((ho1.trans ho2).trans ho3).mono fun x _ h => by rcases h with (h | h) | h <;> exact h⟩
theorem prescale4 (g : Nat) (e lp : Int) (he : -100 ≤ e ∧ e ≤ 100) (hlp : 0 ≤ lp ∧ lp ≤ 100) (w : World) (hT : ∀ w', Only (fun x => x = g) w w' → PmTab w') (hg : w.heap[g]? = some (.cells #[.int .u64 0, .int .u64 0, .int .i64 0] 179 (0, 0))) :
  Calls Tryz.prog 105 #[pt g 0, .int .i64 e, .int .i64 4, .int .i64 lp] w fun x w' => x = .returned (.tuple #[]) ∧ w'.heap[g]? = some (.cells #[.int .u64 (11258999068426240000 : Nat), .int .u64 (0 : Nat), .int .i64 (-(e + lp + 3))] 179 (0, 0)) ∧ Only (fun x => x = g) w w' := by
 have hP := hT w (Only.refl _ _)
 refine calls_of_ev Tryz.func105 rfl (show 4 ≤ 32 from by decide) ?_
 intro a hE
 have hE : Ev 32 ((0, pt g 0) :: (1, .int .i64 e) :: (2, .int .i64 4) :: (3, .int .i64 lp) :: []) a := hE
 refine wp_seq ?_
 refine wp_region_lit ?_
 refine ev_r (w' := w) hE (ex_mv (hE.get 0 rfl)) fun a hE => ?_
 refine ev_r (w' := w) hE (ex_mv (hE.get 2 rfl)) fun a hE => ?_
 refine ev_r (v := .int .i64 352) (w' := w) hE (ei_sub (hE.get 9 rfl) rfl (by decide)) fun a hE => ?_
 refine ev_r (v := pt 7 704) (w' := w) hE (by simp only [execOp, hE.get 10 rfl]; go_simp) fun a hE => ?_
 refine ev_fa hE (hE.get 11 rfl) fa_pm4_0 (by decide) ?_
 intro a hE
 refine ev_ld hE (hE.get 12 rfl) ld_u64 hP.h4 (by decide) ?_
 intro a hE
 refine ev_nc hE (hE.get 8 rfl) (by decide) ?_
 intro a hE
 refine ev_r (w' := w) hE (ex_fa (hE.get 14 rfl) (fa_sc_0 _)) fun a hE => ?_
 refine ev_sc (v := .int .u64 (11258999068426240000 : Nat)) hE (st_u64 _) (hE.get 15 rfl) (hE.get 13 rfl) hg (show 0 < 3 from by decide) ?_
 intro w1 hg ho1
 have hg : w1.heap[g]? = some (.cells #[.int .u64 (11258999068426240000 : Nat), .int .u64 0, .int .i64 0] 179 (0, 0)) := hg
 have hP := hT w1 ho1
 refine nx3 ?_
 refine ev_r (w' := w1) hE (ex_mv (hE.get 0 rfl)) fun a hE => ?_
 refine ev_r (w' := w1) hE (ex_mv (hE.get 2 rfl)) fun a hE => ?_
 refine ev_r (v := .int .i64 352) (w' := w1) hE (ei_sub (hE.get 17 rfl) rfl (by decide)) fun a hE => ?_
 refine ev_r (v := pt 7 704) (w' := w1) hE (by simp only [execOp, hE.get 18 rfl]; go_simp) fun a hE => ?_
 refine ev_fa hE (hE.get 19 rfl) fa_pm4_1 (by decide) ?_
 intro a hE
 refine ev_ld hE (hE.get 20 rfl) ld_u64 hP.l4 (by decide) ?_
 intro a hE
 refine ev_nc hE (hE.get 16 rfl) (by decide) ?_
 intro a hE
 refine ev_r (w' := w1) hE (ex_fa (hE.get 22 rfl) (fa_sc_1 _)) fun a hE => ?_
 refine ev_sc (v := .int .u64 (0 : Nat)) hE (st_u64 _) (hE.get 23 rfl) (hE.get 21 rfl) hg (show 1 < 3 from by decide) ?_
 intro w2 hg ho2
 have hg : w2.heap[g]? = some (.cells #[.int .u64 (11258999068426240000 : Nat), .int .u64 (0 : Nat), .int .i64 0] 179 (0, 0)) := hg
 refine nx1 ?_
 refine wp_region_lit ?_
 refine ev_r (w' := w2) hE (ex_mv (hE.get 0 rfl)) fun a hE => ?_
 refine ev_r (w' := w2) hE (ex_mv (hE.get 1 rfl)) fun a hE => ?_
 refine ev_r (w' := w2) hE (ex_mv (hE.get 3 rfl)) fun a hE => ?_
 refine ev_r (v := .int .i64 (e + lp)) (w' := w2) hE (ei_add (hE.get 25 rfl) (hE.get 26 rfl) (by rw [IntKind.wrap_i64]; omega)) fun a hE => ?_
 refine ev_r (v := .int .i64 (e + lp + 3)) (w' := w2) hE (ei_add (hE.get 27 rfl) rfl (by rw [IntKind.wrap_i64]; omega)) fun a hE => ?_
 refine ev_r (v := .int .i64 (-(e + lp + 3))) (w' := w2) hE (ei_neg (hE.get 28 rfl) (by rw [IntKind.wrap_i64]; omega)) fun a hE => ?_
 refine ev_nc hE (hE.get 24 rfl) (by decide) ?_
 intro a hE
 refine ev_r (w' := w2) hE (ex_fa (hE.get 30 rfl) (fa_sc_2 _)) fun a hE => ?_
 refine ev_sc (v := .int .i64 (-(e + lp + 3))) hE (st_int _) (hE.get 31 rfl) (hE.get 29 rfl) hg (show 2 < 3 from by decide) ?_
 intro w3 hg ho3
 refine wpList_nil ?_
 exact end_ev hE rfl ⟨rfl, hg, ((ho1.trans ho2).trans ho3).mono fun x _ h => by rcases h with (h | h) | h <;> exact h⟩
end Go.Proofs.YtfonjeoiallhhaaGreatDoor
