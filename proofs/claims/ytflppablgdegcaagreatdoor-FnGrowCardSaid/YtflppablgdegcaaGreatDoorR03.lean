/- Joined: Evg, Evs, Sv, Mpw, Wmm, Qv. -/
import Derived.Test.YtflppablgdegcaaGreatDoorR02
import Derived.BigQuiet
import Derived.Shelf.Bits.Mul64
namespace Go.Proofs.YtflppablgdegcaaGreatDoor
open Go.RowKit
theorem beq_dec (x y : List UInt8) : (x == y) = decide (x = y) := by
 by_cases h : x = y <;> simp [h]
section
variable {N : Nat} {l : List (Nat × Value)} {a : Act} {w w' : World} {ops : Array Oper} {rest : List Oper} {o : Oper} {Q : Exit → Act → World → Prop} {d gj gt : Nat} {b b' : Bool} {v : Value} {x y : Operand} {ty : TypeId} {ps : String} {af : Array Edge} {dst : Option Nat} {gd : Option (Nat × Bool)}
theorem yielded_of (hd : (ops[gj]?).bind (·.dst) = some gt) (he : a.eval (.tmp gt) = .bool b') : yielded ops a.tmps gj = some b' := by
 unfold yielded
 rw [hd]
 simp only [Act.eval, Array.getD_eq_getD_getElem?] at he
 cases h : a.tmps[gt]? with
 | none => rw [h] at he; cases he
 | some v =>
  rw [h] at he
  simp only [Option.getD_some] at he
  subst he
  simp [h]
theorem ev_gon (h : Ev N l a) (hg : o.guard = some (gj, b)) (hgd : (ops[gj]?).bind (·.dst) = some gt) (ht : a.eval (.tmp gt) = .bool b) (hd : o.dst = some d) (hdN : d < N) (hr : (execOp a.eval o).run Tryz.prog w = .ok (.value v) w')
  (hK : ∀ a', Ev N ((d, v) :: l) a' → wpList Tryz.prog ops Q rest a' w') : wpList Tryz.prog ops Q (o :: rest) a w := by
 refine wpList_step fun K hK' => ?_
 have hw : Region.wanted o (yielded ops a.tmps) = true := by unfold Region.wanted; rw [hg]; simp [yielded_of hgd ht]
 rw [if_pos hw]
 unfold Oper.wp
 rw [hr]
 refine hK' _ _ ?_
 rw [hd]
 exact hK _ (h.set hdN)
theorem ev_gcall {f : FuncId} {args : Array Value} {S : Value → World → Prop} (h : Ev N l a) (hg : o.guard = some (gj, b)) (hgd : (ops[gj]?).bind (·.dst) = some gt) (ht : a.eval (.tmp gt) = .bool b) (hd : o.dst = some d) (hdN : d < N) (hr : (execOp a.eval o).run Tryz.prog w = .ok (.enter f args) w) (hc : Calls Tryz.prog f args w fun e w' => ∃ v, e = .returned v ∧ S v w')
  (hK : ∀ a' v w', S v w' → Ev N ((d, v) :: l) a' → wpList Tryz.prog ops Q rest a' w') : wpList Tryz.prog ops Q (o :: rest) a w := by
 refine wpList_step fun K hK' => ?_
 have hw : Region.wanted o (yielded ops a.tmps) = true := by unfold Region.wanted; rw [hg]; simp [yielded_of hgd ht]
 rw [if_pos hw]
 unfold Oper.wp
 rw [hr]
 refine Calls.mono hc ?_
 rintro e w' ⟨v, rfl, Z⟩
 refine hK' _ _ ?_
 rw [hd]
 exact hK _ v w' Z (h.set hdN)
theorem ev_goff (h : Ev N l a) (hg : o.guard = some (gj, b)) (hgd : (ops[gj]?).bind (·.dst) = some gt) (ht : a.eval (.tmp gt) = .bool b') (hne : (b' == b) = false) (hd : o.dst = some d) (hdN : d < N)
  (hK : ∀ a', Ev N ((d, undef) :: l) a' → wpList Tryz.prog ops Q rest a' w) : wpList Tryz.prog ops Q (o :: rest) a w := by
 refine wpList_step fun K hK' => ?_
 have hw : Region.wanted o (yielded ops a.tmps) = false := by
  unfold Region.wanted
  rw [hg]
  simp only [yielded_of hgd ht]
  cases b <;> cases b' <;> simp at hne ⊢
 rw [if_neg (by rw [hw]; decide)]
 refine hK' _ _ ?_
 rw [hd]
 exact hK _ (h.set hdN)
theorem ex_ld {T t : Nat} {p : Addr} (hx : a.eval (.tmp t) = .pointer (some p)) (hL : Ld T) (hc : w.cell? p = some v) : (execOp a.eval ⟨dst, .load T (.tmp t), ty, ps, af, gd⟩).run Tryz.prog w = .ok (.value v) w := by
 simp only [execOp, hx]; exact run_andValue (hL w _ _ hc)
theorem ex_lb {T k t g : Nat} {cs : Array Value} {e : TypeId} {fr : Nat × Nat} (hA : Ag T k) (hx : a.eval (.tmp t) = pt g 0) (hg : w.heap[g]? = some (.cells cs e fr)) (hsz : cs.size = k) : (execOp a.eval ⟨dst, .load T (.tmp t), ty, ps, af, gd⟩).run Tryz.prog w = .ok (.value (.agg cs)) w := by
 have hr := run_load_blk (P := Tryz.prog) (w := w) T hA.agg hA.size hg hsz
 simp only [execOp, hx, Instr.loadAt, Instr.sureAddr]
 simp [hr, Result.andThen]
theorem ex_mv {t : Nat} (hx : a.eval (.tmp t) = v) : (execOp a.eval ⟨dst, .move (.tmp t), ty, ps, af, gd⟩).run Tryz.prog w = .ok (.value v) w := by simp only [execOp, hx]; rfl
theorem ex_eqs {T T' : TypeId} {s t : ByteArray} (hx : a.eval x = .string s) (hy : a.eval y = .string t) : (execOp a.eval ⟨dst, .binOp .eql T x y T', ty, ps, af, gd⟩).run Tryz.prog w = .ok (.value (.bool (decide (s.data.toList = t.data.toList)))) w := by
 simp only [execOp, hx, hy]
 show Result.ok (Next.value (Value.bool (s.toList == t.toList))) w = _
 rw [ByteArray.toList_eq, ByteArray.toList_eq, beq_dec]
theorem ex_ne0 {T T' : TypeId} {s : ByteArray} (hx : a.eval x = .string s) : (execOp a.eval ⟨dst, .binOp .neq T x (.const (.string ⟨#[]⟩)) T', ty, ps, af, gd⟩).run Tryz.prog w = .ok (.value (.bool (ne s))) w := by
 have h : (s.toList == (⟨#[]⟩ : ByteArray).toList) = s.data.toList.isEmpty := by
  rw [ByteArray.toList_eq, ByteArray.toList_eq]
  cases s.data.toList <;> rfl
 simp only [execOp, hx]
 show Result.ok (Next.value (Value.bool (!(s.toList == (⟨#[]⟩ : ByteArray).toList)))) w = _
 rw [h]
 rfl
theorem ex_add {T T' : TypeId} {s t : ByteArray} (hx : a.eval x = .string s) (hy : a.eval y = .string t) (hs : s.size + t.size ≤ 9223372036854775807) : (execOp a.eval ⟨dst, .binOp .add T x y T', ty, ps, af, gd⟩).run Tryz.prog w = .ok (.value (.string (s ++ t))) w := by
 have hr := run_string_add_sum (P := Tryz.prog) w s t hs
 simp [execOp, hx, hy, binOp, hr, eqGuard, Result.andThen]
theorem ex_not {T : TypeId} {t : Nat} (hx : a.eval (.tmp t) = .bool b) : (execOp a.eval ⟨dst, .unOp .not T (.tmp t), ty, ps, af, gd⟩).run Tryz.prog w = .ok (.value (.bool (!b))) w := by
 simp only [execOp, hx]; rfl
theorem ex_len {T e : TypeId} {t : Nat} {p : Option Addr} {n c : Nat} (hu : Tryz.prog.underlying T = some (.slice e)) (hx : a.eval (.tmp t) = .slice p n c) : (execOp a.eval ⟨dst, .call { callee := .builtin .len, args := #[.tmp t], argTypes := #[T] }, ty, ps, af, gd⟩).run Tryz.prog w = .ok (.value (.int .i64 n)) w := by
 simp only [execOp, resolve, List.map_toArray, List.map_cons, List.map_nil, hx]
 go_simp
end
theorem hp_below {w w' : World} {g : Nat} {ob : Obj} (h : w.heap[g]? = some ob) (hb : Below w.heap.size w w') : w'.heap[g]? = some ob := by
 rw [hb.block g (Array.getElem?_eq_some_iff.1 h).1]; exact h
section
variable {α : Type} {f : α → List Value} {k : Nat}
theorem flat_get (hf : ∀ x, (f x).length = k) (hk : 0 < k) : ∀ (L : List α) (t : Nat), (flat f L)[t]? = (L[t / k]?).bind fun x => (f x)[t % k]?
 | [], t => by simp [flat]
 | x :: L, t => by
  have e : flat f (x :: L) = f x ++ flat f L := rfl
  rw [e]
  by_cases h : t < k
  ·rw [List.getElem?_append_left (by rw [hf]; exact h), Nat.div_eq_of_lt h, Nat.mod_eq_of_lt h]; rfl
  ·obtain ⟨s, rfl⟩ : ∃ s, t = k + s := ⟨t - k, by omega⟩
   rw [List.getElem?_append_right (by rw [hf]; omega), hf, Nat.add_sub_cancel_left, flat_get hf hk L s, Nat.add_div_left _ hk, Nat.add_mod_left]
   rfl
end
theorem Own.cells_at {α : Type} {f : α → List Value} {e : TypeId} {k : Nat} {w : World} {B g cap : Nat} {L : List α} (hf : ∀ x, (f x).length = k) (hk : 0 < k) (h : Own f e k w B (.slice (some ⟨g, 0, none⟩) L.length cap) L) {i j : Nat} (hi : i < L.length) (hj : j < k) : w.cell? ⟨g, i * k + j, none⟩ = (f (L[i]'hi))[j]? := by
 have hne : L ≠ [] := by intro e; rw [e] at hi; simp at hi
 obtain ⟨g', cap', cur, hv, _, hh, _, ht⟩ := h.form hne
 injection hv with h1 h2 h3
 injection h1 with h1
 injection h1 with h1 _ _
 subst h1
 have hlt : i * k + j < L.length * k := by
  have : (i + 1) * k ≤ L.length * k := Nat.mul_le_mul_right k hi
  rw [Nat.add_mul, Nat.one_mul] at this
  omega
 have h4 : (cur.toList.take (L.length * k))[i * k + j]? = cur.toList[i * k + j]? := List.getElem?_take_of_lt hlt
 have h5 := flat_get hf hk L (i * k + j)
 rw [← ht, h4] at h5
 have h6 : (i * k + j) / k = i := by rw [Nat.mul_comm, Nat.mul_add_div hk, Nat.div_eq_of_lt hj]; rfl
 have h7 : (i * k + j) % k = j := by rw [Nat.mul_comm, Nat.mul_add_mod, Nat.mod_eq_of_lt hj]
 rw [h6, h7, List.getElem?_eq_getElem hi] at h5
 simp only [World.cell?, hh]
 simpa using h5
theorem Own.shape {α : Type} {f : α → List Value} {e : TypeId} {k : Nat} {w : World} {B : Nat} {v : Value} {L : List α} (h : Own f e k w B v L) : ∃ (A : Option Addr) (cap : Nat), v = .slice A L.length cap ∧ (L ≠ [] → ∃ g, A = some ⟨g, 0, none⟩) := by
 rcases h.2 with ⟨rfl, h0⟩ | ⟨g, cap, cur, rfl, _⟩
 ·refine ⟨none, 0, by rw [h0], fun hne => absurd (List.eq_nil_of_length_eq_zero h0) hne⟩
 ·exact ⟨_, cap, rfl, fun _ => ⟨g, rfl⟩⟩
theorem run_load_at {P : Program} {w : World} (t : TypeId) (hagg : ∀ w, (isAgg t).run P w = .ok true w) {k : Nat} (hk : ∀ w, (sizeOf t).run P w = .ok k w) {g o : Nat} {cs : List Value} (hc : ∀ j v, cs[j]? = some v → w.cell? ⟨g, o + j, none⟩ = some v) (hsz : cs.length = k) :
  (loadVar t ⟨g, o, none⟩).run P w = .ok (.agg cs.toArray) w := by
 have := run_loadCells_list (P := P) (w := w) ⟨g, o, none⟩ cs (fun j v hj => by
  have : (⟨g, o, none⟩ : Addr).add j = ⟨g, o + j, none⟩ := by unfold Addr.add; split <;> simp_all
  rw [this]
  exact hc j v hj)
 simp only [hsz] at this
 simp [loadVar, hagg, hk, this]
section
variable {N : Nat} {l : List (Nat × Value)} {a : Act} {w : World} {ops : Array Oper} {rest : List Oper} {Q : Exit → Act → World → Prop} {d d1 d2 : Nat} {ty ty1 ty2 : TypeId} {ps ps1 ps2 : String} {af af1 af2 : Array Edge}
theorem ev_elem {α : Type} {f : α → List Value} {T E k s i B n : Nat} {sv : Value} {L : List α} {x : α} (hA : Ag E k) (hu : Tryz.prog.underlying T = some (.slice E)) (hf : ∀ x, (f x).length = k) (hk : 0 < k) (h : Ev N l a) (ho : Own f E k w B sv L) (hx : L[n]? = some x) (hs : a.eval (.tmp s) = sv) (hi : a.eval (.tmp i) = .int .i64 n) (h1 : d1 < N) (h2 : d2 < N)
  (hK : ∀ a', Ev N ((d2, .agg (f x).toArray) :: l) a' → wpList Tryz.prog ops Q rest a' w) (hfr : (l.all fun p => p.1 != d1) = true) (hne : d1 ≠ d2) :
  wpList Tryz.prog ops Q (⟨some d1, .indexAddr T (.tmp s) (.tmp i), ty1, ps1, af1, none⟩ :: ⟨some d2, .load E (.tmp d1), ty2, ps2, af2, none⟩ :: rest) a w := by
 have hlt : n < L.length := (List.getElem?_eq_some_iff.1 hx).1
 have hne0 : L ≠ [] := by intro e; rw [e] at hlt; simp at hlt
 obtain ⟨A, cap, hsv, hA0⟩ := ho.shape
 obtain ⟨g, rfl⟩ := hA0 hne0
 rw [hsv] at ho hs
 have hltI : (n : Int) < L.length := by omega
 have hun := run_underlying (P := Tryz.prog) hu
 refine ev_run (v := .pointer (some ⟨g, n * k, none⟩)) (w' := w) h rfl rfl h1 ?_ ?_
 ·simp only [execOp, hs, hi]
  refine run_andValue ?_
  have hz := hA.size
  have hadd : (⟨g, 0, none⟩ : Addr).add (n * k) = ⟨g, n * k, none⟩ := by unfold Addr.add; split <;> simp_all
  simp [Instr.indexAt, asIntOf, hun, hlt, hz, hadd]
 ·intro a' h'
  refine ev_run (v := .agg (f x).toArray) (w' := w) h' rfl rfl h2 ?_ ?_
  ·have hr := run_load_at (P := Tryz.prog) (w := w) E hA.agg hA.size (g := g) (o := n * k) (cs := f x) (fun j v hj => by
    have hjk : j < k := by
     have := (List.getElem?_eq_some_iff.1 hj).1
     rw [hf] at this
     exact this
    rw [ho.cells_at hf hk hlt hjk]
    rw [List.getElem?_eq_getElem hlt] at hx
    rw [Option.some.inj hx]
    exact hj) (hf _)
   have e1 := h'.get d1 look_eq
   simp only [execOp, e1, Instr.loadAt, Instr.sureAddr]
   simp [hr, Result.andThen]
  ·intro a2 h2'
   refine hK a2 (h2'.weaken fun t v ht => ?_)
   by_cases e : t = d2
   ·subst e; rw [look_eq] at ht ⊢; exact ht
   ·rw [look_ne e] at ht ⊢
    rw [List.all_eq_true] at hfr
    have := hfr _ (look_mem ht)
    rw [look_ne (by simpa using this)]
    exact ht
theorem ev_box {T t : Nat} {cs : Array Value} (h : Ev N l a) (hx : a.eval (.tmp t) = .agg cs) (hB : ∀ w : World, (Instr.box T (.agg cs)).run Tryz.prog w = .ok (pt w.heap.size 0) (w.alloc (.cells cs T))) (hd : d < N)
  (hK : ∀ a' w', Ev N ((d, pt w.heap.size 0) :: l) a' → w'.heap[w.heap.size]? = some (.cells cs T (0, 0)) → Below w.heap.size w w' → w'.heap.size = w.heap.size + 1 → wpList Tryz.prog ops Q rest a' w') :
  wpList Tryz.prog ops Q (⟨some d, .box T (.tmp t), ty, ps, af, none⟩ :: rest) a w := by
 refine ev_run (v := pt w.heap.size 0) (w' := w.alloc (.cells cs T)) h rfl rfl hd ?_ ?_
 ·simp only [execOp, hx]
  exact run_andValue'' (hB w)
 ·intro a' h'
  exact hK a' _ h' (heap_alloc_new _ _) ((Below.refl _ _).alloc (Nat.le_refl _) _) (by simp)
end
def cA : Code → Code | .seq x _ => x | .cond _ x _ => x | .block _ x => x | .loop x => x | c => c
def cB : Code → Code | .seq _ y => y | .cond _ _ y => y | c => c
def e8 (t : Nat) : Nat := (floatBits .quo .f64 (floatOfInt .f64 (t : Int)) 4620693217682128896).getD 0
structure TyOnly (ts : List TypeId) (w w' : World) : Prop where
 os : w'.os = w.os
 tape : w'.tape = w.tape
 output : w'.output = w.output
 size : w.heap.size ≤ w'.heap.size
 cells : ∀ (g : Nat) (cs : Array Value) (e : TypeId) (fr : Nat × Nat), w.heap[g]? = some (Obj.cells cs e fr) → e ∉ ts → w'.heap[g]? = some (Obj.cells cs e fr)
section
variable {w w' w'' : World} {ts : List TypeId}
theorem TyOnly.refl (ts : List TypeId) (w : World) : TyOnly ts w w := ⟨rfl, rfl, rfl, Nat.le_refl _, fun _ _ _ _ h _ => h⟩
theorem TyOnly.of_below (h : Below w.heap.size w w') : TyOnly ts w w' := ⟨h.os, h.tape, h.output, h.size, fun g cs e fr hg _ => by rw [h.block g (Array.getElem?_eq_some_iff.1 hg).1]; exact hg⟩
theorem TyOnly.trans (h : TyOnly ts w w') (k : TyOnly ts w' w'') : TyOnly ts w w'' :=
 ⟨k.os.trans h.os, k.tape.trans h.tape, k.output.trans h.output, Nat.le_trans h.size k.size, fun g cs e fr hg he => k.cells g cs e fr (h.cells g cs e fr hg he) he⟩
theorem TyOnly.mono {ts' : List TypeId} (h : TyOnly ts w w') (hs : ∀ t ∈ ts, t ∈ ts') : TyOnly ts' w w' :=
 ⟨h.os, h.tape, h.output, h.size, fun g cs e fr hg he => h.cells g cs e fr hg fun hm => he (hs e hm)⟩
theorem TyOnly.keep (h : TyOnly ts w w') {g : Nat} {cs : Array Value} {t : TypeId} {fr : Nat × Nat} (hg : w.heap[g]? = some (.cells cs t fr)) (ht : (ts.all fun u => u != t) = true) : w'.heap[g]? = some (.cells cs t fr) := by
 refine h.cells g cs t fr hg fun hm => ?_
 rw [List.all_eq_true] at ht
 have := ht _ hm
 simp at this
theorem TyOnly.own (h : TyOnly ts w w') {α : Type} {f : α → List Value} {e : TypeId} {k B : Nat} {v : Value} {L : List α} (ho : Own f e k w B v L) (he : (ts.all fun u => u != e) = true) : Own f e k w' B v L := by
 refine ho.at_heap fun g hg => ?_
 obtain ⟨cur, hc⟩ := ho.elem g hg
 rw [h.keep hc he, hc]
theorem TyOnly.of_only {M : Nat → Prop} (h : Only M w w') (hM : ∀ (g : Nat) (cs : Array Value) (e : TypeId) (fr : Nat × Nat), M g → w.heap[g]? = some (Obj.cells cs e fr) → e ∈ ts) : TyOnly ts w w' :=
 ⟨h.os, h.tape, h.output, h.size, fun g cs e fr hg he => by rw [h.block g (Array.getElem?_eq_some_iff.1 hg).1 fun hm => he (hM g cs e fr hm hg)]; exact hg⟩
theorem TyOnly.of_set {g : Nat} {cs : Array Value} {e : TypeId} {fr : Nat × Nat} (h : Only (fun g' => g' = g) w w') (hg : w.heap[g]? = some (.cells cs e fr)) : TyOnly [e] w w' := .of_only h fun g' cs' e' fr' e1 h1 => by
 subst e1
 rw [hg] at h1
 injection h1 with h1
 injection h1 with _ h2 _
 simp [h2]
end
structure Bk where
 g : Nat
 cs : Array Value
 t : TypeId
 o : Bool := true
theorem look_filter (ks : List Nat) (t : Nat) (v : Value) : ∀ l : List (Nat × Value), (l.filter fun q => ks.contains q.1).lookup t = some v → l.lookup t = some v
 | [], h => h
 | (k, u) :: r, h => by
  by_cases e : t = k
  ·subst e
   rw [look_eq]
   by_cases c : ks.contains t = true
   ·rw [List.filter_cons_of_pos (by simpa using c), look_eq] at h; exact h
   ·rw [List.filter_cons_of_neg (by simpa using c)] at h
    have : ∀ l : List (Nat × Value), (l.filter fun q => ks.contains q.1).lookup t = none := by
     intro l
     induction l with
     | nil => rfl
     | cons q r ih =>
      obtain ⟨k, u⟩ := q
      by_cases c2 : ks.contains k = true
      ·rw [List.filter_cons_of_pos (by simpa using c2), look_ne (fun e => c (by rw [e]; exact c2))]; exact ih
      ·rw [List.filter_cons_of_neg (by simpa using c2)]; exact ih
    rw [this] at h; cases h
  ·rw [look_ne e]
   by_cases c : ks.contains k = true
   ·rw [List.filter_cons_of_pos (by simpa using c), look_ne e] at h; exact look_filter ks t v r h
   ·rw [List.filter_cons_of_neg (by simpa using c)] at h; exact look_filter ks t v r h
structure Sv (N : Nat) (l : List (Nat × Value)) (m : List Bk) (M : Nat → Prop) (w0 : World) (a : Act) (w : World) : Prop where
 ev : Ev N l a
 hp : ∀ b ∈ m, w.heap[b.g]? = some (.cells b.cs b.t (0, 0))
 nd : m.Pairwise fun b c => b.g ≠ c.g
 wr : ∀ b ∈ m, b.o = true → M b.g ∨ w0.heap.size ≤ b.g
 only : Only M w0 w
section
variable {N : Nat} {l l' : List (Nat × Value)} {m : List Bk} {M : Nat → Prop} {w0 w w' : World} {a a' : Act}
theorem Sv.start (h : Ev N l a) (M : Nat → Prop) (w : World) : Sv N l [] M w a w := ⟨h, (by simp), List.Pairwise.nil, (by simp), Only.refl _ _⟩
theorem Sv.at (h : Sv N l m M w0 a w) (i : Nat) {b : Bk} (hi : m[i]? = some b) : w.heap[b.g]? = some (.cells b.cs b.t (0, 0)) := h.hp b (List.mem_of_getElem? hi)
theorem Sv.get (h : Sv N l m M w0 a w) (t : Nat) {v : Value} (hl : l.lookup t = some v) : a.eval (.tmp t) = v := h.ev.look t v hl
theorem Sv.lt (h : Sv N l m M w0 a w) : ∀ b ∈ m, b.g < w.heap.size := fun b hb => (Array.getElem?_eq_some_iff.1 (h.hp b hb)).1
theorem Sv.size (h : Sv N l m M w0 a w) : w0.heap.size ≤ w.heap.size := h.only.size
theorem Sv.slot (h : Sv N l m M w0 a w) (hE : Ev N l' a') : Sv N l' m M w0 a' w := ⟨hE, h.hp, h.nd, h.wr, h.only⟩
theorem Sv.pick (h : Sv N l m M w0 a w) (hs : (l'.map fun p => l.lookup p.1) = l'.map fun p => some p.2) : Sv N l' m M w0 a w := h.slot (h.ev.pick hs)
theorem Sv.cut (h : Sv N l m M w0 a w) (ks : List Nat) : Sv N (l.filter fun q => ks.contains q.1) m M w0 a w := h.slot ⟨h.ev.size, h.ev.defers, fun t v hv => h.ev.look t v (look_filter ks t v l hv)⟩
theorem Sv.know (h : Sv N l m M w0 a w) {t : Nat} {v : Value} (e : a.eval (.tmp t) = v) : Sv N ((t, v) :: l) m M w0 a w := h.slot ⟨h.ev.size, h.ev.defers, fun k u hk => by
 by_cases c : k = t
 ·subst c; rw [look_eq] at hk; exact e.trans (Option.some.inj hk)
 ·rw [look_ne c] at hk; exact h.ev.look k u hk⟩
def maskB : List Bool → List Bk → List Bk
 | true :: p, b :: r => b :: maskB p r
 | false :: p, _ :: r => maskB p r
 | _, _ => []
theorem maskB_sub : ∀ (p : List Bool) (m : List Bk), (maskB p m).Sublist m
 | true :: p, b :: r => List.Sublist.cons_cons b (maskB_sub p r)
 | false :: p, b :: r => List.Sublist.cons b (maskB_sub p r)
 | [], m => List.nil_sublist m
 | true :: _, [] => List.nil_sublist _
 | false :: _, [] => List.nil_sublist _
theorem Sv.mask (h : Sv N l m M w0 a w) (p : List Bool) : Sv N l (maskB p m) M w0 a w :=
 ⟨h.ev, fun b hb => h.hp b ((maskB_sub p m).subset hb), h.nd.sublist (maskB_sub p m), fun b hb => h.wr b ((maskB_sub p m).subset hb), h.only⟩
theorem Sv.addB (h : Sv N l m M w0 a w) {g : Nat} {cs : Array Value} {t : TypeId} (hg : w.heap[g]? = some (.cells cs t (0, 0))) (hne : ∀ b ∈ m, b.g ≠ g) {o : Bool} (hw : o = true → M g ∨ w0.heap.size ≤ g) : Sv N l (⟨g, cs, t, o⟩ :: m) M w0 a w := by
 refine ⟨h.ev, ?_, List.Pairwise.cons (fun b hb e => hne b hb e.symm) h.nd, ?_, h.only⟩
 ·intro b hb
  rcases List.mem_cons.1 hb with rfl | hb
  ·exact hg
  ·exact h.hp b hb
 ·intro b hb
  rcases List.mem_cons.1 hb with rfl | hb
  ·exact hw
  ·exact h.wr b hb
theorem Sv.neT (h : Sv N l m M w0 a w) {g : Nat} {cs : Array Value} {t : TypeId} (hg : w.heap[g]? = some (.cells cs t (0, 0))) (ht : (m.all fun b => b.t != t) = true) : ∀ b ∈ m, b.g ≠ g := by
 intro b hb e
 have h1 := h.hp b hb
 rw [e, hg] at h1
 rw [List.all_eq_true] at ht
 have := ht b hb
 injection h1 with h1
 injection h1 with _ h2 _
 rw [← h2] at this
 simp at this
theorem Sv.old (h : Sv N l m M w0 a w) {g : Nat} {ob : Obj} (hg : w0.heap[g]? = some ob) (hM : ¬ M g) : w.heap[g]? = some ob := by
 rw [h.only.block g (Array.getElem?_eq_some_iff.1 hg).1 hM]; exact hg
theorem Sv.go (h : Sv N l m M w0 a w) {X : Nat → Prop} (ho : Only X w w') (hX : ∀ b ∈ m, ¬ X b.g) (hM : ∀ g, X g → g < w0.heap.size → M g) : Sv N l m M w0 a w' :=
 ⟨h.ev, fun b hb => by rw [ho.block b.g (h.lt b hb) (hX b hb)]; exact h.hp b hb, h.nd, h.wr,
  ⟨ho.os.trans h.only.os, ho.tape.trans h.only.tape, ho.output.trans h.only.output, Nat.le_trans h.only.size ho.size, fun g hg hm => by
   rw [ho.block g (Nat.lt_of_lt_of_le hg h.only.size) (fun hx => hm (hM g hx hg))]
   exact h.only.block g hg hm⟩⟩
theorem Sv.below (h : Sv N l m M w0 a w) (hb : Below w.heap.size w w') : Sv N l m M w0 a w' :=
 h.go (X := fun _ => False) (Only.of_below hb) (fun _ _ h => h.elim) (fun _ h => h.elim)
theorem Sv.addN (h : Sv N l m M w0 a w') {s g : Nat} {cs : Array Value} {t : TypeId} (hg : w'.heap[g]? = some (.cells cs t (0, 0))) (hlt : ∀ b ∈ m, b.g < s) (hs : s ≤ g) (h0 : w0.heap.size ≤ s) : Sv N l (⟨g, cs, t, true⟩ :: m) M w0 a w' :=
 h.addB hg (fun b hb e => by have := hlt b hb; omega) (fun _ => .inr (by omega))
theorem Sv.addR (h : Sv N l m M w0 a w) {g : Nat} {cs : Array Value} {t : TypeId} (hg : w.heap[g]? = some (.cells cs t (0, 0))) (hne : ∀ b ∈ m, b.g ≠ g) : Sv N l (⟨g, cs, t, false⟩ :: m) M w0 a w := h.addB hg hne (fun e => by cases e)
theorem Sv.rebase (h : Sv N l m M w0 a w) : Sv N l m (fun g => ∃ b ∈ m, b.g = g) w a w := ⟨h.ev, h.hp, h.nd, fun b hb _ => .inl ⟨b, hb, rfl⟩, Only.refl _ _⟩
theorem Sv.toBelow (h : Sv N l m (fun _ => False) w0 a w) : Below w0.heap.size w0 w := h.only.below (Nat.le_refl _) fun _ _ h => h
end
def setV : List Bk → Nat → Bk → Option (List Bk)
 | [], _, _ => some []
 | _ :: r, 0, b => some (b :: r)
 | a :: r, n + 1, b => match setV r n b with | some x => some (a :: x) | none => none
theorem setV_ok : ∀ {m : List Bk} {n : Nat} {b : Bk} {m' : List Bk}, setV m n b = some m' → m.set n b = m'
 | [], _, _, _, h => by cases h; rfl
 | _ :: _, 0, _, _, h => by cases h; rfl
 | a :: r, n + 1, b, m', h => by
  unfold setV at h
  split at h
  ·rename_i x hx
   cases h
   rw [List.set_cons_succ, setV_ok hx]
  ·cases h
def maskV : List Bool → List Bk → Option (List Bk)
 | true :: p, b :: r => match maskV p r with | some x => some (b :: x) | none => none
 | false :: p, _ :: r => maskV p r
 | _, _ => some []
theorem maskV_ok : ∀ {p : List Bool} {m m' : List Bk}, maskV p m = some m' → maskB p m = m'
 | true :: p, b :: r, m', h => by
  unfold maskV at h
  split at h
  ·rename_i x hx
   cases h
   unfold maskB; rw [maskV_ok hx]
  ·cases h
 | false :: p, _ :: r, m', h => by unfold maskV at h; unfold maskB; exact maskV_ok h
 | [], _, _, h => by cases h; rfl
 | true :: _, [], _, h => by cases h; rfl
 | false :: _, [], _, h => by cases h; rfl
theorem Sv.mz {N : Nat} {l : List (Nat × Value)} {m m' : List Bk} {M : Nat → Prop} {w0 w : World} {a : Act} (h : Sv N l m M w0 a w) (p : List Bool) (e : maskV p m = some m') : Sv N l m' M w0 a w := by
 have := maskV_ok e
 subst this
 exact h.mask p
section
variable {N : Nat} {l : List (Nat × Value)} {m : List Bk} {M : Nat → Prop} {w0 w w' : World} {a : Act} {ops : Array Oper} {rest : List Oper} {o : Oper} {Q : Exit → Act → World → Prop} {d : Nat} {v u : Value} {x y : Operand} {ty : TypeId} {ps : String} {af : Array Edge}
theorem sv_run (h : Sv N l m M w0 a w) (hg : o.guard = none) (hd : o.dst = some d) (hdN : d < N) (hr : (execOp a.eval o).run Tryz.prog w = .ok (.value v) w)
  (hK : ∀ a', Sv N ((d, v) :: l) m M w0 a' w → wpList Tryz.prog ops Q rest a' w) : wpList Tryz.prog ops Q (o :: rest) a w :=
 ev_run h.ev hg hd hdN hr fun a' h' => hK a' (h.slot h')
theorem sv_r {p : Op} (h : Sv N l m M w0 a w) (hr : (execOp a.eval ⟨some d, p, ty, ps, af, none⟩).run Tryz.prog w = .ok (.value v) w) (hK : ∀ a', Sv N ((d, v) :: l) m M w0 a' w → wpList Tryz.prog ops Q rest a' w) (hdN : d < N := by decide) : wpList Tryz.prog ops Q (⟨some d, p, ty, ps, af, none⟩ :: rest) a w := sv_run h rfl rfl hdN hr hK
theorem sv_st {T t g j i : Nat} {cs cs' : Array Value} {e : TypeId} {m' : List Bk} (h : Sv N l m M w0 a w) (Z : St T v) (hx : a.eval (.tmp t) = pt g j) (hy : a.eval y = v) (hb : m[i]? = some ⟨g, cs, e, true⟩) (hj : j < cs.size) (hm : setV m i ⟨g, cs', e, true⟩ = some m') (hc : cs.setIfInBounds j v = cs')
  (hK : ∀ w', TyOnly [e] w w' → Sv N l m' M w0 a w' → wpList Tryz.prog ops Q rest a w') :
  wpList Tryz.prog ops Q (⟨none, .store T (.tmp t) y, ty, ps, af, none⟩ :: rest) a w := by
 have hm := setV_ok hm
 subst hm hc
 refine ev_sc h.ev Z hx hy (h.at i hb) hj fun w' hg' ho => hK w' (.of_set ho (h.at i hb)) ?_
 have hmem : ∀ b ∈ m.set i ⟨g, cs.setIfInBounds j v, e, true⟩, b = ⟨g, cs.setIfInBounds j v, e, true⟩ ∨ (b ∈ m ∧ b.g ≠ g) := by
  intro b hb'
  obtain ⟨k, hk⟩ := List.mem_iff_getElem?.1 hb'
  rw [List.getElem?_set] at hk
  split at hk
  ·split at hk
   ·left; exact (Option.some.inj hk).symm
   ·cases hk
  ·rename_i hne
   right
   refine ⟨List.mem_of_getElem? hk, ?_⟩
   have := List.pairwise_iff_getElem.1 h.nd
   obtain ⟨hi1, hi2⟩ := List.getElem?_eq_some_iff.1 hb
   obtain ⟨hk1, hk2⟩ := List.getElem?_eq_some_iff.1 hk
   rcases Nat.lt_or_ge i k with hlt | hge
   ·have := this i k hi1 hk1 hlt
    rw [hi2, hk2] at this
    exact fun e => this e.symm
   ·have := this k i hk1 hi1 (by omega)
    rw [hi2, hk2] at this
    exact this
 have hmap : (m.set i ⟨g, cs.setIfInBounds j v, e, true⟩).map Bk.g = m.map Bk.g := by
  rw [List.map_set]
  apply List.ext_getElem?
  intro k
  rw [List.getElem?_set]
  split
  ·rename_i hik
   subst hik
   rw [List.getElem?_map, hb]
   have := (List.getElem?_eq_some_iff.1 hb).1
   simp [this]
  ·rfl
 refine ⟨h.ev, ?_, ?_, ?_, ?_⟩
 ·intro b hb'
  rcases hmem b hb' with rfl | ⟨h1, h2⟩
  ·exact hg'
  ·rw [ho.block b.g (h.lt b h1) h2]; exact h.hp b h1
 ·have h1 : (m.map Bk.g).Pairwise (· ≠ ·) := List.pairwise_map.2 h.nd
  rw [← hmap] at h1
  exact List.pairwise_map.1 h1
 ·intro b hb'
  rcases hmem b hb' with rfl | ⟨h1, h2⟩
  ·have h3 := h.wr _ (List.mem_of_getElem? hb)
   exact h3
  ·exact h.wr b h1
 ·refine ⟨ho.os.trans h.only.os, ho.tape.trans h.only.tape, ho.output.trans h.only.output, Nat.le_trans h.only.size ho.size, fun g' hg1 hm1 => ?_⟩
  rw [ho.block g' (Nat.lt_of_lt_of_le hg1 h.only.size) ?_]
  ·exact h.only.block g' hg1 hm1
  ·intro e1
   subst e1
   rcases h.wr _ (List.mem_of_getElem? hb) rfl with h2 | h2
   ·exact hm1 h2
   ·exact absurd hg1 (Nat.not_lt.2 h2)
theorem Sv.put {X : Nat → Prop} {g i : Nat} {cs cs' : Array Value} {e : TypeId} {m' : List Bk} (h : Sv N l m M w0 a w) (hb : m[i]? = some ⟨g, cs, e, true⟩) (hm : m.set i ⟨g, cs', e, true⟩ = m') (hg' : w'.heap[g]? = some (.cells cs' e (0, 0))) (ho : Only X w w') (hX : ∀ b ∈ m, b.g ≠ g → ¬ X b.g) (hM : ∀ g', X g' → g' < w0.heap.size → M g') : Sv N l m' M w0 a w' := by
 subst hm
 have hmem : ∀ b ∈ m.set i ⟨g, cs', e, true⟩, b = ⟨g, cs', e, true⟩ ∨ (b ∈ m ∧ b.g ≠ g) := by
  intro b hb'
  obtain ⟨k, hk⟩ := List.mem_iff_getElem?.1 hb'
  rw [List.getElem?_set] at hk
  split at hk
  ·split at hk
   ·left; exact (Option.some.inj hk).symm
   ·cases hk
  ·rename_i hne
   right
   refine ⟨List.mem_of_getElem? hk, ?_⟩
   have := List.pairwise_iff_getElem.1 h.nd
   obtain ⟨hi1, hi2⟩ := List.getElem?_eq_some_iff.1 hb
   obtain ⟨hk1, hk2⟩ := List.getElem?_eq_some_iff.1 hk
   rcases Nat.lt_or_ge i k with hlt | hge
   ·have := this i k hi1 hk1 hlt
    rw [hi2, hk2] at this
    exact fun e => this e.symm
   ·have := this k i hk1 hi1 (by omega)
    rw [hi2, hk2] at this
    exact this
 have hmap : (m.set i ⟨g, cs', e, true⟩).map Bk.g = m.map Bk.g := by
  rw [List.map_set]
  apply List.ext_getElem?
  intro k
  rw [List.getElem?_set]
  split
  ·rename_i hik
   subst hik
   rw [List.getElem?_map, hb]
   have := (List.getElem?_eq_some_iff.1 hb).1
   simp [this]
  ·rfl
 refine ⟨h.ev, ?_, ?_, ?_, ?_⟩
 ·intro b hb'
  rcases hmem b hb' with rfl | ⟨h1, h2⟩
  ·exact hg'
  ·rw [ho.block b.g (h.lt b h1) (hX b h1 h2)]; exact h.hp b h1
 ·have h1 : (m.map Bk.g).Pairwise (· ≠ ·) := List.pairwise_map.2 h.nd
  rw [← hmap] at h1
  exact List.pairwise_map.1 h1
 ·intro b hb'
  rcases hmem b hb' with rfl | ⟨h1, h2⟩
  ·have h3 := h.wr _ (List.mem_of_getElem? hb)
   exact h3
  ·exact h.wr b h1
 ·exact ⟨ho.os.trans h.only.os, ho.tape.trans h.only.tape, ho.output.trans h.only.output, Nat.le_trans h.only.size ho.size, fun g' hg1 hm1 => by
   rw [ho.block g' (Nat.lt_of_lt_of_le hg1 h.only.size) (fun hx => hm1 (hM g' hx hg1))]
   exact h.only.block g' hg1 hm1⟩
theorem sv_sb {T k t s g i : Nat} {cs old : Array Value} {e : TypeId} {m' : List Bk} (h : Sv N l m M w0 a w) (hA : Ag T k) (hx : a.eval (.tmp t) = pt g 0) (hy : a.eval (.tmp s) = .agg cs) (hb : m[i]? = some ⟨g, old, e, true⟩) (hsz : cs.size = k) (hso : old.size = k) (h1 : ∀ u ∈ cs.toList, u.oneCell' = true) (hm : setV m i ⟨g, cs, e, true⟩ = some m')
  (hK : ∀ w', TyOnly [e] w w' → Sv N l m' M w0 a w' → wpList Tryz.prog ops Q rest a w') :
  wpList Tryz.prog ops Q (⟨none, .store T (.tmp t) (.tmp s), ty, ps, af, none⟩ :: rest) a w := by
 have hm := setV_ok hm
 refine ev_sb h.ev hA hx hy (h.at i hb) hsz hso h1 fun w' hg' ho => hK w' (.of_set ho (h.at i hb)) (h.put hb hm hg' ho (fun b _ hne e => hne e) fun g' e1 hlt => ?_)
 subst e1
 rcases h.wr _ (List.mem_of_getElem? hb) rfl with h2 | h2
 ·exact h2
 ·exact absurd hlt (Nat.not_lt.2 h2)
theorem sv_al {T : Nat} {zs : Array Value} (h : Sv N l m M w0 a w) (hA : Al T zs) (hd : d < N)
  (hK : ∀ g a' w', w0.heap.size ≤ g → Below w.heap.size w w' → w.heap.size ≤ g → Sv N ((d, pt g 0) :: l) (⟨g, zs, T, true⟩ :: m) M w0 a' w' → wpList Tryz.prog ops Q rest a' w') :
  wpList Tryz.prog ops Q (⟨some d, .alloc T, ty, ps, af, none⟩ :: rest) a w :=
 ev_al h.ev hA hd fun a' w' h' hg hb _ => hK _ a' w' h.size hb (Nat.le_refl _) (((h.slot h').below hb).addN hg h.lt (Nat.le_refl _) h.size)
def Bx (T : Nat) (cs : Array Value) : Prop := ∀ w : World, (Instr.box T (.agg cs)).run Tryz.prog w = .ok (pt w.heap.size 0) (w.alloc (.cells cs T))
theorem sv_box {T t : Nat} {cs : Array Value} (h : Sv N l m M w0 a w) (hx : a.eval (.tmp t) = .agg cs) (hB : Bx T cs) (hd : d < N)
  (hK : ∀ g a' w', w0.heap.size ≤ g → Below w.heap.size w w' → w.heap.size ≤ g → Sv N ((d, pt g 0) :: l) (⟨g, cs, T, true⟩ :: m) M w0 a' w' → wpList Tryz.prog ops Q rest a' w') :
  wpList Tryz.prog ops Q (⟨some d, .box T (.tmp t), ty, ps, af, none⟩ :: rest) a w :=
 ev_box h.ev hx hB hd fun a' w' h' hg hb _ => hK _ a' w' h.size hb (Nat.le_refl _) (((h.slot h').below hb).addN hg h.lt (Nat.le_refl _) h.size)
theorem sv_new {T : TypeId} {cs : Array Value} (h : Sv N l m M w0 a w) (hg : o.guard = none) (hd : o.dst = some d) (hdN : d < N) (V : Nat → Value) (hr : (execOp a.eval o).run Tryz.prog w = .ok (.value (V w.heap.size)) (w.alloc (.cells cs T)))
  (hK : ∀ g a' w', w0.heap.size ≤ g → Below w.heap.size w w' → w.heap.size ≤ g → Sv N ((d, V g) :: l) (⟨g, cs, T, true⟩ :: m) M w0 a' w' → wpList Tryz.prog ops Q rest a' w') : wpList Tryz.prog ops Q (o :: rest) a w := by
 refine ev_run (v := V w.heap.size) (w' := w.alloc (.cells cs T)) h.ev hg hd hdN hr fun a' h' => ?_
 have hb : Below w.heap.size w (w.alloc (.cells cs T)) := (Below.refl _ _).alloc (Nat.le_refl _) _
 exact hK _ a' _ h.size hb (Nat.le_refl _) (((h.slot h').below hb).addN (heap_alloc_new _ _) h.lt (Nat.le_refl _) h.size)
theorem sv_call {f : FuncId} {args : Array Value} {S : Value → World → Prop} (h : Sv N l m M w0 a w) (hg : o.guard = none) (hd : o.dst = some d) (hdN : d < N) (hr : (execOp a.eval o).run Tryz.prog w = .ok (.enter f args) w) (hc : Calls Tryz.prog f args w fun e w' => ∃ v, e = .returned v ∧ Below w.heap.size w w' ∧ S v w')
  (hK : ∀ a' v w', S v w' → Below w.heap.size w w' → Sv N ((d, v) :: l) m M w0 a' w' → wpList Tryz.prog ops Q rest a' w') : wpList Tryz.prog ops Q (o :: rest) a w :=
 ev_call (S := fun v w' => Below w.heap.size w w' ∧ S v w') h.ev hg hd hdN hr hc fun a' v w' Z h' => hK a' v w' Z.2 Z.1 ((h.slot h').below Z.1)
theorem sv_callv {f : FuncId} {args : Array Value} (h : Sv N l m M w0 a w) (hg : o.guard = none) (hd : o.dst = some d) (hdN : d < N) (hr : (execOp a.eval o).run Tryz.prog w = .ok (.enter f args) w) (hc : Calls Tryz.prog f args w fun e w' => e = .returned v ∧ Below w.heap.size w w')
  (hK : ∀ a' w', Below w.heap.size w w' → Sv N ((d, v) :: l) m M w0 a' w' → wpList Tryz.prog ops Q rest a' w') : wpList Tryz.prog ops Q (o :: rest) a w :=
 sv_call (S := fun u _ => u = v) h hg hd hdN hr (Calls.mono hc fun e w' ⟨he, hb⟩ => ⟨v, he, hb, rfl⟩) fun a' u w' hu hb h' => by subst hu; exact hK a' w' hb h'
theorem sv_callq {f : FuncId} {args : Array Value} (h : Sv N l m M w0 a w) (hg : o.guard = none) (hd : o.dst = some d) (hdN : d < N) (hr : (execOp a.eval o).run Tryz.prog w = .ok (.enter f args) w) (hc : Calls Tryz.prog f args w fun e w' => e = .returned v ∧ w' = w)
  (hK : ∀ a', Sv N ((d, v) :: l) m M w0 a' w → wpList Tryz.prog ops Q rest a' w) : wpList Tryz.prog ops Q (o :: rest) a w :=
 ev_call (S := fun u w' => u = v ∧ w' = w) h.ev hg hd hdN hr (Calls.mono hc fun e w' ⟨he, hb⟩ => ⟨v, he, rfl, hb⟩) fun a' u w' Z h' => by obtain ⟨rfl, rfl⟩ := Z; exact hK a' (h.slot h')
end
def Cf (f : FuncId) : Prop := ∀ args w, (callFunc f args).run Tryz.prog w = .ok (.enter f args) w
def Fo (T k o : Nat) : Prop := ∀ g i w, (Instr.fieldAt T (pt g i) k).run Tryz.prog w = .ok (pt g (i + o)) w
theorem add_block (g i o : Nat) : (⟨g, i, none⟩ : Addr).add o = ⟨g, i + o, none⟩ := by unfold Addr.add; split <;> simp_all
section
variable {a : Act} {w : World} {v : Value} {x y : Operand} {ty : TypeId} {ps : String} {af : Array Edge} {dst : Option Nat} {gd : Option (Nat × Bool)}
theorem ex_fo {T k o g i j t : Nat} (hx : a.eval (.tmp t) = pt g i) (hf : Fo T k o) (hj : i + o = j) : (execOp a.eval ⟨dst, .fieldAddr T (.tmp t) k, ty, ps, af, gd⟩).run Tryz.prog w = .ok (.value (pt g j)) w := by
 subst hj
 simp only [execOp, hx]; exact run_andValue (hf g i w)
theorem ex_nc {t : Nat} {p : Addr} (hx : a.eval (.tmp t) = .pointer (some p)) : (execOp a.eval ⟨dst, .nilCheck (.tmp t), ty, ps, af, gd⟩).run Tryz.prog w = .ok (.value (.pointer (some p))) w := by simp only [execOp, hx]; rfl
theorem ex_as {t : Nat} (hx : a.eval (.tmp t) = v) : (execOp a.eval ⟨dst, .assign (.tmp t), ty, ps, af, gd⟩).run Tryz.prog w = .ok (.value v) w := by simp only [execOp, hx]; rfl
theorem ex_mc : (execOp a.eval ⟨dst, .move (.const v), ty, ps, af, gd⟩).run Tryz.prog w = .ok (.value v) w := by simp only [execOp]; rfl
theorem ex_ac : (execOp a.eval ⟨dst, .assign (.const v), ty, ps, af, gd⟩).run Tryz.prog w = .ok (.value v) w := by simp only [execOp]; rfl
section
variable {f : FuncId} {at1 : Array TypeId} {x1 x2 x3 x4 x5 : Operand} {v1 v2 v3 v4 v5 : Value}
theorem ex_call1 (hf : Cf f) (h1 : a.eval x1 = v1) : (execOp a.eval ⟨dst, .call { callee := .value (.func f), args := #[x1], argTypes := at1 }, ty, ps, af, gd⟩).run Tryz.prog w = .ok (.enter f #[v1]) w := by
 simp only [execOp, resolve, List.map_toArray, List.map_cons, List.map_nil, h1]; go_simp; exact hf _ w
theorem ex_call2 (hf : Cf f) (h1 : a.eval x1 = v1) (h2 : a.eval x2 = v2) : (execOp a.eval ⟨dst, .call { callee := .value (.func f), args := #[x1, x2], argTypes := at1 }, ty, ps, af, gd⟩).run Tryz.prog w = .ok (.enter f #[v1, v2]) w := by
 simp only [execOp, resolve, List.map_toArray, List.map_cons, List.map_nil, h1, h2]; go_simp; exact hf _ w
theorem ex_call3 (hf : Cf f) (h1 : a.eval x1 = v1) (h2 : a.eval x2 = v2) (h3 : a.eval x3 = v3) : (execOp a.eval ⟨dst, .call { callee := .value (.func f), args := #[x1, x2, x3], argTypes := at1 }, ty, ps, af, gd⟩).run Tryz.prog w = .ok (.enter f #[v1, v2, v3]) w := by
 simp only [execOp, resolve, List.map_toArray, List.map_cons, List.map_nil, h1, h2, h3]; go_simp; exact hf _ w
theorem ex_call4 (hf : Cf f) (h1 : a.eval x1 = v1) (h2 : a.eval x2 = v2) (h3 : a.eval x3 = v3) (h4 : a.eval x4 = v4) : (execOp a.eval ⟨dst, .call { callee := .value (.func f), args := #[x1, x2, x3, x4], argTypes := at1 }, ty, ps, af, gd⟩).run Tryz.prog w = .ok (.enter f #[v1, v2, v3, v4]) w := by
 simp only [execOp, resolve, List.map_toArray, List.map_cons, List.map_nil, h1, h2, h3, h4]; go_simp; exact hf _ w
end
def Cv (T T' : Nat) (u v : Value) : Prop := ∀ w, (convert T T' u).run Tryz.prog w = .ok v w
theorem ex_cv {T T' : Nat} {u : Value} (hx : a.eval x = u) (h : Cv T T' u v) : (execOp a.eval ⟨dst, .convert T T' x, ty, ps, af, gd⟩).run Tryz.prog w = .ok (.value v) w := by
 simp only [execOp, hx]; exact run_andValue (h w)
variable {T T' : TypeId} {k k2 : IntKind} {i j z : Int} {b : Bool}
theorem ei_eql (hx : a.eval x = .int k i) (hy : a.eval y = .int k j) (hz : decide (i = j) = b) : (execOp a.eval ⟨dst, .binOp .eql T x y T', ty, ps, af, gd⟩).run Tryz.prog w = .ok (.value (.bool b)) w := by
 simp only [execOp, hx, hy]
 simp [eqGuard, binOp, Op.intCmp, Result.andThen, ← hz]
 try (by_cases h : i = j <;> simp [h])
theorem ei_neq (hx : a.eval x = .int k i) (hy : a.eval y = .int k j) (hz : decide (i ≠ j) = b) : (execOp a.eval ⟨dst, .binOp .neq T x y T', ty, ps, af, gd⟩).run Tryz.prog w = .ok (.value (.bool b)) w := by
 simp only [execOp, hx, hy]
 simp [eqGuard, binOp, Op.intCmp, Result.andThen, ← hz]
 try (by_cases h : i = j <;> simp [h])
theorem ei_rem (hx : a.eval x = .int k i) (hy : a.eval y = .int k j) (hj : j ≠ 0) (hz : i.tmod j = z) : (execOp a.eval ⟨dst, .binOp .rem T x y T', ty, ps, af, gd⟩).run Tryz.prog w = .ok (.value (.int k z)) w := by
 simp only [execOp, hx, hy]
 rw [← hz]
 simp [eqGuard, binOp, Result.andThen, Op.intDiv, hj, hz]
end
theorem if_join {t : Nat} {b : Bool} {c d : Code} {a : Act} {w : World} {Q : Exit → Act → World → Prop} (J : Act → World → Prop) (hc : a.eval (.tmp t) = .bool b)
  (h1 : b = true → ∀ Q' : Exit → Act → World → Prop, (∀ a w, J a w → Q' .normal a w) → c.wp Tryz.prog Q' a w) (h2 : b = false → ∀ Q' : Exit → Act → World → Prop, (∀ a w, J a w → Q' .normal a w) → d.wp Tryz.prog Q' a w) (hK : ∀ a w, J a w → Q .normal a w) : (Code.cond (.tmp t) c d).wp Tryz.prog Q a w := by
 refine wp_cond_split hc (fun hb => ?_) (fun hb => ?_)
 ·exact h1 hb Q hK
 ·exact h2 hb Q hK
section
variable {N : Nat} {l : List (Nat × Value)} {m : List Bk} {M : Nat → Prop} {w0 w : World} {a : Act} {ops : Array Oper}
theorem Sv.g (h : Sv N l m M w0 a w) (t : Nat) {v : Value} (hl : l.lookup t = some v) : a.eval (.tmp t) = v := h.get t hl
def cutV : List Nat → List (Nat × Value) → Option (List (Nat × Value))
 | [], _ => some []
 | k :: ks, l => match l.lookup k with | some v => (match cutV ks l with | some r => some ((k, v) :: r) | none => none) | none => cutV ks l
theorem cutV_ok : ∀ (ks : List Nat) (l l' : List (Nat × Value)), cutV ks l = some l' → ∀ t v, l'.lookup t = some v → l.lookup t = some v
 | [], _, _, h, _, _, hv => by cases h; cases hv
 | k :: ks, l, l', h, t, v, hv => by
  unfold cutV at h
  split at h
  ·rename_i u hu
   split at h
   ·rename_i r hr
    cases h
    by_cases e : t = k
    ·subst e; rw [look_eq] at hv; rw [hu, hv]
    ·rw [look_ne e] at hv; exact cutV_ok ks l r hr t v hv
   ·cases h
  ·exact cutV_ok ks l l' h t v hv
theorem Sv.ct (h : Sv N l m M w0 a w) (ks : List Nat) {l' : List (Nat × Value)} (e : cutV ks l = some l') : Sv N l' m M w0 a w := h.slot ⟨h.ev.size, h.ev.defers, fun t v hv => h.ev.look t v (cutV_ok ks l l' e t v hv)⟩
theorem Sv.nx {P : Program} {Qx : Exit → Act → World → Prop} (h : Sv N l m M w0 a w) (ks : List Nat) {l' : List (Nat × Value)} (e : cutV ks l = some l') (hK : Sv N l' m M w0 a w → Qx .normal a w) : wpList P ops Qx [] a w := wpList_nil (hK (h.ct ks e))
theorem sh {P : Program} {Qx : Exit → Act → World → Prop} {c : Code} (h : c.wp P Qx a w) : c.wp P Qx a w := h
theorem wr {P : Program} {Qx : Exit → Act → World → Prop} {id : Nat} {k : List Oper} {c : Code} (h : wpList P k.toArray (Exit.then (c.wp P Qx) Qx) k a w) : (Code.seq (.region id k.toArray false) c).wp P Qx a w := wp_seq (wp_region_lit h)
end
theorem end_ev {N : Nat} {l : List (Nat × Value)} {fn : Func} {R : Ending → World → Prop} {a : Act} {w : World} (h : Ev N l a) (hr : fn.results = #[]) (hR : R (.returned (.tuple #[])) w) : bodyPost Tryz.prog fn R .normal a w :=
 ⟨h.defers, _, results_none hr _ _ _, hR⟩
theorem ret2_of_ev {N t u : Nat} {l : List (Nat × Value)} {fn : Func} {R : Ending → World → Prop} {a : Act} {w : World} {x y : Value} (h : Ev N l a) (hr : fn.results = #[.tmp t, .tmp u]) (hx : a.eval (.tmp t) = x) (hy : a.eval (.tmp u) = y) (hR : R (.returned (.tuple #[x, y])) w) : bodyPost Tryz.prog fn R .ret a w :=
 bodyPost_ret (results_tmp2 hr _ _ _) h.defers (by have e1 : a.tmps.getD t undef = x := hx; have e2 : a.tmps.getD u undef = y := hy; rw [e1, e2]; exact hR)
section
variable {N : Nat} {l : List (Nat × Value)} {a : Act} {w : World} {ops : Array Oper} {rest : List Oper} {o : Oper} {C : World → Prop} {Q : Act → Prop} {d : Nat} {v : Value}
end
section
variable {a : Act} {w : World} {dst : Option Nat} {T T' ty : TypeId} {ps : String} {af : Array Edge} {gd : Option (Nat × Bool)} {x y : Operand} {k k2 : IntKind} {i j z : Int} {b : Bool}
theorem ei_add (hx : a.eval x = .int k i) (hy : a.eval y = .int k j) (hz : k.wrap (i + j) = z) : (execOp a.eval ⟨dst, .binOp .add T x y T', ty, ps, af, gd⟩).run Tryz.prog w = .ok (.value (.int k z)) w := by
 simp only [execOp, hx, hy]
 simp [eqGuard, binOp, Op.intArith, Result.andThen, hz]
theorem ei_sub (hx : a.eval x = .int k i) (hy : a.eval y = .int k j) (hz : k.wrap (i - j) = z) : (execOp a.eval ⟨dst, .binOp .sub T x y T', ty, ps, af, gd⟩).run Tryz.prog w = .ok (.value (.int k z)) w := by
 simp only [execOp, hx, hy]
 simp [eqGuard, binOp, Op.intArith, Result.andThen, hz]
theorem ei_mul (hx : a.eval x = .int k i) (hy : a.eval y = .int k j) (hz : k.wrap (i * j) = z) : (execOp a.eval ⟨dst, .binOp .mul T x y T', ty, ps, af, gd⟩).run Tryz.prog w = .ok (.value (.int k z)) w := by
 simp only [execOp, hx, hy]
 simp [eqGuard, binOp, Op.intArith, Result.andThen, hz]
theorem ei_lss (hx : a.eval x = .int k i) (hy : a.eval y = .int k j) (hz : decide (i < j) = b) : (execOp a.eval ⟨dst, .binOp .lss T x y T', ty, ps, af, gd⟩).run Tryz.prog w = .ok (.value (.bool b)) w := by
 simp only [execOp, hx, hy]
 simp [eqGuard, binOp, Op.intCmp, Result.andThen, hz]
theorem ei_leq (hx : a.eval x = .int k i) (hy : a.eval y = .int k j) (hz : decide (i ≤ j) = b) : (execOp a.eval ⟨dst, .binOp .leq T x y T', ty, ps, af, gd⟩).run Tryz.prog w = .ok (.value (.bool b)) w := by
 simp only [execOp, hx, hy]
 simp [eqGuard, binOp, Op.intCmp, Result.andThen, hz]
theorem ei_gtr (hx : a.eval x = .int k i) (hy : a.eval y = .int k j) (hz : decide (j < i) = b) : (execOp a.eval ⟨dst, .binOp .gtr T x y T', ty, ps, af, gd⟩).run Tryz.prog w = .ok (.value (.bool b)) w := by
 simp only [execOp, hx, hy]
 simp [eqGuard, binOp, Op.intCmp, Result.andThen, hz]
theorem ei_geq (hx : a.eval x = .int k i) (hy : a.eval y = .int k j) (hz : decide (j ≤ i) = b) : (execOp a.eval ⟨dst, .binOp .geq T x y T', ty, ps, af, gd⟩).run Tryz.prog w = .ok (.value (.bool b)) w := by
 simp only [execOp, hx, hy]
 simp [eqGuard, binOp, Op.intCmp, Result.andThen, hz]
theorem ei_and (hx : a.eval x = .int k i) (hy : a.eval y = .int k j) (hz : bits .and k i j = z) : (execOp a.eval ⟨dst, .binOp .and T x y T', ty, ps, af, gd⟩).run Tryz.prog w = .ok (.value (.int k z)) w := by
 simp only [execOp, hx, hy]
 rw [← hz]
 simp [eqGuard, binOp, Result.andThen, intBits_and]
theorem ei_or (hx : a.eval x = .int k i) (hy : a.eval y = .int k j) (hz : bits .or k i j = z) : (execOp a.eval ⟨dst, .binOp .or T x y T', ty, ps, af, gd⟩).run Tryz.prog w = .ok (.value (.int k z)) w := by
 simp only [execOp, hx, hy]
 rw [← hz]
 simp [eqGuard, binOp, Result.andThen, intBits_or]
theorem ei_shr (hx : a.eval x = .int k i) (hy : a.eval y = .int k2 j) (h0 : 0 ≤ j) (h1 : j ≤ k.bits) (hz : i / 2 ^ j.toNat = z) : (execOp a.eval ⟨dst, .binOp .shr T x y T', ty, ps, af, gd⟩).run Tryz.prog w = .ok (.value (.int k z)) w := by
 simp only [execOp, hx, hy]
 rw [← hz]
 simp [eqGuard, binOp, Result.andThen, shift_shr k k2 i j h0 h1]
theorem ei_ext {t n : Nat} {vs : Array Value} {v : Value} (hx : a.eval (.tmp t) = .tuple vs) (hv : vs[n]? = some v) : (execOp a.eval ⟨dst, .extract (.tmp t) n, ty, ps, af, gd⟩).run Tryz.prog w = .ok (.value v) w := by
 simp only [execOp, hx]
 simp [Instr.extract, hv, Result.andThen]
end
end Go.Proofs.YtflppablgdegcaaGreatDoor
