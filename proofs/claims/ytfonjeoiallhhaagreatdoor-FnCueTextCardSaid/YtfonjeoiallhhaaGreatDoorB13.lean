/- Joined: Sl, Tz, Mo. -/
import Derived.Test.YtfonjeoiallhhaaGreatDoorB11
import Derived.Test.YtfonjeoiallhhaaGreatDoorB12
/- Slices of the call's own over the state Sv: appends, elements, indices; the state without a frame, for loops. -/
namespace Go.Proofs.YtfonjeoiallhhaaGreatDoor
open Go.RowKit
/-- The state without slots. -/
structure Hv (m : List Bk) (M : Nat → Prop) (w0 w : World) : Prop where
 hp : ∀ b ∈ m, w.heap[b.g]? = some (.cells b.cs b.t (0, 0))
 nd : m.Pairwise fun b c => b.g ≠ c.g
 wr : ∀ b ∈ m, b.o = true → M b.g ∨ w0.heap.size ≤ b.g
 only : Only M w0 w
theorem Sv.hv {N : Nat} {l : List (Nat × Value)} {m : List Bk} {M : Nat → Prop} {w0 w : World} {a : Act} (h : Sv N l m M w0 a w) : Hv m M w0 w := ⟨h.hp, h.nd, h.wr, h.only⟩
theorem Hv.sv {N : Nat} {l : List (Nat × Value)} {m : List Bk} {M : Nat → Prop} {w0 w : World} {a : Act} (h : Hv m M w0 w) (hE : Ev N l a) : Sv N l m M w0 a w := ⟨hE, h.hp, h.nd, h.wr, h.only⟩
theorem Hv.at {m : List Bk} {M : Nat → Prop} {w0 w : World} (h : Hv m M w0 w) (i : Nat) {b : Bk} (hi : m[i]? = some b) : w.heap[b.g]? = some (.cells b.cs b.t (0, 0)) := h.hp b (List.mem_of_getElem? hi)
/-- A text as a slice's element. -/
def strL (s : ByteArray) : List Value := [.string s]
theorem strL_one (s : ByteArray) : ∀ u ∈ strL s, u.oneCell' = true := by
 intro u hu
 rw [List.mem_singleton.1 hu]
 rfl
/-- A pointer that may be nil held against nil. -/
theorem ptr_isSome {T : TypeId} {o : Option (Array Value)} {v : Value} {w : World} (h : (o = none ∧ v = .pointer none) ∨ ∃ g cs, o = some cs ∧ v = pt g 0 ∧ w.heap[g]? = some (.cells cs T (0, 0))) : ∃ p : Option Addr, v = .pointer p ∧ p.isSome = o.isSome := by
 rcases h with ⟨rfl, rfl⟩ | ⟨g, cs, rfl, rfl, _⟩ <;> exact ⟨_, rfl, rfl⟩
/-- A slice's type and its element's. -/
structure Sli (T e k bytes : Nat) : Prop where
 u : Tryz.prog.underlying T = some (.slice e)
 i : ∃ (i : TypeInfo) (z : Value), Tryz.prog.info? e = some i ∧ i.zero = some z ∧ i.size = k ∧ i.bytes = bytes ∧ z.cells.size = k
theorem Sli.of {T e k bytes : Nat} {z : Value} (hu : Tryz.prog.underlying T = some (.slice e)) (h : (Tryz.prog.info? e).map (fun i => (i.zero, i.size, i.bytes)) = some (some z, k, bytes)) (hz : z.cells.size = k) : Sli T e k bytes := by
 obtain ⟨i, hi, h0, h1, h2⟩ := info_parts h
 exact ⟨hu, i, z, hi, h0, h1, h2, hz⟩
theorem flat_app {α : Type} (f : α → List Value) (L M : List α) : flat f (L ++ M) = flat f L ++ flat f M := by simp [flat]
section
variable {N : Nat} {l : List (Nat × Value)} {m : List Bk} {M : Nat → Prop} {w0 w w' : World} {a : Act} {ops : Array Oper} {rest : List Oper} {o : Oper} {Q : Exit → Act → World → Prop} {d : Nat} {v u : Value} {x y : Operand} {ty : TypeId} {ps : String} {af : Array Edge} {dst : Option Nat} {gd : Option (Nat × Bool)}
/-- 'append(s, ..)', the new elements in a block of their own. -/
theorem sv_append {α : Type} {f : α → List Value} {T e k bytes n : Nat} {L : List α} {s t gs : Nat} {cs : Array Value} (hT : Sli T e k bytes) (hk : 0 < k) (hf : ∀ x, (f x).length = k) (ys : List α) (h : Sv N l m M w0 a w) (hs : a.eval (.tmp s) = v) (hx : a.eval (.tmp t) = .slice (some ⟨gs, 0, none⟩) n n)
  (hg : w.heap[gs]? = some (.cells cs e (0, 0))) (hcs : cs.toList = flat f ys) (hn : ys.length = n) (h1 : ∀ y ∈ ys, ∀ u ∈ f y, u.oneCell' = true) (hown : Own f e k w w0.heap.size v L) (hm : (m.all fun b => b.t != e) = true) (hd : d < N) (hlen : (L.length + n) * bytes ≤ 140737488355328) (hlen2 : L.length + n ≤ 1000000000)
  (hK : ∀ a' v' w', TyOnly [e] w w' → Own f e k w' w0.heap.size v' (L ++ ys) → Sv N ((d, v') :: l) m M w0 a' w' → wpList Tryz.prog ops Q rest a' w') :
  wpList Tryz.prog ops Q (⟨some d, .call { callee := .builtin .append, args := #[.tmp s, .tmp t], argTypes := #[T, T] }, ty, ps, af, none⟩ :: rest) a w := by
 obtain ⟨i, z, hi, hz, hsize, hby, hzs⟩ := hT.i
 have hfl : (flat f ys).length = n * k := by rw [flat_length hf, hn]
 refine wpList_append_own_at (P := Tryz.prog) (w := w) rfl (.tmp s) (.tmp t) T rfl w0.heap.size e i z k bytes hT.u hi hz hsize hby hzs hk v L.length (flat f L) hs hown ⟨gs, 0, none⟩ n n (flat f ys) hx hfl ?_ ?_ (by unfold maxLen; omega) hlen h.size ?_
 ·intro j u hu
  rw [add_block, Nat.zero_add]
  simp only [World.cell?, hg]
  rw [← hcs] at hu
  simpa using hu
 ·intro u hu
  unfold flat at hu
  obtain ⟨b, hb, hub⟩ := List.mem_flatten.1 hu
  obtain ⟨y, hy, rfl⟩ := List.mem_map.1 hb
  exact h1 y hy u hub
 ·intro v' w' h2 h3 _ h5
  have hon : Only (fun g => v.ownBlock = some g) w w' := Only.of_grown h3 fun g hg => hg
  have hel : ∀ g, v.ownBlock = some g → ∃ cur, w.heap[g]? = some (.cells cur e (0, 0)) := hown.elem
  have hown' : Own f e k w' w0.heap.size v' (L ++ ys) := by
   unfold Own
   rw [flat_app, List.length_append, hn]
   exact h2
  have hty : TyOnly [e] w w' := .of_only hon fun g cs' e' fr' hg h1 => by
   obtain ⟨cur, hc⟩ := hel g hg
   rw [hc] at h1
   injection h1 with h1
   injection h1 with _ h2 _
   simp [h2]
  refine hK _ v' w' hty hown' ((h.slot (h.ev.set hd)).go hon ?_ ?_)
  ·intro b hb hv
   obtain ⟨cur, hc⟩ := hel b.g hv
   have h6 := h.hp b hb
   rw [hc] at h6
   injection h6 with h6
   injection h6 with _ h7 _
   rw [List.all_eq_true] at hm
   have := hm b hb
   rw [← h7] at this
   simp at this
  ·intro g hv hlt
   have := (hown.block_lt g hv).1
   omega
/-- An element's place. -/
theorem ex_ia {T E k s n c i : Nat} {p : Addr} {kk : IntKind} (hu : Tryz.prog.underlying T = some (.slice E)) (hz : ∀ w, (sizeOf E).run Tryz.prog w = .ok k w) (hs : a.eval (.tmp s) = .slice (some p) n c) (hi : a.eval x = .int kk (i : Int)) (hlt : i < n) :
  (execOp a.eval ⟨dst, .indexAddr T (.tmp s) x, ty, ps, af, gd⟩).run Tryz.prog w = .ok (.value (.pointer (some (p.add (i * k))))) w := by
 have hun := run_underlying (P := Tryz.prog) hu
 simp only [execOp, hs, hi]
 refine run_andValue ?_
 simp [Instr.indexAt, asIntOf, hun, hlt, hz]
theorem ex_ia1 {T E s n c i g : Nat} {kk : IntKind} (hu : Tryz.prog.underlying T = some (.slice E)) (hz : ∀ w, (sizeOf E).run Tryz.prog w = .ok 1 w) (hs : a.eval (.tmp s) = .slice (some ⟨g, 0, none⟩) n c) (hi : a.eval x = .int kk (i : Int)) (hlt : i < n) :
  (execOp a.eval ⟨dst, .indexAddr T (.tmp s) x, ty, ps, af, gd⟩).run Tryz.prog w = .ok (.value (pt g i)) w := by
 have h := ex_ia (dst := dst) (ty := ty) (ps := ps) (af := af) (gd := gd) (w := w) hu hz hs hi hlt
 rw [add_block, Nat.zero_add, Nat.mul_one] at h
 exact h
/-- 's[i]' of a slice of the call's own, a struct: its place, the whole of it. -/
theorem sv_elem {α : Type} {f : α → List Value} {T E k s i B n d1 d2 : Nat} {sv : Value} {L : List α} {x : α} {ty1 ty2 : TypeId} {ps1 ps2 : String} {af1 af2 : Array Edge} (hA : Ag E k) (hu : Tryz.prog.underlying T = some (.slice E)) (hf : ∀ x, (f x).length = k) (hk : 0 < k) (h : Sv N l m M w0 a w) (ho : Own f E k w B sv L) (hx : L[n]? = some x) (hs : a.eval (.tmp s) = sv) (hi : a.eval (.tmp i) = .int .i64 n) (h1 : d1 < N) (h2 : d2 < N)
  (hK : ∀ a', Sv N ((d2, .agg (f x).toArray) :: l) m M w0 a' w → wpList Tryz.prog ops Q rest a' w) (hfr : (l.all fun p => p.1 != d1) = true) (hne : d1 ≠ d2) :
  wpList Tryz.prog ops Q (⟨some d1, .indexAddr T (.tmp s) (.tmp i), ty1, ps1, af1, none⟩ :: ⟨some d2, .load E (.tmp d1), ty2, ps2, af2, none⟩ :: rest) a w :=
 ev_elem hA hu hf hk h.ev ho hx hs hi h1 h2 (fun a' h' => hK a' (h.slot h')) hfr hne
theorem ex_len' {T e : Nat} (hu : Tryz.prog.underlying T = some (.slice e)) {v : Value} {n c : Nat} {p : Option Addr} (hx : a.eval x = v) (hv : v = .slice p n c) : (execOp a.eval ⟨dst, .call { callee := .builtin .len, args := #[x], argTypes := #[T] }, ty, ps, af, gd⟩).run Tryz.prog w = .ok (.value (.int .i64 n)) w := by
 subst hv
 simp only [execOp, resolve, List.map_toArray, List.map_cons, List.map_nil, hx]
 go_simp
/-- The length of a slice of the call's own. -/
theorem ex_lenO {α : Type} {f : α → List Value} {T e k B : Nat} {L : List α} (hu : Tryz.prog.underlying T = some (.slice e)) (hx : a.eval x = v) (ho : Own f e k w B v L) : (execOp a.eval ⟨dst, .call { callee := .builtin .len, args := #[x], argTypes := #[T] }, ty, ps, af, gd⟩).run Tryz.prog w = .ok (.value (.int .i64 L.length)) w := by
 obtain ⟨A, c, hv, _⟩ := ho.shape
 exact ex_len' hu hx hv
end
section
variable {a : Act} {w : World} {dst : Option Nat} {T T' ty : TypeId} {ps : String} {af : Array Edge} {gd : Option (Nat × Bool)} {x y : Operand} {k : IntKind} {n m : Nat}
theorem ex_min {ats : Array TypeId} (hx : a.eval x = .int k n) (hy : a.eval y = .int k m) : (execOp a.eval ⟨dst, .call { callee := .builtin .min, args := #[x, y], argTypes := ats }, ty, ps, af, gd⟩).run Tryz.prog w = .ok (.value (.int k ((min n m : Nat) : Int))) w := by
 simp only [execOp, resolve, List.map_toArray, List.map_cons, List.map_nil, hx, hy]
 go_simp
 omega
theorem ex_max {ats : Array TypeId} (hx : a.eval x = .int k n) (hy : a.eval y = .int k m) : (execOp a.eval ⟨dst, .call { callee := .builtin .max, args := #[x, y], argTypes := ats }, ty, ps, af, gd⟩).run Tryz.prog w = .ok (.value (.int k ((max n m : Nat) : Int))) w := by
 simp only [execOp, resolve, List.map_toArray, List.map_cons, List.map_nil, hx, hy]
 go_simp
 omega
/-- 's[:h]'. -/
theorem ex_slh {E z c h : Nat} {A : Option Addr} (hu : Tryz.prog.underlying T = some (.slice E)) (hz : ∀ w, (sizeOf E).run Tryz.prog w = .ok z w) (hx : a.eval x = .slice A n c) (hy : a.eval y = .int k h) (hc : h ≤ c) :
  (execOp a.eval ⟨dst, .slice T x none (some y) none, ty, ps, af, gd⟩).run Tryz.prog w = .ok (.value (.slice A h c)) w := by
 have he : Tryz.prog.elem T = E := by simp [Program.elem, hu]
 have hu' : Tryz.prog.underlying T = some (.slice (Tryz.prog.elem T)) := by rw [he]; exact hu
 have h1 := run_slice_h (P := Tryz.prog) w T A n c hu' k (h : Int) (by omega) (by omega)
 rw [he, hz] at h1
 have h2 : (Instr.sliceAt T (.slice A n c) none (some (.int k (h : Int))) none).run Tryz.prog w = .ok (.slice A h c) w := by
  rw [run_sliceAt_slice (h := hu'), h1]
  have e : (if c = 0 then A else A.map fun x => x.add (0 * z)) = A := by
   split
   ·rfl
   ·cases A <;> simp [Addr.add]
  simp only [Result.andThen, sliced, Int.toNat_natCast, Nat.sub_zero, e]
 simp only [execOp, hx, hy, Option.map_some, Option.map_none]
 exact run_andValue h2
end
section
variable {a : Act} {w : World} {dst : Option Nat} {T T' ty : TypeId} {ps : String} {af : Array Edge} {gd : Option (Nat × Bool)} {x : Operand}
/-- A pointer's type: held against nil. -/
structure Eqp (T : Nat) : Prop where
 eq : ∀ w (o : Option Addr), (binOp .eql T (.pointer o) (.pointer none)).run Tryz.prog w = .ok (.bool o.isNone) w
 ne : ∀ w (o : Option Addr), (binOp .neq T (.pointer o) (.pointer none)).run Tryz.prog w = .ok (.bool o.isSome) w
/-- An interface's type: nil held against nil. -/
structure Eqi (T : Nat) : Prop where
 eq : ∀ w, (binOp .eql T .nilIface .nilIface).run Tryz.prog w = .ok (.bool true) w
 ne : ∀ w, (binOp .neq T .nilIface .nilIface).run Tryz.prog w = .ok (.bool false) w
theorem ex_pe {o : Option Addr} (h : Eqp T) (hx : a.eval x = .pointer o) : (execOp a.eval ⟨dst, .binOp .eql T x (.const (.pointer none)) T', ty, ps, af, gd⟩).run Tryz.prog w = .ok (.value (.bool o.isNone)) w := by
 simp only [execOp, hx]
 simp [eqGuard, Act.eval, h.eq, Result.andThen]
theorem ex_pne {o : Option Addr} (h : Eqp T) (hx : a.eval x = .pointer o) : (execOp a.eval ⟨dst, .binOp .neq T x (.const (.pointer none)) T', ty, ps, af, gd⟩).run Tryz.prog w = .ok (.value (.bool o.isSome)) w := by
 simp only [execOp, hx]
 simp [eqGuard, Act.eval, h.ne, Result.andThen]
theorem ex_ine (h : Eqi T) (hx : a.eval x = .nilIface) : (execOp a.eval ⟨dst, .binOp .neq T x (.const .nilIface) T', ty, ps, af, gd⟩).run Tryz.prog w = .ok (.value (.bool false)) w := by
 simp only [execOp, hx]
 simp [eqGuard, Act.eval, h.ne, Result.andThen]
theorem cv_int_float64 (n : Int) : Cv 3 32 (.int .i64 n) (.float .f64 (floatOfInt .f64 n)) := by intro w; go_simp
theorem e8_all : (List.range 1001).all (fun t => (floatBits .quo .f64 (floatOfInt .f64 (t : Int)) 4620693217682128896).isSome) = true := by decide +kernel
theorem e8_some {t : Nat} (h : t ≤ 1000) : floatBits .quo .f64 (floatOfInt .f64 (t : Int)) 4620693217682128896 = some (e8 t) := by
 have := List.all_eq_true.1 e8_all t (List.mem_range.2 (by omega))
 unfold e8
 cases h : floatBits .quo .f64 (floatOfInt .f64 (t : Int)) 4620693217682128896 with
 | none => rw [h] at this; cases this
 | some x => rfl
theorem ex_quo8 {t : Nat} (hx : a.eval x = .float .f64 (floatOfInt .f64 (t : Int))) (h : t ≤ 1000) : (execOp a.eval ⟨dst, .binOp .quo T x (.const (.float .f64 4620693217682128896)) T', ty, ps, af, gd⟩).run Tryz.prog w = .ok (.value (.float .f64 (e8 t))) w := by
 have hr := run_float_arith (P := Tryz.prog) w .quo T .f64 _ _ (e8 t) (e8_some h)
 simp only [execOp, hx]
 simp [eqGuard, Act.eval, hr, Result.andThen]
end
section
variable {N : Nat} {l : List (Nat × Value)} {m : List Bk} {M : Nat → Prop} {w0 w w' : World} {a : Act} {ops : Array Oper} {rest : List Oper} {o : Oper} {Q : Exit → Act → World → Prop} {d gj gt : Nat} {b b' : Bool} {v u : Value} {x y p q : Operand} {T T' ty : TypeId} {ps : String} {af : Array Edge} {dst : Option Nat} {gd : Option (Nat × Bool)}
/-- A guarded operation: on, off. -/
theorem sv_gon (h : Sv N l m M w0 a w) (hg : o.guard = some (gj, b)) (hgd : (ops[gj]?).bind (·.dst) = some gt) (ht : a.eval (.tmp gt) = .bool b) (hd : o.dst = some d) (hdN : d < N) (hr : (execOp a.eval o).run Tryz.prog w = .ok (.value v) w)
  (hK : ∀ a', Sv N ((d, v) :: l) m M w0 a' w → wpList Tryz.prog ops Q rest a' w) : wpList Tryz.prog ops Q (o :: rest) a w := ev_gon h.ev hg hgd ht hd hdN hr fun a' h' => hK a' (h.slot h')
theorem sv_g (h : Sv N l m M w0 a w) (ht : a.eval (.tmp gt) = .bool b) (hr : (execOp a.eval o).run Tryz.prog w = .ok (.value v) w) (hK : ∀ a', Sv N ((d, v) :: l) m M w0 a' w → wpList Tryz.prog ops Q rest a' w) (hg : o.guard = some (gj, b) := by rfl) (hgd : (ops[gj]?).bind (·.dst) = some gt := by rfl) (hd : o.dst = some d := by rfl) (hdN : d < N := by decide) : wpList Tryz.prog ops Q (o :: rest) a w := sv_gon h hg hgd ht hd hdN hr hK
theorem sv_goff (h : Sv N l m M w0 a w) (hg : o.guard = some (gj, b)) (hgd : (ops[gj]?).bind (·.dst) = some gt) (ht : a.eval (.tmp gt) = .bool b') (hne : (b' == b) = false) (hd : o.dst = some d) (hdN : d < N)
  (hK : ∀ a', Sv N ((d, undef) :: l) m M w0 a' w → wpList Tryz.prog ops Q rest a' w) : wpList Tryz.prog ops Q (o :: rest) a w := ev_goff h.ev hg hgd ht hne hd hdN fun a' h' => hK a' (h.slot h')
/-- A guarded call that leaves the world. -/
theorem sv_gcallq {f : FuncId} {args : Array Value} (h : Sv N l m M w0 a w) (hg : o.guard = some (gj, b)) (hgd : (ops[gj]?).bind (·.dst) = some gt) (ht : a.eval (.tmp gt) = .bool b) (hd : o.dst = some d) (hdN : d < N) (hr : (execOp a.eval o).run Tryz.prog w = .ok (.enter f args) w) (hc : Calls Tryz.prog f args w fun e w' => e = .returned v ∧ w' = w)
  (hK : ∀ a', Sv N ((d, v) :: l) m M w0 a' w → wpList Tryz.prog ops Q rest a' w) : wpList Tryz.prog ops Q (o :: rest) a w :=
 ev_gcall (S := fun u w' => u = v ∧ w' = w) h.ev hg hgd ht hd hdN hr (Calls.mono hc fun e w' ⟨he, hb⟩ => ⟨v, he, rfl, hb⟩) fun a' u w' hS h' => by obtain ⟨rfl, rfl⟩ := hS; exact hK a' (h.slot h')
theorem ex_pickT (hc : a.eval x = .bool true) (hp : a.eval p = v) : (execOp a.eval ⟨dst, .pick x p q, ty, ps, af, gd⟩).run Tryz.prog w = .ok (.value v) w := by
 simp only [execOp, hc, hp]; rfl
theorem ex_pickF (hc : a.eval x = .bool false) (hq : a.eval q = v) : (execOp a.eval ⟨dst, .pick x p q, ty, ps, af, gd⟩).run Tryz.prog w = .ok (.value v) w := by
 simp only [execOp, hc, hq]; rfl
variable {i j : Nat}
theorem ef_lss (hx : a.eval x = .float .f64 i) (hy : a.eval y = .float .f64 j) (hz : (FloatKind.f64.format.order i j == some .lt) = b) : (execOp a.eval ⟨dst, .binOp .lss T x y T', ty, ps, af, gd⟩).run Tryz.prog w = .ok (.value (.bool b)) w := by
 subst hz; simp only [execOp, hx, hy]; rfl
theorem ef_gtr (hx : a.eval x = .float .f64 i) (hy : a.eval y = .float .f64 j) (hz : (FloatKind.f64.format.order i j == some .gt) = b) : (execOp a.eval ⟨dst, .binOp .gtr T x y T', ty, ps, af, gd⟩).run Tryz.prog w = .ok (.value (.bool b)) w := by
 subst hz; simp only [execOp, hx, hy]; rfl
theorem ef_neq (hx : a.eval x = .float .f64 i) (hy : a.eval y = .float .f64 j) (hz : (FloatKind.f64.format.order i j != some .eq) = b) : (execOp a.eval ⟨dst, .binOp .neq T x y T', ty, ps, af, gd⟩).run Tryz.prog w = .ok (.value (.bool b)) w := by
 subst hz; simp only [execOp, hx, hy]; rfl
theorem made_one (z : Value) (n : Nat) : madeCells #[z] (n * 1) = (List.replicate n z).toArray := by
 apply Array.ext'
 apply List.ext_getElem?
 intro i
 simp only [madeCells, Nat.mul_one, Array.toList_map, Array.toList_range, List.getElem?_map, List.getElem?_replicate, List.toList_toArray]
 by_cases h : i < n
 ·simp [h, List.getElem?_range, Nat.mod_one]
 ·simp [h]
/-- 'make([]T, n)' of cells of one. -/
theorem ex_make {e bytes n : Nat} {z : Value} {k : IntKind} (hT : Sli T e 1 bytes) (hz : (Tryz.prog.info? e).map (·.zero) = some (some z)) (hz1 : z.cells = #[z]) (hx : a.eval x = .int k n) (hb : bytes * n ≤ 281474976710656) (h63 : n ≤ 9223372036854775807) :
  (execOp a.eval ⟨dst, .makeSlice T x x, ty, ps, af, gd⟩).run Tryz.prog w = .ok (.value (.slice (some ⟨w.heap.size, 0, none⟩) n n)) (w.alloc (.cells (List.replicate n z).toArray e)) := by
 obtain ⟨i, z', hi, hzi, hsize, hby, hzs⟩ := hT.i
 rw [hi, Option.map_some, hzi] at hz
 obtain rfl := Option.some.inj (Option.some.inj hz)
 have hb' : ((bytes * n : Nat) : Int) ≤ 281474976710656 := by omega
 rw [Int.natCast_mul] at hb'
 have hr := run_make (P := Tryz.prog) w T e i z' hT.u hi hzi k k (n : Int) (n : Int) (by omega) (Int.le_refl _) (by rw [hby]; exact hb') (by omega)
 rw [hsize, hz1, Int.toNat_natCast, made_one] at hr
 simp only [execOp, hx]
 exact run_andValue'' hr
end
section
variable {a : Act} {w : World} {dst : Option Nat} {T T' ty : TypeId} {ps : String} {af : Array Edge} {gd : Option (Nat × Bool)} {x y z : Operand} {k : IntKind} {n m i j : Nat} {s : ByteArray}
theorem ex_slen {ats : Array TypeId} (hx : a.eval x = .string s) : (execOp a.eval ⟨dst, .call { callee := .builtin .len, args := #[x], argTypes := #[9] }, ty, ps, af, gd⟩).run Tryz.prog w = .ok (.value (.int .i64 s.size)) w := by
 simp only [execOp, resolve, List.map_toArray, List.map_cons, List.map_nil, hx]
 go_simp
theorem ex_sidx (hx : a.eval x = .string s) (hy : a.eval y = .int k i) (hi : i < s.size) : (execOp a.eval ⟨dst, .index 9 x y, ty, ps, af, gd⟩).run Tryz.prog w = .ok (.value (.int .u8 ((s[i]'hi).toNat : Int))) w := by
 simp only [execOp, hx, hy]
 go_simp
theorem ex_ssh (hx : a.eval x = .string s) (hy : a.eval y = .int k i) (hi : i ≤ s.size) : (execOp a.eval ⟨dst, .slice 9 x none (some y) none, ty, ps, af, gd⟩).run Tryz.prog w = .ok (.value (.string (s.extract 0 i))) w := by
 simp only [execOp, hx, hy, Option.map_some, Option.map_none]
 go_simp
end
def strOf : Value → ByteArray | .string s => s | _ => ⟨#[]⟩
/-- 's[i]' of a slice of texts of the call's own. -/
theorem sv_elemS {N : Nat} {l : List (Nat × Value)} {m : List Bk} {M : Nat → Prop} {w0 w : World} {a : Act} {ops : Array Oper} {rest : List Oper} {Q : Exit → Act → World → Prop} {T E s i B n d1 d2 : Nat} {sv : Value} {L : List ByteArray} {x : ByteArray} {ty1 ty2 : TypeId} {ps1 ps2 : String} {af1 af2 : Array Edge} (hu : Tryz.prog.underlying T = some (.slice E)) (hz : ∀ w, (sizeOf E).run Tryz.prog w = .ok 1 w) (hL : Ld E) (h : Sv N l m M w0 a w) (ho : Own strL E 1 w B sv L) (hx : L[n]? = some x) (hs : a.eval (.tmp s) = sv) (hi : a.eval (.tmp i) = .int .i64 n) (h1 : d1 < N) (h2 : d2 < N)
  (hK : ∀ a' p, Sv N ((d2, .string x) :: (d1, .pointer p) :: l) m M w0 a' w → wpList Tryz.prog ops Q rest a' w) :
  wpList Tryz.prog ops Q (⟨some d1, .indexAddr T (.tmp s) (.tmp i), ty1, ps1, af1, none⟩ :: ⟨some d2, .load E (.tmp d1), ty2, ps2, af2, none⟩ :: rest) a w := by
 have hlt : n < L.length := (List.getElem?_eq_some_iff.1 hx).1
 obtain ⟨A, cap, hsv, hA0⟩ := ho.shape
 obtain ⟨g, rfl⟩ := hA0 (by intro e; rw [e] at hlt; simp at hlt)
 have hc := Own.cells_at (f := strL) (fun _ => rfl) Nat.one_pos (hsv ▸ ho) hlt (j := 0) Nat.one_pos
 rw [List.getElem?_eq_getElem hlt] at hx
 rw [Option.some.inj hx] at hc
 refine sv_run (v := .pointer (some ⟨g, n * 1, none⟩)) h rfl rfl h1 ?_ ?_
 ·have h3 := ex_ia (dst := some d1) (ty := ty1) (ps := ps1) (af := af1) (gd := none) (w := w) (i := n) hu hz (hs.trans hsv) hi hlt
  rw [add_block, Nat.zero_add] at h3
  exact h3
 ·intro a' h'
  refine sv_run (v := .string x) h' rfl rfl h2 (ex_ld (h'.get d1 look_eq) hL hc) ?_
  intro a2 h2'
  exact hK a2 _ h2'
/-- A call that turns one known block. -/
theorem sv_callp {N : Nat} {l : List (Nat × Value)} {m m' : List Bk} {M : Nat → Prop} {w0 w : World} {a : Act} {ops : Array Oper} {rest : List Oper} {o : Oper} {Q : Exit → Act → World → Prop} {d g i : Nat} {v : Value} {cs cs' : Array Value} {t : TypeId} {f : FuncId} {args : Array Value} (h : Sv N l m M w0 a w) (hg : o.guard = none) (hd : o.dst = some d) (hdN : d < N) (hr : (execOp a.eval o).run Tryz.prog w = .ok (.enter f args) w)
  (hb : m[i]? = some ⟨g, cs, t, true⟩) (hm : m.set i ⟨g, cs', t, true⟩ = m') (hc : Calls Tryz.prog f args w fun e w' => e = .returned v ∧ w'.heap[g]? = some (.cells cs' t (0, 0)) ∧ Only (fun x => x = g) w w')
  (hK : ∀ a' w', TyOnly [t] w w' → Sv N ((d, v) :: l) m' M w0 a' w' → wpList Tryz.prog ops Q rest a' w') : wpList Tryz.prog ops Q (o :: rest) a w := by
 refine ev_call (S := fun u w' => u = v ∧ w'.heap[g]? = some (.cells cs' t (0, 0)) ∧ Only (fun x => x = g) w w') h.ev hg hd hdN hr (Calls.mono hc fun e w' ⟨he, h1, h2⟩ => ⟨v, he, rfl, h1, h2⟩) fun a' u w' hS h' => ?_
 obtain ⟨rfl, h1, h2⟩ := hS
 refine hK a' w' (.of_set h2 (h.at i hb)) ((h.slot h').put hb hm h1 h2 (fun b _ hne e => hne e) ?_)
 intro g' e1 hlt
 subst e1
 rcases h.wr _ (List.mem_of_getElem? hb) rfl with h3 | h3
 ·exact h3
 ·exact absurd hlt (Nat.not_lt.2 h3)
/-- What a slice's store needs. -/
theorem Own.st {α : Type} {f : α → List Value} {T e k B : Nat} {w : World} {v : Value} {L : List α} (ho : Own f e k w B v L) (hS : ∀ p n c, St T (.slice p n c)) : St T v := by
 obtain ⟨A, c, hv, _⟩ := ho.shape
 rw [hv]
 exact hS _ _ _
theorem Own.one' {α : Type} {f : α → List Value} {e k B : Nat} {w : World} {v : Value} {L : List α} (ho : Own f e k w B v L) : v.oneCell' = true := by
 obtain ⟨A, c, hv, _⟩ := ho.shape
 rw [hv]
 rfl
theorem Own.ty {α : Type} {f : α → List Value} {e k B : Nat} {w w' : World} {v : Value} {L : List α} {ts : List TypeId} (ho : Own f e k w B v L) (h : TyOnly ts w w') (he : (ts.all fun u => u != e) = true) : Own f e k w' B v L := h.own ho he
theorem U32s.old {w0 w : World} {A : Option Addr} {len : Nat} (h : U32s w0 A len) {m : List Bk} (hv : Hv m (fun _ => False) w0 w) : U32s w A len := h.below (hv.only.below (Nat.le_refl _) fun _ _ h => h)
end Go.Proofs.YtfonjeoiallhhaaGreatDoor
/- Facts on slices' types. Printed by wip/tools/gen_tz.py. -/
set_option maxRecDepth 100000
namespace Go.Proofs.YtfonjeoiallhhaaGreatDoor
open Go.RowKit
theorem sli_sl_spec_Segment : Sli 28 40 9 96 := Sli.of (z := .agg #[.string ⟨#[]⟩, .string ⟨#[]⟩, .int .i64 0, .int .i64 0, .int .i64 0, .pointer none, .pointer none, .bool false, .string ⟨#[]⟩]) Tryz.underlying28 (by kernel_rfl) rfl
theorem sli_sl_impl_Segment : Sli 33 55 11 160 := Sli.of (z := .agg #[.int .u64 0, .string ⟨#[]⟩, .string ⟨#[]⟩, .float .f64 0, .int .i64 0, .int .i64 0, .slice none 0 0, .slice none 0 0, .slice none 0 0, .bool false, .string ⟨#[]⟩]) Tryz.underlying33 (by kernel_rfl) rfl
theorem sli_sl_p_m3u8_MediaSegment : Sli 63 76 1 8 := Sli.of (z := .pointer none) Tryz.underlying63 (by kernel_rfl) rfl
theorem sli_sl_string : Sli 84 9 1 16 := Sli.of (z := .string ⟨#[]⟩) Tryz.underlying84 (by kernel_rfl) rfl
theorem sli_sl_p_spec_Cue : Sli 45 87 1 8 := Sli.of (z := .pointer none) Tryz.underlying45 (by kernel_rfl) rfl
theorem eqp_p_spec_Key : Eqp 26 := ⟨by intro w o; cases o <;> go_simp, by intro w o; cases o <;> go_simp⟩
theorem eqp_p_spec_Map : Eqp 27 := ⟨by intro w o; cases o <;> go_simp, by intro w o; cases o <;> go_simp⟩
theorem eqp_p_spec_Cue : Eqp 87 := ⟨by intro w o; cases o <;> go_simp, by intro w o; cases o <;> go_simp⟩
theorem eqp_p_m3u8_Key : Eqp 69 := ⟨by intro w o; cases o <;> go_simp, by intro w o; cases o <;> go_simp⟩
theorem eqp_p_m3u8_Map : Eqp 70 := ⟨by intro w o; cases o <;> go_simp, by intro w o; cases o <;> go_simp⟩
theorem eqp_p_m3u8_SCTE : Eqp 102 := ⟨by intro w o; cases o <;> go_simp, by intro w o; cases o <;> go_simp⟩
theorem eqp_p_m3u8_MediaSegment : Eqp 76 := ⟨by intro w o; cases o <;> go_simp, by intro w o; cases o <;> go_simp⟩
theorem eqi_error : Eqi 60 := ⟨by intro w; go_simp, by intro w; go_simp⟩
theorem lt_p_m3u8_MediaSegment : Ld 76 := by intro w p v h; go_simp
theorem su_p_m3u8_MediaSegment (p : Option Addr) : St 76 (.pointer p) := by intro w q u hc hf; simp only [Instr.storeAt, Instr.sureAddr]; go_simp
theorem lt_p_spec_Cue : Ld 87 := by intro w p v h; go_simp
end Go.Proofs.YtfonjeoiallhhaaGreatDoor
/- The walk of laws.mediaOf: a media playlist by numbers. -/
set_option maxRecDepth 100000
set_option maxHeartbeats 8000000
namespace Go.Proofs.YtfonjeoiallhhaaGreatDoor
open Go.RowKit
/-- A media playlist but for its segments. -/
structure Md where
 version : Nat
 target : Nat
 seq : Nat
 disc : Nat
 typ : Nat
 start : Nat
 precise : Bool
 iframe : Bool
 closed : Bool
def Md.cells (m : Md) (sl : Value) : Array Value := #[.int .i64 (m.version : Int), .int .i64 (m.target : Int), .int .u64 (m.seq : Int), .int .u64 (m.disc : Int), .int .i64 (m.typ : Int), .int .i64 (m.start : Int), .bool m.precise, .bool m.iframe, .bool m.closed, .pointer none, .pointer none, sl]
structure MdOk (m : Md) : Prop where
 version : m.version < 8
 target : 20 ≤ m.target ∧ m.target < 70
 seq : m.seq < 4294967296
 disc : m.disc < 1000
 typ : m.typ < 3
 start : m.start ≤ 300
 precise : m.start = 0 → m.precise = false
/-- Keys and heads of all lie behind the pointers. -/
def AllAt (xs : List Sx) (w : World) : Prop := ∀ x ∈ xs, x.At w
theorem AllAt.ty {xs : List Sx} {w w' : World} {ts : List TypeId} (h : AllAt xs w) (hb : TyOnly ts w w') (ht : (ts.all fun u => u != 96 && u != 99) = true) : AllAt xs w' := fun x hx => (h x hx).ty hb ht
theorem AllAt.snoc {xs : List Sx} {x : Sx} {w : World} (h : AllAt xs w) (hx : x.At w) : AllAt (xs ++ [x]) w := by
 intro z hz
 rcases List.mem_append.1 hz with hz | hz
 ·exact h z hz
 ·rw [List.mem_singleton.1 hz]; exact hx
/-- The segments, each with its key and its head, as they lie in memory. -/
structure SegsAt (B : Nat) (v : Value) (xs : List Sx) (w : World) : Prop where
 own : Own Sx.list 40 9 w B v xs
 ats : AllAt xs w
theorem SegsAt.ty {B : Nat} {v : Value} {xs : List Sx} {w w' : World} {ts : List TypeId} (h : SegsAt B v xs w) (hb : TyOnly ts w w') (ht : (ts.all fun u => u != 40 && (u != 96 && u != 99)) = true) : SegsAt B v xs w' := by
 rw [List.all_eq_true] at ht
 refine ⟨h.own.ty hb ?_, fun x hx => (h.ats x hx).ty hb ?_⟩
 ·rw [List.all_eq_true]; intro u hu; have := ht u hu; simp only [Bool.and_eq_true] at this; exact this.1
 ·rw [List.all_eq_true]; intro u hu; have := ht u hu; simp only [Bool.and_eq_true] at this; simp only [Bool.and_eq_true]; exact this.2
theorem Md.one (m : Md) {sl : Value} (h : sl.oneCell' = true) : ∀ u ∈ (m.cells sl).toList, u.oneCell' = true := by
 intro u hu
 simp only [Md.cells, List.mem_cons, List.not_mem_nil, or_false] at hu
 rcases hu with rfl | rfl | rfl | rfl | rfl | rfl | rfl | rfl | rfl | rfl | rfl | rfl <;> first | rfl | exact h
theorem mediaOf_any (A : Option Addr) (len cap n : Nat) (hn : n < 4294967296) (hlen : len ≤ cap) (w : World) (hA : U32s w A len) : Calls Tryz.prog 5 #[.slice A len cap, .int .u32 n] w fun e w' => ∃ v, e = .returned v ∧ Below w.heap.size w w' ∧ ∃ (m : Md) (sl : Value) (xs : List Sx), v = .agg (m.cells sl) ∧ MdOk m ∧ xs.length = min len 12 ∧ (∀ x ∈ xs, SegOk x.1) ∧ SegsAt w.heap.size sl xs w' := by
 refine calls_of_ev Tryz.func5 rfl (show 2 ≤ 76 from by decide) ?_
 intro a hE
 have hE : Ev 76 ((0, .slice A len cap) :: (1, .int .u32 ((n : Nat) : Int)) :: []) a := hE
 have hS : Sv 76 ((0, .slice A len cap) :: (1, .int .u32 ((n : Nat) : Int)) :: []) [] (fun _ => False) w a w := Sv.start hE _ _
 clear hE
 refine wp_seq ?_
 refine wp_region_lit ?_
 refine sv_al hS al_spec_Media (by decide) ?_
 intro g1 a w2 hg1 hbw2 hwg1 hS
 refine wpList_nil ?_
 replace hS := hS.cut [4, 0, 1]
 show Code.wp _ _ _ _ _
 refine wp_seq ?_
 refine wp_region_lit ?_
 refine sv_r (v := .int .u32 ((n : Nat) : Int)) hS (ex_mv (hS.get 1 rfl)) fun a hS => ?_
 refine sv_r (v := .int .u32 ((n % 8 : Nat) : Int)) hS (ni_rem 8 (hS.get 8 rfl) rfl (by decide)) fun a hS => ?_
 refine sv_r (v := .int .i64 ((n % 8 : Nat) : Int)) hS (ex_cv (hS.get 9 rfl) (cv_uint32_int _ (by rw [IntKind.wrap_i64]; omega))) fun a hS => ?_
 refine sv_r (v := .int .u32 ((n : Nat) : Int)) hS (ex_mv (hS.get 1 rfl)) fun a hS => ?_
 refine sv_r (v := .int .u32 ((n / 8 : Nat) : Int)) hS (ni_shr 3 (hS.get 11 rfl) rfl (by simp only [IntKind.bits]; omega) rfl) fun a hS => ?_
 refine sv_r (v := .int .u32 ((n / 8 % 50 : Nat) : Int)) hS (ni_rem 50 (hS.get 12 rfl) rfl (by decide)) fun a hS => ?_
 refine sv_r (v := .int .i64 ((n / 8 % 50 : Nat) : Int)) hS (ex_cv (hS.get 13 rfl) (cv_uint32_int _ (by rw [IntKind.wrap_i64]; omega))) fun a hS => ?_
 refine sv_r (v := .int .i64 ((20 + (n / 8 % 50) : Nat) : Int)) hS (ei_add rfl (hS.get 14 rfl) (by rw [IntKind.wrap_i64]; omega)) fun a hS => ?_
 refine sv_r (v := .int .u32 ((n : Nat) : Int)) hS (ex_mv (hS.get 1 rfl)) fun a hS => ?_
 refine sv_r (v := .int .u32 ((n / 32 : Nat) : Int)) hS (ni_shr 5 (hS.get 16 rfl) rfl (by simp only [IntKind.bits]; omega) rfl) fun a hS => ?_
 refine sv_r (v := .int .u64 ((n / 32 : Nat) : Int)) hS (ex_cv (hS.get 17 rfl) (cv_uint32_uint64 _ (by rw [IntKind.wrap_u64]; omega))) fun a hS => ?_
 refine sv_r (v := .int .u32 ((n : Nat) : Int)) hS (ex_mv (hS.get 1 rfl)) fun a hS => ?_
 refine sv_r (v := .int .u32 ((n / 16 : Nat) : Int)) hS (ni_shr 4 (hS.get 19 rfl) rfl (by simp only [IntKind.bits]; omega) rfl) fun a hS => ?_
 refine sv_r (v := .int .u32 ((n / 16 % 3 : Nat) : Int)) hS (ni_rem 3 (hS.get 20 rfl) rfl (by decide)) fun a hS => ?_
 refine sv_r (v := .int .i64 ((n / 16 % 3 : Nat) : Int)) hS (ex_cv (hS.get 21 rfl) (cv_uint32_int _ (by rw [IntKind.wrap_i64]; omega))) fun a hS => ?_
 refine sv_r (v := .int .u32 ((n : Nat) : Int)) hS (ex_mv (hS.get 1 rfl)) fun a hS => ?_
 refine sv_r (v := .int .u32 ((n / 128 : Nat) : Int)) hS (ni_shr 7 (hS.get 23 rfl) rfl (by simp only [IntKind.bits]; omega) rfl) fun a hS => ?_
 refine sv_r (v := .int .u32 ((n / 128 % 4 : Nat) : Int)) hS (ei_and (hS.get 24 rfl) rfl (by rw [u32_and3 (by omega) (by omega)]; omega)) fun a hS => ?_
 refine sv_r (v := .bool (decide ((n / 128 % 4 : Nat) = 1))) hS (ei_eql (hS.get 25 rfl) rfl (by rw [decide_eq_decide]; omega)) fun a hS => ?_
 refine sv_r (v := .int .u32 ((n : Nat) : Int)) hS (ex_mv (hS.get 1 rfl)) fun a hS => ?_
 refine sv_r (v := .int .u32 ((n / 512 : Nat) : Int)) hS (ni_shr 9 (hS.get 27 rfl) rfl (by simp only [IntKind.bits]; omega) rfl) fun a hS => ?_
 refine sv_r (v := .int .u32 ((n / 512 % 2 : Nat) : Int)) hS (ei_and (hS.get 28 rfl) rfl (by rw [u32_and1 (by omega) (by omega)]; omega)) fun a hS => ?_
 refine sv_r (v := .bool (decide ((n / 512 % 2 : Nat) = 1))) hS (ei_eql (hS.get 29 rfl) rfl (by rw [decide_eq_decide]; omega)) fun a hS => ?_
 refine sv_r (v := .agg #[.int .i64 ((n % 8 : Nat) : Int), .int .i64 ((20 + (n / 8 % 50) : Nat) : Int), .int .u64 ((n / 32 : Nat) : Int), .int .u64 0, .int .i64 ((n / 16 % 3 : Nat) : Int), .int .i64 0, .bool false, .bool (decide ((n / 128 % 4 : Nat) = 1)), .bool (decide ((n / 512 % 2 : Nat) = 1)), .pointer none, .pointer none, .slice none 0 0]) hS (by simp only [execOp, List.map_toArray, List.map_cons, List.map_nil, hS.get 10 rfl, hS.get 15 rfl, hS.get 18 rfl, hS.get 22 rfl, hS.get 26 rfl, hS.get 30 rfl]; go_simp) fun a hS => ?_
 refine sv_al hS al_spec_Media (by decide) ?_
 intro g3 a w4 hg3 hbw4 hwg3 hS
 refine sv_sb (i := 0) (m' := [⟨g3, #[.int .i64 ((n % 8 : Nat) : Int), .int .i64 ((20 + (n / 8 % 50) : Nat) : Int), .int .u64 ((n / 32 : Nat) : Int), .int .u64 0, .int .i64 ((n / 16 % 3 : Nat) : Int), .int .i64 0, .bool false, .bool (decide ((n / 128 % 4 : Nat) = 1)), .bool (decide ((n / 512 % 2 : Nat) = 1)), .pointer none, .pointer none, .slice none 0 0], 30, true⟩, ⟨g1, #[.int .i64 0, .int .i64 0, .int .u64 0, .int .u64 0, .int .i64 0, .int .i64 0, .bool false, .bool false, .bool false, .pointer none, .pointer none, .slice none 0 0], 30, true⟩]) hS ag_spec_Media (hS.get 5 rfl) (hS.get 31 rfl) rfl rfl rfl (by intro u hu; simp only [List.mem_cons, List.not_mem_nil, or_false] at hu; rcases hu with rfl | rfl | rfl | rfl | rfl | rfl | rfl | rfl | rfl | rfl | rfl | rfl <;> rfl) rfl ?_
 intro w5 hty hS
 refine wpList_nil ?_
 replace hS := hS.cut [5, 4, 0, 1]
 obtain ⟨m0, hm0, hS⟩ : ∃ m : Md, MdOk m ∧ Sv 76 ((5, pt g3 0) :: (4, pt g1 0) :: (0, .slice A len cap) :: (1, .int .u32 ((n : Nat) : Int)) :: []) [⟨g3, (m.cells (.slice none 0 0)), 30, true⟩, ⟨g1, #[.int .i64 0, .int .i64 0, .int .u64 0, .int .u64 0, .int .i64 0, .int .i64 0, .bool false, .bool false, .bool false, .pointer none, .pointer none, .slice none 0 0], 30, true⟩] (fun _ => False) w a w5 := ⟨⟨n % 8, 20 + n / 8 % 50, n / 32, 0, n / 16 % 3, 0, false, decide (n / 128 % 4 = 1), decide (n / 512 % 2 = 1)⟩, ⟨by show n % 8 < 8; omega, ⟨by show 20 ≤ 20 + n / 8 % 50; omega, by show 20 + n / 8 % 50 < 70; omega⟩, by show n / 32 < _; omega, by show 0 < 1000; omega, by show n / 16 % 3 < 3; omega, by show 0 ≤ 300; omega, fun _ => rfl⟩, hS⟩
 show Code.wp _ _ _ _ _
 refine wp_seq ?_
 refine wp_seq ?_
 refine wp_region_lit ?_
 refine sv_r (v := .int .u32 ((n : Nat) : Int)) hS (ex_mv (hS.get 1 rfl)) fun a hS => ?_
 refine sv_r (v := .int .u32 ((n / 1024 : Nat) : Int)) hS (ni_shr 10 (hS.get 32 rfl) rfl (by simp only [IntKind.bits]; omega) rfl) fun a hS => ?_
 refine sv_r (v := .int .u32 ((n / 1024 % 2 : Nat) : Int)) hS (ei_and (hS.get 33 rfl) rfl (by rw [u32_and1 (by omega) (by omega)]; omega)) fun a hS => ?_
 refine sv_r (v := .bool (decide ((n / 1024 % 2 : Nat) = 1))) hS (ei_eql (hS.get 34 rfl) rfl (by rw [decide_eq_decide]; omega)) fun a hS => ?_
 refine wpList_nil ?_
 replace hS := hS.cut [35, 5, 4, 1, 0]
 show Code.wp _ _ _ _ _
 refine if_join (fun a w' => ∃ m : Md, MdOk m ∧ Sv 76 ((5, pt g3 0) :: (4, pt g1 0) :: (1, .int .u32 ((n : Nat) : Int)) :: (0, .slice A len cap) :: []) [⟨g3, m.cells (.slice none 0 0), 30, true⟩, ⟨g1, #[.int .i64 0, .int .i64 0, .int .u64 0, .int .u64 0, .int .i64 0, .int .i64 0, .bool false, .bool false, .bool false, .pointer none, .pointer none, .slice none 0 0], 30, true⟩] (fun _ => False) w a w') (hS.get 35 rfl) ?_ ?_ ?_
 ·intro hb6 Q' hQ'
  have hb6 := of_decide_eq_true hb6
  refine wp_region_lit ?_
  refine sv_r (v := .int .u32 ((n : Nat) : Int)) hS (ex_mv (hS.get 1 rfl)) fun a hS => ?_
  refine sv_r (v := .int .u32 ((n / 4096 : Nat) : Int)) hS (ni_shr 12 (hS.get 36 rfl) rfl (by simp only [IntKind.bits]; omega) rfl) fun a hS => ?_
  refine sv_r (v := .int .u32 ((n / 4096 % 300 : Nat) : Int)) hS (ni_rem 300 (hS.get 37 rfl) rfl (by decide)) fun a hS => ?_
  refine sv_r (v := .int .i64 ((n / 4096 % 300 : Nat) : Int)) hS (ex_cv (hS.get 38 rfl) (cv_uint32_int _ (by rw [IntKind.wrap_i64]; omega))) fun a hS => ?_
  refine sv_r (v := .int .i64 ((1 + (n / 4096 % 300) : Nat) : Int)) hS (ei_add rfl (hS.get 39 rfl) (by rw [IntKind.wrap_i64]; omega)) fun a hS => ?_
  refine sv_r (v := .int .u32 ((n : Nat) : Int)) hS (ex_mv (hS.get 1 rfl)) fun a hS => ?_
  refine sv_r (v := .int .u32 ((n / 2048 : Nat) : Int)) hS (ni_shr 11 (hS.get 41 rfl) rfl (by simp only [IntKind.bits]; omega) rfl) fun a hS => ?_
  refine sv_r (v := .int .u32 ((n / 2048 % 2 : Nat) : Int)) hS (ei_and (hS.get 42 rfl) rfl (by rw [u32_and1 (by omega) (by omega)]; omega)) fun a hS => ?_
  refine sv_r (v := .bool (decide ((n / 2048 % 2 : Nat) = 1))) hS (ei_eql (hS.get 43 rfl) rfl (by rw [decide_eq_decide]; omega)) fun a hS => ?_
  refine sv_r (v := pt g3 5) hS (ex_fo (hS.get 5 rfl) fo_spec_Media_5 rfl) fun a hS => ?_
  refine sv_st (i := 0) (v := .int .i64 ((1 + (n / 4096 % 300) : Nat) : Int)) (cs' := #[.int .i64 ((m0.version : Nat) : Int), .int .i64 ((m0.target : Nat) : Int), .int .u64 ((m0.seq : Nat) : Int), .int .u64 ((m0.disc : Nat) : Int), .int .i64 ((m0.typ : Nat) : Int), .int .i64 ((1 + (n / 4096 % 300) : Nat) : Int), .bool (m0.precise), .bool (m0.iframe), .bool (m0.closed), .pointer none, .pointer none, .slice none 0 0]) (m' := [⟨g3, #[.int .i64 ((m0.version : Nat) : Int), .int .i64 ((m0.target : Nat) : Int), .int .u64 ((m0.seq : Nat) : Int), .int .u64 ((m0.disc : Nat) : Int), .int .i64 ((m0.typ : Nat) : Int), .int .i64 ((1 + (n / 4096 % 300) : Nat) : Int), .bool (m0.precise), .bool (m0.iframe), .bool (m0.closed), .pointer none, .pointer none, .slice none 0 0], 30, true⟩, ⟨g1, #[.int .i64 0, .int .i64 0, .int .u64 0, .int .u64 0, .int .i64 0, .int .i64 0, .bool false, .bool false, .bool false, .pointer none, .pointer none, .slice none 0 0], 30, true⟩]) hS (su_int _) (hS.get 45 rfl) (hS.get 40 rfl) rfl (show 5 < 12 from by decide) rfl rfl ?_
  intro w7 hty hS
  refine sv_r (v := pt g3 6) hS (ex_fo (hS.get 5 rfl) fo_spec_Media_6 rfl) fun a hS => ?_
  refine sv_st (i := 0) (v := .bool (decide ((n / 2048 % 2 : Nat) = 1))) (cs' := #[.int .i64 ((m0.version : Nat) : Int), .int .i64 ((m0.target : Nat) : Int), .int .u64 ((m0.seq : Nat) : Int), .int .u64 ((m0.disc : Nat) : Int), .int .i64 ((m0.typ : Nat) : Int), .int .i64 ((1 + (n / 4096 % 300) : Nat) : Int), .bool (decide ((n / 2048 % 2 : Nat) = 1)), .bool (m0.iframe), .bool (m0.closed), .pointer none, .pointer none, .slice none 0 0]) (m' := [⟨g3, #[.int .i64 ((m0.version : Nat) : Int), .int .i64 ((m0.target : Nat) : Int), .int .u64 ((m0.seq : Nat) : Int), .int .u64 ((m0.disc : Nat) : Int), .int .i64 ((m0.typ : Nat) : Int), .int .i64 ((1 + (n / 4096 % 300) : Nat) : Int), .bool (decide ((n / 2048 % 2 : Nat) = 1)), .bool (m0.iframe), .bool (m0.closed), .pointer none, .pointer none, .slice none 0 0], 30, true⟩, ⟨g1, #[.int .i64 0, .int .i64 0, .int .u64 0, .int .u64 0, .int .i64 0, .int .i64 0, .bool false, .bool false, .bool false, .pointer none, .pointer none, .slice none 0 0], 30, true⟩]) hS (su_bool _) (hS.get 46 rfl) (hS.get 44 rfl) rfl (show 6 < 12 from by decide) rfl rfl ?_
  intro w8 hty hS
  refine wpList_nil ?_
  replace hS := hS.cut [35, 5, 4, 1, 0]
  refine hQ' _ _ ⟨{ m0 with start := 1 + n / 4096 % 300, precise := decide (n / 2048 % 2 = 1) }, ⟨hm0.version, hm0.target, hm0.seq, hm0.disc, hm0.typ, by show 1 + n / 4096 % 300 ≤ 300; omega, fun h => by have h : 1 + n / 4096 % 300 = 0 := h; omega⟩, hS.pick rfl⟩
 ·intro hb6 Q' hQ'
  have hb6 := of_decide_eq_false hb6
  refine wp_skip ?_
  exact hQ' _ _ ⟨m0, hm0, hS.pick rfl⟩
 ·rintro a w9 ⟨m1, hm1, hS⟩
  show Code.wp _ _ _ _ _
  refine wp_seq ?_
  refine wp_seq ?_
  refine wp_region_lit ?_
  refine sv_r (v := .int .u32 ((n : Nat) : Int)) hS (ex_mv (hS.get 1 rfl)) fun a hS => ?_
  refine sv_r (v := .int .u32 ((n / 8192 : Nat) : Int)) hS (ni_shr 13 (hS.get 47 rfl) rfl (by simp only [IntKind.bits]; omega) rfl) fun a hS => ?_
  refine sv_r (v := .int .u32 ((n / 8192 % 4 : Nat) : Int)) hS (ei_and (hS.get 48 rfl) rfl (by rw [u32_and3 (by omega) (by omega)]; omega)) fun a hS => ?_
  refine sv_r (v := .bool (decide ((n / 8192 % 4 : Nat) = 1))) hS (ei_eql (hS.get 49 rfl) rfl (by rw [decide_eq_decide]; omega)) fun a hS => ?_
  refine wpList_nil ?_
  replace hS := hS.cut [50, 5, 4, 1, 0]
  show Code.wp _ _ _ _ _
  refine if_join (fun a w' => ∃ m : Md, MdOk m ∧ Sv 76 ((5, pt g3 0) :: (4, pt g1 0) :: (1, .int .u32 ((n : Nat) : Int)) :: (0, .slice A len cap) :: []) [⟨g3, m.cells (.slice none 0 0), 30, true⟩, ⟨g1, #[.int .i64 0, .int .i64 0, .int .u64 0, .int .u64 0, .int .i64 0, .int .i64 0, .bool false, .bool false, .bool false, .pointer none, .pointer none, .slice none 0 0], 30, true⟩] (fun _ => False) w a w') (hS.get 50 rfl) ?_ ?_ ?_
  ·intro hb10 Q' hQ'
   have hb10 := of_decide_eq_true hb10
   refine wp_region_lit ?_
   refine sv_r (v := .int .u32 ((n : Nat) : Int)) hS (ex_mv (hS.get 1 rfl)) fun a hS => ?_
   refine sv_r (v := .int .u32 ((n / 32768 : Nat) : Int)) hS (ni_shr 15 (hS.get 51 rfl) rfl (by simp only [IntKind.bits]; omega) rfl) fun a hS => ?_
   refine sv_r (v := .int .u32 ((n / 32768 % 999 : Nat) : Int)) hS (ni_rem 999 (hS.get 52 rfl) rfl (by decide)) fun a hS => ?_
   refine sv_r (v := .int .u32 ((1 + (n / 32768 % 999) : Nat) : Int)) hS (ei_add rfl (hS.get 53 rfl) (by rw [IntKind.wrap_u32]; omega)) fun a hS => ?_
   refine sv_r (v := .int .u64 ((1 + (n / 32768 % 999) : Nat) : Int)) hS (ex_cv (hS.get 54 rfl) (cv_uint32_uint64 _ (by rw [IntKind.wrap_u64]; omega))) fun a hS => ?_
   refine sv_r (v := pt g3 3) hS (ex_fo (hS.get 5 rfl) fo_spec_Media_3 rfl) fun a hS => ?_
   refine sv_st (i := 0) (v := .int .u64 ((1 + (n / 32768 % 999) : Nat) : Int)) (cs' := #[.int .i64 ((m1.version : Nat) : Int), .int .i64 ((m1.target : Nat) : Int), .int .u64 ((m1.seq : Nat) : Int), .int .u64 ((1 + (n / 32768 % 999) : Nat) : Int), .int .i64 ((m1.typ : Nat) : Int), .int .i64 ((m1.start : Nat) : Int), .bool (m1.precise), .bool (m1.iframe), .bool (m1.closed), .pointer none, .pointer none, .slice none 0 0]) (m' := [⟨g3, #[.int .i64 ((m1.version : Nat) : Int), .int .i64 ((m1.target : Nat) : Int), .int .u64 ((m1.seq : Nat) : Int), .int .u64 ((1 + (n / 32768 % 999) : Nat) : Int), .int .i64 ((m1.typ : Nat) : Int), .int .i64 ((m1.start : Nat) : Int), .bool (m1.precise), .bool (m1.iframe), .bool (m1.closed), .pointer none, .pointer none, .slice none 0 0], 30, true⟩, ⟨g1, #[.int .i64 0, .int .i64 0, .int .u64 0, .int .u64 0, .int .i64 0, .int .i64 0, .bool false, .bool false, .bool false, .pointer none, .pointer none, .slice none 0 0], 30, true⟩]) hS (su_uint64 _) (hS.get 56 rfl) (hS.get 55 rfl) rfl (show 3 < 12 from by decide) rfl rfl ?_
   intro w11 hty hS
   refine wpList_nil ?_
   replace hS := hS.cut [50, 5, 4, 1, 0]
   refine hQ' _ _ ⟨{ m1 with disc := 1 + n / 32768 % 999 }, ⟨hm1.version, hm1.target, hm1.seq, by show 1 + n / 32768 % 999 < 1000; omega, hm1.typ, hm1.start, hm1.precise⟩, hS.pick rfl⟩
  ·intro hb10 Q' hQ'
   have hb10 := of_decide_eq_false hb10
   refine wp_skip ?_
   exact hQ' _ _ ⟨m1, hm1, hS.pick rfl⟩
  ·rintro a w12 ⟨m2, hm2, hS⟩
   show Code.wp _ _ _ _ _
   refine wp_seq ?_
   refine wp_seq ?_
   refine wp_region_lit ?_
   refine sv_r (v := .slice A len cap) hS (ex_mv (hS.get 0 rfl)) fun a hS => ?_
   refine sv_r (v := .slice A len cap) hS (ex_mv (hS.get 0 rfl)) fun a hS => ?_
   refine sv_r (v := .int .i64 ((len : Nat) : Int)) hS (ex_len Tryz.underlying22 (hS.get 58 rfl)) fun a hS => ?_
   refine sv_r (v := .int .i64 ((min len 12 : Nat) : Int)) hS (ex_min (m := 12) (hS.get 59 rfl) rfl) fun a hS => ?_
   refine sv_r (v := .slice A (min len 12) cap) hS (ex_slh (E := 23) Tryz.underlying22 Tryz.sizeOf23 (hS.get 57 rfl) (hS.get 60 rfl) (by omega)) fun a hS => ?_
   refine sv_r (v := .int .i64 ((min len 12 : Nat) : Int)) hS (ex_len Tryz.underlying22 (hS.get 61 rfl)) fun a hS => ?_
   refine sv_r (v := .int .i64 0) hS ex_mc fun a hS => ?_
   refine wpList_nil ?_
   replace hS := hS.cut [63, 62, 61, 5, 4, 1]
   show Code.wp _ _ _ _ _
   have hE : Ev 76 ((63, .int .i64 ((0 : Nat) : Int)) :: (62, .int .i64 ((min len 12 : Nat) : Int)) :: (61, .slice A (min len 12) cap) :: (5, pt g3 0) :: (4, pt g1 0) :: (1, .int .u32 ((n : Nat) : Int)) :: []) a := hS.ev.pick rfl
   refine range_wp (N := 76) (n := min len 12) (l := (61, .slice A (min len 12) cap) :: (5, pt g3 0) :: (4, pt g1 0) :: (1, .int .u32 ((n : Nat) : Int)) :: []) (fun k w' => ∃ (sl : Value) (xs : List Sx), xs.length = k ∧ (∀ x ∈ xs, SegOk x.1) ∧ SegsAt w.heap.size sl xs w' ∧ Hv [⟨g3, m2.cells sl, 30, true⟩, ⟨g1, #[.int .i64 0, .int .i64 0, .int .u64 0, .int .u64 0, .int .i64 0, .int .i64 0, .bool false, .bool false, .bool false, .pointer none, .pointer none, .slice none 0 0], 30, true⟩] (fun _ => False) w w') (by omega) hE (⟨.slice none 0 0, [], rfl, (by intro x hx; cases hx), ⟨Own.nil _ _ _ _ _, (by intro x hx; cases hx)⟩, hS.hv⟩) rfl (by decide) (by decide) ?_ ?_
   ·clear hE hS
    rintro k a w13 hk hE ⟨sl, xs, hl, hx, hT, hV⟩ Q' hQ'
    obtain ⟨p, y0, hp, hc0, hy0⟩ := (hA.old hV) k (by omega)
    subst hp
    have hE : Ev 76 ((63, .int .i64 ((k : Nat) : Int)) :: (62, .int .i64 ((min len 12 : Nat) : Int)) :: (61, .slice (some p) (min len 12) cap) :: (5, pt g3 0) :: (4, pt g1 0) :: (1, .int .u32 ((n : Nat) : Int)) :: []) a := hE
    have hS : Sv 76 ((63, .int .i64 ((k : Nat) : Int)) :: (62, .int .i64 ((min len 12 : Nat) : Int)) :: (61, .slice (some p) (min len 12) cap) :: (5, pt g3 0) :: (4, pt g1 0) :: (1, .int .u32 ((n : Nat) : Int)) :: []) [⟨g3, m2.cells sl, 30, true⟩, ⟨g1, #[.int .i64 0, .int .i64 0, .int .u64 0, .int .u64 0, .int .i64 0, .int .i64 0, .bool false, .bool false, .bool false, .pointer none, .pointer none, .slice none 0 0], 30, true⟩] (fun _ => False) w a w13 := hV.sv hE
    refine wp_block ?_
    refine wp_seq ?_
    refine wp_region_lit ?_
    refine sv_r (v := .pointer (some (p.add (k * 1)))) hS (ex_ia (E := 23) Tryz.underlying22 Tryz.sizeOf23 (hS.get 61 rfl) (hS.get 63 rfl) (by omega)) fun a hS => ?_
    refine sv_r (v := .int .u32 ((y0 : Nat) : Int)) hS (ex_ld (hS.get 65 rfl) ld_u32 (by rw [Nat.mul_one]; exact hc0)) fun a hS => ?_
    refine sv_r (v := .int .u32 ((y0 : Nat) : Int)) hS (ex_as (hS.get 66 rfl)) fun a hS => ?_
    refine wpList_nil ?_
    replace hS := hS.cut [7, 63, 62, 61, 5, 4, 1]
    show Code.wp _ _ _ _ _
    refine wp_region_og1 (n := 76) 5 [Asr.eq (pt g3 11), Asr.eq (sl), Asr.eq (.int .u32 ((y0 : Nat) : Int)), Asr.any (fun v w' => ∃ x : Sx, v = .agg x.cells ∧ SegOk x.1 ∧ x.At w'), Asr.any (fun v w' => ∃ (x : Sx) (g : Nat), v = .slice (some ⟨g, 0, none⟩) 1 1 ∧ w'.heap[g]? = some (.cells x.cells 40 (0, 0)) ∧ SegOk x.1 ∧ x.At w')] (by kernel_rfl) (by kernel_rfl) (by kernel_rfl) (by simp) (by kernel_rfl) hS.ev.size ⟨(fun i _ _ v w w' _ ho hp => by obtain ⟨x, h1, h2, h3⟩ := hp; exact ⟨x, h1, h2, h3.keep (only_below0 ho)⟩), (fun i _ _ v w w' _ ho hp => by obtain ⟨x, g, h1, h2, h3, h4⟩ := hp; exact ⟨x, g, h1, hp_below h2 (only_below0 ho), h3, h4.keep (only_below0 ho)⟩), ⟨⟩⟩ ?_ ?_
    ·simp only [List.take_succ_cons, List.take_zero]
     refine ⟨?_, ?_, ?_, ?_, ?_, trivial⟩
     ·intro a wx c
      have e_5 : a.eval (.tmp 5) = pt g3 0 := c.outE (by decide +kernel) (hS.get 5 rfl)
      clear c
      exact og_val (ex_fo e_5 fo_spec_Media_11 rfl) rfl
     ·intro a wx c
      have e_67 : a.eval (.tmp 67) = pt g3 11 := c.slot 0 _ (by decide +kernel) rfl
      have hO := hS.ogc c
      clear c
      exact og_val (ex_ld e_67 lt_sl_spec_Segment (cell_of_heap (v := sl) (hO.at 0 rfl) rfl)) rfl
     ·intro a wx c
      have e_7 : a.eval (.tmp 7) = .int .u32 ((y0 : Nat) : Int) := c.outE (by decide +kernel) (hS.get 7 rfl)
      clear c
      exact og_val (ex_mv e_7) rfl
     ·intro a wx c
      have e_69 : a.eval (.tmp 69) = .int .u32 ((y0 : Nat) : Int) := c.slot 2 _ (by decide +kernel) rfl
      have hO := hS.ogc c
      have hbx := drew_below c.only
      clear c
      exact og_call (ex_call1 cf_laws_segmentOf e_69) (segmentOf_any y0 hy0 _)
     ·intro a wx c
      obtain ⟨x, e_70, hx0, hAx⟩ : ∃ x : Sx, (a.eval (.tmp 70)) = .agg x.cells ∧ SegOk x.1 ∧ x.At wx := c.slot 3 _ (by decide +kernel) rfl
      clear c
      refine og_ext (v := .slice (some ⟨wx.heap.size, 0, none⟩) 1 1) (w' := wx.alloc (.cells x.cells 40)) (by simp only [execOp, List.map_toArray, List.map_cons, List.map_nil, e_70]; unfold Sx.cells; go_simp) ((Below.refl _ _).alloc (Nat.le_refl _) _) ?_
      exact ⟨x, _, rfl, heap_alloc_new _ _, hx0, hAx.keep ((Below.refl _ _).alloc (Nat.le_refl _) _)⟩
    ·intro a w14 c hbw14
     replace hT := hT.ty (TyOnly.of_below (ts := []) hbw14) (by decide)
     obtain ⟨x, gx, e_71, hgx, hx0, hAx⟩ : ∃ (x : Sx) (g : Nat), (a.eval (.tmp 71)) = .slice (some ⟨g, 0, none⟩) 1 1 ∧ w14.heap[g]? = some (.cells x.cells 40 (0, 0)) ∧ SegOk x.1 ∧ x.At w14 := c.slot 4 _ (by decide +kernel) rfl
     replace hS : Sv 76 ((71, .slice (some ⟨gx, 0, none⟩) 1 1) :: (68, sl) :: (1, .int .u32 ((n : Nat) : Int)) :: (4, pt g1 0) :: (5, pt g3 0) :: (61, .slice (some p) (min len 12) cap) :: (62, .int .i64 ((min len 12 : Nat) : Int)) :: (63, .int .i64 ((k : Nat) : Int)) :: (7, .int .u32 ((y0 : Nat) : Int)) :: []) [⟨g3, (m2.cells sl), 30, true⟩, ⟨g1, #[.int .i64 0, .int .i64 0, .int .u64 0, .int .u64 0, .int .i64 0, .int .i64 0, .bool false, .bool false, .bool false, .pointer none, .pointer none, .slice none 0 0], 30, true⟩] (fun _ => False) w a w14 := ((((((((((hS.ogh c).know (c.outE (by decide +kernel) (hS.get 7 rfl))).know (c.outE (by decide +kernel) (hS.get 63 rfl))).know (c.outE (by decide +kernel) (hS.get 62 rfl))).know (c.outE (by decide +kernel) (hS.get 61 rfl))).know (c.outE (by decide +kernel) (hS.get 5 rfl))).know (c.outE (by decide +kernel) (hS.get 4 rfl))).know (c.outE (by decide +kernel) (hS.get 1 rfl))).know (c.slot 1 _ (by decide +kernel) rfl)).know e_71)
     clear c
     simp only [List.drop_succ_cons, List.drop_zero]
     have hTa := hT.ats
     refine sv_append (f := Sx.list) (L := xs) sli_sl_spec_Segment (by decide) (fun _ => rfl) [x] hS (hS.get 68 rfl) (hS.get 71 rfl) hgx rfl rfl (by intro z hz; rw [List.mem_singleton.1 hz]; exact hAx.one) hT.own rfl (by decide) (by omega) (by omega) ?_
     intro a sl' w15 hty hown hS
     replace hTa := hTa.ty hty (by decide)
     replace hAx := hAx.ty hty (by decide)
     refine sv_r (v := pt g3 11) hS (ex_fo (hS.get 5 rfl) fo_spec_Media_11 rfl) fun a hS => ?_
     refine sv_st (i := 0) (v := sl') (cs' := #[.int .i64 ((m2.version : Nat) : Int), .int .i64 ((m2.target : Nat) : Int), .int .u64 ((m2.seq : Nat) : Int), .int .u64 ((m2.disc : Nat) : Int), .int .i64 ((m2.typ : Nat) : Int), .int .i64 ((m2.start : Nat) : Int), .bool (m2.precise), .bool (m2.iframe), .bool (m2.closed), .pointer none, .pointer none, sl']) (m' := [⟨g3, #[.int .i64 ((m2.version : Nat) : Int), .int .i64 ((m2.target : Nat) : Int), .int .u64 ((m2.seq : Nat) : Int), .int .u64 ((m2.disc : Nat) : Int), .int .i64 ((m2.typ : Nat) : Int), .int .i64 ((m2.start : Nat) : Int), .bool (m2.precise), .bool (m2.iframe), .bool (m2.closed), .pointer none, .pointer none, sl'], 30, true⟩, ⟨g1, #[.int .i64 0, .int .i64 0, .int .u64 0, .int .u64 0, .int .i64 0, .int .i64 0, .bool false, .bool false, .bool false, .pointer none, .pointer none, .slice none 0 0], 30, true⟩]) hS (hown.st su_sl_spec_Segment) (hS.get 73 rfl) (hS.get 72 rfl) rfl (show 11 < 12 from by decide) rfl rfl ?_
     intro w16 hty hS
     replace hTa := hTa.ty hty (by decide)
     replace hAx := hAx.ty hty (by decide)
     replace hown := hown.ty hty (by decide)
     refine wpList_nil ?_
     replace hS := hS.cut [1, 4, 5, 61, 62, 63]
     show Q' .normal a w16
     exact hQ' a w16 (hS.ev.pick rfl) (⟨sl', xs ++ [x], by simp [hl], (by intro z hz; rcases List.mem_append.1 hz with hz | hz; exact hx z hz; rw [List.mem_singleton.1 hz]; exact hx0), ⟨hown, hTa.snoc hAx⟩, hS.hv⟩)
   ·clear hE hS
    rintro a w17 hE ⟨sl, xs, hl, hx, hT, hV⟩
    have hS : Sv 76 ((63, .int .i64 ((min len 12 : Nat) : Int)) :: (62, .int .i64 ((min len 12 : Nat) : Int)) :: (61, .slice A (min len 12) cap) :: (5, pt g3 0) :: (4, pt g1 0) :: (1, .int .u32 ((n : Nat) : Int)) :: []) [⟨g3, m2.cells sl, 30, true⟩, ⟨g1, #[.int .i64 0, .int .i64 0, .int .u64 0, .int .u64 0, .int .i64 0, .int .i64 0, .bool false, .bool false, .bool false, .pointer none, .pointer none, .slice none 0 0], 30, true⟩] (fun _ => False) w a w17 := hV.sv hE
    show Code.wp _ _ _ _ _
    refine wp_seq ?_
    refine wp_region_lit ?_
    refine sv_r (v := .agg (m2.cells sl)) hS (ex_lb ag_spec_Media (hS.get 5 rfl) (hS.at 0 rfl) rfl) fun a hS => ?_
    refine sv_sb (i := 1) (m' := [⟨g3, (m2.cells sl), 30, true⟩, ⟨g1, (m2.cells sl), 30, true⟩]) hS ag_spec_Media (hS.get 4 rfl) (hS.get 75 rfl) rfl rfl rfl (m2.one hT.own.one') rfl ?_
    intro w18 hty hS
    replace hT := hT.ty hty (by decide)
    refine wpList_nil ?_
    replace hS := hS.cut [63, 62, 61, 5, 4, 1]
    show Code.wp _ _ _ _ _
    refine wp_ret ?_
    try simp only [Exit.inBlock, Exit.then]
    exact ret_cell hS.ev rfl ag_spec_Media (hS.get 4 rfl) (hS.at 1 rfl) rfl ⟨_, rfl, hS.toBelow, m2, sl, xs, rfl, hm2, hl, hx, hT⟩
end Go.Proofs.YtfonjeoiallhhaaGreatDoor
