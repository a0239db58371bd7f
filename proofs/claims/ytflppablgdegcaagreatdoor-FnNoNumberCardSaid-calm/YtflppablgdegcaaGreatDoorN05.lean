/- Joined: Sl, Ogs, Tz, Rk, Zi. -/
import Derived.Test.YtflppablgdegcaaGreatDoorN04
/- Slices of the call's own over the state Sv: appends, elements, indices; the state without a frame, for loops. -/
namespace Go.Proofs.YtflppablgdegcaaGreatDoor
open Go.RowKit
/-- The state without slots. -/
structure Hv (m : List Bk) (M : Nat → Prop) (w0 w : World) : Prop where
 hp : ∀ b ∈ m, w.heap[b.g]? = some (.cells b.cs b.t (0, 0))
 nd : m.Pairwise fun b c => b.g ≠ c.g
 wr : ∀ b ∈ m, b.o = true → M b.g ∨ w0.heap.size ≤ b.g
 only : Only M w0 w
theorem Sv.hv {N : Nat} {l : List (Nat × Value)} {m : List Bk} {M : Nat → Prop} {w0 w : World} {a : Act} (h : Sv N l m M w0 a w) : Hv m M w0 w := ⟨h.hp, h.nd, h.wr, h.only⟩
theorem Hv.sv {N : Nat} {l : List (Nat × Value)} {m : List Bk} {M : Nat → Prop} {w0 w : World} {a : Act} (h : Hv m M w0 w) (hE : Ev N l a) : Sv N l m M w0 a w := ⟨hE, h.hp, h.nd, h.wr, h.only⟩
theorem Hv.at {m : List Bk} {M : Nat → Prop} {w0 w : World} (h : Hv m M w0 w) (i : Nat) {b : Bk} (hi : m[i]? = some b) : w.heap[b.g]? = some (.cells b.cs b.t (0, 0)) := h.hp b (List.mem_of_getElem? hi)
/-- A text as a slice's element. -/
def strL (s : ByteArray) : List Value := [.string s]
theorem strL_one (s : ByteArray) : ∀ u ∈ strL s, u.oneCell' = true := by
 intro u hu
 rw [List.mem_singleton.1 hu]
 rfl
/-- A slice's type and its element's. -/
structure Sli (T e k bytes : Nat) : Prop where
 u : Tryz.prog.underlying T = some (.slice e)
 i : ∃ (i : TypeInfo) (z : Value), Tryz.prog.info? e = some i ∧ i.zero = some z ∧ i.size = k ∧ i.bytes = bytes ∧ z.cells.size = k
theorem Sli.of {T e k bytes : Nat} {z : Value} (hu : Tryz.prog.underlying T = some (.slice e)) (h : (Tryz.prog.info? e).map (fun i => (i.zero, i.size, i.bytes)) = some (some z, k, bytes)) (hz : z.cells.size = k) : Sli T e k bytes := by
 obtain ⟨i, hi, h0, h1, h2⟩ := info_parts h
 exact ⟨hu, i, z, hi, h0, h1, h2, hz⟩
theorem flat_app {α : Type} (f : α → List Value) (L M : List α) : flat f (L ++ M) = flat f L ++ flat f M := by simp [flat]
section
variable {N : Nat} {l : List (Nat × Value)} {m : List Bk} {M : Nat → Prop} {w0 w w' : World} {a : Act} {ops : Array Oper} {rest : List Oper} {o : Oper} {Q : Exit → Act → World → Prop} {d : Nat} {v u : Value} {x y : Operand} {ty : TypeId} {ps : String} {af : Array Edge} {dst : Option Nat} {gd : Option (Nat × Bool)}
/-- 'append(s, ..)', the new elements in a block of their own. -/
theorem sv_append {α : Type} {f : α → List Value} {T e k bytes n : Nat} {L : List α} {s t gs : Nat} {cs : Array Value} (hT : Sli T e k bytes) (hk : 0 < k) (hf : ∀ x, (f x).length = k) (ys : List α) (h : Sv N l m M w0 a w) (hs : a.eval (.tmp s) = v) (hx : a.eval (.tmp t) = .slice (some ⟨gs, 0, none⟩) n n)
  (hg : w.heap[gs]? = some (.cells cs e (0, 0))) (hcs : cs.toList = flat f ys) (hn : ys.length = n) (h1 : ∀ y ∈ ys, ∀ u ∈ f y, u.oneCell' = true) (hown : Own f e k w w0.heap.size v L) (hm : (m.all fun b => b.t != e) = true) (hd : d < N) (hlen : (L.length + n) * bytes ≤ 140737488355328) (hlen2 : L.length + n ≤ 1000000000)
  (hK : ∀ a' v' w', TyOnly [e] w w' → Own f e k w' w0.heap.size v' (L ++ ys) → Sv N ((d, v') :: l) m M w0 a' w' → wpList Tryz.prog ops Q rest a' w') :
  wpList Tryz.prog ops Q (⟨some d, .call { callee := .builtin .append, args := #[.tmp s, .tmp t], argTypes := #[T, T] }, ty, ps, af, none⟩ :: rest) a w := by
 obtain ⟨i, z, hi, hz, hsize, hby, hzs⟩ := hT.i
 have hfl : (flat f ys).length = n * k := by rw [flat_length hf, hn]
 refine wpList_append_own_at (P := Tryz.prog) (w := w) rfl (.tmp s) (.tmp t) T rfl w0.heap.size e i z k bytes hT.u hi hz hsize hby hzs hk v L.length (flat f L) hs hown ⟨gs, 0, none⟩ n n (flat f ys) hx hfl ?_ ?_ (by unfold maxLen; omega) hlen h.size ?_
 ·intro j u hu
  rw [add_block, Nat.zero_add]
  simp only [World.cell?, hg]
  rw [← hcs] at hu
  simpa using hu
 ·intro u hu
  unfold flat at hu
  obtain ⟨b, hb, hub⟩ := List.mem_flatten.1 hu
  obtain ⟨y, hy, rfl⟩ := List.mem_map.1 hb
  exact h1 y hy u hub
 ·intro v' w' h2 h3 _ h5
  have hon : Only (fun g => v.ownBlock = some g) w w' := Only.of_grown h3 fun g hg => hg
  have hel : ∀ g, v.ownBlock = some g → ∃ cur, w.heap[g]? = some (.cells cur e (0, 0)) := hown.elem
  have hown' : Own f e k w' w0.heap.size v' (L ++ ys) := by
   unfold Own
   rw [flat_app, List.length_append, hn]
   exact h2
  have hty : TyOnly [e] w w' := .of_only hon fun g cs' e' fr' hg h1 => by
   obtain ⟨cur, hc⟩ := hel g hg
   rw [hc] at h1
   injection h1 with h1
   injection h1 with _ h2 _
   simp [h2]
  refine hK _ v' w' hty hown' ((h.slot (h.ev.set hd)).go hon ?_ ?_)
  ·intro b hb hv
   obtain ⟨cur, hc⟩ := hel b.g hv
   have h6 := h.hp b hb
   rw [hc] at h6
   injection h6 with h6
   injection h6 with _ h7 _
   rw [List.all_eq_true] at hm
   have := hm b hb
   rw [← h7] at this
   simp at this
  ·intro g hv hlt
   have := (hown.block_lt g hv).1
   omega
/-- An element's place. -/
theorem ex_ia {T E k s n c i : Nat} {p : Addr} {kk : IntKind} (hu : Tryz.prog.underlying T = some (.slice E)) (hz : ∀ w, (sizeOf E).run Tryz.prog w = .ok k w) (hs : a.eval (.tmp s) = .slice (some p) n c) (hi : a.eval x = .int kk (i : Int)) (hlt : i < n) :
  (execOp a.eval ⟨dst, .indexAddr T (.tmp s) x, ty, ps, af, gd⟩).run Tryz.prog w = .ok (.value (.pointer (some (p.add (i * k))))) w := by
 have hun := run_underlying (P := Tryz.prog) hu
 simp only [execOp, hs, hi]
 refine run_andValue ?_
 simp [Instr.indexAt, asIntOf, hun, hlt, hz]
theorem ex_ia1 {T E s n c i g : Nat} {kk : IntKind} (hu : Tryz.prog.underlying T = some (.slice E)) (hz : ∀ w, (sizeOf E).run Tryz.prog w = .ok 1 w) (hs : a.eval (.tmp s) = .slice (some ⟨g, 0, none⟩) n c) (hi : a.eval x = .int kk (i : Int)) (hlt : i < n) :
  (execOp a.eval ⟨dst, .indexAddr T (.tmp s) x, ty, ps, af, gd⟩).run Tryz.prog w = .ok (.value (pt g i)) w := by
 have h := ex_ia (dst := dst) (ty := ty) (ps := ps) (af := af) (gd := gd) (w := w) hu hz hs hi hlt
 rw [add_block, Nat.zero_add, Nat.mul_one] at h
 exact h
theorem ex_len' {T e : Nat} (hu : Tryz.prog.underlying T = some (.slice e)) {v : Value} {n c : Nat} {p : Option Addr} (hx : a.eval x = v) (hv : v = .slice p n c) : (execOp a.eval ⟨dst, .call { callee := .builtin .len, args := #[x], argTypes := #[T] }, ty, ps, af, gd⟩).run Tryz.prog w = .ok (.value (.int .i64 n)) w := by
 subst hv
 simp only [execOp, resolve, List.map_toArray, List.map_cons, List.map_nil, hx]
 go_simp
/-- The length of a slice of the call's own. -/
theorem ex_lenO {α : Type} {f : α → List Value} {T e k B : Nat} {L : List α} (hu : Tryz.prog.underlying T = some (.slice e)) (hx : a.eval x = v) (ho : Own f e k w B v L) : (execOp a.eval ⟨dst, .call { callee := .builtin .len, args := #[x], argTypes := #[T] }, ty, ps, af, gd⟩).run Tryz.prog w = .ok (.value (.int .i64 L.length)) w := by
 obtain ⟨A, c, hv, _⟩ := ho.shape
 exact ex_len' hu hx hv
end
section
variable {a : Act} {w : World} {dst : Option Nat} {T T' ty : TypeId} {ps : String} {af : Array Edge} {gd : Option (Nat × Bool)} {x y : Operand} {k : IntKind} {n m : Nat}
theorem ex_min {ats : Array TypeId} (hx : a.eval x = .int k n) (hy : a.eval y = .int k m) : (execOp a.eval ⟨dst, .call { callee := .builtin .min, args := #[x, y], argTypes := ats }, ty, ps, af, gd⟩).run Tryz.prog w = .ok (.value (.int k ((min n m : Nat) : Int))) w := by
 simp only [execOp, resolve, List.map_toArray, List.map_cons, List.map_nil, hx, hy]
 go_simp
 omega
/-- 's[:h]'. -/
theorem ex_slh {E z c h : Nat} {A : Option Addr} (hu : Tryz.prog.underlying T = some (.slice E)) (hz : ∀ w, (sizeOf E).run Tryz.prog w = .ok z w) (hx : a.eval x = .slice A n c) (hy : a.eval y = .int k h) (hc : h ≤ c) :
  (execOp a.eval ⟨dst, .slice T x none (some y) none, ty, ps, af, gd⟩).run Tryz.prog w = .ok (.value (.slice A h c)) w := by
 have he : Tryz.prog.elem T = E := by simp [Program.elem, hu]
 have hu' : Tryz.prog.underlying T = some (.slice (Tryz.prog.elem T)) := by rw [he]; exact hu
 have h1 := run_slice_h (P := Tryz.prog) w T A n c hu' k (h : Int) (by omega) (by omega)
 rw [he, hz] at h1
 have h2 : (Instr.sliceAt T (.slice A n c) none (some (.int k (h : Int))) none).run Tryz.prog w = .ok (.slice A h c) w := by
  rw [run_sliceAt_slice (h := hu'), h1]
  have e : (if c = 0 then A else A.map fun x => x.add (0 * z)) = A := by
   split
   ·rfl
   ·cases A <;> simp [Addr.add]
  simp only [Result.andThen, sliced, Int.toNat_natCast, Nat.sub_zero, e]
 simp only [execOp, hx, hy, Option.map_some, Option.map_none]
 exact run_andValue h2
end
section
variable {a : Act} {w : World} {dst : Option Nat} {T T' ty : TypeId} {ps : String} {af : Array Edge} {gd : Option (Nat × Bool)} {x : Operand}
/-- A pointer's type: held against nil. -/
structure Eqp (T : Nat) : Prop where
 eq : ∀ w (o : Option Addr), (binOp .eql T (.pointer o) (.pointer none)).run Tryz.prog w = .ok (.bool o.isNone) w
 ne : ∀ w (o : Option Addr), (binOp .neq T (.pointer o) (.pointer none)).run Tryz.prog w = .ok (.bool o.isSome) w
/-- An interface's type: nil held against nil. -/
structure Eqi (T : Nat) : Prop where
 eq : ∀ w, (binOp .eql T .nilIface .nilIface).run Tryz.prog w = .ok (.bool true) w
 ne : ∀ w, (binOp .neq T .nilIface .nilIface).run Tryz.prog w = .ok (.bool false) w
theorem ex_pe {o : Option Addr} (h : Eqp T) (hx : a.eval x = .pointer o) : (execOp a.eval ⟨dst, .binOp .eql T x (.const (.pointer none)) T', ty, ps, af, gd⟩).run Tryz.prog w = .ok (.value (.bool o.isNone)) w := by
 simp only [execOp, hx]
 simp [eqGuard, Act.eval, h.eq, Result.andThen]
theorem ex_ine (h : Eqi T) (hx : a.eval x = .nilIface) : (execOp a.eval ⟨dst, .binOp .neq T x (.const .nilIface) T', ty, ps, af, gd⟩).run Tryz.prog w = .ok (.value (.bool false)) w := by
 simp only [execOp, hx]
 simp [eqGuard, Act.eval, h.ne, Result.andThen]
end
section
variable {N : Nat} {l : List (Nat × Value)} {m : List Bk} {M : Nat → Prop} {w0 w w' : World} {a : Act} {ops : Array Oper} {rest : List Oper} {o : Oper} {Q : Exit → Act → World → Prop} {d gj gt : Nat} {b b' : Bool} {v u : Value} {x y p q : Operand} {T T' ty : TypeId} {ps : String} {af : Array Edge} {dst : Option Nat} {gd : Option (Nat × Bool)}
/-- A guarded operation: on, off. -/
theorem sv_gon (h : Sv N l m M w0 a w) (hg : o.guard = some (gj, b)) (hgd : (ops[gj]?).bind (·.dst) = some gt) (ht : a.eval (.tmp gt) = .bool b) (hd : o.dst = some d) (hdN : d < N) (hr : (execOp a.eval o).run Tryz.prog w = .ok (.value v) w)
  (hK : ∀ a', Sv N ((d, v) :: l) m M w0 a' w → wpList Tryz.prog ops Q rest a' w) : wpList Tryz.prog ops Q (o :: rest) a w := ev_gon h.ev hg hgd ht hd hdN hr fun a' h' => hK a' (h.slot h')
theorem sv_g (h : Sv N l m M w0 a w) (ht : a.eval (.tmp gt) = .bool b) (hr : (execOp a.eval o).run Tryz.prog w = .ok (.value v) w) (hK : ∀ a', Sv N ((d, v) :: l) m M w0 a' w → wpList Tryz.prog ops Q rest a' w) (hg : o.guard = some (gj, b) := by rfl) (hgd : (ops[gj]?).bind (·.dst) = some gt := by rfl) (hd : o.dst = some d := by rfl) (hdN : d < N := by decide) : wpList Tryz.prog ops Q (o :: rest) a w := sv_gon h hg hgd ht hd hdN hr hK
theorem sv_goff (h : Sv N l m M w0 a w) (hg : o.guard = some (gj, b)) (hgd : (ops[gj]?).bind (·.dst) = some gt) (ht : a.eval (.tmp gt) = .bool b') (hne : (b' == b) = false) (hd : o.dst = some d) (hdN : d < N)
  (hK : ∀ a', Sv N ((d, undef) :: l) m M w0 a' w → wpList Tryz.prog ops Q rest a' w) : wpList Tryz.prog ops Q (o :: rest) a w := ev_goff h.ev hg hgd ht hne hd hdN fun a' h' => hK a' (h.slot h')
/-- A guarded call that leaves the world. -/
theorem sv_gcallq {f : FuncId} {args : Array Value} (h : Sv N l m M w0 a w) (hg : o.guard = some (gj, b)) (hgd : (ops[gj]?).bind (·.dst) = some gt) (ht : a.eval (.tmp gt) = .bool b) (hd : o.dst = some d) (hdN : d < N) (hr : (execOp a.eval o).run Tryz.prog w = .ok (.enter f args) w) (hc : Calls Tryz.prog f args w fun e w' => e = .returned v ∧ w' = w)
  (hK : ∀ a', Sv N ((d, v) :: l) m M w0 a' w → wpList Tryz.prog ops Q rest a' w) : wpList Tryz.prog ops Q (o :: rest) a w :=
 ev_gcall (S := fun u w' => u = v ∧ w' = w) h.ev hg hgd ht hd hdN hr (Calls.mono hc fun e w' ⟨he, hb⟩ => ⟨v, he, rfl, hb⟩) fun a' u w' hS h' => by obtain ⟨rfl, rfl⟩ := hS; exact hK a' (h.slot h')
theorem ex_pickT (hc : a.eval x = .bool true) (hp : a.eval p = v) : (execOp a.eval ⟨dst, .pick x p q, ty, ps, af, gd⟩).run Tryz.prog w = .ok (.value v) w := by
 simp only [execOp, hc, hp]; rfl
theorem ex_pickF (hc : a.eval x = .bool false) (hq : a.eval q = v) : (execOp a.eval ⟨dst, .pick x p q, ty, ps, af, gd⟩).run Tryz.prog w = .ok (.value v) w := by
 simp only [execOp, hc, hq]; rfl
variable {i j : Nat}
theorem ef_lss (hx : a.eval x = .float .f64 i) (hy : a.eval y = .float .f64 j) (hz : (FloatKind.f64.format.order i j == some .lt) = b) : (execOp a.eval ⟨dst, .binOp .lss T x y T', ty, ps, af, gd⟩).run Tryz.prog w = .ok (.value (.bool b)) w := by
 subst hz; simp only [execOp, hx, hy]; rfl
theorem made_one (z : Value) (n : Nat) : madeCells #[z] (n * 1) = (List.replicate n z).toArray := by
 apply Array.ext'
 apply List.ext_getElem?
 intro i
 simp only [madeCells, Nat.mul_one, Array.toList_map, Array.toList_range, List.getElem?_map, List.getElem?_replicate, List.toList_toArray]
 by_cases h : i < n
 ·simp [h, List.getElem?_range, Nat.mod_one]
 ·simp [h]
/-- 'make([]T, n)' of cells of one. -/
theorem ex_make {e bytes n : Nat} {z : Value} {k : IntKind} (hT : Sli T e 1 bytes) (hz : (Tryz.prog.info? e).map (·.zero) = some (some z)) (hz1 : z.cells = #[z]) (hx : a.eval x = .int k n) (hb : bytes * n ≤ 281474976710656) (h63 : n ≤ 9223372036854775807) :
  (execOp a.eval ⟨dst, .makeSlice T x x, ty, ps, af, gd⟩).run Tryz.prog w = .ok (.value (.slice (some ⟨w.heap.size, 0, none⟩) n n)) (w.alloc (.cells (List.replicate n z).toArray e)) := by
 obtain ⟨i, z', hi, hzi, hsize, hby, hzs⟩ := hT.i
 rw [hi, Option.map_some, hzi] at hz
 obtain rfl := Option.some.inj (Option.some.inj hz)
 have hb' : ((bytes * n : Nat) : Int) ≤ 281474976710656 := by omega
 rw [Int.natCast_mul] at hb'
 have hr := run_make (P := Tryz.prog) w T e i z' hT.u hi hzi k k (n : Int) (n : Int) (by omega) (Int.le_refl _) (by rw [hby]; exact hb') (by omega)
 rw [hsize, hz1, Int.toNat_natCast, made_one] at hr
 simp only [execOp, hx]
 exact run_andValue'' hr
end
section
variable {a : Act} {w : World} {dst : Option Nat} {T T' ty : TypeId} {ps : String} {af : Array Edge} {gd : Option (Nat × Bool)} {x y z : Operand} {k : IntKind} {n m i j : Nat} {s : ByteArray}
theorem ex_slen {ats : Array TypeId} (hx : a.eval x = .string s) : (execOp a.eval ⟨dst, .call { callee := .builtin .len, args := #[x], argTypes := #[9] }, ty, ps, af, gd⟩).run Tryz.prog w = .ok (.value (.int .i64 s.size)) w := by
 simp only [execOp, resolve, List.map_toArray, List.map_cons, List.map_nil, hx]
 go_simp
theorem ex_sidx (hx : a.eval x = .string s) (hy : a.eval y = .int k i) (hi : i < s.size) : (execOp a.eval ⟨dst, .index 9 x y, ty, ps, af, gd⟩).run Tryz.prog w = .ok (.value (.int .u8 ((s[i]'hi).toNat : Int))) w := by
 simp only [execOp, hx, hy]
 go_simp
theorem ex_ssh (hx : a.eval x = .string s) (hy : a.eval y = .int k i) (hi : i ≤ s.size) : (execOp a.eval ⟨dst, .slice 9 x none (some y) none, ty, ps, af, gd⟩).run Tryz.prog w = .ok (.value (.string (s.extract 0 i))) w := by
 simp only [execOp, hx, hy, Option.map_some, Option.map_none]
 go_simp
theorem ex_ssl (hx : a.eval x = .string s) (hy : a.eval y = .int k i) (hi : i ≤ s.size) : (execOp a.eval ⟨dst, .slice 9 x (some y) none none, ty, ps, af, gd⟩).run Tryz.prog w = .ok (.value (.string (s.extract i s.size))) w := by
 simp only [execOp, hx, hy, Option.map_some, Option.map_none]
 go_simp
theorem ex_sslh (hx : a.eval x = .string s) (hy : a.eval y = .int k i) (hz : a.eval z = .int k j) (hi : i ≤ j) (hj : j ≤ s.size) : (execOp a.eval ⟨dst, .slice 9 x (some y) (some z) none, ty, ps, af, gd⟩).run Tryz.prog w = .ok (.value (.string (s.extract i j))) w := by
 simp only [execOp, hx, hy, hz, Option.map_some, Option.map_none]
 go_simp
end
/-- 's[i]' of a slice of texts of the call's own. -/
theorem sv_elemS {N : Nat} {l : List (Nat × Value)} {m : List Bk} {M : Nat → Prop} {w0 w : World} {a : Act} {ops : Array Oper} {rest : List Oper} {Q : Exit → Act → World → Prop} {T E s i B n d1 d2 : Nat} {sv : Value} {L : List ByteArray} {x : ByteArray} {ty1 ty2 : TypeId} {ps1 ps2 : String} {af1 af2 : Array Edge} (hu : Tryz.prog.underlying T = some (.slice E)) (hz : ∀ w, (sizeOf E).run Tryz.prog w = .ok 1 w) (hL : Ld E) (h : Sv N l m M w0 a w) (ho : Own strL E 1 w B sv L) (hx : L[n]? = some x) (hs : a.eval (.tmp s) = sv) (hi : a.eval (.tmp i) = .int .i64 n) (h1 : d1 < N) (h2 : d2 < N)
  (hK : ∀ a' p, Sv N ((d2, .string x) :: (d1, .pointer p) :: l) m M w0 a' w → wpList Tryz.prog ops Q rest a' w) :
  wpList Tryz.prog ops Q (⟨some d1, .indexAddr T (.tmp s) (.tmp i), ty1, ps1, af1, none⟩ :: ⟨some d2, .load E (.tmp d1), ty2, ps2, af2, none⟩ :: rest) a w := by
 have hlt : n < L.length := (List.getElem?_eq_some_iff.1 hx).1
 obtain ⟨A, cap, hsv, hA0⟩ := ho.shape
 obtain ⟨g, rfl⟩ := hA0 (by intro e; rw [e] at hlt; simp at hlt)
 have hc := Own.cells_at (f := strL) (fun _ => rfl) Nat.one_pos (hsv ▸ ho) hlt (j := 0) Nat.one_pos
 rw [List.getElem?_eq_getElem hlt] at hx
 rw [Option.some.inj hx] at hc
 refine sv_run (v := .pointer (some ⟨g, n * 1, none⟩)) h rfl rfl h1 ?_ ?_
 ·have h3 := ex_ia (dst := some d1) (ty := ty1) (ps := ps1) (af := af1) (gd := none) (w := w) (i := n) hu hz (hs.trans hsv) hi hlt
  rw [add_block, Nat.zero_add] at h3
  exact h3
 ·intro a' h'
  refine sv_run (v := .string x) h' rfl rfl h2 (ex_ld (h'.get d1 look_eq) hL hc) ?_
  intro a2 h2'
  exact hK a2 _ h2'
/-- A call that turns one known block. -/
theorem sv_callp {N : Nat} {l : List (Nat × Value)} {m m' : List Bk} {M : Nat → Prop} {w0 w : World} {a : Act} {ops : Array Oper} {rest : List Oper} {o : Oper} {Q : Exit → Act → World → Prop} {d g i : Nat} {v : Value} {cs cs' : Array Value} {t : TypeId} {f : FuncId} {args : Array Value} (h : Sv N l m M w0 a w) (hg : o.guard = none) (hd : o.dst = some d) (hdN : d < N) (hr : (execOp a.eval o).run Tryz.prog w = .ok (.enter f args) w)
  (hb : m[i]? = some ⟨g, cs, t, true⟩) (hm : m.set i ⟨g, cs', t, true⟩ = m') (hc : Calls Tryz.prog f args w fun e w' => e = .returned v ∧ w'.heap[g]? = some (.cells cs' t (0, 0)) ∧ Only (fun x => x = g) w w')
  (hK : ∀ a' w', TyOnly [t] w w' → Sv N ((d, v) :: l) m' M w0 a' w' → wpList Tryz.prog ops Q rest a' w') : wpList Tryz.prog ops Q (o :: rest) a w := by
 refine ev_call (S := fun u w' => u = v ∧ w'.heap[g]? = some (.cells cs' t (0, 0)) ∧ Only (fun x => x = g) w w') h.ev hg hd hdN hr (Calls.mono hc fun e w' ⟨he, h1, h2⟩ => ⟨v, he, rfl, h1, h2⟩) fun a' u w' hS h' => ?_
 obtain ⟨rfl, h1, h2⟩ := hS
 refine hK a' w' (.of_set h2 (h.at i hb)) ((h.slot h').put hb hm h1 h2 (fun b _ hne e => hne e) ?_)
 intro g' e1 hlt
 subst e1
 rcases h.wr _ (List.mem_of_getElem? hb) rfl with h3 | h3
 ·exact h3
 ·exact absurd hlt (Nat.not_lt.2 h3)
/-- What a slice's store needs. -/
theorem Own.st {α : Type} {f : α → List Value} {T e k B : Nat} {w : World} {v : Value} {L : List α} (ho : Own f e k w B v L) (hS : ∀ p n c, St T (.slice p n c)) : St T v := by
 obtain ⟨A, c, hv, _⟩ := ho.shape
 rw [hv]
 exact hS _ _ _
theorem Own.ty {α : Type} {f : α → List Value} {e k B : Nat} {w w' : World} {v : Value} {L : List α} {ts : List TypeId} (ho : Own f e k w B v L) (h : TyOnly ts w w') (he : (ts.all fun u => u != e) = true) : Own f e k w' B v L := h.own ho he
theorem U32s.old {w0 w : World} {A : Option Addr} {len : Nat} (h : U32s w0 A len) {m : List Bk} (hv : Hv m (fun _ => False) w0 w) : U32s w A len := h.below (hv.only.below (Nat.le_refl _) fun _ _ h => h)
end Go.Proofs.YtflppablgdegcaaGreatDoor
/- Regions that draw, with a chain of stores into one block: the rule where an assertion may lean on what the other operation has shown. -/
namespace Go.Proofs.YtflppablgdegcaaGreatDoor.G2
open Go.RowKit
section
variable {P : Program} {ops : Array Oper} {Q : Exit → Act → World → Prop}
theorem og_anyS (hok : ogOk ops = true) (a0 : Act) (w0 : World) (E : Nat → Nat → Prop) (Φ : Nat → Value → World → Prop)
  (hsl : ∀ (i : Nat) (o : Oper) d, ops[i]? = some o → o.dst = some d → d < a0.tmps.size)
  (hnone : ∀ (i : Nat) (o : Oper) v w, ops[i]? = some o → o.dst = none → Φ i v w → Φ i undef w)
  (hst : ∀ i j u v w w', Only (fun g => ∃ e, E e g) w0 w → Only (E i) w w' → Φ i u w' → ahead ops j i = false → j ≠ i → Φ j v w → Φ j v w')
  (hop : ∀ (i : Nat) (o : Oper), ops[i]? = some o → ∀ a w, OgCtx ops a0 w0 E Φ i a w → wpOp P ops Q i (OgPost E Φ i o a w) a w)
  (hend : ∀ a w, OgEnd ops a0 w0 E Φ a w → Q .normal a w) :
  ∀ (fuel : Nat) (L : Array Bool) (a : Act) (w : World), (L.toList.filter (! ·)).length ≤ fuel → OgInv ops a0 w0 E Φ L a w → wpAny P .any ops Q fuel L a w := by
 have fin : ∀ (L : Array Bool) (a : Act) (w : World), OgInv ops a0 w0 E Φ L a w → Region.ready .any ops L = [] → Q .normal a w := by
  intro L a w h hr
  have hall := ready_nil hok h.len hr
  refine hend a w ⟨h.defers, h.size, fun j o hj => h.slot j o (hall j (Array.getElem?_eq_some_iff.1 hj).1) hj, fun t ht => h.out t fun j o hj hd => absurd hd (ht j o hj), h.only.mono fun g _ ⟨e, _, he⟩ => ⟨e, he⟩⟩
 intro fuel
 induction fuel with
 | zero =>
  intro L a w hf h
  have hr : Region.ready .any ops L = [] := by
   cases hr : Region.ready .any ops L with
   | nil => rfl
   | cons i r =>
    obtain ⟨o, ho, hL, _⟩ := mem_ready (ops := ops) (L := L) (i := i) (md := .any) (by rw [hr]; simp)
    have hlt : i < L.size := by have := (Array.getElem?_eq_some_iff.1 ho).1; have := h.len; omega
    have : L[i] ∈ L.toList.filter (! ·) := by
     rw [List.mem_filter]
     refine ⟨by simp, ?_⟩
     simp only [Array.getD_eq_getD_getElem?, Array.getElem?_eq_getElem hlt, Option.getD_some] at hL
     simp [hL]
    have := List.length_pos_of_mem this
    omega
  exact ⟨hr, fin L a w h hr⟩
 | succ fuel ih =>
  intro L a w hf h
  refine ⟨fin L a w h, fun i hi => ?_⟩
  obtain ⟨o, ho, hL, hedge⟩ := mem_ready hi
  have hlt : i < L.size := by have := (Array.getElem?_eq_some_iff.1 ho).1; have := h.len; omega
  have hLf : L.getD i false = false := by
   simp only [Array.getD_eq_getD_getElem?, Array.getElem?_eq_getElem hlt, Option.getD_some] at hL ⊢
   exact hL
  have hanc : ∀ j, ahead ops i j = true → L.getD j false = true := by
   intro j hj
   obtain ⟨e, he, hb, r⟩ := ahead_edge ho (og_edges hok ho) hj
   have hLe := hedge e he hb
   rcases r with r | r
   ·rw [← r]; exact hLe
   ·exact h.closed _ _ hLe r
  have hctx : OgCtx ops a0 w0 E Φ i a w := by
   refine ⟨h.defers, h.size, fun j o' hj ho' => h.slot j o' (hanc j hj) ho', fun t ht => h.out t fun j o' ho' hd => ?_, h.only.mono fun g _ ⟨e, _, he⟩ => ⟨e, he⟩, fun g hg he => h.only.block g hg fun ⟨e, hLe, hE⟩ => ?_⟩
   ·rcases ht j o' ho' hd with rfl | hj
    ·exact hLf
    ·cases hLj : L.getD j false with
     | false => rfl
     | true => rw [h.closed j i hLj hj] at hLf; cases hLf
   ·rcases he e hE with rfl | hj
    ·rw [hLe] at hLf; cases hLf
    ·rw [h.closed e i hLe hj] at hLf; cases hLf
  refine wpOp_mono ?_ (hop i o ho a w hctx)
  rintro a' w' ⟨v, rfl, honly, hΦ⟩
  have hget : ∀ j, (L.setIfInBounds i true).getD j false = true ↔ (j = i ∨ L.getD j false = true) := by
   intro j
   simp only [Array.getD_eq_getD_getElem?]
   by_cases hji : j = i
   ·subst hji
    simp [hlt]
   ·rw [Array.getElem?_setIfInBounds_ne (fun e => hji e.symm)]
    simp [hji]
  refine ih _ _ _ ?_ ⟨?_, ?_, ?_, ?_, ?_, ?_, ?_⟩
  ·have h1 : (L.setIfInBounds i true).toList = L.toList.set i true := by simp
   rw [h1]
   have h2 : L.toList = L.toList.take i ++ L[i] :: L.toList.drop (i + 1) := by
    rw [show L[i] = L.toList[i] from by simp, List.getElem_cons_drop]; simp
   have hLi : L[i] = false := by
    simp only [Array.getD_eq_getD_getElem?, Array.getElem?_eq_getElem hlt, Option.getD_some] at hLf
    exact hLf
   have h3 : L.toList.set i true = L.toList.take i ++ true :: L.toList.drop (i + 1) := List.set_eq_take_append_cons_drop .. |>.trans (by simp [hlt])
   rw [h3]
   rw [h2, hLi] at hf
   simp only [List.filter_append, List.filter_cons, List.length_append] at hf ⊢
   simp at hf ⊢
   omega
  ·cases hd : o.dst <;> simpa [Act.put, hd] using h.defers
  ·cases hd : o.dst <;> simpa [Act.put, hd] using h.size
  ·simpa using h.len
  ·intro k j hk hj
   rw [hget] at hk ⊢
   rcases hk with rfl | hk
   ·exact .inr (hanc j hj)
   ·exact .inr (h.closed k j hk hj)
  ·intro j o' hj ho'
   rw [hget] at hj
   by_cases hji : j = i
   ·subst hji
    obtain rfl : o = o' := by rw [ho] at ho'; exact Option.some.inj ho'
    rw [slotOf_put_same (a := a) (o := o) (v := v) fun d hd => by rw [h.size]; exact hsl j o d ho hd]
    cases hd : o.dst with
    | none => exact hnone j o v w' ho hd hΦ
    | some d => exact hΦ
   ·have hLj : L.getD j false = true := hj.resolve_left hji
    rw [slotOf_put_other fun d hd hd' => hji (og_dst hok ho' ho hd' hd)]
    refine hst i j v _ w w' (h.only.mono fun g _ ⟨e, _, he⟩ => ⟨e, he⟩) honly hΦ ?_ hji (h.slot j o' hLj ho')
    cases ha : ahead ops j i with
    | false => rfl
    | true => rw [h.closed j i hLj ha] at hLf; cases hLf
  ·intro t ht
   have hne : ∀ d, o.dst = some d → d ≠ t := by
    intro d hd e
    subst e
    have := ht i o ho hd
    rw [(hget i).2 (.inl rfl)] at this
    cases this
   have : (a.put o.dst v).tmps[t]? = a.tmps[t]? := by
    cases hd : o.dst with
    | none => rfl
    | some d => simp [Act.put, Array.getElem?_setIfInBounds_ne (hne d hd)]
   rw [this]
   refine h.out t fun j o' ho' hd => ?_
   have := ht j o' ho' hd
   cases hLj : L.getD j false with
   | false => rfl
   | true => rw [(hget j).2 (.inr hLj)] at this; cases this
  ·refine (h.only.trans honly).mono fun g _ hg => ?_
   rcases hg with ⟨e, he, hE⟩ | hE
   ·exact ⟨e, (hget e).2 (.inr he), hE⟩
   ·exact ⟨i, (hget i).2 (.inl rfl), hE⟩
/-- THE RULE. -/
theorem wp_region_ogS {id : Nat} {a0 : Act} {w : World} (hm : P.follows .mixedOrders = true) (hok : ogOk ops = true) (E : Nat → Nat → Prop) (Φ : Nat → Value → World → Prop)
  (hsl : ∀ (i : Nat) (o : Oper) d, ops[i]? = some o → o.dst = some d → d < a0.tmps.size)
  (hnone : ∀ (i : Nat) (o : Oper) v w, ops[i]? = some o → o.dst = none → Φ i v w → Φ i undef w)
  (hst : ∀ i j u v w1 w', Only (fun g => ∃ e, E e g) w.drew w1 → Only (E i) w1 w' → Φ i u w' → ahead ops j i = false → j ≠ i → Φ j v w1 → Φ j v w')
  (hop : ∀ (i : Nat) (o : Oper), ops[i]? = some o → ∀ a1 w1, OgCtx ops a0 w.drew E Φ i a1 w1 → wpOp P ops Q i (OgPost E Φ i o a1 w1) a1 w1)
  (hend : ∀ a1 w1, OgEnd ops a0 w.drew E Φ a1 w1 → Q .normal a1 w1) : (Code.region id ops true).wp P Q a0 w := by
 refine wp_region_any hm ?_
 refine og_anyS hok a0 w.drew E Φ hsl hnone hst hop hend ops.size _ a0 w.drew ?_ ?_
 ·exact Nat.le_trans (List.length_filter_le _ _) (by simp)
 ·have hf : ∀ j, (Array.replicate ops.size false).getD j false = false := by
   intro j
   simp only [Array.getD_eq_getD_getElem?, Array.getElem?_replicate]
   split <;> rfl
  refine ⟨rfl, rfl, by simp, ?_, ?_, fun _ _ => rfl, Only.refl _ _⟩
  ·intro i j h; rw [hf i] at h; cases h
  ·intro j o h; rw [hf j] at h; cases h
end
/-- What is known of an operation: its value; something of its value and the world; of a store, that it and those ahead of it are done. -/
inductive Ast where
 | eq (v : Value)
 | any (p : Value → World → Prop)
 | sto (k : Nat)
def Ast.holds (g : Nat) (T : TypeId) (n : Nat) (cs : Nat → Array Value) : Ast → Value → World → Prop
 | .eq u, v, _ => v = u
 | .any p, v, w => p v w
 | .sto k, _, w => ∃ m, k ≤ m ∧ m ≤ n ∧ w.heap[g]? = some (.cells (cs m) T (0, 0))
def astAt (g : Nat) (T : TypeId) (n : Nat) (cs : Nat → Array Value) (As : List Ast) (i : Nat) (v : Value) (w : World) : Prop := match As[i]? with | some A => A.holds g T n cs v w | none => True
def astE (g : Nat) (As : List Ast) (i : Nat) (g' : Nat) : Prop := (match As[i]? with | some (.sto _) => True | _ => False) ∧ g' = g
/-- Stores lead in order; the slots fit. -/
def astFit (ops : Array Oper) (As : List Ast) (N : Nat) : Bool :=
 As.length == ops.size && (ops.toList.zipIdx.all fun (o, i) => (match o.dst with | some d => decide (d < N) | none => true) && (match As[i]?, o.dst with | some (.sto _), none => true | some (.sto _), some _ => false | some _, none => false | _, _ => true)) &&
 (List.range ops.size).all fun i => (List.range ops.size).all fun j => match As[i]?, As[j]? with | some (.sto a), some (.sto b) => ahead ops j i || i == j || decide (b ≤ a) | _, _ => true
theorem wp_region_sto {P : Program} {id N : Nat} {l : List Oper} {Q : Exit → Act → World → Prop} {a0 : Act} {w : World} (As : List Ast) (g : Nat) (T : TypeId) (n : Nat) (cs : Nat → Array Value) (hm : P.follows .mixedOrders = true) (hok : ogOk l.toArray = true) (hfit : astFit l.toArray As N = true) (hN : a0.tmps.size = N)
  (hany : ∀ p : Value → World → Prop, Ast.any p ∈ As → ∀ v w1 w2, Only (fun g' => g' = g) w1 w2 → p v w1 → p v w2)
  (hops : OgOps P l.toArray Q a0 w.drew (astE g As) (astAt g T n cs As) 0 l)
  (hend : ∀ a1 w1, OgEnd l.toArray a0 w.drew (astE g As) (astAt g T n cs As) a1 w1 → Q .normal a1 w1) : (Code.region id l.toArray true).wp P Q a0 w := by
 unfold astFit at hfit
 simp only [Bool.and_eq_true] at hfit
 obtain ⟨⟨hlen, hfit1⟩, hfit2⟩ := hfit
 rw [List.all_eq_true] at hfit1 hfit2
 have hone : ∀ (i : Nat) (o : Oper), l.toArray[i]? = some o → (o, i) ∈ l.toArray.toList.zipIdx := fun i o ho => by
  rw [List.mem_zipIdx_iff_getElem?]
  simpa using ho
 refine wp_region_ogS hm hok (astE g As) (astAt g T n cs As) ?_ ?_ ?_ ?_ hend
 ·intro i o d ho hd
  have h1 := hfit1 _ (hone i o ho)
  simp only [hd, Bool.and_eq_true, decide_eq_true_eq] at h1
  rw [hN]; exact h1.1
 ·intro i o v w1 ho hd h
  have h1 := hfit1 _ (hone i o ho)
  unfold astAt at h ⊢
  simp only [hd, Bool.and_eq_true] at h1
  cases hA : As[i]? with
  | none => trivial
  | some A =>
   rw [hA] at h h1
   cases A with
   | sto k => exact h
   | eq v => exact (by simpa using h1.2)
   | any p => exact (by simpa using h1.2)
 ·intro i j u v w1 w2 h0 h1 h2 hah hji h3
  unfold astAt at h2 h3 ⊢
  cases hj : As[j]? with
  | none => trivial
  | some B =>
   rw [hj] at h3
   cases B with
   | eq v => exact h3
   | any p =>
    refine hany p (List.mem_of_getElem? hj) v w1 w2 (h1.mono fun g' _ hg => hg.2) h3
   | sto b =>
    cases hi : As[i]? with
    | none =>
     obtain ⟨m, hm1, hm2, hm3⟩ := h3
     refine ⟨m, hm1, hm2, ?_⟩
     rw [h1.block g (Array.getElem?_eq_some_iff.1 hm3).1 (fun hg => by unfold astE at hg; rw [hi] at hg; exact hg.1)]
     exact hm3
    | some A =>
     cases A with
     | sto a =>
      rw [hi] at h2
      obtain ⟨m, hm1, hm2, hm3⟩ := h2
      refine ⟨m, ?_, hm2, hm3⟩
      have hil : i < l.toArray.size := by
       have := (List.getElem?_eq_some_iff.1 hi).1
       rw [eq_of_beq hlen] at this; exact this
      have hjl : j < l.toArray.size := by
       have := (List.getElem?_eq_some_iff.1 hj).1
       rw [eq_of_beq hlen] at this; exact this
      have h4 := hfit2 i (List.mem_range.2 hil)
      rw [List.all_eq_true] at h4
      have h5 := h4 j (List.mem_range.2 hjl)
      rw [hi, hj] at h5
      simp only [hah, Bool.false_or, Bool.or_eq_true, beq_iff_eq, decide_eq_true_eq] at h5
      rcases h5 with h5 | h5
      ·exact absurd h5.symm hji
      ·omega
     | eq x =>
      obtain ⟨m, hm1, hm2, hm3⟩ := h3
      refine ⟨m, hm1, hm2, ?_⟩
      rw [h1.block g (Array.getElem?_eq_some_iff.1 hm3).1 (fun hg => by unfold astE at hg; rw [hi] at hg; exact hg.1)]
      exact hm3
     | any x =>
      obtain ⟨m, hm1, hm2, hm3⟩ := h3
      refine ⟨m, hm1, hm2, ?_⟩
      rw [h1.block g (Array.getElem?_eq_some_iff.1 hm3).1 (fun hg => by unfold astE at hg; rw [hi] at hg; exact hg.1)]
      exact hm3
 ·intro i o hi a1 w1 c
  have hi' : l[i]? = some o := by simpa using hi
  have := hops.get l 0 i o hi' a1 w1 (by rw [Nat.zero_add]; exact c)
  rw [Nat.zero_add] at this
  cases hg : o.guard with
  | some gw => rw [hg] at this; exact this
  | none =>
   rw [hg] at this
   dsimp only at this
   unfold wpOp
   rw [hi]
   simp only [Region.wanted, hg, if_true]
   exact .inl this
theorem og_sto {g n k m m' i t off T' : Nat} {T : TypeId} {cs : Nat → Array Value} {As : List Ast} {v : Value} {y : Operand} {ty : TypeId} {ps : String} {af : Array Edge} {a : Act} {w : World} {Q : Exit → Act → World → Prop} (hA : As[i]? = some (.sto k)) (hg : w.heap[g]? = some (.cells (cs m) T (0, 0))) (hS : St T' v) (hx : a.eval (.tmp t) = pt g off) (hy : a.eval y = v) (hoff : off < (cs m).size) (hset : (cs m).setIfInBounds off v = cs m') (hk : k ≤ m') (hn : m' ≤ n) :
  (⟨none, .store T' (.tmp t) y, ty, ps, af, none⟩ : Oper).wp Tryz.prog a w (OgPost (astE g As) (astAt g T n cs As) i ⟨none, .store T' (.tmp t) y, ty, ps, af, none⟩ a w) Q := by
 have hc : w.cell? ⟨g, off, none⟩ = some ((cs m)[off]'hoff) := cell_of_heap hg (by simp [hoff])
 have hr := hS w ⟨g, off, none⟩ _ hc (frozen_of_heap hg (Array.getElem?_eq_getElem hoff))
 unfold Oper.wp
 have hrun : (execOp a.eval ⟨none, .store T' (.tmp t) y, ty, ps, af, none⟩).run Tryz.prog w = .ok .skip (w.setCell ⟨g, off, none⟩ v) := by
  simp only [execOp, hx, hy]
  simp [pt] at hr ⊢
  simp [hr, Result.andThen]
 rw [hrun]
 refine ⟨undef, rfl, ?_, ?_⟩
 ·refine ⟨rfl, rfl, rfl, by simp, fun g' hg' hne => ?_⟩
  exact Below.heap_setCell _ _ _ _ (fun e => hne ⟨by rw [hA]; trivial, e⟩)
 ·unfold astAt
  rw [hA]
  exact ⟨m', hk, hn, by rw [← hset]; exact Lib.heap_setCell_same (i := off) hg v⟩
section
variable {N : Nat} {l : List (Nat × Value)} {m : List Bk} {M : Nat → Prop} {w00 w w1 : World} {a0 a : Act} {ops : Array Oper} {Φ : Nat → Value → World → Prop} {i gp : Nat} {As : List Ast}
theorem _root_.Go.Proofs.YtflppablgdegcaaGreatDoor.Sv.neq (h : Sv N l m M w00 a0 w) {b b' : Bk} (i j : Nat) (hi : m[i]? = some b) (hj : m[j]? = some b') (hij : i ≠ j) : b.g ≠ b'.g := by
 obtain ⟨hi1, hi2⟩ := List.getElem?_eq_some_iff.1 hi
 obtain ⟨hj1, hj2⟩ := List.getElem?_eq_some_iff.1 hj
 rcases Nat.lt_or_ge i j with hlt | hge
 ·have := List.pairwise_iff_getElem.1 h.nd i j hi1 hj1 hlt
  rw [hi2, hj2] at this; exact this
 ·have := List.pairwise_iff_getElem.1 h.nd j i hj1 hi1 (by omega)
  rw [hi2, hj2] at this; exact fun e => this e.symm
theorem sto_first (h : Sv N l m M w00 a0 w) (c : OgCtx ops a0 w.drew (astE gp As) Φ i a w1) {b : Bk} (k : Nat) (hk : m[k]? = some b) (hb : b.g = gp) (hE : ((List.range As.length).all fun e => match As[e]? with | some (.sto _) => e == i || ahead ops e i | _ => true) = true) : w1.heap[gp]? = some (.cells b.cs b.t (0, 0)) := by
 have h1 := h.at k hk
 rw [hb] at h1
 rw [c.block gp (Array.getElem?_eq_some_iff.1 h1).1 ?_]
 ·exact h1
 ·intro e he
  unfold astE at he
  rw [List.all_eq_true] at hE
  cases hA : As[e]? with
  | none => rw [hA] at he; exact he.1.elim
  | some A =>
   have hlt := (List.getElem?_eq_some_iff.1 hA).1
   have h2 := hE e (List.mem_range.2 hlt)
   rw [hA] at he h2
   cases A with
   | sto k =>
    simp only [Bool.or_eq_true, beq_iff_eq] at h2
    exact h2
   | eq v => exact he.1.elim
   | any p => exact he.1.elim
theorem OgEnd.outS (c : OgEnd ops a0 w (astE gp As) Φ a w1) {t : Nat} {v : Value} (h : (ops.toList.all fun o => o.dst != some t) = true) (hv : a0.eval (.tmp t) = v) : a.eval (.tmp t) = v := by
 have := c.out t (fun j o ho hd => by
  rw [List.all_eq_true] at h
  have h1 := h o (by have := Array.mem_of_getElem? ho; simpa using this)
  simp [hd] at h1)
 rw [← hv]
 simp only [Act.eval, Array.getD_eq_getD_getElem?, this]
/-- Behind the region. -/
theorem sto_end (h : Sv N l m M w00 a0 w) (c : OgEnd ops a0 w.drew (astE gp As) Φ a w1) {i : Nat} {cs cs' : Array Value} {T : TypeId} {m' : List Bk} (hb : m[i]? = some ⟨gp, cs, T, true⟩) (hm : m.set i ⟨gp, cs', T, true⟩ = m') (hg : w1.heap[gp]? = some (.cells cs' T (0, 0))) : Sv N [] m' M w00 a w1 ∧ TyOnly [T] w w1 := by
 have ho : Only (fun x => x = gp) w w1 := ⟨c.only.os, c.only.tape, c.only.output, c.only.size, fun g hg hne => c.only.block g hg (fun ⟨e, he⟩ => hne he.2)⟩
 refine ⟨?_, .of_set ho (h.at i hb)⟩
 have h1 := h.put (w' := w1) hb hm hg ho (fun b _ hne e => hne e) (fun g' e hlt => by
  subst e
  rcases h.wr _ (List.mem_of_getElem? hb) rfl with h2 | h2
  ·exact h2
  ·exact absurd hlt (Nat.not_lt.2 h2))
 exact h1.slot ⟨by rw [c.size]; exact h.ev.size, by rw [c.defers]; exact h.ev.defers, fun t v hv => by cases hv⟩
end
end Go.Proofs.YtflppablgdegcaaGreatDoor.G2
/- Facts on slices' types. Printed by wip/tools/gen_tz.py. -/
set_option maxRecDepth 100000
namespace Go.Proofs.YtflppablgdegcaaGreatDoor
open Go.RowKit
theorem sli_sl_impl_Segment : Sli 36 67 11 160 := Sli.of (z := .agg #[.int .u64 0, .string ⟨#[]⟩, .string ⟨#[]⟩, .float .f64 0, .int .i64 0, .int .i64 0, .slice none 0 0, .slice none 0 0, .slice none 0 0, .bool false, .string ⟨#[]⟩]) Tryz.underlying36 (by kernel_rfl) rfl
theorem sli_sl_p_m3u8_MediaSegment : Sli 79 125 1 8 := Sli.of (z := .pointer none) Tryz.underlying79 (by kernel_rfl) rfl
theorem sli_sl_string : Sli 46 9 1 16 := Sli.of (z := .string ⟨#[]⟩) Tryz.underlying46 (by kernel_rfl) rfl
theorem eqp_p_m3u8_Key : Eqp 85 := ⟨by intro w o; cases o <;> go_simp, by intro w o; cases o <;> go_simp⟩
theorem eqp_p_m3u8_Map : Eqp 86 := ⟨by intro w o; cases o <;> go_simp, by intro w o; cases o <;> go_simp⟩
theorem eqp_p_m3u8_SCTE : Eqp 119 := ⟨by intro w o; cases o <;> go_simp, by intro w o; cases o <;> go_simp⟩
theorem eqp_p_m3u8_MediaSegment : Eqp 125 := ⟨by intro w o; cases o <;> go_simp, by intro w o; cases o <;> go_simp⟩
theorem eqi_error : Eqi 58 := ⟨by intro w; go_simp, by intro w; go_simp⟩
theorem lt_p_m3u8_MediaSegment : Ld 125 := by intro w p v h; go_simp
theorem su_p_m3u8_MediaSegment (p : Option Addr) : St 125 (.pointer p) := by intro w q u hc hf; simp only [Instr.storeAt, Instr.sureAddr]; go_simp
end Go.Proofs.YtflppablgdegcaaGreatDoor
/- Small helpers: texts of one sign, bytes that came in, texts by their last byte. -/
namespace Go.Proofs.YtflppablgdegcaaGreatDoor
open Go.RowKit
theorem ex_chr1 {a : Act} {w : World} {dst : Option Nat} {ty : TypeId} {ps : String} {af : Array Edge} {gd : Option (Nat × Bool)} {x : Operand} {n : Nat} (hx : a.eval x = .int .i32 (n : Int)) (h1 : n < 128) : (execOp a.eval ⟨dst, .convert 21 9 x, ty, ps, af, gd⟩).run Tryz.prog w = .ok (.value (.string ⟨#[UInt8.ofNat n]⟩)) w := by
 have hr := run_convert_int_string (P := Tryz.prog) w 21 9 .i32 (n : Int) (by simp [Tryz.underlying21]) Tryz.underlying9
 rw [← chr_eq, chr_ascii n h1] at hr
 simp only [execOp, hx]
 exact run_andValue hr
theorem cv_uint8_int32 (n : Nat) (h : n < 256) : Cv 5 21 (.int .u8 (n : Int)) (.int .i32 (n : Int)) := by
 have hw : IntKind.i32.wrap (n : Int) = n := by rw [IntKind.wrap_i32]; omega
 intro w
 go_simp
def U8s (w : World) (A : Option Addr) (len : Nat) : Prop := ∀ j, j < len → ∃ (a : Addr) (x : Nat), A = some a ∧ w.cell? (a.add j) = some (.int .u8 x) ∧ x < 256
theorem U8s.below {w w' : World} {A : Option Addr} {len : Nat} (h : U8s w A len) (hb : Below w.heap.size w w') : U8s w' A len := fun j hj => by
 obtain ⟨a, x, ha, hc, hx⟩ := h j hj
 refine ⟨a, x, ha, ?_, hx⟩
 rw [World.cell?_of_block (w := w)]
 ·exact hc
 ·exact hb.block _ (World.block_lt_of_cell? w _ hc)
theorem flat_set {α : Type} {f : α → List Value} {k : Nat} (hf : ∀ x, (f x).length = k) (hk : 0 < k) (L : List α) {i j : Nat} {x x' : α} {u : Value} (hx : L[i]? = some x) (hj : j < k) (hu : f x' = (f x).set j u) : flat f (L.set i x') = (flat f L).set (i * k + j) u := by
 have hil : i < L.length := (List.getElem?_eq_some_iff.1 hx).1
 apply List.ext_getElem?
 intro t
 rw [flat_get hf hk, List.getElem?_set, List.getElem?_set, flat_get hf hk]
 by_cases e : i = t / k
 ·subst e
  rw [if_pos rfl, if_pos hil, hx]
  show (f x')[t % k]? = _
  rw [hu, List.getElem?_set]
  have hlt : t / k * k + j < (flat f L).length := by
   rw [flat_length hf]
   calc t / k * k + j < t / k * k + k := by omega
    _ = (t / k + 1) * k := by rw [Nat.add_mul, Nat.one_mul]
    _ ≤ L.length * k := Nat.mul_le_mul_right _ hil
  by_cases e2 : j = t % k
  ·subst e2
   rw [if_pos rfl, if_pos (by rw [hf]; exact hj)]
   rw [if_pos (by rw [Nat.mul_comm]; exact Nat.div_add_mod t k), if_pos hlt]
  ·rw [if_neg e2, if_neg (fun e3 => e2 (by have h1 := Nat.div_add_mod t k; rw [Nat.mul_comm] at h1; omega))]
   rfl
 ·rw [if_neg e, if_neg (fun e3 => e (by rw [← e3, Nat.mul_comm, Nat.mul_add_div hk, Nat.div_eq_of_lt hj, Nat.add_zero]))]
theorem Own.setCell {α : Type} {f : α → List Value} {e : TypeId} {k B g n cap i j : Nat} {w w' : World} {L : List α} {x x' : α} {u : Value} (hf : ∀ x, (f x).length = k) (hk : 0 < k) (h : Own f e k w B (.slice (some ⟨g, 0, none⟩) n cap) L) (hx : L[i]? = some x) (hj : j < k) (hu : f x' = (f x).set j u) {cur : Array Value} (hg : w.heap[g]? = some (.cells cur e (0, 0))) (hg' : w'.heap[g]? = some (.cells (cur.setIfInBounds (i * k + j) u) e (0, 0))) : Own f e k w' B (.slice (some ⟨g, 0, none⟩) n cap) (L.set i x') := by
 have hil : i < L.length := (List.getElem?_eq_some_iff.1 hx).1
 refine ⟨by rw [flat_length hf], ?_⟩
 rcases h.2 with ⟨h1, _⟩ | ⟨g1, cap1, cur1, hv, hb, hh, hn, hm, hs, ht⟩
 ·cases h1
 ·injection hv with h1 h2 h3
  injection h1 with h1
  injection h1 with h1 _ _
  subst h1 h2 h3
  rw [hg] at hh
  injection hh with hh
  injection hh with hh _ _
  subst hh
  refine .inr ⟨g, cap, _, by rw [List.length_set], hb, hg', by rw [List.length_set]; exact hn, hm, by rw [Array.size_setIfInBounds]; exact hs, ?_⟩
  rw [List.length_set, flat_set hf hk L hx hj hu, ← ht, Array.toList_setIfInBounds, List.take_set]
theorem ba_eq {s t : ByteArray} (h : s.data.toList = t.data.toList) : s = t := by
 apply ByteArray.ext
 exact Array.ext' h
section
variable {N : Nat} {l : List (Nat × Value)} {m : List Bk} {M : Nat → Prop} {w0 w w' : World} {a : Act} {ops : Array Oper} {rest : List Oper} {o : Oper} {Q : Exit → Act → World → Prop} {d gj gt : Nat} {v : Value} {b : Bool}
theorem yielded_undef {gj gt : Nat} (hd : (ops[gj]?).bind (·.dst) = some gt) (he : a.eval (.tmp gt) = undef) : yielded ops a.tmps gj = none := by
 unfold yielded
 rw [hd]
 simp only [Act.eval, Array.getD_eq_getD_getElem?] at he
 cases h : a.tmps[gt]? with
 | none => simp [h]
 | some v =>
  rw [h] at he
  simp only [Option.getD_some] at he
  subst he
  simp [h, undef]
/-- A guarded operation whose guard was not done itself. -/
theorem sv_goffu {b : Bool} (h : Sv N l m M w0 a w) (hg : o.guard = some (gj, b)) (hgd : (ops[gj]?).bind (·.dst) = some gt) (ht : a.eval (.tmp gt) = undef) (hd : o.dst = some d) (hdN : d < N)
  (hK : ∀ a', Sv N ((d, undef) :: l) m M w0 a' w → wpList Tryz.prog ops Q rest a' w) : wpList Tryz.prog ops Q (o :: rest) a w := by
 refine wpList_step fun K hK' => ?_
 have hw : Region.wanted o (yielded ops a.tmps) = false := by
  unfold Region.wanted
  rw [hg]
  simp [yielded_undef hgd ht]
 rw [if_neg (by rw [hw]; decide)]
 refine hK' _ _ ?_
 rw [hd]
 exact hK _ (h.slot (h.ev.set hdN))
/-- A guarded call that leaves old memory. -/
theorem sv_gcallv {f : FuncId} {args : Array Value} (h : Sv N l m M w0 a w) (hg : o.guard = some (gj, b)) (hgd : (ops[gj]?).bind (·.dst) = some gt) (ht : a.eval (.tmp gt) = .bool b) (hd : o.dst = some d) (hdN : d < N) (hr : (execOp a.eval o).run Tryz.prog w = .ok (.enter f args) w) (hc : Calls Tryz.prog f args w fun e w' => e = .returned v ∧ Below w.heap.size w w')
  (hK : ∀ a' w', Below w.heap.size w w' → Sv N ((d, v) :: l) m M w0 a' w' → wpList Tryz.prog ops Q rest a' w') : wpList Tryz.prog ops Q (o :: rest) a w :=
 ev_gcall (S := fun u w' => u = v ∧ Below w.heap.size w w') h.ev hg hgd ht hd hdN hr (Calls.mono hc fun e w' ⟨he, hb⟩ => ⟨v, he, rfl, hb⟩) fun a' u w' hS h' => by obtain ⟨rfl, hb⟩ := hS; exact hK a' w' hb ((h.slot h').below hb)
end
end Go.Proofs.YtflppablgdegcaaGreatDoor
/- The walks of zzIndex, zzDigitsOf, zzToken. -/
set_option maxRecDepth 100000
set_option maxHeartbeats 8000000
namespace Go.Proofs.YtflppablgdegcaaGreatDoor
open Go.RowKit
/-- The first place of a byte in a text; -1 of none. -/
def zix (s : ByteArray) (c : UInt8) : Int := match s.data.toList.findIdx? (fun b => b == c) with | some i => (i : Int) | none => -1
theorem at_list {s : ByteArray} {i : Nat} (h : i < s.size) : s.data.toList[i]? = some (s[i]'h) := by
 rw [List.getElem?_eq_getElem (by rw [Array.length_toList]; exact h)]
 simp [ByteArray.getElem_eq_getElem_data]
theorem len_list (s : ByteArray) : s.data.toList.length = s.size := by rw [Array.length_toList]; rfl
theorem ext_list (s : ByteArray) (i j : Nat) (hj : j ≤ s.size) : (s.extract i j).data.toList = (s.data.toList.take j).drop i := by
 rw [ByteArray.data_extract, Array.toList_extract]
 simp [List.drop_take]
theorem ext_one {s : ByteArray} {i : Nat} (h : i < s.size) : (s.extract i (i + 1)).data.toList = [s[i]'h] := by
 rw [ext_list _ _ _ (by omega)]
 have h1 : i < s.data.toList.length := by rw [len_list]; exact h
 rw [List.take_add_one, at_list h, List.drop_append_of_le_length (by rw [List.length_take]; omega), List.drop_eq_nil_of_le (by rw [List.length_take]; omega)]
 rfl
theorem zix_hit {s : ByteArray} {c : UInt8} {i : Nat} (h : i < s.size) (hc : s[i]'h = c) (hn : ∀ j (hj : j < s.size), j < i → s[j]'hj ≠ c) : zix s c = (i : Int) := by
 have : s.data.toList.findIdx? (fun b => b == c) = some i := by
  rw [List.findIdx?_eq_some_iff_getElem]
  refine ⟨by rw [len_list]; exact h, ?_, ?_⟩
  ·have := at_list h
   rw [List.getElem?_eq_getElem (by rw [len_list]; exact h)] at this
   rw [Option.some.inj this, hc]; simp
  ·intro j hj
   have hjs : j < s.size := by omega
   have := at_list hjs
   rw [List.getElem?_eq_getElem (by rw [len_list]; exact hjs)] at this
   rw [Option.some.inj this]
   simpa using hn j hjs hj
 unfold zix
 rw [this]
theorem zix_none {s : ByteArray} {c : UInt8} (hn : ∀ j (hj : j < s.size), s[j]'hj ≠ c) : zix s c = -1 := by
 have : s.data.toList.findIdx? (fun b => b == c) = none := by
  rw [List.findIdx?_eq_none_iff]
  intro b hb
  obtain ⟨j, hj⟩ := List.mem_iff_getElem?.1 hb
  have hjs : j < s.size := by rw [← len_list]; exact (List.getElem?_eq_some_iff.1 hj).1
  rw [at_list hjs] at hj
  have := hn j hjs
  rw [Option.some.inj hj] at this
  simpa using this
 unfold zix
 rw [this]
theorem zzIndex_any (s : ByteArray) (c : UInt8) (hs : s.size ≤ 1000000000) (w : World) : Calls Tryz.prog 59 #[.string s, .string ⟨#[c]⟩] w fun e w' => e = .returned (.int .i64 (zix s c)) ∧ Below w.heap.size w w' := by
 refine calls_of_ev Tryz.func59 rfl (show 2 ≤ 25 from by decide) ?_
 intro a hE
 have hE : Ev 25 ((0, .string s) :: (1, .string ((⟨#[c]⟩ : ByteArray))) :: []) a := hE
 have hS : Sv 25 ((0, .string s) :: (1, .string ((⟨#[c]⟩ : ByteArray))) :: []) [] (fun _ => False) w a w := Sv.start hE _ _
 clear hE
 refine wp_seq ?_
 refine wp_region_lit ?_
 refine sv_r (v := .int .i64 0) hS ex_ac fun a hS => ?_
 refine wpList_nil ?_
 replace hS := hS.cut [4, 0, 1]
 show Code.wp _ _ _ _ _
 refine wp_seq ?_
 refine wp_seq ?_
 refine wp_region_lit ?_
 refine sv_r (v := .int .i64 0) hS ex_ac fun a hS => ?_
 refine wpList_nil ?_
 replace hS := hS.cut [5, 4, 0, 1]
 show Code.wp _ _ _ _ _
 refine wp_block ?_
 refine wp_loop (fun a w' => ∃ i : Nat, i ≤ s.size ∧ (∀ j (hj : j < s.size), j < i → s[j]'hj ≠ c) ∧ Sv 25 ((5, .int .i64 ((i : Nat) : Int)) :: (0, .string s) :: (1, .string ((⟨#[c]⟩ : ByteArray))) :: []) [] (fun _ => False) w a w') (fun a _ => (s.size + 1 - (intOf (a.eval (.tmp 5))).toNat)) ⟨0, by omega, (fun j hj h => absurd h (Nat.not_lt_zero _)), hS.pick rfl⟩ ?_
 clear hS
 rintro a w1 ⟨i, hi, hn, hS⟩
 have hS0 := hS.get 5 rfl
 refine wp_seq ?_
 refine wp_seq ?_
 refine wp_region_lit ?_
 refine sv_r (v := .int .i64 ((i : Nat) : Int)) hS (ex_mv (hS.get 5 rfl)) fun a hS => ?_
 refine sv_r (v := .string ((⟨#[c]⟩ : ByteArray))) hS (ex_mv (hS.get 1 rfl)) fun a hS => ?_
 refine sv_r (v := .int .i64 1) hS (ex_slen (ats := #[]) (hS.get 7 rfl)) fun a hS => ?_
 refine sv_r (v := .int .i64 ((i + 1 : Nat) : Int)) hS (ei_add (hS.get 6 rfl) (hS.get 8 rfl) (by rw [IntKind.wrap_i64]; omega)) fun a hS => ?_
 refine sv_r (v := .string s) hS (ex_mv (hS.get 0 rfl)) fun a hS => ?_
 refine sv_r (v := .int .i64 ((s.size : Nat) : Int)) hS (ex_slen (ats := #[]) (hS.get 10 rfl)) fun a hS => ?_
 refine sv_r (v := .bool (decide ((i + 1 : Nat) ≤ s.size))) hS (ei_leq (hS.get 9 rfl) (hS.get 11 rfl) (by rw [decide_eq_decide]; omega)) fun a hS => ?_
 refine wpList_nil ?_
 replace hS := hS.cut [12, 5, 0, 1]
 show Code.wp _ _ _ _ _
 refine wp_cond_split (hS.get 12 rfl) (fun hb3 => ?_) (fun hb3 => ?_)
 ·have hb3 := of_decide_eq_true hb3
  refine wp_skip ?_
  show Code.wp _ _ _ _ _
  refine wp_seq ?_
  refine wp_block ?_
  refine wp_seq ?_
  refine wp_region_lit ?_
  refine sv_r (v := .string s) hS (ex_mv (hS.get 0 rfl)) fun a hS => ?_
  refine sv_r (v := .int .i64 ((i : Nat) : Int)) hS (ex_mv (hS.get 5 rfl)) fun a hS => ?_
  refine sv_r (v := .int .i64 ((i : Nat) : Int)) hS (ex_mv (hS.get 5 rfl)) fun a hS => ?_
  refine sv_r (v := .string ((⟨#[c]⟩ : ByteArray))) hS (ex_mv (hS.get 1 rfl)) fun a hS => ?_
  refine sv_r (v := .int .i64 1) hS (ex_slen (ats := #[]) (hS.get 18 rfl)) fun a hS => ?_
  refine sv_r (v := .int .i64 ((i + 1 : Nat) : Int)) hS (ei_add (hS.get 17 rfl) (hS.get 19 rfl) (by rw [IntKind.wrap_i64]; omega)) fun a hS => ?_
  refine sv_r (v := .string (s.extract i (i + 1))) hS (ex_sslh (hS.get 15 rfl) (hS.get 16 rfl) (hS.get 20 rfl) (by omega) (by omega)) fun a hS => ?_
  refine sv_r (v := .string ((⟨#[c]⟩ : ByteArray))) hS (ex_mv (hS.get 1 rfl)) fun a hS => ?_
  refine sv_r (v := .bool (decide ((s.extract i (i + 1)).data.toList = ((⟨#[c]⟩ : ByteArray) : ByteArray).data.toList))) hS (ex_eqs (hS.get 21 rfl) (hS.get 22 rfl)) fun a hS => ?_
  refine wpList_nil ?_
  replace hS := hS.cut [23, 12, 5, 0, 1]
  show Code.wp _ _ _ _ _
  have hil : i < s.size := by omega
  refine wp_cond_split (hS.get 23 rfl) (fun hq => ?_) (fun hq => ?_)
  ·have hq := of_decide_eq_true hq
   rw [ext_one hil] at hq
   have hce : s[i]'hil = c := by simpa using hq
   refine wp_seq ?_
   refine wp_region_lit ?_
   refine sv_r (v := .int .i64 ((i : Nat) : Int)) hS (ex_mv (hS.get 5 rfl)) fun a hS => ?_
   refine sv_r (v := .int .i64 ((i : Nat) : Int)) hS (ex_as (hS.get 24 rfl)) fun a hS => ?_
   refine wpList_nil ?_
   replace hS := hS.cut [4, 23, 12, 5, 0, 1]
   show Code.wp _ _ _ _ _
   refine wp_ret ?_
   try simp only [Exit.inBlock, Exit.then]
   exact ret_of_ev hS.ev rfl (hS.get 4 rfl) ⟨by rw [zix_hit hil hce hn], hS.toBelow⟩
  ·have hq := of_decide_eq_false hq
   rw [ext_one hil] at hq
   have hne : s[i]'hil ≠ c := by simpa using hq
   refine wp_skip ?_
   show Code.wp _ _ _ _ _
   refine wp_region_lit ?_
   refine sv_r (v := .int .i64 ((i : Nat) : Int)) hS (ex_mv (hS.get 5 rfl)) fun a hS => ?_
   refine sv_r (v := .int .i64 ((i + 1 : Nat) : Int)) hS (ei_add (hS.get 13 rfl) rfl (by rw [IntKind.wrap_i64]; omega)) fun a hS => ?_
   refine sv_r (v := .int .i64 ((i + 1 : Nat) : Int)) hS (ex_as (hS.get 14 rfl)) fun a hS => ?_
   refine wpList_nil ?_
   replace hS := hS.cut [5, 23, 12, 0, 1]
   refine ⟨⟨i + 1, by omega, (fun j hj hji => by by_cases e : j = i; (· subst e; exact hne); (· exact hn j hj (by omega))), hS.pick rfl⟩, ?_⟩
   have h1 := hS.get 5 rfl; rw [h1]; rw [hS0]; simp only [intOf]; omega
 ·have hb3 := of_decide_eq_false hb3
  refine wp_exit ?_
  simp only [Exit.inBlock, Exit.then, if_true]
  show Code.wp _ _ _ _ _
  refine wp_seq ?_
  refine wp_region_lit ?_
  refine sv_r (v := .int .i64 (-1)) hS ex_ac fun a hS => ?_
  refine wpList_nil ?_
  replace hS := hS.cut [4, 12, 5, 0, 1]
  show Code.wp _ _ _ _ _
  refine wp_ret ?_
  try simp only [Exit.inBlock, Exit.then]
  exact ret_of_ev hS.ev rfl (hS.get 4 rfl) ⟨by rw [zix_none fun j hj => hn j hj (by omega)], hS.toBelow⟩
end Go.Proofs.YtflppablgdegcaaGreatDoor
