/- The rule for a region that draws its order, with assertions of few kinds in a list, and the operations' obligations one behind the other. -/
import Derived.Test.YtkddkmiomhadaaaDoorOg
namespace Go.Proofs.YtkddkmiomhadaaaDoor
open Go.RowKit
/-- What is known of an operation's slot: a value; a value over a new block of known cells; something else; something of the world alone. -/
inductive Asr where
  | eq (v : Value)
  | pure (p : Value → Prop)
  | blki (n : Nat) (f : Nat → Nat → Value) (t : TypeId) (cs : Array Value)
  | blk (f : Nat → Value) (t : TypeId) (cs : Array Value)
  | any (p : Value → World → Prop)
  | wld (p : World → Prop)
def Asr.holds (B : Nat) : Asr → Value → World → Prop
  | .eq c, v, _ => v = c
  | .pure p, v, _ => p v
  | .blki n f t cs, v, w => ∃ g i, B ≤ g ∧ i < n ∧ v = f g i ∧ w.heap[g]? = some (.cells cs t (0, 0))
  | .blk f t cs, v, w => ∃ g, B ≤ g ∧ v = f g ∧ w.heap[g]? = some (.cells cs t (0, 0))
  | .any p, v, w => p v w
  | .wld p, _, w => p w
def asrAt (As : List Asr) (B : Nat) (j : Nat) (v : Value) (w : World) : Prop := match As[j]? with | some A => A.holds B v w | none => True
def Asr.isWld : Asr → Bool | .wld _ => true | _ => false
/-- Operations without a slot have assertions on the world alone; the slots lie in the frame. -/
def ogFit (ops : Array Oper) (As : List Asr) (n : Nat) : Bool :=
  ops.toList.zipIdx.all fun (o, i) => match o.dst with | some d => decide (d < n) | none => match As[i]? with | some A => A.isWld | none => true
section
variable {P : Program}
/-- The obligations, one an operation. -/
def OgOps (P : Program) (ops : Array Oper) (Q : Exit → Act → World → Prop) (a0 : Act) (w0 : World) (E : Nat → Nat → Prop) (Φ : Nat → Value → World → Prop) : Nat → List Oper → Prop
  | _, [] => True
  | i, o :: r => (∀ a w, OgCtx ops a0 w0 E Φ i a w → (match o.guard with | none => o.wp P a w (OgPost E Φ i o a w) Q | some _ => wpOp P ops Q i (OgPost E Φ i o a w) a w)) ∧ OgOps P ops Q a0 w0 E Φ (i + 1) r
theorem OgOps.get {ops : Array Oper} {Q : Exit → Act → World → Prop} {a0 : Act} {w0 : World} {E : Nat → Nat → Prop} {Φ : Nat → Value → World → Prop} :
    ∀ (l : List Oper) (k : Nat), OgOps P ops Q a0 w0 E Φ k l → ∀ (i : Nat) (o : Oper), l[i]? = some o →
      ∀ a w, OgCtx ops a0 w0 E Φ (k + i) a w → (match o.guard with | none => o.wp P a w (OgPost E Φ (k + i) o a w) Q | some _ => wpOp P ops Q (k + i) (OgPost E Φ (k + i) o a w) a w) := by
  intro l
  induction l with
  | nil => intro k _ i o h; simp at h
  | cons x l ih =>
    intro k h i o hi
    cases i with
    | zero =>
      simp only [List.getElem?_cons_zero, Option.some.injEq] at hi
      subst hi
      exact h.1
    | succ i =>
      rw [List.getElem?_cons_succ] at hi
      have := ih (k + 1) h.2 i o hi
      rw [show k + (i + 1) = k + 1 + i from by omega]
      exact this
theorem wp_region_ogA {id n : Nat} {l : List Oper} {Q : Exit → Act → World → Prop} {a0 : Act} {w : World} (As : List Asr) (E : Nat → Nat → Prop) (hm : P.follows .mixedOrders = true) (hok : ogOk l.toArray = true)
    (hfit : ogFit l.toArray As n = true) (hn : a0.tmps.size = n)
    (hE : ∀ e g, E e g → g < w.heap.size)
    (hany : ∀ i j p v w1 w', As[j]? = some (.any p) → Only (fun g => ∃ e, E e g) w.drew w1 → Only (E i) w1 w' → ahead l.toArray j i = false → j ≠ i → p v w1 → p v w')
    (hwld : ∀ i j p w1 w', As[j]? = some (.wld p) → Only (fun g => ∃ e, E e g) w.drew w1 → Only (E i) w1 w' → ahead l.toArray j i = false → j ≠ i → p w1 → p w')
    (hop : OgOps P l.toArray Q a0 w.drew E (asrAt As w.heap.size) 0 l)
    (hend : ∀ a1 w1, OgEnd l.toArray a0 w.drew E (asrAt As w.heap.size) a1 w1 → Q .normal a1 w1) : (Code.region id l.toArray true).wp P Q a0 w := by
  have hfit' : ∀ (i : Nat) (o : Oper), l.toArray[i]? = some o → match o.dst with | some d => d < n | none => ∀ A, As[i]? = some A → A.isWld = true := by
    intro i o hi
    unfold ogFit at hfit
    rw [List.all_eq_true] at hfit
    have := hfit (o, i) (by rw [List.mem_zipIdx_iff_getElem?]; simpa using hi)
    dsimp only at this
    cases hd : o.dst with
    | some d => rw [hd] at this; simpa using this
    | none =>
      rw [hd] at this
      dsimp only at this ⊢
      intro A hA
      rw [hA] at this
      exact this
  refine wp_region_og hm hok E (asrAt As w.heap.size) ?_ ?_ ?_ ?_ hend
  · intro i o d hi hd
    have := hfit' i o hi
    rw [hd] at this
    rw [hn]
    exact this
  · intro i o v w1 hi hd h
    have := hfit' i o hi
    rw [hd] at this
    unfold asrAt at h ⊢
    cases hA : As[i]? with
    | none => trivial
    | some A =>
      rw [hA] at h
      have hw := this A hA
      cases A <;> simp [Asr.isWld] at hw
      exact h
  · intro i j v w1 w' h1 h2 ha hji h
    unfold asrAt at h ⊢
    cases hA : As[j]? with
    | none => trivial
    | some A =>
      rw [hA] at h
      cases A with
      | eq c => exact h
      | pure q => exact h
      | blki n f t cs =>
        obtain ⟨g, k, hg, hk, hv, hc⟩ := h
        refine ⟨g, k, hg, hk, hv, ?_⟩
        rw [h2.block g ?_ ?_]
        · exact hc
        · rcases Nat.lt_or_ge g w1.heap.size with hlt | hge
          · exact hlt
          · rw [Array.getElem?_eq_none hge] at hc; cases hc
        · intro he
          have := hE i g he
          omega
      | blk f t cs =>
        obtain ⟨g, hg, hv, hc⟩ := h
        refine ⟨g, hg, hv, ?_⟩
        rw [h2.block g ?_ ?_]
        · exact hc
        · rcases Nat.lt_or_ge g w1.heap.size with hlt | hge
          · exact hlt
          · rw [Array.getElem?_eq_none hge] at hc; cases hc
        · intro he
          have := hE i g he
          omega
      | any p => exact hany i j p v w1 w' hA h1 h2 ha hji h
      | wld p => exact hwld i j p w1 w' hA h1 h2 ha hji h
  · intro i o hi a1 w1 c
    have hi' : l[i]? = some o := by simpa using hi
    have := hop.get l 0 i o hi' a1 w1 (by rw [Nat.zero_add]; exact c)
    rw [Nat.zero_add] at this
    cases hg : o.guard with
    | some gw => rw [hg] at this; exact this
    | none =>
      rw [hg] at this
      dsimp only at this
      unfold wpOp
      rw [hi]
      simp only [Region.wanted, hg, if_true]
      exact .inl this
/-- The assertions of other kinds are kept by what may come behind them. -/
def OgSt (ops : Array Oper) (B : Nat) (E : Nat → Nat → Prop) : Nat → List Asr → Prop
  | _, [] => True
  | j, .eq _ :: r => OgSt ops B E (j + 1) r
  | j, .pure _ :: r => OgSt ops B E (j + 1) r
  | j, .blki _ _ _ _ :: r => OgSt ops B E (j + 1) r
  | j, .blk _ _ _ :: r => OgSt ops B E (j + 1) r
  | j, .any p :: r => (∀ i, ahead ops j i = false → j ≠ i → ∀ v w w', B ≤ w.heap.size → Only (E i) w w' → p v w → p v w') ∧ OgSt ops B E (j + 1) r
  | j, .wld p :: r => (∀ i, ahead ops j i = false → j ≠ i → ∀ w w', B ≤ w.heap.size → Only (E i) w w' → p w → p w') ∧ OgSt ops B E (j + 1) r
def Asr.kept (ops : Array Oper) (B : Nat) (E : Nat → Nat → Prop) (j : Nat) : Asr → Prop
  | .any p => ∀ i, ahead ops j i = false → j ≠ i → ∀ v w w', B ≤ w.heap.size → Only (E i) w w' → p v w → p v w'
  | .wld p => ∀ i, ahead ops j i = false → j ≠ i → ∀ w w', B ≤ w.heap.size → Only (E i) w w' → p w → p w'
  | _ => True
theorem OgSt.get {ops : Array Oper} {B : Nat} {E : Nat → Nat → Prop} : ∀ {As : List Asr} {k : Nat} (_ : OgSt ops B E k As) {j : Nat} {A : Asr} (_ : As[j]? = some A), A.kept ops B E (k + j)
  | [], _, _, j, A, h => by simp at h
  | A :: r, k, hs, 0, A', h => by
    simp only [List.getElem?_cons_zero, Option.some.injEq] at h
    subst h
    cases A <;> first | trivial | exact hs.1
  | A :: r, k, hs, j + 1, A', h => by
    rw [List.getElem?_cons_succ] at h
    have hr : OgSt ops B E (k + 1) r := by cases A <;> first | exact hs | exact hs.2
    have := OgSt.get hr h
    rw [show k + (j + 1) = k + 1 + j from by omega]
    exact this
/-- The rule where some operations turn blocks. -/
theorem wp_region_ogE {id n : Nat} {l : List Oper} {Q : Exit → Act → World → Prop} {a0 : Act} {w : World} (As : List Asr) (E : Nat → Nat → Prop) (hm : P.follows .mixedOrders = true) (hok : ogOk l.toArray = true)
    (hfit : ogFit l.toArray As n = true) (hn : a0.tmps.size = n) (hE : ∀ e g, E e g → g < w.heap.size) (hst : OgSt l.toArray w.heap.size E 0 As)
    (hop : OgOps P l.toArray Q a0 w.drew E (asrAt As w.heap.size) 0 l)
    (hend : ∀ a1 w1, OgEnd l.toArray a0 w.drew E (asrAt As w.heap.size) a1 w1 → Only (fun g => ∃ e, E e g) w w1 → Q .normal a1 w1) : (Code.region id l.toArray true).wp P Q a0 w := by
  refine wp_region_ogA As E hm hok hfit hn hE ?_ ?_ hop ?_
  · intro i j p v w1 w' hA h1 h2 ha hji h
    have := hst.get hA
    rw [Nat.zero_add] at this
    exact this i ha (fun e => hji e) v w1 w' h1.size h2 h
  · intro i j p w1 w' hA h1 h2 ha hji h
    have := hst.get hA
    rw [Nat.zero_add] at this
    exact this i ha (fun e => hji e) w1 w' h1.size h2 h
  · intro a1 w1 c
    have := c.only
    exact hend a1 w1 c ⟨this.os, this.tape, this.output, this.size, this.block⟩
/-- The rule where the operations only read, call what makes memory, and make memory. -/
theorem wp_region_og0 {id n : Nat} {l : List Oper} {Q : Exit → Act → World → Prop} {a0 : Act} {w : World} (As : List Asr) (hm : P.follows .mixedOrders = true) (hok : ogOk l.toArray = true)
    (hfit : ogFit l.toArray As n = true) (hn : a0.tmps.size = n) (hst : OgSt l.toArray w.heap.size (fun _ _ => False) 0 As)
    (hop : OgOps P l.toArray Q a0 w.drew (fun _ _ => False) (asrAt As w.heap.size) 0 l)
    (hend : ∀ a1 w1, OgEnd l.toArray a0 w.drew (fun _ _ => False) (asrAt As w.heap.size) a1 w1 → Below w.heap.size w w1 → Q .normal a1 w1) : (Code.region id l.toArray true).wp P Q a0 w :=
  wp_region_ogE As (fun _ _ => False) hm hok hfit hn (fun _ _ h => h.elim) hst hop fun a1 w1 c h =>
    hend a1 w1 c (h.below (Nat.le_refl _) fun _ _ ⟨_, h⟩ => h)
/-- An operation that gives a value and leaves the world. -/
theorem og_val {o : Oper} {a : Act} {w : World} {E : Nat → Nat → Prop} {Φ : Nat → Value → World → Prop} {i : Nat} {Q : Exit → Act → World → Prop} {v : Value} (h : (execOp a.eval o).run P w = .ok (.value v) w) (hΦ : Φ i v w) :
    o.wp P a w (OgPost E Φ i o a w) Q := by
  unfold Oper.wp
  rw [h]
  exact ⟨v, rfl, Only.refl _ _, hΦ⟩
theorem og_ext {o : Oper} {a : Act} {w w' : World} {E : Nat → Nat → Prop} {Φ : Nat → Value → World → Prop} {i : Nat} {Q : Exit → Act → World → Prop} {v : Value} (h : (execOp a.eval o).run P w = .ok (.value v) w') (hb : Below w.heap.size w w') (hΦ : Φ i v w') :
    o.wp P a w (OgPost E Φ i o a w) Q := by
  unfold Oper.wp
  rw [h]
  exact ⟨v, rfl, Only.of_below hb, hΦ⟩
theorem og_call {o : Oper} {a : Act} {w : World} {E : Nat → Nat → Prop} {Φ : Nat → Value → World → Prop} {i : Nat} {Q : Exit → Act → World → Prop} {f : FuncId} {args : Array Value} (h : (execOp a.eval o).run P w = .ok (.enter f args) w)
    (hc : Calls P f args w fun e w' => ∃ v, e = .returned v ∧ Below w.heap.size w w' ∧ Φ i v w') : o.wp P a w (OgPost E Φ i o a w) Q := by
  unfold Oper.wp
  rw [h]
  refine Calls.mono hc ?_
  rintro e w' ⟨v, rfl, hb, hΦ⟩
  exact ⟨v, rfl, Only.of_below hb, hΦ⟩
end
section
variable {ops : Array Oper} {a0 a : Act} {w0 w : World} {E : Nat → Nat → Prop} {Φ : Nat → Value → World → Prop} {i : Nat}
theorem og_add {P : Program} {Q : Exit → Act → World → Prop} {t t' ty : TypeId} (ht : P.underlying t = some .string) {dst : Option Tmp} {pos : String} {after : Array Edge} {guard : Option (Nat × Bool)} {x y : Operand} {s1 s2 : ByteArray} (hx : a.eval x = .string s1) (hy : a.eval y = .string s2)
    (hs : s1.size + s2.size ≤ 9223372036854775807) (hΦ : Φ i (.string (s1 ++ s2)) w) : ({ dst := dst, op := Op.binOp .add t x y t', type := ty, pos := pos, after := after, guard := guard } : Oper).wp P a w (OgPost E Φ i { dst := dst, op := Op.binOp .add t x y t', type := ty, pos := pos, after := after, guard := guard } a w) Q := by
  have hr := run_string_add_sum (P := P) w s1 s2 hs
  refine og_val (v := .string (s1 ++ s2)) ?_ hΦ
  simp [execOp, hx, hy, binOp, hr, eqGuard, Result.andThen]
/-- Every operation that writes slot t is i, or stands behind i. -/
def ogOut (ops : Array Oper) (i : Nat) (t : Tmp) : Bool := ops.toList.zipIdx.all fun (o, j) => o.dst != some t || j == i || ahead ops j i
theorem OgCtx.outE (c : OgCtx ops a0 w0 E Φ i a w) {t : Tmp} {v : Value} (h : ogOut ops i t = true) (hv : a0.eval (.tmp t) = v) : a.eval (.tmp t) = v := by
  have := c.out t (by
    intro j o hj hd
    unfold ogOut at h
    rw [List.all_eq_true] at h
    have h1 := h (o, j) (by rw [List.mem_zipIdx_iff_getElem?]; simpa using hj)
    simp only [hd, bne_self_eq_false, Bool.false_or, Bool.or_eq_true, beq_iff_eq] at h1
    exact h1)
  rw [← hv]
  simp only [Act.eval, Array.getD_eq_getD_getElem?, this]
theorem OgCtx.heap (c : OgCtx ops a0 w0 E Φ i a w) {g : Nat} {o : Obj} (h : w0.heap[g]? = some o) (hE : ∀ e, E e g → e = i ∨ ahead ops e i = true) : w.heap[g]? = some o := by
  rw [c.block g ?_ hE]
  · exact h
  · rcases Nat.lt_or_ge g w0.heap.size with hlt | hge
    · exact hlt
    · rw [Array.getElem?_eq_none hge] at h; cases h
theorem OgCtx.cell (c : OgCtx ops a0 w0 E Φ i a w) {p : Addr} {v : Value} (h : w0.cell? p = some v) (hE : ∀ e, E e p.block → e = i ∨ ahead ops e i = true) : w.cell? p = some v := by
  rw [World.cell?_of_block (w := w0)]
  · exact h
  · exact c.block _ (World.block_lt_of_cell? w0 p h) hE
/-- A frame's slots, but those of a list taken from elsewhere. -/
def patch (ds : List Tmp) (f : Tmp → Value) : Nat → List Value → List Value
  | _, [] => []
  | t, v :: l => (if ds.contains t then f t else v) :: patch ds f (t + 1) l
theorem patch_get (ds : List Tmp) (f : Tmp → Value) : ∀ (l : List Value) (t i : Nat), (patch ds f t l)[i]? = (l[i]?).map fun v => if ds.contains (t + i) then f (t + i) else v := by
  intro l
  induction l with
  | nil => intro t i; simp [patch]
  | cons v l ih =>
    intro t i
    cases i with
    | zero => simp [patch]
    | succ i => simp only [patch, List.getElem?_cons_succ, ih]; rw [show t + 1 + i = t + (i + 1) from by omega]
/-- The slots that the region writes are all on the list. -/
def ogDsts (ops : Array Oper) (ds : List Tmp) : Bool := ops.toList.all fun o => match o.dst with | some d => ds.contains d | none => true
theorem frame_patch {l : List Value} {df : List Deferred} (c : OgEnd ops ⟨l.toArray, df⟩ w0 E Φ a w) (ds : List Tmp) (hd : ogDsts ops ds = true) : a = ⟨(patch ds (fun t => a.tmps.getD t undef) 0 l).toArray, df⟩ := by
  have h1 : a.tmps = (patch ds (fun t => a.tmps.getD t undef) 0 l).toArray := by
    apply Array.ext'
    apply List.ext_getElem?
    intro i
    rw [List.toList_toArray, patch_get, Nat.zero_add]
    have hsz : a.tmps.size = l.length := by have h0 := c.size; rw [h0]; exact List.size_toArray ..
    by_cases hi : i < l.length
    · rw [List.getElem?_eq_getElem hi, Option.map_some]
      by_cases hc : ds.contains i = true
      · rw [if_pos hc]
        simp only [Array.getD_eq_getD_getElem?, Array.getElem?_toList]
        rw [Array.getElem?_eq_getElem (xs := a.tmps) (i := i) (by omega)]; rfl
      · rw [if_neg hc]
        have := c.out i (by
          intro j o hj hdd
          apply hc
          unfold ogDsts at hd
          rw [List.all_eq_true] at hd
          have := hd o (by have := Array.mem_of_getElem? hj; simpa using this)
          rw [hdd] at this
          exact this)
        rw [Array.getElem?_toList, this]
        simp [hi]
    · rw [List.getElem?_eq_none (l := l) (by omega)]
      rw [Array.getElem?_toList, Array.getElem?_eq_none (xs := a.tmps) (by omega)]
      rfl
  have h2 : a.defers = df := c.defers
  obtain ⟨t, d⟩ := a
  simp only at h1 h2
  subst h2
  exact congrArg (fun x => (⟨x, d⟩ : Act)) h1
theorem foldl_put_get (f : Tmp → Value) (ds : List Tmp) : ∀ (b : Act) (i : Nat), i < b.tmps.size → (ds.foldl (fun b d => b.put (some d) (f d)) b).tmps[i]? = if ds.contains i then some (f i) else b.tmps[i]? := by
  induction ds with
  | nil => intro b i hi; simp
  | cons d ds ih =>
    intro b i hi
    rw [List.foldl_cons, ih _ i (by simpa [Act.put] using hi)]
    simp only [List.contains_cons]
    by_cases h1 : ds.contains i = true
    · rw [if_pos h1, if_pos (by rw [h1, Bool.or_true])]
    · rw [if_neg h1]
      by_cases h2 : i = d
      · subst h2
        simp [Act.put, hi]
      · rw [if_neg (by simp [h2]; simpa using h1)]
        simp only [Act.put]
        rw [Array.getElem?_setIfInBounds_ne (fun e => h2 e.symm)]
theorem foldl_put_size (f : Tmp → Value) (ds : List Tmp) : ∀ (b : Act), (ds.foldl (fun b d => b.put (some d) (f d)) b).tmps.size = b.tmps.size ∧ (ds.foldl (fun b d => b.put (some d) (f d)) b).defers = b.defers := by
  induction ds with
  | nil => intro b; exact ⟨rfl, rfl⟩
  | cons d ds ih => intro b; rw [List.foldl_cons]; have := ih (b.put (some d) (f d)); exact ⟨this.1.trans (by simp [Act.put]), this.2⟩
theorem frame_of (ds : List Tmp) (hsz : a.tmps.size = a0.tmps.size) (hdf : a.defers = a0.defers) (hout : ∀ t, ds.contains t = false → a.tmps[t]? = a0.tmps[t]?) : a = ds.foldl (fun b d => b.put (some d) (a.tmps.getD d undef)) a0 := by
  have hs := foldl_put_size (fun d => a.tmps.getD d undef) ds a0
  have h1 : a.tmps = (ds.foldl (fun b d => b.put (some d) (a.tmps.getD d undef)) a0).tmps := by
    apply Array.ext'
    apply List.ext_getElem?
    intro i
    rw [Array.getElem?_toList, Array.getElem?_toList]
    by_cases hi : i < a0.tmps.size
    · rw [foldl_put_get _ _ _ i hi]
      by_cases hc : ds.contains i = true
      · rw [if_pos hc]
        simp only [Array.getD_eq_getD_getElem?]
        rw [Array.getElem?_eq_getElem (xs := a.tmps) (i := i) (by rw [hsz]; exact hi)]; rfl
      · rw [if_neg hc]
        exact hout i (by simpa using hc)
    · rw [Array.getElem?_eq_none (xs := a.tmps) (by rw [hsz]; omega), Array.getElem?_eq_none (by rw [hs.1]; omega)]
  have h2 : a.defers = (ds.foldl (fun b d => b.put (some d) (a.tmps.getD d undef)) a0).defers := by rw [hs.2]; exact hdf
  generalize (ds.foldl (fun b d => b.put (some d) (a.tmps.getD d undef)) a0) = b at h1 h2
  cases a; cases b
  simp only at h1 h2
  rw [h1, h2]
/-- The frame behind the region: the frame ahead of it, the region's slots put one after the other. -/
theorem frame_puts (c : OgEnd ops a0 w0 E Φ a w) (ds : List Tmp) (hd : ogDsts ops ds = true) : a = ds.foldl (fun b d => b.put (some d) (a.tmps.getD d undef)) a0 :=
  frame_of ds c.size c.defers fun t ht => c.out t (by
    intro j o hj hdd
    unfold ogDsts at hd
    rw [List.all_eq_true] at hd
    have := hd o (by have := Array.mem_of_getElem? hj; simpa using this)
    rw [hdd] at this
    dsimp only at this
    rw [ht] at this
    cases this)
end
end Go.Proofs.YtkddkmiomhadaaaDoor
