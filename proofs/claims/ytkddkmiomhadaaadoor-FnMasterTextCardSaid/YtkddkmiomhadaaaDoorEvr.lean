/- Walks over frames that are not laid open: the slots that are known, as a list; single operations; a loop over an index. -/
import Derived.Test.YtkddkmiomhadaaaDoorEnl
namespace Go.Proofs.YtkddkmiomhadaaaDoor
open Go.RowKit
/-- The frame's size, nothing deferred, and these slots (a slot's first place on the list counts). -/
structure Ev (N : Nat) (l : List (Nat × Value)) (a : Act) : Prop where
  size : a.tmps.size = N
  defers : a.defers = []
  look : ∀ t v, l.lookup t = some v → a.eval (.tmp t) = v
theorem Ev.get {N : Nat} {l : List (Nat × Value)} {a : Act} (h : Ev N l a) (t : Nat) {v : Value} (hl : l.lookup t = some v) : a.eval (.tmp t) = v := h.look t v hl
theorem look_ne {l : List (Nat × Value)} {t d : Nat} {v : Value} (h : t ≠ d) : ((d, v) :: l).lookup t = l.lookup t := by
  rw [List.lookup_cons]
  have e' : (t == d) = false := by simpa using h
  rw [e']
theorem look_eq {l : List (Nat × Value)} {t : Nat} {v : Value} : ((t, v) :: l).lookup t = some v := by
  rw [List.lookup_cons]; simp
theorem look_mem {l : List (Nat × Value)} {t : Nat} {v : Value} (h : l.lookup t = some v) : (t, v) ∈ l := by
  induction l with
  | nil => simp at h
  | cons p r ih =>
    obtain ⟨k, u⟩ := p
    by_cases e : t = k
    · subst e; rw [look_eq] at h; simp at h; subst h; simp
    · rw [look_ne e] at h; exact List.mem_cons_of_mem _ (ih h)
theorem Ev.set {N : Nat} {l : List (Nat × Value)} {a : Act} {d : Nat} {v : Value} (h : Ev N l a) (hd : d < N) : Ev N ((d, v) :: l) (a.put (some d) v) := by
  refine ⟨by simp [Act.put, h.size], by simp [Act.put, h.defers], fun t u hl => ?_⟩
  by_cases e : t = d
  · subst e
    rw [look_eq] at hl
    rw [ev_eq (by rw [h.size]; exact hd)]
    exact Option.some.inj hl
  · rw [look_ne e] at hl
    rw [ev_ne (fun h => e h.symm)]
    exact h.look t u hl
theorem Ev.one {N t : Nat} {v : Value} {a : Act} (hs : a.tmps.size = N) (hd : a.defers = []) (hv : a.eval (.tmp t) = v) : Ev N ((t, v) :: []) a := ⟨hs, hd, fun k u hk => by
  by_cases e : k = t
  · subst e; rw [look_eq] at hk; exact hv.trans (Option.some.inj hk)
  · rw [look_ne e] at hk; simp at hk⟩
theorem Ev.weaken {N : Nat} {l l' : List (Nat × Value)} {a : Act} (h : Ev N l a) (hs : ∀ t v, l'.lookup t = some v → l.lookup t = some v) : Ev N l' a := ⟨h.size, h.defers, fun t v hl => h.look t v (hs t v hl)⟩
theorem Ev.drop {N d : Nat} {v : Value} {l : List (Nat × Value)} {a : Act} (h : Ev N ((d, v) :: l) a) (hl : (l.all fun p => p.1 != d) = true) : Ev N l a := by
  refine h.weaken fun t u hu => ?_
  have := look_mem hu
  rw [List.all_eq_true] at hl
  have := hl _ this
  rw [look_ne (by simpa using this)]
  exact hu
theorem Ev.pick {N : Nat} {l l' : List (Nat × Value)} {a : Act} (h : Ev N l a) (hs : (l'.map fun p => l.lookup p.1) = l'.map fun p => some p.2) : Ev N l' a := by
  refine h.weaken ?_
  induction l' with
  | nil => intro t v hl; simp at hl
  | cons q r ih =>
    obtain ⟨d, u⟩ := q
    simp only [List.map_cons, List.cons.injEq] at hs
    intro t v hl
    by_cases e : t = d
    · subst e; rw [look_eq] at hl; rw [hs.1, hl]
    · rw [look_ne e] at hl; exact ih hs.2 t v hl
/-- The low slots as they were, but one. -/
theorem Ev.from {N m0 d : Nat} {l : List (Nat × Value)} {a a' : Act} {v : Value} (h : Ev N l a) (hs : a'.tmps.size = N) (hd : a'.defers = a.defers) (hlow : ∀ t, t < m0 → t ≠ d → a'.eval (.tmp t) = a.eval (.tmp t)) (hv : a'.eval (.tmp d) = v) (hl : (l.all fun p => decide (p.1 < m0) && p.1 != d) = true) : Ev N ((d, v) :: l) a' := by
  refine ⟨hs, hd.trans h.defers, fun t u hu => ?_⟩
  by_cases e : t = d
  · subst e; rw [look_eq] at hu; exact hv.trans (Option.some.inj hu)
  · rw [look_ne e] at hu
    rw [List.all_eq_true] at hl
    have := hl _ (look_mem hu)
    simp only [Bool.and_eq_true, decide_eq_true_eq, bne_iff_ne, ne_eq] at this
    rw [hlow t this.1 this.2]
    exact h.look t u hu
theorem Ev.fr {N m0 : Nat} {l : List (Nat × Value)} {a : Act} (h : Ev N l a) : Fr N m0 (fun t => a.eval (.tmp t)) a := ⟨h.size, h.defers, fun _ _ => rfl⟩
/-- Behind a piece that leaves the low slots. -/
theorem Ev.behind {N m0 : Nat} {l : List (Nat × Value)} {a a' : Act} (h : Ev N l a) (hf : Fr N m0 (fun t => a.eval (.tmp t)) a') (hl : (l.all fun p => decide (p.1 < m0)) = true) : Ev N l a' := by
  refine ⟨hf.size, hf.defers, fun t u hu => ?_⟩
  rw [List.all_eq_true] at hl
  have := hl _ (look_mem hu)
  rw [hf.low t (by simpa using this)]
  exact h.look t u hu
section
variable {N : Nat} {l : List (Nat × Value)} {a : Act} {w w' : World} {ops : Array Oper} {rest : List Oper} {o : Oper} {Q : Exit → Act → World → Prop} {d : Nat} {v u : Value} {W : List UInt8 → World → Prop} {s : List UInt8} {x : Operand}
theorem ev_run (h : Ev N l a) (hg : o.guard = none) (hd : o.dst = some d) (hdN : d < N) (hr : (execOp a.eval o).run Tryd.prog w = .ok (.value v) w')
    (hK : ∀ a', Ev N ((d, v) :: l) a' → wpList Tryd.prog ops Q rest a' w') : wpList Tryd.prog ops Q (o :: rest) a w := by
  refine arm_run hg hr ?_
  rw [hd]
  exact hK _ (h.set hdN)
theorem ev_sp (h : Ev N l a) (hs : Sp W o x u v) (hx : a.eval x = u) (hw : W s w) (hd : o.dst = some d) (hdN : d < N)
    (hK : ∀ a' w', Ev N ((d, v) :: l) a' → W s w' → Below w.heap.size w w' → wpList Tryd.prog ops Q rest a' w') : wpList Tryd.prog ops Q (o :: rest) a w := by
  refine wpList_plain hs.guard fun K hK' => ?_
  refine hs.run s a w K Q hw hx fun w' hw' hb => hK' _ _ ?_
  rw [hd]
  exact hK _ _ (h.set hdN) hw' hb
end
set_option maxRecDepth 100000 in
/-- Entering a function: the frame is not laid open. -/
theorem calls_of_ev {f : FuncId} {fn : Func} {c : Code} {args : Array Value} {w : World} {R : Ending → World → Prop} (hf : Tryd.prog.funcs[f]? = some fn) (hb : fn.body = some c) (hsz : args.size ≤ fn.ntmps)
    (h : ∀ a, Ev fn.ntmps ((List.range args.size).map fun k => (k, args.getD k undef)) a → c.wp Tryd.prog (bodyPost Tryd.prog fn R) a w) : Calls Tryd.prog f args w R := by
  refine calls_of_wp hf hb (h _ ⟨?_, rfl, ?_⟩)
  · simp; omega
  · intro t v hl
    have hm := look_mem hl
    rw [List.mem_map] at hm
    obtain ⟨k, hk, e⟩ := hm
    injection e with e1 e2
    subst e1 e2
    rw [List.mem_range] at hk
    simp only [Act.eval, Array.getD_eq_getD_getElem?]
    rw [Array.getElem?_append_left hk]
theorem ret_of_ev {N t : Nat} {l : List (Nat × Value)} {fn : Func} {R : Ending → World → Prop} {a : Act} {w : World} {v : Value} (h : Ev N l a) (hr : fn.results = #[.tmp t]) (hv : a.eval (.tmp t) = v) (hR : R (.returned v) w) : bodyPost Tryd.prog fn R .ret a w :=
  bodyPost_ret (results_tmp hr _ _ _) h.defers (by have : a.tmps.getD t undef = v := hv; rw [this]; exact hR)
theorem sp_lt {a : Act} {w : World} {x y : Operand} {i j : Int} {T T' : TypeId} {d : Option Nat} {ty : TypeId} {ps : String} {af : Array Edge} (hx : a.eval x = .int .i64 i) (hy : a.eval y = .int .i64 j) :
    (execOp a.eval ⟨d, .binOp .lss T x y T', ty, ps, af, none⟩).run Tryd.prog w = .ok (.value (.bool (decide (i < j)))) w := by
  simp only [execOp, hx, hy]
  simp [eqGuard, binOp, Op.intCmp, Result.andThen]
theorem sp_inc {a : Act} {w : World} {x : Operand} {i : Nat} {T T' : TypeId} {d : Option Nat} {ty : TypeId} {ps : String} {af : Array Edge} (hx : a.eval x = .int .i64 i) (hi : i < 4611686018427387904) :
    (execOp a.eval ⟨d, .binOp .add T x (.const (.int .i64 1)) T', ty, ps, af, none⟩).run Tryd.prog w = .ok (.value (.int .i64 ((i + 1 : Nat) : Int))) w := by
  have h : IntKind.i64.wrap ((i : Int) + 1) = ((i + 1 : Nat) : Int) := by rw [IntKind.wrap_i64]; omega
  simp only [execOp, hx]
  simp [eqGuard, binOp, Op.intArith, Act.eval, Result.andThen]
  first | exact h | (simpa using h)
/-- 'for i := range n': the loop's frame, its test, its step. -/
theorem range_wp {N n : Nat} {l : List (Nat × Value)} {id0 id1 r1 r2 tb tn ti tadd : Nat} {T T1 T2 T3 y1 y2 y3 : TypeId} {p1 p2 p3 : String} {e1 e2 e3 : Array Edge} {body : Code} {Q : Exit → Act → World → Prop} {a : Act} {w : World}
    (I : Nat → World → Prop) (hn : n < 4611686018427387904) (ha : Ev N ((ti, .int .i64 (0 : Nat)) :: (tn, .int .i64 n) :: l) a) (h0 : I 0 w)
    (hsl : (l.all fun p => p.1 != tb && p.1 != ti && p.1 != tadd) = true) (hne : tn ≠ tb ∧ tn ≠ ti ∧ tn ≠ tadd ∧ ti ≠ tb ∧ ti ≠ tadd) (hN : tb < N ∧ ti < N ∧ tadd < N)
    (hbody : ∀ k a w, k < n → Ev N ((ti, .int .i64 k) :: (tn, .int .i64 n) :: l) a → I k w → ∀ Q' : Exit → Act → World → Prop, (∀ a' w', Ev N ((ti, .int .i64 k) :: (tn, .int .i64 n) :: l) a' → I (k + 1) w' → Q' .normal a' w') → (Code.block id1 body).wp Tryd.prog Q' a w)
    (hend : ∀ a w, Ev N ((ti, .int .i64 n) :: (tn, .int .i64 n) :: l) a → I n w → Q .normal a w) :
    (Code.block id0 (.loop (.seq (.region r1 #[⟨some tb, .binOp .lss T (.tmp ti) (.tmp tn) T1, y1, p1, e1, none⟩] false) (.seq (.cond (.tmp tb) .skip (.exit id0)) (.seq (.block id1 body) (.region r2 #[⟨some tadd, .binOp .add T2 (.tmp ti) (.const (.int .i64 1)) T3, y2, p2, e2, none⟩, ⟨some ti, .move (.tmp tadd), y3, p3, e3, none⟩] false)))))).wp Tryd.prog Q a w := by
  refine wp_block ?_
  refine wp_loop (fun a w => ∃ k, k ≤ n ∧ Ev N ((ti, .int .i64 k) :: (tn, .int .i64 n) :: l) a ∧ I k w) (fun a _ => n - (RowKit.intOf (a.eval (.tmp ti))).toNat) ⟨0, Nat.zero_le _, ha, h0⟩ ?_
  rintro a w ⟨k, hk, hE, hI⟩
  have hti : a.eval (.tmp ti) = .int .i64 k := hE.get ti look_eq
  have htn : a.eval (.tmp tn) = .int .i64 n := hE.get tn (by rw [look_ne hne.2.1, look_eq])
  have hfil : ∀ d, d = tb ∨ d = tadd → (((ti, Value.int .i64 k) :: (tn, .int .i64 n) :: l).all fun p => p.1 != d) = true := by
    intro d hd
    rw [List.all_eq_true] at hsl ⊢
    intro p hp
    rcases List.mem_cons.1 hp with rfl | hp
    · rcases hd with rfl | rfl
      · simpa using hne.2.2.2.1
      · simpa using hne.2.2.2.2
    · rcases List.mem_cons.1 hp with rfl | hp
      · rcases hd with rfl | rfl
        · simpa using hne.1
        · simpa using hne.2.2.1
      · have := hsl p hp
        simp only [Bool.and_eq_true] at this
        rcases hd with rfl | rfl
        · exact this.1.1
        · exact this.2
  refine wp_seq ?_
  refine wp_region_lit ?_
  refine arm_run rfl (sp_lt hti htn) ?_
  refine wpList_nil ?_
  have hE1 := hE.set (d := tb) (v := .bool (decide ((k : Int) < n))) hN.1
  show Code.wp _ _ _ _ _
  refine wp_seq ?_
  have htb := hE1.get tb look_eq
  refine wp_cond_split htb (fun hb => ?_) (fun hb => ?_)
  · have hkn : k < n := by have := of_decide_eq_true hb; omega
    refine wp_skip ?_
    show Code.wp _ _ _ _ _
    refine wp_seq ?_
    refine hbody k _ w hkn (hE1.drop (hfil tb (.inl rfl))) hI _ fun a' w' hE' hI' => ?_
    show Code.wp _ _ _ _ _
    refine wp_region_lit ?_
    have hti' : a'.eval (.tmp ti) = .int .i64 k := hE'.get ti look_eq
    refine arm_run (w' := w') rfl (sp_inc hti' (by omega)) ?_
    have hE2 := hE'.set (d := tadd) (v := .int .i64 ((k + 1 : Nat) : Int)) hN.2.2
    refine arm_run (v := .int .i64 ((k + 1 : Nat) : Int)) (w' := w') rfl ?_ ?_
    · have : (a'.put (some tadd) (.int .i64 ((k + 1 : Nat) : Int))).eval (.tmp tadd) = .int .i64 ((k + 1 : Nat) : Int) := hE2.get tadd look_eq
      simp only [execOp, this]
      rfl
    · refine wpList_nil ?_
      have hE3 := hE2.set (d := ti) (v := .int .i64 ((k + 1 : Nat) : Int)) hN.2.1
      have hE4 : Ev N ((ti, .int .i64 ((k + 1 : Nat) : Int)) :: (tn, .int .i64 n) :: l) ((a'.put (some tadd) (.int .i64 ((k + 1 : Nat) : Int))).put (some ti) (.int .i64 ((k + 1 : Nat) : Int))) := by
        refine hE3.weaken fun t u hu => ?_
        by_cases e : t = ti
        · subst e; rw [look_eq] at hu ⊢; exact hu
        · rw [look_ne e] at hu ⊢
          have e2 : t ≠ tadd := by
            by_cases e3 : t = tn
            · subst e3; exact hne.2.2.1
            · rw [look_ne e3] at hu
              rw [List.all_eq_true] at hsl
              have := hsl _ (look_mem hu)
              simp only [Bool.and_eq_true] at this
              simpa using this.2
          rw [look_ne e2, look_ne e]
          exact hu
      refine ⟨⟨k + 1, by omega, hE4, hI'⟩, ?_⟩
      have h5 := hE4.get ti look_eq
      rw [h5, hti]
      simp only [RowKit.intOf]
      omega
  · have hkn : k = n := by have := of_decide_eq_false hb; omega
    subst hkn
    refine wp_exit ?_
    show Exit.inBlock id0 Q (.exit id0) _ _
    simp only [Exit.inBlock, if_true]
    exact hend _ w (hE1.drop (hfil tb (.inl rfl))) hI
/-- The same, where slots turn from round to round. -/
theorem range_wp2 {N n : Nat} {l0 : List (Nat × Value)} (ks : List Nat) {id0 id1 r1 r2 tb tn ti tadd : Nat} {T T1 T2 T3 y1 y2 y3 : TypeId} {p1 p2 p3 : String} {e1 e2 e3 : Array Edge} {body : Code} {Q : Exit → Act → World → Prop} {a : Act} {w : World}
    (I : Nat → List (Nat × Value) → World → Prop) (hn : n < 4611686018427387904) (ha : Ev N ((ti, .int .i64 (0 : Nat)) :: (tn, .int .i64 n) :: l0) a) (hl0 : l0.map Prod.fst = ks) (h0 : I 0 l0 w)
    (hks : (ks.all fun t => t != tb && t != ti && t != tadd) = true) (hne : tn ≠ tb ∧ tn ≠ ti ∧ tn ≠ tadd ∧ ti ≠ tb ∧ ti ≠ tadd) (hN : tb < N ∧ ti < N ∧ tadd < N)
    (hbody : ∀ k l a w, k < n → Ev N ((ti, .int .i64 k) :: (tn, .int .i64 n) :: l) a → I k l w → ∀ Q' : Exit → Act → World → Prop, (∀ l' a' w', l'.map Prod.fst = ks → Ev N ((ti, .int .i64 k) :: (tn, .int .i64 n) :: l') a' → I (k + 1) l' w' → Q' .normal a' w') → (Code.block id1 body).wp Tryd.prog Q' a w)
    (hend : ∀ l a w, Ev N ((ti, .int .i64 n) :: (tn, .int .i64 n) :: l) a → I n l w → Q .normal a w) :
    (Code.block id0 (.loop (.seq (.region r1 #[⟨some tb, .binOp .lss T (.tmp ti) (.tmp tn) T1, y1, p1, e1, none⟩] false) (.seq (.cond (.tmp tb) .skip (.exit id0)) (.seq (.block id1 body) (.region r2 #[⟨some tadd, .binOp .add T2 (.tmp ti) (.const (.int .i64 1)) T3, y2, p2, e2, none⟩, ⟨some ti, .move (.tmp tadd), y3, p3, e3, none⟩] false)))))).wp Tryd.prog Q a w := by
  refine wp_block ?_
  refine wp_loop (fun a w => ∃ (k : Nat) (l : List (Nat × Value)), k ≤ n ∧ l.map Prod.fst = ks ∧ Ev N ((ti, .int .i64 k) :: (tn, .int .i64 n) :: l) a ∧ I k l w) (fun a _ => n - (RowKit.intOf (a.eval (.tmp ti))).toNat) ⟨0, l0, Nat.zero_le _, hl0, ha, h0⟩ ?_
  have hall : ∀ l : List (Nat × Value), l.map Prod.fst = ks → (l.all fun p => p.1 != tb && p.1 != ti && p.1 != tadd) = true := by
    intro l hl
    rw [← hl, List.all_map] at hks
    exact hks
  rintro a w ⟨k, l, hk, hl, hE, hI⟩
  have hsl := hall l hl
  have hti : a.eval (.tmp ti) = .int .i64 k := hE.get ti look_eq
  have htn : a.eval (.tmp tn) = .int .i64 n := hE.get tn (by rw [look_ne hne.2.1, look_eq])
  have hfil : ∀ d, d = tb ∨ d = tadd → (((ti, Value.int .i64 k) :: (tn, .int .i64 n) :: l).all fun p => p.1 != d) = true := by
    intro d hd
    rw [List.all_eq_true] at hsl ⊢
    intro p hp
    rcases List.mem_cons.1 hp with rfl | hp
    · rcases hd with rfl | rfl
      · simpa using hne.2.2.2.1
      · simpa using hne.2.2.2.2
    · rcases List.mem_cons.1 hp with rfl | hp
      · rcases hd with rfl | rfl
        · simpa using hne.1
        · simpa using hne.2.2.1
      · have := hsl p hp
        simp only [Bool.and_eq_true] at this
        rcases hd with rfl | rfl
        · exact this.1.1
        · exact this.2
  refine wp_seq ?_
  refine wp_region_lit ?_
  refine arm_run rfl (sp_lt hti htn) ?_
  refine wpList_nil ?_
  have hE1 := hE.set (d := tb) (v := .bool (decide ((k : Int) < n))) hN.1
  show Code.wp _ _ _ _ _
  refine wp_seq ?_
  have htb := hE1.get tb look_eq
  refine wp_cond_split htb (fun hb => ?_) (fun hb => ?_)
  · have hkn : k < n := by have := of_decide_eq_true hb; omega
    refine wp_skip ?_
    show Code.wp _ _ _ _ _
    refine wp_seq ?_
    refine hbody k l _ w hkn (hE1.drop (hfil tb (.inl rfl))) hI _ fun l' a' w' hl' hE' hI' => ?_
    have hsl' := hall l' hl'
    have hfil' : ∀ d, d = tb ∨ d = tadd → (((ti, Value.int .i64 k) :: (tn, .int .i64 n) :: l').all fun p => p.1 != d) = true := by
      intro d hd
      rw [List.all_eq_true] at hsl' ⊢
      intro p hp
      rcases List.mem_cons.1 hp with rfl | hp
      · rcases hd with rfl | rfl
        · simpa using hne.2.2.2.1
        · simpa using hne.2.2.2.2
      · rcases List.mem_cons.1 hp with rfl | hp
        · rcases hd with rfl | rfl
          · simpa using hne.1
          · simpa using hne.2.2.1
        · have := hsl' p hp
          simp only [Bool.and_eq_true] at this
          rcases hd with rfl | rfl
          · exact this.1.1
          · exact this.2
    show Code.wp _ _ _ _ _
    refine wp_region_lit ?_
    have hti' : a'.eval (.tmp ti) = .int .i64 k := hE'.get ti look_eq
    refine arm_run (w' := w') rfl (sp_inc hti' (by omega)) ?_
    have hE2 := hE'.set (d := tadd) (v := .int .i64 ((k + 1 : Nat) : Int)) hN.2.2
    refine arm_run (v := .int .i64 ((k + 1 : Nat) : Int)) (w' := w') rfl ?_ ?_
    · have : (a'.put (some tadd) (.int .i64 ((k + 1 : Nat) : Int))).eval (.tmp tadd) = .int .i64 ((k + 1 : Nat) : Int) := hE2.get tadd look_eq
      simp only [execOp, this]
      rfl
    · refine wpList_nil ?_
      have hE3 := hE2.set (d := ti) (v := .int .i64 ((k + 1 : Nat) : Int)) hN.2.1
      have hE4 : Ev N ((ti, .int .i64 ((k + 1 : Nat) : Int)) :: (tn, .int .i64 n) :: l') ((a'.put (some tadd) (.int .i64 ((k + 1 : Nat) : Int))).put (some ti) (.int .i64 ((k + 1 : Nat) : Int))) := by
        refine hE3.weaken fun t u hu => ?_
        by_cases e : t = ti
        · subst e; rw [look_eq] at hu ⊢; exact hu
        · rw [look_ne e] at hu ⊢
          have e2 : t ≠ tadd := by
            by_cases e3 : t = tn
            · subst e3; exact hne.2.2.1
            · rw [look_ne e3] at hu
              rw [List.all_eq_true] at hsl'
              have := hsl' _ (look_mem hu)
              simp only [Bool.and_eq_true] at this
              simpa using this.2
          rw [look_ne e2, look_ne e]
          exact hu
      refine ⟨⟨k + 1, l', by omega, hl', hE4, hI'⟩, ?_⟩
      have h5 := hE4.get ti look_eq
      rw [h5, hti]
      simp only [RowKit.intOf]
      omega
  · have hkn : k = n := by have := of_decide_eq_false hb; omega
    subst hkn
    refine wp_exit ?_
    show Exit.inBlock id0 Q (.exit id0) _ _
    simp only [Exit.inBlock, if_true]
    exact hend l _ w (hE1.drop (hfil tb (.inl rfl))) hI
/-- The same, where a round may return. -/
theorem range_wp3 {N n : Nat} {l0 : List (Nat × Value)} (ks : List Nat) {id0 id1 r1 r2 tb tn ti tadd : Nat} {T T1 T2 T3 y1 y2 y3 : TypeId} {p1 p2 p3 : String} {e1 e2 e3 : Array Edge} {body : Code} {Q : Exit → Act → World → Prop} {a : Act} {w : World}
    (I : Nat → List (Nat × Value) → World → Prop) (hn : n < 4611686018427387904) (ha : Ev N ((ti, .int .i64 (0 : Nat)) :: (tn, .int .i64 n) :: l0) a) (hl0 : l0.map Prod.fst = ks) (h0 : I 0 l0 w)
    (hks : (ks.all fun t => t != tb && t != ti && t != tadd) = true) (hne : tn ≠ tb ∧ tn ≠ ti ∧ tn ≠ tadd ∧ ti ≠ tb ∧ ti ≠ tadd) (hN : tb < N ∧ ti < N ∧ tadd < N)
    (hbody : ∀ k l a w, k < n → Ev N ((ti, .int .i64 k) :: (tn, .int .i64 n) :: l) a → I k l w → ∀ Q' : Exit → Act → World → Prop, (∀ l' a' w', l'.map Prod.fst = ks → Ev N ((ti, .int .i64 k) :: (tn, .int .i64 n) :: l') a' → I (k + 1) l' w' → Q' .normal a' w') → (∀ a' w', Q .ret a' w' → Q' .ret a' w') → (Code.block id1 body).wp Tryd.prog Q' a w)
    (hend : ∀ l a w, Ev N ((ti, .int .i64 n) :: (tn, .int .i64 n) :: l) a → I n l w → Q .normal a w) :
    (Code.block id0 (.loop (.seq (.region r1 #[⟨some tb, .binOp .lss T (.tmp ti) (.tmp tn) T1, y1, p1, e1, none⟩] false) (.seq (.cond (.tmp tb) .skip (.exit id0)) (.seq (.block id1 body) (.region r2 #[⟨some tadd, .binOp .add T2 (.tmp ti) (.const (.int .i64 1)) T3, y2, p2, e2, none⟩, ⟨some ti, .move (.tmp tadd), y3, p3, e3, none⟩] false)))))).wp Tryd.prog Q a w := by
  refine wp_block ?_
  refine wp_loop (fun a w => ∃ (k : Nat) (l : List (Nat × Value)), k ≤ n ∧ l.map Prod.fst = ks ∧ Ev N ((ti, .int .i64 k) :: (tn, .int .i64 n) :: l) a ∧ I k l w) (fun a _ => n - (RowKit.intOf (a.eval (.tmp ti))).toNat) ⟨0, l0, Nat.zero_le _, hl0, ha, h0⟩ ?_
  have hall : ∀ l : List (Nat × Value), l.map Prod.fst = ks → (l.all fun p => p.1 != tb && p.1 != ti && p.1 != tadd) = true := by
    intro l hl
    rw [← hl, List.all_map] at hks
    exact hks
  rintro a w ⟨k, l, hk, hl, hE, hI⟩
  have hsl := hall l hl
  have hti : a.eval (.tmp ti) = .int .i64 k := hE.get ti look_eq
  have htn : a.eval (.tmp tn) = .int .i64 n := hE.get tn (by rw [look_ne hne.2.1, look_eq])
  have hfil : ∀ d, d = tb ∨ d = tadd → (((ti, Value.int .i64 k) :: (tn, .int .i64 n) :: l).all fun p => p.1 != d) = true := by
    intro d hd
    rw [List.all_eq_true] at hsl ⊢
    intro p hp
    rcases List.mem_cons.1 hp with rfl | hp
    · rcases hd with rfl | rfl
      · simpa using hne.2.2.2.1
      · simpa using hne.2.2.2.2
    · rcases List.mem_cons.1 hp with rfl | hp
      · rcases hd with rfl | rfl
        · simpa using hne.1
        · simpa using hne.2.2.1
      · have := hsl p hp
        simp only [Bool.and_eq_true] at this
        rcases hd with rfl | rfl
        · exact this.1.1
        · exact this.2
  refine wp_seq ?_
  refine wp_region_lit ?_
  refine arm_run rfl (sp_lt hti htn) ?_
  refine wpList_nil ?_
  have hE1 := hE.set (d := tb) (v := .bool (decide ((k : Int) < n))) hN.1
  show Code.wp _ _ _ _ _
  refine wp_seq ?_
  have htb := hE1.get tb look_eq
  refine wp_cond_split htb (fun hb => ?_) (fun hb => ?_)
  · have hkn : k < n := by have := of_decide_eq_true hb; omega
    refine wp_skip ?_
    show Code.wp _ _ _ _ _
    refine wp_seq ?_
    refine hbody k l _ w hkn (hE1.drop (hfil tb (.inl rfl))) hI _ (fun l' a' w' hl' hE' hI' => ?_) (fun a' w' h => h)
    have hsl' := hall l' hl'
    have hfil' : ∀ d, d = tb ∨ d = tadd → (((ti, Value.int .i64 k) :: (tn, .int .i64 n) :: l').all fun p => p.1 != d) = true := by
      intro d hd
      rw [List.all_eq_true] at hsl' ⊢
      intro p hp
      rcases List.mem_cons.1 hp with rfl | hp
      · rcases hd with rfl | rfl
        · simpa using hne.2.2.2.1
        · simpa using hne.2.2.2.2
      · rcases List.mem_cons.1 hp with rfl | hp
        · rcases hd with rfl | rfl
          · simpa using hne.1
          · simpa using hne.2.2.1
        · have := hsl' p hp
          simp only [Bool.and_eq_true] at this
          rcases hd with rfl | rfl
          · exact this.1.1
          · exact this.2
    show Code.wp _ _ _ _ _
    refine wp_region_lit ?_
    have hti' : a'.eval (.tmp ti) = .int .i64 k := hE'.get ti look_eq
    refine arm_run (w' := w') rfl (sp_inc hti' (by omega)) ?_
    have hE2 := hE'.set (d := tadd) (v := .int .i64 ((k + 1 : Nat) : Int)) hN.2.2
    refine arm_run (v := .int .i64 ((k + 1 : Nat) : Int)) (w' := w') rfl ?_ ?_
    · have : (a'.put (some tadd) (.int .i64 ((k + 1 : Nat) : Int))).eval (.tmp tadd) = .int .i64 ((k + 1 : Nat) : Int) := hE2.get tadd look_eq
      simp only [execOp, this]
      rfl
    · refine wpList_nil ?_
      have hE3 := hE2.set (d := ti) (v := .int .i64 ((k + 1 : Nat) : Int)) hN.2.1
      have hE4 : Ev N ((ti, .int .i64 ((k + 1 : Nat) : Int)) :: (tn, .int .i64 n) :: l') ((a'.put (some tadd) (.int .i64 ((k + 1 : Nat) : Int))).put (some ti) (.int .i64 ((k + 1 : Nat) : Int))) := by
        refine hE3.weaken fun t u hu => ?_
        by_cases e : t = ti
        · subst e; rw [look_eq] at hu ⊢; exact hu
        · rw [look_ne e] at hu ⊢
          have e2 : t ≠ tadd := by
            by_cases e3 : t = tn
            · subst e3; exact hne.2.2.1
            · rw [look_ne e3] at hu
              rw [List.all_eq_true] at hsl'
              have := hsl' _ (look_mem hu)
              simp only [Bool.and_eq_true] at this
              simpa using this.2
          rw [look_ne e2, look_ne e]
          exact hu
      refine ⟨⟨k + 1, l', by omega, hl', hE4, hI'⟩, ?_⟩
      have h5 := hE4.get ti look_eq
      rw [h5, hti]
      simp only [RowKit.intOf]
      omega
  · have hkn : k = n := by have := of_decide_eq_false hb; omega
    subst hkn
    refine wp_exit ?_
    show Exit.inBlock id0 Q (.exit id0) _ _
    simp only [Exit.inBlock, if_true]
    exact hend l _ w (hE1.drop (hfil tb (.inl rfl))) hI
end Go.Proofs.YtkddkmiomhadaaaDoor
