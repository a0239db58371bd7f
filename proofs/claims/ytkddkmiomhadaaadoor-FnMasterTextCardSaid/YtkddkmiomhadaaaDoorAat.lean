/- The walk of spec.Alternative.attributes: a rendition's attributes, in their order. -/
import Derived.Test.YtkddkmiomhadaaaDoorOfw
namespace Go.Proofs.YtkddkmiomhadaaaDoor
open Go.RowKit
def At.at0 (y : At) : List ByteArray := [attr ⟨#[84, 89, 80, 69]⟩ y.typ false, attr ⟨#[71, 82, 79, 85, 80, 45, 73, 68]⟩ y.grp true, attr ⟨#[78, 65, 77, 69]⟩ y.name true]
def At.at1 (y : At) : List ByteArray := y.at0 ++ [if y.dflt = true then attr ⟨#[68, 69, 70, 65, 85, 76, 84]⟩ ⟨#[89, 69, 83]⟩ false else attr ⟨#[68, 69, 70, 65, 85, 76, 84]⟩ ⟨#[78, 79]⟩ false]
def At.at2 (y : At) : List ByteArray := y.at1 ++ opt (ne y.auto) (attr ⟨#[65, 85, 84, 79, 83, 69, 76, 69, 67, 84]⟩ y.auto false)
def At.at3 (y : At) : List ByteArray := y.at2 ++ opt (ne y.lang) (attr ⟨#[76, 65, 78, 71, 85, 65, 71, 69]⟩ y.lang true)
/-- A rendition's attributes. -/
def At.attrs (y : At) : List ByteArray := y.at3 ++ opt (ne y.uri) (attr ⟨#[85, 82, 73]⟩ y.uri true)
set_option maxRecDepth 100000 in
set_option maxHeartbeats 4000000 in
theorem aat_rgn {y : At} {id b : Nat} {a0 : Act} {w : World} {Q : Exit → Act → World → Prop} (hok : y.Ok) (hsz : a0.tmps.size = 52) (hdf : a0.defers = []) (h1 : a0.eval (.tmp 1) = pt b 0) (hy : w.heap[b]? = some (.cells y.cells 46 (0, 0)))
    (hK : ∀ a' w' s, Ev 52 ((3, s) :: (1, pt b 0) :: []) a' → strOwn w' w.heap.size s y.at0 → Below w.heap.size w w' → Q .normal a' w') :
    (Code.region id #[{ dst := some 4, op := Op.fieldAddr 46 (Operand.tmp 1) 0, type := 0, pos := "list.go:250", after := #[], guard := none },
      { dst := some 5, op := Op.load 9 (Operand.tmp 4), type := 9, pos := "list.go:250", after := #[{ on := 0, ground := Ground.data }], guard := none },
      { dst := some 6, op := Op.call { callee := Callee.value (Operand.func 30), args := #[Operand.const (Value.string { data := #[84, 89, 80, 69] }), Operand.tmp 5, Operand.const (Value.bool false)], argTypes := #[9, 9, 4] }, type := 9, pos := "list.go:250", after := #[{ on := 1, ground := Ground.data }], guard := none },
      { dst := some 7, op := Op.fieldAddr 46 (Operand.tmp 1) 1, type := 0, pos := "list.go:250", after := #[], guard := none },
      { dst := some 8, op := Op.load 9 (Operand.tmp 7), type := 9, pos := "list.go:250", after := #[{ on := 3, ground := Ground.data }], guard := none },
      { dst := some 9, op := Op.call { callee := Callee.value (Operand.func 30), args := #[Operand.const (Value.string { data := #[71, 82, 79, 85, 80, 45, 73, 68] }), Operand.tmp 8, Operand.const (Value.bool true)], argTypes := #[9, 9, 4] }, type := 9, pos := "list.go:250", after := #[{ on := 4, ground := Ground.data }, { on := 2, ground := Ground.chain }], guard := none },
      { dst := some 10, op := Op.fieldAddr 46 (Operand.tmp 1) 2, type := 0, pos := "list.go:250", after := #[], guard := none },
      { dst := some 11, op := Op.load 9 (Operand.tmp 10), type := 9, pos := "list.go:250", after := #[{ on := 6, ground := Ground.data }], guard := none },
      { dst := some 12, op := Op.call { callee := Callee.value (Operand.func 30), args := #[Operand.const (Value.string { data := #[78, 65, 77, 69] }), Operand.tmp 11, Operand.const (Value.bool true)], argTypes := #[9, 9, 4] }, type := 9, pos := "list.go:250", after := #[{ on := 7, ground := Ground.data }, { on := 5, ground := Ground.chain }], guard := none },
      { dst := some 13, op := Op.buildSlice 43 3 #[(0, Operand.tmp 6), (1, Operand.tmp 9), (2, Operand.tmp 12)], type := 43, pos := "list.go:250", after := #[{ on := 2, ground := Ground.data }, { on := 5, ground := Ground.data }, { on := 8, ground := Ground.data }], guard := none },
      { dst := some 3, op := Op.assign (Operand.tmp 13), type := 43, pos := "list.go:250", after := #[{ on := 9, ground := Ground.data }, { on := 8, ground := Ground.chain }, { on := 0, ground := Ground.phase }, { on := 1, ground := Ground.phase }, { on := 2, ground := Ground.phase }, { on := 3, ground := Ground.phase }, { on := 4, ground := Ground.phase }, { on := 5, ground := Ground.phase }, { on := 6, ground := Ground.phase }, { on := 7, ground := Ground.phase }, { on := 8, ground := Ground.phase }, { on := 9, ground := Ground.phase }], guard := none }] true).wp Tryd.prog Q a0 w := by
  obtain ⟨q1, q2, q3, q4, q5, q6⟩ := hok
  refine wp_region_og0 (n := 52) [Asr.eq (pt b 0), Asr.eq (.string (y.typ)), Asr.eq (.string (attr ⟨#[84, 89, 80, 69]⟩ y.typ false)), Asr.eq (pt b 1), Asr.eq (.string (y.grp)), Asr.eq (.string (attr ⟨#[71, 82, 79, 85, 80, 45, 73, 68]⟩ y.grp true)), Asr.eq (pt b 2), Asr.eq (.string (y.name)), Asr.eq (.string (attr ⟨#[78, 65, 77, 69]⟩ y.name true)), Asr.blk (fun g => .slice (some ⟨g, 0, none⟩) 3 3) 9 #[.string (attr ⟨#[84, 89, 80, 69]⟩ y.typ false), .string (attr ⟨#[71, 82, 79, 85, 80, 45, 73, 68]⟩ y.grp true), .string (attr ⟨#[78, 65, 77, 69]⟩ y.name true)], Asr.blk (fun g => .slice (some ⟨g, 0, none⟩) 3 3) 9 #[.string (attr ⟨#[84, 89, 80, 69]⟩ y.typ false), .string (attr ⟨#[71, 82, 79, 85, 80, 45, 73, 68]⟩ y.grp true), .string (attr ⟨#[78, 65, 77, 69]⟩ y.name true)]] (by kernel_rfl) (by kernel_rfl) (by kernel_rfl) hsz trivial ⟨?_, ?_, ?_, ?_, ?_, ?_, ?_, ?_, ?_, ?_, ?_, trivial⟩ ?_
  · intro a wx c
    have e1 : a.eval (.tmp 1) = pt b 0 := c.outE (by decide +kernel) h1
    clear c
    show Oper.wp _ _ _ _ _ _
    unfold Oper.wp
    simp only [execOp, resolve, e1]
    go_simp; try go_bits
    exact ⟨_, rfl, Only.refl _ _, rfl⟩
  · intro a wx c
    have e4 : a.eval (.tmp 4) = pt b 0 := c.slot 0 _ (by decide +kernel) rfl
    have hcell := c.cell (p := ⟨b, 0, none⟩) (v := .string y.typ) (cell_of_heap hy rfl) (fun _ h => h.elim)
    clear c
    show Oper.wp _ _ _ _ _ _
    unfold Oper.wp
    simp only [execOp, resolve, e4]
    go_simp; try go_bits
    exact ⟨_, rfl, Only.refl _ _, rfl⟩
  · intro a wx c
    have e5 : a.eval (.tmp 5) = .string (y.typ) := c.slot 1 _ (by decide +kernel) rfl
    clear c
    show Oper.wp _ _ _ _ _ _
    unfold Oper.wp
    simp only [execOp, resolve, List.map_toArray, List.map_cons, List.map_nil, e5]
    go_simp
    refine (line_any _ _ _ _ (by simp [ByteArray.size]) (by omega)).mono ?_
    rintro e w' ⟨rfl, rfl⟩
    exact ⟨_, rfl, Only.refl _ _, rfl⟩
  · intro a wx c
    have e1 : a.eval (.tmp 1) = pt b 0 := c.outE (by decide +kernel) h1
    clear c
    show Oper.wp _ _ _ _ _ _
    unfold Oper.wp
    simp only [execOp, resolve, e1]
    go_simp; try go_bits
    exact ⟨_, rfl, Only.refl _ _, rfl⟩
  · intro a wx c
    have e7 : a.eval (.tmp 7) = pt b 1 := c.slot 3 _ (by decide +kernel) rfl
    have hcell := c.cell (p := ⟨b, 1, none⟩) (v := .string y.grp) (cell_of_heap hy rfl) (fun _ h => h.elim)
    clear c
    show Oper.wp _ _ _ _ _ _
    unfold Oper.wp
    simp only [execOp, resolve, e7]
    go_simp; try go_bits
    exact ⟨_, rfl, Only.refl _ _, rfl⟩
  · intro a wx c
    have e8 : a.eval (.tmp 8) = .string (y.grp) := c.slot 4 _ (by decide +kernel) rfl
    clear c
    show Oper.wp _ _ _ _ _ _
    unfold Oper.wp
    simp only [execOp, resolve, List.map_toArray, List.map_cons, List.map_nil, e8]
    go_simp
    refine (line_any _ _ _ _ (by simp [ByteArray.size]) (by omega)).mono ?_
    rintro e w' ⟨rfl, rfl⟩
    exact ⟨_, rfl, Only.refl _ _, rfl⟩
  · intro a wx c
    have e1 : a.eval (.tmp 1) = pt b 0 := c.outE (by decide +kernel) h1
    clear c
    show Oper.wp _ _ _ _ _ _
    unfold Oper.wp
    simp only [execOp, resolve, e1]
    go_simp; try go_bits
    exact ⟨_, rfl, Only.refl _ _, rfl⟩
  · intro a wx c
    have e10 : a.eval (.tmp 10) = pt b 2 := c.slot 6 _ (by decide +kernel) rfl
    have hcell := c.cell (p := ⟨b, 2, none⟩) (v := .string y.name) (cell_of_heap hy rfl) (fun _ h => h.elim)
    clear c
    show Oper.wp _ _ _ _ _ _
    unfold Oper.wp
    simp only [execOp, resolve, e10]
    go_simp; try go_bits
    exact ⟨_, rfl, Only.refl _ _, rfl⟩
  · intro a wx c
    have e11 : a.eval (.tmp 11) = .string (y.name) := c.slot 7 _ (by decide +kernel) rfl
    clear c
    show Oper.wp _ _ _ _ _ _
    unfold Oper.wp
    simp only [execOp, resolve, List.map_toArray, List.map_cons, List.map_nil, e11]
    go_simp
    refine (line_any _ _ _ _ (by simp [ByteArray.size]) (by omega)).mono ?_
    rintro e w' ⟨rfl, rfl⟩
    exact ⟨_, rfl, Only.refl _ _, rfl⟩
  · intro a wx c
    have e6 : a.eval (.tmp 6) = .string (attr ⟨#[84, 89, 80, 69]⟩ y.typ false) := c.slot 2 _ (by decide +kernel) rfl
    have e9 : a.eval (.tmp 9) = .string (attr ⟨#[71, 82, 79, 85, 80, 45, 73, 68]⟩ y.grp true) := c.slot 5 _ (by decide +kernel) rfl
    have e12 : a.eval (.tmp 12) = .string (attr ⟨#[78, 65, 77, 69]⟩ y.name true) := c.slot 8 _ (by decide +kernel) rfl
    have hsz := c.only.size
    clear c
    show Oper.wp _ _ _ _ _ _
    unfold Oper.wp
    simp only [execOp, e6, e9, e12, List.map_toArray, List.map_cons, List.map_nil]
    go_simp
    exact ⟨_, rfl, Only.of_below ((Below.refl _ _).alloc (Nat.le_refl _) _), _, by simpa using hsz, rfl, heap_alloc_new _ _⟩
  · intro a wx c
    obtain ⟨g13, k13, e13, h13⟩ : Asr.holds _ (Asr.blk (fun g => .slice (some ⟨g, 0, none⟩) 3 3) 9 #[.string (attr ⟨#[84, 89, 80, 69]⟩ y.typ false), .string (attr ⟨#[71, 82, 79, 85, 80, 45, 73, 68]⟩ y.grp true), .string (attr ⟨#[78, 65, 77, 69]⟩ y.name true)]) (a.eval (.tmp 13)) wx := c.slot 9 _ (by decide +kernel) rfl
    clear c
    show Oper.wp _ _ _ _ _ _
    unfold Oper.wp
    simp only [execOp, resolve, e13]
    go_simp; try go_bits
    exact ⟨_, rfl, Only.refl _ _, g13, by simpa using k13, rfl, h13⟩
  · intro a1 w1 c hb
    obtain ⟨g, hg, e3, hh⟩ : Asr.holds _ (Asr.blk (fun g => .slice (some ⟨g, 0, none⟩) 3 3) 9 #[.string (attr ⟨#[84, 89, 80, 69]⟩ y.typ false), .string (attr ⟨#[71, 82, 79, 85, 80, 45, 73, 68]⟩ y.grp true), .string (attr ⟨#[78, 65, 77, 69]⟩ y.name true)]) (a1.tmps.getD 3 undef) w1 := c.slot 10 _ rfl
    have e1 : a1.eval (.tmp 1) = pt b 0 := (c.outLow (m0 := 3) (by kernel_rfl) (by decide)).trans h1
    refine hK a1 w1 (.slice (some ⟨g, 0, none⟩) 3 3) ⟨c.size.trans hsz, c.defers.trans hdf, ?_⟩ ?_ hb
    · intro t v hl
      by_cases e : t = 3
      · subst e
        rw [look_eq] at hl
        have e3 : a1.eval (.tmp 3) = _ := e3
        rw [e3, ← Option.some.inj hl]
      · rw [look_ne e] at hl
        by_cases e : t = 1
        · subst e
          rw [look_eq] at hl
          rw [e1, ← Option.some.inj hl]
        · rw [look_ne e] at hl
          simp at hl
    · exact Own.fresh (cs := [_, _, _]) (fun _ => rfl) hh (by simpa using hg) rfl rfl (by decide)

noncomputable def aatBody : Code := Tryd.f21.body.getD .skip
/-- Between two pieces. -/
structure Aa (y : At) (b B : Nat) (w0 : World) (L : List ByteArray) (a : Act) (w : World) : Prop where
  fr : ∃ s, Ev 52 ((3, s) :: (1, pt b 0) :: []) a ∧ strOwn w B s L
  box : w.heap[b]? = some (.cells y.cells 46 (0, 0))
  below : Below B w0 w
  le : B ≤ b
theorem At.at0_len (y : At) : y.at0.length ≤ 10 := by simp [At.at0]
theorem At.at1_len (y : At) : y.at1.length ≤ 10 := by simp [At.at1, At.at0]
theorem At.at2_len (y : At) : y.at2.length ≤ 10 := by have := opt_len (ne y.auto) (attr ⟨#[65, 85, 84, 79, 83, 69, 76, 69, 67, 84]⟩ y.auto false); simp only [At.at2, At.at1, At.at0, List.length_append, List.length_cons, List.length_nil]; omega
theorem At.at3_len (y : At) : y.at3.length ≤ 10 := by have := opt_len (ne y.auto) (attr ⟨#[65, 85, 84, 79, 83, 69, 76, 69, 67, 84]⟩ y.auto false); have := opt_len (ne y.lang) (attr ⟨#[76, 65, 78, 71, 85, 65, 71, 69]⟩ y.lang true); simp only [At.at3, At.at2, At.at1, At.at0, List.length_append, List.length_cons, List.length_nil]; omega
theorem At.attrs_len (y : At) : y.attrs.length ≤ 10 := by have := opt_len (ne y.auto) (attr ⟨#[65, 85, 84, 79, 83, 69, 76, 69, 67, 84]⟩ y.auto false); have := opt_len (ne y.lang) (attr ⟨#[76, 65, 78, 71, 85, 65, 71, 69]⟩ y.lang true); have := opt_len (ne y.uri) (attr ⟨#[85, 82, 73]⟩ y.uri true); simp only [At.attrs, At.at3, At.at2, At.at1, At.at0, List.length_append, List.length_cons, List.length_nil]; omega
set_option maxRecDepth 100000 in
set_option maxHeartbeats 4000000 in
theorem aat_d {y : At} {b B : Nat} {w0 : World} (hok : y.Ok) (a : Act) (w : World) (h : Aa y b B w0 y.at0 a w) (Q : Exit → Act → World → Prop) (hQ : ∀ a' w', Aa y b B w0 y.at1 a' w' → Q .normal a' w') : Code.wp Tryd.prog (cA (cB (cB aatBody))) Q a w := by
  obtain ⟨i0, hi, hz0, hz1, hz2⟩ := info_parts info_string
  obtain ⟨q1, q2, q3, q4, q5, q6⟩ := hok
  obtain ⟨⟨s, hE, hown⟩, hy, hb, hB⟩ := h
  have hln : y.at0.length ≤ 10 := y.at0_len
  refine wp_seq ?_
  refine wp_region_lit ?_
  refine ev_run hE rfl rfl (by decide) (ex_fa (hE.get 1 rfl) (fa_sa_3 _)) ?_
  intro a hE
  refine ev_run hE rfl rfl (by decide) (ex_ld (hE.get 14 rfl) ld_bool (cell_of_heap (v := .bool y.dflt) hy rfl)) ?_
  intro a hE
  refine wpList_nil ?_
  show Code.wp _ _ _ _ _
  refine wp_cond_split (hE.get 15 rfl) (fun ht => ?_) (fun ht => ?_)
  · refine wp_region_lit ?_
    refine ev_mv hE (hE.get 3 rfl) (by decide) ?_
    intro a hE
    refine ev_call (S := fun v w' => v = .string (attr ⟨#[68, 69, 70, 65, 85, 76, 84]⟩ (⟨#[89, 69, 83]⟩) false) ∧ w' = w) hE rfl rfl (by decide) (f := 30) (args := #[.string ⟨#[68, 69, 70, 65, 85, 76, 84]⟩, .string (⟨#[89, 69, 83]⟩), .bool false]) ?_ ((line_any ⟨#[68, 69, 70, 65, 85, 76, 84]⟩ (⟨#[89, 69, 83]⟩) false w (by simp [ByteArray.size]) (by simp [ByteArray.size])).mono ?_) ?_
    · simp only [execOp, resolve, List.map_toArray, List.map_cons, List.map_nil]
      go_simp
    · rintro e w' ⟨rfl, rfl⟩
      exact ⟨_, rfl, rfl, rfl⟩
    rintro a v w' ⟨rfl, rfl⟩ hE
    refine ev_push 43 Tryd.underlying43 i0 _ 16 hi hz0 hz1 hz2 (by rfl) (by decide) (fun _ => rfl) (by simp [Value.oneCell']) (attr ⟨#[68, 69, 70, 65, 85, 76, 84]⟩ (⟨#[89, 69, 83]⟩) false) hE ?_ (hE.get 16 rfl) (by decide) (by decide) (by decide) hown (Nat.le_of_lt (Nat.lt_of_le_of_lt hB (Array.getElem?_eq_some_iff.1 hy).1)) ?_ ?_ ?_
    · simp only [execOp, List.map_toArray, List.map_cons, List.map_nil, hE.get 17 rfl]
      go_simp
    · omega
    · omega
    intro a s' w6 hown6 hon6 _ hE
    refine ev_as hE (hE.get 19 rfl) (by decide) ?_
    intro a hE
    refine wpList_nil ?_
    have hb6 : Below B w' w6 := hon6.below (Nat.le_of_lt (Nat.lt_of_le_of_lt hB (Array.getElem?_eq_some_iff.1 hy).1)) fun g hg hv => by have := (hown.block_lt g hv).1; omega
    refine hQ a w6 ⟨⟨s', hE.pick rfl, ?_⟩, ?_, hb.trans hb6, hB⟩
    · rw [show y.at1 = y.at0 ++ [attr ⟨#[68, 69, 70, 65, 85, 76, 84]⟩ ⟨#[89, 69, 83]⟩ false] from by simp [At.at1, ht]]; exact hown6
    · rw [hon6.block _ (Array.getElem?_eq_some_iff.1 hy).1 (fun hv => hown.ne_blk hy (by decide) hv)]; exact hy
  · refine wp_region_lit ?_
    refine ev_mv hE (hE.get 3 rfl) (by decide) ?_
    intro a hE
    refine ev_call (S := fun v w' => v = .string (attr ⟨#[68, 69, 70, 65, 85, 76, 84]⟩ (⟨#[78, 79]⟩) false) ∧ w' = w) hE rfl rfl (by decide) (f := 30) (args := #[.string ⟨#[68, 69, 70, 65, 85, 76, 84]⟩, .string (⟨#[78, 79]⟩), .bool false]) ?_ ((line_any ⟨#[68, 69, 70, 65, 85, 76, 84]⟩ (⟨#[78, 79]⟩) false w (by simp [ByteArray.size]) (by simp [ByteArray.size])).mono ?_) ?_
    · simp only [execOp, resolve, List.map_toArray, List.map_cons, List.map_nil]
      go_simp
    · rintro e w' ⟨rfl, rfl⟩
      exact ⟨_, rfl, rfl, rfl⟩
    rintro a v w' ⟨rfl, rfl⟩ hE
    refine ev_push 43 Tryd.underlying43 i0 _ 16 hi hz0 hz1 hz2 (by rfl) (by decide) (fun _ => rfl) (by simp [Value.oneCell']) (attr ⟨#[68, 69, 70, 65, 85, 76, 84]⟩ (⟨#[78, 79]⟩) false) hE ?_ (hE.get 20 rfl) (by decide) (by decide) (by decide) hown (Nat.le_of_lt (Nat.lt_of_le_of_lt hB (Array.getElem?_eq_some_iff.1 hy).1)) ?_ ?_ ?_
    · simp only [execOp, List.map_toArray, List.map_cons, List.map_nil, hE.get 21 rfl]
      go_simp
    · omega
    · omega
    intro a s' w6 hown6 hon6 _ hE
    refine ev_as hE (hE.get 23 rfl) (by decide) ?_
    intro a hE
    refine wpList_nil ?_
    have hb6 : Below B w' w6 := hon6.below (Nat.le_of_lt (Nat.lt_of_le_of_lt hB (Array.getElem?_eq_some_iff.1 hy).1)) fun g hg hv => by have := (hown.block_lt g hv).1; omega
    refine hQ a w6 ⟨⟨s', hE.pick rfl, ?_⟩, ?_, hb.trans hb6, hB⟩
    · rw [show y.at1 = y.at0 ++ [attr ⟨#[68, 69, 70, 65, 85, 76, 84]⟩ ⟨#[78, 79]⟩ false] from by simp [At.at1, ht]]; exact hown6
    · rw [hon6.block _ (Array.getElem?_eq_some_iff.1 hy).1 (fun hv => hown.ne_blk hy (by decide) hv)]; exact hy
set_option maxRecDepth 100000 in
set_option maxHeartbeats 4000000 in
theorem aat_auto {y : At} {b B : Nat} {w0 : World} (hok : y.Ok) (a : Act) (w : World) (h : Aa y b B w0 y.at1 a w) (Q : Exit → Act → World → Prop) (hQ : ∀ a' w', Aa y b B w0 y.at2 a' w' → Q .normal a' w') : Code.wp Tryd.prog (cA (cB (cB (cB aatBody)))) Q a w := by
  obtain ⟨i0, hi, hz0, hz1, hz2⟩ := info_parts info_string
  obtain ⟨q1, q2, q3, q4, q5, q6⟩ := hok
  obtain ⟨⟨s, hE, hown⟩, hy, hb, hB⟩ := h
  have hln : y.at1.length ≤ 10 := y.at1_len
  refine wp_seq ?_
  refine wp_region_lit ?_
  refine ev_run hE rfl rfl (by decide) (ex_fa (hE.get 1 rfl) (fa_sa_4 _)) ?_
  intro a hE
  refine ev_run hE rfl rfl (by decide) (ex_ld (hE.get 24 rfl) ld_string (cell_of_heap (v := .string y.auto) hy rfl)) ?_
  intro a hE
  refine ev_run hE rfl rfl (by decide) (ex_ne0 (hE.get 25 rfl)) ?_
  intro a hE
  refine wpList_nil ?_
  show Code.wp _ _ _ _ _
  refine wp_cond_split (hE.get 26 rfl) (fun ht => ?_) (fun ht => ?_)
  · refine wp_region_lit ?_
    refine ev_mv hE (hE.get 3 rfl) (by decide) ?_
    intro a hE
    refine ev_run hE rfl rfl (by decide) (ex_fa (hE.get 1 rfl) (fa_sa_4 _)) ?_
    intro a hE
    refine ev_run hE rfl rfl (by decide) (ex_ld (hE.get 28 rfl) ld_string (cell_of_heap (v := .string y.auto) hy rfl)) ?_
    intro a hE
    refine ev_call (S := fun v w' => v = .string (attr ⟨#[65, 85, 84, 79, 83, 69, 76, 69, 67, 84]⟩ (y.auto) false) ∧ w' = w) hE rfl rfl (by decide) (f := 30) (args := #[.string ⟨#[65, 85, 84, 79, 83, 69, 76, 69, 67, 84]⟩, .string (y.auto), .bool false]) ?_ ((line_any ⟨#[65, 85, 84, 79, 83, 69, 76, 69, 67, 84]⟩ (y.auto) false w (by simp [ByteArray.size]) (by omega)).mono ?_) ?_
    · simp only [execOp, resolve, List.map_toArray, List.map_cons, List.map_nil, hE.get 29 rfl]
      go_simp
    · rintro e w' ⟨rfl, rfl⟩
      exact ⟨_, rfl, rfl, rfl⟩
    rintro a v w' ⟨rfl, rfl⟩ hE
    refine ev_push 43 Tryd.underlying43 i0 _ 16 hi hz0 hz1 hz2 (by rfl) (by decide) (fun _ => rfl) (by simp [Value.oneCell']) (attr ⟨#[65, 85, 84, 79, 83, 69, 76, 69, 67, 84]⟩ (y.auto) false) hE ?_ (hE.get 27 rfl) (by decide) (by decide) (by decide) hown (Nat.le_of_lt (Nat.lt_of_le_of_lt hB (Array.getElem?_eq_some_iff.1 hy).1)) ?_ ?_ ?_
    · simp only [execOp, List.map_toArray, List.map_cons, List.map_nil, hE.get 30 rfl]
      go_simp
    · omega
    · omega
    intro a s' w6 hown6 hon6 _ hE
    refine ev_as hE (hE.get 32 rfl) (by decide) ?_
    intro a hE
    refine wpList_nil ?_
    have hb6 : Below B w' w6 := hon6.below (Nat.le_of_lt (Nat.lt_of_le_of_lt hB (Array.getElem?_eq_some_iff.1 hy).1)) fun g hg hv => by have := (hown.block_lt g hv).1; omega
    refine hQ a w6 ⟨⟨s', hE.pick rfl, ?_⟩, ?_, hb.trans hb6, hB⟩
    · rw [show y.at2 = y.at1 ++ [attr ⟨#[65, 85, 84, 79, 83, 69, 76, 69, 67, 84]⟩ y.auto false] from by simp [At.at2, opt, ht]]; exact hown6
    · rw [hon6.block _ (Array.getElem?_eq_some_iff.1 hy).1 (fun hv => hown.ne_blk hy (by decide) hv)]; exact hy
  · refine wp_skip ?_
    refine hQ a w ⟨⟨s, hE.pick rfl, ?_⟩, hy, hb, hB⟩
    rw [show y.at2 = y.at1 from by simp [At.at2, opt, ht]]; exact hown
set_option maxRecDepth 100000 in
set_option maxHeartbeats 4000000 in
theorem aat_lang {y : At} {b B : Nat} {w0 : World} (hok : y.Ok) (a : Act) (w : World) (h : Aa y b B w0 y.at2 a w) (Q : Exit → Act → World → Prop) (hQ : ∀ a' w', Aa y b B w0 y.at3 a' w' → Q .normal a' w') : Code.wp Tryd.prog (cA (cB (cB (cB (cB aatBody))))) Q a w := by
  obtain ⟨i0, hi, hz0, hz1, hz2⟩ := info_parts info_string
  obtain ⟨q1, q2, q3, q4, q5, q6⟩ := hok
  obtain ⟨⟨s, hE, hown⟩, hy, hb, hB⟩ := h
  have hln : y.at2.length ≤ 10 := y.at2_len
  refine wp_seq ?_
  refine wp_region_lit ?_
  refine ev_run hE rfl rfl (by decide) (ex_fa (hE.get 1 rfl) (fa_sa_5 _)) ?_
  intro a hE
  refine ev_run hE rfl rfl (by decide) (ex_ld (hE.get 33 rfl) ld_string (cell_of_heap (v := .string y.lang) hy rfl)) ?_
  intro a hE
  refine ev_run hE rfl rfl (by decide) (ex_ne0 (hE.get 34 rfl)) ?_
  intro a hE
  refine wpList_nil ?_
  show Code.wp _ _ _ _ _
  refine wp_cond_split (hE.get 35 rfl) (fun ht => ?_) (fun ht => ?_)
  · refine wp_region_lit ?_
    refine ev_mv hE (hE.get 3 rfl) (by decide) ?_
    intro a hE
    refine ev_run hE rfl rfl (by decide) (ex_fa (hE.get 1 rfl) (fa_sa_5 _)) ?_
    intro a hE
    refine ev_run hE rfl rfl (by decide) (ex_ld (hE.get 37 rfl) ld_string (cell_of_heap (v := .string y.lang) hy rfl)) ?_
    intro a hE
    refine ev_call (S := fun v w' => v = .string (attr ⟨#[76, 65, 78, 71, 85, 65, 71, 69]⟩ (y.lang) true) ∧ w' = w) hE rfl rfl (by decide) (f := 30) (args := #[.string ⟨#[76, 65, 78, 71, 85, 65, 71, 69]⟩, .string (y.lang), .bool true]) ?_ ((line_any ⟨#[76, 65, 78, 71, 85, 65, 71, 69]⟩ (y.lang) true w (by simp [ByteArray.size]) (by omega)).mono ?_) ?_
    · simp only [execOp, resolve, List.map_toArray, List.map_cons, List.map_nil, hE.get 38 rfl]
      go_simp
    · rintro e w' ⟨rfl, rfl⟩
      exact ⟨_, rfl, rfl, rfl⟩
    rintro a v w' ⟨rfl, rfl⟩ hE
    refine ev_push 43 Tryd.underlying43 i0 _ 16 hi hz0 hz1 hz2 (by rfl) (by decide) (fun _ => rfl) (by simp [Value.oneCell']) (attr ⟨#[76, 65, 78, 71, 85, 65, 71, 69]⟩ (y.lang) true) hE ?_ (hE.get 36 rfl) (by decide) (by decide) (by decide) hown (Nat.le_of_lt (Nat.lt_of_le_of_lt hB (Array.getElem?_eq_some_iff.1 hy).1)) ?_ ?_ ?_
    · simp only [execOp, List.map_toArray, List.map_cons, List.map_nil, hE.get 39 rfl]
      go_simp
    · omega
    · omega
    intro a s' w6 hown6 hon6 _ hE
    refine ev_as hE (hE.get 41 rfl) (by decide) ?_
    intro a hE
    refine wpList_nil ?_
    have hb6 : Below B w' w6 := hon6.below (Nat.le_of_lt (Nat.lt_of_le_of_lt hB (Array.getElem?_eq_some_iff.1 hy).1)) fun g hg hv => by have := (hown.block_lt g hv).1; omega
    refine hQ a w6 ⟨⟨s', hE.pick rfl, ?_⟩, ?_, hb.trans hb6, hB⟩
    · rw [show y.at3 = y.at2 ++ [attr ⟨#[76, 65, 78, 71, 85, 65, 71, 69]⟩ y.lang true] from by simp [At.at3, opt, ht]]; exact hown6
    · rw [hon6.block _ (Array.getElem?_eq_some_iff.1 hy).1 (fun hv => hown.ne_blk hy (by decide) hv)]; exact hy
  · refine wp_skip ?_
    refine hQ a w ⟨⟨s, hE.pick rfl, ?_⟩, hy, hb, hB⟩
    rw [show y.at3 = y.at2 from by simp [At.at3, opt, ht]]; exact hown
set_option maxRecDepth 100000 in
set_option maxHeartbeats 4000000 in
theorem aat_uri {y : At} {b B : Nat} {w0 : World} (hok : y.Ok) (a : Act) (w : World) (h : Aa y b B w0 y.at3 a w) (Q : Exit → Act → World → Prop) (hQ : ∀ a' w', Aa y b B w0 y.attrs a' w' → Q .normal a' w') : Code.wp Tryd.prog (cA (cB (cB (cB (cB (cB aatBody)))))) Q a w := by
  obtain ⟨i0, hi, hz0, hz1, hz2⟩ := info_parts info_string
  obtain ⟨q1, q2, q3, q4, q5, q6⟩ := hok
  obtain ⟨⟨s, hE, hown⟩, hy, hb, hB⟩ := h
  have hln : y.at3.length ≤ 10 := y.at3_len
  refine wp_seq ?_
  refine wp_region_lit ?_
  refine ev_run hE rfl rfl (by decide) (ex_fa (hE.get 1 rfl) (fa_sa_6 _)) ?_
  intro a hE
  refine ev_run hE rfl rfl (by decide) (ex_ld (hE.get 42 rfl) ld_string (cell_of_heap (v := .string y.uri) hy rfl)) ?_
  intro a hE
  refine ev_run hE rfl rfl (by decide) (ex_ne0 (hE.get 43 rfl)) ?_
  intro a hE
  refine wpList_nil ?_
  show Code.wp _ _ _ _ _
  refine wp_cond_split (hE.get 44 rfl) (fun ht => ?_) (fun ht => ?_)
  · refine wp_region_lit ?_
    refine ev_mv hE (hE.get 3 rfl) (by decide) ?_
    intro a hE
    refine ev_run hE rfl rfl (by decide) (ex_fa (hE.get 1 rfl) (fa_sa_6 _)) ?_
    intro a hE
    refine ev_run hE rfl rfl (by decide) (ex_ld (hE.get 46 rfl) ld_string (cell_of_heap (v := .string y.uri) hy rfl)) ?_
    intro a hE
    refine ev_call (S := fun v w' => v = .string (attr ⟨#[85, 82, 73]⟩ (y.uri) true) ∧ w' = w) hE rfl rfl (by decide) (f := 30) (args := #[.string ⟨#[85, 82, 73]⟩, .string (y.uri), .bool true]) ?_ ((line_any ⟨#[85, 82, 73]⟩ (y.uri) true w (by simp [ByteArray.size]) (by omega)).mono ?_) ?_
    · simp only [execOp, resolve, List.map_toArray, List.map_cons, List.map_nil, hE.get 47 rfl]
      go_simp
    · rintro e w' ⟨rfl, rfl⟩
      exact ⟨_, rfl, rfl, rfl⟩
    rintro a v w' ⟨rfl, rfl⟩ hE
    refine ev_push 43 Tryd.underlying43 i0 _ 16 hi hz0 hz1 hz2 (by rfl) (by decide) (fun _ => rfl) (by simp [Value.oneCell']) (attr ⟨#[85, 82, 73]⟩ (y.uri) true) hE ?_ (hE.get 45 rfl) (by decide) (by decide) (by decide) hown (Nat.le_of_lt (Nat.lt_of_le_of_lt hB (Array.getElem?_eq_some_iff.1 hy).1)) ?_ ?_ ?_
    · simp only [execOp, List.map_toArray, List.map_cons, List.map_nil, hE.get 48 rfl]
      go_simp
    · omega
    · omega
    intro a s' w6 hown6 hon6 _ hE
    refine ev_as hE (hE.get 50 rfl) (by decide) ?_
    intro a hE
    refine wpList_nil ?_
    have hb6 : Below B w' w6 := hon6.below (Nat.le_of_lt (Nat.lt_of_le_of_lt hB (Array.getElem?_eq_some_iff.1 hy).1)) fun g hg hv => by have := (hown.block_lt g hv).1; omega
    refine hQ a w6 ⟨⟨s', hE.pick rfl, ?_⟩, ?_, hb.trans hb6, hB⟩
    · rw [show y.attrs = y.at3 ++ [attr ⟨#[85, 82, 73]⟩ y.uri true] from by simp [At.attrs, opt, ht]]; exact hown6
    · rw [hon6.block _ (Array.getElem?_eq_some_iff.1 hy).1 (fun hv => hown.ne_blk hy (by decide) hv)]; exact hy
  · refine wp_skip ?_
    refine hQ a w ⟨⟨s, hE.pick rfl, ?_⟩, hy, hb, hB⟩
    rw [show y.attrs = y.at3 from by simp [At.attrs, opt, ht]]; exact hown
theorem bx_sa (y : At) (w : World) : (Instr.box 46 (.agg y.cells)).run Tryd.prog w = .ok (pt w.heap.size 0) (w.alloc (.cells y.cells 46)) := by
  rfl
set_option maxRecDepth 100000 in
set_option maxHeartbeats 4000000 in
/-- spec.Alternative.attributes. -/
theorem aat_any (y : At) (hok : y.Ok) (w : World) : Calls Tryd.prog 21 #[.agg y.cells] w fun e w' => ∃ s, e = .returned s ∧ strOwn w' w.heap.size s y.attrs ∧ Below w.heap.size w w' := by
  refine calls_of_ev Tryd.func21 rfl (show 1 ≤ 52 from by decide) ?_
  intro a hE
  have hE : Ev 52 ((0, .agg y.cells) :: []) a := hE
  refine wp_seq ?_
  refine wp_region_lit ?_
  refine ev_box hE (hE.get 0 rfl) (bx_sa y) (by decide) ?_
  intro a w1 hE hy hb1 _
  refine ev_ac hE (by decide) ?_
  intro a hE
  refine wpList_nil ?_
  have hE : Ev 52 ((1, pt w.heap.size 0) :: []) a := hE.pick rfl
  show Code.wp _ _ _ _ _
  refine wp_seq ?_
  refine aat_rgn hok hE.size hE.defers (hE.get 1 rfl) hy ?_
  intro a w2 s hE hown hb2
  have h0 : Aa y w.heap.size w.heap.size w y.at0 a w2 := ⟨⟨s, hE, hown.base hb1.size⟩, hp_below hy hb2, hb1.trans (hb2.mono hb1.size), Nat.le_refl _⟩
  clear hE hown hb2 hb1 hy
  show Code.wp _ _ _ _ _
  refine wp_seq (aat_d hok a w2 h0 _ fun a w2 h0 => ?_)
  show Code.wp _ _ _ _ _
  refine wp_seq (aat_auto hok a w2 h0 _ fun a w2 h0 => ?_)
  show Code.wp _ _ _ _ _
  refine wp_seq (aat_lang hok a w2 h0 _ fun a w2 h0 => ?_)
  show Code.wp _ _ _ _ _
  refine wp_seq (aat_uri hok a w2 h0 _ fun a w2 h0 => ?_)
  show Code.wp _ _ _ _ _
  obtain ⟨⟨s, hE, hown⟩, _, hb, _⟩ := h0
  refine wp_seq ?_
  refine wp_region_lit ?_
  refine ev_mv hE (hE.get 3 rfl) (by decide) ?_
  intro a hE
  refine ev_as hE (hE.get 51 rfl) (by decide) ?_
  intro a hE
  refine wpList_nil ?_
  show Code.wp _ _ _ _ _
  refine wp_ret ?_
  exact ret_of_ev hE rfl (hE.get 2 rfl) ⟨s, rfl, hown, hb⟩
end Go.Proofs.YtkddkmiomhadaaaDoor
