/- The walk of spec.Variant.Line. -/
import Derived.Test.YtbehijhpichniaaPkv
import Derived.Test.YtbehijhpichniaaStp
namespace Go.Proofs.Ytbehijhpichniaa
open Go.RowKit
def prT (t : Tr) : List Value := [.string t.name, .string t.value]
theorem info_pair : (Try.prog.info? 37).map (fun i => (i.zero, i.size, i.bytes)) = some (some (.agg #[.string ⟨#[]⟩, .string ⟨#[]⟩]), 2, 32) := by kernel_rfl
/-- What spec.Variant.Line hands back. -/
def LinePost (v : Vt) (w : World) (e : Ending) (w' : World) : Prop := ∃ (tx : ByteArray) (sp : Value), e = .returned (.tuple #[.string tx, sp]) ∧ tx.data.toList = joinL v.attrs ∧ tx.size ≤ 11011 ∧ Own prT 37 2 w' w.heap.size sp v.trs ∧ Below w.heap.size w w'
/-- An attribute's text, its parts. -/
structure Parts (t : Tr) (x y : ByteArray) : Prop where
  size : x.size = t.name.size + 1 + y.size
  before : ∀ j (h : j < t.name.size) (h' : j < x.size), ¬ (x[j]'h').toNat = 61
  at_ : ∀ h : t.name.size < x.size, (x[t.name.size]'h).toNat = 61
  name : x.extract 0 t.name.size = t.name
  rest : x.extract (t.name.size + 1) x.size = y
  pos : 0 < y.size
  quote : t.q = true → (∀ h : 0 < y.size, (y[0]'h).toNat = 34) ∧ y.size = t.value.size + 2 ∧ y.extract 1 (y.size - 1) = t.value
  bare : t.q = false → (∀ h : 0 < y.size, ¬ (y[0]'h).toNat = 34) ∧ y = t.value
theorem ba_ext {a b : ByteArray} (h : a.data.toList = b.data.toList) : a = b := ByteArray.ext (Array.toList_inj.1 h)
theorem get_list {x : ByteArray} {j : Nat} (h : j < x.size) {b : UInt8} (hb : x.data.toList[j]? = some b) : x[j]'h = b := by
  rw [byte_get h] at hb
  exact Option.some.inj hb
theorem parts_of {t : Tr} (h : t.Good) : ∃ y, Parts t t.text y := by
  have hx := t.text_list
  have hl := len_data t.text
  have hn := len_data t.name
  refine ⟨t.text.extract (t.name.size + 1) t.text.size, ?_⟩
  have hy : (t.text.extract (t.name.size + 1) t.text.size).data.toList = t.raw := by
    rw [extract_list, List.take_of_length_le (by rw [List.length_drop, hl]; exact Nat.le_refl _), hx, List.drop_append, ← hn]
    simp
  have hz := len_data (t.text.extract (t.name.size + 1) t.text.size)
  rw [hy] at hz
  have hsz : t.text.size = t.name.size + 1 + t.raw.length := by rw [← hl, hx, ← hn]; simp; omega
  generalize hyy : t.text.extract (t.name.size + 1) t.text.size = y at *
  have hv := List.length_pos_iff.2 h.value0
  have hvl := len_data t.value
  have hpos : 0 < y.size := by
    rw [← hz]
    unfold Tr.raw
    split
    · simp
    · exact hv
  refine ⟨by omega, ?_, ?_, ?_, hyy, hpos, ?_, ?_⟩
  · intro j hj hj'
    have hb : t.text.data.toList[j]? = t.name.data.toList[j]? := by rw [hx, List.getElem?_append_left (by omega)]
    rw [List.getElem?_eq_getElem (show j < t.name.data.toList.length by omega)] at hb
    rw [get_list hj' hb]
    have := h.name _ (List.getElem_mem (show j < t.name.data.toList.length by omega))
    intro e
    rw [byte_eq e] at this
    exact absurd this (by decide)
  · intro h'
    have hb : t.text.data.toList[t.name.size]? = some 61 := by rw [hx, ← hn]; simp
    rw [get_list h' hb]; rfl
  · refine ba_ext ?_
    rw [extract_list, hx, ← hn]; simp
  · intro hq
    have hr : t.raw = 34 :: (t.value.data.toList ++ [34]) := by unfold Tr.raw; rw [if_pos hq]
    refine ⟨fun h0 => ?_, ?_, ba_ext ?_⟩
    · have hb : y.data.toList[0]? = some 34 := by rw [hy, hr]; rfl
      rw [get_list h0 hb]; rfl
    · rw [← hz, hr, ← hvl]; simp
    · rw [extract_list, hy, hr, ← hz, hr]; simp
  · intro hq
    have hr : t.raw = t.value.data.toList := by unfold Tr.raw; rw [if_neg (by rw [hq]; decide)]
    refine ⟨fun h0 e => ?_, ba_ext (by rw [hy, hr])⟩
    have hb := byte_get h0
    rw [hy, hr, byte_eq e] at hb
    exact h.quote _ (List.mem_of_getElem? hb) rfl
theorem text_size {t : Tr} (h : t.Good) : t.text.size ≤ 1000 := by
  have := attr_size t.name t.value t.q
  have := h.size
  show (attr _ _ _).size ≤ _
  omega
/-- The state of spec.Variant.Line between two rounds. -/
structure Ls (v : Vt) (w : World) (s sp : Value) (k : Nat) (wx : World) : Prop where
  attrs : strOwn wx w.heap.size s v.attrs
  pairs : Own prT 37 2 wx w.heap.size sp (v.trs.take k)
  below : Below w.heap.size w wx
theorem Ls.next {v : Vt} {w : World} {s sp sp' : Value} {k : Nat} {wx wy : World} (h : Ls v w s sp k wx) (hk : k < v.trs.length) (h2 : Own prT 37 2 wy w.heap.size sp' (v.trs.take k ++ [v.trs[k]'hk])) (o : Only (fun g => sp.ownBlock = some g) wx wy) : Ls v w s sp' (k + 1) wy := by
  refine ⟨h.attrs.only o fun g hg => h.attrs.ne_ h.pairs (by decide) g hg, ?_, h.below.trans (o.below h.below.size fun g hg e => ?_)⟩
  · rw [List.take_succ_eq_append_getElem hk]; exact h2
  · have := (h.pairs.block_lt g e).1; omega
theorem prT_one : ∀ (t : Tr), ∀ u ∈ prT t, u.oneCell' = true := by
  intro t u hu
  simp [prT] at hu
  rcases hu with rfl | rfl <;> rfl
section
variable {ops : Array Oper} {rest : List Oper} {a : Act} {Q : Exit → Act → World → Prop} {ty0 ty1 ty2 ty3 ty4 ty5 ty6 ty7 ty8 : TypeId} {pos0 pos1 pos2 pos3 pos4 pos5 pos6 pos7 pos8 : String} {aft0 aft1 aft2 aft3 aft4 aft5 aft6 aft7 aft8 : Array Edge}
set_option maxHeartbeats 2000000 in
theorem pairs12 {w0 : World} {B : Nat} {sp : Value} {L : List Tr} {t : Tr} {x : ByteArray} (hsz : a.tmps.size = 49) (e5 : a.eval (.tmp 5) = sp) (e7 : a.eval (.tmp 7) = .string x) (e8 : a.eval (.tmp 8) = .int .i64 (t.name.size : Int)) (e9 : a.eval (.tmp 9) = .string t.value)
    (hn : x.extract 0 t.name.size = t.name) (hle : t.name.size ≤ x.size) (hown : Own prT 37 2 w0 B sp L) (hB : B ≤ w0.heap.size) (hL : L.length ≤ 1000)
    (hK : ∀ (sp' : Value) (w' : World), Own prT 37 2 w' B sp' (L ++ [t]) → Only (fun g => sp.ownBlock = some g) w0 w' → wpList Try.prog ops Q rest (((((((((a.put (some 37) (sp)).put (some 38) (.string x)).put (some 39) (.int .i64 (t.name.size : Int))).put (some 40) (.string t.name)).put (some 41) (.string t.value)).put (some 42) (.agg #[.string t.name, .string t.value])).put (some 43) (.slice (some ⟨w0.heap.size, 0, none⟩) 1 1)).put (some 44) (sp')).put (some 5) (sp')) w') :
    wpList Try.prog ops Q ({ dst := some 37, op := Op.move (.tmp 5), type := ty0, pos := pos0, after := aft0, guard := none } :: { dst := some 38, op := Op.move (.tmp 7), type := ty1, pos := pos1, after := aft1, guard := none } :: { dst := some 39, op := Op.move (.tmp 8), type := ty2, pos := pos2, after := aft2, guard := none } :: { dst := some 40, op := Op.slice 9 (.tmp 38) none (some (.tmp 39)) none, type := ty3, pos := pos3, after := aft3, guard := none } :: { dst := some 41, op := Op.move (.tmp 9), type := ty4, pos := pos4, after := aft4, guard := none } :: { dst := some 42, op := Op.build 37 #[(0, .tmp 40), (1, .tmp 41)], type := ty5, pos := pos5, after := aft5, guard := none } :: { dst := some 43, op := Op.buildSlice 33 1 #[(0, .tmp 42)], type := ty6, pos := pos6, after := aft6, guard := none } :: { dst := some 44, op := Op.call { callee := Callee.builtin Builtin.append, args := #[.tmp 37, .tmp 43], argTypes := #[33, 33] }, type := ty7, pos := pos7, after := aft7, guard := none } :: { dst := some 5, op := Op.assign (.tmp 44), type := ty8, pos := pos8, after := aft8, guard := none } :: rest) a w0 := by
  obtain ⟨iP, hiP, hzP, hsP, hbP⟩ := info_parts info_pair
  refine arm_run rfl (v := sp) (w' := w0) ?_ ?_
  · simp only [execOp, e5]; go_simp
  refine arm_run rfl (v := .string x) (w' := w0) ?_ ?_
  · simp only [execOp, ev_ne (show (37 : Nat) ≠ 7 by decide), e7]; go_simp
  refine arm_run rfl (v := .int .i64 (t.name.size : Int)) (w' := w0) ?_ ?_
  · simp only [execOp, ev_ne (show (38 : Nat) ≠ 8 by decide), ev_ne (show (37 : Nat) ≠ 8 by decide), e8]; go_simp
  refine arm_run rfl (v := .string t.name) (w' := w0) ?_ ?_
  · have x38 : ∀ a' : Act, 38 < a'.tmps.size → (a'.put (some 38) (.string x)).eval (.tmp 38) = .string x := fun a' h => ev_eq h
    have x39 : ∀ a' : Act, 39 < a'.tmps.size → (a'.put (some 39) (.int .i64 (t.name.size : Int))).eval (.tmp 39) = .int .i64 (t.name.size : Int) := fun a' h => ev_eq h
    have hle' : (t.name.size : Int) ≤ x.size := by omega
    simp only [execOp, Option.map_some, Option.map_none]
    rw [ev_ne (show (39 : Nat) ≠ 38 by decide), x38 _ (by simp only [size_put, hsz]; decide), x39 _ (by simp only [size_put, hsz]; decide)]
    go_simp
  refine arm_run rfl (v := .string t.value) (w' := w0) ?_ ?_
  · simp only [execOp, ev_ne (show (40 : Nat) ≠ 9 by decide), ev_ne (show (39 : Nat) ≠ 9 by decide), ev_ne (show (38 : Nat) ≠ 9 by decide), ev_ne (show (37 : Nat) ≠ 9 by decide), e9]; go_simp
  refine arm_run rfl (v := .agg #[.string t.name, .string t.value]) (w' := w0) ?_ ?_
  · have x40 : ∀ a' : Act, 40 < a'.tmps.size → (a'.put (some 40) (.string t.name)).eval (.tmp 40) = .string t.name := fun a' h => ev_eq h
    have x41 : ∀ a' : Act, 41 < a'.tmps.size → (a'.put (some 41) (.string t.value)).eval (.tmp 41) = .string t.value := fun a' h => ev_eq h
    simp only [execOp, List.map_toArray, List.map_cons, List.map_nil]
    rw [ev_ne (show (41 : Nat) ≠ 40 by decide), x40 _ (by simp only [size_put, hsz]; decide), x41 _ (by simp only [size_put, hsz]; decide)]
    go_simp
  refine arm_push (f := prT) 33 Try.underlying33 iP _ 32 hiP hzP hsP hbP (by rfl) (by decide) (fun _ => rfl) prT_one t ?_ ?_ ?_ ?_ hown ?_ ?_ ?_ ?_
  · have x42 : ∀ a' : Act, 42 < a'.tmps.size → (a'.put (some 42) (.agg #[.string t.name, .string t.value])).eval (.tmp 42) = .agg #[.string t.name, .string t.value] := fun a' h => ev_eq h
    simp only [execOp, List.map_toArray, List.map_cons, List.map_nil]
    rw [x42 _ (by simp only [size_put, hsz]; decide)]
    unfold prT
    go_simp
  · rw [ev_ne (by decide), ev_ne (by decide), ev_ne (by decide), ev_ne (by decide), ev_ne (by decide), ev_eq (by rw [hsz]; decide)]
  · simp
  · simp only [size_put, hsz]; decide
  · omega
  · omega
  · omega
  intro sp' w2 hown2 hon2 _
  refine arm_run rfl (v := sp') (w' := w2) ?_ ?_
  · simp only [execOp]
    rw [ev_eq (by simp only [size_put, hsz]; decide)]
    go_simp
  exact hK sp' w2 hown2 hon2
end
theorem ret_two {P : Program} {w : World} {fn : Func} {tmps : Array Value} {i j : Nat} {x y : Value} (hf : fn.results = #[.tmp i, .tmp j]) (h4 : tmps.getD i undef = x) (h5 : tmps.getD j undef = y) : (results fn tmps).run P w = .ok (.tuple #[x, y]) w := by
  unfold results
  rw [hf]
  simp only [Array.getD_eq_getD_getElem?] at h4 h5
  simp [h4, h5]
section
variable {ops : Array Oper} {rest : List Oper} {a : Act} {Q : Exit → Act → World → Prop} {ty0 ty1 ty2 ty3 ty4 ty5 : TypeId} {pos0 pos1 pos2 pos3 pos4 pos5 : String} {aft0 aft1 aft2 aft3 aft4 aft5 : Array Edge}
theorem bare11 {w0 : World} {y z : ByteArray} (hsz : a.tmps.size = 49) (e9 : a.eval (.tmp 9) = .string y) (hy : 2 ≤ y.size) (hy2 : y.size ≤ 1000000) (hz : y.extract 1 (y.size - 1) = z)
    (hK : wpList Try.prog ops Q rest ((((((a.put (some 32) (.string y)).put (some 33) (.string y)).put (some 34) (.int .i64 (y.size : Int))).put (some 35) (.int .i64 ((y.size : Int) - 1))).put (some 36) (.string z)).put (some 9) (.string z)) w0) :
    wpList Try.prog ops Q ({ dst := some 32, op := Op.move (.tmp 9), type := ty0, pos := pos0, after := aft0, guard := none } :: { dst := some 33, op := Op.move (.tmp 9), type := ty1, pos := pos1, after := aft1, guard := none } :: { dst := some 34, op := Op.call { callee := Callee.builtin Builtin.len, args := #[.tmp 33], argTypes := #[9] }, type := ty2, pos := pos2, after := aft2, guard := none } ::
      { dst := some 35, op := Op.binOp BinOp.sub 3 (.tmp 34) (.const (.int .i64 1)) 3, type := ty3, pos := pos3, after := aft3, guard := none } :: { dst := some 36, op := Op.slice 9 (.tmp 32) (some (.const (.int .i64 1))) (some (.tmp 35)) none, type := ty4, pos := pos4, after := aft4, guard := none } :: { dst := some 9, op := Op.assign (.tmp 36), type := ty5, pos := pos5, after := aft5, guard := none } :: rest) a w0 := by
  refine arm_run rfl (v := .string y) (w' := w0) ?_ ?_
  · simp only [execOp, e9]; go_simp
  refine arm_run rfl (v := .string y) (w' := w0) ?_ ?_
  · simp only [execOp, ev_ne (show (32 : Nat) ≠ 9 by decide), e9]; go_simp
  refine arm_run rfl (v := .int .i64 (y.size : Int)) (w' := w0) ?_ ?_
  · have x33 : ∀ a' : Act, 33 < a'.tmps.size → (a'.put (some 33) (.string y)).eval (.tmp 33) = .string y := fun a' h => ev_eq h
    simp only [execOp, resolve, List.map_toArray, List.map_cons, List.map_nil]
    rw [x33 _ (by simp only [size_put, hsz]; decide)]
    go_simp
  have q5 : (1 : Int) ≤ (y.size : Int) - 1 := by omega
  have hw : IntKind.i64.wrap ((y.size : Int) - 1) = (y.size : Int) - 1 := by rw [IntKind.wrap_i64]; omega
  refine arm_run rfl (v := .int .i64 ((y.size : Int) - 1)) (w' := w0) ?_ ?_
  · have x34 : ∀ a' : Act, 34 < a'.tmps.size → (a'.put (some 34) (.int .i64 (y.size : Int))).eval (.tmp 34) = .int .i64 (y.size : Int) := fun a' h => ev_eq h
    simp only [execOp]
    rw [x34 _ (by simp only [size_put, hsz]; decide)]
    go_simp
  refine arm_run rfl (v := .string z) (w' := w0) ?_ ?_
  · have x35 : ∀ a' : Act, 35 < a'.tmps.size → (a'.put (some 35) (.int .i64 ((y.size : Int) - 1))).eval (.tmp 35) = .int .i64 ((y.size : Int) - 1) := fun a' h => ev_eq h
    have x32 : ∀ a' : Act, 32 < a'.tmps.size → (a'.put (some 32) (.string y)).eval (.tmp 32) = .string y := fun a' h => ev_eq h
    have hsl := run_slice_string (P := Try.prog) w0 9 y .i64 .i64 1 ((y.size : Int) - 1) Try.underlying9 (by omega) (by omega) (by omega)
    rw [show ((y.size : Int) - 1).toNat = y.size - 1 by omega, show (1 : Int).toNat = 1 from rfl, hz] at hsl
    simp only [execOp, Option.map_some, Option.map_none]
    rw [x35 _ (by simp only [size_put, hsz]; decide), ev_ne (show (35 : Nat) ≠ 32 by decide), ev_ne (show (34 : Nat) ≠ 32 by decide), ev_ne (show (33 : Nat) ≠ 32 by decide), x32 _ (by rw [hsz]; decide)]
    simp only [Act.eval]
    go_simp
  refine arm_run rfl (v := .string z) (w' := w0) ?_ ?_
  · have x36 : ∀ a' : Act, 36 < a'.tmps.size → (a'.put (some 36) (.string z)).eval (.tmp 36) = .string z := fun a' h => ev_eq h
    simp only [execOp]
    rw [x36 _ (by simp only [size_put, hsz]; decide)]
    go_simp
  exact hK
end
end Go.Proofs.Ytbehijhpichniaa
