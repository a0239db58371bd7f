/- The last comparison of laws.FnStepCue: the last segment's cue is the one given. -/
import Derived.Test.YtbehijhpichniaaDoorNeq
namespace Go.Proofs.YtbehijhpichniaaDoor
open Go.RowKit
/-- A cue that is told of a specification's cue. -/
structure CuOf (cu : Cu) (c : Sc) : Prop where
  syn : cu.syn = c.syn
  typ : cu.typ = c.typ
  cue : cu.cue = c.cue
  id : cu.id = c.id
  tm : eighth c.tm = some cu.tm
  el : eighth c.el = some cu.el
theorem cu_eq {cu cu2 : Cu} {c : Sc} (h : CuOf cu c) (u1 : cu2.syn = c.syn) (u2 : cu2.typ = c.typ) (u3 : cu2.cue = c.cue) (u4 : cu2.id = c.id) (u5 : eighth c.tm = some cu2.tm) (u6 : eighth c.el = some cu2.el) : cu2 = cu := by
  obtain ⟨a1, a2, a3, a4, a5, a6⟩ := h
  have t1 := Option.some.inj (u5.symm.trans a5)
  have t2 := Option.some.inj (u6.symm.trans a6)
  cases cu; cases cu2
  dsimp only at *
  subst u1 u2 u3 u4 a1 a2 a3 a4 t1 t2
  rfl
set_option maxRecDepth 1000000 in
set_option maxHeartbeats 8000000 in
theorem r24 {id : Nat} {a0 : Act} {w : World} {Q : Exit → Act → World → Prop} {b d q2 g : Nat} {cu : Cu} {sc : Sc} (hsz : a0.tmps.size = 190) (h17 : a0.eval (.tmp 17) = .int .i64 ((d : Int))) (h5 : a0.eval (.tmp 5) = .int .i64 ((d : Int) + 1)) (h18 : a0.eval (.tmp 18) = .pointer (some ⟨b, 0, none⟩)) (h8 : a0.eval (.tmp 8) = .pointer (some ⟨g, 0, none⟩)) (hd : d < 10) (b8 : w.cell? ⟨b, 8, none⟩ = some (.slice (some ⟨q2, 0, none⟩) 1 1)) (hq : w.heap[q2]? = some (.cells cu.list.toArray 46 (0, 0))) (hok : sc.Ok) (hg : w.heap[g]? = some (.cells sc.cells 50 (0, 0))) (hcu : CuOf cu sc)
    (f1 : (FloatKind.f64.format.order cu.tm cu.tm == some .eq) = true) (f2 : (FloatKind.f64.format.order cu.el cu.el == some .eq) = true)
    (hK : ∀ (y156 y157 y158 y159 y160 y161 y162 y163 y164 y165 y166 y167 y168 y169 y170 y171 y172 y173 y174 y175 y176 y177 y178 y179 y180 y181 y182 y183 y184 y185 y186 y187 : Value) (w' : World), Below w.heap.size w w' → Q .normal (((((((((((((((((((((((((((((((((a0.put (some 156) y156).put (some 157) y157).put (some 158) y158).put (some 159) y159).put (some 160) y160).put (some 161) y161).put (some 162) y162).put (some 163) y163).put (some 164) y164).put (some 165) y165).put (some 166) y166).put (some 167) y167).put (some 168) y168).put (some 169) y169).put (some 170) y170).put (some 171) y171).put (some 172) y172).put (some 173) y173).put (some 174) y174).put (some 175) y175).put (some 176) y176).put (some 177) y177).put (some 178) y178).put (some 179) y179).put (some 180) y180).put (some 181) y181).put (some 182) y182).put (some 183) y183).put (some 184) y184).put (some 185) y185).put (some 186) y186).put (some 187) y187).put (some 188) (.bool false)) w') :
    (Code.region id #[{ dst := some 156, op := Op.move (Operand.tmp 17), type := 3, pos := "laws.go:568", after := #[], guard := none },
      { dst := some 157, op := Op.move (Operand.tmp 5), type := 3, pos := "laws.go:568", after := #[], guard := none },
      { dst := some 158, op := Op.binOp BinOp.sub 3 (Operand.tmp 157) (Operand.const (Value.int IntKind.i64 1)) 3, type := 3, pos := "laws.go:568", after := #[{ on := 1, ground := Ground.data }], guard := none },
      { dst := some 159, op := Op.binOp BinOp.lss 3 (Operand.tmp 156) (Operand.tmp 158) 3, type := 4, pos := "laws.go:568", after := #[{ on := 0, ground := Ground.data }, { on := 2, ground := Ground.data }], guard := none },
      { dst := some 160, op := Op.move (Operand.tmp 159), type := 4, pos := "laws.go:568", after := #[{ on := 3, ground := Ground.data }], guard := none },
      { dst := some 161, op := Op.fieldAddr 31 (Operand.tmp 18) 8, type := 0, pos := "laws.go:568", after := #[{ on := 4, ground := Ground.guard }], guard := some (4, true) },
      { dst := some 162, op := Op.load 29 (Operand.tmp 161), type := 29, pos := "laws.go:568", after := #[{ on := 5, ground := Ground.data }, { on := 4, ground := Ground.guard }], guard := some (4, true) },
      { dst := some 163, op := Op.call { callee := Callee.builtin Builtin.len, args := #[Operand.tmp 162], argTypes := #[29] }, type := 3, pos := "laws.go:568", after := #[{ on := 6, ground := Ground.data }, { on := 4, ground := Ground.guard }], guard := some (4, true) },
      { dst := some 164, op := Op.binOp BinOp.neq 3 (Operand.tmp 163) (Operand.const (Value.int IntKind.i64 0)) 3, type := 4, pos := "laws.go:568", after := #[{ on := 7, ground := Ground.data }, { on := 4, ground := Ground.guard }], guard := some (4, true) },
      { dst := some 165, op := Op.pick (Operand.tmp 160) (Operand.tmp 164) (Operand.const (Value.bool false)), type := 4, pos := "laws.go:568", after := #[{ on := 4, ground := Ground.data }, { on := 8, ground := Ground.data }], guard := none },
      { dst := some 166, op := Op.move (Operand.tmp 165), type := 4, pos := "laws.go:568", after := #[{ on := 9, ground := Ground.data }, { on := 4, ground := Ground.chain }], guard := none },
      { dst := some 167, op := Op.move (Operand.tmp 17), type := 3, pos := "laws.go:568", after := #[{ on := 10, ground := Ground.guard }], guard := some (10, false) },
      { dst := some 168, op := Op.move (Operand.tmp 5), type := 3, pos := "laws.go:568", after := #[{ on := 10, ground := Ground.guard }], guard := some (10, false) },
      { dst := some 169, op := Op.binOp BinOp.sub 3 (Operand.tmp 168) (Operand.const (Value.int IntKind.i64 1)) 3, type := 3, pos := "laws.go:568", after := #[{ on := 12, ground := Ground.data }, { on := 10, ground := Ground.guard }], guard := some (10, false) },
      { dst := some 170, op := Op.binOp BinOp.eql 3 (Operand.tmp 167) (Operand.tmp 169) 3, type := 4, pos := "laws.go:568", after := #[{ on := 11, ground := Ground.data }, { on := 13, ground := Ground.data }, { on := 10, ground := Ground.guard }], guard := some (10, false) },
      { dst := some 171, op := Op.move (Operand.tmp 170), type := 4, pos := "laws.go:568", after := #[{ on := 14, ground := Ground.data }, { on := 10, ground := Ground.chain }, { on := 10, ground := Ground.guard }], guard := some (10, false) },
      { dst := some 172, op := Op.fieldAddr 31 (Operand.tmp 18) 8, type := 0, pos := "laws.go:568", after := #[{ on := 15, ground := Ground.guard }], guard := some (15, true) },
      { dst := some 173, op := Op.load 29 (Operand.tmp 172), type := 29, pos := "laws.go:568", after := #[{ on := 16, ground := Ground.data }, { on := 15, ground := Ground.guard }], guard := some (15, true) },
      { dst := some 174, op := Op.call { callee := Callee.builtin Builtin.len, args := #[Operand.tmp 173], argTypes := #[29] }, type := 3, pos := "laws.go:568", after := #[{ on := 17, ground := Ground.data }, { on := 15, ground := Ground.guard }], guard := some (15, true) },
      { dst := some 175, op := Op.binOp BinOp.neq 3 (Operand.tmp 174) (Operand.const (Value.int IntKind.i64 1)) 3, type := 4, pos := "laws.go:568", after := #[{ on := 18, ground := Ground.data }, { on := 15, ground := Ground.guard }], guard := some (15, true) },
      { dst := some 176, op := Op.move (Operand.tmp 175), type := 4, pos := "laws.go:568", after := #[{ on := 19, ground := Ground.data }, { on := 15, ground := Ground.chain }, { on := 15, ground := Ground.guard }], guard := some (15, true) },
      { dst := some 177, op := Op.fieldAddr 31 (Operand.tmp 18) 8, type := 0, pos := "laws.go:568", after := #[{ on := 20, ground := Ground.guard }], guard := some (20, false) },
      { dst := some 178, op := Op.load 29 (Operand.tmp 177), type := 29, pos := "laws.go:568", after := #[{ on := 21, ground := Ground.data }, { on := 20, ground := Ground.guard }], guard := some (20, false) },
      { dst := some 179, op := Op.indexAddr 29 (Operand.tmp 178) (Operand.const (Value.int IntKind.i64 0)), type := 0, pos := "laws.go:568", after := #[{ on := 22, ground := Ground.data }, { on := 20, ground := Ground.guard }], guard := some (20, false) },
      { dst := some 180, op := Op.load 46 (Operand.tmp 179), type := 46, pos := "laws.go:568", after := #[{ on := 23, ground := Ground.data }, { on := 20, ground := Ground.guard }], guard := some (20, false) },
      { dst := some 181, op := Op.move (Operand.tmp 8), type := 34, pos := "laws.go:568", after := #[{ on := 20, ground := Ground.guard }], guard := some (20, false) },
      { dst := some 182, op := Op.call { callee := Callee.value (Operand.func 6), args := #[Operand.tmp 181], argTypes := #[34] }, type := 29, pos := "laws.go:568", after := #[{ on := 25, ground := Ground.data }, { on := 20, ground := Ground.chain }, { on := 20, ground := Ground.guard }], guard := some (20, false) },
      { dst := some 183, op := Op.indexAddr 29 (Operand.tmp 182) (Operand.const (Value.int IntKind.i64 0)), type := 0, pos := "laws.go:568", after := #[{ on := 26, ground := Ground.data }, { on := 20, ground := Ground.guard }], guard := some (20, false) },
      { dst := some 184, op := Op.load 46 (Operand.tmp 183), type := 46, pos := "laws.go:568", after := #[{ on := 27, ground := Ground.data }, { on := 20, ground := Ground.guard }], guard := some (20, false) },
      { dst := some 185, op := Op.binOp BinOp.neq 46 (Operand.tmp 180) (Operand.tmp 184) 46, type := 4, pos := "laws.go:568", after := #[{ on := 24, ground := Ground.data }, { on := 28, ground := Ground.data }, { on := 20, ground := Ground.guard }], guard := some (20, false) },
      { dst := some 186, op := Op.pick (Operand.tmp 176) (Operand.const (Value.bool true)) (Operand.tmp 185), type := 4, pos := "laws.go:568", after := #[{ on := 20, ground := Ground.data }, { on := 29, ground := Ground.data }, { on := 15, ground := Ground.guard }], guard := some (15, true) },
      { dst := some 187, op := Op.pick (Operand.tmp 171) (Operand.tmp 186) (Operand.const (Value.bool false)), type := 4, pos := "laws.go:568", after := #[{ on := 15, ground := Ground.data }, { on := 30, ground := Ground.data }, { on := 10, ground := Ground.guard }], guard := some (10, false) },
      { dst := some 188, op := Op.pick (Operand.tmp 166) (Operand.const (Value.bool true)) (Operand.tmp 187), type := 4, pos := "laws.go:568", after := #[{ on := 10, ground := Ground.data }, { on := 31, ground := Ground.data }], guard := none }] true).wp Tryd.prog Q a0 w := by
  have hdi : (d : Int) < 10 := by omega
  have hlt : ¬ (d : Int) < d := by omega
  have hwd : IntKind.i64.wrap (d : Int) = d := by rw [IntKind.wrap_i64]; omega
  refine wp_region_og0 (n := 190) [Asr.eq (.int .i64 ((d : Int))), Asr.eq (.int .i64 ((d : Int) + 1)), Asr.eq (.int .i64 ((d : Int))), Asr.eq (.bool false), Asr.eq (.bool false), Asr.pure (fun _ => True), Asr.pure (fun _ => True), Asr.pure (fun _ => True), Asr.pure (fun _ => True), Asr.eq (.bool false), Asr.eq (.bool false), Asr.eq (.int .i64 ((d : Int))), Asr.eq (.int .i64 ((d : Int) + 1)), Asr.eq (.int .i64 ((d : Int))), Asr.eq (.bool true), Asr.eq (.bool true), Asr.eq (.pointer (some ⟨b, 8, none⟩)), Asr.eq (.slice (some ⟨q2, 0, none⟩) 1 1), Asr.eq (.int .i64 1), Asr.eq (.bool false), Asr.eq (.bool false), Asr.eq (.pointer (some ⟨b, 8, none⟩)), Asr.eq (.slice (some ⟨q2, 0, none⟩) 1 1), Asr.eq (.pointer (some ⟨q2, 0, none⟩)), Asr.eq (.agg cu.list.toArray), Asr.eq (.pointer (some ⟨g, 0, none⟩)), Asr.blk (fun q => .slice (some ⟨q, 0, none⟩) 1 1) 46 cu.list.toArray, Asr.blk (fun q => .pointer (some ⟨q, 0, none⟩)) 46 cu.list.toArray, Asr.eq (.agg cu.list.toArray), Asr.eq (.bool false), Asr.eq (.bool false), Asr.eq (.bool false), Asr.eq (.bool false)] (by kernel_rfl) (by kernel_rfl) (by kernel_rfl) hsz trivial ?_ ?_
  · refine ⟨?_, ?_, ?_, ?_, ?_, ?_, ?_, ?_, ?_, ?_, ?_, ?_, ?_, ?_, ?_, ?_, ?_, ?_, ?_, ?_, ?_, ?_, ?_, ?_, ?_, ?_, ?_, ?_, ?_, ?_, ?_, ?_, ?_, trivial⟩
    · intro a wx c
      have e17 : a.eval (.tmp 17) = .int .i64 ((d : Int)) := c.outE (by decide +kernel) h17
      clear c
      show Oper.wp _ _ _ _ _ _
      unfold Oper.wp
      simp only [execOp, resolve, List.map_toArray, List.map_cons, List.map_nil, e17]
      go_simp
      exact ⟨_, rfl, Only.refl _ _, rfl⟩
    · intro a wx c
      have e5 : a.eval (.tmp 5) = .int .i64 ((d : Int) + 1) := c.outE (by decide +kernel) h5
      clear c
      show Oper.wp _ _ _ _ _ _
      unfold Oper.wp
      simp only [execOp, resolve, List.map_toArray, List.map_cons, List.map_nil, e5]
      go_simp
      exact ⟨_, rfl, Only.refl _ _, rfl⟩
    · intro a wx c
      have e157 : a.eval (.tmp 157) = .int .i64 ((d : Int) + 1) := c.slot 1 _ (by decide +kernel) rfl
      clear c
      show Oper.wp _ _ _ _ _ _
      unfold Oper.wp
      simp only [execOp, resolve, List.map_toArray, List.map_cons, List.map_nil, e157]
      go_simp
      exact ⟨_, rfl, Only.refl _ _, rfl⟩
    · intro a wx c
      have e156 : a.eval (.tmp 156) = .int .i64 ((d : Int)) := c.slot 0 _ (by decide +kernel) rfl
      have e158 : a.eval (.tmp 158) = .int .i64 ((d : Int)) := c.slot 2 _ (by decide +kernel) rfl
      clear c
      show Oper.wp _ _ _ _ _ _
      unfold Oper.wp
      simp only [execOp, resolve, List.map_toArray, List.map_cons, List.map_nil, e156, e158]
      go_simp
      exact ⟨_, rfl, Only.refl _ _, rfl⟩
    · intro a wx c
      have e159 : a.eval (.tmp 159) = .bool false := c.slot 3 _ (by decide +kernel) rfl
      clear c
      show Oper.wp _ _ _ _ _ _
      unfold Oper.wp
      simp only [execOp, resolve, List.map_toArray, List.map_cons, List.map_nil, e159]
      go_simp
      exact ⟨_, rfl, Only.refl _ _, rfl⟩
    · intro a wx c
      have eg : a.eval (.tmp 160) = .bool false := c.slot 4 _ (by decide +kernel) rfl
      exact og_guard_off (d := 160) (b' := false) rfl rfl rfl eg rfl ⟨_, rfl, Only.refl _ _, trivial⟩
    · intro a wx c
      have eg : a.eval (.tmp 160) = .bool false := c.slot 4 _ (by decide +kernel) rfl
      exact og_guard_off (d := 160) (b' := false) rfl rfl rfl eg rfl ⟨_, rfl, Only.refl _ _, trivial⟩
    · intro a wx c
      have eg : a.eval (.tmp 160) = .bool false := c.slot 4 _ (by decide +kernel) rfl
      exact og_guard_off (d := 160) (b' := false) rfl rfl rfl eg rfl ⟨_, rfl, Only.refl _ _, trivial⟩
    · intro a wx c
      have eg : a.eval (.tmp 160) = .bool false := c.slot 4 _ (by decide +kernel) rfl
      exact og_guard_off (d := 160) (b' := false) rfl rfl rfl eg rfl ⟨_, rfl, Only.refl _ _, trivial⟩
    · intro a wx c
      have e160 : a.eval (.tmp 160) = .bool false := c.slot 4 _ (by decide +kernel) rfl
      clear c
      show Oper.wp _ _ _ _ _ _
      unfold Oper.wp
      simp only [execOp, resolve, List.map_toArray, List.map_cons, List.map_nil, e160]
      go_simp
      exact ⟨_, rfl, Only.refl _ _, rfl⟩
    · intro a wx c
      have e165 : a.eval (.tmp 165) = .bool false := c.slot 9 _ (by decide +kernel) rfl
      clear c
      show Oper.wp _ _ _ _ _ _
      unfold Oper.wp
      simp only [execOp, resolve, List.map_toArray, List.map_cons, List.map_nil, e165]
      go_simp
      exact ⟨_, rfl, Only.refl _ _, rfl⟩
    · intro a wx c
      have eg : a.eval (.tmp 166) = .bool false := c.slot 10 _ (by decide +kernel) rfl
      have e17 : a.eval (.tmp 17) = .int .i64 ((d : Int)) := c.outE (by decide +kernel) h17
      clear c
      refine og_guard_on (d := 166) (b := false) (o := { dst := some 167, op := Op.move (Operand.tmp 17), type := 3, pos := "laws.go:568", after := #[{ on := 10, ground := Ground.guard }], guard := some (10, false) }) rfl rfl rfl eg ?_
      unfold Oper.wp
      simp only [execOp, resolve, List.map_toArray, List.map_cons, List.map_nil, e17]
      go_simp
      exact ⟨_, rfl, Only.refl _ _, rfl⟩
    · intro a wx c
      have eg : a.eval (.tmp 166) = .bool false := c.slot 10 _ (by decide +kernel) rfl
      have e5 : a.eval (.tmp 5) = .int .i64 ((d : Int) + 1) := c.outE (by decide +kernel) h5
      clear c
      refine og_guard_on (d := 166) (b := false) (o := { dst := some 168, op := Op.move (Operand.tmp 5), type := 3, pos := "laws.go:568", after := #[{ on := 10, ground := Ground.guard }], guard := some (10, false) }) rfl rfl rfl eg ?_
      unfold Oper.wp
      simp only [execOp, resolve, List.map_toArray, List.map_cons, List.map_nil, e5]
      go_simp
      exact ⟨_, rfl, Only.refl _ _, rfl⟩
    · intro a wx c
      have eg : a.eval (.tmp 166) = .bool false := c.slot 10 _ (by decide +kernel) rfl
      have e168 : a.eval (.tmp 168) = .int .i64 ((d : Int) + 1) := c.slot 12 _ (by decide +kernel) rfl
      clear c
      refine og_guard_on (d := 166) (b := false) (o := { dst := some 169, op := Op.binOp BinOp.sub 3 (Operand.tmp 168) (Operand.const (Value.int IntKind.i64 1)) 3, type := 3, pos := "laws.go:568", after := #[{ on := 12, ground := Ground.data }, { on := 10, ground := Ground.guard }], guard := some (10, false) }) rfl rfl rfl eg ?_
      unfold Oper.wp
      simp only [execOp, resolve, List.map_toArray, List.map_cons, List.map_nil, e168]
      go_simp
      exact ⟨_, rfl, Only.refl _ _, rfl⟩
    · intro a wx c
      have eg : a.eval (.tmp 166) = .bool false := c.slot 10 _ (by decide +kernel) rfl
      have e167 : a.eval (.tmp 167) = .int .i64 ((d : Int)) := c.slot 11 _ (by decide +kernel) rfl
      have e169 : a.eval (.tmp 169) = .int .i64 ((d : Int)) := c.slot 13 _ (by decide +kernel) rfl
      clear c
      refine og_guard_on (d := 166) (b := false) (o := { dst := some 170, op := Op.binOp BinOp.eql 3 (Operand.tmp 167) (Operand.tmp 169) 3, type := 4, pos := "laws.go:568", after := #[{ on := 11, ground := Ground.data }, { on := 13, ground := Ground.data }, { on := 10, ground := Ground.guard }], guard := some (10, false) }) rfl rfl rfl eg ?_
      unfold Oper.wp
      simp only [execOp, resolve, List.map_toArray, List.map_cons, List.map_nil, e167, e169]
      go_simp
      exact ⟨_, rfl, Only.refl _ _, rfl⟩
    · intro a wx c
      have eg : a.eval (.tmp 166) = .bool false := c.slot 10 _ (by decide +kernel) rfl
      have e170 : a.eval (.tmp 170) = .bool true := c.slot 14 _ (by decide +kernel) rfl
      clear c
      refine og_guard_on (d := 166) (b := false) (o := { dst := some 171, op := Op.move (Operand.tmp 170), type := 4, pos := "laws.go:568", after := #[{ on := 14, ground := Ground.data }, { on := 10, ground := Ground.chain }, { on := 10, ground := Ground.guard }], guard := some (10, false) }) rfl rfl rfl eg ?_
      unfold Oper.wp
      simp only [execOp, resolve, List.map_toArray, List.map_cons, List.map_nil, e170]
      go_simp
      exact ⟨_, rfl, Only.refl _ _, rfl⟩
    · intro a wx c
      have eg : a.eval (.tmp 171) = .bool true := c.slot 15 _ (by decide +kernel) rfl
      have e18 : a.eval (.tmp 18) = .pointer (some ⟨b, 0, none⟩) := c.outE (by decide +kernel) h18
      clear c
      refine og_guard_on (d := 171) (b := true) (o := { dst := some 172, op := Op.fieldAddr 31 (Operand.tmp 18) 8, type := 0, pos := "laws.go:568", after := #[{ on := 15, ground := Ground.guard }], guard := some (15, true) }) rfl rfl rfl eg ?_
      unfold Oper.wp
      simp only [execOp, resolve, List.map_toArray, List.map_cons, List.map_nil, e18]
      go_simp
      exact ⟨_, rfl, Only.refl _ _, rfl⟩
    · intro a wx c
      have eg : a.eval (.tmp 171) = .bool true := c.slot 15 _ (by decide +kernel) rfl
      have e172 : a.eval (.tmp 172) = .pointer (some ⟨b, 8, none⟩) := c.slot 16 _ (by decide +kernel) rfl
      have hc := c.cell (p := ⟨b, 8, none⟩) (v := .slice (some ⟨q2, 0, none⟩) 1 1) b8 (fun _ h => h.elim)
      clear c
      refine og_guard_on (d := 171) (b := true) (o := { dst := some 173, op := Op.load 29 (Operand.tmp 172), type := 29, pos := "laws.go:568", after := #[{ on := 16, ground := Ground.data }, { on := 15, ground := Ground.guard }], guard := some (15, true) }) rfl rfl rfl eg ?_
      unfold Oper.wp
      simp only [execOp, resolve, List.map_toArray, List.map_cons, List.map_nil, e172]
      go_simp
      exact ⟨_, rfl, Only.refl _ _, rfl⟩
    · intro a wx c
      have eg : a.eval (.tmp 171) = .bool true := c.slot 15 _ (by decide +kernel) rfl
      have e173 : a.eval (.tmp 173) = .slice (some ⟨q2, 0, none⟩) 1 1 := c.slot 17 _ (by decide +kernel) rfl
      clear c
      refine og_guard_on (d := 171) (b := true) (o := { dst := some 174, op := Op.call { callee := Callee.builtin Builtin.len, args := #[Operand.tmp 173], argTypes := #[29] }, type := 3, pos := "laws.go:568", after := #[{ on := 17, ground := Ground.data }, { on := 15, ground := Ground.guard }], guard := some (15, true) }) rfl rfl rfl eg ?_
      unfold Oper.wp
      simp only [execOp, resolve, List.map_toArray, List.map_cons, List.map_nil, e173]
      go_simp
      exact ⟨_, rfl, Only.refl _ _, rfl⟩
    · intro a wx c
      have eg : a.eval (.tmp 171) = .bool true := c.slot 15 _ (by decide +kernel) rfl
      have e174 : a.eval (.tmp 174) = .int .i64 1 := c.slot 18 _ (by decide +kernel) rfl
      clear c
      refine og_guard_on (d := 171) (b := true) (o := { dst := some 175, op := Op.binOp BinOp.neq 3 (Operand.tmp 174) (Operand.const (Value.int IntKind.i64 1)) 3, type := 4, pos := "laws.go:568", after := #[{ on := 18, ground := Ground.data }, { on := 15, ground := Ground.guard }], guard := some (15, true) }) rfl rfl rfl eg ?_
      unfold Oper.wp
      simp only [execOp, resolve, List.map_toArray, List.map_cons, List.map_nil, e174]
      go_simp
      exact ⟨_, rfl, Only.refl _ _, rfl⟩
    · intro a wx c
      have eg : a.eval (.tmp 171) = .bool true := c.slot 15 _ (by decide +kernel) rfl
      have e175 : a.eval (.tmp 175) = .bool false := c.slot 19 _ (by decide +kernel) rfl
      clear c
      refine og_guard_on (d := 171) (b := true) (o := { dst := some 176, op := Op.move (Operand.tmp 175), type := 4, pos := "laws.go:568", after := #[{ on := 19, ground := Ground.data }, { on := 15, ground := Ground.chain }, { on := 15, ground := Ground.guard }], guard := some (15, true) }) rfl rfl rfl eg ?_
      unfold Oper.wp
      simp only [execOp, resolve, List.map_toArray, List.map_cons, List.map_nil, e175]
      go_simp
      exact ⟨_, rfl, Only.refl _ _, rfl⟩
    · intro a wx c
      have eg : a.eval (.tmp 176) = .bool false := c.slot 20 _ (by decide +kernel) rfl
      have e18 : a.eval (.tmp 18) = .pointer (some ⟨b, 0, none⟩) := c.outE (by decide +kernel) h18
      clear c
      refine og_guard_on (d := 176) (b := false) (o := { dst := some 177, op := Op.fieldAddr 31 (Operand.tmp 18) 8, type := 0, pos := "laws.go:568", after := #[{ on := 20, ground := Ground.guard }], guard := some (20, false) }) rfl rfl rfl eg ?_
      unfold Oper.wp
      simp only [execOp, resolve, List.map_toArray, List.map_cons, List.map_nil, e18]
      go_simp
      exact ⟨_, rfl, Only.refl _ _, rfl⟩
    · intro a wx c
      have eg : a.eval (.tmp 176) = .bool false := c.slot 20 _ (by decide +kernel) rfl
      have e177 : a.eval (.tmp 177) = .pointer (some ⟨b, 8, none⟩) := c.slot 21 _ (by decide +kernel) rfl
      have hc := c.cell (p := ⟨b, 8, none⟩) (v := .slice (some ⟨q2, 0, none⟩) 1 1) b8 (fun _ h => h.elim)
      clear c
      refine og_guard_on (d := 176) (b := false) (o := { dst := some 178, op := Op.load 29 (Operand.tmp 177), type := 29, pos := "laws.go:568", after := #[{ on := 21, ground := Ground.data }, { on := 20, ground := Ground.guard }], guard := some (20, false) }) rfl rfl rfl eg ?_
      unfold Oper.wp
      simp only [execOp, resolve, List.map_toArray, List.map_cons, List.map_nil, e177]
      go_simp
      exact ⟨_, rfl, Only.refl _ _, rfl⟩
    · intro a wx c
      have eg : a.eval (.tmp 176) = .bool false := c.slot 20 _ (by decide +kernel) rfl
      have e178 : a.eval (.tmp 178) = .slice (some ⟨q2, 0, none⟩) 1 1 := c.slot 22 _ (by decide +kernel) rfl
      clear c
      refine og_guard_on (d := 176) (b := false) (o := { dst := some 179, op := Op.indexAddr 29 (Operand.tmp 178) (Operand.const (Value.int IntKind.i64 0)), type := 0, pos := "laws.go:568", after := #[{ on := 22, ground := Ground.data }, { on := 20, ground := Ground.guard }], guard := some (20, false) }) rfl rfl rfl eg ?_
      unfold Oper.wp
      simp only [execOp, resolve, List.map_toArray, List.map_cons, List.map_nil, e178]
      go_simp
      exact ⟨_, rfl, Only.refl _ _, rfl⟩
    · intro a wx c
      have eg : a.eval (.tmp 176) = .bool false := c.slot 20 _ (by decide +kernel) rfl
      have e179 : a.eval (.tmp 179) = .pointer (some ⟨q2, 0, none⟩) := c.slot 23 _ (by decide +kernel) rfl
      have hq2 : wx.heap[q2]? = some (.cells cu.list.toArray 46 (0, 0)) := (c.only.block q2 (Array.getElem?_eq_some_iff.1 hq).1 (fun ⟨_, h⟩ => h)).trans hq
      clear c
      refine og_guard_on (d := 176) (b := false) (o := { dst := some 180, op := Op.load 46 (Operand.tmp 179), type := 46, pos := "laws.go:568", after := #[{ on := 23, ground := Ground.data }, { on := 20, ground := Ground.guard }], guard := some (20, false) }) rfl rfl rfl eg ?_
      have hr := run_load_blk (P := Tryd.prog) (w := wx) 46 Tryd.isAgg46 Tryd.sizeOf46 hq2 rfl
      unfold Oper.wp
      simp only [execOp, e179, Instr.loadAt, Instr.sureAddr]
      simp [hr]
      exact ⟨_, rfl, Only.refl _ _, rfl⟩
    · intro a wx c
      have eg : a.eval (.tmp 176) = .bool false := c.slot 20 _ (by decide +kernel) rfl
      have e8 : a.eval (.tmp 8) = .pointer (some ⟨g, 0, none⟩) := c.outE (by decide +kernel) h8
      clear c
      refine og_guard_on (d := 176) (b := false) (o := { dst := some 181, op := Op.move (Operand.tmp 8), type := 34, pos := "laws.go:568", after := #[{ on := 20, ground := Ground.guard }], guard := some (20, false) }) rfl rfl rfl eg ?_
      unfold Oper.wp
      simp only [execOp, resolve, List.map_toArray, List.map_cons, List.map_nil, e8]
      go_simp
      exact ⟨_, rfl, Only.refl _ _, rfl⟩
    · intro a wx c
      have eg : a.eval (.tmp 176) = .bool false := c.slot 20 _ (by decide +kernel) rfl
      have e181 : a.eval (.tmp 181) = .pointer (some ⟨g, 0, none⟩) := c.slot 25 _ (by decide +kernel) rfl
      have hg2 : wx.heap[g]? = some (.cells sc.cells 50 (0, 0)) := (c.only.block g (Array.getElem?_eq_some_iff.1 hg).1 (fun ⟨_, h⟩ => h)).trans hg
      have hsz := c.only.size
      clear c
      refine og_guard_on (d := 176) (b := false) (o := { dst := some 182, op := Op.call { callee := Callee.value (Operand.func 6), args := #[Operand.tmp 181], argTypes := #[34] }, type := 29, pos := "laws.go:568", after := #[{ on := 25, ground := Ground.data }, { on := 20, ground := Ground.chain }, { on := 20, ground := Ground.guard }], guard := some (20, false) }) rfl rfl rfl eg ?_
      unfold Oper.wp
      simp only [execOp, resolve, List.map_toArray, List.map_cons, List.map_nil, e181]
      go_simp
      refine (toCues_any sc hok g wx hg2).mono ?_
      rintro e w' ⟨cu2, q, u1, u2, u3, u4, u5, u6, hqs, rfl, hq3, hbl⟩
      have hcc : cu2 = cu := cu_eq hcu u1 u2 u3 u4 u5 u6
      rw [hcc] at hq3
      exact ⟨_, rfl, Only.of_below hbl, q, Nat.le_trans hsz hqs, rfl, hq3⟩
    · intro a wx c
      have eg : a.eval (.tmp 176) = .bool false := c.slot 20 _ (by decide +kernel) rfl
      obtain ⟨g182, k182, e182, h182⟩ : Asr.holds _ (Asr.blk (fun q => .slice (some ⟨q, 0, none⟩) 1 1) 46 cu.list.toArray) (a.eval (.tmp 182)) wx := c.slot 26 _ (by decide +kernel) rfl
      clear c
      refine og_guard_on (d := 176) (b := false) (o := { dst := some 183, op := Op.indexAddr 29 (Operand.tmp 182) (Operand.const (Value.int IntKind.i64 0)), type := 0, pos := "laws.go:568", after := #[{ on := 26, ground := Ground.data }, { on := 20, ground := Ground.guard }], guard := some (20, false) }) rfl rfl rfl eg ?_
      unfold Oper.wp
      simp only [execOp, e182]
      go_simp
      exact ⟨_, rfl, Only.refl _ _, g182, k182, rfl, h182⟩
    · intro a wx c
      have eg : a.eval (.tmp 176) = .bool false := c.slot 20 _ (by decide +kernel) rfl
      obtain ⟨g183, k183, e183, h183⟩ : Asr.holds _ (Asr.blk (fun q => .pointer (some ⟨q, 0, none⟩)) 46 cu.list.toArray) (a.eval (.tmp 183)) wx := c.slot 27 _ (by decide +kernel) rfl
      clear c
      refine og_guard_on (d := 176) (b := false) (o := { dst := some 184, op := Op.load 46 (Operand.tmp 183), type := 46, pos := "laws.go:568", after := #[{ on := 27, ground := Ground.data }, { on := 20, ground := Ground.guard }], guard := some (20, false) }) rfl rfl rfl eg ?_
      have hr := run_load_blk (P := Tryd.prog) (w := wx) 46 Tryd.isAgg46 Tryd.sizeOf46 h183 rfl
      unfold Oper.wp
      simp only [execOp, e183, Instr.loadAt, Instr.sureAddr]
      simp [hr]
      exact ⟨_, rfl, Only.refl _ _, rfl⟩
    · intro a wx c
      have eg : a.eval (.tmp 176) = .bool false := c.slot 20 _ (by decide +kernel) rfl
      have e180 : a.eval (.tmp 180) = .agg cu.list.toArray := c.slot 24 _ (by decide +kernel) rfl
      have e184 : a.eval (.tmp 184) = .agg cu.list.toArray := c.slot 28 _ (by decide +kernel) rfl
      clear c
      refine og_guard_on (d := 176) (b := false) (o := { dst := some 185, op := Op.binOp BinOp.neq 46 (Operand.tmp 180) (Operand.tmp 184) 46, type := 4, pos := "laws.go:568", after := #[{ on := 24, ground := Ground.data }, { on := 28, ground := Ground.data }, { on := 20, ground := Ground.guard }], guard := some (20, false) }) rfl rfl rfl eg ?_
      have t1 := fun d w => run_equalIn_float (P := Tryd.prog) w d 26 .f64 cu.tm Tryd.underlying26 f1
      have t2 := fun d w => run_equalIn_float (P := Tryd.prog) w d 26 .f64 cu.el Tryd.underlying26 f2
      unfold Oper.wp
      simp only [execOp, e180, e184]
      unfold Cu.list
      go_simp
      exact ⟨_, rfl, Only.refl _ _, rfl⟩
    · intro a wx c
      have eg : a.eval (.tmp 171) = .bool true := c.slot 15 _ (by decide +kernel) rfl
      have e176 : a.eval (.tmp 176) = .bool false := c.slot 20 _ (by decide +kernel) rfl
      have e185 : a.eval (.tmp 185) = .bool false := c.slot 29 _ (by decide +kernel) rfl
      clear c
      refine og_guard_on (d := 171) (b := true) (o := { dst := some 186, op := Op.pick (Operand.tmp 176) (Operand.const (Value.bool true)) (Operand.tmp 185), type := 4, pos := "laws.go:568", after := #[{ on := 20, ground := Ground.data }, { on := 29, ground := Ground.data }, { on := 15, ground := Ground.guard }], guard := some (15, true) }) rfl rfl rfl eg ?_
      unfold Oper.wp
      simp only [execOp, resolve, List.map_toArray, List.map_cons, List.map_nil, e176, e185]
      go_simp
      exact ⟨_, rfl, Only.refl _ _, rfl⟩
    · intro a wx c
      have eg : a.eval (.tmp 166) = .bool false := c.slot 10 _ (by decide +kernel) rfl
      have e171 : a.eval (.tmp 171) = .bool true := c.slot 15 _ (by decide +kernel) rfl
      have e186 : a.eval (.tmp 186) = .bool false := c.slot 30 _ (by decide +kernel) rfl
      clear c
      refine og_guard_on (d := 166) (b := false) (o := { dst := some 187, op := Op.pick (Operand.tmp 171) (Operand.tmp 186) (Operand.const (Value.bool false)), type := 4, pos := "laws.go:568", after := #[{ on := 15, ground := Ground.data }, { on := 30, ground := Ground.data }, { on := 10, ground := Ground.guard }], guard := some (10, false) }) rfl rfl rfl eg ?_
      unfold Oper.wp
      simp only [execOp, resolve, List.map_toArray, List.map_cons, List.map_nil, e171, e186]
      go_simp
      exact ⟨_, rfl, Only.refl _ _, rfl⟩
    · intro a wx c
      have e166 : a.eval (.tmp 166) = .bool false := c.slot 10 _ (by decide +kernel) rfl
      have e187 : a.eval (.tmp 187) = .bool false := c.slot 31 _ (by decide +kernel) rfl
      clear c
      show Oper.wp _ _ _ _ _ _
      unfold Oper.wp
      simp only [execOp, resolve, List.map_toArray, List.map_cons, List.map_nil, e166, e187]
      go_simp
      exact ⟨_, rfl, Only.refl _ _, rfl⟩
  · intro a1 w1 c hbl
    have r := c.slot 32 _ rfl
    have ha := frame_puts c [156, 157, 158, 159, 160, 161, 162, 163, 164, 165, 166, 167, 168, 169, 170, 171, 172, 173, 174, 175, 176, 177, 178, 179, 180, 181, 182, 183, 184, 185, 186, 187, 188] (by kernel_rfl)
    have r2 : a1.tmps.getD 188 undef = .bool false := r
    clear c
    rw [ha]
    simp only [List.foldl_cons, List.foldl_nil]
    rw [r2]
    exact hK _ _ _ _ _ _ _ _ _ _ _ _ _ _ _ _ _ _ _ _ _ _ _ _ _ _ _ _ _ _ _ _ w1 hbl
end Go.Proofs.YtbehijhpichniaaDoor
