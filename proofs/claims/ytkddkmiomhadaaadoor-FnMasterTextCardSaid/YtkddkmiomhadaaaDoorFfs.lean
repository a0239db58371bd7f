/- ftoa64's region of numDigits and setDigits. -/
import Derived.Test.YtkddkmiomhadaaaDoorFfy
import Derived.Test.YtkddkmiomhadaaaDoorOgg
namespace Go.Proofs.YtkddkmiomhadaaaDoor
open Go.Shelf Go.RowKit Go.Sort Go.Lib
theorem sl_all (g : Nat) (w : World) : (Instr.sliceAt 109 (.pointer (some ⟨g, 0, none⟩)) none none none).run Tryd.prog w = .ok (.slice (some ⟨g, 0, none⟩) 24 24) w := by
  have hal : Tryd.prog.arrayLen 109 = 24 := by simp [Program.arrayLen, Tryd.underlying109]
  rw [run_sliceAt_array_all w 109 ⟨g, 0, none⟩ (by simp [Program.arrayLen, Program.elem, Tryd.underlying109])]
  go_simp
def P5 (g d n : Nat) (v : Value) (w : World) : Prop := ∃ nd : Nat, v = .tuple #[.int .i64 ((n : Int) - 3), .int .i64 nd] ∧ 1 ≤ nd ∧ nd ≤ n ∧ (∀ (j : Nat) (b : UInt8), nd ≤ j → (decDigits d)[j]? = some b → b = 48) ∧ DgAt g (decDigits d) w
def Pn (d n : Nat) (v : Value) : Prop := ∃ nd : Nat, v = .int .i64 nd ∧ 1 ≤ nd ∧ nd ≤ n ∧ ∀ (j : Nat) (b : UInt8), nd ≤ j → (decDigits d)[j]? = some b → b = 48
namespace G2
set_option maxRecDepth 100000 in
set_option maxHeartbeats 4000000 in
theorem sd_rgn {id g d n : Nat} {a0 : Act} {w : World} {Q : Exit → Act → World → Prop} (hd0 : d ≠ 0) (hd1 : d ≤ 10000000) (hn : nDigits d = n) (hn3 : 3 ≤ n) (hn7 : n ≤ 7) (hdn : d < 10 ^ n) (b0 : UInt8) (hb0 : (decDigits d)[0]? = some b0) (hb1 : b0 ≠ 48) (hg : w.heap[g]? = some (.cells zeros24 109 (0, 0))) (hP : ∀ w', Only (fun k => k = g) w w' → PowTab w')
    (hsz : a0.tmps.size = 298) (h25 : a0.eval (.tmp 25) = pt g 0) (h31 : a0.eval (.tmp 31) = .int .u64 d) (h32 : a0.eval (.tmp 32) = .int .i64 (-3))
    (hK : ∀ a' w' (nd : Nat), a'.tmps.size = 298 → a'.defers = a0.defers → (∀ t, t < 229 → t ≠ 26 → t ≠ 27 → a'.eval (.tmp t) = a0.eval (.tmp t)) → a'.eval (.tmp 26) = .int .i64 ((n : Int) - 3) → a'.eval (.tmp 27) = .int .i64 nd → 1 ≤ nd → nd ≤ n → (∀ (j : Nat) (b : UInt8), nd ≤ j → (decDigits d)[j]? = some b → b = 48) → DgAt g (decDigits d) w' → Only (fun k => k = g) w w' → Q .normal a' w') :
    (Code.region id #[{ dst := some 230, op := Op.slice 109 (Operand.tmp 25) none none none, type := 68, pos := "ftoa.go:322", after := #[], guard := none },
      { dst := some 231, op := Op.move (Operand.tmp 31), type := 36, pos := "ftoa.go:322", after := #[], guard := none },
      { dst := some 232, op := Op.move (Operand.tmp 32), type := 3, pos := "ftoa.go:322", after := #[], guard := none },
      { dst := some 233, op := Op.move (Operand.tmp 31), type := 36, pos := "ftoa.go:322", after := #[], guard := none },
      { dst := some 234, op := Op.call { callee := Callee.value (Operand.func 49), args := #[Operand.tmp 233], argTypes := #[36] }, type := 3, pos := "ftoa.go:322", after := #[{ on := 3, ground := Ground.data }], guard := none },
      { dst := some 235, op := Op.call { callee := Callee.value (Operand.func 66), args := #[Operand.tmp 230, Operand.tmp 231, Operand.tmp 232, Operand.tmp 234], argTypes := #[68, 36, 3, 3] }, type := 130, pos := "ftoa.go:322", after := #[{ on := 0, ground := Ground.data }, { on := 1, ground := Ground.data }, { on := 2, ground := Ground.data }, { on := 4, ground := Ground.data }, { on := 4, ground := Ground.chain }], guard := none },
      { dst := some 229, op := Op.move (Operand.tmp 235), type := 130, pos := "ftoa.go:322", after := #[{ on := 5, ground := Ground.data }], guard := none },
      { dst := some 236, op := Op.extract (Operand.tmp 229) 0, type := 3, pos := "ftoa.go:322", after := #[{ on := 6, ground := Ground.data }], guard := none },
      { dst := some 237, op := Op.extract (Operand.tmp 229) 1, type := 3, pos := "ftoa.go:322", after := #[{ on := 6, ground := Ground.data }, { on := 9, ground := Ground.gcOnly Departure.lateStores }], guard := none },
      { dst := some 26, op := Op.assign (Operand.tmp 236), type := 3, pos := "ftoa.go:322", after := #[{ on := 7, ground := Ground.data }, { on := 5, ground := Ground.chain }, { on := 0, ground := Ground.phase }, { on := 1, ground := Ground.phase }, { on := 2, ground := Ground.phase }, { on := 3, ground := Ground.phase }, { on := 4, ground := Ground.phase }, { on := 5, ground := Ground.phase }, { on := 6, ground := Ground.phase }, { on := 7, ground := Ground.phase }, { on := 8, ground := Ground.textOnly Departure.lateStores }], guard := none },
      { dst := some 27, op := Op.assign (Operand.tmp 237), type := 3, pos := "ftoa.go:322", after := #[{ on := 8, ground := Ground.data }, { on := 9, ground := Ground.chain }, { on := 0, ground := Ground.phase }, { on := 1, ground := Ground.phase }, { on := 2, ground := Ground.phase }, { on := 3, ground := Ground.phase }, { on := 4, ground := Ground.phase }, { on := 5, ground := Ground.phase }, { on := 6, ground := Ground.phase }, { on := 7, ground := Ground.phase }, { on := 8, ground := Ground.phase }, { on := 9, ground := Ground.phase }], guard := none }] true).wp Tryd.prog Q a0 w := by
  have hgl := (Array.getElem?_eq_some_iff.1 hg).1
  refine wp_region_ogE (n := 298) [Asr.eq (.slice (some ⟨g, 0, none⟩) 24 24), Asr.eq (.int .u64 d), Asr.eq (.int .i64 (-3)), Asr.eq (.int .u64 d), Asr.eq (.int .i64 n), Asr.any (P5 g d n), Asr.any (P5 g d n), Asr.eq (.int .i64 ((n : Int) - 3)), Asr.pure (Pn d n), Asr.eq (.int .i64 ((n : Int) - 3)), Asr.pure (Pn d n)] (fun e k => e = 5 ∧ k = g) (by kernel_rfl) (by kernel_rfl) (by kernel_rfl) hsz (fun e k h => by rw [h.2]; exact hgl) ⟨?_, ?_, trivial⟩ ⟨?_, ?_, ?_, ?_, ?_, ?_, ?_, ?_, ?_, ?_, ?_, trivial⟩ ?_
  · rintro i _ hne v w1 w2 hB ho ⟨nd, hv, h1, h2, h3, cs, hc, hcs⟩
    exact ⟨nd, hv, h1, h2, h3, cs, by rw [ho.block g (Array.getElem?_eq_some_iff.1 hc).1 (fun h => hne h.1.symm)]; exact hc, hcs⟩
  · rintro i ha hne v w1 w2 hB ho ⟨nd, hv, h1, h2, h3, cs, hc, hcs⟩
    refine ⟨nd, hv, h1, h2, h3, cs, ?_, hcs⟩
    rw [ho.block g (Array.getElem?_eq_some_iff.1 hc).1 (fun h => ?_)]
    · exact hc
    · rw [h.1] at ha
      have hah : ahead #[{ dst := some 230, op := Op.slice 109 (Operand.tmp 25) none none none, type := 68, pos := "ftoa.go:322", after := #[], guard := none },
      { dst := some 231, op := Op.move (Operand.tmp 31), type := 36, pos := "ftoa.go:322", after := #[], guard := none },
      { dst := some 232, op := Op.move (Operand.tmp 32), type := 3, pos := "ftoa.go:322", after := #[], guard := none },
      { dst := some 233, op := Op.move (Operand.tmp 31), type := 36, pos := "ftoa.go:322", after := #[], guard := none },
      { dst := some 234, op := Op.call { callee := Callee.value (Operand.func 49), args := #[Operand.tmp 233], argTypes := #[36] }, type := 3, pos := "ftoa.go:322", after := #[{ on := 3, ground := Ground.data }], guard := none },
      { dst := some 235, op := Op.call { callee := Callee.value (Operand.func 66), args := #[Operand.tmp 230, Operand.tmp 231, Operand.tmp 232, Operand.tmp 234], argTypes := #[68, 36, 3, 3] }, type := 130, pos := "ftoa.go:322", after := #[{ on := 0, ground := Ground.data }, { on := 1, ground := Ground.data }, { on := 2, ground := Ground.data }, { on := 4, ground := Ground.data }, { on := 4, ground := Ground.chain }], guard := none },
      { dst := some 229, op := Op.move (Operand.tmp 235), type := 130, pos := "ftoa.go:322", after := #[{ on := 5, ground := Ground.data }], guard := none },
      { dst := some 236, op := Op.extract (Operand.tmp 229) 0, type := 3, pos := "ftoa.go:322", after := #[{ on := 6, ground := Ground.data }], guard := none },
      { dst := some 237, op := Op.extract (Operand.tmp 229) 1, type := 3, pos := "ftoa.go:322", after := #[{ on := 6, ground := Ground.data }, { on := 9, ground := Ground.gcOnly Departure.lateStores }], guard := none },
      { dst := some 26, op := Op.assign (Operand.tmp 236), type := 3, pos := "ftoa.go:322", after := #[{ on := 7, ground := Ground.data }, { on := 5, ground := Ground.chain }, { on := 0, ground := Ground.phase }, { on := 1, ground := Ground.phase }, { on := 2, ground := Ground.phase }, { on := 3, ground := Ground.phase }, { on := 4, ground := Ground.phase }, { on := 5, ground := Ground.phase }, { on := 6, ground := Ground.phase }, { on := 7, ground := Ground.phase }, { on := 8, ground := Ground.textOnly Departure.lateStores }], guard := none },
      { dst := some 27, op := Op.assign (Operand.tmp 237), type := 3, pos := "ftoa.go:322", after := #[{ on := 8, ground := Ground.data }, { on := 9, ground := Ground.chain }, { on := 0, ground := Ground.phase }, { on := 1, ground := Ground.phase }, { on := 2, ground := Ground.phase }, { on := 3, ground := Ground.phase }, { on := 4, ground := Ground.phase }, { on := 5, ground := Ground.phase }, { on := 6, ground := Ground.phase }, { on := 7, ground := Ground.phase }, { on := 8, ground := Ground.phase }, { on := 9, ground := Ground.phase }], guard := none }] 6 5 = true := by kernel_rfl
      exact absurd (hah.symm.trans ha) (by decide)
  · intro a wx c
    have e25 : a.eval (.tmp 25) = pt g 0 := c.outE (by decide +kernel) h25
    clear c
    show Oper.wp _ _ _ _ _ _
    have hs := sl_all g wx
    exact og_val (by simp only [execOp, e25, Option.map]; exact run_andValue hs) rfl
  · intro a wx c
    have e31 : a.eval (.tmp 31) = .int .u64 d := c.outE (by decide +kernel) h31
    clear c
    show Oper.wp _ _ _ _ _ _
    exact og_val (ex_mv e31) rfl
  · intro a wx c
    have e32 : a.eval (.tmp 32) = .int .i64 (-3) := c.outE (by decide +kernel) h32
    clear c
    show Oper.wp _ _ _ _ _ _
    exact og_val (ex_mv e32) rfl
  · intro a wx c
    have e31 : a.eval (.tmp 31) = .int .u64 d := c.outE (by decide +kernel) h31
    clear c
    show Oper.wp _ _ _ _ _ _
    exact og_val (ex_mv e31) rfl
  · intro a wx c
    have e233 : a.eval (.tmp 233) = .int .u64 d := c.slot 3 _ (by decide +kernel) rfl
    have hP' := hP wx ((((Only.refl (fun k => k = g) w).drew).trans c.only).mono fun x _ h => by rcases h with h | ⟨_, h⟩ <;> first | exact h | exact h.2)
    clear c
    show Oper.wp _ _ _ _ _ _
    unfold Oper.wp
    simp only [execOp, resolve, List.map_toArray, List.map_cons, List.map_nil, e233]
    go_simp
    have h := numDigits_any d (by omega) (by omega) wx hP'
    rw [hn] at h
    refine h.mono ?_
    rintro e w' ⟨rfl, rfl⟩
    exact ⟨_, rfl, Only.refl _ _, rfl⟩
  · intro a wx c
    have e230 : a.eval (.tmp 230) = .slice (some ⟨g, 0, none⟩) 24 24 := c.slot 0 _ (by decide +kernel) rfl
    have e231 : a.eval (.tmp 231) = .int .u64 d := c.slot 1 _ (by decide +kernel) rfl
    have e232 : a.eval (.tmp 232) = .int .i64 (-3) := c.slot 2 _ (by decide +kernel) rfl
    have e234 : a.eval (.tmp 234) = .int .i64 n := c.slot 4 _ (by decide +kernel) rfl
    have hgx : wx.heap[g]? = some (.cells zeros24 109 (0, 0)) := c.heap hg (fun e h => .inl h.1)
    clear c
    show Oper.wp _ _ _ _ _ _
    unfold Oper.wp
    simp only [execOp, resolve, List.map_toArray, List.map_cons, List.map_nil, e230, e231, e232, e234]
    go_simp
    refine (setDigits_any g d n hn (by omega) hn7 hdn hd1 b0 hb0 hb1 wx hgx).mono ?_
    rintro e w' ⟨nd, rfl, h1, h2, h3, h4, ho⟩
    exact ⟨_, rfl, ho.mono (fun x _ h => ⟨rfl, h⟩), nd, rfl, h1, h2, h3, h4⟩
  · intro a wx c
    obtain p235 : (P5 g d n) (a.eval (.tmp 235)) wx := c.slot 5 _ (by decide +kernel) rfl
    clear c
    show Oper.wp _ _ _ _ _ _
    exact og_val (ex_mv rfl) p235
  · intro a wx c
    obtain p229 : (P5 g d n) (a.eval (.tmp 229)) wx := c.slot 6 _ (by decide +kernel) rfl
    clear c
    show Oper.wp _ _ _ _ _ _
    obtain ⟨nd, hv, _⟩ := p229
    exact og_val (ei_ext hv rfl) rfl
  · intro a wx c
    obtain p229 : (P5 g d n) (a.eval (.tmp 229)) wx := c.slot 6 _ (by decide +kernel) rfl
    clear c
    show Oper.wp _ _ _ _ _ _
    obtain ⟨nd, hv, h1, h2, h3, _⟩ := p229
    exact og_val (ei_ext hv rfl) ⟨nd, rfl, h1, h2, h3⟩
  · intro a wx c
    have e236 : a.eval (.tmp 236) = .int .i64 ((n : Int) - 3) := c.slot 7 _ (by decide +kernel) rfl
    clear c
    show Oper.wp _ _ _ _ _ _
    exact og_val (ex_as e236) rfl
  · intro a wx c
    obtain p237 : (Pn d n) (a.eval (.tmp 237)) := c.slot 8 _ (by decide +kernel) rfl
    clear c
    show Oper.wp _ _ _ _ _ _
    exact og_val (ex_as rfl) p237
  · intro a1 w1 c hon
    have r26 : a1.tmps.getD 26 undef = .int .i64 ((n : Int) - 3) := c.slot 9 _ rfl
    obtain ⟨nd, r27, h1, h2, h3⟩ : Pn d n (a1.tmps.getD 27 undef) := c.slot 10 _ rfl
    obtain ⟨_, _, _, _, _, hdg⟩ : P5 g d n (a1.tmps.getD 229 undef) w1 := c.slot 6 _ rfl
    refine hK a1 w1 nd (c.size.trans hsz) c.defers (fun t ht h26 h27 => ?_) r26 r27 h1 h2 h3 hdg (hon.mono fun x _ h => by obtain ⟨_, h⟩ := h; exact h.2)
    have := c.out t (by
      intro j o hj hd
      have key : (ogDsts #[{ dst := some 230, op := Op.slice 109 (Operand.tmp 25) none none none, type := 68, pos := "ftoa.go:322", after := #[], guard := none },
      { dst := some 231, op := Op.move (Operand.tmp 31), type := 36, pos := "ftoa.go:322", after := #[], guard := none },
      { dst := some 232, op := Op.move (Operand.tmp 32), type := 3, pos := "ftoa.go:322", after := #[], guard := none },
      { dst := some 233, op := Op.move (Operand.tmp 31), type := 36, pos := "ftoa.go:322", after := #[], guard := none },
      { dst := some 234, op := Op.call { callee := Callee.value (Operand.func 49), args := #[Operand.tmp 233], argTypes := #[36] }, type := 3, pos := "ftoa.go:322", after := #[{ on := 3, ground := Ground.data }], guard := none },
      { dst := some 235, op := Op.call { callee := Callee.value (Operand.func 66), args := #[Operand.tmp 230, Operand.tmp 231, Operand.tmp 232, Operand.tmp 234], argTypes := #[68, 36, 3, 3] }, type := 130, pos := "ftoa.go:322", after := #[{ on := 0, ground := Ground.data }, { on := 1, ground := Ground.data }, { on := 2, ground := Ground.data }, { on := 4, ground := Ground.data }, { on := 4, ground := Ground.chain }], guard := none },
      { dst := some 229, op := Op.move (Operand.tmp 235), type := 130, pos := "ftoa.go:322", after := #[{ on := 5, ground := Ground.data }], guard := none },
      { dst := some 236, op := Op.extract (Operand.tmp 229) 0, type := 3, pos := "ftoa.go:322", after := #[{ on := 6, ground := Ground.data }], guard := none },
      { dst := some 237, op := Op.extract (Operand.tmp 229) 1, type := 3, pos := "ftoa.go:322", after := #[{ on := 6, ground := Ground.data }, { on := 9, ground := Ground.gcOnly Departure.lateStores }], guard := none },
      { dst := some 26, op := Op.assign (Operand.tmp 236), type := 3, pos := "ftoa.go:322", after := #[{ on := 7, ground := Ground.data }, { on := 5, ground := Ground.chain }, { on := 0, ground := Ground.phase }, { on := 1, ground := Ground.phase }, { on := 2, ground := Ground.phase }, { on := 3, ground := Ground.phase }, { on := 4, ground := Ground.phase }, { on := 5, ground := Ground.phase }, { on := 6, ground := Ground.phase }, { on := 7, ground := Ground.phase }, { on := 8, ground := Ground.textOnly Departure.lateStores }], guard := none },
      { dst := some 27, op := Op.assign (Operand.tmp 237), type := 3, pos := "ftoa.go:322", after := #[{ on := 8, ground := Ground.data }, { on := 9, ground := Ground.chain }, { on := 0, ground := Ground.phase }, { on := 1, ground := Ground.phase }, { on := 2, ground := Ground.phase }, { on := 3, ground := Ground.phase }, { on := 4, ground := Ground.phase }, { on := 5, ground := Ground.phase }, { on := 6, ground := Ground.phase }, { on := 7, ground := Ground.phase }, { on := 8, ground := Ground.phase }, { on := 9, ground := Ground.phase }], guard := none }] [26, 27, 229, 230, 231, 232, 233, 234, 235, 236, 237]) = true := by kernel_rfl
      unfold ogDsts at key
      rw [List.all_eq_true] at key
      have := key o (by have := Array.mem_of_getElem? hj; simpa using this)
      rw [hd] at this
      have h9 : (t ∈ [26, 27, 229, 230, 231, 232, 233, 234, 235, 236, 237]) := by simpa using this
      rcases (by decide : ∀ x ∈ [26, 27, 229, 230, 231, 232, 233, 234, 235, 236, 237], x = 26 ∨ x = 27 ∨ 229 ≤ x) t h9 with e | e | e
      · exact h26 e
      · exact h27 e
      · exact absurd ht (Nat.not_lt.2 e))
    simp only [Act.eval, Array.getD_eq_getD_getElem?, this]
end G2
end Go.Proofs.YtkddkmiomhadaaaDoor
