/- A round of the reader that finds a pair: the region that draws, as a lemma. -/
import Derived.Test.YtbehijhpichniaaPkv
import Derived.Test.YtbehijhpichniaaLnA
import Derived.Test.YtbehijhpichniaaOgT
namespace Go.Proofs.Ytbehijhpichniaa
open Go.RowKit
section
variable {P : Program} {ops : Array Oper} {rest : List Oper} {a : Act} {w : World} {Q : Exit → Act → World → Prop}
/-- 'append(s, x..)' of a block's one element. -/
theorem arm_append {α : Type} {f : α → List Value} {e : TypeId} {k : Nat} {B : Nat} {v : Value} {L : List α} (t : TypeId) (ht : P.underlying t = some (.slice e)) {inf : TypeInfo} {z : Value} {bytes : Nat} (hi : P.info? e = some inf) (hz : inf.zero = some z) (hsize : inf.size = k)
    (hby : inf.bytes = bytes) (hzs : z.cells.size = k) (hk : 0 < k) (hf : ∀ x, (f x).length = k) (h1 : ∀ x, ∀ u ∈ f x, u.oneCell' = true)
    {dst : Option Tmp} {ty : TypeId} {pos : String} {after : Array Edge} {s x : Operand} (y : α) {g : Nat} (hs : a.eval s = v) (hx : a.eval x = .slice (some ⟨g, 0, none⟩) 1 1) (hg : w.heap[g]? = some (.cells (f y).toArray e (0, 0)))
    (hown : Own f e k w B v L) (hB : B ≤ w.heap.size) (hlen : (L.length + 1) * bytes ≤ 140737488355328) (hlen2 : L.length ≤ 1000000000)
    (hK : ∀ v' w', Own f e k w' B v' (L ++ [y]) → Only (fun g => v.ownBlock = some g) w w' → wpList P ops Q rest (a.put dst v') w') :
    wpList P ops Q ({ dst := dst, op := Op.call { callee := Callee.builtin Builtin.append, args := #[s, x], argTypes := #[t, t] }, type := ty, pos := pos, after := after, guard := none } :: rest) a w := by
  obtain ⟨v', w', hr, h2, h3, h4, h5⟩ := run_append_own_at (P := P) w B t ty e inf z k bytes ht hi hz hsize hby hzs hk v L.length (flat f L) hown ⟨g, 0, none⟩ 1 1 (f y) (by rw [hf]; omega)
    (by
      intro j u hu
      have : (⟨g, 0, none⟩ : Addr).add j = ⟨g, j, none⟩ := by unfold Addr.add; split <;> simp_all
      rw [this]
      simp [World.cell?, hg]
      simpa using hu) (h1 y) (by unfold maxLen; omega) hlen hB
  have hon : Only (fun g => v.ownBlock = some g) w w' := Only.of_grown h3 fun g hg => hg
  refine arm_run rfl (v := v') (w' := w') ?_ (hK v' w' ?_ hon)
  · unfold execOp
    simp only [resolve, invoke, builtin, Sem.run_bind, Sem.run_pure, Result.andThen_ok, List.map_toArray, List.map_cons, List.map_nil, hs, hx, hr]
  · unfold Own
    rw [flat_snoc, List.length_append]
    exact h2
end
set_option maxRecDepth 100000 in
set_option maxHeartbeats 8000000 in
theorem kvpush {id : Nat} {a0 : Act} {w : World} {Q : Exit → Act → World → Prop} {B : Nat} {sp : Value} {L : List Tr} {s x y : ByteArray} {p e v : Nat} (hsz : a0.tmps.size = 73) (h3 : a0.eval (.tmp 3) = sp) (h0 : a0.eval (.tmp 0) = .string s) (h4 : a0.eval (.tmp 4) = .int .i64 (p : Int)) (h5 : a0.eval (.tmp 5) = .int .i64 (e : Int)) (h6 : a0.eval (.tmp 6) = .int .i64 (v : Int))
    (hx : s.extract p e = x) (hy : s.extract (e + 1) (e + 1 + v) = y) (hpe : p ≤ e) (hev : e + 1 + v ≤ s.size) (hs : s.size ≤ 1000000) (hown : Own prT 37 2 w B sp L) (hB : B ≤ w.heap.size) (hL : L.length ≤ 1000000)
    (hK : ∀ (y52 y53 y54 y55 y56 y57 y58 y59 y60 y61 y62 y63 y64 y65 y66 sp' : Value) (w' : World), Own prT 37 2 w' B sp' (L ++ [⟨x, y, false⟩]) → Only (fun g => sp.ownBlock = some g) w w' → Q .normal ((((((((((((((((((a0.put (some 52) y52).put (some 53) y53).put (some 54) y54).put (some 55) y55).put (some 56) y56).put (some 57) y57).put (some 58) y58).put (some 59) y59).put (some 60) y60).put (some 61) y61).put (some 62) y62).put (some 63) y63).put (some 64) y64).put (some 65) y65).put (some 66) y66)).put (some 67) sp').put (some 3) sp') w') :
    (Code.region id #[{ dst := some 52, op := Op.move (Operand.tmp 3), type := 33, pos := "reader.go:39", after := #[], guard := none },
      { dst := some 53, op := Op.move (Operand.tmp 0), type := 9, pos := "reader.go:39", after := #[], guard := none },
      { dst := some 54, op := Op.move (Operand.tmp 4), type := 3, pos := "reader.go:39", after := #[], guard := none },
      { dst := some 55, op := Op.move (Operand.tmp 5), type := 3, pos := "reader.go:39", after := #[], guard := none },
      { dst := some 56, op := Op.slice 9 (Operand.tmp 53) (some (Operand.tmp 54)) (some (Operand.tmp 55)) none, type := 9, pos := "reader.go:39", after := #[{ on := 1, ground := Ground.data }, { on := 2, ground := Ground.data }, { on := 3, ground := Ground.data }], guard := none },
      { dst := some 57, op := Op.move (Operand.tmp 0), type := 9, pos := "reader.go:39", after := #[], guard := none },
      { dst := some 58, op := Op.move (Operand.tmp 5), type := 3, pos := "reader.go:39", after := #[], guard := none },
      { dst := some 59, op := Op.binOp BinOp.add 3 (Operand.tmp 58) (Operand.const (Value.int IntKind.i64 1)) 3, type := 3, pos := "reader.go:39", after := #[{ on := 6, ground := Ground.data }], guard := none },
      { dst := some 60, op := Op.move (Operand.tmp 5), type := 3, pos := "reader.go:39", after := #[], guard := none },
      { dst := some 61, op := Op.binOp BinOp.add 3 (Operand.tmp 60) (Operand.const (Value.int IntKind.i64 1)) 3, type := 3, pos := "reader.go:39", after := #[{ on := 8, ground := Ground.data }], guard := none },
      { dst := some 62, op := Op.move (Operand.tmp 6), type := 3, pos := "reader.go:39", after := #[], guard := none },
      { dst := some 63, op := Op.binOp BinOp.add 3 (Operand.tmp 61) (Operand.tmp 62) 3, type := 3, pos := "reader.go:39", after := #[{ on := 9, ground := Ground.data }, { on := 10, ground := Ground.data }], guard := none },
      { dst := some 64, op := Op.slice 9 (Operand.tmp 57) (some (Operand.tmp 59)) (some (Operand.tmp 63)) none, type := 9, pos := "reader.go:39", after := #[{ on := 5, ground := Ground.data }, { on := 7, ground := Ground.data }, { on := 11, ground := Ground.data }], guard := none },
      { dst := some 65, op := Op.build 37 #[(0, Operand.tmp 56), (1, Operand.tmp 64)], type := 37, pos := "reader.go:39", after := #[{ on := 4, ground := Ground.data }, { on := 12, ground := Ground.data }], guard := none },
      { dst := some 66, op := Op.buildSlice 33 1 #[(0, Operand.tmp 65)], type := 33, pos := "reader.go:39", after := #[{ on := 13, ground := Ground.data }], guard := none },
      { dst := some 67, op := Op.call { callee := Callee.builtin Builtin.append, args := #[Operand.tmp 52, Operand.tmp 66], argTypes := #[33, 33] }, type := 33, pos := "reader.go:39", after := #[{ on := 0, ground := Ground.data }, { on := 14, ground := Ground.data }], guard := none },
      { dst := some 3, op := Op.assign (Operand.tmp 67), type := 33, pos := "reader.go:39", after := #[{ on := 15, ground := Ground.data }, { on := 15, ground := Ground.chain }, { on := 0, ground := Ground.phase }, { on := 1, ground := Ground.phase }, { on := 2, ground := Ground.phase }, { on := 3, ground := Ground.phase }, { on := 4, ground := Ground.phase }, { on := 5, ground := Ground.phase }, { on := 6, ground := Ground.phase }, { on := 7, ground := Ground.phase }, { on := 8, ground := Ground.phase }, { on := 9, ground := Ground.phase }, { on := 10, ground := Ground.phase }, { on := 11, ground := Ground.phase }, { on := 12, ground := Ground.phase }, { on := 13, ground := Ground.phase }, { on := 14, ground := Ground.phase }, { on := 15, ground := Ground.phase }], guard := none }] true).wp Try.prog Q a0 w := by
  obtain ⟨iP, hiP, hzP, hsP, hbP⟩ := info_parts info_pair
  have hw1 : IntKind.i64.wrap ((e : Int) + 1) = ((e + 1 : Nat) : Int) := by rw [IntKind.wrap_i64] <;> omega
  have hw2 : IntKind.i64.wrap (((e + 1 : Nat) : Int) + (v : Int)) = ((e + 1 + v : Nat) : Int) := by rw [IntKind.wrap_i64] <;> omega
  have hw3 : IntKind.i64.wrap ((e : Int) + 1 + (v : Int)) = (e : Int) + 1 + (v : Int) := by rw [IntKind.wrap_i64] <;> omega
  refine wp_region_og1 (n := 73) 15 [Asr.eq (sp), Asr.eq (.string s), Asr.eq (.int .i64 (p : Int)), Asr.eq (.int .i64 (e : Int)), Asr.eq (.string x), Asr.eq (.string s), Asr.eq (.int .i64 (e : Int)), Asr.eq (.int .i64 ((e + 1 : Nat) : Int)), Asr.eq (.int .i64 (e : Int)), Asr.eq (.int .i64 ((e + 1 : Nat) : Int)), Asr.eq (.int .i64 (v : Int)), Asr.eq (.int .i64 ((e + 1 + v : Nat) : Int)), Asr.eq (.string y), Asr.eq (.agg #[.string x, .string y]), Asr.blk (fun g => .slice (some ⟨g, 0, none⟩) 1 1) 37 #[.string x, .string y]] (by kernel_rfl) (by kernel_rfl) (by kernel_rfl) (by simp) (by kernel_rfl) hsz trivial ?_ ?_
  · simp only [List.take_succ_cons, List.take_zero]
    refine ⟨?_, ?_, ?_, ?_, ?_, ?_, ?_, ?_, ?_, ?_, ?_, ?_, ?_, ?_, ?_, trivial⟩
    · intro a wx c
      have e3 : a.eval (.tmp 3) = sp := c.outE (by decide +kernel) h3
      clear c
      show Oper.wp _ _ _ _ _ _
      unfold Oper.wp
      simp only [execOp, e3]
      go_simp
      exact ⟨_, rfl, Only.refl _ _, rfl⟩
    · intro a wx c
      have e0 : a.eval (.tmp 0) = .string s := c.outE (by decide +kernel) h0
      clear c
      show Oper.wp _ _ _ _ _ _
      unfold Oper.wp
      simp only [execOp, e0]
      go_simp
      exact ⟨_, rfl, Only.refl _ _, rfl⟩
    · intro a wx c
      have e4 : a.eval (.tmp 4) = .int .i64 (p : Int) := c.outE (by decide +kernel) h4
      clear c
      show Oper.wp _ _ _ _ _ _
      unfold Oper.wp
      simp only [execOp, e4]
      go_simp
      exact ⟨_, rfl, Only.refl _ _, rfl⟩
    · intro a wx c
      have e5 : a.eval (.tmp 5) = .int .i64 (e : Int) := c.outE (by decide +kernel) h5
      clear c
      show Oper.wp _ _ _ _ _ _
      unfold Oper.wp
      simp only [execOp, e5]
      go_simp
      exact ⟨_, rfl, Only.refl _ _, rfl⟩
    · intro a wx c
      have e53 : a.eval (.tmp 53) = .string s := c.slot 1 _ (by decide +kernel) rfl
      have e54 : a.eval (.tmp 54) = .int .i64 (p : Int) := c.slot 2 _ (by decide +kernel) rfl
      have e55 : a.eval (.tmp 55) = .int .i64 (e : Int) := c.slot 3 _ (by decide +kernel) rfl
      clear c
      show Oper.wp _ _ _ _ _ _
      have hsl := run_slice_string (P := Try.prog) wx 9 s .i64 .i64 ((p : Nat) : Int) ((e : Nat) : Int) Try.underlying9 (by omega) (by omega) (by omega)
      rw [show ((p : Nat) : Int).toNat = p from rfl, show ((e : Nat) : Int).toNat = e from rfl, hx] at hsl
      unfold Oper.wp
      simp only [execOp, Option.map_some, Option.map_none, e53, e54, e55]
      simp only [Sem.run_bind, Sem.run_pure, Result.andThen_ok, run_sliceAt_string _ _ _ _ _ _ Try.underlying9, hsl]
      exact ⟨_, rfl, Only.refl _ _, rfl⟩
    · intro a wx c
      have e0 : a.eval (.tmp 0) = .string s := c.outE (by decide +kernel) h0
      clear c
      show Oper.wp _ _ _ _ _ _
      unfold Oper.wp
      simp only [execOp, e0]
      go_simp
      exact ⟨_, rfl, Only.refl _ _, rfl⟩
    · intro a wx c
      have e5 : a.eval (.tmp 5) = .int .i64 (e : Int) := c.outE (by decide +kernel) h5
      clear c
      show Oper.wp _ _ _ _ _ _
      unfold Oper.wp
      simp only [execOp, e5]
      go_simp
      exact ⟨_, rfl, Only.refl _ _, rfl⟩
    · intro a wx c
      have e58 : a.eval (.tmp 58) = .int .i64 (e : Int) := c.slot 6 _ (by decide +kernel) rfl
      clear c
      show Oper.wp _ _ _ _ _ _
      unfold Oper.wp
      simp only [execOp, e58]
      try simp only [Act.eval]
      go_simp
      exact ⟨_, rfl, Only.refl _ _, rfl⟩
    · intro a wx c
      have e5 : a.eval (.tmp 5) = .int .i64 (e : Int) := c.outE (by decide +kernel) h5
      clear c
      show Oper.wp _ _ _ _ _ _
      unfold Oper.wp
      simp only [execOp, e5]
      go_simp
      exact ⟨_, rfl, Only.refl _ _, rfl⟩
    · intro a wx c
      have e60 : a.eval (.tmp 60) = .int .i64 (e : Int) := c.slot 8 _ (by decide +kernel) rfl
      clear c
      show Oper.wp _ _ _ _ _ _
      unfold Oper.wp
      simp only [execOp, e60]
      try simp only [Act.eval]
      go_simp
      exact ⟨_, rfl, Only.refl _ _, rfl⟩
    · intro a wx c
      have e6 : a.eval (.tmp 6) = .int .i64 (v : Int) := c.outE (by decide +kernel) h6
      clear c
      show Oper.wp _ _ _ _ _ _
      unfold Oper.wp
      simp only [execOp, e6]
      go_simp
      exact ⟨_, rfl, Only.refl _ _, rfl⟩
    · intro a wx c
      have e61 : a.eval (.tmp 61) = .int .i64 ((e + 1 : Nat) : Int) := c.slot 9 _ (by decide +kernel) rfl
      have e62 : a.eval (.tmp 62) = .int .i64 (v : Int) := c.slot 10 _ (by decide +kernel) rfl
      clear c
      show Oper.wp _ _ _ _ _ _
      unfold Oper.wp
      simp only [execOp, e61, e62]
      try simp only [Act.eval]
      go_simp
      exact ⟨_, rfl, Only.refl _ _, rfl⟩
    · intro a wx c
      have e57 : a.eval (.tmp 57) = .string s := c.slot 5 _ (by decide +kernel) rfl
      have e59 : a.eval (.tmp 59) = .int .i64 ((e + 1 : Nat) : Int) := c.slot 7 _ (by decide +kernel) rfl
      have e63 : a.eval (.tmp 63) = .int .i64 ((e + 1 + v : Nat) : Int) := c.slot 11 _ (by decide +kernel) rfl
      clear c
      show Oper.wp _ _ _ _ _ _
      have hsl := run_slice_string (P := Try.prog) wx 9 s .i64 .i64 (((e + 1) : Nat) : Int) (((e + 1 + v) : Nat) : Int) Try.underlying9 (by omega) (by omega) (by omega)
      rw [show (((e + 1) : Nat) : Int).toNat = (e + 1) from rfl, show (((e + 1 + v) : Nat) : Int).toNat = (e + 1 + v) from rfl, hy] at hsl
      unfold Oper.wp
      simp only [execOp, Option.map_some, Option.map_none, e57, e59, e63]
      simp only [Sem.run_bind, Sem.run_pure, Result.andThen_ok, run_sliceAt_string _ _ _ _ _ _ Try.underlying9, hsl]
      exact ⟨_, rfl, Only.refl _ _, rfl⟩
    · intro a wx c
      have e56 : a.eval (.tmp 56) = .string x := c.slot 4 _ (by decide +kernel) rfl
      have e64 : a.eval (.tmp 64) = .string y := c.slot 12 _ (by decide +kernel) rfl
      clear c
      show Oper.wp _ _ _ _ _ _
      unfold Oper.wp
      simp only [execOp, List.map_toArray, List.map_cons, List.map_nil, e56, e64]
      go_simp
      exact ⟨_, rfl, Only.refl _ _, rfl⟩
    · intro a wx c
      have e65 : a.eval (.tmp 65) = .agg #[.string x, .string y] := c.slot 13 _ (by decide +kernel) rfl
      have hsz := c.only.size
      clear c
      show Oper.wp _ _ _ _ _ _
      unfold Oper.wp
      simp only [execOp, List.map_toArray, List.map_cons, List.map_nil, e65]
      go_simp
      exact ⟨_, rfl, Only.of_below ((Below.refl _ _).alloc (Nat.le_refl _) _), _, by simpa using hsz, rfl, heap_alloc_new _ _⟩
  · intro a1 w1 c hb
    have r0 : a1.eval (.tmp 52) = sp := c.slot 0 _ (by decide) rfl
    obtain ⟨g, _, r14, hg⟩ : Asr.holds _ (Asr.blk (fun g => .slice (some ⟨g, 0, none⟩) 1 1) 37 #[.string x, .string y]) (a1.eval (.tmp 66)) w1 := c.slot 14 _ (by decide) rfl
    have ha := frame_head c [52, 53, 54, 55, 56, 57, 58, 59, 60, 61, 62, 63, 64, 65, 66] (by kernel_rfl)
    have hsz1 := c.size
    clear c
    simp only [List.drop_succ_cons, List.drop_zero]
    refine arm_append (f := prT) 33 Try.underlying33 hiP hzP hsP hbP (by rfl) (by decide) (fun _ => rfl) prT_one ⟨x, y, false⟩ r0 r14 hg (hown.below hb) (Nat.le_trans hB hb.size) (by omega) (by omega) ?_
    intro sp' w2 ho2 hon2
    refine arm_run rfl (v := sp') (w' := w2) ?_ ?_
    · simp only [execOp]
      rw [ev_eq (by rw [hsz1, hsz]; decide)]
      go_simp
    refine wpList_nil ?_
    rw [ha]
    exact hK _ _ _ _ _ _ _ _ _ _ _ _ _ _ _ sp' w2 ho2 (((Only.of_below (M := fun g => sp.ownBlock = some g) hb).trans hon2).mono fun g _ h => h.elim (fun x => x) (fun x => x))
end Go.Proofs.Ytbehijhpichniaa
