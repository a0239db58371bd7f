/- The walk of impl.mediaOf. -/
import Derived.Test.YtbehijhpichniaaDoorSgw
namespace Go.Proofs.YtbehijhpichniaaDoor
open Go.RowKit
theorem version_get (P ver : Nat) (w : World) (hc : w.cell? ⟨P, 20, none⟩ = some (.int .u8 ver)) : Calls Tryd.prog 32 #[.pointer (some ⟨P, 0, none⟩)] w (fun e w' => e = .returned (.int .u8 ver) ∧ w' = w) := by
  go_enter Tryd.func32, Tryd.ntmps32
  go_wp2
  go_ret
  exact ⟨rfl, rfl⟩
theorem winsize_get (P : Nat) (w : World) (hc : w.cell? ⟨P, 12, none⟩ = some (.int .u64 0)) : Calls Tryd.prog 35 #[.pointer (some ⟨P, 0, none⟩)] w (fun e w' => e = .returned (.int .u64 0) ∧ w' = w) := by
  go_enter Tryd.func35, Tryd.ntmps35
  go_wp2
  go_ret
  exact ⟨rfl, rfl⟩
/-- A playlist as it is told. -/
def medc (s : Pl) (A : Option Addr) (n cap : Nat) : Array Value := #[.float .f64 s.tgt, .int .u64 0, .slice A n cap, .string ⟨#[]⟩, .bool s.ifr, .bool false, .int .i64 0, .int .u64 0, .float .f64 0, .bool false, .int .i64 s.ver, .slice none 0 0, .slice none 0 0, .int .i64 0]
theorem med_one {s : Pl} {A : Option Addr} {n cap : Nat} : ∀ u ∈ (medc s A n cap).toList, u.oneCell' = true := by
  intro u hu
  simp only [medc, List.mem_cons, List.not_mem_nil, or_false] at hu
  rcases hu with rfl | rfl | rfl | rfl | rfl | rfl | rfl | rfl | rfl | rfl | rfl | rfl | rfl | rfl <;> rfl
def SegOut (B : Nat) (s : Pl) (v : Value) (w : World) : Prop := ∃ (A : Option Addr) (cap : Nat) (L : List Os), v = .slice A s.segs.length cap ∧ Own Os.list 31 11 w B (.slice A s.segs.length cap) L ∧ L.length = s.segs.length ∧ Told B s.segs L w
def MedAgg (B : Nat) (s : Pl) (v : Value) (w : World) : Prop := ∃ (A : Option Addr) (cap : Nat) (L : List Os), v = .agg (medc s A s.segs.length cap) ∧ Own Os.list 31 11 w B (.slice A s.segs.length cap) L ∧ L.length = s.segs.length ∧ Told B s.segs L w
theorem Told.base {B B' : Nat} {segs : List Sg} {L : List Os} {w : World} (h : Told B segs L w) (hB : B' ≤ B) : Told B' segs L w := ⟨h.len, fun j h1 h2 => ⟨(h.at_ j h1 h2).1, (h.at_ j h1 h2).2.1, (h.at_ j h1 h2).2.2.base hB⟩⟩
theorem OgHead.outE {l : List Oper} {m : Nat} {a0 a : Act} {w0 w : World} {E : Nat → Nat → Prop} {Φ : Nat → Value → World → Prop} (c : OgHead l.toArray m a0 w0 E Φ a w) {t : Tmp} {v : Value} (h : (l.take m).all (fun o => o.dst != some t) = true) (hv : a0.eval (.tmp t) = v) : a.eval (.tmp t) = v := by
  have := c.out t (fun j o hj ho e => by
    have h2 : (l.take m)[j]? = some o := by rw [List.getElem?_take_of_lt hj]; simpa using ho
    have := List.all_eq_true.1 h o (List.mem_of_getElem? h2)
    rw [e] at this
    simp at this)
  rw [← hv]
  simp only [Act.eval, Array.getD_eq_getD_getElem?]
  rw [this]
/-- A change of a block of another kind turns no cue. -/
theorem CuesNew.only1 {oc : Option Cu} {B b : Nat} {v : Value} {w w' : World} {cs : Array Value} {t : TypeId} {fr : Nat × Nat} (h : CuesNew oc B v w) (hb : w.heap[b]? = some (.cells cs t fr)) (ht : t ≠ 46) (ho : Only (fun g => g = b) w w') : CuesNew oc B v w' := by
  cases oc with
  | none => exact h
  | some c =>
    obtain ⟨g, hg, hv, hh⟩ := h
    refine ⟨g, hg, hv, (ho.block g (Array.getElem?_eq_some_iff.1 hh).1 fun e => ?_).trans hh⟩
    exact tag_ne hb hh ht e.symm
theorem ret_cell {P : Program} {w : World} {fn : Func} {tmps : Array Value} {i k g : Nat} {cs : Array Value} {t : TypeId} (hagg : ∀ w, (isAgg t).run P w = .ok true w) (hk : ∀ w, (sizeOf t).run P w = .ok k w) (hf : fn.results = #[.cell i t]) (h4 : tmps.getD i undef = .pointer (some ⟨g, 0, none⟩))
    (hg : w.heap[g]? = some (.cells cs t (0, 0))) (hsz : cs.size = k) : (results fn tmps).run P w = .ok (.agg cs) w := by
  have hr := run_load_blk (P := P) (w := w) t hagg hk hg hsz
  unfold results
  rw [hf]
  simp only [Array.getD_eq_getD_getElem?] at h4
  simp [h4, hr, asAddr]
set_option maxRecDepth 100000 in
set_option maxHeartbeats 8000000 in
theorem med_reg {id : Nat} {a0 : Act} {w : World} {Q : Exit → Act → World → Prop} {b B : Nat} {s : Pl} {old : Array Value} (hsz : a0.tmps.size = 60) (h0 : a0.eval (.tmp 0) = .pointer (some ⟨s.P, 0, none⟩)) (h2 : a0.eval (.tmp 2) = .pointer (some ⟨b, 0, none⟩)) (h : PlAt B s w) (hv : s.ver < 256) (hs : ∀ x ∈ s.segs, ∀ k c, x.sc = some (k, c) → c.syn < 100 ∧ c.typ < 100) (hb : w.heap[b]? = some (.cells old 41 (0, 0))) (hold : old.size = 14)
    (hK : ∀ (y3 y4 y5 y6 y7 y8 y9 y10 y11 y12 y13 y14 y15 y16 y17 y18 y19 y20 y21 y22 y23 y24 y25 y26 y27 y28 y29 y30 y31 y32 y33 y34 y35 y36 y37 y38 y39 y40 y41 y42 y43 y44 y45 y46 y47 y48 y49 y50 y51 y52 y53 y54 y55 y56 y57 y58 y59 : Value) (A : Option Addr) (cap : Nat) (L : List Os) (w' : World), w'.heap[b]? = some (.cells (medc s A s.segs.length cap) 41 (0, 0)) → Own Os.list 31 11 w' w.heap.size (.slice A s.segs.length cap) L → L.length = s.segs.length → Told w.heap.size s.segs L w' → Only (fun g => g = b) w w' → Q .normal (((((((((((((((((((((((((((((((((((((((((((((((((((((((((a0.put (some 3) y3).put (some 4) y4).put (some 5) y5).put (some 6) y6).put (some 7) y7).put (some 8) y8).put (some 9) y9).put (some 10) y10).put (some 11) y11).put (some 12) y12).put (some 13) y13).put (some 14) y14).put (some 15) y15).put (some 16) y16).put (some 17) y17).put (some 18) y18).put (some 19) y19).put (some 20) y20).put (some 21) y21).put (some 22) y22).put (some 23) y23).put (some 24) y24).put (some 25) y25).put (some 26) y26).put (some 27) y27).put (some 28) y28).put (some 29) y29).put (some 30) y30).put (some 31) y31).put (some 32) y32).put (some 33) y33).put (some 34) y34).put (some 35) y35).put (some 36) y36).put (some 37) y37).put (some 38) y38).put (some 39) y39).put (some 40) y40).put (some 41) y41).put (some 42) y42).put (some 43) y43).put (some 44) y44).put (some 45) y45).put (some 46) y46).put (some 47) y47).put (some 48) y48).put (some 49) y49).put (some 50) y50).put (some 51) y51).put (some 52) y52).put (some 53) y53).put (some 54) y54).put (some 55) y55).put (some 56) y56).put (some 57) y57).put (some 58) y58).put (some 59) y59) w') :
    (Code.region id #[{ dst := some 3, op := Op.move (Operand.tmp 0), type := 51, pos := "list.go:205", after := #[], guard := none },
      { dst := some 4, op := Op.nilCheck (Operand.tmp 3), type := 0, pos := "list.go:205", after := #[{ on := 0, ground := Ground.data }], guard := none },
      { dst := some 5, op := Op.fieldAddr 74 (Operand.tmp 4) 0, type := 0, pos := "list.go:205", after := #[{ on := 1, ground := Ground.data }], guard := none },
      { dst := some 6, op := Op.load 26 (Operand.tmp 5), type := 26, pos := "list.go:205", after := #[{ on := 2, ground := Ground.data }], guard := none },
      { dst := some 7, op := Op.move (Operand.tmp 0), type := 51, pos := "list.go:205", after := #[], guard := none },
      { dst := some 8, op := Op.nilCheck (Operand.tmp 7), type := 0, pos := "list.go:205", after := #[{ on := 4, ground := Ground.data }], guard := none },
      { dst := some 9, op := Op.fieldAddr 74 (Operand.tmp 8) 1, type := 0, pos := "list.go:205", after := #[{ on := 5, ground := Ground.data }], guard := none },
      { dst := some 10, op := Op.load 25 (Operand.tmp 9), type := 25, pos := "list.go:205", after := #[{ on := 6, ground := Ground.data }], guard := none },
      { dst := some 11, op := Op.move (Operand.tmp 0), type := 51, pos := "list.go:205", after := #[], guard := none },
      { dst := some 12, op := Op.call { callee := Callee.value (Operand.func 31), args := #[Operand.tmp 11], argTypes := #[51] }, type := 58, pos := "list.go:206", after := #[{ on := 8, ground := Ground.data }], guard := none },
      { dst := some 13, op := Op.call { callee := Callee.value (Operand.func 30), args := #[Operand.tmp 12], argTypes := #[58] }, type := 39, pos := "list.go:206", after := #[{ on := 9, ground := Ground.data }, { on := 9, ground := Ground.chain }], guard := none },
      { dst := some 14, op := Op.move (Operand.tmp 0), type := 51, pos := "list.go:205", after := #[], guard := none },
      { dst := some 15, op := Op.nilCheck (Operand.tmp 14), type := 0, pos := "list.go:205", after := #[{ on := 11, ground := Ground.data }], guard := none },
      { dst := some 16, op := Op.fieldAddr 74 (Operand.tmp 15) 3, type := 0, pos := "list.go:205", after := #[{ on := 12, ground := Ground.data }], guard := none },
      { dst := some 17, op := Op.load 9 (Operand.tmp 16), type := 9, pos := "list.go:205", after := #[{ on := 13, ground := Ground.data }], guard := none },
      { dst := some 18, op := Op.move (Operand.tmp 0), type := 51, pos := "list.go:205", after := #[], guard := none },
      { dst := some 19, op := Op.nilCheck (Operand.tmp 18), type := 0, pos := "list.go:205", after := #[{ on := 15, ground := Ground.data }], guard := none },
      { dst := some 20, op := Op.fieldAddr 74 (Operand.tmp 19) 4, type := 0, pos := "list.go:205", after := #[{ on := 16, ground := Ground.data }], guard := none },
      { dst := some 21, op := Op.load 4 (Operand.tmp 20), type := 4, pos := "list.go:205", after := #[{ on := 17, ground := Ground.data }], guard := none },
      { dst := some 22, op := Op.move (Operand.tmp 0), type := 51, pos := "list.go:205", after := #[], guard := none },
      { dst := some 23, op := Op.nilCheck (Operand.tmp 22), type := 0, pos := "list.go:205", after := #[{ on := 19, ground := Ground.data }], guard := none },
      { dst := some 24, op := Op.fieldAddr 74 (Operand.tmp 23) 5, type := 0, pos := "list.go:205", after := #[{ on := 20, ground := Ground.data }], guard := none },
      { dst := some 25, op := Op.load 4 (Operand.tmp 24), type := 4, pos := "list.go:205", after := #[{ on := 21, ground := Ground.data }], guard := none },
      { dst := some 26, op := Op.move (Operand.tmp 0), type := 51, pos := "list.go:205", after := #[], guard := none },
      { dst := some 27, op := Op.nilCheck (Operand.tmp 26), type := 0, pos := "list.go:205", after := #[{ on := 23, ground := Ground.data }], guard := none },
      { dst := some 28, op := Op.fieldAddr 74 (Operand.tmp 27) 6, type := 0, pos := "list.go:205", after := #[{ on := 24, ground := Ground.data }], guard := none },
      { dst := some 29, op := Op.load 67 (Operand.tmp 28), type := 67, pos := "list.go:205", after := #[{ on := 25, ground := Ground.data }], guard := none },
      { dst := some 30, op := Op.convert 67 3 (Operand.tmp 29), type := 3, pos := "list.go:205", after := #[{ on := 26, ground := Ground.data }], guard := none },
      { dst := some 31, op := Op.move (Operand.tmp 0), type := 51, pos := "list.go:205", after := #[], guard := none },
      { dst := some 32, op := Op.nilCheck (Operand.tmp 31), type := 0, pos := "list.go:205", after := #[{ on := 28, ground := Ground.data }], guard := none },
      { dst := some 33, op := Op.fieldAddr 74 (Operand.tmp 32) 7, type := 0, pos := "list.go:205", after := #[{ on := 29, ground := Ground.data }], guard := none },
      { dst := some 34, op := Op.load 25 (Operand.tmp 33), type := 25, pos := "list.go:205", after := #[{ on := 30, ground := Ground.data }], guard := none },
      { dst := some 35, op := Op.move (Operand.tmp 0), type := 51, pos := "list.go:205", after := #[], guard := none },
      { dst := some 36, op := Op.nilCheck (Operand.tmp 35), type := 0, pos := "list.go:205", after := #[{ on := 32, ground := Ground.data }], guard := none },
      { dst := some 37, op := Op.fieldAddr 74 (Operand.tmp 36) 8, type := 0, pos := "list.go:205", after := #[{ on := 33, ground := Ground.data }], guard := none },
      { dst := some 38, op := Op.load 26 (Operand.tmp 37), type := 26, pos := "list.go:205", after := #[{ on := 34, ground := Ground.data }], guard := none },
      { dst := some 39, op := Op.move (Operand.tmp 0), type := 51, pos := "list.go:205", after := #[], guard := none },
      { dst := some 40, op := Op.nilCheck (Operand.tmp 39), type := 0, pos := "list.go:205", after := #[{ on := 36, ground := Ground.data }], guard := none },
      { dst := some 41, op := Op.fieldAddr 74 (Operand.tmp 40) 9, type := 0, pos := "list.go:205", after := #[{ on := 37, ground := Ground.data }], guard := none },
      { dst := some 42, op := Op.load 4 (Operand.tmp 41), type := 4, pos := "list.go:205", after := #[{ on := 38, ground := Ground.data }], guard := none },
      { dst := some 43, op := Op.move (Operand.tmp 0), type := 51, pos := "list.go:205", after := #[], guard := none },
      { dst := some 44, op := Op.call { callee := Callee.value (Operand.func 32), args := #[Operand.tmp 43], argTypes := #[51] }, type := 5, pos := "list.go:207", after := #[{ on := 40, ground := Ground.data }, { on := 10, ground := Ground.chain }], guard := none },
      { dst := some 45, op := Op.convert 5 3 (Operand.tmp 44), type := 3, pos := "list.go:205", after := #[{ on := 41, ground := Ground.data }], guard := none },
      { dst := some 46, op := Op.move (Operand.tmp 0), type := 51, pos := "list.go:205", after := #[], guard := none },
      { dst := some 47, op := Op.nilCheck (Operand.tmp 46), type := 0, pos := "list.go:205", after := #[{ on := 43, ground := Ground.data }], guard := none },
      { dst := some 48, op := Op.fieldAddr 74 (Operand.tmp 47) 19, type := 0, pos := "list.go:205", after := #[{ on := 44, ground := Ground.data }], guard := none },
      { dst := some 49, op := Op.load 61 (Operand.tmp 48), type := 61, pos := "list.go:205", after := #[{ on := 45, ground := Ground.data }], guard := none },
      { dst := some 50, op := Op.call { callee := Callee.value (Operand.func 33), args := #[Operand.tmp 49], argTypes := #[61] }, type := 27, pos := "list.go:207", after := #[{ on := 46, ground := Ground.data }, { on := 41, ground := Ground.chain }], guard := none },
      { dst := some 51, op := Op.move (Operand.tmp 0), type := 51, pos := "list.go:205", after := #[], guard := none },
      { dst := some 52, op := Op.nilCheck (Operand.tmp 51), type := 0, pos := "list.go:205", after := #[{ on := 48, ground := Ground.data }], guard := none },
      { dst := some 53, op := Op.fieldAddr 74 (Operand.tmp 52) 20, type := 0, pos := "list.go:205", after := #[{ on := 49, ground := Ground.data }], guard := none },
      { dst := some 54, op := Op.load 62 (Operand.tmp 53), type := 62, pos := "list.go:205", after := #[{ on := 50, ground := Ground.data }], guard := none },
      { dst := some 55, op := Op.call { callee := Callee.value (Operand.func 34), args := #[Operand.tmp 54], argTypes := #[62] }, type := 28, pos := "list.go:207", after := #[{ on := 51, ground := Ground.data }, { on := 47, ground := Ground.chain }], guard := none },
      { dst := some 56, op := Op.move (Operand.tmp 0), type := 51, pos := "list.go:205", after := #[], guard := none },
      { dst := some 57, op := Op.call { callee := Callee.value (Operand.func 35), args := #[Operand.tmp 56], argTypes := #[51] }, type := 37, pos := "list.go:207", after := #[{ on := 53, ground := Ground.data }, { on := 52, ground := Ground.chain }], guard := none },
      { dst := some 58, op := Op.convert 37 3 (Operand.tmp 57), type := 3, pos := "list.go:205", after := #[{ on := 54, ground := Ground.data }], guard := none },
      { dst := some 59, op := Op.build 41 #[(0, Operand.tmp 6), (1, Operand.tmp 10), (2, Operand.tmp 13), (3, Operand.tmp 17), (4, Operand.tmp 21), (5, Operand.tmp 25), (6, Operand.tmp 30), (7, Operand.tmp 34), (8, Operand.tmp 38), (9, Operand.tmp 42), (10, Operand.tmp 45), (11, Operand.tmp 50), (12, Operand.tmp 55), (13, Operand.tmp 58)], type := 41, pos := "list.go:205", after := #[{ on := 3, ground := Ground.data }, { on := 7, ground := Ground.data }, { on := 10, ground := Ground.data }, { on := 14, ground := Ground.data }, { on := 18, ground := Ground.data }, { on := 22, ground := Ground.data }, { on := 27, ground := Ground.data }, { on := 31, ground := Ground.data }, { on := 35, ground := Ground.data }, { on := 39, ground := Ground.data }, { on := 42, ground := Ground.data }, { on := 47, ground := Ground.data }, { on := 52, ground := Ground.data }, { on := 55, ground := Ground.data }], guard := none },
      { dst := none, op := Op.store 41 (Operand.tmp 2) (Operand.tmp 59), type := 0, pos := "list.go:205", after := #[{ on := 56, ground := Ground.data }, { on := 54, ground := Ground.chain }, { on := 0, ground := Ground.phase }, { on := 1, ground := Ground.phase }, { on := 2, ground := Ground.phase }, { on := 3, ground := Ground.phase }, { on := 4, ground := Ground.phase }, { on := 5, ground := Ground.phase }, { on := 6, ground := Ground.phase }, { on := 7, ground := Ground.phase }, { on := 8, ground := Ground.phase }, { on := 9, ground := Ground.phase }, { on := 10, ground := Ground.phase }, { on := 11, ground := Ground.phase }, { on := 12, ground := Ground.phase }, { on := 13, ground := Ground.phase }, { on := 14, ground := Ground.phase }, { on := 15, ground := Ground.phase }, { on := 16, ground := Ground.phase }, { on := 17, ground := Ground.phase }, { on := 18, ground := Ground.phase }, { on := 19, ground := Ground.phase }, { on := 20, ground := Ground.phase }, { on := 21, ground := Ground.phase }, { on := 22, ground := Ground.phase }, { on := 23, ground := Ground.phase }, { on := 24, ground := Ground.phase }, { on := 25, ground := Ground.phase }, { on := 26, ground := Ground.phase }, { on := 27, ground := Ground.phase }, { on := 28, ground := Ground.phase }, { on := 29, ground := Ground.phase }, { on := 30, ground := Ground.phase }, { on := 31, ground := Ground.phase }, { on := 32, ground := Ground.phase }, { on := 33, ground := Ground.phase }, { on := 34, ground := Ground.phase }, { on := 35, ground := Ground.phase }, { on := 36, ground := Ground.phase }, { on := 37, ground := Ground.phase }, { on := 38, ground := Ground.phase }, { on := 39, ground := Ground.phase }, { on := 40, ground := Ground.phase }, { on := 41, ground := Ground.phase }, { on := 42, ground := Ground.phase }, { on := 43, ground := Ground.phase }, { on := 44, ground := Ground.phase }, { on := 45, ground := Ground.phase }, { on := 46, ground := Ground.phase }, { on := 47, ground := Ground.phase }, { on := 48, ground := Ground.phase }, { on := 49, ground := Ground.phase }, { on := 50, ground := Ground.phase }, { on := 51, ground := Ground.phase }, { on := 52, ground := Ground.phase }, { on := 53, ground := Ground.phase }, { on := 54, ground := Ground.phase }, { on := 55, ground := Ground.phase }, { on := 56, ground := Ground.phase }], guard := none }] true).wp Tryd.prog Q a0 w := by
  refine wp_region_og1 (n := 60) 57 [Asr.eq (.pointer (some ⟨s.P, 0, none⟩)), Asr.eq (.pointer (some ⟨s.P, 0, none⟩)), Asr.eq (.pointer (some ⟨s.P, 0, none⟩)), Asr.eq (.float .f64 s.tgt), Asr.eq (.pointer (some ⟨s.P, 0, none⟩)), Asr.eq (.pointer (some ⟨s.P, 0, none⟩)), Asr.eq (.pointer (some ⟨s.P, 1, none⟩)), Asr.eq (.int .u64 0), Asr.eq (.pointer (some ⟨s.P, 0, none⟩)), Asr.any (fun v wx => Ptrs wx w.heap.size v (s.segs.map Sg.g)), Asr.any (SegOut w.heap.size s), Asr.eq (.pointer (some ⟨s.P, 0, none⟩)), Asr.eq (.pointer (some ⟨s.P, 0, none⟩)), Asr.eq (.pointer (some ⟨s.P, 3, none⟩)), Asr.eq (.string ⟨#[]⟩), Asr.eq (.pointer (some ⟨s.P, 0, none⟩)), Asr.eq (.pointer (some ⟨s.P, 0, none⟩)), Asr.eq (.pointer (some ⟨s.P, 4, none⟩)), Asr.eq (.bool s.ifr), Asr.eq (.pointer (some ⟨s.P, 0, none⟩)), Asr.eq (.pointer (some ⟨s.P, 0, none⟩)), Asr.eq (.pointer (some ⟨s.P, 5, none⟩)), Asr.eq (.bool false), Asr.eq (.pointer (some ⟨s.P, 0, none⟩)), Asr.eq (.pointer (some ⟨s.P, 0, none⟩)), Asr.eq (.pointer (some ⟨s.P, 6, none⟩)), Asr.eq (.int .u64 0), Asr.eq (.int .i64 0), Asr.eq (.pointer (some ⟨s.P, 0, none⟩)), Asr.eq (.pointer (some ⟨s.P, 0, none⟩)), Asr.eq (.pointer (some ⟨s.P, 7, none⟩)), Asr.eq (.int .u64 0), Asr.eq (.pointer (some ⟨s.P, 0, none⟩)), Asr.eq (.pointer (some ⟨s.P, 0, none⟩)), Asr.eq (.pointer (some ⟨s.P, 8, none⟩)), Asr.eq (.float .f64 0), Asr.eq (.pointer (some ⟨s.P, 0, none⟩)), Asr.eq (.pointer (some ⟨s.P, 0, none⟩)), Asr.eq (.pointer (some ⟨s.P, 9, none⟩)), Asr.eq (.bool false), Asr.eq (.pointer (some ⟨s.P, 0, none⟩)), Asr.eq (.int .u8 s.ver), Asr.eq (.int .i64 s.ver), Asr.eq (.pointer (some ⟨s.P, 0, none⟩)), Asr.eq (.pointer (some ⟨s.P, 0, none⟩)), Asr.eq (.pointer (some ⟨s.P, 21, none⟩)), Asr.eq (.pointer none), Asr.eq (.slice none 0 0), Asr.eq (.pointer (some ⟨s.P, 0, none⟩)), Asr.eq (.pointer (some ⟨s.P, 0, none⟩)), Asr.eq (.pointer (some ⟨s.P, 22, none⟩)), Asr.eq (.pointer none), Asr.eq (.slice none 0 0), Asr.eq (.pointer (some ⟨s.P, 0, none⟩)), Asr.eq (.int .u64 0), Asr.eq (.int .i64 0), Asr.any (MedAgg w.heap.size s)] (by kernel_rfl) (by kernel_rfl) (by kernel_rfl) (by simp) (by kernel_rfl) hsz ⟨fun i _ _ v w w2 _ ho hv => Own.below hv (ho.below (Nat.le_refl _) fun g _ h => h), fun i _ _ v w w2 _ ho ⟨A, cap, L, e, hO, hL, hT⟩ => ⟨A, cap, L, e, hO.below (ho.below (Nat.le_refl _) fun g _ h => h), hL, hT.keep fun oc v h => h.keep fun g hg => ho.block g hg (fun h => h)⟩, fun i _ _ v w w2 _ ho ⟨A, cap, L, e, hO, hL, hT⟩ => ⟨A, cap, L, e, hO.below (ho.below (Nat.le_refl _) fun g _ h => h), hL, hT.keep fun oc v h => h.keep fun g hg => ho.block g hg (fun h => h)⟩, trivial⟩ ?_ ?_
  · simp only [List.take_succ_cons, List.take_zero]
    refine ⟨?_, ?_, ?_, ?_, ?_, ?_, ?_, ?_, ?_, ?_, ?_, ?_, ?_, ?_, ?_, ?_, ?_, ?_, ?_, ?_, ?_, ?_, ?_, ?_, ?_, ?_, ?_, ?_, ?_, ?_, ?_, ?_, ?_, ?_, ?_, ?_, ?_, ?_, ?_, ?_, ?_, ?_, ?_, ?_, ?_, ?_, ?_, ?_, ?_, ?_, ?_, ?_, ?_, ?_, ?_, ?_, ?_, trivial⟩
    · intro a wx c
      have e0 : a.eval (.tmp 0) = .pointer (some ⟨s.P, 0, none⟩) := c.outE (by decide +kernel) h0
      clear c
      show Oper.wp _ _ _ _ _ _
      unfold Oper.wp
      simp only [execOp, resolve, e0]
      go_simp; try go_bits
      exact ⟨_, rfl, Only.refl _ _, rfl⟩
    · intro a wx c
      have e3 : a.eval (.tmp 3) = .pointer (some ⟨s.P, 0, none⟩) := c.slot 0 _ (by decide +kernel) rfl
      clear c
      show Oper.wp _ _ _ _ _ _
      unfold Oper.wp
      simp only [execOp, resolve, e3]
      go_simp; try go_bits
      exact ⟨_, rfl, Only.refl _ _, rfl⟩
    · intro a wx c
      have e4 : a.eval (.tmp 4) = .pointer (some ⟨s.P, 0, none⟩) := c.slot 1 _ (by decide +kernel) rfl
      clear c
      show Oper.wp _ _ _ _ _ _
      unfold Oper.wp
      simp only [execOp, resolve, e4]
      go_simp; try go_bits
      exact ⟨_, rfl, Only.refl _ _, rfl⟩
    · intro a wx c
      have e5 : a.eval (.tmp 5) = .pointer (some ⟨s.P, 0, none⟩) := c.slot 2 _ (by decide +kernel) rfl
      have hc := c.cell (p := ⟨s.P, 0, none⟩) (v := .float .f64 s.tgt) (cell_of_heap h.pl rfl) (fun _ h => h.elim)
      clear c
      show Oper.wp _ _ _ _ _ _
      unfold Oper.wp
      simp only [execOp, resolve, e5]
      go_simp; try go_bits
      exact ⟨_, rfl, Only.refl _ _, rfl⟩
    · intro a wx c
      have e0 : a.eval (.tmp 0) = .pointer (some ⟨s.P, 0, none⟩) := c.outE (by decide +kernel) h0
      clear c
      show Oper.wp _ _ _ _ _ _
      unfold Oper.wp
      simp only [execOp, resolve, e0]
      go_simp; try go_bits
      exact ⟨_, rfl, Only.refl _ _, rfl⟩
    · intro a wx c
      have e7 : a.eval (.tmp 7) = .pointer (some ⟨s.P, 0, none⟩) := c.slot 4 _ (by decide +kernel) rfl
      clear c
      show Oper.wp _ _ _ _ _ _
      unfold Oper.wp
      simp only [execOp, resolve, e7]
      go_simp; try go_bits
      exact ⟨_, rfl, Only.refl _ _, rfl⟩
    · intro a wx c
      have e8 : a.eval (.tmp 8) = .pointer (some ⟨s.P, 0, none⟩) := c.slot 5 _ (by decide +kernel) rfl
      clear c
      show Oper.wp _ _ _ _ _ _
      unfold Oper.wp
      simp only [execOp, resolve, e8]
      go_simp; try go_bits
      exact ⟨_, rfl, Only.refl _ _, rfl⟩
    · intro a wx c
      have e9 : a.eval (.tmp 9) = .pointer (some ⟨s.P, 1, none⟩) := c.slot 6 _ (by decide +kernel) rfl
      have hc := c.cell (p := ⟨s.P, 1, none⟩) (v := .int .u64 0) (cell_of_heap h.pl rfl) (fun _ h => h.elim)
      clear c
      show Oper.wp _ _ _ _ _ _
      unfold Oper.wp
      simp only [execOp, resolve, e9]
      go_simp; try go_bits
      exact ⟨_, rfl, Only.refl _ _, rfl⟩
    · intro a wx c
      have e0 : a.eval (.tmp 0) = .pointer (some ⟨s.P, 0, none⟩) := c.outE (by decide +kernel) h0
      clear c
      show Oper.wp _ _ _ _ _ _
      unfold Oper.wp
      simp only [execOp, resolve, e0]
      go_simp; try go_bits
      exact ⟨_, rfl, Only.refl _ _, rfl⟩
    · intro a wx c
      have e11 : a.eval (.tmp 11) = .pointer (some ⟨s.P, 0, none⟩) := c.slot 8 _ (by decide +kernel) rfl
      show Oper.wp _ _ _ _ _ _
      have hbx : Below w.heap.size w wx := ⟨c.only.os, c.only.tape, c.only.output, c.only.size, fun g hg => c.only.block g hg (fun ⟨_, h⟩ => h)⟩
      clear c
      unfold Oper.wp
      simp only [execOp, resolve, List.map_toArray, List.map_cons, List.map_nil, e11]
      go_simp
      refine (inOrder_any B s wx (h.below hbx)).mono ?_
      rintro e w' ⟨v, rfl, hv, hbl⟩
      exact ⟨_, rfl, Only.of_below hbl, hv.base hbx.size⟩
    · intro a wx c
      obtain p12 : (fun v wx => Ptrs wx w.heap.size v (s.segs.map Sg.g)) (a.eval (.tmp 12)) wx := c.slot 9 _ (by decide +kernel) rfl
      show Oper.wp _ _ _ _ _ _
      have hbx : Below w.heap.size w wx := ⟨c.only.os, c.only.tape, c.only.output, c.only.size, fun g hg => c.only.block g hg (fun ⟨_, h⟩ => h)⟩
      have q12 : Ptrs wx w.heap.size (a.eval (.tmp 12)) (s.segs.map Sg.g) := p12
      clear c p12
      obtain ⟨v12, e12⟩ : ∃ v, a.eval (.tmp 12) = v := ⟨_, rfl⟩
      rw [e12] at q12
      have hcl := segmentsOf_any B s v12 wx (h.below hbx) (q12.base (Nat.zero_le _)) hs
      unfold Oper.wp
      simp only [execOp, resolve, List.map_toArray, List.map_cons, List.map_nil, e12]
      clear e12 q12
      go_simp
      refine hcl.mono ?_
      rintro e w' ⟨out, L, rfl, hO, hL, hT, hbl⟩
      obtain ⟨A, cap, rfl, _⟩ := hO.shape
      rw [hL] at hO ⊢
      exact ⟨_, rfl, Only.of_below hbl, A, cap, L, rfl, hO.base hbx.size, hL, hT.base hbx.size⟩
    · intro a wx c
      have e0 : a.eval (.tmp 0) = .pointer (some ⟨s.P, 0, none⟩) := c.outE (by decide +kernel) h0
      clear c
      show Oper.wp _ _ _ _ _ _
      unfold Oper.wp
      simp only [execOp, resolve, e0]
      go_simp; try go_bits
      exact ⟨_, rfl, Only.refl _ _, rfl⟩
    · intro a wx c
      have e14 : a.eval (.tmp 14) = .pointer (some ⟨s.P, 0, none⟩) := c.slot 11 _ (by decide +kernel) rfl
      clear c
      show Oper.wp _ _ _ _ _ _
      unfold Oper.wp
      simp only [execOp, resolve, e14]
      go_simp; try go_bits
      exact ⟨_, rfl, Only.refl _ _, rfl⟩
    · intro a wx c
      have e15 : a.eval (.tmp 15) = .pointer (some ⟨s.P, 0, none⟩) := c.slot 12 _ (by decide +kernel) rfl
      clear c
      show Oper.wp _ _ _ _ _ _
      unfold Oper.wp
      simp only [execOp, resolve, e15]
      go_simp; try go_bits
      exact ⟨_, rfl, Only.refl _ _, rfl⟩
    · intro a wx c
      have e16 : a.eval (.tmp 16) = .pointer (some ⟨s.P, 3, none⟩) := c.slot 13 _ (by decide +kernel) rfl
      have hc := c.cell (p := ⟨s.P, 3, none⟩) (v := .string ⟨#[]⟩) (cell_of_heap h.pl rfl) (fun _ h => h.elim)
      clear c
      show Oper.wp _ _ _ _ _ _
      unfold Oper.wp
      simp only [execOp, resolve, e16]
      go_simp; try go_bits
      exact ⟨_, rfl, Only.refl _ _, rfl⟩
    · intro a wx c
      have e0 : a.eval (.tmp 0) = .pointer (some ⟨s.P, 0, none⟩) := c.outE (by decide +kernel) h0
      clear c
      show Oper.wp _ _ _ _ _ _
      unfold Oper.wp
      simp only [execOp, resolve, e0]
      go_simp; try go_bits
      exact ⟨_, rfl, Only.refl _ _, rfl⟩
    · intro a wx c
      have e18 : a.eval (.tmp 18) = .pointer (some ⟨s.P, 0, none⟩) := c.slot 15 _ (by decide +kernel) rfl
      clear c
      show Oper.wp _ _ _ _ _ _
      unfold Oper.wp
      simp only [execOp, resolve, e18]
      go_simp; try go_bits
      exact ⟨_, rfl, Only.refl _ _, rfl⟩
    · intro a wx c
      have e19 : a.eval (.tmp 19) = .pointer (some ⟨s.P, 0, none⟩) := c.slot 16 _ (by decide +kernel) rfl
      clear c
      show Oper.wp _ _ _ _ _ _
      unfold Oper.wp
      simp only [execOp, resolve, e19]
      go_simp; try go_bits
      exact ⟨_, rfl, Only.refl _ _, rfl⟩
    · intro a wx c
      have e20 : a.eval (.tmp 20) = .pointer (some ⟨s.P, 4, none⟩) := c.slot 17 _ (by decide +kernel) rfl
      have hc := c.cell (p := ⟨s.P, 4, none⟩) (v := .bool s.ifr) (cell_of_heap h.pl rfl) (fun _ h => h.elim)
      clear c
      show Oper.wp _ _ _ _ _ _
      unfold Oper.wp
      simp only [execOp, resolve, e20]
      go_simp; try go_bits
      exact ⟨_, rfl, Only.refl _ _, rfl⟩
    · intro a wx c
      have e0 : a.eval (.tmp 0) = .pointer (some ⟨s.P, 0, none⟩) := c.outE (by decide +kernel) h0
      clear c
      show Oper.wp _ _ _ _ _ _
      unfold Oper.wp
      simp only [execOp, resolve, e0]
      go_simp; try go_bits
      exact ⟨_, rfl, Only.refl _ _, rfl⟩
    · intro a wx c
      have e22 : a.eval (.tmp 22) = .pointer (some ⟨s.P, 0, none⟩) := c.slot 19 _ (by decide +kernel) rfl
      clear c
      show Oper.wp _ _ _ _ _ _
      unfold Oper.wp
      simp only [execOp, resolve, e22]
      go_simp; try go_bits
      exact ⟨_, rfl, Only.refl _ _, rfl⟩
    · intro a wx c
      have e23 : a.eval (.tmp 23) = .pointer (some ⟨s.P, 0, none⟩) := c.slot 20 _ (by decide +kernel) rfl
      clear c
      show Oper.wp _ _ _ _ _ _
      unfold Oper.wp
      simp only [execOp, resolve, e23]
      go_simp; try go_bits
      exact ⟨_, rfl, Only.refl _ _, rfl⟩
    · intro a wx c
      have e24 : a.eval (.tmp 24) = .pointer (some ⟨s.P, 5, none⟩) := c.slot 21 _ (by decide +kernel) rfl
      have hc := c.cell (p := ⟨s.P, 5, none⟩) (v := .bool false) (cell_of_heap h.pl rfl) (fun _ h => h.elim)
      clear c
      show Oper.wp _ _ _ _ _ _
      unfold Oper.wp
      simp only [execOp, resolve, e24]
      go_simp; try go_bits
      exact ⟨_, rfl, Only.refl _ _, rfl⟩
    · intro a wx c
      have e0 : a.eval (.tmp 0) = .pointer (some ⟨s.P, 0, none⟩) := c.outE (by decide +kernel) h0
      clear c
      show Oper.wp _ _ _ _ _ _
      unfold Oper.wp
      simp only [execOp, resolve, e0]
      go_simp; try go_bits
      exact ⟨_, rfl, Only.refl _ _, rfl⟩
    · intro a wx c
      have e26 : a.eval (.tmp 26) = .pointer (some ⟨s.P, 0, none⟩) := c.slot 23 _ (by decide +kernel) rfl
      clear c
      show Oper.wp _ _ _ _ _ _
      unfold Oper.wp
      simp only [execOp, resolve, e26]
      go_simp; try go_bits
      exact ⟨_, rfl, Only.refl _ _, rfl⟩
    · intro a wx c
      have e27 : a.eval (.tmp 27) = .pointer (some ⟨s.P, 0, none⟩) := c.slot 24 _ (by decide +kernel) rfl
      clear c
      show Oper.wp _ _ _ _ _ _
      unfold Oper.wp
      simp only [execOp, resolve, e27]
      go_simp; try go_bits
      exact ⟨_, rfl, Only.refl _ _, rfl⟩
    · intro a wx c
      have e28 : a.eval (.tmp 28) = .pointer (some ⟨s.P, 6, none⟩) := c.slot 25 _ (by decide +kernel) rfl
      have hc := c.cell (p := ⟨s.P, 6, none⟩) (v := .int .u64 0) (cell_of_heap h.pl rfl) (fun _ h => h.elim)
      clear c
      show Oper.wp _ _ _ _ _ _
      unfold Oper.wp
      simp only [execOp, resolve, e28]
      go_simp; try go_bits
      exact ⟨_, rfl, Only.refl _ _, rfl⟩
    · intro a wx c
      have e29 : a.eval (.tmp 29) = .int .u64 0 := c.slot 26 _ (by decide +kernel) rfl
      clear c
      show Oper.wp _ _ _ _ _ _
      unfold Oper.wp
      simp only [execOp, resolve, e29]
      go_simp; try go_bits
      exact ⟨_, rfl, Only.refl _ _, rfl⟩
    · intro a wx c
      have e0 : a.eval (.tmp 0) = .pointer (some ⟨s.P, 0, none⟩) := c.outE (by decide +kernel) h0
      clear c
      show Oper.wp _ _ _ _ _ _
      unfold Oper.wp
      simp only [execOp, resolve, e0]
      go_simp; try go_bits
      exact ⟨_, rfl, Only.refl _ _, rfl⟩
    · intro a wx c
      have e31 : a.eval (.tmp 31) = .pointer (some ⟨s.P, 0, none⟩) := c.slot 28 _ (by decide +kernel) rfl
      clear c
      show Oper.wp _ _ _ _ _ _
      unfold Oper.wp
      simp only [execOp, resolve, e31]
      go_simp; try go_bits
      exact ⟨_, rfl, Only.refl _ _, rfl⟩
    · intro a wx c
      have e32 : a.eval (.tmp 32) = .pointer (some ⟨s.P, 0, none⟩) := c.slot 29 _ (by decide +kernel) rfl
      clear c
      show Oper.wp _ _ _ _ _ _
      unfold Oper.wp
      simp only [execOp, resolve, e32]
      go_simp; try go_bits
      exact ⟨_, rfl, Only.refl _ _, rfl⟩
    · intro a wx c
      have e33 : a.eval (.tmp 33) = .pointer (some ⟨s.P, 7, none⟩) := c.slot 30 _ (by decide +kernel) rfl
      have hc := c.cell (p := ⟨s.P, 7, none⟩) (v := .int .u64 0) (cell_of_heap h.pl rfl) (fun _ h => h.elim)
      clear c
      show Oper.wp _ _ _ _ _ _
      unfold Oper.wp
      simp only [execOp, resolve, e33]
      go_simp; try go_bits
      exact ⟨_, rfl, Only.refl _ _, rfl⟩
    · intro a wx c
      have e0 : a.eval (.tmp 0) = .pointer (some ⟨s.P, 0, none⟩) := c.outE (by decide +kernel) h0
      clear c
      show Oper.wp _ _ _ _ _ _
      unfold Oper.wp
      simp only [execOp, resolve, e0]
      go_simp; try go_bits
      exact ⟨_, rfl, Only.refl _ _, rfl⟩
    · intro a wx c
      have e35 : a.eval (.tmp 35) = .pointer (some ⟨s.P, 0, none⟩) := c.slot 32 _ (by decide +kernel) rfl
      clear c
      show Oper.wp _ _ _ _ _ _
      unfold Oper.wp
      simp only [execOp, resolve, e35]
      go_simp; try go_bits
      exact ⟨_, rfl, Only.refl _ _, rfl⟩
    · intro a wx c
      have e36 : a.eval (.tmp 36) = .pointer (some ⟨s.P, 0, none⟩) := c.slot 33 _ (by decide +kernel) rfl
      clear c
      show Oper.wp _ _ _ _ _ _
      unfold Oper.wp
      simp only [execOp, resolve, e36]
      go_simp; try go_bits
      exact ⟨_, rfl, Only.refl _ _, rfl⟩
    · intro a wx c
      have e37 : a.eval (.tmp 37) = .pointer (some ⟨s.P, 8, none⟩) := c.slot 34 _ (by decide +kernel) rfl
      have hc := c.cell (p := ⟨s.P, 8, none⟩) (v := .float .f64 0) (cell_of_heap h.pl rfl) (fun _ h => h.elim)
      clear c
      show Oper.wp _ _ _ _ _ _
      unfold Oper.wp
      simp only [execOp, resolve, e37]
      go_simp; try go_bits
      exact ⟨_, rfl, Only.refl _ _, rfl⟩
    · intro a wx c
      have e0 : a.eval (.tmp 0) = .pointer (some ⟨s.P, 0, none⟩) := c.outE (by decide +kernel) h0
      clear c
      show Oper.wp _ _ _ _ _ _
      unfold Oper.wp
      simp only [execOp, resolve, e0]
      go_simp; try go_bits
      exact ⟨_, rfl, Only.refl _ _, rfl⟩
    · intro a wx c
      have e39 : a.eval (.tmp 39) = .pointer (some ⟨s.P, 0, none⟩) := c.slot 36 _ (by decide +kernel) rfl
      clear c
      show Oper.wp _ _ _ _ _ _
      unfold Oper.wp
      simp only [execOp, resolve, e39]
      go_simp; try go_bits
      exact ⟨_, rfl, Only.refl _ _, rfl⟩
    · intro a wx c
      have e40 : a.eval (.tmp 40) = .pointer (some ⟨s.P, 0, none⟩) := c.slot 37 _ (by decide +kernel) rfl
      clear c
      show Oper.wp _ _ _ _ _ _
      unfold Oper.wp
      simp only [execOp, resolve, e40]
      go_simp; try go_bits
      exact ⟨_, rfl, Only.refl _ _, rfl⟩
    · intro a wx c
      have e41 : a.eval (.tmp 41) = .pointer (some ⟨s.P, 9, none⟩) := c.slot 38 _ (by decide +kernel) rfl
      have hc := c.cell (p := ⟨s.P, 9, none⟩) (v := .bool false) (cell_of_heap h.pl rfl) (fun _ h => h.elim)
      clear c
      show Oper.wp _ _ _ _ _ _
      unfold Oper.wp
      simp only [execOp, resolve, e41]
      go_simp; try go_bits
      exact ⟨_, rfl, Only.refl _ _, rfl⟩
    · intro a wx c
      have e0 : a.eval (.tmp 0) = .pointer (some ⟨s.P, 0, none⟩) := c.outE (by decide +kernel) h0
      clear c
      show Oper.wp _ _ _ _ _ _
      unfold Oper.wp
      simp only [execOp, resolve, e0]
      go_simp; try go_bits
      exact ⟨_, rfl, Only.refl _ _, rfl⟩
    · intro a wx c
      have e43 : a.eval (.tmp 43) = .pointer (some ⟨s.P, 0, none⟩) := c.slot 40 _ (by decide +kernel) rfl
      have hc := c.cell (p := ⟨s.P, 20, none⟩) (v := .int .u8 s.ver) (cell_of_heap h.pl rfl) (fun _ h => h.elim)
      clear c
      show Oper.wp _ _ _ _ _ _
      unfold Oper.wp
      simp only [execOp, resolve, List.map_toArray, List.map_cons, List.map_nil, e43]
      go_simp
      refine (version_get s.P s.ver _ hc).mono ?_
      rintro e w' ⟨rfl, rfl⟩
      exact ⟨_, rfl, Only.refl _ _, rfl⟩
    · intro a wx c
      have e44 : a.eval (.tmp 44) = .int .u8 s.ver := c.slot 41 _ (by decide +kernel) rfl
      clear c
      show Oper.wp _ _ _ _ _ _
      unfold Oper.wp
      simp only [execOp, resolve, e44]
      go_simp; try go_bits
      exact ⟨_, rfl, Only.refl _ _, rfl⟩
    · intro a wx c
      have e0 : a.eval (.tmp 0) = .pointer (some ⟨s.P, 0, none⟩) := c.outE (by decide +kernel) h0
      clear c
      show Oper.wp _ _ _ _ _ _
      unfold Oper.wp
      simp only [execOp, resolve, e0]
      go_simp; try go_bits
      exact ⟨_, rfl, Only.refl _ _, rfl⟩
    · intro a wx c
      have e46 : a.eval (.tmp 46) = .pointer (some ⟨s.P, 0, none⟩) := c.slot 43 _ (by decide +kernel) rfl
      clear c
      show Oper.wp _ _ _ _ _ _
      unfold Oper.wp
      simp only [execOp, resolve, e46]
      go_simp; try go_bits
      exact ⟨_, rfl, Only.refl _ _, rfl⟩
    · intro a wx c
      have e47 : a.eval (.tmp 47) = .pointer (some ⟨s.P, 0, none⟩) := c.slot 44 _ (by decide +kernel) rfl
      clear c
      show Oper.wp _ _ _ _ _ _
      unfold Oper.wp
      simp only [execOp, resolve, e47]
      go_simp; try go_bits
      exact ⟨_, rfl, Only.refl _ _, rfl⟩
    · intro a wx c
      have e48 : a.eval (.tmp 48) = .pointer (some ⟨s.P, 21, none⟩) := c.slot 45 _ (by decide +kernel) rfl
      have hc := c.cell (p := ⟨s.P, 21, none⟩) (v := .pointer none) (cell_of_heap h.pl rfl) (fun _ h => h.elim)
      clear c
      show Oper.wp _ _ _ _ _ _
      unfold Oper.wp
      simp only [execOp, resolve, e48]
      go_simp; try go_bits
      exact ⟨_, rfl, Only.refl _ _, rfl⟩
    · intro a wx c
      have e49 : a.eval (.tmp 49) = .pointer none := c.slot 46 _ (by decide +kernel) rfl
      clear c
      show Oper.wp _ _ _ _ _ _
      unfold Oper.wp
      simp only [execOp, resolve, List.map_toArray, List.map_cons, List.map_nil, e49]
      go_simp
      refine (keyOf_nil _).mono ?_
      rintro e w' ⟨rfl, rfl⟩
      exact ⟨_, rfl, Only.refl _ _, rfl⟩
    · intro a wx c
      have e0 : a.eval (.tmp 0) = .pointer (some ⟨s.P, 0, none⟩) := c.outE (by decide +kernel) h0
      clear c
      show Oper.wp _ _ _ _ _ _
      unfold Oper.wp
      simp only [execOp, resolve, e0]
      go_simp; try go_bits
      exact ⟨_, rfl, Only.refl _ _, rfl⟩
    · intro a wx c
      have e51 : a.eval (.tmp 51) = .pointer (some ⟨s.P, 0, none⟩) := c.slot 48 _ (by decide +kernel) rfl
      clear c
      show Oper.wp _ _ _ _ _ _
      unfold Oper.wp
      simp only [execOp, resolve, e51]
      go_simp; try go_bits
      exact ⟨_, rfl, Only.refl _ _, rfl⟩
    · intro a wx c
      have e52 : a.eval (.tmp 52) = .pointer (some ⟨s.P, 0, none⟩) := c.slot 49 _ (by decide +kernel) rfl
      clear c
      show Oper.wp _ _ _ _ _ _
      unfold Oper.wp
      simp only [execOp, resolve, e52]
      go_simp; try go_bits
      exact ⟨_, rfl, Only.refl _ _, rfl⟩
    · intro a wx c
      have e53 : a.eval (.tmp 53) = .pointer (some ⟨s.P, 22, none⟩) := c.slot 50 _ (by decide +kernel) rfl
      have hc := c.cell (p := ⟨s.P, 22, none⟩) (v := .pointer none) (cell_of_heap h.pl rfl) (fun _ h => h.elim)
      clear c
      show Oper.wp _ _ _ _ _ _
      unfold Oper.wp
      simp only [execOp, resolve, e53]
      go_simp; try go_bits
      exact ⟨_, rfl, Only.refl _ _, rfl⟩
    · intro a wx c
      have e54 : a.eval (.tmp 54) = .pointer none := c.slot 51 _ (by decide +kernel) rfl
      clear c
      show Oper.wp _ _ _ _ _ _
      unfold Oper.wp
      simp only [execOp, resolve, List.map_toArray, List.map_cons, List.map_nil, e54]
      go_simp
      refine (mapOf_nil _).mono ?_
      rintro e w' ⟨rfl, rfl⟩
      exact ⟨_, rfl, Only.refl _ _, rfl⟩
    · intro a wx c
      have e0 : a.eval (.tmp 0) = .pointer (some ⟨s.P, 0, none⟩) := c.outE (by decide +kernel) h0
      clear c
      show Oper.wp _ _ _ _ _ _
      unfold Oper.wp
      simp only [execOp, resolve, e0]
      go_simp; try go_bits
      exact ⟨_, rfl, Only.refl _ _, rfl⟩
    · intro a wx c
      have e56 : a.eval (.tmp 56) = .pointer (some ⟨s.P, 0, none⟩) := c.slot 53 _ (by decide +kernel) rfl
      have hc := c.cell (p := ⟨s.P, 12, none⟩) (v := .int .u64 0) (cell_of_heap h.pl rfl) (fun _ h => h.elim)
      clear c
      show Oper.wp _ _ _ _ _ _
      unfold Oper.wp
      simp only [execOp, resolve, List.map_toArray, List.map_cons, List.map_nil, e56]
      go_simp
      refine (winsize_get s.P _ hc).mono ?_
      rintro e w' ⟨rfl, rfl⟩
      exact ⟨_, rfl, Only.refl _ _, rfl⟩
    · intro a wx c
      have e57 : a.eval (.tmp 57) = .int .u64 0 := c.slot 54 _ (by decide +kernel) rfl
      clear c
      show Oper.wp _ _ _ _ _ _
      unfold Oper.wp
      simp only [execOp, resolve, e57]
      go_simp; try go_bits
      exact ⟨_, rfl, Only.refl _ _, rfl⟩
    · intro a wx c
      have e6 : a.eval (.tmp 6) = .float .f64 s.tgt := c.slot 3 _ (by decide +kernel) rfl
      have e10 : a.eval (.tmp 10) = .int .u64 0 := c.slot 7 _ (by decide +kernel) rfl
      obtain p13 : (SegOut w.heap.size s) (a.eval (.tmp 13)) wx := c.slot 10 _ (by decide +kernel) rfl
      have e17 : a.eval (.tmp 17) = .string ⟨#[]⟩ := c.slot 14 _ (by decide +kernel) rfl
      have e21 : a.eval (.tmp 21) = .bool s.ifr := c.slot 18 _ (by decide +kernel) rfl
      have e25 : a.eval (.tmp 25) = .bool false := c.slot 22 _ (by decide +kernel) rfl
      have e30 : a.eval (.tmp 30) = .int .i64 0 := c.slot 27 _ (by decide +kernel) rfl
      have e34 : a.eval (.tmp 34) = .int .u64 0 := c.slot 31 _ (by decide +kernel) rfl
      have e38 : a.eval (.tmp 38) = .float .f64 0 := c.slot 35 _ (by decide +kernel) rfl
      have e42 : a.eval (.tmp 42) = .bool false := c.slot 39 _ (by decide +kernel) rfl
      have e45 : a.eval (.tmp 45) = .int .i64 s.ver := c.slot 42 _ (by decide +kernel) rfl
      have e50 : a.eval (.tmp 50) = .slice none 0 0 := c.slot 47 _ (by decide +kernel) rfl
      have e55 : a.eval (.tmp 55) = .slice none 0 0 := c.slot 52 _ (by decide +kernel) rfl
      have e58 : a.eval (.tmp 58) = .int .i64 0 := c.slot 55 _ (by decide +kernel) rfl
      clear c
      show Oper.wp _ _ _ _ _ _
      obtain ⟨A, cap, L, e13, hO, hL, hT⟩ := p13
      unfold Oper.wp
      simp only [execOp, List.map_toArray, List.map_cons, List.map_nil, e6, e10, e13, e17, e21, e25, e30, e34, e38, e42, e45, e50, e55, e58]
      go_simp
      exact ⟨_, rfl, Only.refl _ _, A, cap, L, rfl, hO, hL, hT⟩
  · intro a1 w1 c hbl
    have r2 : a1.eval (.tmp 2) = .pointer (some ⟨b, 0, none⟩) := by
      exact c.outE (by kernel_rfl) h2
    obtain ⟨A, cap, L, r59, hO, hL, hT⟩ : MedAgg w.heap.size s (a1.eval (.tmp 59)) w1 := c.slot 56 _ (by decide) rfl
    have ha := frame_head c [3, 4, 5, 6, 7, 8, 9, 10, 11, 12, 13, 14, 15, 16, 17, 18, 19, 20, 21, 22, 23, 24, 25, 26, 27, 28, 29, 30, 31, 32, 33, 34, 35, 36, 37, 38, 39, 40, 41, 42, 43, 44, 45, 46, 47, 48, 49, 50, 51, 52, 53, 54, 55, 56, 57, 58, 59] (by kernel_rfl)
    have hsz1 := c.size
    clear c
    simp only [List.drop_succ_cons, List.drop_zero]
    have hb1 := (hbl.block b (Array.getElem?_eq_some_iff.1 hb).1).trans hb
    refine arm_store_blk 41 Tryd.isAgg41 Tryd.sizeOf41 (g := b) (cs := medc s A s.segs.length cap) r2 r59 hb1 rfl hold med_one ?_
    intro w2 hm ho2
    refine wpList_nil ?_
    rw [ha]
    refine hK _ _ _ _ _ _ _ _ _ _ _ _ _ _ _ _ _ _ _ _ _ _ _ _ _ _ _ _ _ _ _ _ _ _ _ _ _ _ _ _ _ _ _ _ _ _ _ _ _ _ _ _ _ _ _ _ _ A cap L w2 hm (hO.only ho2 fun g hg e => ?_) hL (hT.keep fun oc v h => h.only1 hb1 (by decide) ho2) (((Only.of_below (M := fun g => g = b) hbl).trans ho2).mono fun g _ h => h.elim (fun x => x) (fun x => x))
    exact hO.ne_blk hb1 (by decide) (e ▸ hg)
set_option maxRecDepth 100000 in
set_option maxHeartbeats 8000000 in
theorem mediaOf_any (B : Nat) (s : Pl) (w : World) (h : PlAt B s w) (hv : s.ver < 256) (hs : ∀ x ∈ s.segs, ∀ k c, x.sc = some (k, c) → c.syn < 100 ∧ c.typ < 100) : Calls Tryd.prog 12 #[.pointer (some ⟨s.P, 0, none⟩)] w (fun e w' => ∃ A cap L, e = .returned (.agg (medc s A s.segs.length cap)) ∧ Own Os.list 31 11 w' w.heap.size (.slice A s.segs.length cap) L ∧ L.length = s.segs.length ∧ Told w.heap.size s.segs L w' ∧ Below w.heap.size w w') := by
  go_enter Tryd.func12, Tryd.ntmps12
  have hal : Below w.heap.size w (w.alloc (Obj.cells #[.float .f64 0, .int .u64 0, .slice none 0 0, .string ⟨#[]⟩, .bool false, .bool false, .int .i64 0, .int .u64 0, .float .f64 0, .bool false, .int .i64 0, .slice none 0 0, .slice none 0 0, .int .i64 0] 41)) := (Below.refl _ _).alloc (Nat.le_refl _) _
  go_upto_region 1 with fail
  refine med_reg (b := w.heap.size) (B := B) (s := s) ?_ ?_ ?_ (h.below hal) hv hs (heap_alloc_new _ _) rfl ?_
  · rfl
  · rfl
  · rfl
  intro y3 y4 y5 y6 y7 y8 y9 y10 y11 y12 y13 y14 y15 y16 y17 y18 y19 y20 y21 y22 y23 y24 y25 y26 y27 y28 y29 y30 y31 y32 y33 y34 y35 y36 y37 y38 y39 y40 y41 y42 y43 y44 y45 y46 y47 y48 y49 y50 y51 y52 y53 y54 y55 y56 y57 y58 y59 A cap L w' hm hO hL hT ho
  go_frame
  go_wp2
  refine bodyPost_ret (ret_cell Tryd.isAgg41 Tryd.sizeOf41 rfl rfl hm rfl) rfl ?_
  have hsz := hal.size
  exact ⟨A, cap, L, rfl, hO.base hsz, hL, hT.base hsz, hal.trans (ho.below hsz fun g hg e => by omega)⟩
end Go.Proofs.YtbehijhpichniaaDoor
