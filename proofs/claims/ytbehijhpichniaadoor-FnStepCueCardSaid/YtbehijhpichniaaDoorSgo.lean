/- The region of impl.segmentsOf that appends a segment; impl.keyOf, impl.mapOf, impl.cueOf. -/
import Derived.Test.YtbehijhpichniaaDoorIno
import Derived.Test.YtbehijhpichniaaDoorSto
namespace Go.Proofs.YtbehijhpichniaaDoor
open Go.RowKit
theorem keyOf_nil (w : World) : Calls Tryd.prog 33 #[.pointer none] w (fun e w' => e = .returned (.slice none 0 0) ∧ w' = w) := by
  go_enter Tryd.func33, Tryd.ntmps33
  go_wp2
  go_ret
  exact ⟨rfl, rfl⟩
theorem mapOf_nil (w : World) : Calls Tryd.prog 34 #[.pointer none] w (fun e w' => e = .returned (.slice none 0 0) ∧ w' = w) := by
  go_enter Tryd.func34, Tryd.ntmps34
  go_wp2
  go_ret
  exact ⟨rfl, rfl⟩
theorem cueOf_nil (w : World) : Calls Tryd.prog 47 #[.pointer none] w (fun e w' => e = .returned (.slice none 0 0) ∧ w' = w) := by
  go_enter Tryd.func47, Tryd.ntmps47
  go_wp2
  go_ret
  exact ⟨rfl, rfl⟩
set_option maxRecDepth 100000 in
set_option maxHeartbeats 4000000 in
theorem cueOf_some (cu : Cu) (k : Nat) (w : World) (hk : w.heap[k]? = some (.cells cu.scte 120 (0, 0))) (hs : cu.syn < 100 ∧ cu.typ < 100) : Calls Tryd.prog 47 #[.pointer (some ⟨k, 0, none⟩)] w (fun e w' => ∃ g, e = .returned (.slice (some ⟨g, 0, none⟩) 1 1) ∧ w.heap.size ≤ g ∧ w'.heap[g]? = some (.cells cu.list.toArray 46 (0, 0)) ∧ Below w.heap.size w w') := by
  obtain ⟨hs1, hs2⟩ := hs
  have c0 : w.cell? ⟨k, 0, none⟩ = some (.int .u64 cu.syn) := cell_of_heap hk rfl
  have c1 : w.cell? ⟨k, 1, none⟩ = some (.int .u64 cu.typ) := cell_of_heap hk rfl
  have c2 : w.cell? ⟨k, 2, none⟩ = some (.string cu.cue) := cell_of_heap hk rfl
  have c3 : w.cell? ⟨k, 3, none⟩ = some (.string cu.id) := cell_of_heap hk rfl
  have c4 : w.cell? ⟨k, 4, none⟩ = some (.float .f64 cu.tm) := cell_of_heap hk rfl
  have c5 : w.cell? ⟨k, 5, none⟩ = some (.float .f64 cu.el) := cell_of_heap hk rfl
  clear hk
  go_enter Tryd.func47, Tryd.ntmps47
  go_upto_region 3 with fail
  go_still_tail 27, (by kernel_rfl)
  change wpList _ _ _ _ _ w.drew
  have hb : Below w.heap.size w w.drew := (Below.refl _ _).drew
  have hsz : w.heap.size = w.drew.heap.size := rfl
  generalize w.drew = w2 at *
  clear c0 c1 c2 c3 c4 c5
  go_wp2
  go_ret
  exact ⟨_, rfl, Nat.le_of_eq hsz, heap_alloc_new _ _, hb.alloc (Nat.le_of_eq hsz) _⟩
/-- A segment as it is told: its place, what it is, its cues. -/
structure Os where
  j : Nat
  x : Sg
  cv : Value
def Os.list (o : Os) : List Value := [.int .u64 o.j, .string ⟨#[]⟩, .string o.x.uri, .float .f64 4607182418800017408, .int .i64 o.x.lim, .int .i64 o.x.off, .slice none 0 0, .slice none 0 0, .slice (match o.cv with | .slice a _ _ => a | _ => none) (match o.cv with | .slice _ n _ => n | _ => 0) (match o.cv with | .slice _ _ m => m | _ => 0), .bool false, .string ⟨#[]⟩]
/-- Cues that are new: none, or one in a block from B on. -/
def CuesNew (oc : Option Cu) (B : Nat) (v : Value) (w : World) : Prop := match oc with
  | none => v = .slice none 0 0
  | some c => ∃ g, B ≤ g ∧ v = .slice (some ⟨g, 0, none⟩) 1 1 ∧ w.heap[g]? = some (.cells c.list.toArray 46 (0, 0))
theorem CuesNew.keep {oc : Option Cu} {B : Nat} {v : Value} {w w' : World} (h : CuesNew oc B v w) (hh : ∀ g, g < w.heap.size → w'.heap[g]? = w.heap[g]?) : CuesNew oc B v w' := by
  cases oc with
  | none => exact h
  | some c =>
    obtain ⟨g, hB, hv, hg⟩ := h
    exact ⟨g, hB, hv, (hh g (Array.getElem?_eq_some_iff.1 hg).1).trans hg⟩
def OsAgg (B j : Nat) (x : Sg) (oc : Option Cu) (v : Value) (w : World) : Prop := ∃ cv, CuesNew oc B cv w ∧ v = .agg (Os.list ⟨j, x, cv⟩).toArray
def OsLaid (B j : Nat) (x : Sg) (oc : Option Cu) (v : Value) (w : World) : Prop := ∃ q cv, B ≤ q ∧ v = .slice (some ⟨q, 0, none⟩) 1 1 ∧ w.heap[q]? = some (.cells (Os.list ⟨j, x, cv⟩).toArray 31 (0, 0)) ∧ CuesNew oc B cv w
theorem os_one : ∀ (o : Os), ∀ u ∈ o.list, u.oneCell' = true := by
  intro o u hu
  simp only [Os.list, List.mem_cons, List.not_mem_nil, or_false] at hu
  rcases hu with rfl | rfl | rfl | rfl | rfl | rfl | rfl | rfl | rfl | rfl | rfl <;> rfl
theorem info_os : (Tryd.prog.info? 31).map (fun i => (i.zero, i.size, i.bytes)) = some (some (.agg #[.int .u64 0, .string ⟨#[]⟩, .string ⟨#[]⟩, .float .f64 0, .int .i64 0, .int .i64 0, .slice none 0 0, .slice none 0 0, .slice none 0 0, .bool false, .string ⟨#[]⟩]), 11, 160) := by kernel_rfl
set_option maxRecDepth 100000 in
set_option maxHeartbeats 8000000 in
theorem sgo_none {id : Nat} {a0 : Act} {w : World} {Q : Exit → Act → World → Prop} {b j B : Nat} {x : Sg} {out : Value} {L : List Os} (hsz : a0.tmps.size = 67) (h3 : a0.eval (.tmp 3) = out) (h5 : a0.eval (.tmp 5) = .pointer (some ⟨b, 0, none⟩)) (hb : w.heap[b]? = some (.cells (x.cells j) 65 (0, 0))) (hown : Own Os.list 31 11 w B out L) (hB : B ≤ w.heap.size) (hL : L.length ≤ 1000) (hsc : x.sc = none)
    (hK : ∀ (y14 y15 y16 y17 y18 y19 y20 y21 y22 y23 y24 y25 y26 y27 y28 y29 y30 y31 y32 y33 y34 y35 y36 y37 y38 y39 y40 y41 y42 y43 y44 y45 y46 y47 y48 y49 y50 y51 y52 y53 y54 y55 y56 y57 y58 y59 y60 y61 y62 y63 : Value) (v2 cv : Value) (w1 w' : World), Own Os.list 31 11 w' B v2 (L ++ [⟨j, x, cv⟩]) → CuesNew none w.heap.size cv w1 → Below w.heap.size w w1 → Own Os.list 31 11 w1 B out L → Only (fun g => out.ownBlock = some g) w1 w' → Q .normal ((((((((((((((((((((((((((((((((((((((((((((((((((((a0.put (some 14) y14).put (some 15) y15).put (some 16) y16).put (some 17) y17).put (some 18) y18).put (some 19) y19).put (some 20) y20).put (some 21) y21).put (some 22) y22).put (some 23) y23).put (some 24) y24).put (some 25) y25).put (some 26) y26).put (some 27) y27).put (some 28) y28).put (some 29) y29).put (some 30) y30).put (some 31) y31).put (some 32) y32).put (some 33) y33).put (some 34) y34).put (some 35) y35).put (some 36) y36).put (some 37) y37).put (some 38) y38).put (some 39) y39).put (some 40) y40).put (some 41) y41).put (some 42) y42).put (some 43) y43).put (some 44) y44).put (some 45) y45).put (some 46) y46).put (some 47) y47).put (some 48) y48).put (some 49) y49).put (some 50) y50).put (some 51) y51).put (some 52) y52).put (some 53) y53).put (some 54) y54).put (some 55) y55).put (some 56) y56).put (some 57) y57).put (some 58) y58).put (some 59) y59).put (some 60) y60).put (some 61) y61).put (some 62) y62).put (some 63) y63).put (some 64) v2).put (some 3) v2) w') :
    (Code.region id #[{ dst := some 14, op := Op.move (Operand.tmp 3), type := 39, pos := "list.go:187", after := #[], guard := none },
      { dst := some 15, op := Op.move (Operand.tmp 5), type := 60, pos := "list.go:187", after := #[], guard := none },
      { dst := some 16, op := Op.nilCheck (Operand.tmp 15), type := 0, pos := "list.go:187", after := #[{ on := 1, ground := Ground.data }], guard := none },
      { dst := some 17, op := Op.fieldAddr 65 (Operand.tmp 16) 0, type := 0, pos := "list.go:187", after := #[{ on := 2, ground := Ground.data }], guard := none },
      { dst := some 18, op := Op.load 25 (Operand.tmp 17), type := 25, pos := "list.go:187", after := #[{ on := 3, ground := Ground.data }], guard := none },
      { dst := some 19, op := Op.move (Operand.tmp 5), type := 60, pos := "list.go:187", after := #[], guard := none },
      { dst := some 20, op := Op.nilCheck (Operand.tmp 19), type := 0, pos := "list.go:187", after := #[{ on := 5, ground := Ground.data }], guard := none },
      { dst := some 21, op := Op.fieldAddr 65 (Operand.tmp 20) 1, type := 0, pos := "list.go:187", after := #[{ on := 6, ground := Ground.data }], guard := none },
      { dst := some 22, op := Op.load 9 (Operand.tmp 21), type := 9, pos := "list.go:187", after := #[{ on := 7, ground := Ground.data }], guard := none },
      { dst := some 23, op := Op.move (Operand.tmp 5), type := 60, pos := "list.go:187", after := #[], guard := none },
      { dst := some 24, op := Op.nilCheck (Operand.tmp 23), type := 0, pos := "list.go:187", after := #[{ on := 9, ground := Ground.data }], guard := none },
      { dst := some 25, op := Op.fieldAddr 65 (Operand.tmp 24) 2, type := 0, pos := "list.go:187", after := #[{ on := 10, ground := Ground.data }], guard := none },
      { dst := some 26, op := Op.load 9 (Operand.tmp 25), type := 9, pos := "list.go:187", after := #[{ on := 11, ground := Ground.data }], guard := none },
      { dst := some 27, op := Op.move (Operand.tmp 5), type := 60, pos := "list.go:187", after := #[], guard := none },
      { dst := some 28, op := Op.nilCheck (Operand.tmp 27), type := 0, pos := "list.go:187", after := #[{ on := 13, ground := Ground.data }], guard := none },
      { dst := some 29, op := Op.fieldAddr 65 (Operand.tmp 28) 3, type := 0, pos := "list.go:187", after := #[{ on := 14, ground := Ground.data }], guard := none },
      { dst := some 30, op := Op.load 26 (Operand.tmp 29), type := 26, pos := "list.go:187", after := #[{ on := 15, ground := Ground.data }], guard := none },
      { dst := some 31, op := Op.move (Operand.tmp 5), type := 60, pos := "list.go:187", after := #[], guard := none },
      { dst := some 32, op := Op.nilCheck (Operand.tmp 31), type := 0, pos := "list.go:187", after := #[{ on := 17, ground := Ground.data }], guard := none },
      { dst := some 33, op := Op.fieldAddr 65 (Operand.tmp 32) 4, type := 0, pos := "list.go:187", after := #[{ on := 18, ground := Ground.data }], guard := none },
      { dst := some 34, op := Op.load 2 (Operand.tmp 33), type := 2, pos := "list.go:187", after := #[{ on := 19, ground := Ground.data }], guard := none },
      { dst := some 35, op := Op.move (Operand.tmp 5), type := 60, pos := "list.go:187", after := #[], guard := none },
      { dst := some 36, op := Op.nilCheck (Operand.tmp 35), type := 0, pos := "list.go:187", after := #[{ on := 21, ground := Ground.data }], guard := none },
      { dst := some 37, op := Op.fieldAddr 65 (Operand.tmp 36) 5, type := 0, pos := "list.go:187", after := #[{ on := 22, ground := Ground.data }], guard := none },
      { dst := some 38, op := Op.load 2 (Operand.tmp 37), type := 2, pos := "list.go:187", after := #[{ on := 23, ground := Ground.data }], guard := none },
      { dst := some 39, op := Op.move (Operand.tmp 5), type := 60, pos := "list.go:187", after := #[], guard := none },
      { dst := some 40, op := Op.nilCheck (Operand.tmp 39), type := 0, pos := "list.go:187", after := #[{ on := 25, ground := Ground.data }], guard := none },
      { dst := some 41, op := Op.fieldAddr 65 (Operand.tmp 40) 6, type := 0, pos := "list.go:187", after := #[{ on := 26, ground := Ground.data }], guard := none },
      { dst := some 42, op := Op.load 61 (Operand.tmp 41), type := 61, pos := "list.go:187", after := #[{ on := 27, ground := Ground.data }], guard := none },
      { dst := some 43, op := Op.call { callee := Callee.value (Operand.func 33), args := #[Operand.tmp 42], argTypes := #[61] }, type := 27, pos := "list.go:188", after := #[{ on := 28, ground := Ground.data }], guard := none },
      { dst := some 44, op := Op.move (Operand.tmp 5), type := 60, pos := "list.go:187", after := #[], guard := none },
      { dst := some 45, op := Op.nilCheck (Operand.tmp 44), type := 0, pos := "list.go:187", after := #[{ on := 30, ground := Ground.data }], guard := none },
      { dst := some 46, op := Op.fieldAddr 65 (Operand.tmp 45) 7, type := 0, pos := "list.go:187", after := #[{ on := 31, ground := Ground.data }], guard := none },
      { dst := some 47, op := Op.load 62 (Operand.tmp 46), type := 62, pos := "list.go:187", after := #[{ on := 32, ground := Ground.data }], guard := none },
      { dst := some 48, op := Op.call { callee := Callee.value (Operand.func 34), args := #[Operand.tmp 47], argTypes := #[62] }, type := 28, pos := "list.go:188", after := #[{ on := 33, ground := Ground.data }, { on := 29, ground := Ground.chain }], guard := none },
      { dst := some 49, op := Op.move (Operand.tmp 5), type := 60, pos := "list.go:187", after := #[], guard := none },
      { dst := some 50, op := Op.nilCheck (Operand.tmp 49), type := 0, pos := "list.go:187", after := #[{ on := 35, ground := Ground.data }], guard := none },
      { dst := some 51, op := Op.fieldAddr 65 (Operand.tmp 50) 9, type := 0, pos := "list.go:187", after := #[{ on := 36, ground := Ground.data }], guard := none },
      { dst := some 52, op := Op.load 63 (Operand.tmp 51), type := 63, pos := "list.go:187", after := #[{ on := 37, ground := Ground.data }], guard := none },
      { dst := some 53, op := Op.call { callee := Callee.value (Operand.func 47), args := #[Operand.tmp 52], argTypes := #[63] }, type := 29, pos := "list.go:188", after := #[{ on := 38, ground := Ground.data }, { on := 34, ground := Ground.chain }], guard := none },
      { dst := some 54, op := Op.move (Operand.tmp 5), type := 60, pos := "list.go:187", after := #[], guard := none },
      { dst := some 55, op := Op.nilCheck (Operand.tmp 54), type := 0, pos := "list.go:187", after := #[{ on := 40, ground := Ground.data }], guard := none },
      { dst := some 56, op := Op.fieldAddr 65 (Operand.tmp 55) 8, type := 0, pos := "list.go:187", after := #[{ on := 41, ground := Ground.data }], guard := none },
      { dst := some 57, op := Op.load 4 (Operand.tmp 56), type := 4, pos := "list.go:187", after := #[{ on := 42, ground := Ground.data }], guard := none },
      { dst := some 58, op := Op.move (Operand.tmp 5), type := 60, pos := "list.go:187", after := #[], guard := none },
      { dst := some 59, op := Op.nilCheck (Operand.tmp 58), type := 0, pos := "list.go:187", after := #[{ on := 44, ground := Ground.data }], guard := none },
      { dst := some 60, op := Op.fieldAddr 65 (Operand.tmp 59) 10, type := 0, pos := "list.go:187", after := #[{ on := 45, ground := Ground.data }], guard := none },
      { dst := some 61, op := Op.load 9 (Operand.tmp 60), type := 9, pos := "list.go:187", after := #[{ on := 46, ground := Ground.data }], guard := none },
      { dst := some 62, op := Op.build 31 #[(0, Operand.tmp 18), (1, Operand.tmp 22), (2, Operand.tmp 26), (3, Operand.tmp 30), (4, Operand.tmp 34), (5, Operand.tmp 38), (6, Operand.tmp 43), (7, Operand.tmp 48), (8, Operand.tmp 53), (9, Operand.tmp 57), (10, Operand.tmp 61)], type := 31, pos := "list.go:187", after := #[{ on := 4, ground := Ground.data }, { on := 8, ground := Ground.data }, { on := 12, ground := Ground.data }, { on := 16, ground := Ground.data }, { on := 20, ground := Ground.data }, { on := 24, ground := Ground.data }, { on := 29, ground := Ground.data }, { on := 34, ground := Ground.data }, { on := 39, ground := Ground.data }, { on := 43, ground := Ground.data }, { on := 47, ground := Ground.data }], guard := none },
      { dst := some 63, op := Op.buildSlice 39 1 #[(0, Operand.tmp 62)], type := 39, pos := "list.go:187", after := #[{ on := 48, ground := Ground.data }], guard := none },
      { dst := some 64, op := Op.call { callee := Callee.builtin Builtin.append, args := #[Operand.tmp 14, Operand.tmp 63], argTypes := #[39, 39] }, type := 39, pos := "list.go:187", after := #[{ on := 0, ground := Ground.data }, { on := 49, ground := Ground.data }, { on := 39, ground := Ground.chain }], guard := none },
      { dst := some 3, op := Op.assign (Operand.tmp 64), type := 39, pos := "list.go:187", after := #[{ on := 50, ground := Ground.data }, { on := 50, ground := Ground.chain }, { on := 0, ground := Ground.phase }, { on := 1, ground := Ground.phase }, { on := 2, ground := Ground.phase }, { on := 3, ground := Ground.phase }, { on := 4, ground := Ground.phase }, { on := 5, ground := Ground.phase }, { on := 6, ground := Ground.phase }, { on := 7, ground := Ground.phase }, { on := 8, ground := Ground.phase }, { on := 9, ground := Ground.phase }, { on := 10, ground := Ground.phase }, { on := 11, ground := Ground.phase }, { on := 12, ground := Ground.phase }, { on := 13, ground := Ground.phase }, { on := 14, ground := Ground.phase }, { on := 15, ground := Ground.phase }, { on := 16, ground := Ground.phase }, { on := 17, ground := Ground.phase }, { on := 18, ground := Ground.phase }, { on := 19, ground := Ground.phase }, { on := 20, ground := Ground.phase }, { on := 21, ground := Ground.phase }, { on := 22, ground := Ground.phase }, { on := 23, ground := Ground.phase }, { on := 24, ground := Ground.phase }, { on := 25, ground := Ground.phase }, { on := 26, ground := Ground.phase }, { on := 27, ground := Ground.phase }, { on := 28, ground := Ground.phase }, { on := 29, ground := Ground.phase }, { on := 30, ground := Ground.phase }, { on := 31, ground := Ground.phase }, { on := 32, ground := Ground.phase }, { on := 33, ground := Ground.phase }, { on := 34, ground := Ground.phase }, { on := 35, ground := Ground.phase }, { on := 36, ground := Ground.phase }, { on := 37, ground := Ground.phase }, { on := 38, ground := Ground.phase }, { on := 39, ground := Ground.phase }, { on := 40, ground := Ground.phase }, { on := 41, ground := Ground.phase }, { on := 42, ground := Ground.phase }, { on := 43, ground := Ground.phase }, { on := 44, ground := Ground.phase }, { on := 45, ground := Ground.phase }, { on := 46, ground := Ground.phase }, { on := 47, ground := Ground.phase }, { on := 48, ground := Ground.phase }, { on := 49, ground := Ground.phase }, { on := 50, ground := Ground.phase }], guard := none }] true).wp Tryd.prog Q a0 w := by
  obtain ⟨iP, hiP, hzP, hsP, hbP⟩ := info_parts info_os
  refine wp_region_og1 (n := 67) 50 [Asr.eq (out), Asr.eq (.pointer (some ⟨b, 0, none⟩)), Asr.eq (.pointer (some ⟨b, 0, none⟩)), Asr.eq (.pointer (some ⟨b, 0, none⟩)), Asr.eq (.int .u64 j), Asr.eq (.pointer (some ⟨b, 0, none⟩)), Asr.eq (.pointer (some ⟨b, 0, none⟩)), Asr.eq (.pointer (some ⟨b, 1, none⟩)), Asr.eq (.string ⟨#[]⟩), Asr.eq (.pointer (some ⟨b, 0, none⟩)), Asr.eq (.pointer (some ⟨b, 0, none⟩)), Asr.eq (.pointer (some ⟨b, 2, none⟩)), Asr.eq (.string x.uri), Asr.eq (.pointer (some ⟨b, 0, none⟩)), Asr.eq (.pointer (some ⟨b, 0, none⟩)), Asr.eq (.pointer (some ⟨b, 3, none⟩)), Asr.eq (.float .f64 4607182418800017408), Asr.eq (.pointer (some ⟨b, 0, none⟩)), Asr.eq (.pointer (some ⟨b, 0, none⟩)), Asr.eq (.pointer (some ⟨b, 4, none⟩)), Asr.eq (.int .i64 x.lim), Asr.eq (.pointer (some ⟨b, 0, none⟩)), Asr.eq (.pointer (some ⟨b, 0, none⟩)), Asr.eq (.pointer (some ⟨b, 5, none⟩)), Asr.eq (.int .i64 x.off), Asr.eq (.pointer (some ⟨b, 0, none⟩)), Asr.eq (.pointer (some ⟨b, 0, none⟩)), Asr.eq (.pointer (some ⟨b, 6, none⟩)), Asr.eq (.pointer none), Asr.eq (.slice none 0 0), Asr.eq (.pointer (some ⟨b, 0, none⟩)), Asr.eq (.pointer (some ⟨b, 0, none⟩)), Asr.eq (.pointer (some ⟨b, 7, none⟩)), Asr.eq (.pointer none), Asr.eq (.slice none 0 0), Asr.eq (.pointer (some ⟨b, 0, none⟩)), Asr.eq (.pointer (some ⟨b, 0, none⟩)), Asr.eq (.pointer (some ⟨b, 9, none⟩)), Asr.eq (.pointer none), Asr.eq (.slice none 0 0), Asr.eq (.pointer (some ⟨b, 0, none⟩)), Asr.eq (.pointer (some ⟨b, 0, none⟩)), Asr.eq (.pointer (some ⟨b, 8, none⟩)), Asr.eq (.bool false), Asr.eq (.pointer (some ⟨b, 0, none⟩)), Asr.eq (.pointer (some ⟨b, 0, none⟩)), Asr.eq (.pointer (some ⟨b, 10, none⟩)), Asr.eq (.string ⟨#[]⟩), Asr.any (OsAgg w.heap.size j x none), Asr.any (OsLaid w.heap.size j x none)] (by kernel_rfl) (by kernel_rfl) (by kernel_rfl) (by simp) (by kernel_rfl) hsz ⟨fun i _ _ v w w2 _ ho ⟨cv, hcv, e⟩ => ⟨cv, hcv.keep fun g hg => ho.block g hg (fun h => h), e⟩, fun i _ _ v w w2 _ ho ⟨q, cv, h1, h2, h3, h4⟩ => ⟨q, cv, h1, h2, (ho.block q (Array.getElem?_eq_some_iff.1 h3).1 (fun h => h)).trans h3, h4.keep fun g hg => ho.block g hg (fun h => h)⟩, trivial⟩ ?_ ?_
  · simp only [List.take_succ_cons, List.take_zero]
    refine ⟨?_, ?_, ?_, ?_, ?_, ?_, ?_, ?_, ?_, ?_, ?_, ?_, ?_, ?_, ?_, ?_, ?_, ?_, ?_, ?_, ?_, ?_, ?_, ?_, ?_, ?_, ?_, ?_, ?_, ?_, ?_, ?_, ?_, ?_, ?_, ?_, ?_, ?_, ?_, ?_, ?_, ?_, ?_, ?_, ?_, ?_, ?_, ?_, ?_, ?_, trivial⟩
    · intro a wx c
      have e3 : a.eval (.tmp 3) = out := c.outE (by decide +kernel) h3
      clear c
      show Oper.wp _ _ _ _ _ _
      unfold Oper.wp
      simp only [execOp, resolve, e3]
      go_simp; try go_bits
      exact ⟨_, rfl, Only.refl _ _, rfl⟩
    · intro a wx c
      have e5 : a.eval (.tmp 5) = .pointer (some ⟨b, 0, none⟩) := c.outE (by decide +kernel) h5
      clear c
      show Oper.wp _ _ _ _ _ _
      unfold Oper.wp
      simp only [execOp, resolve, e5]
      go_simp; try go_bits
      exact ⟨_, rfl, Only.refl _ _, rfl⟩
    · intro a wx c
      have e15 : a.eval (.tmp 15) = .pointer (some ⟨b, 0, none⟩) := c.slot 1 _ (by decide +kernel) rfl
      clear c
      show Oper.wp _ _ _ _ _ _
      unfold Oper.wp
      simp only [execOp, resolve, e15]
      go_simp; try go_bits
      exact ⟨_, rfl, Only.refl _ _, rfl⟩
    · intro a wx c
      have e16 : a.eval (.tmp 16) = .pointer (some ⟨b, 0, none⟩) := c.slot 2 _ (by decide +kernel) rfl
      clear c
      show Oper.wp _ _ _ _ _ _
      unfold Oper.wp
      simp only [execOp, resolve, e16]
      go_simp; try go_bits
      exact ⟨_, rfl, Only.refl _ _, rfl⟩
    · intro a wx c
      have e17 : a.eval (.tmp 17) = .pointer (some ⟨b, 0, none⟩) := c.slot 3 _ (by decide +kernel) rfl
      have hc := c.cell (p := ⟨b, 0, none⟩) (v := .int .u64 j) (cell_of_heap hb rfl) (fun _ h => h.elim)
      clear c
      show Oper.wp _ _ _ _ _ _
      unfold Oper.wp
      simp only [execOp, resolve, e17]
      go_simp; try go_bits
      exact ⟨_, rfl, Only.refl _ _, rfl⟩
    · intro a wx c
      have e5 : a.eval (.tmp 5) = .pointer (some ⟨b, 0, none⟩) := c.outE (by decide +kernel) h5
      clear c
      show Oper.wp _ _ _ _ _ _
      unfold Oper.wp
      simp only [execOp, resolve, e5]
      go_simp; try go_bits
      exact ⟨_, rfl, Only.refl _ _, rfl⟩
    · intro a wx c
      have e19 : a.eval (.tmp 19) = .pointer (some ⟨b, 0, none⟩) := c.slot 5 _ (by decide +kernel) rfl
      clear c
      show Oper.wp _ _ _ _ _ _
      unfold Oper.wp
      simp only [execOp, resolve, e19]
      go_simp; try go_bits
      exact ⟨_, rfl, Only.refl _ _, rfl⟩
    · intro a wx c
      have e20 : a.eval (.tmp 20) = .pointer (some ⟨b, 0, none⟩) := c.slot 6 _ (by decide +kernel) rfl
      clear c
      show Oper.wp _ _ _ _ _ _
      unfold Oper.wp
      simp only [execOp, resolve, e20]
      go_simp; try go_bits
      exact ⟨_, rfl, Only.refl _ _, rfl⟩
    · intro a wx c
      have e21 : a.eval (.tmp 21) = .pointer (some ⟨b, 1, none⟩) := c.slot 7 _ (by decide +kernel) rfl
      have hc := c.cell (p := ⟨b, 1, none⟩) (v := .string ⟨#[]⟩) (cell_of_heap hb rfl) (fun _ h => h.elim)
      clear c
      show Oper.wp _ _ _ _ _ _
      unfold Oper.wp
      simp only [execOp, resolve, e21]
      go_simp; try go_bits
      exact ⟨_, rfl, Only.refl _ _, rfl⟩
    · intro a wx c
      have e5 : a.eval (.tmp 5) = .pointer (some ⟨b, 0, none⟩) := c.outE (by decide +kernel) h5
      clear c
      show Oper.wp _ _ _ _ _ _
      unfold Oper.wp
      simp only [execOp, resolve, e5]
      go_simp; try go_bits
      exact ⟨_, rfl, Only.refl _ _, rfl⟩
    · intro a wx c
      have e23 : a.eval (.tmp 23) = .pointer (some ⟨b, 0, none⟩) := c.slot 9 _ (by decide +kernel) rfl
      clear c
      show Oper.wp _ _ _ _ _ _
      unfold Oper.wp
      simp only [execOp, resolve, e23]
      go_simp; try go_bits
      exact ⟨_, rfl, Only.refl _ _, rfl⟩
    · intro a wx c
      have e24 : a.eval (.tmp 24) = .pointer (some ⟨b, 0, none⟩) := c.slot 10 _ (by decide +kernel) rfl
      clear c
      show Oper.wp _ _ _ _ _ _
      unfold Oper.wp
      simp only [execOp, resolve, e24]
      go_simp; try go_bits
      exact ⟨_, rfl, Only.refl _ _, rfl⟩
    · intro a wx c
      have e25 : a.eval (.tmp 25) = .pointer (some ⟨b, 2, none⟩) := c.slot 11 _ (by decide +kernel) rfl
      have hc := c.cell (p := ⟨b, 2, none⟩) (v := .string x.uri) (cell_of_heap hb rfl) (fun _ h => h.elim)
      clear c
      show Oper.wp _ _ _ _ _ _
      unfold Oper.wp
      simp only [execOp, resolve, e25]
      go_simp; try go_bits
      exact ⟨_, rfl, Only.refl _ _, rfl⟩
    · intro a wx c
      have e5 : a.eval (.tmp 5) = .pointer (some ⟨b, 0, none⟩) := c.outE (by decide +kernel) h5
      clear c
      show Oper.wp _ _ _ _ _ _
      unfold Oper.wp
      simp only [execOp, resolve, e5]
      go_simp; try go_bits
      exact ⟨_, rfl, Only.refl _ _, rfl⟩
    · intro a wx c
      have e27 : a.eval (.tmp 27) = .pointer (some ⟨b, 0, none⟩) := c.slot 13 _ (by decide +kernel) rfl
      clear c
      show Oper.wp _ _ _ _ _ _
      unfold Oper.wp
      simp only [execOp, resolve, e27]
      go_simp; try go_bits
      exact ⟨_, rfl, Only.refl _ _, rfl⟩
    · intro a wx c
      have e28 : a.eval (.tmp 28) = .pointer (some ⟨b, 0, none⟩) := c.slot 14 _ (by decide +kernel) rfl
      clear c
      show Oper.wp _ _ _ _ _ _
      unfold Oper.wp
      simp only [execOp, resolve, e28]
      go_simp; try go_bits
      exact ⟨_, rfl, Only.refl _ _, rfl⟩
    · intro a wx c
      have e29 : a.eval (.tmp 29) = .pointer (some ⟨b, 3, none⟩) := c.slot 15 _ (by decide +kernel) rfl
      have hc := c.cell (p := ⟨b, 3, none⟩) (v := .float .f64 4607182418800017408) (cell_of_heap hb rfl) (fun _ h => h.elim)
      clear c
      show Oper.wp _ _ _ _ _ _
      unfold Oper.wp
      simp only [execOp, resolve, e29]
      go_simp; try go_bits
      exact ⟨_, rfl, Only.refl _ _, rfl⟩
    · intro a wx c
      have e5 : a.eval (.tmp 5) = .pointer (some ⟨b, 0, none⟩) := c.outE (by decide +kernel) h5
      clear c
      show Oper.wp _ _ _ _ _ _
      unfold Oper.wp
      simp only [execOp, resolve, e5]
      go_simp; try go_bits
      exact ⟨_, rfl, Only.refl _ _, rfl⟩
    · intro a wx c
      have e31 : a.eval (.tmp 31) = .pointer (some ⟨b, 0, none⟩) := c.slot 17 _ (by decide +kernel) rfl
      clear c
      show Oper.wp _ _ _ _ _ _
      unfold Oper.wp
      simp only [execOp, resolve, e31]
      go_simp; try go_bits
      exact ⟨_, rfl, Only.refl _ _, rfl⟩
    · intro a wx c
      have e32 : a.eval (.tmp 32) = .pointer (some ⟨b, 0, none⟩) := c.slot 18 _ (by decide +kernel) rfl
      clear c
      show Oper.wp _ _ _ _ _ _
      unfold Oper.wp
      simp only [execOp, resolve, e32]
      go_simp; try go_bits
      exact ⟨_, rfl, Only.refl _ _, rfl⟩
    · intro a wx c
      have e33 : a.eval (.tmp 33) = .pointer (some ⟨b, 4, none⟩) := c.slot 19 _ (by decide +kernel) rfl
      have hc := c.cell (p := ⟨b, 4, none⟩) (v := .int .i64 x.lim) (cell_of_heap hb rfl) (fun _ h => h.elim)
      clear c
      show Oper.wp _ _ _ _ _ _
      unfold Oper.wp
      simp only [execOp, resolve, e33]
      go_simp; try go_bits
      exact ⟨_, rfl, Only.refl _ _, rfl⟩
    · intro a wx c
      have e5 : a.eval (.tmp 5) = .pointer (some ⟨b, 0, none⟩) := c.outE (by decide +kernel) h5
      clear c
      show Oper.wp _ _ _ _ _ _
      unfold Oper.wp
      simp only [execOp, resolve, e5]
      go_simp; try go_bits
      exact ⟨_, rfl, Only.refl _ _, rfl⟩
    · intro a wx c
      have e35 : a.eval (.tmp 35) = .pointer (some ⟨b, 0, none⟩) := c.slot 21 _ (by decide +kernel) rfl
      clear c
      show Oper.wp _ _ _ _ _ _
      unfold Oper.wp
      simp only [execOp, resolve, e35]
      go_simp; try go_bits
      exact ⟨_, rfl, Only.refl _ _, rfl⟩
    · intro a wx c
      have e36 : a.eval (.tmp 36) = .pointer (some ⟨b, 0, none⟩) := c.slot 22 _ (by decide +kernel) rfl
      clear c
      show Oper.wp _ _ _ _ _ _
      unfold Oper.wp
      simp only [execOp, resolve, e36]
      go_simp; try go_bits
      exact ⟨_, rfl, Only.refl _ _, rfl⟩
    · intro a wx c
      have e37 : a.eval (.tmp 37) = .pointer (some ⟨b, 5, none⟩) := c.slot 23 _ (by decide +kernel) rfl
      have hc := c.cell (p := ⟨b, 5, none⟩) (v := .int .i64 x.off) (cell_of_heap hb rfl) (fun _ h => h.elim)
      clear c
      show Oper.wp _ _ _ _ _ _
      unfold Oper.wp
      simp only [execOp, resolve, e37]
      go_simp; try go_bits
      exact ⟨_, rfl, Only.refl _ _, rfl⟩
    · intro a wx c
      have e5 : a.eval (.tmp 5) = .pointer (some ⟨b, 0, none⟩) := c.outE (by decide +kernel) h5
      clear c
      show Oper.wp _ _ _ _ _ _
      unfold Oper.wp
      simp only [execOp, resolve, e5]
      go_simp; try go_bits
      exact ⟨_, rfl, Only.refl _ _, rfl⟩
    · intro a wx c
      have e39 : a.eval (.tmp 39) = .pointer (some ⟨b, 0, none⟩) := c.slot 25 _ (by decide +kernel) rfl
      clear c
      show Oper.wp _ _ _ _ _ _
      unfold Oper.wp
      simp only [execOp, resolve, e39]
      go_simp; try go_bits
      exact ⟨_, rfl, Only.refl _ _, rfl⟩
    · intro a wx c
      have e40 : a.eval (.tmp 40) = .pointer (some ⟨b, 0, none⟩) := c.slot 26 _ (by decide +kernel) rfl
      clear c
      show Oper.wp _ _ _ _ _ _
      unfold Oper.wp
      simp only [execOp, resolve, e40]
      go_simp; try go_bits
      exact ⟨_, rfl, Only.refl _ _, rfl⟩
    · intro a wx c
      have e41 : a.eval (.tmp 41) = .pointer (some ⟨b, 6, none⟩) := c.slot 27 _ (by decide +kernel) rfl
      have hc := c.cell (p := ⟨b, 6, none⟩) (v := .pointer none) (cell_of_heap hb rfl) (fun _ h => h.elim)
      clear c
      show Oper.wp _ _ _ _ _ _
      unfold Oper.wp
      simp only [execOp, resolve, e41]
      go_simp; try go_bits
      exact ⟨_, rfl, Only.refl _ _, rfl⟩
    · intro a wx c
      have e42 : a.eval (.tmp 42) = .pointer none := c.slot 28 _ (by decide +kernel) rfl
      clear c
      show Oper.wp _ _ _ _ _ _
      unfold Oper.wp
      simp only [execOp, resolve, List.map_toArray, List.map_cons, List.map_nil, e42]
      go_simp
      refine (keyOf_nil _).mono ?_
      rintro e w' ⟨rfl, rfl⟩
      exact ⟨_, rfl, Only.refl _ _, rfl⟩
    · intro a wx c
      have e5 : a.eval (.tmp 5) = .pointer (some ⟨b, 0, none⟩) := c.outE (by decide +kernel) h5
      clear c
      show Oper.wp _ _ _ _ _ _
      unfold Oper.wp
      simp only [execOp, resolve, e5]
      go_simp; try go_bits
      exact ⟨_, rfl, Only.refl _ _, rfl⟩
    · intro a wx c
      have e44 : a.eval (.tmp 44) = .pointer (some ⟨b, 0, none⟩) := c.slot 30 _ (by decide +kernel) rfl
      clear c
      show Oper.wp _ _ _ _ _ _
      unfold Oper.wp
      simp only [execOp, resolve, e44]
      go_simp; try go_bits
      exact ⟨_, rfl, Only.refl _ _, rfl⟩
    · intro a wx c
      have e45 : a.eval (.tmp 45) = .pointer (some ⟨b, 0, none⟩) := c.slot 31 _ (by decide +kernel) rfl
      clear c
      show Oper.wp _ _ _ _ _ _
      unfold Oper.wp
      simp only [execOp, resolve, e45]
      go_simp; try go_bits
      exact ⟨_, rfl, Only.refl _ _, rfl⟩
    · intro a wx c
      have e46 : a.eval (.tmp 46) = .pointer (some ⟨b, 7, none⟩) := c.slot 32 _ (by decide +kernel) rfl
      have hc := c.cell (p := ⟨b, 7, none⟩) (v := .pointer none) (cell_of_heap hb rfl) (fun _ h => h.elim)
      clear c
      show Oper.wp _ _ _ _ _ _
      unfold Oper.wp
      simp only [execOp, resolve, e46]
      go_simp; try go_bits
      exact ⟨_, rfl, Only.refl _ _, rfl⟩
    · intro a wx c
      have e47 : a.eval (.tmp 47) = .pointer none := c.slot 33 _ (by decide +kernel) rfl
      clear c
      show Oper.wp _ _ _ _ _ _
      unfold Oper.wp
      simp only [execOp, resolve, List.map_toArray, List.map_cons, List.map_nil, e47]
      go_simp
      refine (mapOf_nil _).mono ?_
      rintro e w' ⟨rfl, rfl⟩
      exact ⟨_, rfl, Only.refl _ _, rfl⟩
    · intro a wx c
      have e5 : a.eval (.tmp 5) = .pointer (some ⟨b, 0, none⟩) := c.outE (by decide +kernel) h5
      clear c
      show Oper.wp _ _ _ _ _ _
      unfold Oper.wp
      simp only [execOp, resolve, e5]
      go_simp; try go_bits
      exact ⟨_, rfl, Only.refl _ _, rfl⟩
    · intro a wx c
      have e49 : a.eval (.tmp 49) = .pointer (some ⟨b, 0, none⟩) := c.slot 35 _ (by decide +kernel) rfl
      clear c
      show Oper.wp _ _ _ _ _ _
      unfold Oper.wp
      simp only [execOp, resolve, e49]
      go_simp; try go_bits
      exact ⟨_, rfl, Only.refl _ _, rfl⟩
    · intro a wx c
      have e50 : a.eval (.tmp 50) = .pointer (some ⟨b, 0, none⟩) := c.slot 36 _ (by decide +kernel) rfl
      clear c
      show Oper.wp _ _ _ _ _ _
      unfold Oper.wp
      simp only [execOp, resolve, e50]
      go_simp; try go_bits
      exact ⟨_, rfl, Only.refl _ _, rfl⟩
    · intro a wx c
      have e51 : a.eval (.tmp 51) = .pointer (some ⟨b, 9, none⟩) := c.slot 37 _ (by decide +kernel) rfl
      have hc := c.cell (p := ⟨b, 9, none⟩) (v := .pointer none) (cell_of_heap hb (by rw [Sg.cells, Sg.ptr, hsc]; rfl)) (fun _ h => h.elim)
      clear c
      show Oper.wp _ _ _ _ _ _
      unfold Oper.wp
      simp only [execOp, resolve, e51]
      go_simp; try go_bits
      exact ⟨_, rfl, Only.refl _ _, rfl⟩
    · intro a wx c
      have e52 : a.eval (.tmp 52) = .pointer none := c.slot 38 _ (by decide +kernel) rfl
      clear c
      show Oper.wp _ _ _ _ _ _
      unfold Oper.wp
      simp only [execOp, resolve, List.map_toArray, List.map_cons, List.map_nil, e52]
      go_simp
      refine (cueOf_nil _).mono ?_
      rintro e w' ⟨rfl, rfl⟩
      exact ⟨_, rfl, Only.refl _ _, rfl⟩
    · intro a wx c
      have e5 : a.eval (.tmp 5) = .pointer (some ⟨b, 0, none⟩) := c.outE (by decide +kernel) h5
      clear c
      show Oper.wp _ _ _ _ _ _
      unfold Oper.wp
      simp only [execOp, resolve, e5]
      go_simp; try go_bits
      exact ⟨_, rfl, Only.refl _ _, rfl⟩
    · intro a wx c
      have e54 : a.eval (.tmp 54) = .pointer (some ⟨b, 0, none⟩) := c.slot 40 _ (by decide +kernel) rfl
      clear c
      show Oper.wp _ _ _ _ _ _
      unfold Oper.wp
      simp only [execOp, resolve, e54]
      go_simp; try go_bits
      exact ⟨_, rfl, Only.refl _ _, rfl⟩
    · intro a wx c
      have e55 : a.eval (.tmp 55) = .pointer (some ⟨b, 0, none⟩) := c.slot 41 _ (by decide +kernel) rfl
      clear c
      show Oper.wp _ _ _ _ _ _
      unfold Oper.wp
      simp only [execOp, resolve, e55]
      go_simp; try go_bits
      exact ⟨_, rfl, Only.refl _ _, rfl⟩
    · intro a wx c
      have e56 : a.eval (.tmp 56) = .pointer (some ⟨b, 8, none⟩) := c.slot 42 _ (by decide +kernel) rfl
      have hc := c.cell (p := ⟨b, 8, none⟩) (v := .bool false) (cell_of_heap hb rfl) (fun _ h => h.elim)
      clear c
      show Oper.wp _ _ _ _ _ _
      unfold Oper.wp
      simp only [execOp, resolve, e56]
      go_simp; try go_bits
      exact ⟨_, rfl, Only.refl _ _, rfl⟩
    · intro a wx c
      have e5 : a.eval (.tmp 5) = .pointer (some ⟨b, 0, none⟩) := c.outE (by decide +kernel) h5
      clear c
      show Oper.wp _ _ _ _ _ _
      unfold Oper.wp
      simp only [execOp, resolve, e5]
      go_simp; try go_bits
      exact ⟨_, rfl, Only.refl _ _, rfl⟩
    · intro a wx c
      have e58 : a.eval (.tmp 58) = .pointer (some ⟨b, 0, none⟩) := c.slot 44 _ (by decide +kernel) rfl
      clear c
      show Oper.wp _ _ _ _ _ _
      unfold Oper.wp
      simp only [execOp, resolve, e58]
      go_simp; try go_bits
      exact ⟨_, rfl, Only.refl _ _, rfl⟩
    · intro a wx c
      have e59 : a.eval (.tmp 59) = .pointer (some ⟨b, 0, none⟩) := c.slot 45 _ (by decide +kernel) rfl
      clear c
      show Oper.wp _ _ _ _ _ _
      unfold Oper.wp
      simp only [execOp, resolve, e59]
      go_simp; try go_bits
      exact ⟨_, rfl, Only.refl _ _, rfl⟩
    · intro a wx c
      have e60 : a.eval (.tmp 60) = .pointer (some ⟨b, 10, none⟩) := c.slot 46 _ (by decide +kernel) rfl
      have hc := c.cell (p := ⟨b, 10, none⟩) (v := .string ⟨#[]⟩) (cell_of_heap hb rfl) (fun _ h => h.elim)
      clear c
      show Oper.wp _ _ _ _ _ _
      unfold Oper.wp
      simp only [execOp, resolve, e60]
      go_simp; try go_bits
      exact ⟨_, rfl, Only.refl _ _, rfl⟩
    · intro a wx c
      have e18 : a.eval (.tmp 18) = .int .u64 j := c.slot 4 _ (by decide +kernel) rfl
      have e22 : a.eval (.tmp 22) = .string ⟨#[]⟩ := c.slot 8 _ (by decide +kernel) rfl
      have e26 : a.eval (.tmp 26) = .string x.uri := c.slot 12 _ (by decide +kernel) rfl
      have e30 : a.eval (.tmp 30) = .float .f64 4607182418800017408 := c.slot 16 _ (by decide +kernel) rfl
      have e34 : a.eval (.tmp 34) = .int .i64 x.lim := c.slot 20 _ (by decide +kernel) rfl
      have e38 : a.eval (.tmp 38) = .int .i64 x.off := c.slot 24 _ (by decide +kernel) rfl
      have e43 : a.eval (.tmp 43) = .slice none 0 0 := c.slot 29 _ (by decide +kernel) rfl
      have e48 : a.eval (.tmp 48) = .slice none 0 0 := c.slot 34 _ (by decide +kernel) rfl
      have e53 : a.eval (.tmp 53) = .slice none 0 0 := c.slot 39 _ (by decide +kernel) rfl
      have e57 : a.eval (.tmp 57) = .bool false := c.slot 43 _ (by decide +kernel) rfl
      have e61 : a.eval (.tmp 61) = .string ⟨#[]⟩ := c.slot 47 _ (by decide +kernel) rfl
      clear c
      show Oper.wp _ _ _ _ _ _
      unfold Oper.wp
      simp only [execOp, List.map_toArray, List.map_cons, List.map_nil, e18, e22, e26, e30, e34, e38, e43, e48, e53, e57, e61]
      go_simp
      exact ⟨_, rfl, Only.refl _ _, _, rfl, rfl⟩
    · intro a wx c
      obtain p62 : (OsAgg w.heap.size j x none) (a.eval (.tmp 62)) wx := c.slot 48 _ (by decide +kernel) rfl
      obtain ⟨cv, hcv, e62⟩ := p62
      have hsz := c.only.size
      clear c
      show Oper.wp _ _ _ _ _ _
      unfold Oper.wp
      simp only [execOp, List.map_toArray, List.map_cons, List.map_nil, e62]
      unfold Os.list
      go_simp
      have hal : Below wx.heap.size wx (wx.alloc (Obj.cells (Os.list ⟨j, x, cv⟩).toArray 31)) := (Below.refl _ _).alloc (Nat.le_refl _) _
      exact ⟨_, rfl, Only.of_below hal, _, cv, by simpa using hsz, rfl, heap_alloc_new _ _, hcv.keep fun g hg => hal.block g hg⟩
  · intro a1 w1 c hbl
    have r0 : a1.eval (.tmp 14) = out := c.slot 0 _ (by decide) rfl
    obtain ⟨q, cv, _, r49, hq, hcv⟩ : OsLaid w.heap.size j x none (a1.eval (.tmp 63)) w1 := c.slot 49 _ (by decide) rfl
    have ha := frame_head c [14, 15, 16, 17, 18, 19, 20, 21, 22, 23, 24, 25, 26, 27, 28, 29, 30, 31, 32, 33, 34, 35, 36, 37, 38, 39, 40, 41, 42, 43, 44, 45, 46, 47, 48, 49, 50, 51, 52, 53, 54, 55, 56, 57, 58, 59, 60, 61, 62, 63] (by kernel_rfl)
    have hsz1 := c.size
    clear c
    simp only [List.drop_succ_cons, List.drop_zero]
    have ho1 := Own.below hown hbl
    refine arm_append (f := Os.list) 39 Tryd.underlying39 hiP hzP hsP hbP (by rfl) (by decide) (fun _ => rfl) os_one ⟨j, x, cv⟩ r0 r49 hq ho1 (Nat.le_trans hB hbl.size) (by omega) (by omega) ?_
    intro v2 w2 ho2 hon2
    refine arm_run rfl (v := v2) (w' := w2) ?_ ?_
    · simp only [execOp]
      rw [ev_eq (by rw [hsz1, hsz]; decide)]
      go_simp
    refine wpList_nil ?_
    rw [ha]
    exact hK _ _ _ _ _ _ _ _ _ _ _ _ _ _ _ _ _ _ _ _ _ _ _ _ _ _ _ _ _ _ _ _ _ _ _ _ _ _ _ _ _ _ _ _ _ _ _ _ _ _ v2 cv w1 w2 ho2 hcv hbl ho1 hon2
set_option maxRecDepth 100000 in
set_option maxHeartbeats 8000000 in
theorem sgo_some {id : Nat} {a0 : Act} {w : World} {Q : Exit → Act → World → Prop} {b j B : Nat} {x : Sg} {out : Value} {L : List Os} {k : Nat} {cu : Cu} (hsz : a0.tmps.size = 67) (h3 : a0.eval (.tmp 3) = out) (h5 : a0.eval (.tmp 5) = .pointer (some ⟨b, 0, none⟩)) (hb : w.heap[b]? = some (.cells (x.cells j) 65 (0, 0))) (hown : Own Os.list 31 11 w B out L) (hB : B ≤ w.heap.size) (hL : L.length ≤ 1000) (hsc : x.sc = some (k, cu)) (hk : w.heap[k]? = some (.cells cu.scte 120 (0, 0))) (hs : cu.syn < 100 ∧ cu.typ < 100)
    (hK : ∀ (y14 y15 y16 y17 y18 y19 y20 y21 y22 y23 y24 y25 y26 y27 y28 y29 y30 y31 y32 y33 y34 y35 y36 y37 y38 y39 y40 y41 y42 y43 y44 y45 y46 y47 y48 y49 y50 y51 y52 y53 y54 y55 y56 y57 y58 y59 y60 y61 y62 y63 : Value) (v2 cv : Value) (w1 w' : World), Own Os.list 31 11 w' B v2 (L ++ [⟨j, x, cv⟩]) → CuesNew (some cu) w.heap.size cv w1 → Below w.heap.size w w1 → Own Os.list 31 11 w1 B out L → Only (fun g => out.ownBlock = some g) w1 w' → Q .normal ((((((((((((((((((((((((((((((((((((((((((((((((((((a0.put (some 14) y14).put (some 15) y15).put (some 16) y16).put (some 17) y17).put (some 18) y18).put (some 19) y19).put (some 20) y20).put (some 21) y21).put (some 22) y22).put (some 23) y23).put (some 24) y24).put (some 25) y25).put (some 26) y26).put (some 27) y27).put (some 28) y28).put (some 29) y29).put (some 30) y30).put (some 31) y31).put (some 32) y32).put (some 33) y33).put (some 34) y34).put (some 35) y35).put (some 36) y36).put (some 37) y37).put (some 38) y38).put (some 39) y39).put (some 40) y40).put (some 41) y41).put (some 42) y42).put (some 43) y43).put (some 44) y44).put (some 45) y45).put (some 46) y46).put (some 47) y47).put (some 48) y48).put (some 49) y49).put (some 50) y50).put (some 51) y51).put (some 52) y52).put (some 53) y53).put (some 54) y54).put (some 55) y55).put (some 56) y56).put (some 57) y57).put (some 58) y58).put (some 59) y59).put (some 60) y60).put (some 61) y61).put (some 62) y62).put (some 63) y63).put (some 64) v2).put (some 3) v2) w') :
    (Code.region id #[{ dst := some 14, op := Op.move (Operand.tmp 3), type := 39, pos := "list.go:187", after := #[], guard := none },
      { dst := some 15, op := Op.move (Operand.tmp 5), type := 60, pos := "list.go:187", after := #[], guard := none },
      { dst := some 16, op := Op.nilCheck (Operand.tmp 15), type := 0, pos := "list.go:187", after := #[{ on := 1, ground := Ground.data }], guard := none },
      { dst := some 17, op := Op.fieldAddr 65 (Operand.tmp 16) 0, type := 0, pos := "list.go:187", after := #[{ on := 2, ground := Ground.data }], guard := none },
      { dst := some 18, op := Op.load 25 (Operand.tmp 17), type := 25, pos := "list.go:187", after := #[{ on := 3, ground := Ground.data }], guard := none },
      { dst := some 19, op := Op.move (Operand.tmp 5), type := 60, pos := "list.go:187", after := #[], guard := none },
      { dst := some 20, op := Op.nilCheck (Operand.tmp 19), type := 0, pos := "list.go:187", after := #[{ on := 5, ground := Ground.data }], guard := none },
      { dst := some 21, op := Op.fieldAddr 65 (Operand.tmp 20) 1, type := 0, pos := "list.go:187", after := #[{ on := 6, ground := Ground.data }], guard := none },
      { dst := some 22, op := Op.load 9 (Operand.tmp 21), type := 9, pos := "list.go:187", after := #[{ on := 7, ground := Ground.data }], guard := none },
      { dst := some 23, op := Op.move (Operand.tmp 5), type := 60, pos := "list.go:187", after := #[], guard := none },
      { dst := some 24, op := Op.nilCheck (Operand.tmp 23), type := 0, pos := "list.go:187", after := #[{ on := 9, ground := Ground.data }], guard := none },
      { dst := some 25, op := Op.fieldAddr 65 (Operand.tmp 24) 2, type := 0, pos := "list.go:187", after := #[{ on := 10, ground := Ground.data }], guard := none },
      { dst := some 26, op := Op.load 9 (Operand.tmp 25), type := 9, pos := "list.go:187", after := #[{ on := 11, ground := Ground.data }], guard := none },
      { dst := some 27, op := Op.move (Operand.tmp 5), type := 60, pos := "list.go:187", after := #[], guard := none },
      { dst := some 28, op := Op.nilCheck (Operand.tmp 27), type := 0, pos := "list.go:187", after := #[{ on := 13, ground := Ground.data }], guard := none },
      { dst := some 29, op := Op.fieldAddr 65 (Operand.tmp 28) 3, type := 0, pos := "list.go:187", after := #[{ on := 14, ground := Ground.data }], guard := none },
      { dst := some 30, op := Op.load 26 (Operand.tmp 29), type := 26, pos := "list.go:187", after := #[{ on := 15, ground := Ground.data }], guard := none },
      { dst := some 31, op := Op.move (Operand.tmp 5), type := 60, pos := "list.go:187", after := #[], guard := none },
      { dst := some 32, op := Op.nilCheck (Operand.tmp 31), type := 0, pos := "list.go:187", after := #[{ on := 17, ground := Ground.data }], guard := none },
      { dst := some 33, op := Op.fieldAddr 65 (Operand.tmp 32) 4, type := 0, pos := "list.go:187", after := #[{ on := 18, ground := Ground.data }], guard := none },
      { dst := some 34, op := Op.load 2 (Operand.tmp 33), type := 2, pos := "list.go:187", after := #[{ on := 19, ground := Ground.data }], guard := none },
      { dst := some 35, op := Op.move (Operand.tmp 5), type := 60, pos := "list.go:187", after := #[], guard := none },
      { dst := some 36, op := Op.nilCheck (Operand.tmp 35), type := 0, pos := "list.go:187", after := #[{ on := 21, ground := Ground.data }], guard := none },
      { dst := some 37, op := Op.fieldAddr 65 (Operand.tmp 36) 5, type := 0, pos := "list.go:187", after := #[{ on := 22, ground := Ground.data }], guard := none },
      { dst := some 38, op := Op.load 2 (Operand.tmp 37), type := 2, pos := "list.go:187", after := #[{ on := 23, ground := Ground.data }], guard := none },
      { dst := some 39, op := Op.move (Operand.tmp 5), type := 60, pos := "list.go:187", after := #[], guard := none },
      { dst := some 40, op := Op.nilCheck (Operand.tmp 39), type := 0, pos := "list.go:187", after := #[{ on := 25, ground := Ground.data }], guard := none },
      { dst := some 41, op := Op.fieldAddr 65 (Operand.tmp 40) 6, type := 0, pos := "list.go:187", after := #[{ on := 26, ground := Ground.data }], guard := none },
      { dst := some 42, op := Op.load 61 (Operand.tmp 41), type := 61, pos := "list.go:187", after := #[{ on := 27, ground := Ground.data }], guard := none },
      { dst := some 43, op := Op.call { callee := Callee.value (Operand.func 33), args := #[Operand.tmp 42], argTypes := #[61] }, type := 27, pos := "list.go:188", after := #[{ on := 28, ground := Ground.data }], guard := none },
      { dst := some 44, op := Op.move (Operand.tmp 5), type := 60, pos := "list.go:187", after := #[], guard := none },
      { dst := some 45, op := Op.nilCheck (Operand.tmp 44), type := 0, pos := "list.go:187", after := #[{ on := 30, ground := Ground.data }], guard := none },
      { dst := some 46, op := Op.fieldAddr 65 (Operand.tmp 45) 7, type := 0, pos := "list.go:187", after := #[{ on := 31, ground := Ground.data }], guard := none },
      { dst := some 47, op := Op.load 62 (Operand.tmp 46), type := 62, pos := "list.go:187", after := #[{ on := 32, ground := Ground.data }], guard := none },
      { dst := some 48, op := Op.call { callee := Callee.value (Operand.func 34), args := #[Operand.tmp 47], argTypes := #[62] }, type := 28, pos := "list.go:188", after := #[{ on := 33, ground := Ground.data }, { on := 29, ground := Ground.chain }], guard := none },
      { dst := some 49, op := Op.move (Operand.tmp 5), type := 60, pos := "list.go:187", after := #[], guard := none },
      { dst := some 50, op := Op.nilCheck (Operand.tmp 49), type := 0, pos := "list.go:187", after := #[{ on := 35, ground := Ground.data }], guard := none },
      { dst := some 51, op := Op.fieldAddr 65 (Operand.tmp 50) 9, type := 0, pos := "list.go:187", after := #[{ on := 36, ground := Ground.data }], guard := none },
      { dst := some 52, op := Op.load 63 (Operand.tmp 51), type := 63, pos := "list.go:187", after := #[{ on := 37, ground := Ground.data }], guard := none },
      { dst := some 53, op := Op.call { callee := Callee.value (Operand.func 47), args := #[Operand.tmp 52], argTypes := #[63] }, type := 29, pos := "list.go:188", after := #[{ on := 38, ground := Ground.data }, { on := 34, ground := Ground.chain }], guard := none },
      { dst := some 54, op := Op.move (Operand.tmp 5), type := 60, pos := "list.go:187", after := #[], guard := none },
      { dst := some 55, op := Op.nilCheck (Operand.tmp 54), type := 0, pos := "list.go:187", after := #[{ on := 40, ground := Ground.data }], guard := none },
      { dst := some 56, op := Op.fieldAddr 65 (Operand.tmp 55) 8, type := 0, pos := "list.go:187", after := #[{ on := 41, ground := Ground.data }], guard := none },
      { dst := some 57, op := Op.load 4 (Operand.tmp 56), type := 4, pos := "list.go:187", after := #[{ on := 42, ground := Ground.data }], guard := none },
      { dst := some 58, op := Op.move (Operand.tmp 5), type := 60, pos := "list.go:187", after := #[], guard := none },
      { dst := some 59, op := Op.nilCheck (Operand.tmp 58), type := 0, pos := "list.go:187", after := #[{ on := 44, ground := Ground.data }], guard := none },
      { dst := some 60, op := Op.fieldAddr 65 (Operand.tmp 59) 10, type := 0, pos := "list.go:187", after := #[{ on := 45, ground := Ground.data }], guard := none },
      { dst := some 61, op := Op.load 9 (Operand.tmp 60), type := 9, pos := "list.go:187", after := #[{ on := 46, ground := Ground.data }], guard := none },
      { dst := some 62, op := Op.build 31 #[(0, Operand.tmp 18), (1, Operand.tmp 22), (2, Operand.tmp 26), (3, Operand.tmp 30), (4, Operand.tmp 34), (5, Operand.tmp 38), (6, Operand.tmp 43), (7, Operand.tmp 48), (8, Operand.tmp 53), (9, Operand.tmp 57), (10, Operand.tmp 61)], type := 31, pos := "list.go:187", after := #[{ on := 4, ground := Ground.data }, { on := 8, ground := Ground.data }, { on := 12, ground := Ground.data }, { on := 16, ground := Ground.data }, { on := 20, ground := Ground.data }, { on := 24, ground := Ground.data }, { on := 29, ground := Ground.data }, { on := 34, ground := Ground.data }, { on := 39, ground := Ground.data }, { on := 43, ground := Ground.data }, { on := 47, ground := Ground.data }], guard := none },
      { dst := some 63, op := Op.buildSlice 39 1 #[(0, Operand.tmp 62)], type := 39, pos := "list.go:187", after := #[{ on := 48, ground := Ground.data }], guard := none },
      { dst := some 64, op := Op.call { callee := Callee.builtin Builtin.append, args := #[Operand.tmp 14, Operand.tmp 63], argTypes := #[39, 39] }, type := 39, pos := "list.go:187", after := #[{ on := 0, ground := Ground.data }, { on := 49, ground := Ground.data }, { on := 39, ground := Ground.chain }], guard := none },
      { dst := some 3, op := Op.assign (Operand.tmp 64), type := 39, pos := "list.go:187", after := #[{ on := 50, ground := Ground.data }, { on := 50, ground := Ground.chain }, { on := 0, ground := Ground.phase }, { on := 1, ground := Ground.phase }, { on := 2, ground := Ground.phase }, { on := 3, ground := Ground.phase }, { on := 4, ground := Ground.phase }, { on := 5, ground := Ground.phase }, { on := 6, ground := Ground.phase }, { on := 7, ground := Ground.phase }, { on := 8, ground := Ground.phase }, { on := 9, ground := Ground.phase }, { on := 10, ground := Ground.phase }, { on := 11, ground := Ground.phase }, { on := 12, ground := Ground.phase }, { on := 13, ground := Ground.phase }, { on := 14, ground := Ground.phase }, { on := 15, ground := Ground.phase }, { on := 16, ground := Ground.phase }, { on := 17, ground := Ground.phase }, { on := 18, ground := Ground.phase }, { on := 19, ground := Ground.phase }, { on := 20, ground := Ground.phase }, { on := 21, ground := Ground.phase }, { on := 22, ground := Ground.phase }, { on := 23, ground := Ground.phase }, { on := 24, ground := Ground.phase }, { on := 25, ground := Ground.phase }, { on := 26, ground := Ground.phase }, { on := 27, ground := Ground.phase }, { on := 28, ground := Ground.phase }, { on := 29, ground := Ground.phase }, { on := 30, ground := Ground.phase }, { on := 31, ground := Ground.phase }, { on := 32, ground := Ground.phase }, { on := 33, ground := Ground.phase }, { on := 34, ground := Ground.phase }, { on := 35, ground := Ground.phase }, { on := 36, ground := Ground.phase }, { on := 37, ground := Ground.phase }, { on := 38, ground := Ground.phase }, { on := 39, ground := Ground.phase }, { on := 40, ground := Ground.phase }, { on := 41, ground := Ground.phase }, { on := 42, ground := Ground.phase }, { on := 43, ground := Ground.phase }, { on := 44, ground := Ground.phase }, { on := 45, ground := Ground.phase }, { on := 46, ground := Ground.phase }, { on := 47, ground := Ground.phase }, { on := 48, ground := Ground.phase }, { on := 49, ground := Ground.phase }, { on := 50, ground := Ground.phase }], guard := none }] true).wp Tryd.prog Q a0 w := by
  obtain ⟨iP, hiP, hzP, hsP, hbP⟩ := info_parts info_os
  refine wp_region_og1 (n := 67) 50 [Asr.eq (out), Asr.eq (.pointer (some ⟨b, 0, none⟩)), Asr.eq (.pointer (some ⟨b, 0, none⟩)), Asr.eq (.pointer (some ⟨b, 0, none⟩)), Asr.eq (.int .u64 j), Asr.eq (.pointer (some ⟨b, 0, none⟩)), Asr.eq (.pointer (some ⟨b, 0, none⟩)), Asr.eq (.pointer (some ⟨b, 1, none⟩)), Asr.eq (.string ⟨#[]⟩), Asr.eq (.pointer (some ⟨b, 0, none⟩)), Asr.eq (.pointer (some ⟨b, 0, none⟩)), Asr.eq (.pointer (some ⟨b, 2, none⟩)), Asr.eq (.string x.uri), Asr.eq (.pointer (some ⟨b, 0, none⟩)), Asr.eq (.pointer (some ⟨b, 0, none⟩)), Asr.eq (.pointer (some ⟨b, 3, none⟩)), Asr.eq (.float .f64 4607182418800017408), Asr.eq (.pointer (some ⟨b, 0, none⟩)), Asr.eq (.pointer (some ⟨b, 0, none⟩)), Asr.eq (.pointer (some ⟨b, 4, none⟩)), Asr.eq (.int .i64 x.lim), Asr.eq (.pointer (some ⟨b, 0, none⟩)), Asr.eq (.pointer (some ⟨b, 0, none⟩)), Asr.eq (.pointer (some ⟨b, 5, none⟩)), Asr.eq (.int .i64 x.off), Asr.eq (.pointer (some ⟨b, 0, none⟩)), Asr.eq (.pointer (some ⟨b, 0, none⟩)), Asr.eq (.pointer (some ⟨b, 6, none⟩)), Asr.eq (.pointer none), Asr.eq (.slice none 0 0), Asr.eq (.pointer (some ⟨b, 0, none⟩)), Asr.eq (.pointer (some ⟨b, 0, none⟩)), Asr.eq (.pointer (some ⟨b, 7, none⟩)), Asr.eq (.pointer none), Asr.eq (.slice none 0 0), Asr.eq (.pointer (some ⟨b, 0, none⟩)), Asr.eq (.pointer (some ⟨b, 0, none⟩)), Asr.eq (.pointer (some ⟨b, 9, none⟩)), Asr.eq (.pointer (some ⟨k, 0, none⟩)), Asr.blk (fun g => .slice (some ⟨g, 0, none⟩) 1 1) 46 cu.list.toArray, Asr.eq (.pointer (some ⟨b, 0, none⟩)), Asr.eq (.pointer (some ⟨b, 0, none⟩)), Asr.eq (.pointer (some ⟨b, 8, none⟩)), Asr.eq (.bool false), Asr.eq (.pointer (some ⟨b, 0, none⟩)), Asr.eq (.pointer (some ⟨b, 0, none⟩)), Asr.eq (.pointer (some ⟨b, 10, none⟩)), Asr.eq (.string ⟨#[]⟩), Asr.any (OsAgg w.heap.size j x (some cu)), Asr.any (OsLaid w.heap.size j x (some cu))] (by kernel_rfl) (by kernel_rfl) (by kernel_rfl) (by simp) (by kernel_rfl) hsz ⟨fun i _ _ v w w2 _ ho ⟨cv, hcv, e⟩ => ⟨cv, hcv.keep fun g hg => ho.block g hg (fun h => h), e⟩, fun i _ _ v w w2 _ ho ⟨q, cv, h1, h2, h3, h4⟩ => ⟨q, cv, h1, h2, (ho.block q (Array.getElem?_eq_some_iff.1 h3).1 (fun h => h)).trans h3, h4.keep fun g hg => ho.block g hg (fun h => h)⟩, trivial⟩ ?_ ?_
  · simp only [List.take_succ_cons, List.take_zero]
    refine ⟨?_, ?_, ?_, ?_, ?_, ?_, ?_, ?_, ?_, ?_, ?_, ?_, ?_, ?_, ?_, ?_, ?_, ?_, ?_, ?_, ?_, ?_, ?_, ?_, ?_, ?_, ?_, ?_, ?_, ?_, ?_, ?_, ?_, ?_, ?_, ?_, ?_, ?_, ?_, ?_, ?_, ?_, ?_, ?_, ?_, ?_, ?_, ?_, ?_, ?_, trivial⟩
    · intro a wx c
      have e3 : a.eval (.tmp 3) = out := c.outE (by decide +kernel) h3
      clear c
      show Oper.wp _ _ _ _ _ _
      unfold Oper.wp
      simp only [execOp, resolve, e3]
      go_simp; try go_bits
      exact ⟨_, rfl, Only.refl _ _, rfl⟩
    · intro a wx c
      have e5 : a.eval (.tmp 5) = .pointer (some ⟨b, 0, none⟩) := c.outE (by decide +kernel) h5
      clear c
      show Oper.wp _ _ _ _ _ _
      unfold Oper.wp
      simp only [execOp, resolve, e5]
      go_simp; try go_bits
      exact ⟨_, rfl, Only.refl _ _, rfl⟩
    · intro a wx c
      have e15 : a.eval (.tmp 15) = .pointer (some ⟨b, 0, none⟩) := c.slot 1 _ (by decide +kernel) rfl
      clear c
      show Oper.wp _ _ _ _ _ _
      unfold Oper.wp
      simp only [execOp, resolve, e15]
      go_simp; try go_bits
      exact ⟨_, rfl, Only.refl _ _, rfl⟩
    · intro a wx c
      have e16 : a.eval (.tmp 16) = .pointer (some ⟨b, 0, none⟩) := c.slot 2 _ (by decide +kernel) rfl
      clear c
      show Oper.wp _ _ _ _ _ _
      unfold Oper.wp
      simp only [execOp, resolve, e16]
      go_simp; try go_bits
      exact ⟨_, rfl, Only.refl _ _, rfl⟩
    · intro a wx c
      have e17 : a.eval (.tmp 17) = .pointer (some ⟨b, 0, none⟩) := c.slot 3 _ (by decide +kernel) rfl
      have hc := c.cell (p := ⟨b, 0, none⟩) (v := .int .u64 j) (cell_of_heap hb rfl) (fun _ h => h.elim)
      clear c
      show Oper.wp _ _ _ _ _ _
      unfold Oper.wp
      simp only [execOp, resolve, e17]
      go_simp; try go_bits
      exact ⟨_, rfl, Only.refl _ _, rfl⟩
    · intro a wx c
      have e5 : a.eval (.tmp 5) = .pointer (some ⟨b, 0, none⟩) := c.outE (by decide +kernel) h5
      clear c
      show Oper.wp _ _ _ _ _ _
      unfold Oper.wp
      simp only [execOp, resolve, e5]
      go_simp; try go_bits
      exact ⟨_, rfl, Only.refl _ _, rfl⟩
    · intro a wx c
      have e19 : a.eval (.tmp 19) = .pointer (some ⟨b, 0, none⟩) := c.slot 5 _ (by decide +kernel) rfl
      clear c
      show Oper.wp _ _ _ _ _ _
      unfold Oper.wp
      simp only [execOp, resolve, e19]
      go_simp; try go_bits
      exact ⟨_, rfl, Only.refl _ _, rfl⟩
    · intro a wx c
      have e20 : a.eval (.tmp 20) = .pointer (some ⟨b, 0, none⟩) := c.slot 6 _ (by decide +kernel) rfl
      clear c
      show Oper.wp _ _ _ _ _ _
      unfold Oper.wp
      simp only [execOp, resolve, e20]
      go_simp; try go_bits
      exact ⟨_, rfl, Only.refl _ _, rfl⟩
    · intro a wx c
      have e21 : a.eval (.tmp 21) = .pointer (some ⟨b, 1, none⟩) := c.slot 7 _ (by decide +kernel) rfl
      have hc := c.cell (p := ⟨b, 1, none⟩) (v := .string ⟨#[]⟩) (cell_of_heap hb rfl) (fun _ h => h.elim)
      clear c
      show Oper.wp _ _ _ _ _ _
      unfold Oper.wp
      simp only [execOp, resolve, e21]
      go_simp; try go_bits
      exact ⟨_, rfl, Only.refl _ _, rfl⟩
    · intro a wx c
      have e5 : a.eval (.tmp 5) = .pointer (some ⟨b, 0, none⟩) := c.outE (by decide +kernel) h5
      clear c
      show Oper.wp _ _ _ _ _ _
      unfold Oper.wp
      simp only [execOp, resolve, e5]
      go_simp; try go_bits
      exact ⟨_, rfl, Only.refl _ _, rfl⟩
    · intro a wx c
      have e23 : a.eval (.tmp 23) = .pointer (some ⟨b, 0, none⟩) := c.slot 9 _ (by decide +kernel) rfl
      clear c
      show Oper.wp _ _ _ _ _ _
      unfold Oper.wp
      simp only [execOp, resolve, e23]
      go_simp; try go_bits
      exact ⟨_, rfl, Only.refl _ _, rfl⟩
    · intro a wx c
      have e24 : a.eval (.tmp 24) = .pointer (some ⟨b, 0, none⟩) := c.slot 10 _ (by decide +kernel) rfl
      clear c
      show Oper.wp _ _ _ _ _ _
      unfold Oper.wp
      simp only [execOp, resolve, e24]
      go_simp; try go_bits
      exact ⟨_, rfl, Only.refl _ _, rfl⟩
    · intro a wx c
      have e25 : a.eval (.tmp 25) = .pointer (some ⟨b, 2, none⟩) := c.slot 11 _ (by decide +kernel) rfl
      have hc := c.cell (p := ⟨b, 2, none⟩) (v := .string x.uri) (cell_of_heap hb rfl) (fun _ h => h.elim)
      clear c
      show Oper.wp _ _ _ _ _ _
      unfold Oper.wp
      simp only [execOp, resolve, e25]
      go_simp; try go_bits
      exact ⟨_, rfl, Only.refl _ _, rfl⟩
    · intro a wx c
      have e5 : a.eval (.tmp 5) = .pointer (some ⟨b, 0, none⟩) := c.outE (by decide +kernel) h5
      clear c
      show Oper.wp _ _ _ _ _ _
      unfold Oper.wp
      simp only [execOp, resolve, e5]
      go_simp; try go_bits
      exact ⟨_, rfl, Only.refl _ _, rfl⟩
    · intro a wx c
      have e27 : a.eval (.tmp 27) = .pointer (some ⟨b, 0, none⟩) := c.slot 13 _ (by decide +kernel) rfl
      clear c
      show Oper.wp _ _ _ _ _ _
      unfold Oper.wp
      simp only [execOp, resolve, e27]
      go_simp; try go_bits
      exact ⟨_, rfl, Only.refl _ _, rfl⟩
    · intro a wx c
      have e28 : a.eval (.tmp 28) = .pointer (some ⟨b, 0, none⟩) := c.slot 14 _ (by decide +kernel) rfl
      clear c
      show Oper.wp _ _ _ _ _ _
      unfold Oper.wp
      simp only [execOp, resolve, e28]
      go_simp; try go_bits
      exact ⟨_, rfl, Only.refl _ _, rfl⟩
    · intro a wx c
      have e29 : a.eval (.tmp 29) = .pointer (some ⟨b, 3, none⟩) := c.slot 15 _ (by decide +kernel) rfl
      have hc := c.cell (p := ⟨b, 3, none⟩) (v := .float .f64 4607182418800017408) (cell_of_heap hb rfl) (fun _ h => h.elim)
      clear c
      show Oper.wp _ _ _ _ _ _
      unfold Oper.wp
      simp only [execOp, resolve, e29]
      go_simp; try go_bits
      exact ⟨_, rfl, Only.refl _ _, rfl⟩
    · intro a wx c
      have e5 : a.eval (.tmp 5) = .pointer (some ⟨b, 0, none⟩) := c.outE (by decide +kernel) h5
      clear c
      show Oper.wp _ _ _ _ _ _
      unfold Oper.wp
      simp only [execOp, resolve, e5]
      go_simp; try go_bits
      exact ⟨_, rfl, Only.refl _ _, rfl⟩
    · intro a wx c
      have e31 : a.eval (.tmp 31) = .pointer (some ⟨b, 0, none⟩) := c.slot 17 _ (by decide +kernel) rfl
      clear c
      show Oper.wp _ _ _ _ _ _
      unfold Oper.wp
      simp only [execOp, resolve, e31]
      go_simp; try go_bits
      exact ⟨_, rfl, Only.refl _ _, rfl⟩
    · intro a wx c
      have e32 : a.eval (.tmp 32) = .pointer (some ⟨b, 0, none⟩) := c.slot 18 _ (by decide +kernel) rfl
      clear c
      show Oper.wp _ _ _ _ _ _
      unfold Oper.wp
      simp only [execOp, resolve, e32]
      go_simp; try go_bits
      exact ⟨_, rfl, Only.refl _ _, rfl⟩
    · intro a wx c
      have e33 : a.eval (.tmp 33) = .pointer (some ⟨b, 4, none⟩) := c.slot 19 _ (by decide +kernel) rfl
      have hc := c.cell (p := ⟨b, 4, none⟩) (v := .int .i64 x.lim) (cell_of_heap hb rfl) (fun _ h => h.elim)
      clear c
      show Oper.wp _ _ _ _ _ _
      unfold Oper.wp
      simp only [execOp, resolve, e33]
      go_simp; try go_bits
      exact ⟨_, rfl, Only.refl _ _, rfl⟩
    · intro a wx c
      have e5 : a.eval (.tmp 5) = .pointer (some ⟨b, 0, none⟩) := c.outE (by decide +kernel) h5
      clear c
      show Oper.wp _ _ _ _ _ _
      unfold Oper.wp
      simp only [execOp, resolve, e5]
      go_simp; try go_bits
      exact ⟨_, rfl, Only.refl _ _, rfl⟩
    · intro a wx c
      have e35 : a.eval (.tmp 35) = .pointer (some ⟨b, 0, none⟩) := c.slot 21 _ (by decide +kernel) rfl
      clear c
      show Oper.wp _ _ _ _ _ _
      unfold Oper.wp
      simp only [execOp, resolve, e35]
      go_simp; try go_bits
      exact ⟨_, rfl, Only.refl _ _, rfl⟩
    · intro a wx c
      have e36 : a.eval (.tmp 36) = .pointer (some ⟨b, 0, none⟩) := c.slot 22 _ (by decide +kernel) rfl
      clear c
      show Oper.wp _ _ _ _ _ _
      unfold Oper.wp
      simp only [execOp, resolve, e36]
      go_simp; try go_bits
      exact ⟨_, rfl, Only.refl _ _, rfl⟩
    · intro a wx c
      have e37 : a.eval (.tmp 37) = .pointer (some ⟨b, 5, none⟩) := c.slot 23 _ (by decide +kernel) rfl
      have hc := c.cell (p := ⟨b, 5, none⟩) (v := .int .i64 x.off) (cell_of_heap hb rfl) (fun _ h => h.elim)
      clear c
      show Oper.wp _ _ _ _ _ _
      unfold Oper.wp
      simp only [execOp, resolve, e37]
      go_simp; try go_bits
      exact ⟨_, rfl, Only.refl _ _, rfl⟩
    · intro a wx c
      have e5 : a.eval (.tmp 5) = .pointer (some ⟨b, 0, none⟩) := c.outE (by decide +kernel) h5
      clear c
      show Oper.wp _ _ _ _ _ _
      unfold Oper.wp
      simp only [execOp, resolve, e5]
      go_simp; try go_bits
      exact ⟨_, rfl, Only.refl _ _, rfl⟩
    · intro a wx c
      have e39 : a.eval (.tmp 39) = .pointer (some ⟨b, 0, none⟩) := c.slot 25 _ (by decide +kernel) rfl
      clear c
      show Oper.wp _ _ _ _ _ _
      unfold Oper.wp
      simp only [execOp, resolve, e39]
      go_simp; try go_bits
      exact ⟨_, rfl, Only.refl _ _, rfl⟩
    · intro a wx c
      have e40 : a.eval (.tmp 40) = .pointer (some ⟨b, 0, none⟩) := c.slot 26 _ (by decide +kernel) rfl
      clear c
      show Oper.wp _ _ _ _ _ _
      unfold Oper.wp
      simp only [execOp, resolve, e40]
      go_simp; try go_bits
      exact ⟨_, rfl, Only.refl _ _, rfl⟩
    · intro a wx c
      have e41 : a.eval (.tmp 41) = .pointer (some ⟨b, 6, none⟩) := c.slot 27 _ (by decide +kernel) rfl
      have hc := c.cell (p := ⟨b, 6, none⟩) (v := .pointer none) (cell_of_heap hb rfl) (fun _ h => h.elim)
      clear c
      show Oper.wp _ _ _ _ _ _
      unfold Oper.wp
      simp only [execOp, resolve, e41]
      go_simp; try go_bits
      exact ⟨_, rfl, Only.refl _ _, rfl⟩
    · intro a wx c
      have e42 : a.eval (.tmp 42) = .pointer none := c.slot 28 _ (by decide +kernel) rfl
      clear c
      show Oper.wp _ _ _ _ _ _
      unfold Oper.wp
      simp only [execOp, resolve, List.map_toArray, List.map_cons, List.map_nil, e42]
      go_simp
      refine (keyOf_nil _).mono ?_
      rintro e w' ⟨rfl, rfl⟩
      exact ⟨_, rfl, Only.refl _ _, rfl⟩
    · intro a wx c
      have e5 : a.eval (.tmp 5) = .pointer (some ⟨b, 0, none⟩) := c.outE (by decide +kernel) h5
      clear c
      show Oper.wp _ _ _ _ _ _
      unfold Oper.wp
      simp only [execOp, resolve, e5]
      go_simp; try go_bits
      exact ⟨_, rfl, Only.refl _ _, rfl⟩
    · intro a wx c
      have e44 : a.eval (.tmp 44) = .pointer (some ⟨b, 0, none⟩) := c.slot 30 _ (by decide +kernel) rfl
      clear c
      show Oper.wp _ _ _ _ _ _
      unfold Oper.wp
      simp only [execOp, resolve, e44]
      go_simp; try go_bits
      exact ⟨_, rfl, Only.refl _ _, rfl⟩
    · intro a wx c
      have e45 : a.eval (.tmp 45) = .pointer (some ⟨b, 0, none⟩) := c.slot 31 _ (by decide +kernel) rfl
      clear c
      show Oper.wp _ _ _ _ _ _
      unfold Oper.wp
      simp only [execOp, resolve, e45]
      go_simp; try go_bits
      exact ⟨_, rfl, Only.refl _ _, rfl⟩
    · intro a wx c
      have e46 : a.eval (.tmp 46) = .pointer (some ⟨b, 7, none⟩) := c.slot 32 _ (by decide +kernel) rfl
      have hc := c.cell (p := ⟨b, 7, none⟩) (v := .pointer none) (cell_of_heap hb rfl) (fun _ h => h.elim)
      clear c
      show Oper.wp _ _ _ _ _ _
      unfold Oper.wp
      simp only [execOp, resolve, e46]
      go_simp; try go_bits
      exact ⟨_, rfl, Only.refl _ _, rfl⟩
    · intro a wx c
      have e47 : a.eval (.tmp 47) = .pointer none := c.slot 33 _ (by decide +kernel) rfl
      clear c
      show Oper.wp _ _ _ _ _ _
      unfold Oper.wp
      simp only [execOp, resolve, List.map_toArray, List.map_cons, List.map_nil, e47]
      go_simp
      refine (mapOf_nil _).mono ?_
      rintro e w' ⟨rfl, rfl⟩
      exact ⟨_, rfl, Only.refl _ _, rfl⟩
    · intro a wx c
      have e5 : a.eval (.tmp 5) = .pointer (some ⟨b, 0, none⟩) := c.outE (by decide +kernel) h5
      clear c
      show Oper.wp _ _ _ _ _ _
      unfold Oper.wp
      simp only [execOp, resolve, e5]
      go_simp; try go_bits
      exact ⟨_, rfl, Only.refl _ _, rfl⟩
    · intro a wx c
      have e49 : a.eval (.tmp 49) = .pointer (some ⟨b, 0, none⟩) := c.slot 35 _ (by decide +kernel) rfl
      clear c
      show Oper.wp _ _ _ _ _ _
      unfold Oper.wp
      simp only [execOp, resolve, e49]
      go_simp; try go_bits
      exact ⟨_, rfl, Only.refl _ _, rfl⟩
    · intro a wx c
      have e50 : a.eval (.tmp 50) = .pointer (some ⟨b, 0, none⟩) := c.slot 36 _ (by decide +kernel) rfl
      clear c
      show Oper.wp _ _ _ _ _ _
      unfold Oper.wp
      simp only [execOp, resolve, e50]
      go_simp; try go_bits
      exact ⟨_, rfl, Only.refl _ _, rfl⟩
    · intro a wx c
      have e51 : a.eval (.tmp 51) = .pointer (some ⟨b, 9, none⟩) := c.slot 37 _ (by decide +kernel) rfl
      have hc := c.cell (p := ⟨b, 9, none⟩) (v := .pointer (some ⟨k, 0, none⟩)) (cell_of_heap hb (by rw [Sg.cells, Sg.ptr, hsc]; rfl)) (fun _ h => h.elim)
      clear c
      show Oper.wp _ _ _ _ _ _
      unfold Oper.wp
      simp only [execOp, resolve, e51]
      go_simp; try go_bits
      exact ⟨_, rfl, Only.refl _ _, rfl⟩
    · intro a wx c
      have e52 : a.eval (.tmp 52) = .pointer (some ⟨k, 0, none⟩) := c.slot 38 _ (by decide +kernel) rfl
      show Oper.wp _ _ _ _ _ _
      have hkl := (Array.getElem?_eq_some_iff.1 hk).1
      have hkx : wx.heap[k]? = some (.cells cu.scte 120 (0, 0)) := (c.only.block k hkl (fun ⟨_, h⟩ => h)).trans hk
      have hsz := c.only.size
      clear c
      unfold Oper.wp
      simp only [execOp, resolve, List.map_toArray, List.map_cons, List.map_nil, e52]
      go_simp
      refine (cueOf_some cu k wx hkx hs).mono ?_
      rintro e w' ⟨g, rfl, hg, hg2, hbl⟩
      exact ⟨_, rfl, Only.of_below hbl, g, Nat.le_trans hsz hg, rfl, hg2⟩
    · intro a wx c
      have e5 : a.eval (.tmp 5) = .pointer (some ⟨b, 0, none⟩) := c.outE (by decide +kernel) h5
      clear c
      show Oper.wp _ _ _ _ _ _
      unfold Oper.wp
      simp only [execOp, resolve, e5]
      go_simp; try go_bits
      exact ⟨_, rfl, Only.refl _ _, rfl⟩
    · intro a wx c
      have e54 : a.eval (.tmp 54) = .pointer (some ⟨b, 0, none⟩) := c.slot 40 _ (by decide +kernel) rfl
      clear c
      show Oper.wp _ _ _ _ _ _
      unfold Oper.wp
      simp only [execOp, resolve, e54]
      go_simp; try go_bits
      exact ⟨_, rfl, Only.refl _ _, rfl⟩
    · intro a wx c
      have e55 : a.eval (.tmp 55) = .pointer (some ⟨b, 0, none⟩) := c.slot 41 _ (by decide +kernel) rfl
      clear c
      show Oper.wp _ _ _ _ _ _
      unfold Oper.wp
      simp only [execOp, resolve, e55]
      go_simp; try go_bits
      exact ⟨_, rfl, Only.refl _ _, rfl⟩
    · intro a wx c
      have e56 : a.eval (.tmp 56) = .pointer (some ⟨b, 8, none⟩) := c.slot 42 _ (by decide +kernel) rfl
      have hc := c.cell (p := ⟨b, 8, none⟩) (v := .bool false) (cell_of_heap hb rfl) (fun _ h => h.elim)
      clear c
      show Oper.wp _ _ _ _ _ _
      unfold Oper.wp
      simp only [execOp, resolve, e56]
      go_simp; try go_bits
      exact ⟨_, rfl, Only.refl _ _, rfl⟩
    · intro a wx c
      have e5 : a.eval (.tmp 5) = .pointer (some ⟨b, 0, none⟩) := c.outE (by decide +kernel) h5
      clear c
      show Oper.wp _ _ _ _ _ _
      unfold Oper.wp
      simp only [execOp, resolve, e5]
      go_simp; try go_bits
      exact ⟨_, rfl, Only.refl _ _, rfl⟩
    · intro a wx c
      have e58 : a.eval (.tmp 58) = .pointer (some ⟨b, 0, none⟩) := c.slot 44 _ (by decide +kernel) rfl
      clear c
      show Oper.wp _ _ _ _ _ _
      unfold Oper.wp
      simp only [execOp, resolve, e58]
      go_simp; try go_bits
      exact ⟨_, rfl, Only.refl _ _, rfl⟩
    · intro a wx c
      have e59 : a.eval (.tmp 59) = .pointer (some ⟨b, 0, none⟩) := c.slot 45 _ (by decide +kernel) rfl
      clear c
      show Oper.wp _ _ _ _ _ _
      unfold Oper.wp
      simp only [execOp, resolve, e59]
      go_simp; try go_bits
      exact ⟨_, rfl, Only.refl _ _, rfl⟩
    · intro a wx c
      have e60 : a.eval (.tmp 60) = .pointer (some ⟨b, 10, none⟩) := c.slot 46 _ (by decide +kernel) rfl
      have hc := c.cell (p := ⟨b, 10, none⟩) (v := .string ⟨#[]⟩) (cell_of_heap hb rfl) (fun _ h => h.elim)
      clear c
      show Oper.wp _ _ _ _ _ _
      unfold Oper.wp
      simp only [execOp, resolve, e60]
      go_simp; try go_bits
      exact ⟨_, rfl, Only.refl _ _, rfl⟩
    · intro a wx c
      have e18 : a.eval (.tmp 18) = .int .u64 j := c.slot 4 _ (by decide +kernel) rfl
      have e22 : a.eval (.tmp 22) = .string ⟨#[]⟩ := c.slot 8 _ (by decide +kernel) rfl
      have e26 : a.eval (.tmp 26) = .string x.uri := c.slot 12 _ (by decide +kernel) rfl
      have e30 : a.eval (.tmp 30) = .float .f64 4607182418800017408 := c.slot 16 _ (by decide +kernel) rfl
      have e34 : a.eval (.tmp 34) = .int .i64 x.lim := c.slot 20 _ (by decide +kernel) rfl
      have e38 : a.eval (.tmp 38) = .int .i64 x.off := c.slot 24 _ (by decide +kernel) rfl
      have e43 : a.eval (.tmp 43) = .slice none 0 0 := c.slot 29 _ (by decide +kernel) rfl
      have e48 : a.eval (.tmp 48) = .slice none 0 0 := c.slot 34 _ (by decide +kernel) rfl
      obtain ⟨g53, k53, e53, h53⟩ : Asr.holds _ (Asr.blk (fun g => .slice (some ⟨g, 0, none⟩) 1 1) 46 cu.list.toArray) (a.eval (.tmp 53)) wx := c.slot 39 _ (by decide +kernel) rfl
      have e57 : a.eval (.tmp 57) = .bool false := c.slot 43 _ (by decide +kernel) rfl
      have e61 : a.eval (.tmp 61) = .string ⟨#[]⟩ := c.slot 47 _ (by decide +kernel) rfl
      clear c
      show Oper.wp _ _ _ _ _ _
      unfold Oper.wp
      simp only [execOp, List.map_toArray, List.map_cons, List.map_nil, e18, e22, e26, e30, e34, e38, e43, e48, e53, e57, e61]
      go_simp
      exact ⟨_, rfl, Only.refl _ _, _, ⟨g53, k53, rfl, h53⟩, rfl⟩
    · intro a wx c
      obtain p62 : (OsAgg w.heap.size j x (some cu)) (a.eval (.tmp 62)) wx := c.slot 48 _ (by decide +kernel) rfl
      obtain ⟨cv, hcv, e62⟩ := p62
      have hsz := c.only.size
      clear c
      show Oper.wp _ _ _ _ _ _
      unfold Oper.wp
      simp only [execOp, List.map_toArray, List.map_cons, List.map_nil, e62]
      unfold Os.list
      go_simp
      have hal : Below wx.heap.size wx (wx.alloc (Obj.cells (Os.list ⟨j, x, cv⟩).toArray 31)) := (Below.refl _ _).alloc (Nat.le_refl _) _
      exact ⟨_, rfl, Only.of_below hal, _, cv, by simpa using hsz, rfl, heap_alloc_new _ _, hcv.keep fun g hg => hal.block g hg⟩
  · intro a1 w1 c hbl
    have r0 : a1.eval (.tmp 14) = out := c.slot 0 _ (by decide) rfl
    obtain ⟨q, cv, _, r49, hq, hcv⟩ : OsLaid w.heap.size j x (some cu) (a1.eval (.tmp 63)) w1 := c.slot 49 _ (by decide) rfl
    have ha := frame_head c [14, 15, 16, 17, 18, 19, 20, 21, 22, 23, 24, 25, 26, 27, 28, 29, 30, 31, 32, 33, 34, 35, 36, 37, 38, 39, 40, 41, 42, 43, 44, 45, 46, 47, 48, 49, 50, 51, 52, 53, 54, 55, 56, 57, 58, 59, 60, 61, 62, 63] (by kernel_rfl)
    have hsz1 := c.size
    clear c
    simp only [List.drop_succ_cons, List.drop_zero]
    have ho1 := Own.below hown hbl
    refine arm_append (f := Os.list) 39 Tryd.underlying39 hiP hzP hsP hbP (by rfl) (by decide) (fun _ => rfl) os_one ⟨j, x, cv⟩ r0 r49 hq ho1 (Nat.le_trans hB hbl.size) (by omega) (by omega) ?_
    intro v2 w2 ho2 hon2
    refine arm_run rfl (v := v2) (w' := w2) ?_ ?_
    · simp only [execOp]
      rw [ev_eq (by rw [hsz1, hsz]; decide)]
      go_simp
    refine wpList_nil ?_
    rw [ha]
    exact hK _ _ _ _ _ _ _ _ _ _ _ _ _ _ _ _ _ _ _ _ _ _ _ _ _ _ _ _ _ _ _ _ _ _ _ _ _ _ _ _ _ _ _ _ _ _ _ _ _ _ v2 cv w1 w2 ho2 hcv hbl ho1 hon2
end Go.Proofs.YtbehijhpichniaaDoor
