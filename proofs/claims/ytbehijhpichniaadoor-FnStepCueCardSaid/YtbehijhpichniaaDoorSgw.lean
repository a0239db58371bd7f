/- The walk of impl.segmentsOf. -/
import Derived.Test.YtbehijhpichniaaDoorSgo
namespace Go.Proofs.YtbehijhpichniaaDoor
open Go.RowKit
/-- What the told segments are: those of the playlist in their order, with new cues. -/
structure Told (B : Nat) (segs : List Sg) (L : List Os) (w : World) : Prop where
  len : L.length ≤ segs.length
  at_ : ∀ (j : Nat) (h : j < L.length) (h' : j < segs.length), (L[j]'h).j = j ∧ (L[j]'h).x = segs[j]'h' ∧ CuesNew ((segs[j]'h').sc.map Prod.snd) B (L[j]'h).cv w
theorem Told.nil (B : Nat) (segs : List Sg) (w : World) : Told B segs [] w := ⟨Nat.zero_le _, fun j h _ => by simp at h⟩
theorem Told.keep {B : Nat} {segs : List Sg} {L : List Os} {w w' : World} (h : Told B segs L w) (hh : ∀ oc v, CuesNew oc B v w → CuesNew oc B v w') : Told B segs L w' := ⟨h.len, fun j h1 h2 => ⟨(h.at_ j h1 h2).1, (h.at_ j h1 h2).2.1, hh _ _ (h.at_ j h1 h2).2.2⟩⟩
theorem Told.snoc {B : Nat} {segs : List Sg} {L : List Os} {w : World} {o : Os} (h : Told B segs L w) (hl : L.length < segs.length) (hj : o.j = L.length) (hx : o.x = segs[L.length]'hl) (hc : CuesNew ((segs[L.length]'hl).sc.map Prod.snd) B o.cv w) : Told B segs (L ++ [o]) w := by
  refine ⟨by rw [List.length_append]; simp; omega, fun j h1 h2 => ?_⟩
  rw [List.length_append] at h1
  by_cases hjl : j < L.length
  · rw [List.getElem_append_left hjl]
    exact h.at_ j hjl h2
  · obtain rfl : j = L.length := by simp at h1; omega
    rw [List.getElem_append_right (Nat.le_refl _)]
    simp only [Nat.sub_self, List.getElem_cons_zero]
    exact ⟨hj, hx, hc⟩
theorem CuesNew.base {oc : Option Cu} {B B' : Nat} {v : Value} {w : World} (h : CuesNew oc B v w) (hB : B' ≤ B) : CuesNew oc B' v w := by
  cases oc with
  | none => exact h
  | some c =>
    obtain ⟨g, hg, hv, hh⟩ := h
    exact ⟨g, Nat.le_trans hB hg, hv, hh⟩
/-- A push into the told segments' slice turns no cue. -/
theorem CuesNew.push {oc : Option Cu} {B B' : Nat} {v out : Value} {L : List Os} {w w' : World} (h : CuesNew oc B v w) (ho : Own Os.list 31 11 w B' out L) (hon : Only (fun g => out.ownBlock = some g) w w') : CuesNew oc B v w' := by
  cases oc with
  | none => exact h
  | some c =>
    obtain ⟨g, hg, hv, hh⟩ := h
    refine ⟨g, hg, hv, (hon.block g (Array.getElem?_eq_some_iff.1 hh).1 fun e => ?_).trans hh⟩
    obtain ⟨cur, hcur⟩ := ho.elem g e
    exact tag_ne hcur hh (by decide) rfl
set_option maxRecDepth 100000 in
set_option maxHeartbeats 8000000 in
theorem segmentsOf_any (B : Nat) (s : Pl) (v : Value) (w : World) (h : PlAt B s w) (hv : Ptrs w 0 v (s.segs.map Sg.g)) (hs : ∀ x ∈ s.segs, ∀ k c, x.sc = some (k, c) → c.syn < 100 ∧ c.typ < 100) :
    Calls Tryd.prog 30 #[v] w (fun e w' => ∃ out L, e = .returned out ∧ Own Os.list 31 11 w' w.heap.size out L ∧ L.length = s.segs.length ∧ Told w.heap.size s.segs L w' ∧ Below w.heap.size w w') := by
  have hlen := h.len
  obtain ⟨A, cap, rfl, hA⟩ := hv.shape
  rw [List.length_map] at *
  go_enter Tryd.func30, Tryd.ntmps30
  go_wp2
  go_loopg [3, 8] (s.segs.length) (fun m out i wx => ∃ (k : Nat) (L : List Os), k ≤ s.segs.length ∧ m = s.segs.length - k ∧ i = .int .i64 k ∧ L.length = k ∧ Own Os.list 31 11 wx w.heap.size out L ∧ Told w.heap.size s.segs L wx ∧ Below w.heap.size w wx)
  case atStart => exact ⟨0, [], Nat.zero_le _, rfl, rfl, rfl, Own.nil _ _ _ _ _, Told.nil _ _ _, Below.refl _ _⟩
  case round =>
    obtain ⟨k, L, hk, rfl, rfl, hLk, hO, hT, hB⟩ := hrel
    by_cases hlt : k < s.segs.length
    · have hP := h.below hB
      have hb := hP.seg k hlt
      obtain ⟨gv, rfl⟩ := hA (by intro e; rw [List.map_eq_nil_iff] at e; rw [e] at hlt; simp at hlt)
      have hpt : wr.cell? ⟨gv, k, none⟩ = some (.pointer (some ⟨(s.segs[k]'hlt).g, 0, none⟩)) := by
        have := (Own.below hv hB)
        have h2 := Own.cells_at (k := 1) (fun _ => rfl) (by decide) (i := k) (j := 0) (by rw [List.length_map] at *; exact this) (by simpa using hlt) (by decide)
        simpa using h2
      have hsck := hP.sct _ (List.getElem_mem hlt)
      have hcs := hs _ (List.getElem_mem hlt)
      clear hsck hcs
      subst hLk
      have hq := hP.sct _ (List.getElem_mem hlt)
      have hcs := hs _ (List.getElem_mem hlt)
      have hlen2 : L.length ≤ 1000 := by omega
      cases hsc : (s.segs[L.length]'hlt).sc with
      | none =>
        clear hq hcs
        go_upto_region 6 with fail
        refine sgo_none (b := (s.segs[L.length]'hlt).g) (j := L.length) (x := s.segs[L.length]'hlt) (out := u3) (B := w.heap.size) (L := L) ?_ ?_ ?_ hb hO hB.size hlen2 hsc ?_
        · rfl
        · rfl
        · rfl
        intro y14 y15 y16 y17 y18 y19 y20 y21 y22 y23 y24 y25 y26 y27 y28 y29 y30 y31 y32 y33 y34 y35 y36 y37 y38 y39 y40 y41 y42 y43 y44 y45 y46 y47 y48 y49 y50 y51 y52 y53 y54 y55 y56 y57 y58 y59 y60 y61 y62 y63 v2 cv wm w2 ho2 hcn hbm ho1 hon2
        have hT2 : Told w.heap.size s.segs (L ++ [⟨L.length, s.segs[L.length]'hlt, cv⟩]) w2 := by
          refine Told.snoc ((hT.keep fun oc v h => h.keep fun g hg => hbm.block g hg).keep fun oc v h => h.push ho1 hon2) hlt rfl rfl ?_
          rw [hsc]
          exact (hcn.base hB.size).push ho1 hon2
        have hB2 : Below w.heap.size w w2 := (hB.trans (hbm.mono hB.size)).trans (hon2.below (Nat.le_trans hB.size hbm.size) fun g hg e => by have := (ho1.block_lt g e).1; omega)
        clear hP hb hpt hO hT hB hcn hbm ho1 hon2
        go_frame
        go_wp2_with fail
        go_roundg (s.segs.length - (L.length + 1))
        case measure => omega
        case rel => exact ⟨L.length + 1, _, by omega, rfl, by go_num, by simp, ho2, hT2, hB2⟩
      | some kc =>
        obtain ⟨kk, cu⟩ := kc
        have hk := (hq kk cu hsc).2
        have hcu := hcs kk cu hsc
        clear hq hcs
        go_upto_region 6 with fail
        refine sgo_some (b := (s.segs[L.length]'hlt).g) (j := L.length) (x := s.segs[L.length]'hlt) (out := u3) (B := w.heap.size) (L := L) (k := kk) (cu := cu) ?_ ?_ ?_ hb hO hB.size hlen2 hsc hk hcu ?_
        · rfl
        · rfl
        · rfl
        intro y14 y15 y16 y17 y18 y19 y20 y21 y22 y23 y24 y25 y26 y27 y28 y29 y30 y31 y32 y33 y34 y35 y36 y37 y38 y39 y40 y41 y42 y43 y44 y45 y46 y47 y48 y49 y50 y51 y52 y53 y54 y55 y56 y57 y58 y59 y60 y61 y62 y63 v2 cv wm w2 ho2 hcn hbm ho1 hon2
        have hT2 : Told w.heap.size s.segs (L ++ [⟨L.length, s.segs[L.length]'hlt, cv⟩]) w2 := by
          refine Told.snoc ((hT.keep fun oc v h => h.keep fun g hg => hbm.block g hg).keep fun oc v h => h.push ho1 hon2) hlt rfl rfl ?_
          rw [hsc]
          exact (hcn.base hB.size).push ho1 hon2
        have hB2 : Below w.heap.size w w2 := (hB.trans (hbm.mono hB.size)).trans (hon2.below (Nat.le_trans hB.size hbm.size) fun g hg e => by have := (ho1.block_lt g e).1; omega)
        clear hP hb hpt hO hT hB hcn hbm ho1 hon2
        go_frame
        go_wp2_with fail
        go_roundg (s.segs.length - (L.length + 1))
        case measure => omega
        case rel => exact ⟨L.length + 1, _, by omega, rfl, by go_num, by simp, ho2, hT2, hB2⟩
    · have hkk : k = s.segs.length := by omega
      clear hlt
      go_wp2_with fail
      go_ret
      exact ⟨_, L, rfl, hO, by omega, hT, hB⟩
end Go.Proofs.YtbehijhpichniaaDoor
