/- The walk of pub/m3u8.decodeParamsLine. -/
import Derived.Test.YtbehijhpichniaaMap
import Derived.Test.YtbehijhpichniaaSrt
namespace Go.Proofs.Ytbehijhpichniaa
open Go.RowKit
/-- What pub/m3u8.decodeParamsLine hands back: a map that holds these pairs. -/
def MapPost (G : List Tr) (w : World) (e : Ending) (w' : World) : Prop := ∃ (b n : Nat) (D : DataW Unit), e = .returned (.map (some b)) ∧ w'.ownsMap Try.prog 9 (plainElem Try.prog 9) b n D ∧ MapIs D G ∧ w.heap.size ≤ b ∧ Below w.heap.size w w'
theorem ownsMap_below {P : Program} {k : TypeId} {R : Value → Option (DataW Unit × List MemPlace)} {w w' : World} {b n : Nat} {D : DataW Unit} (h : w.ownsMap P k R b n D) (hb : Below w.heap.size w w') : w'.ownsMap P k R b n D :=
  h.kept (row := none) ⟨hb.os, hb.tape, hb.output, hb.size, fun i hi _ => hb.block i hi⟩ (by simp)
/-- An element's cells. -/
theorem Own.cells_at {α : Type} {f : α → List Value} {e : TypeId} {k : Nat} {w : World} {B g cap : Nat} {L : List α} (hf : ∀ x, (f x).length = k) (hk : 0 < k) (h : Own f e k w B (.slice (some ⟨g, 0, none⟩) L.length cap) L) {i j : Nat} (hi : i < L.length) (hj : j < k) : w.cell? ⟨g, i * k + j, none⟩ = (f (L[i]'hi))[j]? := by
  have hne : L ≠ [] := by intro e; rw [e] at hi; simp at hi
  obtain ⟨g', cap', cur, hv, _, hh, _, ht⟩ := h.form hne
  injection hv with h1 h2 h3
  injection h1 with h1
  injection h1 with h1 _ _
  subst h1
  have hlt : i * k + j < L.length * k := by
    have : (i + 1) * k ≤ L.length * k := Nat.mul_le_mul_right k hi
    rw [Nat.add_mul, Nat.one_mul] at this
    omega
  have h4 : (cur.toList.take (L.length * k))[i * k + j]? = cur.toList[i * k + j]? := List.getElem?_take_of_lt hlt
  have h5 := flat_get hf hk L (i * k + j)
  rw [← ht, h4] at h5
  have h6 : (i * k + j) / k = i := by rw [Nat.mul_comm, Nat.mul_add_div hk, Nat.div_eq_of_lt hj]; rfl
  have h7 : (i * k + j) % k = j := by rw [Nat.mul_comm, Nat.mul_add_mod, Nat.mod_eq_of_lt hj]
  rw [h6, h7, List.getElem?_eq_getElem hi] at h5
  simp only [World.cell?, hh]
  simpa using h5
/-- Between two rounds. -/
structure Dk (G : List Tr) (w : World) (v : Value) (L : List Tr) (k : Nat) (wx : World) : Prop where
  map : ∃ D : DataW Unit, wx.ownsMap Try.prog 9 (plainElem Try.prog 9) w.heap.size k D ∧ MapIs D (G.take k)
  kv : Own prT 37 2 wx (w.heap.size + 1) v L
  below : Below w.heap.size w wx
/-- The pairs found are the pairs meant. -/
theorem kv_pairs {tx : ByteArray} {G L : List Tr} (hG : ∀ t ∈ G, t.Good) (htx : tx.data.toList = joinL (G.map Tr.text)) (hL : L.map Tr.two = kvAll tx.data.toList) :
    L.length = G.length ∧ ∀ (k : Nat) (h : k < L.length) (h' : k < G.length), (L[k]'h).name = (G[k]'h').name ∧ trimR (trimL (L[k]'h).value.data.toList) = (G[k]'h').value.data.toList ∧ (L[k]'h).value.size ≤ 1000 ∧ (L[k]'h).name.size ≤ 1000 := by
  rw [htx, kvAll_join hG] at hL
  have hlen : L.length = G.length := by simpa using congrArg List.length hL
  refine ⟨hlen, fun k h h' => ?_⟩
  have h1 : (L.map Tr.two)[k]? = (G.map fun t => (t.name.data.toList, t.raw))[k]? := by rw [hL]
  rw [List.getElem?_map, List.getElem?_map, List.getElem?_eq_getElem h, List.getElem?_eq_getElem h'] at h1
  have h2 := Option.some.inj h1
  have h3 := congrArg Prod.fst h2
  have h4 := congrArg Prod.snd h2
  simp only [Tr.two] at h3 h4
  have hg := hG _ (List.getElem_mem h')
  refine ⟨ba_ext h3, by rw [h4]; exact trim_raw hg, ?_, ?_⟩
  · rw [← len_data, h4]
    have := hg.size
    have := len_data (G[k]'h').value
    unfold Tr.raw
    split
    · simp only [List.length_cons, List.length_append, List.length_nil]; omega
    · omega
  · rw [ba_ext h3]; have := hg.size; omega
set_option maxRecDepth 100000 in
set_option maxHeartbeats 8000000 in
theorem decode_any (tx : ByteArray) (G : List Tr) (hG : ∀ t ∈ G, t.Good) (hnd : (G.map Tr.name).Nodup) (hne : G ≠ []) (hlen : G.length ≤ 100) (htx : tx.data.toList = joinL (G.map Tr.text)) (hsz : tx.size ≤ 1000000) (w : World) :
    Calls Try.prog 20 #[.string tx] w (MapPost G w) := by
  have hpos : 0 < G.length := List.length_pos_iff.2 hne
  have hmm := @run_makeMap Try.prog
  go_enter Try.func20, Try.ntmps20
  go_wp2_with (go_at_call 23; refine (keyValue_any tx _ hsz).mono ?_; rintro e w1 ⟨sp, L, rfl, hLk, hLl, hown, hb⟩; obtain ⟨hLG, hkv⟩ := kv_pairs hG htx hLk; clear hLk htx; obtain ⟨g, cap, cur, rfl, _⟩ := hown.form (by intro e; rw [e] at hLG; simp at hLG; omega))
  have hbA : Below w.heap.size w (w.alloc (.map #[] 0)) := (Below.refl _ _).alloc (Nat.le_refl _) _
  have hb1 : Below w.heap.size w w1 := hbA.trans (hb.mono (by simp))
  have hm0 : w1.ownsMap Try.prog 9 (plainElem Try.prog 9) w.heap.size 0 (.map [] : DataW Unit) := ownsMap_below (World.ownsMap_made w _ _ _) hb
  have hD0 : Dk G w (.slice (some ⟨g, 0, none⟩) L.length cap) L 0 w1 := ⟨⟨_, hm0, by rw [List.take_zero]; exact MapIs.nil⟩, by simpa using hown, hb1⟩
  clear hb hbA hb1 hm0 hown hmm
  have HG := Lib.hid hG
  clear hG hne
  go_loopg [12] (G.length) (fun m i wx => ∃ k : Nat, k ≤ G.length ∧ m = G.length - k ∧ i = .int .i64 k ∧ Dk G w (.slice (some ⟨g, 0, none⟩) L.length cap) L k wx)
  case atStart => exact ⟨0, Nat.zero_le _, rfl, rfl, hD0⟩
  case round =>
    obtain ⟨k, hk, rfl, rfl, hD⟩ := hrel
    clear hD0
    by_cases hlt : k < G.length
    · have hkL : k < L.length := by omega
      have hc0 := hD.kv.cells_at (k := 2) (fun _ => rfl) (by decide) (j := 0) hkL (by decide)
      have hc1 := hD.kv.cells_at (k := 2) (fun _ => rfl) (by decide) (j := 1) hkL (by decide)
      obtain ⟨hn, hv, hzs, hns⟩ := hkv k hkL hlt
      have htr := trim_any (L[k]'hkL).value
      generalize L[k]'hkL = t at *
      simp only [prT, List.getElem?_cons_zero, List.getElem?_cons_succ, Nat.add_zero] at hc0 hc1
      go_upto_region 5 with fail
      go_quiet (fail)
      have hbq : Below wr.heap.size wr ((wr.alloc (Obj.cells #[.string (G[k]'hlt).name, .string t.value] 37)).drewN nq) := by
        have h1 : Below wr.heap.size wr (wr.alloc (Obj.cells #[.string (G[k]'hlt).name, .string t.value] 37)) := (Below.refl _ _).alloc (Nat.le_refl _) _
        exact ⟨h1.os, h1.tape, h1.output, h1.size, h1.block⟩
      generalize ((wr.alloc (Obj.cells #[.string (G[k]'hlt).name, .string t.value] 37)).drewN nq) = wq at *
      clear hc0 hc1
      obtain ⟨⟨D, hm, hD1⟩, hD2, hD3⟩ := hD
      have hm := ownsMap_below hm hbq
      have hD2 := hD2.below hbq
      have hD3 := hD3.trans (hbq.mono hD3.size)
      clear hbq
      have hnew : ∀ g ∈ G.take k, g.name ≠ (G[k]'hlt).name := by
        intro g hg e
        obtain ⟨i, hi, rfl⟩ := List.mem_iff_getElem.1 hg
        rw [List.length_take] at hi
        rw [List.getElem_take] at e
        have h1 := List.pairwise_iff_getElem.1 hnd i k (by rw [List.length_map]; omega) (by rw [List.length_map]; omega) (by omega)
        rw [List.getElem_map, List.getElem_map] at h1
        exact h1 e
      have hxv : (G[k]'hlt).value.size ≤ maxLen := by have := (HG.out _ (List.getElem_mem hlt)).size; unfold maxLen; omega
      have hkey : keyOf Try.prog 9 (.string (G[k]'hlt).name) = some (.string (G[k]'hlt).name.data.toList) := Go.WideMaps.keyOf_string_mk Try.underlying9 (by rw [← hn]; unfold maxLen; omega)
      have hD4 := hD1.put (G[k]'hlt) hnew
      rw [← List.take_succ_eq_append_getElem hlt] at hD4
      generalize hgk : G[k]'hlt = x at *
      have hD4 := Lib.hid hD4
      have hv := Lib.hid hv
      clear hnew hD1 HG hgk hkv hn
      go_wp2_with (first | (go_at_call 24; refine (htr _ (by omega)).mono ?_; rintro e w' ⟨s, rfl, hs, rfl⟩; have hsx := ba_ext (hs.trans hv.out); subst hsx; clear hs) | (at_mapUpdate; refine wpList_mapUpdate_own _ rfl _ _ _ 49 rfl 9 9 (Go.Maps.string_keyed Try.underlying9) Try.underlying49 _ w.heap.size k D rfl hm (by unfold maxLen; omega) _ _ _ rfl rfl hkey _ _ (plainElem_string Try.underlying9 hxv) ?_; intro w2 hm2 hg2))
      have hD5 : Dk G w (.slice (some ⟨g, 0, none⟩) L.length cap) L (k + 1) w2 := by
        refine ⟨⟨_, hm2, hD4.out⟩, hD2.kept hg2 ?_, hD3.grown hg2 hD3.size (by intro i hi; cases hi; exact Nat.le_refl _)⟩
        have := (hD2.block_lt g rfl).1
        right
        intro e
        have : g = w.heap.size := by simpa [Value.ownBlock] using e
        omega
      clear hD2 hD3 hD4 hm2 hg2 hm
      go_roundg (G.length - (k + 1))
      case measure => omega
      case rel => exact ⟨k + 1, by omega, rfl, by go_num, hD5⟩
    · obtain rfl : k = G.length := by omega
      clear hlt hkv HG
      go_wp2_with fail
      go_ret
      obtain ⟨⟨D, hm, hD1⟩, _, hD3⟩ := hD
      rw [List.take_length] at hD1
      exact ⟨w.heap.size, G.length, D, rfl, hm, hD1, Nat.le_refl _, hD3⟩
end Go.Proofs.Ytbehijhpichniaa
