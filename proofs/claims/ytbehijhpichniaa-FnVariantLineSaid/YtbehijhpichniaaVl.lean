/- The walk of laws.FnVariantLine. -/
import Derived.Test.YtbehijhpichniaaM3
import Derived.Test.YtbehijhpichniaaLine
import Derived.Test.YtbehijhpichniaaAtt
import Derived.Test.YtbehijhpichniaaLd
import Derived.Test.YtbehijhpichniaaEq2
namespace Go.Proofs.Ytbehijhpichniaa
open Go.RowKit
theorem joinL_len : ∀ {L : List ByteArray}, (∀ s ∈ L, s.size ≤ 300) → (joinL L).length ≤ 301 * L.length
  | [], _ => Nat.zero_le _
  | [s], h => by
    have := h s (by simp)
    rw [joinL_one, len_data]
    simp only [List.length_cons, List.length_nil]
    omega
  | s :: t :: L, h => by
    have e : joinL (s :: t :: L) = s.data.toList ++ 44 :: joinL (t :: L) := joinL_cons _ _ (by simp)
    have h1 := h s (by simp)
    have h2 := joinL_len (L := t :: L) (fun x hx => h x (by simp [hx]))
    have h3 := len_data s
    rw [e]
    simp only [List.length_append, List.length_cons] at *
    omega
theorem line_fits {v : Vt} (hv : VOk v) {tx : ByteArray} (h : tx.data.toList = joinL v.attrs) : tx.size ≤ 8000 := by
  have hl := v.trs_len
  have h1 := joinL_len (L := v.attrs) (by
    intro s hs
    rw [v.attrs_trs] at hs
    obtain ⟨t, ht, rfl⟩ := List.mem_map.1 hs
    have := (Vt.trs_good hv t ht).size
    have := attr_size t.name t.value t.q
    show (attr _ _ _).size ≤ _
    omega)
  rw [← h, len_data, v.attrs_trs, List.length_map] at h1
  omega
/-- What the inner loops leave. -/
structure Fx (w : World) (sV : Value) (Vs : List Vt) (sW : Value) (T : List Tr) (sG : Value) (C : List Tr) (wx : World) : Prop where
  vs : Own Vt.list 32 13 wx w.heap.size sV Vs
  want : Own prT 37 2 wx w.heap.size sW T
  got : Own prT 37 2 wx w.heap.size sG C
  below : Below w.heap.size w wx
theorem Fx.next {w : World} {sV : Value} {Vs : List Vt} {sW : Value} {T : List Tr} {sG : Value} {C : List Tr} {wx wy : World} (h : Fx w sV Vs sW T sG C wx) (hb : Below wx.heap.size wx wy) : Fx w sV Vs sW T sG C wy :=
  ⟨h.vs.below hb, h.want.below hb, h.got.below hb, h.below.trans (hb.mono h.below.size)⟩
/-- Is a pair among these? -/
def hasTr (c : Tr) (L : List Tr) : Bool := L.any fun b => c.name.toList == b.name.toList && c.value.toList == b.value.toList
theorem hasTr_next (c : Tr) {L : List Tr} {p : Nat} (h : p < L.length) : hasTr c (L.take (p + 1)) = (hasTr c (L.take p) || (c.name.toList == (L[p]'h).name.toList && c.value.toList == (L[p]'h).value.toList)) := by
  unfold hasTr
  rw [List.take_succ_eq_append_getElem h, List.any_append]
  simp
theorem hasTr_of {c : Tr} {L : List Tr} (h : ∃ g ∈ L, g.name = c.name ∧ g.value = c.value) : hasTr c L = true := by
  obtain ⟨g, hg, e1, e2⟩ := h
  unfold hasTr
  rw [List.any_eq_true]
  exact ⟨g, hg, by rw [e1, e2]; simp⟩
/-- The last text's pairs. -/
def lastTrs : List Tr := [⟨⟨#[65]⟩, ⟨#[49]⟩, false⟩, ⟨⟨#[66]⟩, ⟨#[120]⟩, true⟩]
theorem lastTrs_good : ∀ t ∈ lastTrs, t.Good := by
  intro t ht
  simp only [lastTrs, List.mem_cons, List.not_mem_nil, or_false] at ht
  rcases ht with rfl | rfl
  · exact ⟨by simp, by decide +kernel, by simp, by decide +kernel, fun _ => by decide +kernel, by simp, by simp, by decide⟩
  · exact ⟨by simp, by decide +kernel, by simp, by decide +kernel, (fun h => nomatch h), by simp, by simp, by decide⟩
theorem lastTrs_nodup : (lastTrs.map Tr.name).Nodup := by
  have : ((lastTrs.map Tr.name).map fun s => s.data.toList).Nodup := by decide +kernel
  exact (List.pairwise_map.1 this).imp fun h e => h (by rw [e])
theorem lastTrs_text : (⟨#[65, 61, 49, 44, 66, 61, 34, 120, 34]⟩ : ByteArray).data.toList = joinL (lastTrs.map Tr.text) := by decide +kernel
def TruePost (w : World) (e : Ending) (w' : World) : Prop := e = .returned (.bool true) ∧ Below w.heap.size w w'
theorem masterBits (n : Nat) (hn : n < 4294967296) : ∃ m : Nat, m < 4294967296 ∧ ((n ||| 256 : Nat) : Int) = m := ⟨n ||| 256, Nat.or_lt_two_pow (n := 32) hn (by decide), rfl⟩
set_option maxRecDepth 100000 in
set_option maxHeartbeats 8000000 in
theorem variantLine_any (n : Nat) (A : Option Addr) (len cap : Nat) (w : World) (hn : n < 4294967296) (hA : U32s w A len) : Calls Try.prog 3 #[.slice A len cap, .int .u32 n] w (TruePost w) := by
  by_cases hl : len ≤ 100
  · have hm := fun w m (h : m < 4294967296) (hA : U32s w A len) => masterOf_any m A len cap w h (by omega) hA
    go_enter Try.func3, Try.ntmps3
    go_upto_region 7 with (go_at_call 4; refine (hm _ _ ?_ hA).mono ?_; (· exact Nat.mod_lt _ (by decide)); rintro e w1 ⟨ver, ind, sA, sV, sF, As, Vs, Fs, _, _, _, hVs, hVl, _, rfl, hAl, hV, _, hb⟩; obtain ⟨AV, capV, rfl, hAV⟩ := hV.shape; obtain ⟨AA, capA, rfl, _⟩ := hAl.shape; clear hAl)
    have hb2 : Below w.heap.size w (w1.alloc (Obj.cells #[.int .i64 ver, .bool ind, .slice AA As.length capA, .slice AV Vs.length capV] 27)) := hb.alloc hb.size _
    have hV2 : Own Vt.list 32 13 (w1.alloc (Obj.cells #[.int .i64 ver, .bool ind, .slice AA As.length capA, .slice AV Vs.length capV] 27)) w.heap.size (.slice AV Vs.length capV) Vs := hV.below ((Below.refl _ _).alloc (Nat.le_refl _) _)
    clear hb hV hm hA
    go_loopg [33] (Vs.length) (fun m i wx => ∃ k : Nat, k ≤ Vs.length ∧ m = Vs.length - k ∧ i = .int .i64 k ∧ Own Vt.list 32 13 wx w.heap.size (.slice AV Vs.length capV) Vs ∧ Below w.heap.size w wx)
    case atStart => exact ⟨0, Nat.zero_le _, rfl, rfl, hV2, hb2⟩
    case round =>
      obtain ⟨k, hk, rfl, rfl, hOV, hB⟩ := hrel
      clear hV2 hb2
      by_cases hlt : k < Vs.length
      · obtain ⟨gV, rfl⟩ := hAV (by intro e; rw [e] at hlt; simp at hlt)
        have hvk := hVs _ (List.getElem_mem hlt)
        go_upto_region 9 with (first | (refine arm_load_own (f := Vt.list) 32 Try.isAgg32 Try.sizeOf32 (fun _ => rfl) (by decide) hOV hlt ?_ ?_; (· rfl); generalize Vs[k]'hlt = v at *) | (refine arm_store_blk 32 Try.isAgg32 Try.sizeOf32 (g := wr.heap.size) (cs := v.cells) rfl rfl (heap_alloc_new _ _) rfl rfl (fun u hu => vt_one v u (by simpa [Vt.cells, Vt.list] using hu)) ?_; intro w3 h3 ho3))
        have hb3 : Below wr.heap.size wr w3 := ((Below.refl _ _).alloc (Nat.le_refl _) _).trans (ho3.below (by simp) (fun g hg e => by omega))
        have hV3 := hOV.below hb3
        have hB3 := hB.trans (hb3.mono hB.size)
        clear hb3 ho3 hOV hB hVs hAV
        have htne : v.trs ≠ [] := by simp [Vt.trs]
        have htlen := v.trs_len
        have HV := Lib.hid hvk
        clear hvk
        go_upto_region 10 with (first | (refine arm_load_blk 32 Try.isAgg32 Try.sizeOf32 (g := wr.heap.size) (cs := v.cells) rfl h3 rfl ?_) | (go_at_call 5; refine (line_of v HV.out _).mono ?_; rintro e w4 ⟨tx, sp, rfl, htx, _, hW, hb4⟩; obtain ⟨gW, capW, curW, rfl, _⟩ := hW.form htne))
        have hsz := line_fits HV.out htx
        rw [v.attrs_trs] at htx
        have hV4 := hV3.below hb4
        have hB4 := hB3.trans (hb4.mono hB3.size)
        have hW4 := hW.base hB3.size
        clear hb4 hV3 hB3 h3 hW
        have hat := fun w => attributesOf_any tx v.trs (Vt.trs_good HV.out) v.names_nodup htne (by omega) htx hsz w
        clear htx hsz
        go_upto_region 11 with (go_at_call 6; refine (hat _).mono ?_; rintro e w5 ⟨sg, C, rfl, hCl, hsub, hG, hb5⟩; obtain ⟨gC, capC, curC, rfl, _⟩ := hG.form (by intro e; rw [e] at hCl; simp at hCl; exact htne (List.eq_nil_of_length_eq_zero hCl.symm)))
        clear hat
        have hF : Fx w (.slice (some ⟨gV, 0, none⟩) Vs.length capV) Vs (.slice (some ⟨gW, 0, none⟩) v.trs.length capW) v.trs (.slice (some ⟨gC, 0, none⟩) C.length capC) C w5 := ⟨hV4.below hb5, hW4.below hb5, hG.base hB4.size, hB4.trans (hb5.mono hB4.size)⟩
        clear hV4 hB4 hW4 hG hb5 HV
        generalize v.trs = T at *
        go_wp2_with fail
        go_loopg [51] (T.length) (fun m i wx => ∃ q : Nat, q ≤ T.length ∧ m = T.length - q ∧ i = .int .i64 q ∧ Fx w (.slice (some ⟨gV, 0, none⟩) Vs.length capV) Vs (.slice (some ⟨gW, 0, none⟩) T.length capW) T (.slice (some ⟨gC, 0, none⟩) C.length capC) C wx)
        case atStart => exact ⟨0, Nat.zero_le _, rfl, rfl, hF⟩
        case round =>
          obtain ⟨q, hq, rfl, rfl, hQ⟩ := hrel
          clear hF
          by_cases hqt : q < T.length
          · have hqC : q < C.length := by omega
            have hc0 := hQ.got.cells_at (k := 2) (fun _ => rfl) (by decide) (j := 0) hqC (by decide)
            have hc1 := hQ.got.cells_at (k := 2) (fun _ => rfl) (by decide) (j := 1) hqC (by decide)
            have hmem := hsub _ (List.getElem_mem hqC)
            generalize C[q]'hqC = c at *
            simp only [prT, List.getElem?_cons_zero, List.getElem?_cons_succ, Nat.add_zero] at hc0 hc1
            go_wp2_with fail
            have hbx := heap_alloc_new wr (Obj.cells #[.string c.name, .string c.value] 37)
            have hQ1 := hQ.next ((Below.refl _ _).alloc (Nat.le_refl _) (Obj.cells #[.string c.name, .string c.value] 37))
            clear hQ hc0 hc1
            generalize wr.heap.size = bx at *
            generalize wr.alloc (Obj.cells #[.string c.name, .string c.value] 37) = wb at *
            go_loopg [14, 57] (T.length) (fun m f j wx => ∃ p : Nat, p ≤ T.length ∧ m = T.length - p ∧ f = .bool (hasTr c (T.take p)) ∧ j = .int .i64 p ∧ Fx w (.slice (some ⟨gV, 0, none⟩) Vs.length capV) Vs (.slice (some ⟨gW, 0, none⟩) T.length capW) T (.slice (some ⟨gC, 0, none⟩) C.length capC) C wx ∧ wx.heap[bx]? = some (.cells #[.string c.name, .string c.value] 37 (0, 0)))
            case atStart => exact ⟨0, Nat.zero_le _, rfl, rfl, rfl, hQ1, hbx⟩
            case round =>
              obtain ⟨p, hp, rfl, rfl, rfl, hR, hx⟩ := hrel
              clear hQ1 hbx
              by_cases hpt : p < T.length
              · have hw0 := hR.want.cells_at (k := 2) (fun _ => rfl) (by decide) (j := 0) hpt (by decide)
                have hw1 := hR.want.cells_at (k := 2) (fun _ => rfl) (by decide) (j := 1) hpt (by decide)
                have hnx := hasTr_next c hpt
                generalize T[p]'hpt = b at *
                simp only [prT, List.getElem?_cons_zero, List.getElem?_cons_succ, Nat.add_zero] at hw0 hw1
                have hbl : bx < wr.heap.size := (Array.getElem?_eq_some_iff.1 hx).1
                have hx0 : wr.cell? ⟨bx, 0, none⟩ = some (.string c.name) := cell_of_heap hx rfl
                have hx1 : wr.cell? ⟨bx, 1, none⟩ = some (.string c.value) := cell_of_heap hx rfl
                have heq := eql_two c.name c.value b.name b.value
                cases hf : hasTr c (T.take p)
                · rw [hf, Bool.false_or] at hnx
                  go_wp2_with fail
                  go_roundg (T.length - (p + 1))
                  case measure => omega
                  case rel => exact ⟨p + 1, by omega, rfl, by rw [hnx], by go_num, hR.next ((Below.refl _ _).alloc (Nat.le_refl _) _), (Below.heap_alloc _ _ _ hbl).trans hx⟩
                · rw [hf, Bool.true_or] at hnx
                  go_wp2_with fail
                  go_roundg (T.length - (p + 1))
                  case measure => omega
                  case rel => exact ⟨p + 1, by omega, rfl, by rw [hnx], by go_num, hR.next ((Below.refl _ _).alloc (Nat.le_refl _) _), (Below.heap_alloc _ _ _ hbl).trans hx⟩
              · obtain rfl : p = T.length := by omega
                rw [List.take_length, hasTr_of hmem]
                clear hmem hpt
                go_wp2_with fail
                go_roundg (T.length - (q + 1))
                case measure => omega
                case rel => exact ⟨q + 1, by omega, rfl, by go_num, hR⟩
          · obtain rfl : q = T.length := by omega
            clear hqt hsub
            go_wp2_with fail
            go_roundg (Vs.length - (k + 1))
            case measure => omega
            case rel => exact ⟨k + 1, by omega, rfl, by go_num, hQ.vs, hQ.below⟩
      · obtain rfl : k = Vs.length := by omega
        clear hlt hVs hAV hOV
        have hat := fun w => attributesOf_any ⟨#[65, 61, 49, 44, 66, 61, 34, 120, 34]⟩ lastTrs lastTrs_good lastTrs_nodup (by simp [lastTrs]) (by simp [lastTrs]) lastTrs_text (by decide) w
        go_wp2_with (go_at_call 6; refine (hat _).mono ?_; rintro e w5 ⟨sg, C, rfl, hCl, _, hG, hb5⟩; obtain ⟨gC, capC, curC, rfl, _⟩ := hG.form (by intro e; rw [e] at hCl; simp [lastTrs] at hCl); rw [show lastTrs.length = 2 from rfl] at hCl)
        go_ret
        exact ⟨rfl, hB.trans (hb5.mono hB.size)⟩
  · by_cases hl2 : len ≤ 2147483647
    · go_enter Try.func3, Try.ntmps3
      go_wp2
      go_ret
      exact ⟨rfl, Below.refl _ _⟩
    · go_enter Try.func3, Try.ntmps3
      go_wp2
      go_ret
      exact ⟨rfl, Below.refl _ _⟩
end Go.Proofs.Ytbehijhpichniaa
