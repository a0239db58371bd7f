/- Joined: Dcd, Mw, Zw. -/
import Derived.Test.YtflppablgdegcaaGreatDoorR17
import Derived.Test.YtflppablgdegcaaGreatDoorR03
import Derived.Test.YtflppablgdegcaaGreatDoorR10
import Derived.Test.YtflppablgdegcaaGreatDoorR08
set_option maxRecDepth 100000
set_option maxHeartbeats 8000000
namespace Go.Proofs.YtflppablgdegcaaGreatDoor.Q4
open Go.RowKit
def MapPost (G : List Tr) (w : World) (e : Ending) (w' : World) : Prop := ∃ (b n : Nat) (D : DataW Unit), e = .returned (.map (some b)) ∧ w'.ownsMap Tryz.prog 9 (plainElem Tryz.prog 9) b n D ∧ MapIs D G ∧ w.heap.size ≤ b ∧ Below w.heap.size w w'
theorem ownsMap_below {P : Program} {k : TypeId} {R : Value → Option (DataW Unit × List MemPlace)} {w w' : World} {b n : Nat} {D : DataW Unit} (h : w.ownsMap P k R b n D) (hb : Below w.heap.size w w') : w'.ownsMap P k R b n D :=
 h.kept (row := none) ⟨hb.os, hb.tape, hb.output, hb.size, fun i hi _ => hb.block i hi⟩ (by simp)
structure Dk (G : List Tr) (w : World) (v : Value) (L : List Tr) (k : Nat) (wx : World) : Prop where
 map : ∃ D : DataW Unit, wx.ownsMap Tryz.prog 9 (plainElem Tryz.prog 9) w.heap.size k D ∧ MapIs D (G.take k)
 kv : Own prT 187 2 wx (w.heap.size + 1) v L
 below : Below w.heap.size w wx
theorem kv_pairs {tx : ByteArray} {G L : List Tr} (hG : ∀ t ∈ G, t.Good) (htx : tx.data.toList = joinL (G.map Tr.text)) (hL : L.map Tr.two = kvAll tx.data.toList) :
  L.length = G.length ∧ ∀ (k : Nat) (h : k < L.length) (hq : k < G.length), (L[k]'h).name = (G[k]'hq).name ∧ trimR (trimL (L[k]'h).value.data.toList) = (G[k]'hq).value.data.toList ∧ (L[k]'h).value.size ≤ 1000 ∧ (L[k]'h).name.size ≤ 1000 := by
 rw [htx, kvAll_join hG] at hL
 have hlen : L.length = G.length := by simpa using congrArg List.length hL
 refine ⟨hlen, fun k h hq => ?_⟩
 have h1 : (L.map Tr.two)[k]? = (G.map fun t => (t.name.data.toList, t.raw))[k]? := by rw [hL]
 rw [List.getElem?_map, List.getElem?_map, List.getElem?_eq_getElem h, List.getElem?_eq_getElem hq] at h1
 have h2 := Option.some.inj h1
 have h3 := congrArg Prod.fst h2
 have h4 := congrArg Prod.snd h2
 simp only [Tr.two] at h3 h4
 have hg := hG _ (List.getElem_mem hq)
 refine ⟨ba_ext h3, by rw [h4]; exact trim_raw hg, ?_, ?_⟩
 ·rw [← len_data, h4]
  have := hg.size
  have := len_data (G[k]'hq).value
  unfold Tr.raw
  split
  ·simp only [List.length_cons, List.length_append, List.length_nil]; omega
  ·omega
 ·rw [ba_ext h3]; have := hg.size; omega
theorem decode_any (tx : ByteArray) (G : List Tr) (hG : ∀ t ∈ G, t.Good) (hnd : (G.map Tr.name).Nodup) (hne : G ≠ []) (hlen : G.length ≤ 100) (htx : tx.data.toList = joinL (G.map Tr.text)) (hsz : tx.size ≤ 1000000) (w : World) :
  Calls Tryz.prog 72 #[.string tx] w (MapPost G w) := by
 have hpos : 0 < G.length := List.length_pos_iff.2 hne
 have hmm := @run_makeMap Tryz.prog
 go_enter Tryz.func72, Tryz.ntmps72
 go_wp2_with (go_at_call 91; refine (keyValue_any tx _ hsz).mono ?_; rintro e w1 ⟨sp, L, rfl, hLk, hLl, hown, hb⟩; obtain ⟨hLG, hkv⟩ := kv_pairs hG htx hLk; clear hLk htx; obtain ⟨g, cap, cur, rfl, _⟩ := hown.form (by intro e; rw [e] at hLG; simp at hLG; omega))
 have hbA : Below w.heap.size w (w.alloc (.map #[] 0)) := (Below.refl _ _).alloc (Nat.le_refl _) _
 have hb1 : Below w.heap.size w w1 := hbA.trans (hb.mono (by simp))
 have hm0 : w1.ownsMap Tryz.prog 9 (plainElem Tryz.prog 9) w.heap.size 0 (.map [] : DataW Unit) := ownsMap_below (World.ownsMap_made w _ _ _) hb
 have hD0 : Dk G w (.slice (some ⟨g, 0, none⟩) L.length cap) L 0 w1 := ⟨⟨_, hm0, by rw [List.take_zero]; exact MapIs.nil⟩, by simpa using hown, hb1⟩
 clear hb hbA hb1 hm0 hown hmm
 have HG := Lib.hid hG
 clear hG hne
 go_loopg [12] (G.length) (fun m i wx => ∃ k : Nat, k ≤ G.length ∧ m = G.length - k ∧ i = .int .i64 k ∧ Dk G w (.slice (some ⟨g, 0, none⟩) L.length cap) L k wx)
 case atStart => exact ⟨0, Nat.zero_le _, rfl, rfl, hD0⟩
 case round =>
  obtain ⟨k, hk, rfl, rfl, hD⟩ := hrel
  clear hD0
  by_cases hlt : k < G.length
  ·have hkL : k < L.length := by omega
   have hc0 := hD.kv.cells_at (k := 2) (fun _ => rfl) (by decide) (j := 0) hkL (by decide)
   have hc1 := hD.kv.cells_at (k := 2) (fun _ => rfl) (by decide) (j := 1) hkL (by decide)
   obtain ⟨hn, hv, hzs, hns⟩ := hkv k hkL hlt
   have htr := trim_any (L[k]'hkL).value
   generalize L[k]'hkL = t at *
   simp only [prT, List.getElem?_cons_zero, List.getElem?_cons_succ, Nat.add_zero] at hc0 hc1
   go_upto_region 5 with fail
   go_quiet (fail)
   have hbq : Below wr.heap.size wr ((wr.alloc (Obj.cells #[.string (G[k]'hlt).name, .string t.value] 187)).drewN nq) := by
    have h1 : Below wr.heap.size wr (wr.alloc (Obj.cells #[.string (G[k]'hlt).name, .string t.value] 187)) := (Below.refl _ _).alloc (Nat.le_refl _) _
    exact ⟨h1.os, h1.tape, h1.output, h1.size, h1.block⟩
   generalize ((wr.alloc (Obj.cells #[.string (G[k]'hlt).name, .string t.value] 187)).drewN nq) = wq at *
   clear hc0 hc1
   obtain ⟨⟨D, hm, hD1⟩, hD2, hD3⟩ := hD
   have hm := ownsMap_below hm hbq
   have hD2 := hD2.below hbq
   have hD3 := hD3.trans (hbq.mono hD3.size)
   clear hbq
   have hnew : ∀ g ∈ G.take k, g.name ≠ (G[k]'hlt).name := by
    intro g hg e
    obtain ⟨i, hi, rfl⟩ := List.mem_iff_getElem.1 hg
    rw [List.length_take] at hi
    rw [List.getElem_take] at e
    have h1 := List.pairwise_iff_getElem.1 hnd i k (by rw [List.length_map]; omega) (by rw [List.length_map]; omega) (by omega)
    rw [List.getElem_map, List.getElem_map] at h1
    exact h1 e
   have hxv : (G[k]'hlt).value.size ≤ maxLen := by have := (HG.out _ (List.getElem_mem hlt)).size; unfold maxLen; omega
   have hkey : keyOf Tryz.prog 9 (.string (G[k]'hlt).name) = some (.string (G[k]'hlt).name.data.toList) := Go.WideMaps.keyOf_string_mk Tryz.underlying9 (by rw [← hn]; unfold maxLen; omega)
   have hD4 := hD1.put (G[k]'hlt) hnew
   rw [← List.take_succ_eq_append_getElem hlt] at hD4
   generalize hgk : G[k]'hlt = x at *
   have hD4 := Lib.hid hD4
   have hv := Lib.hid hv
   clear hnew hD1 HG hgk hkv hn
   go_wp2_with (first | (go_at_call 92; refine (htr _ (by omega)).mono ?_; rintro e w' ⟨s, rfl, hs, rfl⟩; have hsx := ba_ext (hs.trans hv.out); subst hsx; clear hs) | (at_mapUpdate; refine wpList_mapUpdate_own _ rfl _ _ _ 160 rfl 9 9 (Go.Maps.string_keyed Tryz.underlying9) Tryz.underlying160 _ w.heap.size k D rfl hm (by unfold maxLen; omega) _ _ _ rfl rfl hkey _ _ (plainElem_string Tryz.underlying9 hxv) ?_; intro w2 hm2 hg2))
   have hD5 : Dk G w (.slice (some ⟨g, 0, none⟩) L.length cap) L (k + 1) w2 := by
    refine ⟨⟨_, hm2, hD4.out⟩, hD2.kept hg2 ?_, hD3.grown hg2 hD3.size (by intro i hi; cases hi; exact Nat.le_refl _)⟩
    have := (hD2.block_lt g rfl).1
    right
    intro e
    have : g = w.heap.size := by simpa [Value.ownBlock] using e
    omega
   clear hD2 hD3 hD4 hm2 hg2 hm
   go_roundg (G.length - (k + 1))
   case measure => omega
   case rel => exact ⟨k + 1, by omega, rfl, by go_num, hD5⟩
  ·obtain rfl : k = G.length := by omega
   clear hlt hkv HG
   go_wp2_with fail
   go_ret
   obtain ⟨⟨D, hm, hD1⟩, _, hD3⟩ := hD
   rw [List.take_length] at hD1
   exact ⟨w.heap.size, G.length, D, rfl, hm, hD1, Nat.le_refl _, hD3⟩
end Go.Proofs.YtflppablgdegcaaGreatDoor.Q4
namespace Go.Proofs.YtflppablgdegcaaGreatDoor.Q4
open Go.RowKit
theorem keyOf_string_inv2 {P : Program} {k : TypeId} (hk : P.underlying k = some .string) {key : Value} {kl : Lit} (h : keyOf P k key = some kl) : ∃ s : ByteArray, key = .string s ∧ kl = .string s.data.toList := by
 obtain ⟨s, rfl⟩ := Go.Maps.keyOf_string_inv hk h
 rw [keyOf_string hk] at h
 unfold mapKey at h
 rw [hk] at h
 simp at h
 exact ⟨s, rfl, h.2.symm⟩
theorem wpList_next_ss {P : Program} (w : World) {ops : Array Oper} {rest : List Oper} {o : Oper} {a : Act} {Q : Exit → Act → World → Prop}
  (hg : o.guard = none) (it : Operand) (hop : o.op = Op.next it false) (k e : TypeId) (hk : P.underlying k = some .string) (he : P.underlying e = some .string)
  (b r n : Nat) (D : DataW Unit) (left : Lit → Bool) (cnt : Nat) (hit : a.eval it = .pointer (some ⟨r, 0, none⟩)) (h : w.ranges P k (plainElem P e) b r n D left cnt)
  (hDone : cnt = 0 → (∀ kl, left kl = false) → wpList P ops Q rest (a.put o.dst (.tuple #[.bool false])) w)
  (hMore : ∀ (x c : ByteArray) (w' : World) (cnt' : Nat), left (.string x.data.toList) = true → (∀ zd, D.atKey (.string x.data.toList) zd = .lit (.string c.data.toList)) → w'.ranges P k (plainElem P e) b r n D (fun z => left z && !z.sameKey (.string x.data.toList)) cnt' → cnt' < cnt →
   w.grownBy w' (some r) → w'.heap.size = w.heap.size → (Instr.entry (.pointer (some ⟨r, 0, none⟩))).run P w' = .ok (.tuple #[.string x, .string c]) w' → wpList P ops Q rest (a.put o.dst (.tuple #[.bool true, .string x, .string c])) w') :
  wpList P ops Q (o :: rest) a w :=
 wpList_next_ranges w hg it hop k (Go.Maps.string_keyed hk) (plainElem P e) Value.string Value.string (fun key kl hkey => by obtain ⟨x, rfl, _⟩ := keyOf_string_inv2 hk hkey; exact ⟨x, rfl⟩) (fun v y hv => by obtain ⟨c, rfl, _⟩ := plainElem_string_inv he hv; exact ⟨c, rfl⟩)
  b r n D left cnt hit h hDone (fun x c kl y w' cnt' hkey hlk hv hat hrg hlt hgr hsz hen => by
   obtain ⟨x', ex, rfl⟩ := keyOf_string_inv2 hk hkey
   cases ex
   obtain ⟨c', ec, rfl, hwc⟩ := plainElem_string_inv he hv
   cases ec
   exact hMore x c w' cnt' hlk hat hrg hlt hgr hsz hen)
abbrev RG (b r n : Nat) (D : DataW Unit) (left : Lit → Bool) (cnt : Nat) (w : World) : Prop := w.ranges Tryz.prog 9 (plainElem Tryz.prog 9) b r n D left cnt
theorem only_of_grown {w w' : World} {r : Nat} (h : w.grownBy w' (some r)) : Only (fun q => q = r) w w' := ⟨h.os, h.tape, h.output, h.size, fun k hk hne => h.block k hk (fun e => hne (Option.some.inj e))⟩
theorem below_of_grown {w w' : World} (h : w.grownBy w' none) : Below w.heap.size w w' := ⟨h.os, h.tape, h.output, h.size, fun k hk => h.block k hk (by simp)⟩
theorem ranges_keep {b r n : Nat} {D : DataW Unit} {left : Lit → Bool} {cnt : Nat} {w w' : World} (h : RG b r n D left cnt w) (h1 : w'.heap[b]? = w.heap[b]?) (h2 : w'.heap[r]? = w.heap[r]?) : RG b r n D left cnt w' := by
 obtain ⟨es, clock, since, seen, c0, hb, F, hs, hD, hr, rest⟩ := h
 exact ⟨es, clock, since, seen, c0, h1.trans hb, F, hs, hD, h2.trans hr, rest⟩
theorem rg_not_cells {b r n : Nat} {D : DataW Unit} {left : Lit → Bool} {cnt : Nat} {w : World} (h : RG b r n D left cnt w) {g : Nat} {cs : Array Value} {t : TypeId} {fr : Nat × Nat} (hg : w.heap[g]? = some (.cells cs t fr)) : g ≠ b ∧ g ≠ r := by
 obtain ⟨es, clock, since, seen, c0, hb, F, hs, hD, hr, rest⟩ := h
 constructor
 ·rintro rfl
  rw [hg] at hb; cases hb
 ·rintro rfl
  rw [hg] at hr; cases hr
section
variable {N : Nat} {l l' : List (Nat × Value)} {m m' : List Bk} {M : Nat → Prop} {w0 w w' : World} {a a' : Act} {ops : Array Oper} {rest : List Oper} {Q : Exit → Act → World → Prop} {d t ti : Nat} {ty : TypeId} {ps : String} {af : Array Edge}
theorem sv_range {b n : Nat} {D : DataW Unit} (h : Sv N l m M w0 a w) (hdN : d < N) (hx : a.eval (.tmp t) = .map (some b)) (hm : w.ownsMap Tryz.prog 9 (plainElem Tryz.prog 9) b n D)
  (hK : ∀ r a' w', w0.heap.size ≤ r → Below w.heap.size w w' → RG b r n D (Maps.has D) (Maps.size D) w' → Sv N ((d, pt r 0) :: l) m M w0 a' w' → wpList Tryz.prog ops Q rest a' w') :
  wpList Tryz.prog ops Q (⟨some d, .range 160 (.tmp t), ty, ps, af, none⟩ :: rest) a w := by
 refine wpList_range_own w rfl (.tmp t) 160 rfl 9 9 (Go.Maps.string_keyed Tryz.underlying9) Tryz.underlying160 _ b n D hx hm fun w' hr hg hs => ?_
 have hb := below_of_grown hg
 exact hK _ _ w' h.size hb hr ((h.slot (h.ev.set hdN)).below hb)
theorem Sv.join (h : Sv N l m M w0 a w) (ho : ∀ k ∈ m, k.o = true) (k : Sv N l' m' (fun q => ∃ x ∈ m, x.g = q) w a' w') : Sv N l' m' M w0 a' w' := by
 have hin : ∀ q, (∃ x ∈ m, x.g = q) → M q ∨ w0.heap.size ≤ q := by
  rintro q ⟨x, hx, rfl⟩
  exact h.wr x hx (ho x hx)
 refine ⟨k.ev, k.hp, k.nd, fun b hb hbo => ?_, ?_⟩
 ·rcases k.wr b hb hbo with h1 | h1
  ·exact hin _ h1
  ·exact .inr (Nat.le_trans h.size h1)
 ·have h1 := h.only
  have h2 := k.only
  refine ⟨h2.os.trans h1.os, h2.tape.trans h1.tape, h2.output.trans h1.output, Nat.le_trans h1.size h2.size, fun q hq hM => ?_⟩
  rw [h2.block q (Nat.lt_of_lt_of_le hq h1.size) (fun hx => by rcases hin q hx with h3 | h3; (· exact hM h3); (· omega))]
  exact h1.block q hq hM
end
theorem nodup_inj : ∀ {G : List Tr}, (G.map Tr.name).Nodup → ∀ {x y : Tr}, x ∈ G → y ∈ G → x.name = y.name → x = y
 | [], _, _, _, hx, _, _ => by cases hx
 | g :: G, h, x, y, hx, hy, e => by
  rw [List.map_cons, List.nodup_cons] at h
  rcases List.mem_cons.1 hx with hx1 | hx1
  ·rcases List.mem_cons.1 hy with hy1 | hy1
   ·rw [hx1, hy1]
   ·exact absurd (show g.name ∈ G.map Tr.name from List.mem_map.2 ⟨y, hy1, by rw [← e, hx1]⟩) h.1
  ·rcases List.mem_cons.1 hy with hy1 | hy1
   ·exact absurd (show g.name ∈ G.map Tr.name from List.mem_map.2 ⟨x, hx1, by rw [e, hy1]⟩) h.1
   ·exact nodup_inj h.2 hx1 hy1 e
def vOf (C : List Tr) (nm : List UInt8) : ByteArray := match C.find? (fun t => decide (t.name.data.toList = nm)) with | some t => t.value | none => ⟨#[]⟩
theorem vOf_snoc {C : List Tr} {x c : ByteArray} (h : ∀ t ∈ C, t.name ≠ x) (nm : List UInt8) : vOf (C ++ [⟨x, c, false⟩]) nm = if x.data.toList = nm then c else vOf C nm := by
 unfold vOf
 rw [List.find?_append]
 cases hf : C.find? (fun t => decide (t.name.data.toList = nm)) with
 | some t =>
  have h1 := List.find?_some hf
  have h2 := List.mem_of_find?_eq_some hf
  have h3 : ¬ x.data.toList = nm := by
   intro e
   refine h t h2 (ba_eq ?_)
   rw [e]; simpa using h1
  rw [if_neg h3]; rfl
 | none =>
  by_cases e : x.data.toList = nm
  ·rw [if_pos e]; simp [e]
  ·rw [if_neg e]; simp [e]
theorem vOf_end {G C : List Tr} (hn : (G.map Tr.name).Nodup) (hc : ∀ g ∈ G, ∃ t ∈ C, t.name = g.name ∧ t.value = g.value) (hs : ∀ t ∈ C, ∃ g ∈ G, g.name = t.name ∧ g.value = t.value) (nm : List UInt8) : vOf C nm = vOf G nm := by
 unfold vOf
 cases hf : C.find? (fun t => decide (t.name.data.toList = nm)) with
 | some t =>
  have h1 := List.find?_some hf
  obtain ⟨g, hg, e1, e2⟩ := hs t (List.mem_of_find?_eq_some hf)
  cases hg2 : G.find? (fun t => decide (t.name.data.toList = nm)) with
  | some g' =>
   have h3 := List.find?_some hg2
   have h4 : g' = g := nodup_inj hn (List.mem_of_find?_eq_some hg2) hg (ba_eq (by rw [e1]; simp only [decide_eq_true_eq] at h1 h3; rw [h1, h3]))
   rw [h4]; exact e2.symm
  | none =>
   have := List.find?_eq_none.1 hg2 g hg
   simp only [decide_eq_true_eq] at h1 this
   exact absurd (by rw [e1]; exact h1) this
 | none =>
  cases hg2 : G.find? (fun t => decide (t.name.data.toList = nm)) with
  | none => rfl
  | some g' =>
   have h3 := List.find?_some hg2
   obtain ⟨t, ht, e1, _⟩ := hc g' (List.mem_of_find?_eq_some hg2)
   have := List.find?_eq_none.1 hf t ht
   simp only [decide_eq_true_eq] at h3 this
   exact absurd (by rw [e1]; exact h3) this
theorem map_wp {N : Nat} {l : List (Nat × Value)} {M : Nat → Prop} {w0 w : World} {a : Act} {Q : Exit → Act → World → Prop} {id0 id1 rg tn te ti b r n : Nat} {D : DataW Unit} {G : List Tr} {body : Code} {y1 y2 : TypeId} {p1 p2 : String} {e1 e2 : Array Edge}
  (mf : List Tr → List Bk) (ho : ∀ C, ∀ k ∈ mf C, k.o = true) (Z : Sv N l (mf []) M w0 a w) (hti : l.lookup ti = some (pt r 0)) (hl : (l.all fun p => p.1 != tn && p.1 != te) = true) (hN : tn < N ∧ te < N) (hne : te ≠ tn) (hr0 : w0.heap.size ≤ r) (hG : MapIs D G) (hnd : (G.map Tr.name).Nodup) (hR : RG b r n D (Maps.has D) (Maps.size D) w)
  (hbody : ∀ C a w x c, (∃ g ∈ G, g.name = x ∧ g.value = c) → (∀ t ∈ C, t.name ≠ x) → Only M w0 w → (Instr.entry (pt r 0)).run Tryz.prog w = .ok (.tuple #[.string x, .string c]) w → Sv N l (mf C) (fun q => ∃ k ∈ mf C, k.g = q) w a w →
   ∀ Q' : Exit → Act → World → Prop, (∀ a' w', Sv N l (mf (C ++ [⟨x, c, false⟩])) (fun q => ∃ k ∈ mf C, k.g = q) w a' w' → Q' .normal a' w') → (Code.block id1 body).wp Tryz.prog Q' a w)
  (hend : ∀ C a w, (∀ nm, vOf C nm = vOf G nm) → Sv N l (mf C) M w0 a w → Q .normal a w) :
  (Code.block id0 (.loop (.seq (.region rg #[⟨some tn, .next (.tmp ti) false, y1, p1, e1, none⟩, ⟨some te, .extract (.tmp tn) 0, y2, p2, e2, none⟩] false) (.seq (.cond (.tmp te) .skip (.exit id0)) (.block id1 body))))).wp Tryz.prog Q a w := by
 have hdrop : ∀ {v u : Value} {m : List Bk} {a : Act} {w : World}, Sv N ((te, u) :: (tn, v) :: l) m M w0 a w → Sv N l m M w0 a w := by
  intro v u m a w h
  rw [List.all_eq_true] at hl
  refine h.slot ((Ev.drop (d := te) (v := u) ?_ ?_).drop (d := tn) (v := v) ?_)
  ·exact h.ev
  ·rw [List.all_eq_true]
   intro p hp
   rcases List.mem_cons.1 hp with rfl | hp
   ·simpa using fun e : tn = te => hne e.symm
   ·have := hl p hp; simp only [Bool.and_eq_true] at this; exact this.2
  ·rw [List.all_eq_true]
   intro p hp
   have := hl p hp; simp only [Bool.and_eq_true] at this; exact this.1
 refine wp_block ?_
 refine wp_loop (fun a w => ∃ (C : List Tr) (left : Lit → Bool) (cnt : Nat), RG b r n D left cnt w ∧ Rg G D left C ∧ Sv N l (mf C) M w0 a w) (fun _ w => w.rangeLeft b r) ⟨[], _, _, hR, Rg.start hG, Z⟩ ?_
 clear Z hR
 rintro a w ⟨C, left, cnt, hr, hg, Z⟩
 have hmu := hr.left_eq
 refine wr ?_
 refine wpList_next_ss w rfl (.tmp ti) rfl 9 9 Tryz.underlying9 Tryz.underlying9 b r n D left cnt (Z.g ti hti) hr ?_ ?_
 ·intro h0 hleft
  have hS1 : Sv N ((tn, .tuple #[.bool false]) :: l) (mf C) M w0 (a.put (some tn) (.tuple #[.bool false])) w := Z.slot (Z.ev.set hN.1)
  refine sv_run (v := .bool false) hS1 rfl rfl hN.2 (ei_ext (hS1.get tn look_eq) rfl) fun a' hS2 => nx1 (wp_seq (cond_f (hS2.get te look_eq) (wp_exit ?_)))
  simp only [Exit.inBlock, Exit.then, if_true]
  refine hend C a' w (vOf_end hnd (fun g hg1 => ?_) hg.sub) (hdrop hS2)
  rcases hg.all g hg1 with h1 | ⟨t, ht, e⟩
  ·rw [hleft] at h1; cases h1
  ·obtain ⟨g', hg', e1, e2⟩ := hg.sub t ht
   have : g' = g := nodup_inj hnd hg' hg1 (e1.trans e)
   exact ⟨t, ht, e, by rw [← this]; exact e2.symm⟩
 ·intro x c w' cnt' hl1 hat hrg hlt hgr hsz hen
  have hO := only_of_grown hgr
  have hS1 : Sv N l (mf C) M w0 a w' := Z.go hO (fun k hk e => (rg_not_cells hr (Z.hp k hk)).2 e) (fun q hq hlt => by subst hq; omega)
  have hS2 : Sv N ((tn, .tuple #[.bool true, .string x, .string c]) :: l) (mf C) M w0 (a.put (some tn) (.tuple #[.bool true, .string x, .string c])) w' := hS1.slot (hS1.ev.set hN.1)
  refine sv_run (v := .bool true) hS2 rfl rfl hN.2 (ei_ext (hS2.get tn look_eq) rfl) fun a' hS3 => nx1 (wp_seq (cond_t (hS3.get te look_eq) (wp_skip (sh ?_))))
  have hS4 := hdrop hS3
  have hin := hG.at (hg.left _ hl1) hat
  have hnx : ∀ t ∈ C, t.name ≠ x := fun t ht e => by
   have := hg.gone t ht
   rw [e, hl1] at this; cases this
  refine hbody C a' w' x c hin hnx hS4.only hen hS4.rebase _ fun a2 w2 hS5 => ?_
  have hnb : ∀ q, (∃ k ∈ mf C, k.g = q) → q ≠ b ∧ q ≠ r := by
   rintro q ⟨k, hk, rfl⟩
   exact rg_not_cells hrg (hS4.hp k hk)
  have hR2 := ranges_keep hrg (hS5.only.block b hrg.owns.lt (fun h => (hnb b h).1 rfl)) (hS5.only.block r hrg.lt (fun h => (hnb r h).2 rfl))
  exact ⟨⟨_, _, cnt', hR2, hg.step hG hl1 hat, Sv.join hS4 (ho C) hS5⟩, by rw [hR2.left_eq, hmu]; exact hlt⟩
end Go.Proofs.YtflppablgdegcaaGreatDoor.Q4
set_option maxRecDepth 100000
set_option maxHeartbeats 8000000
namespace Go.Proofs.YtflppablgdegcaaGreatDoor
open Go.RowKit
theorem parseI_ok (t : ByteArray) (n : Nat) (hne : t.size ≠ 0) (hs : t.size ≤ 1000000000) (h : Lib.parseIntB 64 t.data.toList = .ok (n : Int)) (w : World) : Calls Tryz.prog 94 #[.string t, .int .i64 10, .int .i64 64] w fun e w' => e = .returned (.tuple #[.int .i64 ((n : Nat) : Int), .nilIface]) ∧ Below w.heap.size w w' :=
 Calls.mono (Any.internal_strconv_ParseInt_10_at64 Tryz.laysC247 t hne (by omega) w) fun e w' ⟨h1, h2⟩ => ⟨by rw [h1, h]; rfl, by rcases h2 with rfl | ⟨t, rfl⟩; (· exact Below.refl _ _); (· exact Lib.bytesWorld_below _ _ _)⟩
theorem parseInt_ok (t : ByteArray) (n : Nat) (hne : t.size ≠ 0) (hs : t.size ≤ 1000000000) (h : Lib.parseIntB 64 t.data.toList = .ok (n : Int)) (w : World) : Calls Tryz.prog 75 #[.string t, .int .i64 10, .int .i64 64] w fun e w' => e = .returned (.tuple #[.int .i64 ((n : Nat) : Int), .nilIface]) ∧ Below w.heap.size w w' := by
 refine calls_of_ev Tryz.func75 rfl (show 3 ≤ 25 from by decide) fun a hE => ?_
 have hE : Ev 25 ((0, .string t) :: (1, .int .i64 10) :: (2, .int .i64 64) :: []) a := hE
 have Z : Sv 25 ((0, .string t) :: (1, .int .i64 10) :: (2, .int .i64 64) :: []) [] (fun _ => False) w a w := Sv.start hE _ _
 clear hE
 refine wr (sv_n 2 Z rfl fun a Z => Z.nx [7, 6, 0, 1, 2] rfl fun Z => sh (wr (sv_n 3 Z rfl fun a Z => sv_callv (v := .tuple #[.int .i64 ((n : Nat) : Int), .nilIface]) Z rfl rfl (by decide) (ex_call3 cf_istrconv_ParseInt (Z.g 10 rfl) (Z.g 11 rfl) (Z.g 12 rfl)) (parseI_ok t n hne hs h _) fun a w1 hbw1 Z => sv_n 5 Z rfl fun a Z => Z.nx [7, 8, 6, 0, 1, 2] rfl fun Z => sh (wp_seq (wr ?_)))))
 refine sv_n 1 Z rfl fun a Z => sv_r (v := .bool false) Z (ex_ine eqi_error (Z.g 16 rfl)) fun a Z => Z.nx [17, 7, 8, 6, 0, 1, 2] rfl fun Z => sh (cond_f (Z.g 17 rfl) (wp_skip (sh (wr (sv_n 3 Z rfl fun a Z => Z.nx [7, 6, 17, 8, 0, 1, 2] rfl fun Z => sh (wp_ret ?_))))))
 try simp only [Exit.inBlock, Exit.then]
 exact ret2_of_ev Z.ev rfl (Z.g 6 rfl) (Z.g 7 rfl) ⟨rfl, Z.toBelow⟩
theorem zzCut_any (s : ByteArray) (ix : Nat) (hs : s.size ≤ 1000000000) (hix : zix s 64 = (ix : Int)) (hil : ix < s.size) (w : World) : Calls Tryz.prog 74 #[.string s, .string ((⟨#[64]⟩ : ByteArray))] w fun e w' => e = .returned (.tuple #[.string (s.extract 0 ix), .string (s.extract (ix + 1) s.size), .bool true]) ∧ Below w.heap.size w w' := by
 refine calls_of_ev Tryz.func74 rfl (show 2 ≤ 23 from by decide) fun a hE => ?_
 have hE : Ev 23 ((0, .string s) :: (1, .string ((⟨#[64]⟩ : ByteArray))) :: []) a := hE
 have Z : Sv 23 ((0, .string s) :: (1, .string ((⟨#[64]⟩ : ByteArray))) :: []) [] (fun _ => False) w a w := Sv.start hE _ _
 clear hE
 refine wr (sv_n 3 Z rfl fun a Z => Z.nx [6, 5, 4, 0, 1] rfl fun Z => sh (wp_seq (wr (sv_n 2 Z rfl fun a Z => ?_))))
 refine sv_callv (v := .int .i64 ((ix : Nat) : Int)) Z rfl rfl (by decide) (ex_call2 cf_m3u8_zzIndex (Z.g 8 rfl) (Z.g 9 rfl)) (by have h := zzIndex_any s 64 hs w; rw [hix] at h; exact h) fun a w1 hbw1 Z => sv_n 1 Z rfl fun a Z => Z.nx [7, 6, 5, 4, 0, 1] rfl fun Z => sh (wr (sv_n 1 Z rfl fun a Z => ?_))
 refine sv_r (v := .bool true) Z (ei_geq (Z.g 11 rfl) rfl (by rw [decide_eq_true_iff]; omega)) fun a Z => Z.nx [12, 7, 6, 5, 4, 0, 1] rfl fun Z => sh (cond_t (Z.g 12 rfl) (wp_seq ?_))
 refine qg 10 [.string s, .int .i64 ((ix : Nat) : Int), .string (s.extract 0 ix), .string s, .int .i64 ((ix : Nat) : Int), .string (⟨#[64]⟩), .int .i64 1, .int .i64 ((ix + 1 : Nat) : Int), .string (s.extract (ix + 1) s.size), .string (s.extract 0 ix)] Z ?_ ?_
 ·simp only [List.take_succ_cons, List.take_zero]
  exact ⟨qm (Z.g 0 rfl), qm (Z.g 7 rfl), fun _ _ c => og_val (ex_ssh (c.s 0 rfl) (c.s 1 rfl) (by omega)) rfl, qm (Z.g 0 rfl), qm (Z.g 7 rfl), qm (Z.g 1 rfl), fun _ _ c => og_val (ex_slen (ats := #[]) (c.s 5 rfl)) rfl, fun _ _ c => og_val (ei_add (c.s 4 rfl) (c.s 6 rfl) (by rw [IntKind.wrap_i64]; omega)) rfl, fun _ _ c => og_val (ex_ssl (c.s 3 rfl) (c.s 7 rfl) (by omega)) rfl, fun _ _ c => og_val (ex_as (c.s 2 rfl)) rfl, trivial⟩
 ·intro a w2 c hbw2
  replace Z := ((Z.ogk c [1, 0, 5, 6, 7, 12]).kS c 8 rfl rfl).kS c 9 rfl rfl
  clear c
  simp only [List.drop_succ_cons, List.drop_zero]
  refine sv_n 2 Z rfl fun a Z => Z.nx [6, 5, 4, 1, 0, 7, 12] rfl fun Z => sh (wp_ret ?_)
  try simp only [Exit.inBlock, Exit.then]
  exact ret3_of_ev Z.ev rfl (Z.g 4 rfl) (Z.g 5 rfl) (Z.g 6 rfl) ⟨rfl, Z.toBelow⟩
theorem zzWord_any (s : ByteArray) (hs : s.size ≤ 1000000000) (h0 : 0 < s.size) (hb : ∀ i (h : i < s.size), (s[i]'h).toNat ≠ 32 ∧ (s[i]'h).toNat ≠ 9) (w : World) : Calls Tryz.prog 71 #[.string s] w fun e w' => e = .returned (.tuple #[.string s, .nilIface]) ∧ Below w.heap.size w w' := by
 refine calls_of_ev Tryz.func71 rfl (show 1 ≤ 44 from by decide) fun a hE => ?_
 have hE : Ev 44 ((0, .string s) :: []) a := hE
 have Z : Sv 44 ((0, .string s) :: []) [] (fun _ => False) w a w := Sv.start hE _ _
 clear hE
 refine wr (sv_n 2 Z rfl fun a Z => Z.nx [3, 2, 0] rfl fun Z => sh (wp_seq (wp_block ?_)))
 refine wp_loop (fun a w' => ∃ u : Unit, u = u ∧ Sv 44 ((3, .nilIface) :: (2, .string (⟨#[]⟩)) :: (0, .string s) :: []) [] (fun _ => False) w a w') (fun a _ => 0) ⟨(), rfl, Z.pick rfl⟩ ?_
 clear Z
 rintro a w1 ⟨u, hu, Z⟩
 obtain ⟨hb1, hb2⟩ : (s[0]'h0).toNat ≠ 32 ∧ (s[0]'h0).toNat ≠ 9 := hb 0 h0
 ·refine wp_seq (wr (sv_n 1 Z rfl fun a Z => sv_r (v := .int .i64 ((s.size : Nat) : Int)) Z (ex_slen (ats := #[]) (Z.g 5 rfl)) fun a Z => ?_))
  refine sv_r (v := .bool true) Z (ei_gtr (Z.g 6 rfl) rfl (by rw [decide_eq_true_iff]; omega)) fun a Z => sv_n 2 Z rfl fun a Z => sv_g (v := .int .u8 (((s[0]'h0).toNat : Nat) : Int)) Z (Z.g 8 rfl) (ex_sidx (i := 0) (Z.g 9 rfl) rfl h0) fun a Z => ?_
  refine sv_g (v := .bool false) Z (Z.g 8 rfl) (ei_eql (Z.g 10 rfl) rfl (by rw [decide_eq_false_iff_not]; omega)) fun a Z => sv_n 2 Z rfl fun a Z => sv_g (v := .int .u8 (((s[0]'h0).toNat : Nat) : Int)) Z (Z.g 12 rfl) (ex_sidx (i := 0) (Z.g 13 rfl) rfl h0) fun a Z => ?_
  refine sv_g (v := .bool false) Z (Z.g 12 rfl) (ei_eql (Z.g 14 rfl) rfl (by rw [decide_eq_false_iff_not]; omega)) fun a Z => sv_n 2 Z rfl fun a Z => Z.nx [17, 3, 2, 0] rfl fun Z => sh (cond_f (Z.g 17 rfl) (wp_exit ?_))
  simp only [Exit.inBlock, Exit.then, if_true]
  refine sh (wr (sv_n 1 Z rfl fun a Z => Z.nx [4, 17, 3, 2, 0] rfl fun Z => sh (wp_seq (wp_block ?_))))
  refine wp_loop (fun a w' => ∃ n : Nat, n ≤ s.size ∧ Sv 44 ((4, .int .i64 ((n : Nat) : Int)) :: (0, .string s) :: (2, .string (⟨#[]⟩)) :: (3, .nilIface) :: []) [] (fun _ => False) w a w') (fun a _ => (s.size + 1 - (intOf (a.eval (.tmp 4))).toNat)) ⟨0, Nat.zero_le _, Z.pick rfl⟩ ?_
  clear Z
  rintro a w2 ⟨n, hn, Z⟩
  have hS0 := Z.g 4 rfl
  have hcs : s.size ≤ n ∨ n < s.size := by omega
  rcases hcs with hge | hlt
  ·have hns : n = s.size := by omega
   refine wp_seq (wr (sv_n 2 Z rfl fun a Z => sv_r (v := .int .i64 ((s.size : Nat) : Int)) Z (ex_slen (ats := #[]) (Z.g 21 rfl)) fun a Z => ?_))
   refine sv_r (v := .bool false) Z (ei_lss (Z.g 20 rfl) (Z.g 22 rfl) (by rw [decide_eq_false_iff_not]; omega)) fun a Z => sv_n 12 Z rfl fun a Z => Z.nx [35, 4, 0, 2, 3] rfl fun Z => sh (cond_f (Z.g 35 rfl) (wp_exit ?_))
   simp only [Exit.inBlock, Exit.then, if_true]
   refine sh (wp_seq (wp_seq ?_))
   subst hns
   refine wp_region_lit (sv_n 1 Z rfl fun a Z => ?_)
   refine sv_r (v := .bool false) Z (ei_eql (Z.g 38 rfl) rfl (by rw [decide_eq_false_iff_not]; omega)) fun a Z => Z.nx [39, 35, 4, 0, 2, 3] rfl fun Z => sh (cond_f (Z.g 39 rfl) (wp_skip (sh (wr (sv_n 2 Z rfl fun a Z => ?_)))))
   refine sv_r (v := .string (s.extract 0 s.size)) Z (ex_ssh (Z.g 41 rfl) (Z.g 42 rfl) (by omega)) fun a Z => sv_n 2 Z rfl fun a Z => Z.nx [3, 2, 39, 35, 4, 0] rfl fun Z => sh (wp_ret ?_)
   try simp only [Exit.inBlock, Exit.then]
   exact ret2_of_ev Z.ev rfl (Z.g 2 rfl) (Z.g 3 rfl) ⟨by rw [ext_self], Z.toBelow⟩
  ·obtain ⟨hb1, hb2⟩ := hb n hlt
   refine wp_seq (wr (sv_n 2 Z rfl fun a Z => sv_r (v := .int .i64 ((s.size : Nat) : Int)) Z (ex_slen (ats := #[]) (Z.g 21 rfl)) fun a Z => ?_))
   refine sv_r (v := .bool true) Z (ei_lss (Z.g 20 rfl) (Z.g 22 rfl) (by rw [decide_eq_true_iff]; omega)) fun a Z => sv_n 3 Z rfl fun a Z => sv_g (v := .int .u8 (((s[n]'hlt).toNat : Nat) : Int)) Z (Z.g 24 rfl) (ex_sidx (Z.g 25 rfl) (Z.g 26 rfl) hlt) fun a Z => ?_
   refine sv_g (v := .bool true) Z (Z.g 24 rfl) (ei_neq (Z.g 27 rfl) rfl (by rw [decide_eq_true_iff]; omega)) fun a Z => sv_n 4 Z rfl fun a Z => sv_g (v := .int .u8 (((s[n]'hlt).toNat : Nat) : Int)) Z (Z.g 30 rfl) (ex_sidx (Z.g 31 rfl) (Z.g 32 rfl) hlt) fun a Z => ?_
   refine sv_g (v := .bool true) Z (Z.g 30 rfl) (ei_neq (Z.g 33 rfl) rfl (by rw [decide_eq_true_iff]; omega)) fun a Z => sv_n 1 Z rfl fun a Z => Z.nx [35, 4, 0, 2, 3] rfl fun Z => sh (cond_t (Z.g 35 rfl) (wp_skip (sh (wp_block (wp_region_lit (sv_n 1 Z rfl fun a Z => ?_))))))
   refine sv_r (v := .int .i64 ((n + 1 : Nat) : Int)) Z (ei_add (Z.g 36 rfl) rfl (by rw [IntKind.wrap_i64]; omega)) fun a Z => sv_n 1 Z rfl fun a Z => Z.nx [4, 35, 0, 2, 3] rfl fun Z => ?_
   refine ⟨⟨n + 1, by omega, Z.pick rfl⟩, ?_⟩
   have h1 := Z.g 4 rfl; rw [h1]; rw [hS0]; simp only [intOf]; omega
theorem zzSigned_any (s : ByteArray) (k : Nat) (hs : s.size ≤ 1000000000) (h0 : 0 < s.size) (hb : 48 ≤ (s[0]'h0).toNat) (hk : ∀ w, Calls Tryz.prog 75 #[.string (s.extract 0 (runN isD s)), .int .i64 10, .int .i64 64] w fun e w' => e = .returned (.tuple #[.int .i64 ((k : Nat) : Int), .nilIface]) ∧ Below w.heap.size w w') (w : World) : Calls Tryz.prog 93 #[.string s] w fun e w' => e = .returned (.tuple #[.int .i64 ((k : Nat) : Int), .string (s.extract (runN isD s) s.size), .nilIface]) ∧ Below w.heap.size w w' := by
 refine calls_of_ev Tryz.func93 rfl (show 1 ≤ 73 from by decide) fun a hE => ?_
 have hE : Ev 73 ((0, .string s) :: []) a := hE
 have Z : Sv 73 ((0, .string s) :: []) [] (fun _ => False) w a w := Sv.start hE _ _
 clear hE
 refine wr (sv_n 3 Z rfl fun a Z => Z.nx [4, 3, 2, 0] rfl fun Z => sh (wp_seq (wp_block ?_)))
 refine wp_loop (fun a w' => ∃ u : Unit, u = u ∧ Sv 73 ((4, .nilIface) :: (3, .string (⟨#[]⟩)) :: (2, .int .i64 0) :: (0, .string s) :: []) [] (fun _ => False) w a w') (fun a _ => 0) ⟨(), rfl, Z.pick rfl⟩ ?_
 clear Z
 rintro a w1 ⟨u, hu, Z⟩
 obtain ⟨hb1, hb2⟩ : (s[0]'h0).toNat ≠ 32 ∧ (s[0]'h0).toNat ≠ 9 := ⟨by omega, by omega⟩
 ·refine wp_seq (wr (sv_n 1 Z rfl fun a Z => sv_r (v := .int .i64 ((s.size : Nat) : Int)) Z (ex_slen (ats := #[]) (Z.g 9 rfl)) fun a Z => ?_))
  refine sv_r (v := .bool true) Z (ei_gtr (Z.g 10 rfl) rfl (by rw [decide_eq_true_iff]; omega)) fun a Z => sv_n 2 Z rfl fun a Z => sv_g (v := .int .u8 (((s[0]'h0).toNat : Nat) : Int)) Z (Z.g 12 rfl) (ex_sidx (i := 0) (Z.g 13 rfl) rfl h0) fun a Z => ?_
  refine sv_g (v := .bool false) Z (Z.g 12 rfl) (ei_eql (Z.g 14 rfl) rfl (by rw [decide_eq_false_iff_not]; omega)) fun a Z => sv_n 2 Z rfl fun a Z => sv_g (v := .int .u8 (((s[0]'h0).toNat : Nat) : Int)) Z (Z.g 16 rfl) (ex_sidx (i := 0) (Z.g 17 rfl) rfl h0) fun a Z => ?_
  refine sv_g (v := .bool false) Z (Z.g 16 rfl) (ei_eql (Z.g 18 rfl) rfl (by rw [decide_eq_false_iff_not]; omega)) fun a Z => sv_n 2 Z rfl fun a Z => Z.nx [21, 4, 3, 2, 0] rfl fun Z => sh (cond_f (Z.g 21 rfl) (wp_exit ?_))
  simp only [Exit.inBlock, Exit.then, if_true]
  refine sh (wr (sv_n 1 Z rfl fun a Z => Z.nx [5, 21, 4, 3, 2, 0] rfl fun Z => sh (wp_seq (wr (sv_n 1 Z rfl fun a Z => sv_r (v := .int .i64 ((s.size : Nat) : Int)) Z (ex_slen (ats := #[]) (Z.g 24 rfl)) fun a Z => ?_)))))
  refine sv_r (v := .bool true) Z (ei_gtr (Z.g 25 rfl) rfl (by rw [decide_eq_true_iff]; omega)) fun a Z => sv_n 2 Z rfl fun a Z => sv_g (v := .int .u8 (((s[0]'h0).toNat : Nat) : Int)) Z (Z.g 27 rfl) (ex_sidx (i := 0) (Z.g 28 rfl) rfl h0) fun a Z => ?_
  refine sv_g (v := .bool false) Z (Z.g 27 rfl) (ei_eql (Z.g 29 rfl) rfl (by rw [decide_eq_false_iff_not]; omega)) fun a Z => sv_n 2 Z rfl fun a Z => sv_g (v := .int .u8 (((s[0]'h0).toNat : Nat) : Int)) Z (Z.g 31 rfl) (ex_sidx (i := 0) (Z.g 32 rfl) rfl h0) fun a Z => ?_
  refine sv_g (v := .bool false) Z (Z.g 31 rfl) (ei_eql (Z.g 33 rfl) rfl (by rw [decide_eq_false_iff_not]; omega)) fun a Z => sv_n 2 Z rfl fun a Z => Z.nx [36, 5, 21, 4, 3, 2, 0] rfl fun Z => sh (cond_f (Z.g 36 rfl) (wp_skip (sh (wr (sv_n 1 Z rfl fun a Z => Z.nx [6, 36, 5, 21, 4, 3, 2, 0] rfl fun Z => sh (wp_seq ?_))))))
  refine wp_block ?_
  refine wp_loop (fun a w' => ∃ n : Nat, n ≤ s.size ∧ (∀ j (hj : j < s.size), j < n → isD (s[j]'hj) = true) ∧ Sv 73 ((6, .int .i64 ((n : Nat) : Int)) :: (0, .string s) :: (5, .string (⟨#[]⟩)) :: []) [] (fun _ => False) w a w') (fun a _ => (s.size + 1 - (intOf (a.eval (.tmp 6))).toNat)) ⟨0, by omega, (fun j hj h => absurd h (Nat.not_lt_zero _)), Z.pick rfl⟩ ?_
  clear Z
  rintro a w2 ⟨n, hn, hd, Z⟩
  have hS0 := Z.g 6 rfl
  obtain hq | ⟨hlt, hq⟩ | ⟨hlt, hq1, hq2⟩ | ⟨hlt, hq1, hq2⟩ := dig_cases s n hn
  ·have hrun : runN isD s = n := runN_eq hn hd (fun hj => absurd hj (by omega))
   refine wp_seq (wr (sv_n 2 Z rfl fun a Z => sv_r (v := .int .i64 ((s.size : Nat) : Int)) Z (ex_slen (ats := #[]) (Z.g 42 rfl)) fun a Z => ?_))
   refine sv_r (v := .bool false) Z (ei_lss (Z.g 41 rfl) (Z.g 43 rfl) (by rw [decide_eq_false_iff_not]; omega)) fun a Z => sv_n 12 Z rfl fun a Z => Z.nx [56, 6, 0, 5] rfl fun Z => sh (cond_f (Z.g 56 rfl) (wp_exit ?_))
   simp only [Exit.inBlock, Exit.then, if_true]
   refine sh (wr (sv_n 3 Z rfl fun a Z => ?_))
   refine sv_r (v := .string (s.extract 0 n)) Z (ex_ssh (Z.g 61 rfl) (Z.g 62 rfl) (by omega)) fun a Z => ?_
   refine sv_r (v := .string ((⟨#[]⟩ : ByteArray) ++ s.extract 0 n)) Z (ex_add (Z.g 60 rfl) (Z.g 63 rfl) (by rw [show (⟨#[]⟩ : ByteArray).size = 0 from rfl, ByteArray.size_extract]; omega)) fun a Z => ?_
   refine sv_callv (v := .tuple #[.int .i64 ((k : Nat) : Int), .nilIface]) Z rfl rfl (by decide) (ex_call3 cf_strconv_ParseInt (Z.g 64 rfl) rfl rfl) (by have h := hk w2; rw [hrun] at h; rw [nil_app]; exact h) fun a w3 hbw3 Z => sv_n 5 Z rfl fun a Z => Z.nx [8, 7, 56, 6, 0] rfl fun Z => sh (wp_seq ?_)
   refine G2.wp_region_og0 (n := 73) [G2.Asr.eq (.int .i64 ((k : Nat) : Int)), G2.Asr.eq (.string s), G2.Asr.eq (.int .i64 ((n : Nat) : Int)), G2.Asr.eq (.string (s.extract n s.size)), G2.Asr.eq (.nilIface), G2.Asr.eq (.int .i64 ((k : Nat) : Int)), G2.Asr.eq (.string (s.extract n s.size)), G2.Asr.eq (.nilIface)] (by kernel_rfl) (by kernel_rfl) (by kernel_rfl) Z.ev.size ⟨⟩ ?_ ?_
   ·exact ⟨G2.qm (Z.g 7 rfl), G2.qm (Z.g 0 rfl), G2.qm (Z.g 6 rfl), fun _ _ c => G2.og_val (ex_ssl (c.s 1 rfl) (c.s 2 rfl) (by omega)) rfl, G2.qm (Z.g 8 rfl), fun _ _ c => G2.og_val (ex_as (c.s 0 rfl)) rfl, fun _ _ c => G2.og_val (ex_as (c.s 3 rfl)) rfl, fun _ _ c => G2.og_val (ex_as (c.s 4 rfl)) rfl, trivial⟩
   ·intro a w4 c hbw4
    replace Z : Sv 73 ((4, .nilIface) :: (3, .string (s.extract n s.size)) :: (2, .int .i64 ((k : Nat) : Int)) :: (0, .string s) :: (6, .int .i64 ((n : Nat) : Int)) :: (56, .bool false) :: (7, .int .i64 ((k : Nat) : Int)) :: (8, .nilIface) :: []) [] (fun _ => False) w a w4 := (((((((((G2.sv_oge Z c).know (c.outG (by decide +kernel) (Z.g 8 rfl))).know (c.outG (by decide +kernel) (Z.g 7 rfl))).know (c.outG (by decide +kernel) (Z.g 56 rfl))).know (c.outG (by decide +kernel) (Z.g 6 rfl))).know (c.outG (by decide +kernel) (Z.g 0 rfl))).know (c.slot 5 _ rfl)).know (c.slot 6 _ rfl)).know (c.slot 7 _ rfl))
    clear c
    replace Z := Z.ct [4, 3, 2, 0, 6, 56] rfl
    refine sh (wp_ret ?_)
    try simp only [Exit.inBlock, Exit.then]
    exact ret3_of_ev Z.ev rfl (Z.g 2 rfl) (Z.g 3 rfl) (Z.g 4 rfl) ⟨by rw [hrun], Z.toBelow⟩
  ·have hrun : runN isD s = n := runN_eq hn hd (fun _ => by simp [isD]; omega)
   refine wp_seq (wr (sv_n 2 Z rfl fun a Z => sv_r (v := .int .i64 ((s.size : Nat) : Int)) Z (ex_slen (ats := #[]) (Z.g 42 rfl)) fun a Z => ?_))
   refine sv_r (v := .bool true) Z (ei_lss (Z.g 41 rfl) (Z.g 43 rfl) (by rw [decide_eq_true_iff]; omega)) fun a Z => sv_n 3 Z rfl fun a Z => sv_g (v := .int .u8 (((s[n]'hlt).toNat : Nat) : Int)) Z (Z.g 45 rfl) (ex_sidx (Z.g 46 rfl) (Z.g 47 rfl) hlt) fun a Z => ?_
   refine sv_g (v := .bool false) Z (Z.g 45 rfl) (ei_geq (Z.g 48 rfl) rfl (by rw [decide_eq_false_iff_not]; omega)) fun a Z => sv_n 7 Z rfl fun a Z => Z.nx [56, 6, 0, 5] rfl fun Z => sh (cond_f (Z.g 56 rfl) (wp_exit ?_))
   simp only [Exit.inBlock, Exit.then, if_true]
   refine sh (wr (sv_n 3 Z rfl fun a Z => ?_))
   refine sv_r (v := .string (s.extract 0 n)) Z (ex_ssh (Z.g 61 rfl) (Z.g 62 rfl) (by omega)) fun a Z => ?_
   refine sv_r (v := .string ((⟨#[]⟩ : ByteArray) ++ s.extract 0 n)) Z (ex_add (Z.g 60 rfl) (Z.g 63 rfl) (by rw [show (⟨#[]⟩ : ByteArray).size = 0 from rfl, ByteArray.size_extract]; omega)) fun a Z => ?_
   refine sv_callv (v := .tuple #[.int .i64 ((k : Nat) : Int), .nilIface]) Z rfl rfl (by decide) (ex_call3 cf_strconv_ParseInt (Z.g 64 rfl) rfl rfl) (by have h := hk w2; rw [hrun] at h; rw [nil_app]; exact h) fun a w5 hbw5 Z => sv_n 5 Z rfl fun a Z => Z.nx [8, 7, 56, 6, 0] rfl fun Z => sh (wp_seq ?_)
   refine G2.wp_region_og0 (n := 73) [G2.Asr.eq (.int .i64 ((k : Nat) : Int)), G2.Asr.eq (.string s), G2.Asr.eq (.int .i64 ((n : Nat) : Int)), G2.Asr.eq (.string (s.extract n s.size)), G2.Asr.eq (.nilIface), G2.Asr.eq (.int .i64 ((k : Nat) : Int)), G2.Asr.eq (.string (s.extract n s.size)), G2.Asr.eq (.nilIface)] (by kernel_rfl) (by kernel_rfl) (by kernel_rfl) Z.ev.size ⟨⟩ ?_ ?_
   ·exact ⟨G2.qm (Z.g 7 rfl), G2.qm (Z.g 0 rfl), G2.qm (Z.g 6 rfl), fun _ _ c => G2.og_val (ex_ssl (c.s 1 rfl) (c.s 2 rfl) (by omega)) rfl, G2.qm (Z.g 8 rfl), fun _ _ c => G2.og_val (ex_as (c.s 0 rfl)) rfl, fun _ _ c => G2.og_val (ex_as (c.s 3 rfl)) rfl, fun _ _ c => G2.og_val (ex_as (c.s 4 rfl)) rfl, trivial⟩
   ·intro a w6 c hbw6
    replace Z : Sv 73 ((4, .nilIface) :: (3, .string (s.extract n s.size)) :: (2, .int .i64 ((k : Nat) : Int)) :: (0, .string s) :: (6, .int .i64 ((n : Nat) : Int)) :: (56, .bool false) :: (7, .int .i64 ((k : Nat) : Int)) :: (8, .nilIface) :: []) [] (fun _ => False) w a w6 := (((((((((G2.sv_oge Z c).know (c.outG (by decide +kernel) (Z.g 8 rfl))).know (c.outG (by decide +kernel) (Z.g 7 rfl))).know (c.outG (by decide +kernel) (Z.g 56 rfl))).know (c.outG (by decide +kernel) (Z.g 6 rfl))).know (c.outG (by decide +kernel) (Z.g 0 rfl))).know (c.slot 5 _ rfl)).know (c.slot 6 _ rfl)).know (c.slot 7 _ rfl))
    clear c
    replace Z := Z.ct [4, 3, 2, 0, 6, 56] rfl
    refine sh (wp_ret ?_)
    try simp only [Exit.inBlock, Exit.then]
    exact ret3_of_ev Z.ev rfl (Z.g 2 rfl) (Z.g 3 rfl) (Z.g 4 rfl) ⟨by rw [hrun], Z.toBelow⟩
  ·have hrun : runN isD s = n := runN_eq hn hd (fun _ => by simp [isD]; omega)
   refine wp_seq (wr (sv_n 2 Z rfl fun a Z => sv_r (v := .int .i64 ((s.size : Nat) : Int)) Z (ex_slen (ats := #[]) (Z.g 42 rfl)) fun a Z => ?_))
   refine sv_r (v := .bool true) Z (ei_lss (Z.g 41 rfl) (Z.g 43 rfl) (by rw [decide_eq_true_iff]; omega)) fun a Z => sv_n 3 Z rfl fun a Z => sv_g (v := .int .u8 (((s[n]'hlt).toNat : Nat) : Int)) Z (Z.g 45 rfl) (ex_sidx (Z.g 46 rfl) (Z.g 47 rfl) hlt) fun a Z => ?_
   refine sv_g (v := .bool true) Z (Z.g 45 rfl) (ei_geq (Z.g 48 rfl) rfl (by rw [decide_eq_true_iff]; omega)) fun a Z => sv_n 4 Z rfl fun a Z => sv_g (v := .int .u8 (((s[n]'hlt).toNat : Nat) : Int)) Z (Z.g 51 rfl) (ex_sidx (Z.g 52 rfl) (Z.g 53 rfl) hlt) fun a Z => ?_
   refine sv_g (v := .bool false) Z (Z.g 51 rfl) (ei_leq (Z.g 54 rfl) rfl (by rw [decide_eq_false_iff_not]; omega)) fun a Z => sv_n 1 Z rfl fun a Z => Z.nx [56, 6, 0, 5] rfl fun Z => sh (cond_f (Z.g 56 rfl) (wp_exit ?_))
   simp only [Exit.inBlock, Exit.then, if_true]
   refine sh (wr (sv_n 3 Z rfl fun a Z => ?_))
   refine sv_r (v := .string (s.extract 0 n)) Z (ex_ssh (Z.g 61 rfl) (Z.g 62 rfl) (by omega)) fun a Z => ?_
   refine sv_r (v := .string ((⟨#[]⟩ : ByteArray) ++ s.extract 0 n)) Z (ex_add (Z.g 60 rfl) (Z.g 63 rfl) (by rw [show (⟨#[]⟩ : ByteArray).size = 0 from rfl, ByteArray.size_extract]; omega)) fun a Z => ?_
   refine sv_callv (v := .tuple #[.int .i64 ((k : Nat) : Int), .nilIface]) Z rfl rfl (by decide) (ex_call3 cf_strconv_ParseInt (Z.g 64 rfl) rfl rfl) (by have h := hk w2; rw [hrun] at h; rw [nil_app]; exact h) fun a w7 hbw7 Z => sv_n 5 Z rfl fun a Z => Z.nx [8, 7, 56, 6, 0] rfl fun Z => sh (wp_seq ?_)
   refine G2.wp_region_og0 (n := 73) [G2.Asr.eq (.int .i64 ((k : Nat) : Int)), G2.Asr.eq (.string s), G2.Asr.eq (.int .i64 ((n : Nat) : Int)), G2.Asr.eq (.string (s.extract n s.size)), G2.Asr.eq (.nilIface), G2.Asr.eq (.int .i64 ((k : Nat) : Int)), G2.Asr.eq (.string (s.extract n s.size)), G2.Asr.eq (.nilIface)] (by kernel_rfl) (by kernel_rfl) (by kernel_rfl) Z.ev.size ⟨⟩ ?_ ?_
   ·exact ⟨G2.qm (Z.g 7 rfl), G2.qm (Z.g 0 rfl), G2.qm (Z.g 6 rfl), fun _ _ c => G2.og_val (ex_ssl (c.s 1 rfl) (c.s 2 rfl) (by omega)) rfl, G2.qm (Z.g 8 rfl), fun _ _ c => G2.og_val (ex_as (c.s 0 rfl)) rfl, fun _ _ c => G2.og_val (ex_as (c.s 3 rfl)) rfl, fun _ _ c => G2.og_val (ex_as (c.s 4 rfl)) rfl, trivial⟩
   ·intro a w8 c hbw8
    replace Z : Sv 73 ((4, .nilIface) :: (3, .string (s.extract n s.size)) :: (2, .int .i64 ((k : Nat) : Int)) :: (0, .string s) :: (6, .int .i64 ((n : Nat) : Int)) :: (56, .bool false) :: (7, .int .i64 ((k : Nat) : Int)) :: (8, .nilIface) :: []) [] (fun _ => False) w a w8 := (((((((((G2.sv_oge Z c).know (c.outG (by decide +kernel) (Z.g 8 rfl))).know (c.outG (by decide +kernel) (Z.g 7 rfl))).know (c.outG (by decide +kernel) (Z.g 56 rfl))).know (c.outG (by decide +kernel) (Z.g 6 rfl))).know (c.outG (by decide +kernel) (Z.g 0 rfl))).know (c.slot 5 _ rfl)).know (c.slot 6 _ rfl)).know (c.slot 7 _ rfl))
    clear c
    replace Z := Z.ct [4, 3, 2, 0, 6, 56] rfl
    refine sh (wp_ret ?_)
    try simp only [Exit.inBlock, Exit.then]
    exact ret3_of_ev Z.ev rfl (Z.g 2 rfl) (Z.g 3 rfl) (Z.g 4 rfl) ⟨by rw [hrun], Z.toBelow⟩
  ·have hdn : isD (s[n]'hlt) = true := by simp [isD]; omega
   refine wp_seq (wr (sv_n 2 Z rfl fun a Z => sv_r (v := .int .i64 ((s.size : Nat) : Int)) Z (ex_slen (ats := #[]) (Z.g 42 rfl)) fun a Z => ?_))
   refine sv_r (v := .bool true) Z (ei_lss (Z.g 41 rfl) (Z.g 43 rfl) (by rw [decide_eq_true_iff]; omega)) fun a Z => sv_n 3 Z rfl fun a Z => sv_g (v := .int .u8 (((s[n]'hlt).toNat : Nat) : Int)) Z (Z.g 45 rfl) (ex_sidx (Z.g 46 rfl) (Z.g 47 rfl) hlt) fun a Z => ?_
   refine sv_g (v := .bool true) Z (Z.g 45 rfl) (ei_geq (Z.g 48 rfl) rfl (by rw [decide_eq_true_iff]; omega)) fun a Z => sv_n 4 Z rfl fun a Z => sv_g (v := .int .u8 (((s[n]'hlt).toNat : Nat) : Int)) Z (Z.g 51 rfl) (ex_sidx (Z.g 52 rfl) (Z.g 53 rfl) hlt) fun a Z => ?_
   refine sv_g (v := .bool true) Z (Z.g 51 rfl) (ei_leq (Z.g 54 rfl) rfl (by rw [decide_eq_true_iff]; omega)) fun a Z => sv_n 1 Z rfl fun a Z => Z.nx [56, 6, 0, 5] rfl fun Z => sh (cond_t (Z.g 56 rfl) (wp_skip (sh (wp_block (wp_region_lit (sv_n 1 Z rfl fun a Z => ?_))))))
   refine sv_r (v := .int .i64 ((n + 1 : Nat) : Int)) Z (ei_add (Z.g 57 rfl) rfl (by rw [IntKind.wrap_i64]; omega)) fun a Z => sv_n 1 Z rfl fun a Z => Z.nx [6, 56, 0, 5] rfl fun Z => ?_
   refine ⟨⟨n + 1, by omega, (fun j hj hji => by by_cases e : j = n; (· subst e; exact hdn); (· exact hd j hj (by omega))), Z.pick rfl⟩, ?_⟩
   have h1 := Z.g 6 rfl; rw [h1]; rw [hS0]; simp only [intOf]; omega
theorem zzRange_any (v r1 r2 u : ByteArray) (g l0 o0 n1 n2 : Nat) (hv : ∀ w, Calls Tryz.prog 93 #[.string v] w fun e w' => e = .returned (.tuple #[.int .i64 ((n1 : Nat) : Int), .string r1, .nilIface]) ∧ Below w.heap.size w w') (h0 : 0 < r1.size) (h64 : (r1[0]'h0).toNat = 64) (hs : r1.size ≤ 1000000000) (hr : ∀ w, Calls Tryz.prog 93 #[.string (r1.extract 1 r1.size)] w fun e w' => e = .returned (.tuple #[.int .i64 ((n2 : Nat) : Int), .string r2, .nilIface]) ∧ Below w.heap.size w w') (w : World) (hg : w.heap[g]? = some (.cells #[.string u, .int .i64 ((l0 : Nat) : Int), .int .i64 ((o0 : Nat) : Int)] 133 (0, 0))) : Calls Tryz.prog 73 #[.string v, pt g 1, pt g 2] w fun e w' => e = .returned .nilIface ∧ Only (fun q => q = g) w w' ∧ w'.heap[g]? = some (.cells #[.string u, .int .i64 ((n1 : Nat) : Int), .int .i64 ((n2 : Nat) : Int)] 133 (0, 0)) := by
 refine calls_of_ev Tryz.func73 rfl (show 3 ≤ 46 from by decide) fun a hE => ?_
 have hE : Ev 46 ((0, .string v) :: (1, pt g 1) :: (2, pt g 2) :: []) a := hE
 have Z : Sv 46 ((0, .string v) :: (1, pt g 1) :: (2, pt g 2) :: []) [] (fun q => q = g) w a w := Sv.start hE _ _
 clear hE
 replace Z := (Z.addB (o := true) hg (by intro q hq; cases hq) (fun _ => .inl rfl)).ct [0, 1, 2] rfl
 refine wr (sv_n 1 Z rfl fun a Z => Z.nx [6, 0, 1, 2] rfl fun Z => sh (wr (sv_n 1 Z rfl fun a Z => sv_callv (v := .tuple #[.int .i64 ((n1 : Nat) : Int), .string r1, .nilIface]) Z rfl rfl (by decide) (ex_call1 cf_m3u8_zzSigned (Z.g 13 rfl)) (hv _) fun a w1 hbw1 Z => sv_n 7 Z rfl fun a Z => Z.nx [9, 8, 7, 6, 0, 1, 2] rfl fun Z => sh (wp_seq (wr ?_)))))
 refine sv_n 1 Z rfl fun a Z => sv_r (v := .bool false) Z (ex_ine eqi_error (Z.g 18 rfl)) fun a Z => Z.nx [19, 9, 8, 7, 6, 0, 1, 2] rfl fun Z => sh (cond_f (Z.g 19 rfl) (wp_skip (sh (wr (sv_n 3 Z rfl fun a Z => sv_st (i := 0) (v := .int .i64 ((n1 : Nat) : Int)) (cs' := #[.string u, .int .i64 ((n1 : Nat) : Int), .int .i64 ((o0 : Nat) : Int)]) Z (su_int64 _) (Z.g 23 rfl) (Z.g 22 rfl) rfl (show 1 < 3 from by decide) rfl rfl fun w2 hty Z => Z.nx [19, 9, 8, 6, 0, 1, 2] rfl fun Z => sh ?_)))))
 refine wp_seq (wr (sv_n 1 Z rfl fun a Z => sv_r (v := .int .i64 ((r1.size : Nat) : Int)) Z (ex_slen (ats := #[]) (Z.g 24 rfl)) fun a Z => ?_))
 refine sv_r (v := .bool false) Z (ei_eql (Z.g 25 rfl) rfl (by rw [decide_eq_false_iff_not]; omega)) fun a Z => sv_n 2 Z rfl fun a Z => sv_g (v := .int .u8 (((r1[0]'h0).toNat : Nat) : Int)) Z (Z.g 27 rfl) (ex_sidx (i := 0) (Z.g 28 rfl) rfl h0) fun a Z => ?_
 refine sv_g (v := .bool false) Z (Z.g 27 rfl) (ei_neq (Z.g 29 rfl) rfl (by rw [decide_eq_false_iff_not]; omega)) fun a Z => sv_n 1 Z rfl fun a Z => Z.nx [31, 19, 9, 8, 6, 0, 1, 2] rfl fun Z => sh (cond_f (Z.g 31 rfl) (wp_skip (sh (wr (sv_n 1 Z rfl fun a Z => ?_)))))
 refine sv_r (v := .string (r1.extract 1 r1.size)) Z (ex_ssl (i := 1) (Z.g 34 rfl) rfl (by omega)) fun a Z => sv_callv (v := .tuple #[.int .i64 ((n2 : Nat) : Int), .string r2, .nilIface]) Z rfl rfl (by decide) (ex_call1 cf_m3u8_zzSigned (Z.g 35 rfl)) (hr _) fun a w3 hbw3 Z => sv_n 7 Z rfl fun a Z => Z.nx [9, 10, 31, 19, 8, 6, 0, 1, 2] rfl fun Z => sh (wp_seq (wr (sv_n 1 Z rfl fun a Z => sv_r (v := .bool false) Z (ex_ine eqi_error (Z.g 40 rfl)) fun a Z => Z.nx [41, 9, 10, 31, 19, 8, 6, 0, 1, 2] rfl fun Z => sh (cond_f (Z.g 41 rfl) ?_))))
 refine wp_skip (sh (wr (sv_n 3 Z rfl fun a Z => sv_st (i := 0) (v := .int .i64 ((n2 : Nat) : Int)) (cs' := #[.string u, .int .i64 ((n1 : Nat) : Int), .int .i64 ((n2 : Nat) : Int)]) Z (su_int64 _) (Z.g 45 rfl) (Z.g 44 rfl) rfl (show 2 < 3 from by decide) rfl rfl fun w4 hty Z => Z.nx [41, 9, 31, 19, 8, 6, 0, 1] rfl fun Z => sh (wr (sv_n 1 Z rfl fun a Z => Z.nx [6, 41, 9, 31, 19, 8, 0, 1] rfl fun Z => sh (wp_ret ?_))))))
 try simp only [Exit.inBlock, Exit.then]
 exact ret_of_ev Z.ev rfl (Z.g 6 rfl) ⟨rfl, Z.only, Z.at 0 rfl⟩
end Go.Proofs.YtflppablgdegcaaGreatDoor
