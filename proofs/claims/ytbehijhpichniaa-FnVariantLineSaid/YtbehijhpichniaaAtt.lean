/- The walks of pub/m3u8.DecodeAttributeList and impl.Attributes. -/
import Derived.Test.YtbehijhpichniaaDcd
namespace Go.Proofs.Ytbehijhpichniaa
open Go.RowKit
theorem Maps.keyOf_string_inv2 {P : Program} {k : TypeId} (hk : P.underlying k = some .string) {key : Value} {kl : Lit} (h : keyOf P k key = some kl) : ∃ s : ByteArray, key = .string s ∧ kl = .string s.data.toList := by
  obtain ⟨s, rfl⟩ := Go.Maps.keyOf_string_inv hk h
  rw [keyOf_string hk] at h
  unfold mapKey at h
  rw [hk] at h
  simp at h
  exact ⟨s, rfl, h.2.symm⟩
/-- THE RANGE's STEP, string keys, string elements. -/
theorem wpList_next_ss {P : Program} (w : World) {ops : Array Oper} {rest : List Oper} {o : Oper} {a : Act} {Q : Exit → Act → World → Prop}
    (hg : o.guard = none) (it : Operand) (hop : o.op = Op.next it false) (k e : TypeId) (hk : P.underlying k = some .string) (he : P.underlying e = some .string)
    (b r n : Nat) (D : DataW Unit) (left : Lit → Bool) (cnt : Nat) (hit : a.eval it = .pointer (some ⟨r, 0, none⟩)) (h : w.ranges P k (plainElem P e) b r n D left cnt)
    (hDone : cnt = 0 → (∀ kl, left kl = false) → wpList P ops Q rest (a.put o.dst (.tuple #[.bool false])) w)
    (hMore : ∀ (x c : ByteArray) (w' : World) (cnt' : Nat), left (.string x.data.toList) = true → (∀ zd, D.atKey (.string x.data.toList) zd = .lit (.string c.data.toList)) → w'.ranges P k (plainElem P e) b r n D (fun z => left z && !z.sameKey (.string x.data.toList)) cnt' → cnt' < cnt →
      w.grownBy w' (some r) → w'.heap.size = w.heap.size → (Instr.entry (.pointer (some ⟨r, 0, none⟩))).run P w' = .ok (.tuple #[.string x, .string c]) w' → wpList P ops Q rest (a.put o.dst (.tuple #[.bool true, .string x, .string c])) w') :
    wpList P ops Q (o :: rest) a w :=
  wpList_next_ranges w hg it hop k (Go.Maps.string_keyed hk) (plainElem P e) Value.string Value.string (fun key kl hkey => by obtain ⟨x, rfl, _⟩ := Maps.keyOf_string_inv2 hk hkey; exact ⟨x, rfl⟩) (fun v y hv => by obtain ⟨c, rfl, _⟩ := plainElem_string_inv he hv; exact ⟨c, rfl⟩)
    b r n D left cnt hit h hDone (fun x c kl y w' cnt' hkey hlk hv hat hrg hlt hgr hsz hen => by
      obtain ⟨x', ex, rfl⟩ := Maps.keyOf_string_inv2 hk hkey
      cases ex
      obtain ⟨c', ec, rfl, hwc⟩ := plainElem_string_inv he hv
      cases ec
      exact hMore x c w' cnt' hlk hat hrg hlt hgr hsz hen)
theorem decodeList_any (tx : ByteArray) (G : List Tr) (hG : ∀ t ∈ G, t.Good) (hnd : (G.map Tr.name).Nodup) (hne : G ≠ []) (hlen : G.length ≤ 100) (htx : tx.data.toList = joinL (G.map Tr.text)) (hsz : tx.size ≤ 1000000) (w : World) :
    Calls Try.prog 13 #[.string tx] w (MapPost G w) := by
  have h := decode_any tx G hG hnd hne hlen htx hsz
  clear hG hnd hne hlen htx hsz
  go_enter Try.func13, Try.ntmps13
  go_wp2_with (go_at_call 20; refine (h _).mono ?_; rintro e w1 ⟨b, n, D, rfl, h1, h2, h3, h4⟩)
  go_ret
  exact ⟨b, n, D, rfl, h1, h2, h3, h4⟩
/-- What impl.Attributes hands back: these pairs, in some order. -/
def AttrPost (G : List Tr) (w : World) (e : Ending) (w' : World) : Prop := ∃ (sp : Value) (C : List Tr), e = .returned sp ∧ C.length = G.length ∧ (∀ t ∈ C, ∃ g ∈ G, g.name = t.name ∧ g.value = t.value) ∧ Own prT 37 2 w' w.heap.size sp C ∧ Below w.heap.size w w'
/-- Between two rounds. -/
structure Ak (G : List Tr) (w : World) (b r n : Nat) (D : DataW Unit) (out : Value) (cnt : Nat) (left : Lit → Bool) (C : List Tr) (wx : World) : Prop where
  rng : wx.ranges Try.prog 9 (plainElem Try.prog 9) b r n D left cnt
  got : Rg G D left C
  own : Own prT 37 2 wx (r + 1) out C
  below : Below w.heap.size w wx
theorem only_grown {w w' : World} {v : Value} (h : Only (fun g => v.ownBlock = some g) w w') : w.grownBy w' v.ownBlock := ⟨h.os, h.tape, h.output, h.size, fun i hi hne => h.block i hi (fun e => hne e.symm)⟩
set_option maxRecDepth 100000 in
set_option maxHeartbeats 8000000 in
theorem attributesOf_any (tx : ByteArray) (G : List Tr) (hG : ∀ t ∈ G, t.Good) (hnd : (G.map Tr.name).Nodup) (hne : G ≠ []) (hlen : G.length ≤ 12) (htx : tx.data.toList = joinL (G.map Tr.text)) (hsz : tx.size ≤ 8000) (w : World) :
    Calls Try.prog 6 #[.string tx] w (AttrPost G w) := by
  have hdec := fun w => decodeList_any tx G hG hnd hne (by omega) htx (by omega) w
  clear hG htx
  have hpos : 0 < G.length := List.length_pos_iff.2 hne
  go_enter Try.func6, Try.ntmps6
  go_wp2_with (first | (go_at_call 13; refine (hdec _).mono ?_; rintro e w1 ⟨b, n, D, rfl, h1, h2, h3, h4⟩; clear hdec) | (at_range; refine wpList_range_own _ rfl _ 49 rfl 9 9 (Go.Maps.string_keyed Try.underlying9) Try.underlying49 _ b n D rfl h1 ?_; intro w0 hrg0 hg0 hs0))
  obtain ⟨iP, hiP, hzP, hsP, hbP⟩ := info_parts info_pair
  have hs1 := h4.size
  have hbl := h1.lt
  have hA0 : Ak G w b w1.heap.size n D (.slice none 0 0) (Maps.size D) (Maps.has D) [] w0 := ⟨hrg0, Rg.start h2, Own.nil _ _ _ _ _, h4.grown hg0 hs1 (by intro k hk; cases hk)⟩
  clear hrg0 hg0 h4 hne
  go_frame
  go_loopg [3] (Maps.size D) (fun m out wx => ∃ (left : Lit → Bool) (cnt : Nat) (C : List Tr), m = cnt ∧ Ak G w b w1.heap.size n D out cnt left C wx)
  case atStart => exact ⟨_, _, [], rfl, hA0⟩
  case round =>
    obtain ⟨left, cnt, C, hm, hA⟩ := hrel
    clear hA0
    go_step
    go_step
    refine wpList_next_ss _ ?_ (.tmp 11) ?_ 9 9 Try.underlying9 Try.underlying9 b w1.heap.size n D left cnt ?_ hA.rng ?_ ?_
    · rfl
    · rfl
    · rfl
    · intro hc0 hl0
      have hCl := hA.got.done hnd hl0
      have hCn : C ≠ [] := by intro e; rw [e] at hCl; simp at hCl; omega
      have hsrt := sort_any C hCn (by omega) _ _ _ hA.own
      go_frame
      go_wp2_with (go_at_call 14; refine hsrt.mono ?_; rintro e w2 ⟨rfl, C', hp, ho, hon⟩)
      go_ret
      refine ⟨_, C', rfl, ?_, ?_, ho.base (by omega), ?_⟩
      · rw [hp.length_eq, hCl]
      · intro t ht
        exact hA.got.sub t (hp.mem_iff.1 ht)
      · refine hA.below.trans (hon.below hA.below.size fun g hg e => ?_)
        have := (hA.own.block_lt g e).1
        omega
    · intro x c wy cnt' hl hat hrg hlt hg hs hen
      have hR := hA.got.step h2 hl hat
      have hCl := hA.got.len
      have hob : u3.ownBlock = none ∨ u3.ownBlock ≠ some w1.heap.size := by
        right
        intro e
        have := (hA.own.block_lt _ e).1
        omega
      have hOw : Own prT 37 2 wy (w1.heap.size + 1) _ C := hA.own.kept hg hob
      have hBl := hA.below.grown hg hA.below.size (by intro j hj; cases hj; exact hs1)
      have hlen2 : C.length ≤ 1000 := by omega
      have hsy : w1.heap.size + 1 ≤ wy.heap.size := by have := hA.rng.lt; omega
      have hAn : ∀ (v2 : Value) (w2 : World), Own prT 37 2 w2 (w1.heap.size + 1) v2 (C ++ [⟨x, c, false⟩]) → Only (fun g => u3.ownBlock = some g) wy w2 → Ak G w b w1.heap.size n D v2 cnt' (fun z => left z && !z.sameKey (.string x.data.toList)) (C ++ [⟨x, c, false⟩]) w2 := by
        intro v2 w2 ho2 hon2
        refine ⟨hrg.kept (only_grown hon2) ?_ ?_, hR, ho2, hBl.trans (hon2.below hBl.size fun g hg e => ?_)⟩
        · intro e
          have := (hOw.block_lt b e.symm).1
          omega
        · intro e
          have := (hOw.block_lt _ e.symm).1
          omega
        · have := (hOw.block_lt g e).1; omega
      have hB2 : w1.heap.size + 1 ≤ wy.heap.size := hsy
      clear hrg hR hBl hA hat hl
      go_frame
      go_wp2_with (refine arm_push (f := prT) 33 Try.underlying33 iP _ 32 hiP hzP hsP hbP (by rfl) (by decide) (fun _ => rfl) prT_one ⟨x, c, false⟩ ?_ rfl ?_ ?_ hOw ?_ ?_ ?_ ?_; (· unfold prT; go_simp); (· simp); (· simp); (· exact hB2); (· omega); (· omega); intro v2 w2 ho2 hon2 _)
      have hA2 := hAn v2 w2 ho2 hon2
      clear hAn ho2 hon2
      go_roundg cnt'
      case measure => omega
      case rel => exact ⟨_, cnt', _, rfl, hA2⟩
end Go.Proofs.Ytbehijhpichniaa
