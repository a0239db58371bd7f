/- Words for the walk of laws.masterOf: renditions, variants, the state between two rounds; an append inside a region that draws. -/
import Derived.Test.YtkddkmiomhadaaaDoorM1
import Derived.Test.YtkddkmiomhadaaaDoorAttrs
namespace Go.Proofs.YtkddkmiomhadaaaDoor
open Go.RowKit
/-- A rendition. -/
structure At where
  typ : ByteArray
  grp : ByteArray
  name : ByteArray
  dflt : Bool
  auto : ByteArray
  lang : ByteArray
  uri : ByteArray
def At.list (y : At) : List Value := [.string y.typ, .string y.grp, .string y.name, .bool y.dflt, .string y.auto, .string y.lang, .string y.uri]
def At.cells (y : At) : Array Value := #[.string y.typ, .string y.grp, .string y.name, .bool y.dflt, .string y.auto, .string y.lang, .string y.uri]
def Vt.list (v : Vt) : List Value := [.string v.uri, .int .u32 v.program, .int .u32 v.bandwidth, .int .u32 v.average, .string v.codecs, .int .u32 v.width, .int .u32 v.height, .string v.audio, .string v.video, .string v.subtitles, .string v.captions, .string v.name, .int .i64 v.rate]
abbrev OneOf (l : List ByteArray) (s : ByteArray) : Prop := s ∈ l
/-- The k-th rendition of laws.masterOf. -/
structure AtOk (k : Nat) (y : At) : Prop where
  typ : OneOf [⟨#[65, 85, 68, 73, 79]⟩, ⟨#[86, 73, 68, 69, 79]⟩, ⟨#[83, 85, 66, 84, 73, 84, 76, 69, 83]⟩] y.typ
  grp : OneOf [⟨#[103]⟩, ⟨#[104]⟩] y.grp
  name : y.name = ⟨#[110]⟩ ++ dec k
  auto : OneOf [⟨#[]⟩, ⟨#[89, 69, 83]⟩, ⟨#[78, 79]⟩] y.auto
  lang : OneOf [⟨#[]⟩, ⟨#[101, 110]⟩, ⟨#[100, 101]⟩] y.lang
  uri : OneOf [⟨#[]⟩, ⟨#[97, 32, 98, 46, 109, 51, 117, 56]⟩, ⟨#[99, 44, 100, 46, 109, 51, 117, 56]⟩] y.uri
theorem small_int {n : Nat} {x : Int} (h0 : 0 ≤ x) (h1 : x < n) : ∃ i : Nat, i < n ∧ Value.int .u32 x = .int .u32 (i : Int) := ⟨x.toNat, by omega, by rw [show ((x.toNat : Nat) : Int) = x from by omega]⟩
def NumLt (n : Nat) (v : Value) : Prop := ∃ i : Nat, i < n ∧ v = .int .u32 (i : Int)
def PickOf (l : List ByteArray) (v : Value) : Prop := ∃ s : ByteArray, s ∈ l ∧ v = .string s
def AnyU32 (v : Value) : Prop := ∃ i : Int, v = .int .u32 i
def AnyBool (v : Value) : Prop := ∃ b : Bool, v = .bool b
def AtBuilt (k : Nat) (v : Value) : Prop := ∃ y : At, AtOk k y ∧ v = .agg y.cells
def AtLaid (k B : Nat) (v : Value) (w : World) : Prop := ∃ (g : Nat) (y : At), B ≤ g ∧ AtOk k y ∧ v = .slice (some ⟨g, 0, none⟩) 1 1 ∧ w.heap[g]? = some (.cells y.cells 46 (0, 0))
def AtPut (k B B' : Nat) (sA : Value) (As : List At) (v : Value) (w : World) : Prop := ∃ y : At, AtOk k y ∧ Own At.list 46 7 w B v (As ++ [y]) ∧ (v.ownBlock = sA.ownBlock ∨ ∃ g, B' ≤ g ∧ v.ownBlock = some g)
def AtDone (k B gm : Nat) (ver : Int) (ind : Bool) (As : List At) (w : World) : Prop := ∃ (y : At) (v : Value), AtOk k y ∧ Own At.list 46 7 w B v (As ++ [y]) ∧ w.heap[gm]? = some (.cells #[.int .i64 ver, .bool ind, v, .slice none 0 0] 27 (0, 0))
theorem cell_of_heap {w : World} {g i : Nat} {cs : Array Value} {t : TypeId} {fr : Nat × Nat} {v : Value} (h : w.heap[g]? = some (.cells cs t fr)) (hv : cs[i]? = some v) : w.cell? ⟨g, i, none⟩ = some v := by simp [World.cell?, h, hv]
theorem wraps_u32 (n : Int) (h₀ : 0 ≤ n) (h₁ : n < 2 ^ 32) : IntKind.u32.wrap n = n := by rw [IntKind.wrap_u32]; omega
theorem u32_and1 {x : Int} (h0 : 0 ≤ x) (h1 : x < 4294967296) : bits .and .u32 x 1 = x % 2 := bits_mask .u32 32 (by decide) wraps_u32 1 (by decide) x h0 (by omega)
theorem u32_and3 {x : Int} (h0 : 0 ≤ x) (h1 : x < 4294967296) : bits .and .u32 x 3 = x % 4 := bits_mask .u32 32 (by decide) wraps_u32 2 (by decide) x h0 (by omega)
/-- A variant of laws.masterOf. -/
structure VOk (v : Vt) : Prop where
  uri : IsUri v.uri ∨ ∃ u, IsUri u ∧ v.uri = u ++ ⟨#[63, 120, 61, 49]⟩
  program : v.program < 4294967296
  bandwidth : v.bandwidth < 4294967296
  average : v.average < 4294967296
  codecs : OneOf [⟨#[]⟩, ⟨#[97, 118, 99, 49, 46, 52, 50, 99, 48, 48, 100]⟩, ⟨#[97, 118, 99, 49, 46, 52, 50, 99, 48, 48, 100, 44, 109, 112, 52, 97, 46, 52, 48, 46, 50]⟩] v.codecs
  width : v.width ≤ 4000
  height : v.height ≤ 3000
  audio : isGroup v.audio
  video : isGroup v.video
  subtitles : isGroup v.subtitles
  captions : OneOf [⟨#[]⟩, ⟨#[99, 99]⟩, ⟨#[78, 79, 78, 69]⟩] v.captions
  name : OneOf [⟨#[]⟩, ⟨#[120]⟩, ⟨#[97, 44, 32, 98, 61, 99]⟩] v.name
  rate : v.rate ≤ 1000
def UriV (v : Value) : Prop := ∃ u, IsUri u ∧ v = .string u
def GroupV (v : Value) : Prop := ∃ s, isGroup s ∧ v = .string s
def VtBuilt (v : Value) : Prop := ∃ y : Vt, (VOk y ∧ IsUri y.uri) ∧ v = .agg y.cells
theorem vt_first {h : Nat} {u c a v s p n : ByteArray} (hh : h < 4294967296) (hu : IsUri u) (ha : isGroup a) (hv : isGroup v) (hs : isGroup s) (hp : OneOf [⟨#[]⟩, ⟨#[99, 99]⟩, ⟨#[78, 79, 78, 69]⟩] p) (hn : OneOf [⟨#[]⟩, ⟨#[120]⟩, ⟨#[97, 44, 32, 98, 61, 99]⟩] n)
    (hc : OneOf [⟨#[]⟩, ⟨#[97, 118, 99, 49, 46, 52, 50, 99, 48, 48, 100]⟩, ⟨#[97, 118, 99, 49, 46, 52, 50, 99, 48, 48, 100, 44, 109, 112, 52, 97, 46, 52, 48, 46, 50]⟩] c) : VOk ⟨u, h / 512, h, 0, c, 0, 0, a, v, s, p, n, 0⟩ ∧ IsUri u :=
  ⟨⟨.inl hu, by show h / 512 < _; omega, hh, Nat.zero_lt_succ _, hc, Nat.zero_le _, Nat.zero_le _, ha, hv, hs, hp, hn, Nat.zero_le _⟩, hu⟩
theorem group_of (n : Nat) (x : Int) (hx : x = n) (w : World) (hn : n < 4294967296) : Calls Tryd.prog 10 #[.int .u32 x] w (SomeGroup w) := by subst hx; exact group_any n w hn
theorem at_of (k : Nat) (x : Int) (hx : x = k) (p : Addr) (A : Option Addr) (len cap : Nat) (w : World) (hk : k < 1000) (hl : len ≤ 1000) (hc : w.cell? p = some (.slice A len cap)) (hA : U32s w A len) :
    Calls Tryd.prog 9 #[.int .i64 x, .pointer (some p)] w (SomeU32 w) := by subst hx; exact at_any k p A len cap w hk hl hc hA
theorem VOk.ok {v : Vt} (h : VOk v) : v.Ok := by
  have g : ∀ {s : ByteArray}, isGroup s → s.size ≤ 100 := by rintro s (rfl | rfl | rfl) <;> decide
  refine ⟨h.program, h.bandwidth, h.average, by have := h.width; omega, by have := h.height; omega, ?_, ?_, g h.audio, g h.video, g h.subtitles, ?_, ?_, by have := h.rate; omega⟩
  · rcases h.uri with h | ⟨u, h, e⟩
    · have := h.size; omega
    · have := h.size
      rw [e, ByteArray.size_append']
      have : (⟨#[63, 120, 61, 49]⟩ : ByteArray).size = 4 := rfl
      omega
  · have := h.codecs
    simp only [OneOf, List.mem_cons, List.not_mem_nil, or_false] at this
    rcases this with e | e | e <;> rw [e] <;> decide
  · have := h.captions
    simp only [OneOf, List.mem_cons, List.not_mem_nil, or_false] at this
    rcases this with e | e | e <;> rw [e] <;> decide
  · have := h.name
    simp only [OneOf, List.mem_cons, List.not_mem_nil, or_false] at this
    rcases this with e | e | e <;> rw [e] <;> decide
section
variable {α β : Type} {f : α → List Value} {f' : β → List Value} {e e' : TypeId} {k k' : Nat} {w w' : World} {B B' : Nat} {v v' : Value} {L : List α} {L' : List β}
theorem Own.at_heap (h : Own f e k w B v L) (hb : ∀ g, v.ownBlock = some g → w'.heap[g]? = w.heap[g]?) : Own f e k w' B v L := by
  refine ⟨h.1, ?_⟩
  rcases h.2 with h2 | ⟨g, cap, cur, rfl, hB, hh, r⟩
  · exact .inl h2
  · exact .inr ⟨g, cap, cur, rfl, hB, (hb g rfl).trans hh, r⟩
theorem Own.elem (h : Own f e k w B v L) : ∀ g, v.ownBlock = some g → ∃ cur, w.heap[g]? = some (.cells cur e (0, 0)) := by
  intro g hg
  rcases h.2 with ⟨rfl, _⟩ | ⟨g', cap, cur, rfl, hb, hh, _⟩
  · simp [Value.ownBlock] at hg
  · have : g' = g := by simpa [Value.ownBlock] using hg
    subst this
    exact ⟨cur, hh⟩
/-- Rows of different element types do not share a block. -/
theorem Own.ne_ (h : Own f e k w B v L) (h' : Own f' e' k' w B' v' L') (he : e ≠ e') : ∀ g, v.ownBlock = some g → ¬ v'.ownBlock = some g := by
  intro g hg hg'
  obtain ⟨c1, h1⟩ := h.elem g hg
  obtain ⟨c2, h2⟩ := h'.elem g hg'
  rw [h1] at h2
  injection h2 with h2
  injection h2 with _ h2
  exact he h2
theorem Own.ne_blk (h : Own f e k w B v L) {g : Nat} {cs : Array Value} {t : TypeId} (hg : w.heap[g]? = some (.cells cs t (0, 0))) (he : e ≠ t) : ¬ v.ownBlock = some g := by
  intro hv
  obtain ⟨c1, h1⟩ := h.elem g hv
  rw [hg] at h1
  injection h1 with h1
  injection h1 with _ h1
  exact he h1.symm
end
theorem Own.slice {α : Type} {f : α → List Value} {e : TypeId} {k : Nat} {w : World} {B : Nat} {v : Value} {L : List α} (h : Own f e k w B v L) : ∃ p l c, v = .slice p l c := by
  rcases h.2 with ⟨rfl, _⟩ | ⟨g', cap, cur, rfl, _⟩ <;> exact ⟨_, _, _, rfl⟩
theorem Only.of_setCell (w : World) (p : Addr) (v : Value) : Only (fun g => g = p.block) w (w.setCell p v) :=
  ⟨rfl, rfl, rfl, by simp [World.setCell], fun g _ hg => Below.heap_setCell _ _ _ _ hg⟩
theorem heap_setCell_same {w : World} {g i : Nat} {cs : Array Value} {t : TypeId} {fr : Nat × Nat} (h : w.heap[g]? = some (.cells cs t fr)) (v : Value) : (w.setCell ⟨g, i, none⟩ v).heap[g]? = some (.cells (cs.setIfInBounds i v) t fr) := by
  simp [World.setCell, Array.getElem?_modify, h]
theorem at_one : ∀ (y : At), ∀ u ∈ y.list, u.oneCell' = true := by
  intro y u hu
  simp [At.list] at hu
  rcases hu with rfl | rfl | rfl | rfl | rfl | rfl | rfl <;> rfl
theorem vt_one : ∀ (v : Vt), ∀ u ∈ v.list, u.oneCell' = true := by
  intro v u hu
  simp [Vt.list] at hu
  rcases hu with rfl | rfl | rfl | rfl | rfl | rfl | rfl | rfl | rfl | rfl | rfl | rfl | rfl <;> rfl
/-- The state of laws.masterOf between two rounds: the numbers' box, the result's place, the playlist so far, its slices. -/
structure Ms (w : World) (A : Option Addr) (len cap : Nat) (ver : Int) (ind : Bool) (sA sV sF : Value) (As : List At) (Vs : List Vt) (Fs : List Bool) (wx : World) : Prop where
  box : wx.heap[w.heap.size]? = some (.cells #[.slice A len cap] 22 (0, 0))
  res : wx.heap[w.heap.size + 1]? = some (.cells #[.int .i64 0, .bool false, .slice none 0 0, .slice none 0 0] 27 (0, 0))
  mst : wx.heap[w.heap.size + 2]? = some (.cells #[.int .i64 ver, .bool ind, sA, sV] 27 (0, 0))
  alts : Own At.list 46 7 wx (w.heap.size + 3) sA As
  vars : Own Vt.list 48 13 wx (w.heap.size + 3) sV Vs
  frs : Own (fun b => [Value.bool b]) 4 1 wx (w.heap.size + 3) sF Fs
  below : Below w.heap.size w wx
theorem Ms.size {w : World} {A : Option Addr} {len cap : Nat} {ver : Int} {ind : Bool} {sA sV sF : Value} {As : List At} {Vs : List Vt} {Fs : List Bool} {wx : World} (h : Ms w A len cap ver ind sA sV sF As Vs Fs wx) : w.heap.size + 3 ≤ wx.heap.size := (Array.getElem?_eq_some_iff.1 h.mst).1
theorem Ms.keep {w : World} {A : Option Addr} {len cap : Nat} {ver : Int} {ind : Bool} {sA sV sF : Value} {As : List At} {Vs : List Vt} {Fs : List Bool} {wx w1 w2 : World} {g : Nat} (h : Ms w A len cap ver ind sA sV sF As Vs Fs wx) (hb : Below wx.heap.size wx w1)
    (ho : Only (fun g' => g' = g) w1 w2) (hg : wx.heap.size ≤ g) : Ms w A len cap ver ind sA sV sF As Vs Fs w2 := by
  have hs := h.size
  have hk : ∀ j, j < wx.heap.size → w2.heap[j]? = wx.heap[j]? := fun j hj => (ho.block j (Nat.lt_of_lt_of_le hj hb.size) (by omega)).trans (hb.block j hj)
  refine ⟨(hk _ (by omega)).trans h.box, (hk _ (by omega)).trans h.res, (hk _ (by omega)).trans h.mst, h.alts.at_heap fun j hj => hk j (h.alts.block_lt j hj).2, h.vars.at_heap fun j hj => hk j (h.vars.block_lt j hj).2, h.frs.at_heap fun j hj => hk j (h.frs.block_lt j hj).2,
    (h.below.trans (hb.mono (by omega))).trans (ho.below (by have := hb.size; omega) (by omega))⟩
section
variable {P : Program} {ops : Array Oper} {a : Act} {w : World} {E : Nat → Nat → Prop} {Φ : Nat → Value → World → Prop} {i : Nat} {Q : Exit → Act → World → Prop}
/-- An append of one element, laid in a block, inside a region that draws. -/
theorem og_append {α : Type} {f : α → List Value} {e : TypeId} {k : Nat} {B : Nat} {v : Value} {L : List α} {t : TypeId} (ht : P.underlying t = some (.slice e)) {inf : TypeInfo} {z : Value} {bytes : Nat} (hi : P.info? e = some inf) (hz : inf.zero = some z) (hsize : inf.size = k)
    (hby : inf.bytes = bytes) (hzs : z.cells.size = k) (hk : 0 < k) (hf : ∀ x, (f x).length = k) (h1 : ∀ x, ∀ u ∈ f x, u.oneCell' = true)
    {dst : Option Tmp} {ty : TypeId} {pos : String} {after : Array Edge} {guard : Option (Nat × Bool)} {s x : Operand} (y : α) {g : Nat} (hs : a.eval s = v) (hx : a.eval x = .slice (some ⟨g, 0, none⟩) 1 1) (hg : w.heap[g]? = some (.cells (f y).toArray e (0, 0)))
    (hown : Own f e k w B v L) (hB : B ≤ w.heap.size) (hlen : (L.length + 1) * bytes ≤ 140737488355328) (hlen2 : L.length ≤ 1000000000) (hE : ∀ g, v.ownBlock = some g → E i g)
    (hΦ : ∀ v' w', Own f e k w' B v' (L ++ [y]) → Only (fun g => v.ownBlock = some g) w w' → (v'.ownBlock = v.ownBlock ∨ v'.ownBlock = some w.heap.size) → Φ i v' w') :
    ({ dst := dst, op := Op.call { callee := Callee.builtin Builtin.append, args := #[s, x], argTypes := #[t, t] }, type := ty, pos := pos, after := after, guard := guard } : Oper).wp P a w
      (OgPost E Φ i { dst := dst, op := Op.call { callee := Callee.builtin Builtin.append, args := #[s, x], argTypes := #[t, t] }, type := ty, pos := pos, after := after, guard := guard } a w) Q := by
  obtain ⟨v', w', hr, h2, h3, h4, h5⟩ := run_append_own_at (P := P) w B t ty e inf z k bytes ht hi hz hsize hby hzs hk v L.length (flat f L) hown ⟨g, 0, none⟩ 1 1 (f y) (by rw [hf]; omega)
    (by
      intro j u hu
      have : (⟨g, 0, none⟩ : Addr).add j = ⟨g, j, none⟩ := by unfold Addr.add; split <;> simp_all
      rw [this]
      simp [World.cell?, hg]
      simpa using hu) (h1 y) (by unfold maxLen; omega) hlen hB
  have hon : Only (fun g => v.ownBlock = some g) w w' := Only.of_grown h3 fun g hg => hg
  unfold Oper.wp execOp
  simp only [resolve, invoke, builtin, Sem.run_bind, Sem.run_pure, Result.andThen_ok, List.map_toArray, List.map_cons, List.map_nil, hs, hx, hr]
  refine ⟨v', rfl, hon.mono fun g _ hg => hE g hg, hΦ v' w' ?_ hon h5⟩
  unfold Own
  rw [flat_snoc, List.length_append]
  exact h2
end
end Go.Proofs.YtkddkmiomhadaaaDoor
