/- Joined: Word, Uri, Strs, M1, M2, Blk, Stp, Emt, Fu, Enw, Enl. -/
import Derived.Test.YtfonjeoiallhhaaGreatDoorB01
import Derived.Lib.Hide
import Derived.Deep.DeepCutAuto
import Derived.Deep.QuietTactic
import Derived.BigQuiet
import Derived.Maps.AppendAt
import Derived.Deep.Draws
import Derived.IntWalk
import Derived.Test.YtfonjeoiallhhaaGreatDoorLays
import Derived.Shelf.Strconv.Itoa1
import Derived.Lib.Walk
import Derived.Lib.ItoaMem
import Derived.Lib.AppendIntMem
import Derived.WalkKit
import Derived.BigCall
import Derived.BigGuard
import Derived.Lib.BufferAt
/- The walks of spec.seconds, spec.Line, laws.wordOf, laws.uriOf, spec.Variant.Resolution. -/
set_option maxRecDepth 100000
set_option maxHeartbeats 400000
namespace Go.Proofs.YtfonjeoiallhhaaGreatDoor
open Go.RowKit
/-- Eighths of seconds with three digits behind the point. -/
def secs (e : Nat) : ByteArray := dec (e / 8) ++ ⟨#[46]⟩ ++ dec (e % 8 * 125 / 100) ++ dec (e % 8 * 125 / 10 % 10) ++ dec (e % 8 * 125 % 10)
theorem dec_one {n : Nat} (h : n < 10) : (dec n).size ≤ 1 := dec_size 0 n (by omega)
theorem decimal_of (n : Nat) (x : Int) (w : World) (hx : x = n) (hn : n < 18446744073709551616) :
  Calls Tryz.prog 23 #[.int .u64 x] w fun e w' => e = .returned (.string (dec n)) ∧ w = w' := by
 subst hx
 exact decimal_any n w hn
theorem secs_size {n : Nat} (h : n < 1000000) : (secs n).size ≤ 24 := by
 have h1 := dec_le (n := n / 8) (by omega)
 have h2 := dec_one (n := n % 8 * 125 / 100) (by omega)
 have h3 := dec_one (n := n % 8 * 125 / 10 % 10) (by omega)
 have h4 := dec_one (n := n % 8 * 125 % 10) (by omega)
 unfold secs
 simp only [ByteArray.size_append', ByteArray.size_mk']
 simp
 omega
theorem seconds_any (n : Nat) (w : World) (hn : n < 1000000) :
  Calls Tryz.prog 44 #[.int .i64 n] w fun e w' => e = .returned (.string (secs n)) ∧ w = w' := by
 have h1 := dec_le (n := n / 8) (by omega)
 have h2 := dec_one (n := n % 8 * 125 / 100) (by omega)
 have h3 := dec_one (n := n % 8 * 125 / 10 % 10) (by omega)
 have h4 := dec_one (n := n % 8 * 125 % 10) (by omega)
 go_enter Tryz.func44, Tryz.ntmps44
 go_wp2_with fail
 refine (decimal_of (n / 8) _ _ (by omega) (by omega)).mono ?_
 rintro e w' ⟨rfl, rfl⟩
 go_wp2_with (first | (refine arm_add 9 Tryz.underlying9 rfl rfl ?_ ?_; · (simp only [ByteArray.size_append', ByteArray.size_mk', List.size_toArray, List.length_cons, List.length_nil]; omega)))
 refine (decimal_of (n % 8 * 125 / 100) _ _ (by omega) (by omega)).mono ?_
 rintro e w' ⟨rfl, rfl⟩
 go_wp2_with (first | (refine arm_add 9 Tryz.underlying9 rfl rfl ?_ ?_; · (simp only [ByteArray.size_append', ByteArray.size_mk', List.size_toArray, List.length_cons, List.length_nil]; omega)))
 refine (decimal_of (n % 8 * 125 / 10 % 10) _ _ (by push_cast; rfl) (by omega)).mono ?_
 rintro e w' ⟨rfl, rfl⟩
 go_wp2_with (first | (refine arm_add 9 Tryz.underlying9 rfl rfl ?_ ?_; · (simp only [ByteArray.size_append', ByteArray.size_mk', List.size_toArray, List.length_cons, List.length_nil]; omega)))
 refine (decimal_of (n % 8 * 125 % 10) _ _ (by omega) (by omega)).mono ?_
 rintro e w' ⟨rfl, rfl⟩
 go_wp2_with (first | (refine arm_add 9 Tryz.underlying9 rfl rfl ?_ ?_; · (simp only [ByteArray.size_append', ByteArray.size_mk', List.size_toArray, List.length_cons, List.length_nil]; omega)))
 go_ret
 exact ⟨rfl, rfl⟩
/-- What a word of laws.wordOf is made of. -/
def wordByte (b : UInt8) : Bool := [97, 98, 99, 100, 101, 102, 103, 88, 89, 90, 48, 49, 56, 57, 46, 95, 45, 47, 32, 58, 119].contains b
/-- A text of laws.wordOf: of at most k signs out of its letters, its ends no blanks. -/
structure Word (k : Nat) (s : ByteArray) : Prop where
 size : s.size ≤ k
 bytes : ∀ b ∈ s.data.toList, wordByte b = true
 first : ∀ b, s.data.toList.head? = some b → b ≠ 32
 last : ∀ b, s.data.toList.getLast? = some b → b ≠ 32
def SomeWord (k : Nat) (w : World) (e : Ending) (w' : World) : Prop := ∃ s, Word k s ∧ e = .returned (.string s) ∧ w = w'
theorem alphabet_at (i : Nat) (h : i < 20) : ∃ b : UInt8, (⟨#[97, 98, 99, 100, 101, 102, 103, 88, 89, 90, 48, 49, 56, 57, 46, 95, 45, 47, 32, 58]⟩ : ByteArray).data[i]? = some b ∧ wordByte b = true ∧ b.toNat < 128 := by
 have : ∀ j : Fin 20, ∃ b : UInt8, (⟨#[97, 98, 99, 100, 101, 102, 103, 88, 89, 90, 48, 49, 56, 57, 46, 95, 45, 47, 32, 58]⟩ : ByteArray).data[j.val]? = some b ∧ wordByte b = true ∧ b.toNat < 128 := by
  intro j
  refine ⟨_, Array.getElem?_eq_getElem (by simp), ?_⟩
  revert j
  decide +kernel
 exact this ⟨i, h⟩
theorem alphabet_of {i : Nat} {b : UInt8} (h : (⟨#[97, 98, 99, 100, 101, 102, 103, 88, 89, 90, 48, 49, 56, 57, 46, 95, 45, 47, 32, 58]⟩ : ByteArray).data[i]? = some b) : Hid (wordByte b = true) ∧ b.toNat < 128 := by
 have hi : i < 20 := by
  rcases Nat.lt_or_ge i 20 with h1 | h1
  ·exact h1
  ·rw [Array.getElem?_eq_none (by simpa using h1)] at h; cases h
 obtain ⟨b', h1, h2, h3⟩ := alphabet_at i hi
 rw [h] at h1
 obtain rfl := Option.some.inj h1
 exact ⟨h2, h3⟩
theorem grow_word {s : ByteArray} {b : UInt8} {k : Nat} (hs : s.size = k) (h : ∀ c ∈ s.data.toList, wordByte c = true) (hb : wordByte b = true) :
  (s ++ ⟨#[b]⟩ : ByteArray).size = k + 1 ∧ ∀ c ∈ (s ++ ⟨#[b]⟩ : ByteArray).data.toList, wordByte c = true := by
 refine ⟨by rw [ByteArray.size_append', hs]; rfl, fun c hc => ?_⟩
 rw [ByteArray.data_append] at hc
 simp at hc
 rcases hc with hc | hc
 ·exact h c (by simpa using hc)
 ·rw [hc]; exact hb
theorem len_data (s : ByteArray) : s.data.toList.length = s.size := by rw [Array.length_toList]; rfl
theorem data_nil {s : ByteArray} (h : s.size = 0) : s.data.toList = [] := List.eq_nil_of_length_eq_zero (by rw [len_data]; exact h)
theorem toList_nil {s : ByteArray} (h : s.size = 0) : s.toList = [] := by rw [ByteArray.toList_eq]; exact data_nil h
theorem toList_ne {s : ByteArray} (h : 0 < s.size) : ¬ s.toList = [] := by
 rw [ByteArray.toList_eq]
 intro e
 have := len_data s
 rw [e] at this
 simp at this
 omega
theorem word_nil {s : ByteArray} (h : s.size = 0) : Word 20 s := by
 have := data_nil h
 exact ⟨by omega, by simp [this], by simp [this], by simp [this]⟩
theorem word_long {s : ByteArray} {k : Nat} (hs : s.size = k) (hk : k ≤ 15) (hb : ∀ b ∈ s.data.toList, wordByte b = true) : Word 20 (⟨#[119]⟩ ++ s ++ ⟨#[119]⟩) := by
 have e : (⟨#[119]⟩ ++ s ++ ⟨#[119]⟩ : ByteArray).data.toList = 119 :: (s.data.toList ++ [119]) := by simp [ByteArray.data_append]
 refine ⟨?_, ?_, ?_, ?_⟩
 ·rw [← len_data, e]; simp [len_data]; omega
 ·intro b h
  rw [e] at h
  simp at h
  rcases h with rfl | h | rfl
  ·decide
  ·exact hb b (by simpa using h)
  ·decide
 ·intro b h; rw [e] at h; simp at h; subst h; decide
 ·intro b h
  rw [e, ← List.cons_append] at h
  rw [List.getLast?_append] at h
  simp at h; subst h; decide
theorem word_plain {s : ByteArray} {k : Nat} (hs : s.size = k) (hk : k ≤ 15) (hb : ∀ b ∈ s.data.toList, wordByte b = true) (hpos : 0 < s.size) (h1 : ¬ (((s[0]'hpos).toNat : Nat) : Int) = 32)
  (h2 : ¬ (((s[s.size - 1]'(by omega)).toNat : Nat) : Int) = 32) : Word 20 s := by
 have hl := len_data s
 refine ⟨by omega, hb, ?_, ?_⟩
 ·intro b h e
  subst e
  rw [List.head?_eq_getElem?, List.getElem?_eq_getElem (by omega)] at h
  have : s[0] = 32 := by
   have h3 := Option.some.inj h
   rw [Array.getElem_toList] at h3
   exact h3
  rw [this] at h1
  exact h1 rfl
 ·intro b h e
  subst e
  rw [List.getLast?_eq_getElem?, List.getElem?_eq_getElem (by omega)] at h
  have : s[s.size - 1] = 32 := by
   have h3 := Option.some.inj h
   simp only [hl, Array.getElem_toList] at h3
   exact h3
  rw [this] at h2
  exact h2 rfl
theorem wordOf_any (n least : Nat) (w : World) (hn : n < 4294967296) (hl : least ≤ 4) :
  Calls Tryz.prog 31 #[.int .u32 n, .int .i64 least] w (SomeWord 20 w) := by
 go_enter Tryz.func31, Tryz.ntmps31
 go_wp2
 go_loop [5, 12] (fun o i => ∃ k : Nat, k ≤ least + n % 12 ∧ i = .int .i64 k ∧ ∃ s : ByteArray, o = .string s ∧ s.size = k ∧ ∀ b ∈ s.data.toList, wordByte b = true) (fun _ i => (least + n % 12) - (intOf i).toNat)
 case atStart => exact ⟨0, Nat.zero_le _, rfl, _, rfl, rfl, by simp⟩
 case round =>
  obtain ⟨k, hk, rfl, s, rfl, hs, hb⟩ := hrel
  by_cases hlt : k < least + n % 12
  ·go_wp2_with (first | (refine arm_index 9 Tryz.underlying9 rfl rfl ?_ ?_ ?_; (· omega); (· (simp only [ByteArray.size_mk', List.size_toArray, List.length_cons, List.length_nil]; omega)); intro b hbd; obtain ⟨hb1, hb2⟩ := alphabet_of hbd; clear hbd) | (refine arm_chr1 9 Tryz.underlying9 21 (by kernel_rfl) rfl ?_ ?_ ?_; (· omega); (· omega)) | (refine arm_add 9 Tryz.underlying9 rfl rfl ?_ ?_; (· (simp only [ByteArray.size_append', ByteArray.size_mk', List.size_toArray, List.length_cons, List.length_nil]; omega))))
   go_round
   case rel => exact ⟨k + 1, by omega, by go_num, _, rfl, grow_word hs hb hb1.out⟩
   case measure => simp [intOf]; omega
  ·have hk16 : k ≤ 15 := by omega
   rcases Nat.eq_zero_or_pos k with h0 | hpos
   ·have hnil : s.toList = [] := toList_nil (by omega)
    have HS := Lib.hid hs
    clear hs
    subst h0
    go_wp2_with fail
    go_ret
    exact ⟨s, word_nil HS.out, rfl, rfl⟩
   ·have hne : ¬ s.toList = [] := toList_ne (by omega)
    have HB := Lib.hid hb
    clear hb
    go_wp2_with fail
    all_goals go_ret
    ·exact ⟨_, word_long hs hk16 HB.out, rfl, rfl⟩
    ·exact absurd (by simpa using ‹(!s.toList.isEmpty) = false›) hne
    ·exact ⟨_, word_long hs hk16 HB.out, rfl, rfl⟩
    ·rename_i h1 _ _ h2
     rcases h2 with h2 | ⟨_, h2⟩
     ·exact absurd (by simpa using h2) hne
     ·subst hs
      exact ⟨_, word_plain rfl hk16 HB.out hpos (by assumption) (by simpa using h2), rfl, rfl⟩
end Go.Proofs.YtfonjeoiallhhaaGreatDoor
/- The walks of laws.uriOf and spec.Variant.Resolution; what a variant is. -/
set_option maxRecDepth 100000
set_option maxHeartbeats 400000
namespace Go.Proofs.YtfonjeoiallhhaaGreatDoor
open Go.RowKit
/-- A URI of laws.uriOf. -/
def IsUri (u : ByteArray) : Prop := ∃ s, Word 20 s ∧ u = ⟨#[117]⟩ ++ s ++ ⟨#[46, 116, 115]⟩
theorem IsUri.size {u : ByteArray} (h : IsUri u) : u.size ≤ 24 := by
 obtain ⟨s, hs, rfl⟩ := h
 have := hs.size
 simp only [ByteArray.size_append', ByteArray.size_mk', List.size_toArray, List.length_cons, List.length_nil]; omega
def SomeUri (w : World) (e : Ending) (w' : World) : Prop := ∃ u, IsUri u ∧ e = .returned (.string u) ∧ w = w'
theorem uriOf_any (n : Nat) (w : World) (hn : n < 4294967296) :
  Calls Tryz.prog 30 #[.int .u32 n] w (SomeUri w) := by
 go_enter Tryz.func30, Tryz.ntmps30
 go_wp2_with fail
 refine (wordOf_any n 1 _ hn (by omega)).mono ?_
 rintro e w' ⟨s, hs, rfl, rfl⟩
 have hz := hs.size
 go_wp2_with (first | (refine arm_add 9 Tryz.underlying9 rfl rfl ?_ ?_; (· (simp only [ByteArray.size_append', ByteArray.size_mk', List.size_toArray, List.length_cons, List.length_nil]; omega))))
 go_ret
 exact ⟨_, ⟨s, hs, rfl⟩, rfl, rfl⟩
/-- A variant of a master playlist, as the reference has it. -/
structure Vt where
 uri : ByteArray
 program : Nat
 bandwidth : Nat
 average : Nat
 codecs : ByteArray
 width : Nat
 height : Nat
 audio : ByteArray
 video : ByteArray
 subtitles : ByteArray
 captions : ByteArray
 name : ByteArray
 rate : Nat
def Vt.cells (v : Vt) : Array Value := #[.string v.uri, .int .u32 v.program, .int .u32 v.bandwidth, .int .u32 v.average, .string v.codecs, .int .u32 v.width, .int .u32 v.height, .string v.audio, .string v.video, .string v.subtitles, .string v.captions, .string v.name, .int .i64 v.rate]
end Go.Proofs.YtfonjeoiallhhaaGreatDoor
/- Slices that the call itself makes: what they hold; an append of one element (its one-element slice is laid first). Conditions: the elements' number is below a million. -/
namespace Go.Proofs.YtfonjeoiallhhaaGreatDoor
open Go.RowKit
/-- An element's cells, one behind the other. -/
def flat {α : Type} (f : α → List Value) (L : List α) : List Value := (L.map f).flatten
theorem flat_length {α : Type} {f : α → List Value} {k : Nat} (hf : ∀ x, (f x).length = k) (L : List α) : (flat f L).length = L.length * k := by
 unfold flat
 induction L with
 | nil => simp
 | cons x L ih => simp only [List.map_cons, List.flatten_cons, List.length_append, hf, ih, List.length_cons]; rw [Nat.add_mul]; omega
theorem flat_snoc {α : Type} (f : α → List Value) (L : List α) (x : α) : flat f (L ++ [x]) = flat f L ++ f x := by simp [flat]
/-- A slice of the call's own, from block B on, that holds these elements. -/
def Own {α : Type} (f : α → List Value) (e : TypeId) (k : Nat) (w : World) (B : Nat) (v : Value) (L : List α) : Prop := w.ownsRow B e k v L.length (flat f L)
section
variable {α : Type} {f : α → List Value} {e : TypeId} {k : Nat} {w w' : World} {B : Nat} {v : Value} {L : List α}
theorem Own.nil (f : α → List Value) (e : TypeId) (k : Nat) (w : World) (B : Nat) : Own f e k w B (.slice none 0 0) ([] : List α) := ⟨by simp [flat], .inl ⟨rfl, rfl⟩⟩
theorem Own.below (h : Own f e k w B v L) (hb : Below w.heap.size w w') : Own f e k w' B v L :=
 h.kept (row := none) ⟨hb.os, hb.tape, hb.output, hb.size, fun i hi _ => hb.block i hi⟩ (by cases v.ownBlock <;> simp)
theorem Own.block_lt (h : Own f e k w B v L) : ∀ g, v.ownBlock = some g → B ≤ g ∧ g < w.heap.size := by
 intro g hg
 rcases h.2 with ⟨rfl, _⟩ | ⟨g', cap, cur, rfl, hb, hh, _⟩
 ·simp [Value.ownBlock] at hg
 ·have : g' = g := by simpa [Value.ownBlock] using hg
  subst this
  exact ⟨hb, (Array.getElem?_eq_some_iff.1 hh).1⟩
theorem Own.only {M : Nat → Prop} (h : Own f e k w B v L) (ho : Only M w w') (hm : ∀ g, v.ownBlock = some g → ¬ M g) : Own f e k w' B v L := by
 refine ⟨h.1, ?_⟩
 rcases h.2 with h2 | ⟨g, cap, cur, rfl, hb, hh, r⟩
 ·exact .inl h2
 ·exact .inr ⟨g, cap, cur, rfl, hb, (ho.block g (Array.getElem?_eq_some_iff.1 hh).1 (hm g rfl)).trans hh, r⟩
/-- The slice at the head of a new block. -/
theorem Own.fresh {g n : Nat} {cs : List Value} (hf : ∀ x, (f x).length = k) (hh : w.heap[g]? = some (.cells cs.toArray e (0, 0))) (hB : B ≤ g) (hL : cs = flat f L) (hn : n = L.length) (hm : n ≤ maxLen) : Own f e k w B (.slice (some ⟨g, 0, none⟩) n n) L := by
 subst hn hL
 refine ⟨flat_length hf L, .inr ⟨g, L.length, _, rfl, hB, hh, Nat.le_refl _, hm, by simp [flat_length hf], ?_⟩⟩
 rw [List.take_of_length_le (by simp [flat_length hf])]
theorem Own.form (h : Own f e k w B v L) (hL : L ≠ []) : ∃ g cap cur, v = .slice (some ⟨g, 0, none⟩) L.length cap ∧ B ≤ g ∧ w.heap[g]? = some (.cells cur e (0, 0)) ∧ L.length ≤ cap ∧ cur.toList.take (L.length * k) = flat f L := by
 rcases h.2 with ⟨_, h0⟩ | ⟨g, cap, cur, hv, hb, hh, h1, h2, h3, h4⟩
 ·exact absurd (List.eq_nil_of_length_eq_zero h0) hL
 ·exact ⟨g, cap, cur, hv, hb, hh, h1, h4⟩
end
section
variable {P : Program} {ops : Array Oper} {rest : List Oper} {a : Act} {w : World} {Q : Exit → Act → World → Prop}
/-- 'out = append(out, x)', x a value of k cells: the new element is laid in a block of its own; the slice owns it. -/
theorem arm_push {α : Type} {f : α → List Value} {e : TypeId} {k : Nat} {B : Nat} {v : Value} {L : List α} (t : TypeId) (ht : P.underlying t = some (.slice e)) (i : TypeInfo) (z : Value) (bytes : Nat) (hi : P.info? e = some i) (hz : i.zero = some z) (hsize : i.size = k)
  (hby : i.bytes = bytes) (hzs : z.cells.size = k) (hk : 0 < k) (hf : ∀ x, (f x).length = k) (h1 : ∀ x, ∀ u ∈ f x, u.oneCell' = true)
  {d1 : Tmp} {d2 : Option Tmp} {ty1 ty2 : TypeId} {pos1 pos2 : String} {after1 after2 : Array Edge} {s x : Operand} (y : α) (hrun : (execOp a.eval { dst := some d1, op := Op.buildSlice t 1 #[(0, x)], type := ty1, pos := pos1, after := after1, guard := none }).run P w = .ok (.value (.slice (some ⟨w.heap.size, 0, none⟩) 1 1)) (w.alloc (.cells (f y).toArray e)))
  (hs : a.eval s = v) (hne : s ≠ .tmp d1) (hd : d1 < a.tmps.size) (hown : Own f e k w B v L) (hB : B ≤ w.heap.size) (hlen : (L.length + 1) * bytes ≤ 140737488355328) (hlen2 : L.length ≤ 1000000000)
  (hK : ∀ v' w', Own f e k w' B v' (L ++ [y]) → Only (fun g => v.ownBlock = some g) w w' → (v'.ownBlock = v.ownBlock ∨ v'.ownBlock = some (w.heap.size + 1)) → wpList P ops Q rest ((a.put (some d1) (.slice (some ⟨w.heap.size, 0, none⟩) 1 1)).put d2 v') w') :
  wpList P ops Q ({ dst := some d1, op := Op.buildSlice t 1 #[(0, x)], type := ty1, pos := pos1, after := after1, guard := none } ::
   { dst := d2, op := Op.call { callee := Callee.builtin Builtin.append, args := #[s, .tmp d1], argTypes := #[t, t] }, type := ty2, pos := pos2, after := after2, guard := none } :: rest) a w := by
 refine wpList_plain rfl fun K hK' => ?_
 unfold Oper.wp
 rw [hrun]
 refine hK' _ _ ?_
 have hsx : (a.put (some d1) (.slice (some ⟨w.heap.size, 0, none⟩) 1 1)).eval s = v := by
  rw [Act.eval_put (by intro d hd' e; cases hd'; exact hne e)]; exact hs
 have hxx : (a.put (some d1) (.slice (some ⟨w.heap.size, 0, none⟩) 1 1)).eval (.tmp d1) = .slice (some ⟨w.heap.size, 0, none⟩) 1 1 := by
  simp [Act.eval, Act.put, hd]
 have hbel : Below w.heap.size w (w.alloc (.cells (f y).toArray e)) := (Below.refl _ _).alloc (Nat.le_refl _) _
 have hown' : (w.alloc (.cells (f y).toArray e)).ownsRow B e k v L.length (flat f L) := Own.below hown hbel
 refine wpList_append_own_at (P := P) (w := w.alloc (.cells (f y).toArray e)) rfl s (.tmp d1) t rfl B e i z k bytes ht hi hz hsize hby hzs hk v L.length (flat f L) hsx hown' ⟨w.heap.size, 0, none⟩ 1 1 (f y) hxx (by rw [hf]; omega) ?_ (h1 y) (by unfold maxLen; omega) hlen (by simp; omega) ?_
 ·intro j u hu
  have : (⟨w.heap.size, 0, none⟩ : Addr).add j = ⟨w.heap.size, j, none⟩ := by unfold Addr.add; split <;> simp_all
  rw [this, World.cell?_alloc_new]
  simpa using hu
 ·intro v' w' h2 h3 _ h5
  refine hK v' w' ?_ ?_ ?_
  ·unfold Own
   rw [flat_snoc, List.length_append]
   exact h2
  ·refine ⟨h3.os.trans rfl, h3.tape.trans rfl, h3.output.trans rfl, Nat.le_trans hbel.size h3.size, fun g hg hm => ?_⟩
   rw [h3.block g (Nat.lt_of_lt_of_le hg hbel.size) (fun e => hm e.symm)]
   exact hbel.block g hg
  ·rcases h5 with h5 | h5
   ·exact .inl h5
   ·right; rw [h5]; simp
end
end Go.Proofs.YtfonjeoiallhhaaGreatDoor
/- The walks of laws.masterOf's two closures. Conditions: what the numbers' slice holds are numbers of 32 bits. -/
namespace Go.Proofs.YtfonjeoiallhhaaGreatDoor
open Go.RowKit
/-- A slice of numbers of 32 bits that is there. -/
def U32s (w : World) (A : Option Addr) (len : Nat) : Prop := ∀ j, j < len → ∃ (a : Addr) (x : Nat), A = some a ∧ w.cell? (a.add j) = some (.int .u32 x) ∧ x < 4294967296
theorem U32s.below {w w' : World} {A : Option Addr} {len : Nat} (h : U32s w A len) (hb : Below w.heap.size w w') : U32s w' A len := fun j hj => by
 obtain ⟨a, x, ha, hc, hx⟩ := h j hj
 refine ⟨a, x, ha, ?_, hx⟩
 rw [World.cell?_of_block (w := w)]
 ·exact hc
 ·exact hb.block _ (World.block_lt_of_cell? w _ hc)
end Go.Proofs.YtfonjeoiallhhaaGreatDoor
/- Words for the walk of laws.masterOf: renditions, variants, the state between two rounds; an append inside a region that draws. -/
namespace Go.Proofs.YtfonjeoiallhhaaGreatDoor
open Go.RowKit
theorem cell_of_heap {w : World} {g i : Nat} {cs : Array Value} {t : TypeId} {fr : Nat × Nat} {v : Value} (h : w.heap[g]? = some (.cells cs t fr)) (hv : cs[i]? = some v) : w.cell? ⟨g, i, none⟩ = some v := by simp [World.cell?, h, hv]
theorem wraps_u32 (n : Int) (h₀ : 0 ≤ n) (h₁ : n < 2 ^ 32) : IntKind.u32.wrap n = n := by rw [IntKind.wrap_u32]; omega
theorem u32_and1 {x : Int} (h0 : 0 ≤ x) (h1 : x < 4294967296) : bits .and .u32 x 1 = x % 2 := bits_mask .u32 32 (by decide) wraps_u32 1 (by decide) x h0 (by omega)
theorem u32_and3 {x : Int} (h0 : 0 ≤ x) (h1 : x < 4294967296) : bits .and .u32 x 3 = x % 4 := bits_mask .u32 32 (by decide) wraps_u32 2 (by decide) x h0 (by omega)
section
variable {α β : Type} {f : α → List Value} {f' : β → List Value} {e e' : TypeId} {k k' : Nat} {w w' : World} {B B' : Nat} {v v' : Value} {L : List α} {L' : List β}
theorem Own.at_heap (h : Own f e k w B v L) (hb : ∀ g, v.ownBlock = some g → w'.heap[g]? = w.heap[g]?) : Own f e k w' B v L := by
 refine ⟨h.1, ?_⟩
 rcases h.2 with h2 | ⟨g, cap, cur, rfl, hB, hh, r⟩
 ·exact .inl h2
 ·exact .inr ⟨g, cap, cur, rfl, hB, (hb g rfl).trans hh, r⟩
theorem Own.elem (h : Own f e k w B v L) : ∀ g, v.ownBlock = some g → ∃ cur, w.heap[g]? = some (.cells cur e (0, 0)) := by
 intro g hg
 rcases h.2 with ⟨rfl, _⟩ | ⟨g', cap, cur, rfl, hb, hh, _⟩
 ·simp [Value.ownBlock] at hg
 ·have : g' = g := by simpa [Value.ownBlock] using hg
  subst this
  exact ⟨cur, hh⟩
theorem Own.ne_blk (h : Own f e k w B v L) {g : Nat} {cs : Array Value} {t : TypeId} (hg : w.heap[g]? = some (.cells cs t (0, 0))) (he : e ≠ t) : ¬ v.ownBlock = some g := by
 intro hv
 obtain ⟨c1, h1⟩ := h.elem g hv
 rw [hg] at h1
 injection h1 with h1
 injection h1 with _ h1
 exact he h1.symm
end
theorem Own.slice {α : Type} {f : α → List Value} {e : TypeId} {k : Nat} {w : World} {B : Nat} {v : Value} {L : List α} (h : Own f e k w B v L) : ∃ p l c, v = .slice p l c := by
 rcases h.2 with ⟨rfl, _⟩ | ⟨g', cap, cur, rfl, _⟩ <;> exact ⟨_, _, _, rfl⟩
theorem Only.of_setCell (w : World) (p : Addr) (v : Value) : Only (fun g => g = p.block) w (w.setCell p v) :=
 ⟨rfl, rfl, rfl, by simp [World.setCell], fun g _ hg => Below.heap_setCell _ _ _ _ hg⟩
theorem heap_setCell_same {w : World} {g i : Nat} {cs : Array Value} {t : TypeId} {fr : Nat × Nat} (h : w.heap[g]? = some (.cells cs t fr)) (v : Value) : (w.setCell ⟨g, i, none⟩ v).heap[g]? = some (.cells (cs.setIfInBounds i v) t fr) := by
 simp [World.setCell, Array.getElem?_modify, h]
section
variable {P : Program} {ops : Array Oper} {a : Act} {w : World} {E : Nat → Nat → Prop} {Φ : Nat → Value → World → Prop} {i : Nat} {Q : Exit → Act → World → Prop}
end
end Go.Proofs.YtfonjeoiallhhaaGreatDoor
/- Arms for the walk: a whole struct loaded from a block that is known, or stored into it. -/
namespace Go.Proofs.YtfonjeoiallhhaaGreatDoor
open Go.RowKit
section
variable {P : Program} {ops : Array Oper} {rest : List Oper} {a : Act} {w : World} {Q : Exit → Act → World → Prop} {dst : Option Tmp} {ty : TypeId} {pos : String} {after : Array Edge}
theorem run_load_blk (t : TypeId) (hagg : ∀ w, (isAgg t).run P w = .ok true w) {k : Nat} (hk : ∀ w, (sizeOf t).run P w = .ok k w) {g : Nat} {cs : Array Value} {e : TypeId} {fr : Nat × Nat} (hg : w.heap[g]? = some (.cells cs e fr)) (hsz : cs.size = k) :
  (loadVar t ⟨g, 0, none⟩).run P w = .ok (.agg cs) w := by
 have := run_loadCells_list (P := P) (w := w) ⟨g, 0, none⟩ cs.toList (fun j v hj => by
  have : (⟨g, 0, none⟩ : Addr).add j = ⟨g, j, none⟩ := by unfold Addr.add; split <;> simp_all
  rw [this]
  simp only [World.cell?, hg]
  simpa using hj)
 simp only [Array.length_toList, hsz] at this
 simp [loadVar, hagg, hk, this]
theorem run_store_blk (t : TypeId) (hagg : ∀ w, (isAgg t).run P w = .ok true w) {k : Nat} (hk : ∀ w, (sizeOf t).run P w = .ok k w) {g : Nat} {old cs : Array Value} {e : TypeId} (hg : w.heap[g]? = some (.cells old e (0, 0))) (hsz : cs.size = k) (hso : old.size = k) (h1 : ∀ u ∈ cs.toList, u.oneCell' = true) :
  (storeVar t ⟨g, 0, none⟩ (.agg cs)).run P w = .ok () (w.setRow g cs) := by
 have := run_storeCells_at (P := P) g 0 e cs.toList 0 old w hg (by simp; omega) h1
 have h2 : (old.toList.take (0 + 0) ++ cs.toList ++ old.toList.drop (0 + 0 + cs.toList.length)).toArray = cs := by
  rw [List.drop_eq_nil_of_le (by simp; omega)]
  simp
 rw [h2] at this
 simp [storeVar, hk, Value.cells, hsz, this]
theorem arm_store_blk (t : TypeId) (hagg : ∀ w, (isAgg t).run P w = .ok true w) {k : Nat} (hk : ∀ w, (sizeOf t).run P w = .ok k w) {x y : Operand} {g : Nat} {old cs : Array Value} {e : TypeId} (hx : a.eval x = .pointer (some ⟨g, 0, none⟩)) (hy : a.eval y = .agg cs) (hg : w.heap[g]? = some (.cells old e (0, 0))) (hsz : cs.size = k) (hso : old.size = k) (h1 : ∀ u ∈ cs.toList, u.oneCell' = true)
  (hK : ∀ w', w'.heap[g]? = some (.cells cs e (0, 0)) → Only (fun g' => g' = g) w w' → wpList P ops Q rest a w') : wpList P ops Q ({ dst := none, op := Op.store t x y, type := ty, pos := pos, after := after, guard := none } :: rest) a w := by
 refine wpList_plain rfl fun K hK' => ?_
 have hr := run_store_blk (P := P) (w := w) t hagg hk hg hsz hso h1
 unfold Oper.wp
 simp [execOp, hx, hy, Instr.storeAt, Instr.sureAddr, hr]
 refine hK' _ _ (hK _ (setRow_heap w g old cs e (0, 0) hg) ⟨rfl, rfl, rfl, by simp [World.setRow], fun g' hg' hne => ?_⟩)
 simp only [World.setRow, Array.getElem?_modify]
 rw [if_neg (fun h => hne h.symm)]
end
end Go.Proofs.YtfonjeoiallhhaaGreatDoor
/- Arms for acts that are not laid open: one operation run; a round's appends in laws.masterOf. -/
namespace Go.Proofs.YtfonjeoiallhhaaGreatDoor
open Go.RowKit
section
variable {P : Program} {ops : Array Oper} {rest : List Oper} {a : Act} {w w' : World} {Q : Exit → Act → World → Prop} {v : Value} {o : Oper}
theorem arm_run (hg : o.guard = none) (hr : (execOp a.eval o).run P w = .ok (.value v) w') (hK : wpList P ops Q rest (a.put o.dst v) w') : wpList P ops Q (o :: rest) a w := by
 refine wpList_plain hg fun K hK' => ?_
 unfold Oper.wp
 rw [hr]
 exact hK' _ _ hK
theorem arm_skip (hg : o.guard = none) (hd : o.dst = none) (hr : (execOp a.eval o).run P w = .ok .skip w') (hK : wpList P ops Q rest a w') : wpList P ops Q (o :: rest) a w := by
 refine wpList_plain hg fun K hK' => ?_
 unfold Oper.wp
 rw [hr]
 have e : a.put o.dst undef = a := by rw [hd]; rfl
 exact hK' _ _ (e.symm ▸ hK)
theorem ev_ne {d t : Nat} (h : d ≠ t) : (a.put (some d) v).eval (.tmp t) = a.eval (.tmp t) := Act.eval_put (by intro d' hd' e; cases hd'; cases e; exact h rfl)
theorem ev_eq {d : Nat} (h : d < a.tmps.size) : (a.put (some d) v).eval (.tmp d) = v := by simp [Act.eval, Act.put, h]
end
theorem Own.base {α : Type} {f : α → List Value} {e : TypeId} {k : Nat} {w : World} {B B' : Nat} {v : Value} {L : List α} (h : Own f e k w B v L) (hB : B' ≤ B) : Own f e k w B' v L := by
 refine ⟨h.1, ?_⟩
 rcases h.2 with h2 | ⟨g, cap, cur, hv, hb, r⟩
 ·exact .inl h2
 ·exact .inr ⟨g, cap, cur, hv, by omega, r⟩
theorem frozen_of_heap {w : World} {g i : Nat} {cs : Array Value} {t : TypeId} {v : Value} (h : w.heap[g]? = some (.cells cs t (0, 0))) (hv : cs[i]? = some v) : w.frozen? ⟨g, i, none⟩ = false := by simp [World.frozen?, h]
section
variable {ops : Array Oper} {rest : List Oper} {a : Act} {Q : Exit → Act → World → Prop} {ty0 ty1 ty2 ty3 ty4 ty5 ty6 ty7 ty8 ty9 ty10 ty11 : TypeId} {pos0 pos1 pos2 pos3 pos4 pos5 pos6 pos7 pos8 pos9 pos10 pos11 : String} {aft0 aft1 aft2 aft3 aft4 aft5 aft6 aft7 aft8 aft9 aft10 aft11 : Array Edge}
end
end Go.Proofs.YtfonjeoiallhhaaGreatDoor
/- Triples over frames that are not laid open, for code that writes behind a bytes.Buffer: what a piece of code writes; regions that draw their order, as two chains and a write. -/
namespace Go.Proofs.YtfonjeoiallhhaaGreatDoor
open Go.RowKit
/-- The frame: its size, nothing deferred, the slots below m0 as f says. -/
structure Fr (N m0 : Nat) (f : Nat → Value) (a : Act) : Prop where
 size : a.tmps.size = N
 defers : a.defers = []
 low : ∀ t, t < m0 → a.eval (.tmp t) = f t
theorem Fr.put {N m0 d : Nat} {f : Nat → Value} {a : Act} {v : Value} (h : Fr N m0 f a) (hd : m0 ≤ d) : Fr N m0 f (a.put (some d) v) :=
 ⟨by simp [Act.put, h.size], by simp [Act.put, h.defers], fun t ht => by rw [ev_ne (by omega)]; exact h.low t ht⟩
/-- What the world's predicate owes: it stands in greater worlds; the two writes. -/
structure Wr (W : List UInt8 → World → Prop) (lim : Nat) (p : Addr) : Prop where
 below : ∀ s w w', W s w → Below w.heap.size w w' → W s w'
 ws : ∀ s w (x : ByteArray), W s w → s.length + x.data.toList.length ≤ lim → Calls Tryz.prog 51 #[.pointer (some p), .string x] w fun e w' => (∃ v, e = .returned v) ∧ W (s ++ x.data.toList) w'
 wr : ∀ s w (c : Nat), c < 128 → W s w → s.length + 1 ≤ lim → Calls Tryz.prog 53 #[.pointer (some p), .int .i32 c] w fun e w' => (∃ v, e = .returned v) ∧ W (s ++ [UInt8.ofNat c]) w'
def Tr (N m0 : Nat) (f : Nat → Value) (W : List UInt8 → World → Prop) (lim : Nat) (c : Code) (l : List UInt8) : Prop :=
 ∀ s a w, Fr N m0 f a → W s w → s.length + l.length ≤ lim → ∀ Q : Exit → Act → World → Prop, (∀ a' w', Fr N m0 f a' → W (s ++ l) w' → Q .normal a' w') → c.wp Tryz.prog Q a w
def Ts (N m0 : Nat) (f : Nat → Value) (W : List UInt8 → World → Prop) (c : Code) (t : Nat) (v : Value) : Prop :=
 ∀ s a w, Fr N m0 f a → W s w → ∀ Q : Exit → Act → World → Prop, (∀ a' w', Fr N m0 f a' → W s w' → a'.eval (.tmp t) = v → Q .normal a' w') → c.wp Tryz.prog Q a w
section
variable {N m0 : Nat} {f : Nat → Value} {W : List UInt8 → World → Prop} {lim : Nat}
theorem Tr.seq {c d : Code} {l m : List UInt8} (h1 : Tr N m0 f W lim c l) (h2 : Tr N m0 f W lim d m) : Tr N m0 f W lim (c.seq d) (l ++ m) := by
 intro s a w hf hw hlim Q hQ
 rw [List.length_append] at hlim
 refine wp_seq (h1 s a w hf hw (by omega) _ fun a' w' hf' hw' => ?_)
 exact h2 _ a' w' hf' hw' (by simp only [List.length_append]; omega) _ fun a'' w'' hf'' hw'' => hQ _ _ hf'' (by rw [← List.append_assoc]; exact hw'')
theorem Tr.skip : Tr N m0 f W lim .skip [] := fun s a w hf hw _ Q hQ => wp_skip (hQ a w hf (by rw [List.append_nil]; exact hw))
theorem Tr.ite {c d e : Code} {t : Nat} {b : Bool} {l m : List UInt8} (h : Ts N m0 f W c t (.bool b)) (h1 : b = true → Tr N m0 f W lim d l) (h2 : b = false → Tr N m0 f W lim e m) :
  Tr N m0 f W lim (c.seq (.cond (.tmp t) d e)) (if b = true then l else m) := by
 intro s a w hf hw hlim Q hQ
 refine wp_seq (h s a w hf hw _ fun a' w' hf' hw' ht => ?_)
 refine wp_cond_split ht (fun hb => ?_) (fun hb => ?_)
 ·rw [if_pos hb] at hlim hQ; exact h1 hb _ a' w' hf' hw' hlim _ hQ
 ·rw [if_neg (by rw [hb]; decide)] at hlim hQ; exact h2 hb _ a' w' hf' hw' hlim _ hQ
theorem Tr.opt {c d : Code} {t : Nat} {b : Bool} {l : List UInt8} (h : Ts N m0 f W c t (.bool b)) (h1 : b = true → Tr N m0 f W lim d l) :
  Tr N m0 f W lim (c.seq (.cond (.tmp t) d .skip)) (if b = true then l else []) := Tr.ite h h1 fun _ => Tr.skip
theorem Tr.congr {c : Code} {l m : List UInt8} (h : Tr N m0 f W lim c l) (e : l = m) : Tr N m0 f W lim c m := e ▸ h
/-- An operation that reads one operand, hands back v, and leaves what the predicate says. -/
structure Sp (W : List UInt8 → World → Prop) (o : Oper) (x : Operand) (u v : Value) : Prop where
 guard : o.guard = none
 run : ∀ s a w (next : Act → World → Prop) (Q : Exit → Act → World → Prop), W s w → a.eval x = u → (∀ w', W s w' → Below w.heap.size w w' → next (a.put o.dst v) w') → o.wp Tryz.prog a w next Q
variable {ops : Array Oper} {rest : List Oper} {a : Act} {w : World} {Q : Exit → Act → World → Prop} {s : List UInt8} {o : Oper} {x : Operand} {u v : Value}
theorem chn_one {d : Nat} (h : Sp W o x u v) (hx : a.eval x = u) (hd : o.dst = some d) (hm : m0 ≤ d) (hN : d < N) (hf : Fr N m0 f a) (hw : W s w)
  (hK : ∀ a' w', Fr N m0 f a' → W s w' → a'.eval (.tmp d) = v → wpList Tryz.prog ops Q rest a' w') : wpList Tryz.prog ops Q (o :: rest) a w := by
 refine wpList_plain h.guard fun K hK' => ?_
 refine h.run s a w K Q hw hx fun w' hw' _ => hK' _ _ ?_
 rw [hd]
 exact hK _ _ (hf.put hm) hw' (ev_eq (by rw [hf.size]; exact hN))
theorem sp_val {d : Option Nat} {q : Op} {ty : TypeId} {ps : String} {af : Array Edge} (h : ∀ (a : Act) s w, W s w → a.eval x = u → (execOp a.eval ⟨d, q, ty, ps, af, none⟩).run Tryz.prog w = .ok (.value v) w) : Sp W ⟨d, q, ty, ps, af, none⟩ x u v := by
 refine ⟨rfl, fun s a w next Q hw hx hn => ?_⟩
 unfold Oper.wp
 rw [h a s w hw hx]
 exact hn w hw (Below.refl _ _)
theorem sp_call {d : Option Nat} {q : Op} {ty : TypeId} {ps : String} {af : Array Edge} {fn : FuncId} {args : Array Value} (h : ∀ (a : Act) s w, W s w → a.eval x = u → (execOp a.eval ⟨d, q, ty, ps, af, none⟩).run Tryz.prog w = .ok (.enter fn args) w)
  (hc : ∀ s w, W s w → Calls Tryz.prog fn args w fun e w' => e = .returned v ∧ W s w' ∧ Below w.heap.size w w') : Sp W ⟨d, q, ty, ps, af, none⟩ x u v := by
 refine ⟨rfl, fun s a w next Q hw hx hn => ?_⟩
 unfold Oper.wp
 rw [h a s w hw hx]
 refine (hc s w hw).mono ?_
 rintro e w' ⟨rfl, hw', hb⟩
 exact hn w' hw' hb
variable {d : Option Nat} {ty : TypeId} {ps : String} {af : Array Edge} {t : Nat}
theorem sp_move : Sp W ⟨d, .move (.tmp t), ty, ps, af, none⟩ (.tmp t) u u := sp_val fun a s w _ hx => by simp only [execOp, hx]; rfl
theorem sp_nil {p : Addr} : Sp W ⟨d, .nilCheck (.tmp t), ty, ps, af, none⟩ (.tmp t) (.pointer (some p)) (.pointer (some p)) := sp_val fun a s w _ hx => by simp only [execOp, hx]; rfl
theorem run_andValue {sm : Sem Value} (h : sm.run Tryz.prog w = .ok v w) : (do pure (Next.value (← sm)) : Sem Next).run Tryz.prog w = .ok (.value v) w := by
 simp [h, Result.andThen]
end
/-- The slots that the operations write lie from m0 on. -/
def lowOk (ops : Array Oper) (m0 : Nat) : Bool := ops.toList.all fun o => match o.dst with | some d => decide (m0 ≤ d) | none => true
theorem lowOk_spec {ops : Array Oper} {m0 : Nat} (h : lowOk ops m0 = true) {j : Nat} {o : Oper} {d : Nat} (ho : ops[j]? = some o) (hd : o.dst = some d) : m0 ≤ d := by
 unfold lowOk at h
 rw [List.all_eq_true] at h
 have := h o (by have := Array.mem_of_getElem? ho; simpa using this)
 rw [hd] at this
 simpa using this
theorem OgCtx.outLow {ops : Array Oper} {a0 a : Act} {w0 w : World} {E : Nat → Nat → Prop} {Φ : Nat → Value → World → Prop} {i m0 t : Nat} (c : OgCtx ops a0 w0 E Φ i a w) (h : lowOk ops m0 = true) (ht : t < m0) : a.eval (.tmp t) = a0.eval (.tmp t) := by
 have := c.out t (fun j o hj hd => by have := lowOk_spec h hj hd; omega)
 simp only [Act.eval, Array.getD_eq_getD_getElem?, this]
theorem OgHead.outLow {ops : Array Oper} {m : Nat} {a0 a : Act} {w0 w : World} {E : Nat → Nat → Prop} {Φ : Nat → Value → World → Prop} {m0 t : Nat} (c : OgHead ops m a0 w0 E Φ a w) (h : lowOk ops m0 = true) (ht : t < m0) : a.eval (.tmp t) = a0.eval (.tmp t) := by
 have := c.out t (fun j o _ hj hd => by have := lowOk_spec h hj hd; omega)
 simp only [Act.eval, Array.getD_eq_getD_getElem?, this]
theorem OgHead.fr {ops : Array Oper} {m : Nat} {a0 a : Act} {w0 w : World} {E : Nat → Nat → Prop} {Φ : Nat → Value → World → Prop} {N m0 : Nat} {f : Nat → Value} (c : OgHead ops m a0 w0 E Φ a w) (h : lowOk ops m0 = true) (hf : Fr N m0 f a0) : Fr N m0 f a :=
 ⟨c.size.trans hf.size, c.defers.trans hf.defers, fun t ht => (c.outLow h ht).trans (hf.low t ht)⟩
theorem OgEnd.outLow {ops : Array Oper} {a0 a : Act} {w0 w : World} {E : Nat → Nat → Prop} {Φ : Nat → Value → World → Prop} {m0 t : Nat} (c : OgEnd ops a0 w0 E Φ a w) (h : lowOk ops m0 = true) (ht : t < m0) : a.eval (.tmp t) = a0.eval (.tmp t) := by
 have := c.out t (fun j o hj hd => by have := lowOk_spec h hj hd; omega)
 simp only [Act.eval, Array.getD_eq_getD_getElem?, this]
theorem only_below {w w' : World} (h : Only (fun g => ∃ e : Nat, (fun (_ : Nat) (_ : Nat) => False) e g) w.drew w') : Below w.heap.size w w' := by
 have h0 := h.below (B := w.heap.size) (Nat.le_refl _) fun g _ ⟨_, h⟩ => h
 exact ⟨h0.os, h0.tape, h0.output, h0.size, h0.block⟩

theorem tr_lit {N m0 : Nat} {f : Nat → Value} {W : List UInt8 → World → Prop} {lim : Nat} {p : Addr} {x : ByteArray} (H : Wr W lim p) {id d0 d1 d2 d3 tp : Nat} {q0 q1 q2 : Op} {y0 y1 y2 y3 : TypeId} {p0 p1 p2 p3 : String} {e0 e1 e2 e3 : Array Edge} {at3 : Array TypeId} {v0 v1 : Value}
  (s0 : Sp W ⟨some d0, q0, y0, p0, e0, none⟩ (.tmp tp) (f tp) v0) (s1 : Sp W ⟨some d1, q1, y1, p1, e1, none⟩ (.tmp d0) v0 v1) (s2 : Sp W ⟨some d2, q2, y2, p2, e2, none⟩ (.tmp d1) v1 (.pointer (some p)))
  (hm : tp < m0 ∧ m0 ≤ d0 ∧ m0 ≤ d1 ∧ m0 ≤ d2 ∧ m0 ≤ d3) (hN : d0 < N ∧ d1 < N ∧ d2 < N ∧ d3 < N) :
  Tr N m0 f W lim (.region id #[⟨some d0, q0, y0, p0, e0, none⟩, ⟨some d1, q1, y1, p1, e1, none⟩, ⟨some d2, q2, y2, p2, e2, none⟩, ⟨some d3, .call { callee := .value (.func 51), args := #[.tmp d2, .const (.string x)], argTypes := at3 }, y3, p3, e3, none⟩] false) (x.data.toList) := by
 intro s a w hf hw hlim Q hQ
 refine wp_region_lit ?_
 refine chn_one s0 (hf.low tp hm.1) rfl hm.2.1 hN.1 hf hw ?_
 intro a w hf hw h0
 refine chn_one s1 h0 rfl hm.2.2.1 hN.2.1 hf hw ?_
 intro a w hf hw h1
 refine chn_one s2 h1 rfl hm.2.2.2.1 hN.2.2.1 hf hw ?_
 intro a w hf hw h2
 refine wpList_plain rfl fun K hK => ?_
 unfold Oper.wp
 simp only [execOp, resolve, List.map_toArray, List.map_cons, List.map_nil, h2]
 go_simp
 refine (H.ws s w _ hw hlim).mono ?_
 rintro e w' ⟨⟨v, rfl⟩, hw'⟩
 exact hK _ _ (wpList_nil (hQ _ _ (hf.put hm.2.2.2.2) hw'))
theorem tr_rune {N m0 : Nat} {f : Nat → Value} {W : List UInt8 → World → Prop} {lim : Nat} {p : Addr} {c : Nat} (H : Wr W lim p) (hc : c < 128) {id d0 d1 d2 d3 tp : Nat} {q0 q1 q2 : Op} {y0 y1 y2 y3 : TypeId} {p0 p1 p2 p3 : String} {e0 e1 e2 e3 : Array Edge} {at3 : Array TypeId} {v0 v1 : Value}
  (s0 : Sp W ⟨some d0, q0, y0, p0, e0, none⟩ (.tmp tp) (f tp) v0) (s1 : Sp W ⟨some d1, q1, y1, p1, e1, none⟩ (.tmp d0) v0 v1) (s2 : Sp W ⟨some d2, q2, y2, p2, e2, none⟩ (.tmp d1) v1 (.pointer (some p)))
  (hm : tp < m0 ∧ m0 ≤ d0 ∧ m0 ≤ d1 ∧ m0 ≤ d2 ∧ m0 ≤ d3) (hN : d0 < N ∧ d1 < N ∧ d2 < N ∧ d3 < N) :
  Tr N m0 f W lim (.region id #[⟨some d0, q0, y0, p0, e0, none⟩, ⟨some d1, q1, y1, p1, e1, none⟩, ⟨some d2, q2, y2, p2, e2, none⟩, ⟨some d3, .call { callee := .value (.func 53), args := #[.tmp d2, .const (.int .i32 (c : Int))], argTypes := at3 }, y3, p3, e3, none⟩] false) ([UInt8.ofNat c]) := by
 intro s a w hf hw hlim Q hQ
 refine wp_region_lit ?_
 refine chn_one s0 (hf.low tp hm.1) rfl hm.2.1 hN.1 hf hw ?_
 intro a w hf hw h0
 refine chn_one s1 h0 rfl hm.2.2.1 hN.2.1 hf hw ?_
 intro a w hf hw h1
 refine chn_one s2 h1 rfl hm.2.2.2.1 hN.2.2.1 hf hw ?_
 intro a w hf hw h2
 refine wpList_plain rfl fun K hK => ?_
 unfold Oper.wp
 simp only [execOp, resolve, List.map_toArray, List.map_cons, List.map_nil, h2]
 go_simp
 refine (H.wr s w _ hc hw (by simpa using hlim)).mono ?_
 rintro e w' ⟨⟨v, rfl⟩, hw'⟩
 exact hK _ _ (wpList_nil (hQ _ _ (hf.put hm.2.2.2.2) hw'))
end Go.Proofs.YtfonjeoiallhhaaGreatDoor
/- strconv.FormatUint at base 10, and strver: the decimal text of a number. Condition: Go's table of powers of ten reads as its text has it. -/
set_option maxRecDepth 100000
set_option maxHeartbeats 6400000
namespace Go.Proofs.YtfonjeoiallhhaaGreatDoor
open Go.Shelf Go.RowKit Go.Sort Go.Lib
theorem dec_digits : ∀ n : Nat, dec n = ⟨(decDigits n).toArray⟩ := by
 intro n
 induction n using Nat.strongRecOn with
 | _ n ih =>
  rw [dec]
  unfold decDigits
  by_cases h : n < 10
  ·rw [if_pos h, dif_pos h]
  ·rw [if_neg h, dif_neg h, ih (n / 10) (by omega)]
   apply ByteArray.ext
   simp
abbrev PowTab (w : World) : Prop := TabIs Tryz.prog w "internal/strconv.uint64pow10" .u64 pow10Tab
theorem small_any (i : Nat) (h : i < 100) (w : World) : Calls Tryz.prog 69 #[.int .i64 i] w fun e w' => e = .returned (.string ⟨(decDigits i).toArray⟩) ∧ w' = w := Any.internal_strconv_small Tryz.lays283 i h w
theorem numDigits_any (u : Nat) (h1 : 1 ≤ u) (h2 : u < 18446744073709551616) (w : World) (htab : PowTab w) :
  Calls Tryz.prog 70 #[.int .u64 u] w fun e w' => e = .returned (.int .i64 (nDigits u)) ∧ w' = w := Any.internal_strconv_numDigits Tryz.lays284 u h1 h2 w htab
theorem formatBase10_any (blk off cap : Nat) (u : Nat) (d : Array UInt8) (w : World) (hH : Holds (fun (b : UInt8) => Value.int .u8 (b.toNat : Int)) w blk off d) (hu : u < 10 ^ d.size) (hu64 : u < 18446744073709551616) (hsz : d.size < 4611686018427387904) :
  Calls Tryz.prog 71 #[.slice (some ⟨blk, off, none⟩) d.size cap, .int .u64 u] w fun e w' =>
   e = .returned (.tuple #[]) ∧ ∃ (n v' : Nat) (dk : Array UInt8), w' = (putRow (fun (b : UInt8) => Value.int .u8 (b.toNat : Int)) w blk off dk).drewN n ∧ FmtInv d.size u 0 v' dk := Any.internal_strconv_formatBase10 Tryz.lays285 blk off cap u d w hH hu hu64 hsz
theorem formatUint_in (n : Nat) (hn : n < 18446744073709551616) (w : World) (htab : PowTab w) :
  Calls Tryz.prog 63 #[.int .u64 n, .int .i64 10] w fun e w' => e = .returned (.string (dec n)) ∧ Below w.heap.size w w' := by
 rw [dec_digits]
 by_cases hs : n < 100
 ·go_enter Tryz.func63, Tryz.ntmps63
  go_wp2_with (go_at_call 69; refine (small_any n hs _).mono ?_; rintro e w' ⟨rfl, rfl⟩)
  go_ret
  exact ⟨rfl, Below.refl _ _⟩
 ·have hu1 : 1 ≤ n := by omega
  have hnd20 : nDigits n ≤ 20 := by have := numDigits_eq n hu1 hn; split at this <;> omega
  have hal : Tryz.prog.arrayLen 140 = 24 := by simp [Program.arrayLen, Tryz.underlying140]
  have hsl : ∀ W, (Instr.sliceAt 140 (.pointer (some ⟨w.heap.size, 0, none⟩)) none (some (.int .i64 (nDigits n : Int))) none).run Tryz.prog W = .ok (.slice (some ⟨w.heap.size, 0, none⟩) (nDigits n) 24) W := fun W => by
   rw [run_sliceAt_array_h W 140 ⟨w.heap.size, 0, none⟩ (by simp [Program.arrayLen, Program.elem, Tryz.underlying140]) .i64 (nDigits n : Int) (by omega) (by rw [hal]; omega)]
   go_simp
  have hH0 := holds_zero0 w 140 (nDigits n) (by omega)
  have hfmt := formatBase10_any w.heap.size 0 24 n (Array.replicate (nDigits n) 0) (w.alloc (.cells zeros24 140)) hH0 (by rw [Array.size_replicate]; exact lt_pow_nDigits n) hn (by rw [Array.size_replicate]; omega)
  rw [Array.size_replicate] at hfmt
  have HH0 := Lib.hid hH0
  have iu : (100 : Int) ≤ (n : Int) := by omega
  clear hH0 hal
  go_enter Tryz.func63, Tryz.ntmps63
  go_wp2_with (first
   | (go_at_call 70; refine (numDigits_any n hu1 hn _ (tabIs_alloc htab _)).mono ?_; rintro e w' ⟨rfl, rfl⟩))
  go_at_call 71
  refine hfmt.mono ?_
  rintro e w' ⟨rfl, k, v', dk, rfl, hF⟩
  have hcv : (convert 24 9 (.slice (some ⟨w.heap.size, 0, none⟩) (nDigits n) 24)).run Tryz.prog ((putRow (fun (b : UInt8) => Value.int .u8 (b.toNat : Int)) (w.alloc (.cells zeros24 140)) w.heap.size 0 dk).drewN k) = .ok (.string ⟨(decDigits n).toArray⟩) ((putRow (fun (b : UInt8) => Value.int .u8 (b.toNat : Int)) (w.alloc (.cells zeros24 140)) w.heap.size 0 dk).drewN k) := by
   have h := run_convert_bytes_back (P := Tryz.prog) ((putRow (fun (b : UInt8) => Value.int .u8 (b.toNat : Int)) (w.alloc (.cells zeros24 140)) w.heap.size 0 dk).drewN k) 24 9 5 ⟨w.heap.size, 0, none⟩ 24 (decDigits n) Tryz.underlying24 Tryz.underlying5 Tryz.underlying9 (fun j hj => by
    rw [row_is_numeral hF j hj, add_plain, World.cell?_drewN]
    exact cell?_putRow (fun (b : UInt8) => Value.int .u8 (b.toNat : Int)) _ w.heap.size 0 _ dk HH0.out (by rw [hF.size, Array.size_replicate]) j (by rw [hF.size]; rw [decDigits_length] at hj; exact hj))
   rw [decDigits_length] at h
   exact h
  go_wp2
  go_ret
  obtain ⟨os, eo⟩ := fin_at w (.cells zeros24 140) dk k 0
  exact ⟨rfl, by rw [eo]; exact below_grow _ _ (Nat.le_refl _) _ _⟩
/-- strconv.FormatUint at base 10. -/
theorem formatUint_any (n : Nat) (hn : n < 18446744073709551616) (w : World) (htab : PowTab w) :
  Calls Tryz.prog 55 #[.int .u64 n, .int .i64 10] w fun e w' => e = .returned (.string (dec n)) ∧ Below w.heap.size w w' := by
 go_enter Tryz.func55, Tryz.ntmps55
 go_wp2_with (go_at_call 63; refine (formatUint_in n hn _ htab).mono ?_; rintro e w' ⟨rfl, hb⟩)
 go_ret
 exact ⟨rfl, hb⟩
theorem strver_any (n : Nat) (hn : n < 256) (w : World) (htab : PowTab w) :
  Calls Tryz.prog 52 #[.int .u8 n] w fun e w' => e = .returned (.string (dec n)) ∧ Below w.heap.size w w' := by
 go_enter Tryz.func52, Tryz.ntmps52
 go_wp2_with (go_at_call 55; refine (formatUint_any n (by omega) _ htab).mono ?_; rintro e w' ⟨rfl, hb⟩)
 go_ret
 exact ⟨rfl, hb⟩
end Go.Proofs.YtfonjeoiallhhaaGreatDoor
/- The world's predicate for code that writes behind a bytes.Buffer in a field: the two writes, laid off the shelf; WriteRune at ASCII. -/
set_option maxRecDepth 100000
set_option maxHeartbeats 1000000
namespace Go.Proofs.YtfonjeoiallhhaaGreatDoor
open Go.RowKit
theorem writeString_any (T : TypeId) (R : Nat → Option Value) (B b q : Nat) (bs : List Value) (s : ByteArray) (w : World) (h : LibA.IsBuffer T R 5 B b q bs w) (hBw : B ≤ w.heap.size) (h1 : ∀ v ∈ bs, v.oneCell' = true) (hlim : bs.length + s.size ≤ 140737488355328) :
  Calls Tryz.prog 51 #[.pointer (some ⟨b, q, none⟩), .string s] w fun e w' => e = .returned (.tuple #[.int .i64 s.size, .nilIface]) ∧ LibA.IsBuffer T R 5 B b q (bs ++ Lib.byteCells s.data.toList) w' ∧ RowKit.Below B w w' ∧ Lib.OthersKept 5 (some b) w w' :=
 Any.Buffer_WriteString_at Tryz.lays178 T R B b q bs s w h hBw h1 hlim
theorem writeByte_any (T : TypeId) (R : Nat → Option Value) (B b q : Nat) (bs : List Value) (c : Int) (w : World) (h : LibA.IsBuffer T R 5 B b q bs w) (hBw : B ≤ w.heap.size) (h1 : ∀ v ∈ bs, v.oneCell' = true) (hlim : bs.length + 1 ≤ 140737488355328) :
  Calls Tryz.prog 60 #[.pointer (some ⟨b, q, none⟩), .int .u8 c] w fun e w' => e = .returned .nilIface ∧ LibA.IsBuffer T R 5 B b q (bs ++ [.int .u8 c]) w' ∧ RowKit.Below B w w' ∧ Lib.OthersKept 5 (some b) w w' :=
 Any.Buffer_WriteByte_at Tryz.lays179 T R B b q bs c w h hBw h1 hlim
theorem string_any (T : TypeId) (R : Nat → Option Value) (B b q : Nat) (l : List UInt8) (w : World) (h : LibA.IsBuffer T R 5 B b q (Lib.byteCells l) w) :
  Calls Tryz.prog 40 #[.pointer (some ⟨b, q, none⟩)] w fun e w' => e = .returned (.string ⟨l.toArray⟩) ∧ ∃ n, w' = w.drewN n := Any.Buffer_String_at Tryz.lays182 T R B b q l w h
theorem len_any (T : TypeId) (R : Nat → Option Value) (B b q : Nat) (bs : List Value) (w : World) (h : LibA.IsBuffer T R 5 B b q bs w) :
  Calls Tryz.prog 50 #[.pointer (some ⟨b, q, none⟩)] w fun e w' => e = .returned (.int .i64 bs.length) ∧ ∃ n, w' = w.drewN n := Any.Buffer_Len_at Tryz.lays181 T R B b q bs w h
theorem writeRune_any (T : TypeId) (R : Nat → Option Value) (B b q : Nat) (bs : List Value) (c : Nat) (hc : c < 128) (w : World) (h : LibA.IsBuffer T R 5 B b q bs w) (hBw : B ≤ w.heap.size) (h1 : ∀ v ∈ bs, v.oneCell' = true) (hlim : bs.length + 1 ≤ 140737488355328) :
  Calls Tryz.prog 53 #[.pointer (some ⟨b, q, none⟩), .int .i32 c] w fun e w' => e = .returned (.tuple #[.int .i64 1, .nilIface]) ∧ LibA.IsBuffer T R 5 B b q (bs ++ [.int .u8 c]) w' ∧ RowKit.Below B w w' ∧ Lib.OthersKept 5 (some b) w w' := by
 have w1 : IntKind.u32.wrap (c : Int) = c := by rw [IntKind.wrap_u32]; omega
 have w2 : IntKind.u8.wrap (c : Int) = c := by rw [IntKind.wrap_u8]; omega
 go_enter Tryz.func53, Tryz.ntmps53
 go_wp2_with (go_at_call 60; refine (writeByte_any T R B b q bs c w h hBw h1 hlim).mono ?_; rintro e w' ⟨rfl, hi, hb, hk⟩)
 go_ret2
 exact ⟨rfl, hi, hb, hk⟩
/-- Behind w0, block pb holds a buffer of the bytes s at o; below B, and beside rows of bytes, nothing has turned. -/
def EW (T : TypeId) (R : Nat → Option Value) (B pb o : Nat) (w0 : World) (s : List UInt8) (w : World) : Prop :=
 LibA.IsBuffer T R 5 B pb o (Lib.byteCells s) w ∧ Below B w0 w ∧ Lib.OthersKept 5 (some pb) w0 w
section
variable {T : TypeId} {R : Nat → Option Value} {B pb o : Nat} {w0 w w' : World} {s : List UInt8}
theorem EW.lt (h : EW T R B pb o w0 s w) : B ≤ pb ∧ pb < w.heap.size := ⟨h.1.1, h.1.lt⟩
theorem kept_below {e : TypeId} {b : Option Nat} (h : Below w.heap.size w w') : Lib.OthersKept e b w w' := fun k o hk _ _ => by
 rw [h.block k (Array.getElem?_eq_some_iff.1 hk).1]; exact hk
theorem EW.below (h : EW T R B pb o w0 s w) (hb : Below w.heap.size w w') : EW T R B pb o w0 s w' :=
 ⟨h.1.old hb, h.2.1.trans (hb.mono (by have := h.lt; omega)), h.2.2.trans (kept_below hb)⟩
theorem EW.cells (h : EW T R B pb o w0 s w) {g : Nat} {cs : Array Value} {t : TypeId} {fr : Nat × Nat} (hg : w0.heap[g]? = some (.cells cs t fr)) (ht : t ≠ 5) (hp : g ≠ pb) : w.heap[g]? = some (.cells cs t fr) :=
 h.2.2 g _ hg (fun e => hp (Option.some.inj e)) (fun c fz e => by injection e with _ e2 _; exact ht e2)
theorem EW.refl (h : LibA.IsBuffer T R 5 B pb o (Lib.byteCells s) w) : EW T R B pb o w s w := ⟨h, Below.refl _ _, Lib.OthersKept.refl _ _ _⟩
theorem EW.rebase {s' : List UInt8} (h : EW T R B pb o w0 s w) (h1 : EW T R B pb o w s' w') : EW T R B pb o w0 s' w' := ⟨h1.1, h.2.1.trans h1.2.1, h.2.2.trans h1.2.2⟩
theorem EW.wr : Wr (EW T R B pb o w0) 140737488355328 ⟨pb, o, none⟩ where
 below := fun s w w' h hb => h.below hb
 ws := fun s w x h hl => by
  refine (writeString_any T R B pb o _ x w h.1 (by have := h.lt; omega) (Lib.byteCells_one _) (by rw [Lib.byteCells_length, Lib.size_eq]; exact hl)).mono ?_
  rintro e w' ⟨rfl, hi, hb, hk⟩
  exact ⟨⟨_, rfl⟩, by rw [Lib.byteCells_append]; exact hi, h.2.1.trans hb, h.2.2.trans hk⟩
 wr := fun s w c hc h hl => by
  refine (writeRune_any T R B pb o _ c hc w h.1 (by have := h.lt; omega) (Lib.byteCells_one _) (by rw [Lib.byteCells_length]; exact hl)).mono ?_
  rintro e w' ⟨rfl, hi, hb, hk⟩
  refine ⟨⟨_, rfl⟩, ?_, h.2.1.trans hb, h.2.2.trans hk⟩
  rw [Lib.byteCells_append]
  have : Lib.byteCells [UInt8.ofNat c] = [Value.int .u8 (c : Int)] := by simp [Lib.byteCells]; omega
  rw [this]
  exact hi
end
end Go.Proofs.YtfonjeoiallhhaaGreatDoor
/- Leaves for the walk of an Encode: a literal written, a rune, a field's text, a number; tests of fields. -/
set_option maxRecDepth 100000
namespace Go.Proofs.YtfonjeoiallhhaaGreatDoor
open Go.RowKit
abbrev pt (g k : Nat) : Value := .pointer (some ⟨g, k, none⟩)
/-- A field's place. -/
def Fa (T k g i j : Nat) : Prop := ∀ w, (Instr.fieldAt T (pt g i) k).run Tryz.prog w = .ok (pt g j) w
/-- A load of one cell. -/
def Ld (T : Nat) : Prop := ∀ w p v, w.cell? p = some v → (Instr.loadAt T (.pointer (some p))).run Tryz.prog w = .ok v w
def ne (s : ByteArray) : Bool := !s.data.toList.isEmpty
theorem ld_string : Ld 9 := by intro w p v h; go_simp
theorem ld_u32 : Ld 23 := by intro w p v h; go_simp
theorem ld_bool : Ld 4 := by intro w p v h; go_simp
theorem ld_u8 : Ld 5 := by intro w p v h; go_simp
end Go.Proofs.YtfonjeoiallhhaaGreatDoor
