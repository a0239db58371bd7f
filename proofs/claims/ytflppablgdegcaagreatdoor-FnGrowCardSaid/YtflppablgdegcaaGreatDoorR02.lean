/- Joined: Dec, Word, Uri, Strs, M1, M2, Blk, Stp, Emt, Fu, Enw, Enl, Evr, Evm. -/
import Derived.Test.YtflppablgdegcaaGreatDoorRows
import Derived.Test.YtflppablgdegcaaGreatDoorR01
import Derived.Lib.Hide
import Derived.Deep.DeepCutAuto
import Derived.Deep.QuietTactic
import Derived.BigQuiet
import Derived.Maps.AppendAt
import Derived.Deep.Draws
import Derived.IntWalk
import Derived.WalkKit
import Derived.Lib.BufferAt
set_option maxRecDepth 100000
set_option maxHeartbeats 400000
namespace Go.Proofs.YtflppablgdegcaaGreatDoor
open Go.RowKit
theorem enc_dec0 {n : Nat} (h : n < 10) : chr (48 + (n : Int)) = dec n := by
 rw [dec_small h, show (48 + (n : Int)) = ((48 + n : Nat) : Int) from by omega, chr_ascii _ (by omega)]
theorem enc_dec1 {n : Nat} (h : ¬ n < 10) : dec (n / 10) ++ chr (48 + (n : Int) % 10) = dec n := by
 rw [dec_large h, show (48 + (n : Int) % 10) = ((48 + n % 10 : Nat) : Int) from by omega, chr_ascii _ (by omega)]
theorem decimal_all (k : Nat) : ∀ (n : Nat) (w : World), n < 10 ^ (k + 1) → n < 18446744073709551616 →
  Calls Tryz.prog 12 #[.int .u64 n] w fun e w' => e = .returned (.string (dec n)) ∧ w = w' := by
 induction k with
 | zero =>
  intro n w hk hn
  have h1 : n < 10 := by omega
  go_enter Tryz.func12, Tryz.ntmps12
  go_wp2_with (first | (refine arm_chr 9 Tryz.underlying9 21 (by kernel_rfl) rfl ?_))
  go_ret
  exact ⟨ret_string (enc_dec0 h1), rfl⟩
 | succ k ih =>
  intro n w hk hn
  by_cases h1 : n < 10
  ·exact ih n w (Nat.lt_of_lt_of_le h1 (by rw [Nat.pow_succ]; have := Nat.pow_pos (n := k) (a := 10) (by omega); omega)) hn
  ·have hd : n / 10 < 10 ^ (k + 1) := by rw [Nat.div_lt_iff_lt_mul (by omega)]; rw [Nat.pow_succ] at hk; omega
   have hs := dec_le (n := n / 10) (by omega)
   have he := chr_size (48 + (n : Int) % 10)
   go_enter Tryz.func12, Tryz.ntmps12
   go_wp2_with (first | (go_at_call 12; refine (ih (n / 10) _ hd (by omega)).mono ?_; rintro e w' ⟨rfl, rfl⟩) | (refine arm_chr 9 Tryz.underlying9 21 (by kernel_rfl) rfl ?_) | (refine arm_add 9 Tryz.underlying9 rfl rfl (by omega) ?_))
   go_ret
   exact ⟨ret_string (enc_dec1 h1), rfl⟩
theorem decimal_any (n : Nat) (w : World) (hn : n < 18446744073709551616) :
  Calls Tryz.prog 12 #[.int .u64 n] w fun e w' => e = .returned (.string (dec n)) ∧ w = w' :=
 decimal_all 19 n w (by omega) hn
def secs (e : Nat) : ByteArray := dec (e / 8) ++ ⟨#[46]⟩ ++ dec (e % 8 * 125 / 100) ++ dec (e % 8 * 125 / 10 % 10) ++ dec (e % 8 * 125 % 10)
theorem dec_one {n : Nat} (h : n < 10) : (dec n).size ≤ 1 := dec_size 0 n (by omega)
theorem decimal_of (n : Nat) (x : Int) (w : World) (hx : x = n) (hn : n < 18446744073709551616) :
  Calls Tryz.prog 12 #[.int .u64 x] w fun e w' => e = .returned (.string (dec n)) ∧ w = w' := by
 subst hx
 exact decimal_any n w hn
theorem secs_size {n : Nat} (h : n < 1000000) : (secs n).size ≤ 24 := by
 have h1 := dec_le (n := n / 8) (by omega)
 have h2 := dec_one (n := n % 8 * 125 / 100) (by omega)
 have h3 := dec_one (n := n % 8 * 125 / 10 % 10) (by omega)
 have h4 := dec_one (n := n % 8 * 125 % 10) (by omega)
 unfold secs
 simp only [ByteArray.size_append', ByteArray.size_mk']
 simp
 omega
theorem seconds_any (n : Nat) (w : World) (hn : n < 1000000) :
  Calls Tryz.prog 31 #[.int .i64 n] w fun e w' => e = .returned (.string (secs n)) ∧ w = w' := by
 have h1 := dec_le (n := n / 8) (by omega)
 have h2 := dec_one (n := n % 8 * 125 / 100) (by omega)
 have h3 := dec_one (n := n % 8 * 125 / 10 % 10) (by omega)
 have h4 := dec_one (n := n % 8 * 125 % 10) (by omega)
 go_enter Tryz.func31, Tryz.ntmps31
 go_wp2_with fail
 refine (decimal_of (n / 8) _ _ (by omega) (by omega)).mono ?_
 rintro e w' ⟨rfl, rfl⟩
 go_wp2_with (first | (refine arm_add 9 Tryz.underlying9 rfl rfl ?_ ?_; · (simp only [ByteArray.size_append', ByteArray.size_mk', List.size_toArray, List.length_cons, List.length_nil]; omega)))
 refine (decimal_of (n % 8 * 125 / 100) _ _ (by omega) (by omega)).mono ?_
 rintro e w' ⟨rfl, rfl⟩
 go_wp2_with (first | (refine arm_add 9 Tryz.underlying9 rfl rfl ?_ ?_; · (simp only [ByteArray.size_append', ByteArray.size_mk', List.size_toArray, List.length_cons, List.length_nil]; omega)))
 refine (decimal_of (n % 8 * 125 / 10 % 10) _ _ (by push_cast; rfl) (by omega)).mono ?_
 rintro e w' ⟨rfl, rfl⟩
 go_wp2_with (first | (refine arm_add 9 Tryz.underlying9 rfl rfl ?_ ?_; · (simp only [ByteArray.size_append', ByteArray.size_mk', List.size_toArray, List.length_cons, List.length_nil]; omega)))
 refine (decimal_of (n % 8 * 125 % 10) _ _ (by omega) (by omega)).mono ?_
 rintro e w' ⟨rfl, rfl⟩
 go_wp2_with (first | (refine arm_add 9 Tryz.underlying9 rfl rfl ?_ ?_; · (simp only [ByteArray.size_append', ByteArray.size_mk', List.size_toArray, List.length_cons, List.length_nil]; omega)))
 go_ret
 exact ⟨rfl, rfl⟩
def attr (name value : ByteArray) (quotes : Bool) : ByteArray := if quotes then name ++ ⟨#[61, 34]⟩ ++ value ++ ⟨#[34]⟩ else name ++ ⟨#[61]⟩ ++ value
theorem attr_size (name value : ByteArray) (q : Bool) : (attr name value q).size ≤ name.size + value.size + 3 := by
 unfold attr
 split <;> (simp only [ByteArray.size_append', ByteArray.size_mk', List.size_toArray, List.length_cons, List.length_nil]; omega)
def wordByte (b : UInt8) : Bool := [97, 98, 99, 100, 101, 102, 103, 88, 89, 90, 48, 49, 56, 57, 46, 95, 45, 47, 32, 58, 119].contains b
structure Word (k : Nat) (s : ByteArray) : Prop where
 size : s.size ≤ k
 bytes : ∀ b ∈ s.data.toList, wordByte b = true
 first : ∀ b, s.data.toList.head? = some b → b ≠ 32
 last : ∀ b, s.data.toList.getLast? = some b → b ≠ 32
def SomeWord (k : Nat) (w : World) (e : Ending) (w' : World) : Prop := ∃ s, Word k s ∧ e = .returned (.string s) ∧ w = w'
theorem alphabet_at (i : Nat) (h : i < 20) : ∃ b : UInt8, (⟨#[97, 98, 99, 100, 101, 102, 103, 88, 89, 90, 48, 49, 56, 57, 46, 95, 45, 47, 32, 58]⟩ : ByteArray).data[i]? = some b ∧ wordByte b = true ∧ b.toNat < 128 := by
 have : ∀ j : Fin 20, ∃ b : UInt8, (⟨#[97, 98, 99, 100, 101, 102, 103, 88, 89, 90, 48, 49, 56, 57, 46, 95, 45, 47, 32, 58]⟩ : ByteArray).data[j.val]? = some b ∧ wordByte b = true ∧ b.toNat < 128 := by
  intro j
  refine ⟨_, Array.getElem?_eq_getElem (by simp), ?_⟩
  revert j
  decide +kernel
 exact this ⟨i, h⟩
theorem alphabet_of {i : Nat} {b : UInt8} (h : (⟨#[97, 98, 99, 100, 101, 102, 103, 88, 89, 90, 48, 49, 56, 57, 46, 95, 45, 47, 32, 58]⟩ : ByteArray).data[i]? = some b) : Hid (wordByte b = true) ∧ b.toNat < 128 := by
 have hi : i < 20 := by
  rcases Nat.lt_or_ge i 20 with h1 | h1
  ·exact h1
  ·rw [Array.getElem?_eq_none (by simpa using h1)] at h; cases h
 obtain ⟨b', h1, h2, h3⟩ := alphabet_at i hi
 rw [h] at h1
 obtain rfl := Option.some.inj h1
 exact ⟨h2, h3⟩
theorem grow_word {s : ByteArray} {b : UInt8} {k : Nat} (hs : s.size = k) (h : ∀ c ∈ s.data.toList, wordByte c = true) (hb : wordByte b = true) :
  (s ++ ⟨#[b]⟩ : ByteArray).size = k + 1 ∧ ∀ c ∈ (s ++ ⟨#[b]⟩ : ByteArray).data.toList, wordByte c = true := by
 refine ⟨by rw [ByteArray.size_append', hs]; rfl, fun c hc => ?_⟩
 rw [ByteArray.data_append] at hc
 simp at hc
 rcases hc with hc | hc
 ·exact h c (by simpa using hc)
 ·rw [hc]; exact hb
theorem len_data (s : ByteArray) : s.data.toList.length = s.size := by rw [Array.length_toList]; rfl
theorem data_nil {s : ByteArray} (h : s.size = 0) : s.data.toList = [] := List.eq_nil_of_length_eq_zero (by rw [len_data]; exact h)
theorem toList_nil {s : ByteArray} (h : s.size = 0) : s.toList = [] := by rw [ByteArray.toList_eq]; exact data_nil h
theorem toList_ne {s : ByteArray} (h : 0 < s.size) : ¬ s.toList = [] := by
 rw [ByteArray.toList_eq]
 intro e
 have := len_data s
 rw [e] at this
 simp at this
 omega
theorem word_nil {s : ByteArray} (h : s.size = 0) : Word 20 s := by
 have := data_nil h
 exact ⟨by omega, by simp [this], by simp [this], by simp [this]⟩
theorem word_long {s : ByteArray} {k : Nat} (hs : s.size = k) (hk : k ≤ 15) (hb : ∀ b ∈ s.data.toList, wordByte b = true) : Word 20 (⟨#[119]⟩ ++ s ++ ⟨#[119]⟩) := by
 have e : (⟨#[119]⟩ ++ s ++ ⟨#[119]⟩ : ByteArray).data.toList = 119 :: (s.data.toList ++ [119]) := by simp [ByteArray.data_append]
 refine ⟨?_, ?_, ?_, ?_⟩
 ·rw [← len_data, e]; simp [len_data]; omega
 ·intro b h
  rw [e] at h
  simp at h
  rcases h with rfl | h | rfl
  ·decide
  ·exact hb b (by simpa using h)
  ·decide
 ·intro b h; rw [e] at h; simp at h; subst h; decide
 ·intro b h
  rw [e, ← List.cons_append] at h
  rw [List.getLast?_append] at h
  simp at h; subst h; decide
theorem word_plain {s : ByteArray} {k : Nat} (hs : s.size = k) (hk : k ≤ 15) (hb : ∀ b ∈ s.data.toList, wordByte b = true) (hpos : 0 < s.size) (h1 : ¬ (((s[0]'hpos).toNat : Nat) : Int) = 32)
  (h2 : ¬ (((s[s.size - 1]'(by omega)).toNat : Nat) : Int) = 32) : Word 20 s := by
 have hl := len_data s
 refine ⟨by omega, hb, ?_, ?_⟩
 ·intro b h e
  subst e
  rw [List.head?_eq_getElem?, List.getElem?_eq_getElem (by omega)] at h
  have : s[0] = 32 := by
   have h3 := Option.some.inj h
   rw [Array.getElem_toList] at h3
   exact h3
  rw [this] at h1
  exact h1 rfl
 ·intro b h e
  subst e
  rw [List.getLast?_eq_getElem?, List.getElem?_eq_getElem (by omega)] at h
  have : s[s.size - 1] = 32 := by
   have h3 := Option.some.inj h
   simp only [hl, Array.getElem_toList] at h3
   exact h3
  rw [this] at h2
  exact h2 rfl
theorem wordOf_any (n least : Nat) (w : World) (hn : n < 4294967296) (hl : least ≤ 4) :
  Calls Tryz.prog 25 #[.int .u32 n, .int .i64 least] w (SomeWord 20 w) := by
 go_enter Tryz.func25, Tryz.ntmps25
 go_wp2
 go_loop [5, 12] (fun o i => ∃ k : Nat, k ≤ least + n % 12 ∧ i = .int .i64 k ∧ ∃ s : ByteArray, o = .string s ∧ s.size = k ∧ ∀ b ∈ s.data.toList, wordByte b = true) (fun _ i => (least + n % 12) - (intOf i).toNat)
 case atStart => exact ⟨0, Nat.zero_le _, rfl, _, rfl, rfl, by simp⟩
 case round =>
  obtain ⟨k, hk, rfl, s, rfl, hs, hb⟩ := hrel
  by_cases hlt : k < least + n % 12
  ·go_wp2_with (first | (refine arm_index 9 Tryz.underlying9 rfl rfl ?_ ?_ ?_; (· omega); (· (simp only [ByteArray.size_mk', List.size_toArray, List.length_cons, List.length_nil]; omega)); intro b hbd; obtain ⟨hb1, hb2⟩ := alphabet_of hbd; clear hbd) | (refine arm_chr1 9 Tryz.underlying9 21 (by kernel_rfl) rfl ?_ ?_ ?_; (· omega); (· omega)) | (refine arm_add 9 Tryz.underlying9 rfl rfl ?_ ?_; (· (simp only [ByteArray.size_append', ByteArray.size_mk', List.size_toArray, List.length_cons, List.length_nil]; omega))))
   go_round
   case rel => exact ⟨k + 1, by omega, by go_num, _, rfl, grow_word hs hb hb1.out⟩
   case measure => simp [intOf]; omega
  ·have hk16 : k ≤ 15 := by omega
   rcases Nat.eq_zero_or_pos k with h0 | hpos
   ·have hnil : s.toList = [] := toList_nil (by omega)
    have HS := Lib.hid hs
    clear hs
    subst h0
    go_wp2_with fail
    go_ret
    exact ⟨s, word_nil HS.out, rfl, rfl⟩
   ·have hne : ¬ s.toList = [] := toList_ne (by omega)
    have HB := Lib.hid hb
    clear hb
    go_wp2_with fail
    all_goals go_ret
    ·exact ⟨_, word_long hs hk16 HB.out, rfl, rfl⟩
    ·exact absurd (by simpa using ‹(!s.toList.isEmpty) = false›) hne
    ·exact ⟨_, word_long hs hk16 HB.out, rfl, rfl⟩
    ·rename_i h1 _ _ h2
     rcases h2 with h2 | ⟨_, h2⟩
     ·exact absurd (by simpa using h2) hne
     ·subst hs
      exact ⟨_, word_plain rfl hk16 HB.out hpos (by assumption) (by simpa using h2), rfl, rfl⟩
def IsUri (u : ByteArray) : Prop := ∃ s, Word 20 s ∧ u = ⟨#[117]⟩ ++ s ++ ⟨#[46, 116, 115]⟩
theorem IsUri.size {u : ByteArray} (h : IsUri u) : u.size ≤ 24 := by
 obtain ⟨s, hs, rfl⟩ := h
 have := hs.size
 simp only [ByteArray.size_append', ByteArray.size_mk', List.size_toArray, List.length_cons, List.length_nil]; omega
def SomeUri (w : World) (e : Ending) (w' : World) : Prop := ∃ u, IsUri u ∧ e = .returned (.string u) ∧ w = w'
theorem uriOf_any (n : Nat) (w : World) (hn : n < 4294967296) :
  Calls Tryz.prog 24 #[.int .u32 n] w (SomeUri w) := by
 go_enter Tryz.func24, Tryz.ntmps24
 go_wp2_with fail
 refine (wordOf_any n 1 _ hn (by omega)).mono ?_
 rintro e w' ⟨s, hs, rfl, rfl⟩
 have hz := hs.size
 go_wp2_with (first | (refine arm_add 9 Tryz.underlying9 rfl rfl ?_ ?_; (· (simp only [ByteArray.size_append', ByteArray.size_mk', List.size_toArray, List.length_cons, List.length_nil]; omega))))
 go_ret
 exact ⟨_, ⟨s, hs, rfl⟩, rfl, rfl⟩
structure Vt where
 uri : ByteArray
 program : Nat
 bandwidth : Nat
 average : Nat
 codecs : ByteArray
 width : Nat
 height : Nat
 audio : ByteArray
 video : ByteArray
 subtitles : ByteArray
 captions : ByteArray
 name : ByteArray
 rate : Nat
def Vt.cells (v : Vt) : Array Value := #[.string v.uri, .int .u32 v.program, .int .u32 v.bandwidth, .int .u32 v.average, .string v.codecs, .int .u32 v.width, .int .u32 v.height, .string v.audio, .string v.video, .string v.subtitles, .string v.captions, .string v.name, .int .i64 v.rate]
def flat {α : Type} (f : α → List Value) (L : List α) : List Value := (L.map f).flatten
theorem flat_length {α : Type} {f : α → List Value} {k : Nat} (hf : ∀ x, (f x).length = k) (L : List α) : (flat f L).length = L.length * k := by
 unfold flat
 induction L with
 | nil => simp
 | cons x L ih => simp only [List.map_cons, List.flatten_cons, List.length_append, hf, ih, List.length_cons]; rw [Nat.add_mul]; omega
theorem flat_snoc {α : Type} (f : α → List Value) (L : List α) (x : α) : flat f (L ++ [x]) = flat f L ++ f x := by simp [flat]
def Own {α : Type} (f : α → List Value) (e : TypeId) (k : Nat) (w : World) (B : Nat) (v : Value) (L : List α) : Prop := w.ownsRow B e k v L.length (flat f L)
section
variable {α : Type} {f : α → List Value} {e : TypeId} {k : Nat} {w w' : World} {B : Nat} {v : Value} {L : List α}
theorem Own.nil (f : α → List Value) (e : TypeId) (k : Nat) (w : World) (B : Nat) : Own f e k w B (.slice none 0 0) ([] : List α) := ⟨by simp [flat], .inl ⟨rfl, rfl⟩⟩
theorem Own.below (h : Own f e k w B v L) (hb : Below w.heap.size w w') : Own f e k w' B v L :=
 h.kept (row := none) ⟨hb.os, hb.tape, hb.output, hb.size, fun i hi _ => hb.block i hi⟩ (by cases v.ownBlock <;> simp)
theorem Own.block_lt (h : Own f e k w B v L) : ∀ g, v.ownBlock = some g → B ≤ g ∧ g < w.heap.size := by
 intro g hg
 rcases h.2 with ⟨rfl, _⟩ | ⟨g', cap, cur, rfl, hb, hh, _⟩
 ·simp [Value.ownBlock] at hg
 ·have : g' = g := by simpa [Value.ownBlock] using hg
  subst this
  exact ⟨hb, (Array.getElem?_eq_some_iff.1 hh).1⟩
theorem Own.only {M : Nat → Prop} (h : Own f e k w B v L) (ho : Only M w w') (hm : ∀ g, v.ownBlock = some g → ¬ M g) : Own f e k w' B v L := by
 refine ⟨h.1, ?_⟩
 rcases h.2 with h2 | ⟨g, cap, cur, rfl, hb, hh, r⟩
 ·exact .inl h2
 ·exact .inr ⟨g, cap, cur, rfl, hb, (ho.block g (Array.getElem?_eq_some_iff.1 hh).1 (hm g rfl)).trans hh, r⟩
theorem Own.fresh {g n : Nat} {cs : List Value} (hf : ∀ x, (f x).length = k) (hh : w.heap[g]? = some (.cells cs.toArray e (0, 0))) (hB : B ≤ g) (hL : cs = flat f L) (hn : n = L.length) (hm : n ≤ maxLen) : Own f e k w B (.slice (some ⟨g, 0, none⟩) n n) L := by
 subst hn hL
 refine ⟨flat_length hf L, .inr ⟨g, L.length, _, rfl, hB, hh, Nat.le_refl _, hm, by simp [flat_length hf], ?_⟩⟩
 rw [List.take_of_length_le (by simp [flat_length hf])]
theorem Own.form (h : Own f e k w B v L) (hL : L ≠ []) : ∃ g cap cur, v = .slice (some ⟨g, 0, none⟩) L.length cap ∧ B ≤ g ∧ w.heap[g]? = some (.cells cur e (0, 0)) ∧ L.length ≤ cap ∧ cur.toList.take (L.length * k) = flat f L := by
 rcases h.2 with ⟨_, h0⟩ | ⟨g, cap, cur, hv, hb, hh, h1, h2, h3, h4⟩
 ·exact absurd (List.eq_nil_of_length_eq_zero h0) hL
 ·exact ⟨g, cap, cur, hv, hb, hh, h1, h4⟩
end
section
variable {P : Program} {ops : Array Oper} {rest : List Oper} {a : Act} {w : World} {Q : Exit → Act → World → Prop}
end
def U32s (w : World) (A : Option Addr) (len : Nat) : Prop := ∀ j, j < len → ∃ (a : Addr) (x : Nat), A = some a ∧ w.cell? (a.add j) = some (.int .u32 x) ∧ x < 4294967296
theorem U32s.below {w w' : World} {A : Option Addr} {len : Nat} (h : U32s w A len) (hb : Below w.heap.size w w') : U32s w' A len := fun j hj => by
 obtain ⟨a, x, ha, hc, hx⟩ := h j hj
 refine ⟨a, x, ha, ?_, hx⟩
 rw [World.cell?_of_block (w := w)]
 ·exact hc
 ·exact hb.block _ (World.block_lt_of_cell? w _ hc)
theorem cell_of_heap {w : World} {g i : Nat} {cs : Array Value} {t : TypeId} {fr : Nat × Nat} {v : Value} (h : w.heap[g]? = some (.cells cs t fr)) (hv : cs[i]? = some v) : w.cell? ⟨g, i, none⟩ = some v := by simp [World.cell?, h, hv]
theorem wraps_u32 (n : Int) (h₀ : 0 ≤ n) (h₁ : n < 2 ^ 32) : IntKind.u32.wrap n = n := by rw [IntKind.wrap_u32]; omega
theorem u32_and1 {x : Int} (h0 : 0 ≤ x) (h1 : x < 4294967296) : bits .and .u32 x 1 = x % 2 := bits_mask .u32 32 (by decide) wraps_u32 1 (by decide) x h0 (by omega)
theorem u32_and3 {x : Int} (h0 : 0 ≤ x) (h1 : x < 4294967296) : bits .and .u32 x 3 = x % 4 := bits_mask .u32 32 (by decide) wraps_u32 2 (by decide) x h0 (by omega)
section
variable {α β : Type} {f : α → List Value} {f' : β → List Value} {e e' : TypeId} {k k' : Nat} {w w' : World} {B B' : Nat} {v v' : Value} {L : List α} {L' : List β}
theorem Own.at_heap (h : Own f e k w B v L) (hb : ∀ g, v.ownBlock = some g → w'.heap[g]? = w.heap[g]?) : Own f e k w' B v L := by
 refine ⟨h.1, ?_⟩
 rcases h.2 with h2 | ⟨g, cap, cur, rfl, hB, hh, r⟩
 ·exact .inl h2
 ·exact .inr ⟨g, cap, cur, rfl, hB, (hb g rfl).trans hh, r⟩
theorem Own.elem (h : Own f e k w B v L) : ∀ g, v.ownBlock = some g → ∃ cur, w.heap[g]? = some (.cells cur e (0, 0)) := by
 intro g hg
 rcases h.2 with ⟨rfl, _⟩ | ⟨g', cap, cur, rfl, hb, hh, _⟩
 ·simp [Value.ownBlock] at hg
 ·have : g' = g := by simpa [Value.ownBlock] using hg
  subst this
  exact ⟨cur, hh⟩
end
theorem Own.slice {α : Type} {f : α → List Value} {e : TypeId} {k : Nat} {w : World} {B : Nat} {v : Value} {L : List α} (h : Own f e k w B v L) : ∃ p l c, v = .slice p l c := by
 rcases h.2 with ⟨rfl, _⟩ | ⟨g', cap, cur, rfl, _⟩ <;> exact ⟨_, _, _, rfl⟩
theorem Only.of_setCell (w : World) (p : Addr) (v : Value) : Only (fun g => g = p.block) w (w.setCell p v) :=
 ⟨rfl, rfl, rfl, by simp [World.setCell], fun g _ hg => Below.heap_setCell _ _ _ _ hg⟩
theorem heap_setCell_same {w : World} {g i : Nat} {cs : Array Value} {t : TypeId} {fr : Nat × Nat} (h : w.heap[g]? = some (.cells cs t fr)) (v : Value) : (w.setCell ⟨g, i, none⟩ v).heap[g]? = some (.cells (cs.setIfInBounds i v) t fr) := by
 simp [World.setCell, Array.getElem?_modify, h]
section
variable {P : Program} {ops : Array Oper} {a : Act} {w : World} {E : Nat → Nat → Prop} {Φ : Nat → Value → World → Prop} {i : Nat} {Q : Exit → Act → World → Prop}
end
section
variable {P : Program} {ops : Array Oper} {rest : List Oper} {a : Act} {w : World} {Q : Exit → Act → World → Prop} {dst : Option Tmp} {ty : TypeId} {pos : String} {after : Array Edge}
theorem run_load_blk (t : TypeId) (hagg : ∀ w, (isAgg t).run P w = .ok true w) {k : Nat} (hk : ∀ w, (sizeOf t).run P w = .ok k w) {g : Nat} {cs : Array Value} {e : TypeId} {fr : Nat × Nat} (hg : w.heap[g]? = some (.cells cs e fr)) (hsz : cs.size = k) :
  (loadVar t ⟨g, 0, none⟩).run P w = .ok (.agg cs) w := by
 have := run_loadCells_list (P := P) (w := w) ⟨g, 0, none⟩ cs.toList (fun j v hj => by
  have : (⟨g, 0, none⟩ : Addr).add j = ⟨g, j, none⟩ := by unfold Addr.add; split <;> simp_all
  rw [this]
  simp only [World.cell?, hg]
  simpa using hj)
 simp only [Array.length_toList, hsz] at this
 simp [loadVar, hagg, hk, this]
theorem run_store_blk (t : TypeId) (hagg : ∀ w, (isAgg t).run P w = .ok true w) {k : Nat} (hk : ∀ w, (sizeOf t).run P w = .ok k w) {g : Nat} {old cs : Array Value} {e : TypeId} (hg : w.heap[g]? = some (.cells old e (0, 0))) (hsz : cs.size = k) (hso : old.size = k) (h1 : ∀ u ∈ cs.toList, u.oneCell' = true) :
  (storeVar t ⟨g, 0, none⟩ (.agg cs)).run P w = .ok () (w.setRow g cs) := by
 have := run_storeCells_at (P := P) g 0 e cs.toList 0 old w hg (by simp; omega) h1
 have h2 : (old.toList.take (0 + 0) ++ cs.toList ++ old.toList.drop (0 + 0 + cs.toList.length)).toArray = cs := by
  rw [List.drop_eq_nil_of_le (by simp; omega)]
  simp
 rw [h2] at this
 simp [storeVar, hk, Value.cells, hsz, this]
theorem arm_store_blk (t : TypeId) (hagg : ∀ w, (isAgg t).run P w = .ok true w) {k : Nat} (hk : ∀ w, (sizeOf t).run P w = .ok k w) {x y : Operand} {g : Nat} {old cs : Array Value} {e : TypeId} (hx : a.eval x = .pointer (some ⟨g, 0, none⟩)) (hy : a.eval y = .agg cs) (hg : w.heap[g]? = some (.cells old e (0, 0))) (hsz : cs.size = k) (hso : old.size = k) (h1 : ∀ u ∈ cs.toList, u.oneCell' = true)
  (hK : ∀ w', w'.heap[g]? = some (.cells cs e (0, 0)) → Only (fun g' => g' = g) w w' → wpList P ops Q rest a w') : wpList P ops Q ({ dst := none, op := Op.store t x y, type := ty, pos := pos, after := after, guard := none } :: rest) a w := by
 refine wpList_plain rfl fun K hK' => ?_
 have hr := run_store_blk (P := P) (w := w) t hagg hk hg hsz hso h1
 unfold Oper.wp
 simp [execOp, hx, hy, Instr.storeAt, Instr.sureAddr, hr]
 refine hK' _ _ (hK _ (setRow_heap w g old cs e (0, 0) hg) ⟨rfl, rfl, rfl, by simp [World.setRow], fun g' hg' hne => ?_⟩)
 simp only [World.setRow, Array.getElem?_modify]
 rw [if_neg (fun h => hne h.symm)]
end
section
variable {P : Program} {ops : Array Oper} {rest : List Oper} {a : Act} {w w' : World} {Q : Exit → Act → World → Prop} {v : Value} {o : Oper}
theorem arm_run (hg : o.guard = none) (hr : (execOp a.eval o).run P w = .ok (.value v) w') (hK : wpList P ops Q rest (a.put o.dst v) w') : wpList P ops Q (o :: rest) a w := by
 refine wpList_plain hg fun K hK' => ?_
 unfold Oper.wp
 rw [hr]
 exact hK' _ _ hK
theorem arm_skip (hg : o.guard = none) (hd : o.dst = none) (hr : (execOp a.eval o).run P w = .ok .skip w') (hK : wpList P ops Q rest a w') : wpList P ops Q (o :: rest) a w := by
 refine wpList_plain hg fun K hK' => ?_
 unfold Oper.wp
 rw [hr]
 have e : a.put o.dst undef = a := by rw [hd]; rfl
 exact hK' _ _ (e.symm ▸ hK)
theorem ev_ne {d t : Nat} (h : d ≠ t) : (a.put (some d) v).eval (.tmp t) = a.eval (.tmp t) := Act.eval_put (by intro d' hd' e; cases hd'; cases e; exact h rfl)
theorem ev_eq {d : Nat} (h : d < a.tmps.size) : (a.put (some d) v).eval (.tmp d) = v := by simp [Act.eval, Act.put, h]
end
theorem Own.base {α : Type} {f : α → List Value} {e : TypeId} {k : Nat} {w : World} {B B' : Nat} {v : Value} {L : List α} (h : Own f e k w B v L) (hB : B' ≤ B) : Own f e k w B' v L := by
 refine ⟨h.1, ?_⟩
 rcases h.2 with h2 | ⟨g, cap, cur, hv, hb, r⟩
 ·exact .inl h2
 ·exact .inr ⟨g, cap, cur, hv, by omega, r⟩
theorem frozen_of_heap {w : World} {g i : Nat} {cs : Array Value} {t : TypeId} {v : Value} (h : w.heap[g]? = some (.cells cs t (0, 0))) (hv : cs[i]? = some v) : w.frozen? ⟨g, i, none⟩ = false := by simp [World.frozen?, h]
section
variable {ops : Array Oper} {rest : List Oper} {a : Act} {Q : Exit → Act → World → Prop} {ty0 ty1 ty2 ty3 ty4 ty5 ty6 ty7 ty8 ty9 ty10 ty11 : TypeId} {pos0 pos1 pos2 pos3 pos4 pos5 pos6 pos7 pos8 pos9 pos10 pos11 : String} {aft0 aft1 aft2 aft3 aft4 aft5 aft6 aft7 aft8 aft9 aft10 aft11 : Array Edge}
end
structure Fr (N m0 : Nat) (f : Nat → Value) (a : Act) : Prop where
 size : a.tmps.size = N
 defers : a.defers = []
 low : ∀ t, t < m0 → a.eval (.tmp t) = f t
theorem Fr.put {N m0 d : Nat} {f : Nat → Value} {a : Act} {v : Value} (h : Fr N m0 f a) (hd : m0 ≤ d) : Fr N m0 f (a.put (some d) v) :=
 ⟨by simp [Act.put, h.size], by simp [Act.put, h.defers], fun t ht => by rw [ev_ne (by omega)]; exact h.low t ht⟩
def Tr (N m0 : Nat) (f : Nat → Value) (W : List UInt8 → World → Prop) (lim : Nat) (c : Code) (l : List UInt8) : Prop :=
 ∀ s a w, Fr N m0 f a → W s w → s.length + l.length ≤ lim → ∀ Q : Exit → Act → World → Prop, (∀ a' w', Fr N m0 f a' → W (s ++ l) w' → Q .normal a' w') → c.wp Tryz.prog Q a w
def Ts (N m0 : Nat) (f : Nat → Value) (W : List UInt8 → World → Prop) (c : Code) (t : Nat) (v : Value) : Prop :=
 ∀ s a w, Fr N m0 f a → W s w → ∀ Q : Exit → Act → World → Prop, (∀ a' w', Fr N m0 f a' → W s w' → a'.eval (.tmp t) = v → Q .normal a' w') → c.wp Tryz.prog Q a w
section
variable {N m0 : Nat} {f : Nat → Value} {W : List UInt8 → World → Prop} {lim : Nat}
theorem Tr.seq {c d : Code} {l m : List UInt8} (h1 : Tr N m0 f W lim c l) (h2 : Tr N m0 f W lim d m) : Tr N m0 f W lim (c.seq d) (l ++ m) := by
 intro s a w hf hw hlim Q hQ
 rw [List.length_append] at hlim
 refine wp_seq (h1 s a w hf hw (by omega) _ fun a' w' hf' hw' => ?_)
 exact h2 _ a' w' hf' hw' (by simp only [List.length_append]; omega) _ fun a'' w'' hf'' hw'' => hQ _ _ hf'' (by rw [← List.append_assoc]; exact hw'')
theorem Tr.skip : Tr N m0 f W lim .skip [] := fun s a w hf hw _ Q hQ => wp_skip (hQ a w hf (by rw [List.append_nil]; exact hw))
theorem Tr.ite {c d e : Code} {t : Nat} {b : Bool} {l m : List UInt8} (h : Ts N m0 f W c t (.bool b)) (h1 : b = true → Tr N m0 f W lim d l) (h2 : b = false → Tr N m0 f W lim e m) :
  Tr N m0 f W lim (c.seq (.cond (.tmp t) d e)) (if b = true then l else m) := by
 intro s a w hf hw hlim Q hQ
 refine wp_seq (h s a w hf hw _ fun a' w' hf' hw' ht => ?_)
 refine wp_cond_split ht (fun hb => ?_) (fun hb => ?_)
 ·rw [if_pos hb] at hlim hQ; exact h1 hb _ a' w' hf' hw' hlim _ hQ
 ·rw [if_neg (by rw [hb]; decide)] at hlim hQ; exact h2 hb _ a' w' hf' hw' hlim _ hQ
theorem Tr.opt {c d : Code} {t : Nat} {b : Bool} {l : List UInt8} (h : Ts N m0 f W c t (.bool b)) (h1 : b = true → Tr N m0 f W lim d l) :
  Tr N m0 f W lim (c.seq (.cond (.tmp t) d .skip)) (if b = true then l else []) := Tr.ite h h1 fun _ => Tr.skip
theorem Tr.congr {c : Code} {l m : List UInt8} (h : Tr N m0 f W lim c l) (e : l = m) : Tr N m0 f W lim c m := e ▸ h
variable {ops : Array Oper} {rest : List Oper} {a : Act} {w : World} {Q : Exit → Act → World → Prop} {s : List UInt8} {o : Oper} {x : Operand} {u v : Value}
variable {d : Option Nat} {ty : TypeId} {ps : String} {af : Array Edge} {t : Nat}
theorem run_andValue {sm : Sem Value} (h : sm.run Tryz.prog w = .ok v w) : (do pure (Next.value (← sm)) : Sem Next).run Tryz.prog w = .ok (.value v) w := by
 simp [h, Result.andThen]
end
def lowOk (ops : Array Oper) (m0 : Nat) : Bool := ops.toList.all fun o => match o.dst with | some d => decide (m0 ≤ d) | none => true
theorem lowOk_spec {ops : Array Oper} {m0 : Nat} (h : lowOk ops m0 = true) {j : Nat} {o : Oper} {d : Nat} (ho : ops[j]? = some o) (hd : o.dst = some d) : m0 ≤ d := by
 unfold lowOk at h
 rw [List.all_eq_true] at h
 have := h o (by have := Array.mem_of_getElem? ho; simpa using this)
 rw [hd] at this
 simpa using this
theorem OgCtx.outLow {ops : Array Oper} {a0 a : Act} {w0 w : World} {E : Nat → Nat → Prop} {Φ : Nat → Value → World → Prop} {i m0 t : Nat} (c : OgCtx ops a0 w0 E Φ i a w) (h : lowOk ops m0 = true) (ht : t < m0) : a.eval (.tmp t) = a0.eval (.tmp t) := by
 have := c.out t (fun j o hj hd => by have := lowOk_spec h hj hd; omega)
 simp only [Act.eval, Array.getD_eq_getD_getElem?, this]
theorem OgHead.outLow {ops : Array Oper} {m : Nat} {a0 a : Act} {w0 w : World} {E : Nat → Nat → Prop} {Φ : Nat → Value → World → Prop} {m0 t : Nat} (c : OgHead ops m a0 w0 E Φ a w) (h : lowOk ops m0 = true) (ht : t < m0) : a.eval (.tmp t) = a0.eval (.tmp t) := by
 have := c.out t (fun j o _ hj hd => by have := lowOk_spec h hj hd; omega)
 simp only [Act.eval, Array.getD_eq_getD_getElem?, this]
theorem OgHead.fr {ops : Array Oper} {m : Nat} {a0 a : Act} {w0 w : World} {E : Nat → Nat → Prop} {Φ : Nat → Value → World → Prop} {N m0 : Nat} {f : Nat → Value} (c : OgHead ops m a0 w0 E Φ a w) (h : lowOk ops m0 = true) (hf : Fr N m0 f a0) : Fr N m0 f a :=
 ⟨c.size.trans hf.size, c.defers.trans hf.defers, fun t ht => (c.outLow h ht).trans (hf.low t ht)⟩
theorem OgEnd.outLow {ops : Array Oper} {a0 a : Act} {w0 w : World} {E : Nat → Nat → Prop} {Φ : Nat → Value → World → Prop} {m0 t : Nat} (c : OgEnd ops a0 w0 E Φ a w) (h : lowOk ops m0 = true) (ht : t < m0) : a.eval (.tmp t) = a0.eval (.tmp t) := by
 have := c.out t (fun j o hj hd => by have := lowOk_spec h hj hd; omega)
 simp only [Act.eval, Array.getD_eq_getD_getElem?, this]
end Go.Proofs.YtflppablgdegcaaGreatDoor
namespace Go.Proofs.YtflppablgdegcaaGreatDoor

end Go.Proofs.YtflppablgdegcaaGreatDoor
namespace Go.Proofs.YtflppablgdegcaaGreatDoor
open Go.RowKit
def EW (T : TypeId) (R : Nat → Option Value) (B pb o : Nat) (w0 : World) (s : List UInt8) (w : World) : Prop :=
 LibA.IsBuffer T R 5 B pb o (Lib.byteCells s) w ∧ Below B w0 w ∧ Lib.OthersKept 5 (some pb) w0 w
section
variable {T : TypeId} {R : Nat → Option Value} {B pb o : Nat} {w0 w w' : World} {s : List UInt8}
theorem EW.lt (h : EW T R B pb o w0 s w) : B ≤ pb ∧ pb < w.heap.size := ⟨h.1.1, h.1.lt⟩
theorem kept_below {e : TypeId} {b : Option Nat} (h : Below w.heap.size w w') : Lib.OthersKept e b w w' := fun k o hk _ _ => by
 rw [h.block k (Array.getElem?_eq_some_iff.1 hk).1]; exact hk
theorem EW.below (h : EW T R B pb o w0 s w) (hb : Below w.heap.size w w') : EW T R B pb o w0 s w' :=
 ⟨h.1.old hb, h.2.1.trans (hb.mono (by have := h.lt; omega)), h.2.2.trans (kept_below hb)⟩
theorem EW.cells (h : EW T R B pb o w0 s w) {g : Nat} {cs : Array Value} {t : TypeId} {fr : Nat × Nat} (hg : w0.heap[g]? = some (.cells cs t fr)) (ht : t ≠ 5) (hp : g ≠ pb) : w.heap[g]? = some (.cells cs t fr) :=
 h.2.2 g _ hg (fun e => hp (Option.some.inj e)) (fun c fz e => by injection e with _ e2 _; exact ht e2)
theorem EW.refl (h : LibA.IsBuffer T R 5 B pb o (Lib.byteCells s) w) : EW T R B pb o w s w := ⟨h, Below.refl _ _, Lib.OthersKept.refl _ _ _⟩
theorem EW.rebase {s' : List UInt8} (h : EW T R B pb o w0 s w) (h1 : EW T R B pb o w s' w') : EW T R B pb o w0 s' w' := ⟨h1.1, h.2.1.trans h1.2.1, h.2.2.trans h1.2.2⟩
end
set_option maxRecDepth 100000
abbrev pt (g k : Nat) : Value := .pointer (some ⟨g, k, none⟩)
def Ld (T : Nat) : Prop := ∀ w p v, w.cell? p = some v → (Instr.loadAt T (.pointer (some p))).run Tryz.prog w = .ok v w
def ne (s : ByteArray) : Bool := !s.data.toList.isEmpty
theorem ld_string : Ld 9 := by intro w p v h; go_simp
theorem ld_u32 : Ld 23 := by intro w p v h; go_simp
structure Ev (N : Nat) (l : List (Nat × Value)) (a : Act) : Prop where
 size : a.tmps.size = N
 defers : a.defers = []
 look : ∀ t v, l.lookup t = some v → a.eval (.tmp t) = v
theorem Ev.get {N : Nat} {l : List (Nat × Value)} {a : Act} (h : Ev N l a) (t : Nat) {v : Value} (hl : l.lookup t = some v) : a.eval (.tmp t) = v := h.look t v hl
theorem look_ne {l : List (Nat × Value)} {t d : Nat} {v : Value} (h : t ≠ d) : ((d, v) :: l).lookup t = l.lookup t := by
 rw [List.lookup_cons]
 have e' : (t == d) = false := by simpa using h
 rw [e']
theorem look_eq {l : List (Nat × Value)} {t : Nat} {v : Value} : ((t, v) :: l).lookup t = some v := by
 rw [List.lookup_cons]; simp
theorem look_mem {l : List (Nat × Value)} {t : Nat} {v : Value} (h : l.lookup t = some v) : (t, v) ∈ l := by
 induction l with
 | nil => simp at h
 | cons p r ih =>
  obtain ⟨k, u⟩ := p
  by_cases e : t = k
  ·subst e; rw [look_eq] at h; simp at h; subst h; simp
  ·rw [look_ne e] at h; exact List.mem_cons_of_mem _ (ih h)
theorem Ev.set {N : Nat} {l : List (Nat × Value)} {a : Act} {d : Nat} {v : Value} (h : Ev N l a) (hd : d < N) : Ev N ((d, v) :: l) (a.put (some d) v) := by
 refine ⟨by simp [Act.put, h.size], by simp [Act.put, h.defers], fun t u hl => ?_⟩
 by_cases e : t = d
 ·subst e
  rw [look_eq] at hl
  rw [ev_eq (by rw [h.size]; exact hd)]
  exact Option.some.inj hl
 ·rw [look_ne e] at hl
  rw [ev_ne (fun h => e h.symm)]
  exact h.look t u hl
theorem Ev.one {N t : Nat} {v : Value} {a : Act} (hs : a.tmps.size = N) (hd : a.defers = []) (hv : a.eval (.tmp t) = v) : Ev N ((t, v) :: []) a := ⟨hs, hd, fun k u hk => by
 by_cases e : k = t
 ·subst e; rw [look_eq] at hk; exact hv.trans (Option.some.inj hk)
 ·rw [look_ne e] at hk; simp at hk⟩
theorem Ev.weaken {N : Nat} {l l' : List (Nat × Value)} {a : Act} (h : Ev N l a) (hs : ∀ t v, l'.lookup t = some v → l.lookup t = some v) : Ev N l' a := ⟨h.size, h.defers, fun t v hl => h.look t v (hs t v hl)⟩
theorem Ev.drop {N d : Nat} {v : Value} {l : List (Nat × Value)} {a : Act} (h : Ev N ((d, v) :: l) a) (hl : (l.all fun p => p.1 != d) = true) : Ev N l a := by
 refine h.weaken fun t u hu => ?_
 have := look_mem hu
 rw [List.all_eq_true] at hl
 have := hl _ this
 rw [look_ne (by simpa using this)]
 exact hu
theorem Ev.pick {N : Nat} {l l' : List (Nat × Value)} {a : Act} (h : Ev N l a) (hs : (l'.map fun p => l.lookup p.1) = l'.map fun p => some p.2) : Ev N l' a := by
 refine h.weaken ?_
 induction l' with
 | nil => intro t v hl; simp at hl
 | cons q r ih =>
  obtain ⟨d, u⟩ := q
  simp only [List.map_cons, List.cons.injEq] at hs
  intro t v hl
  by_cases e : t = d
  ·subst e; rw [look_eq] at hl; rw [hs.1, hl]
  ·rw [look_ne e] at hl; exact ih hs.2 t v hl
theorem Ev.from {N m0 d : Nat} {l : List (Nat × Value)} {a a' : Act} {v : Value} (h : Ev N l a) (hs : a'.tmps.size = N) (hd : a'.defers = a.defers) (hlow : ∀ t, t < m0 → t ≠ d → a'.eval (.tmp t) = a.eval (.tmp t)) (hv : a'.eval (.tmp d) = v) (hl : (l.all fun p => decide (p.1 < m0) && p.1 != d) = true) : Ev N ((d, v) :: l) a' := by
 refine ⟨hs, hd.trans h.defers, fun t u hu => ?_⟩
 by_cases e : t = d
 ·subst e; rw [look_eq] at hu; exact hv.trans (Option.some.inj hu)
 ·rw [look_ne e] at hu
  rw [List.all_eq_true] at hl
  have := hl _ (look_mem hu)
  simp only [Bool.and_eq_true, decide_eq_true_eq, bne_iff_ne, ne_eq] at this
  rw [hlow t this.1 this.2]
  exact h.look t u hu
theorem Ev.fr {N m0 : Nat} {l : List (Nat × Value)} {a : Act} (h : Ev N l a) : Fr N m0 (fun t => a.eval (.tmp t)) a := ⟨h.size, h.defers, fun _ _ => rfl⟩
section
variable {N : Nat} {l : List (Nat × Value)} {a : Act} {w w' : World} {ops : Array Oper} {rest : List Oper} {o : Oper} {Q : Exit → Act → World → Prop} {d : Nat} {v u : Value} {W : List UInt8 → World → Prop} {s : List UInt8} {x : Operand}
theorem ev_run (h : Ev N l a) (hg : o.guard = none) (hd : o.dst = some d) (hdN : d < N) (hr : (execOp a.eval o).run Tryz.prog w = .ok (.value v) w')
  (hK : ∀ a', Ev N ((d, v) :: l) a' → wpList Tryz.prog ops Q rest a' w') : wpList Tryz.prog ops Q (o :: rest) a w := by
 refine arm_run hg hr ?_
 rw [hd]
 exact hK _ (h.set hdN)
theorem ev_r (h : Ev N l a) (hr : (execOp a.eval o).run Tryz.prog w = .ok (.value v) w') (hK : ∀ a', Ev N ((d, v) :: l) a' → wpList Tryz.prog ops Q rest a' w') (hg : o.guard = none := by rfl) (hd : o.dst = some d := by rfl) (hdN : d < N := by decide) : wpList Tryz.prog ops Q (o :: rest) a w := ev_run h hg hd hdN hr hK
theorem nx1 {P : Program} {Qx : Exit → Act → World → Prop} {c : Code} (h : c.wp P Q a w) : wpList P ops (Exit.then (c.wp P Q) Qx) [] a w := wpList_nil h
theorem nx3 {P : Program} {Qx : Exit → Act → World → Prop} {id : Nat} {k : List Oper} {c : Code} (h : wpList P k.toArray (Exit.then (c.wp P Q) Q) k a w) : wpList P ops (Exit.then ((Code.seq (.region id k.toArray false) c).wp P Q) Qx) [] a w := wpList_nil (wp_seq (wp_region_lit h))
end
theorem calls_of_ev {f : FuncId} {fn : Func} {c : Code} {args : Array Value} {w : World} {R : Ending → World → Prop} (hf : Tryz.prog.funcs[f]? = some fn) (hb : fn.body = some c) (hsz : args.size ≤ fn.ntmps)
  (h : ∀ a, Ev fn.ntmps ((List.range args.size).map fun k => (k, args.getD k undef)) a → c.wp Tryz.prog (bodyPost Tryz.prog fn R) a w) : Calls Tryz.prog f args w R := by
 refine calls_of_wp hf hb (h _ ⟨?_, rfl, ?_⟩)
 ·simp; omega
 ·intro t v hl
  have hm := look_mem hl
  rw [List.mem_map] at hm
  obtain ⟨k, hk, e⟩ := hm
  injection e with e1 e2
  subst e1 e2
  rw [List.mem_range] at hk
  simp only [Act.eval, Array.getD_eq_getD_getElem?]
  rw [Array.getElem?_append_left hk]
theorem ret_of_ev {N t : Nat} {l : List (Nat × Value)} {fn : Func} {R : Ending → World → Prop} {a : Act} {w : World} {v : Value} (h : Ev N l a) (hr : fn.results = #[.tmp t]) (hv : a.eval (.tmp t) = v) (hR : R (.returned v) w) : bodyPost Tryz.prog fn R .ret a w :=
 bodyPost_ret (results_tmp hr _ _ _) h.defers (by have : a.tmps.getD t undef = v := hv; rw [this]; exact hR)
theorem sp_lt {a : Act} {w : World} {x y : Operand} {i j : Int} {T T' : TypeId} {d : Option Nat} {ty : TypeId} {ps : String} {af : Array Edge} (hx : a.eval x = .int .i64 i) (hy : a.eval y = .int .i64 j) :
  (execOp a.eval ⟨d, .binOp .lss T x y T', ty, ps, af, none⟩).run Tryz.prog w = .ok (.value (.bool (decide (i < j)))) w := by
 simp only [execOp, hx, hy]
 simp [eqGuard, binOp, Op.intCmp, Result.andThen]
theorem sp_inc {a : Act} {w : World} {x : Operand} {i : Nat} {T T' : TypeId} {d : Option Nat} {ty : TypeId} {ps : String} {af : Array Edge} (hx : a.eval x = .int .i64 i) (hi : i < 4611686018427387904) :
  (execOp a.eval ⟨d, .binOp .add T x (.const (.int .i64 1)) T', ty, ps, af, none⟩).run Tryz.prog w = .ok (.value (.int .i64 ((i + 1 : Nat) : Int))) w := by
 have h : IntKind.i64.wrap ((i : Int) + 1) = ((i + 1 : Nat) : Int) := by rw [IntKind.wrap_i64]; omega
 simp only [execOp, hx]
 simp [eqGuard, binOp, Op.intArith, Act.eval, Result.andThen]
 first | exact h | (simpa using h)
theorem range_wp {N n : Nat} {l : List (Nat × Value)} {id0 id1 r1 r2 tb tn ti tadd : Nat} {T T1 T2 T3 y1 y2 y3 : TypeId} {p1 p2 p3 : String} {e1 e2 e3 : Array Edge} {body : Code} {Q : Exit → Act → World → Prop} {a : Act} {w : World}
  (I : Nat → World → Prop) (hn : n < 4611686018427387904) (ha : Ev N ((ti, .int .i64 (0 : Nat)) :: (tn, .int .i64 n) :: l) a) (h0 : I 0 w)
  (hsl : (l.all fun p => p.1 != tb && p.1 != ti && p.1 != tadd) = true) (hne : tn ≠ tb ∧ tn ≠ ti ∧ tn ≠ tadd ∧ ti ≠ tb ∧ ti ≠ tadd) (hN : tb < N ∧ ti < N ∧ tadd < N)
  (hbody : ∀ k a w, k < n → Ev N ((ti, .int .i64 k) :: (tn, .int .i64 n) :: l) a → I k w → ∀ Q' : Exit → Act → World → Prop, (∀ a' w', Ev N ((ti, .int .i64 k) :: (tn, .int .i64 n) :: l) a' → I (k + 1) w' → Q' .normal a' w') → (Code.block id1 body).wp Tryz.prog Q' a w)
  (hend : ∀ a w, Ev N ((ti, .int .i64 n) :: (tn, .int .i64 n) :: l) a → I n w → Q .normal a w) :
  (Code.block id0 (.loop (.seq (.region r1 #[⟨some tb, .binOp .lss T (.tmp ti) (.tmp tn) T1, y1, p1, e1, none⟩] false) (.seq (.cond (.tmp tb) .skip (.exit id0)) (.seq (.block id1 body) (.region r2 #[⟨some tadd, .binOp .add T2 (.tmp ti) (.const (.int .i64 1)) T3, y2, p2, e2, none⟩, ⟨some ti, .move (.tmp tadd), y3, p3, e3, none⟩] false)))))).wp Tryz.prog Q a w := by
 refine wp_block ?_
 refine wp_loop (fun a w => ∃ k, k ≤ n ∧ Ev N ((ti, .int .i64 k) :: (tn, .int .i64 n) :: l) a ∧ I k w) (fun a _ => n - (RowKit.intOf (a.eval (.tmp ti))).toNat) ⟨0, Nat.zero_le _, ha, h0⟩ ?_
 rintro a w ⟨k, hk, hE, hI⟩
 have hti : a.eval (.tmp ti) = .int .i64 k := hE.get ti look_eq
 have htn : a.eval (.tmp tn) = .int .i64 n := hE.get tn (by rw [look_ne hne.2.1, look_eq])
 have hfil : ∀ d, d = tb ∨ d = tadd → (((ti, Value.int .i64 k) :: (tn, .int .i64 n) :: l).all fun p => p.1 != d) = true := by
  intro d hd
  rw [List.all_eq_true] at hsl ⊢
  intro p hp
  rcases List.mem_cons.1 hp with rfl | hp
  ·rcases hd with rfl | rfl
   ·simpa using hne.2.2.2.1
   ·simpa using hne.2.2.2.2
  ·rcases List.mem_cons.1 hp with rfl | hp
   ·rcases hd with rfl | rfl
    ·simpa using hne.1
    ·simpa using hne.2.2.1
   ·have := hsl p hp
    simp only [Bool.and_eq_true] at this
    rcases hd with rfl | rfl
    ·exact this.1.1
    ·exact this.2
 refine wp_seq (wp_region_lit (arm_run rfl (sp_lt hti htn) (wpList_nil ?_)))
 have hE1 := hE.set (d := tb) (v := .bool (decide ((k : Int) < n))) hN.1
 show Code.wp _ _ _ _ _
 refine wp_seq ?_
 have htb := hE1.get tb look_eq
 refine wp_cond_split htb (fun hb => ?_) (fun hb => ?_)
 ·have hkn : k < n := by have := of_decide_eq_true hb; omega
  refine wp_skip ?_
  show Code.wp _ _ _ _ _
  refine wp_seq (hbody k _ w hkn (hE1.drop (hfil tb (.inl rfl))) hI _ fun a' w' hE' hI' => ?_)
  show Code.wp _ _ _ _ _
  refine wp_region_lit ?_
  have hti' : a'.eval (.tmp ti) = .int .i64 k := hE'.get ti look_eq
  refine arm_run (w' := w') rfl (sp_inc hti' (by omega)) ?_
  have hE2 := hE'.set (d := tadd) (v := .int .i64 ((k + 1 : Nat) : Int)) hN.2.2
  refine arm_run (v := .int .i64 ((k + 1 : Nat) : Int)) (w' := w') rfl ?_ ?_
  ·have : (a'.put (some tadd) (.int .i64 ((k + 1 : Nat) : Int))).eval (.tmp tadd) = .int .i64 ((k + 1 : Nat) : Int) := hE2.get tadd look_eq
   simp only [execOp, this]
   rfl
  ·refine wpList_nil ?_
   have hE3 := hE2.set (d := ti) (v := .int .i64 ((k + 1 : Nat) : Int)) hN.2.1
   have hE4 : Ev N ((ti, .int .i64 ((k + 1 : Nat) : Int)) :: (tn, .int .i64 n) :: l) ((a'.put (some tadd) (.int .i64 ((k + 1 : Nat) : Int))).put (some ti) (.int .i64 ((k + 1 : Nat) : Int))) := by
    refine hE3.weaken fun t u hu => ?_
    by_cases e : t = ti
    ·subst e; rw [look_eq] at hu ⊢; exact hu
    ·rw [look_ne e] at hu ⊢
     have e2 : t ≠ tadd := by
      by_cases e3 : t = tn
      ·subst e3; exact hne.2.2.1
      ·rw [look_ne e3] at hu
       rw [List.all_eq_true] at hsl
       have := hsl _ (look_mem hu)
       simp only [Bool.and_eq_true] at this
       simpa using this.2
     rw [look_ne e2, look_ne e]
     exact hu
   refine ⟨⟨k + 1, by omega, hE4, hI'⟩, ?_⟩
   have h5 := hE4.get ti look_eq
   rw [h5, hti]
   simp only [RowKit.intOf]
   omega
 ·have hkn : k = n := by have := of_decide_eq_false hb; omega
  subst hkn
  refine wp_exit ?_
  show Exit.inBlock id0 Q (.exit id0) _ _
  simp only [Exit.inBlock, if_true]
  exact hend _ w (hE1.drop (hfil tb (.inl rfl))) hI
theorem range_wp2 {N n : Nat} {l0 : List (Nat × Value)} (ks : List Nat) {id0 id1 r1 r2 tb tn ti tadd : Nat} {T T1 T2 T3 y1 y2 y3 : TypeId} {p1 p2 p3 : String} {e1 e2 e3 : Array Edge} {body : Code} {Q : Exit → Act → World → Prop} {a : Act} {w : World}
  (I : Nat → List (Nat × Value) → World → Prop) (hn : n < 4611686018427387904) (ha : Ev N ((ti, .int .i64 (0 : Nat)) :: (tn, .int .i64 n) :: l0) a) (hl0 : l0.map Prod.fst = ks) (h0 : I 0 l0 w)
  (hks : (ks.all fun t => t != tb && t != ti && t != tadd) = true) (hne : tn ≠ tb ∧ tn ≠ ti ∧ tn ≠ tadd ∧ ti ≠ tb ∧ ti ≠ tadd) (hN : tb < N ∧ ti < N ∧ tadd < N)
  (hbody : ∀ k l a w, k < n → Ev N ((ti, .int .i64 k) :: (tn, .int .i64 n) :: l) a → I k l w → ∀ Q' : Exit → Act → World → Prop, (∀ l' a' w', l'.map Prod.fst = ks → Ev N ((ti, .int .i64 k) :: (tn, .int .i64 n) :: l') a' → I (k + 1) l' w' → Q' .normal a' w') → (Code.block id1 body).wp Tryz.prog Q' a w)
  (hend : ∀ l a w, Ev N ((ti, .int .i64 n) :: (tn, .int .i64 n) :: l) a → I n l w → Q .normal a w) :
  (Code.block id0 (.loop (.seq (.region r1 #[⟨some tb, .binOp .lss T (.tmp ti) (.tmp tn) T1, y1, p1, e1, none⟩] false) (.seq (.cond (.tmp tb) .skip (.exit id0)) (.seq (.block id1 body) (.region r2 #[⟨some tadd, .binOp .add T2 (.tmp ti) (.const (.int .i64 1)) T3, y2, p2, e2, none⟩, ⟨some ti, .move (.tmp tadd), y3, p3, e3, none⟩] false)))))).wp Tryz.prog Q a w := by
 refine wp_block ?_
 refine wp_loop (fun a w => ∃ (k : Nat) (l : List (Nat × Value)), k ≤ n ∧ l.map Prod.fst = ks ∧ Ev N ((ti, .int .i64 k) :: (tn, .int .i64 n) :: l) a ∧ I k l w) (fun a _ => n - (RowKit.intOf (a.eval (.tmp ti))).toNat) ⟨0, l0, Nat.zero_le _, hl0, ha, h0⟩ ?_
 have hall : ∀ l : List (Nat × Value), l.map Prod.fst = ks → (l.all fun p => p.1 != tb && p.1 != ti && p.1 != tadd) = true := by
  intro l hl
  rw [← hl, List.all_map] at hks
  exact hks
 rintro a w ⟨k, l, hk, hl, hE, hI⟩
 have hsl := hall l hl
 have hti : a.eval (.tmp ti) = .int .i64 k := hE.get ti look_eq
 have htn : a.eval (.tmp tn) = .int .i64 n := hE.get tn (by rw [look_ne hne.2.1, look_eq])
 have hfil : ∀ d, d = tb ∨ d = tadd → (((ti, Value.int .i64 k) :: (tn, .int .i64 n) :: l).all fun p => p.1 != d) = true := by
  intro d hd
  rw [List.all_eq_true] at hsl ⊢
  intro p hp
  rcases List.mem_cons.1 hp with rfl | hp
  ·rcases hd with rfl | rfl
   ·simpa using hne.2.2.2.1
   ·simpa using hne.2.2.2.2
  ·rcases List.mem_cons.1 hp with rfl | hp
   ·rcases hd with rfl | rfl
    ·simpa using hne.1
    ·simpa using hne.2.2.1
   ·have := hsl p hp
    simp only [Bool.and_eq_true] at this
    rcases hd with rfl | rfl
    ·exact this.1.1
    ·exact this.2
 refine wp_seq (wp_region_lit (arm_run rfl (sp_lt hti htn) (wpList_nil ?_)))
 have hE1 := hE.set (d := tb) (v := .bool (decide ((k : Int) < n))) hN.1
 show Code.wp _ _ _ _ _
 refine wp_seq ?_
 have htb := hE1.get tb look_eq
 refine wp_cond_split htb (fun hb => ?_) (fun hb => ?_)
 ·have hkn : k < n := by have := of_decide_eq_true hb; omega
  refine wp_skip ?_
  show Code.wp _ _ _ _ _
  refine wp_seq (hbody k l _ w hkn (hE1.drop (hfil tb (.inl rfl))) hI _ fun l' a' w' hl' hE' hI' => ?_)
  have hsl' := hall l' hl'
  have hfil' : ∀ d, d = tb ∨ d = tadd → (((ti, Value.int .i64 k) :: (tn, .int .i64 n) :: l').all fun p => p.1 != d) = true := by
   intro d hd
   rw [List.all_eq_true] at hsl' ⊢
   intro p hp
   rcases List.mem_cons.1 hp with rfl | hp
   ·rcases hd with rfl | rfl
    ·simpa using hne.2.2.2.1
    ·simpa using hne.2.2.2.2
   ·rcases List.mem_cons.1 hp with rfl | hp
    ·rcases hd with rfl | rfl
     ·simpa using hne.1
     ·simpa using hne.2.2.1
    ·have := hsl' p hp
     simp only [Bool.and_eq_true] at this
     rcases hd with rfl | rfl
     ·exact this.1.1
     ·exact this.2
  show Code.wp _ _ _ _ _
  refine wp_region_lit ?_
  have hti' : a'.eval (.tmp ti) = .int .i64 k := hE'.get ti look_eq
  refine arm_run (w' := w') rfl (sp_inc hti' (by omega)) ?_
  have hE2 := hE'.set (d := tadd) (v := .int .i64 ((k + 1 : Nat) : Int)) hN.2.2
  refine arm_run (v := .int .i64 ((k + 1 : Nat) : Int)) (w' := w') rfl ?_ ?_
  ·have : (a'.put (some tadd) (.int .i64 ((k + 1 : Nat) : Int))).eval (.tmp tadd) = .int .i64 ((k + 1 : Nat) : Int) := hE2.get tadd look_eq
   simp only [execOp, this]
   rfl
  ·refine wpList_nil ?_
   have hE3 := hE2.set (d := ti) (v := .int .i64 ((k + 1 : Nat) : Int)) hN.2.1
   have hE4 : Ev N ((ti, .int .i64 ((k + 1 : Nat) : Int)) :: (tn, .int .i64 n) :: l') ((a'.put (some tadd) (.int .i64 ((k + 1 : Nat) : Int))).put (some ti) (.int .i64 ((k + 1 : Nat) : Int))) := by
    refine hE3.weaken fun t u hu => ?_
    by_cases e : t = ti
    ·subst e; rw [look_eq] at hu ⊢; exact hu
    ·rw [look_ne e] at hu ⊢
     have e2 : t ≠ tadd := by
      by_cases e3 : t = tn
      ·subst e3; exact hne.2.2.1
      ·rw [look_ne e3] at hu
       rw [List.all_eq_true] at hsl'
       have := hsl' _ (look_mem hu)
       simp only [Bool.and_eq_true] at this
       simpa using this.2
     rw [look_ne e2, look_ne e]
     exact hu
   refine ⟨⟨k + 1, l', by omega, hl', hE4, hI'⟩, ?_⟩
   have h5 := hE4.get ti look_eq
   rw [h5, hti]
   simp only [RowKit.intOf]
   omega
 ·have hkn : k = n := by have := of_decide_eq_false hb; omega
  subst hkn
  refine wp_exit ?_
  show Exit.inBlock id0 Q (.exit id0) _ _
  simp only [Exit.inBlock, if_true]
  exact hend l _ w (hE1.drop (hfil tb (.inl rfl))) hI
theorem run_andValue'' {sm : Sem Value} {w w' : World} {v : Value} (h : sm.run Tryz.prog w = .ok v w') : (do pure (Next.value (← sm)) : Sem Next).run Tryz.prog w = .ok (.value v) w' := by
 simp [h, Result.andThen]
section
variable {N : Nat} {l : List (Nat × Value)} {a : Act} {w : World} {ops : Array Oper} {rest : List Oper} {o : Oper} {Q : Exit → Act → World → Prop} {d d1 d2 : Nat} {v u : Value} {x y : Operand} {ty ty1 ty2 : TypeId} {ps ps1 ps2 : String} {af af1 af2 : Array Edge}
structure Ag (T k : Nat) : Prop where
 agg : ∀ w, (isAgg T).run Tryz.prog w = .ok true w
 size : ∀ w, (sizeOf T).run Tryz.prog w = .ok k w
theorem ev_sb {T k t s g : Nat} {cs old : Array Value} {e : TypeId} (h : Ev N l a) (hA : Ag T k) (hx : a.eval (.tmp t) = pt g 0) (hy : a.eval (.tmp s) = .agg cs) (hg : w.heap[g]? = some (.cells old e (0, 0))) (hsz : cs.size = k) (hso : old.size = k) (h1 : ∀ u ∈ cs.toList, u.oneCell' = true)
  (hK : ∀ w', w'.heap[g]? = some (.cells cs e (0, 0)) → Only (fun g' => g' = g) w w' → wpList Tryz.prog ops Q rest a w') :
  wpList Tryz.prog ops Q (⟨none, .store T (.tmp t) (.tmp s), ty, ps, af, none⟩ :: rest) a w := arm_store_blk T hA.agg hA.size hx hy hg hsz hso h1 hK
def Al (T : Nat) (zs : Array Value) : Prop := ∀ w, (Instr.alloc T true (.tuple #[])).run Tryz.prog w = .ok (pt w.heap.size 0) (w.alloc (.cells zs T))
theorem ev_al {T : Nat} {zs : Array Value} (h : Ev N l a) (hA : Al T zs) (hd : d < N)
  (hK : ∀ a' w', Ev N ((d, pt w.heap.size 0) :: l) a' → w'.heap[w.heap.size]? = some (.cells zs T (0, 0)) → Below w.heap.size w w' → w'.heap.size = w.heap.size + 1 → wpList Tryz.prog ops Q rest a' w') :
  wpList Tryz.prog ops Q (⟨some d, .alloc T, ty, ps, af, none⟩ :: rest) a w := by
 refine ev_run (v := pt w.heap.size 0) (w' := w.alloc (.cells zs T)) h rfl rfl hd ?_ ?_
 ·simp only [execOp]
  simp [hA w, Result.andThen]
 ·intro a' h'
  exact hK a' _ h' (heap_alloc_new _ _) ((Below.refl _ _).alloc (Nat.le_refl _) _) (by simp)
def St (T : Nat) (v : Value) : Prop := ∀ w p u, w.cell? p = some u → w.frozen? p = false → (Instr.storeAt T (.pointer (some p)) v).run Tryz.prog w = .ok () (w.setCell p v)
theorem ev_sc {T t g j : Nat} {cs : Array Value} {e : TypeId} (h : Ev N l a) (Z : St T v) (hx : a.eval (.tmp t) = pt g j) (hy : a.eval y = v) (hg : w.heap[g]? = some (.cells cs e (0, 0))) (hj : j < cs.size)
  (hK : ∀ w', w'.heap[g]? = some (.cells (cs.setIfInBounds j v) e (0, 0)) → Only (fun g' => g' = g) w w' → wpList Tryz.prog ops Q rest a w') :
  wpList Tryz.prog ops Q (⟨none, .store T (.tmp t) y, ty, ps, af, none⟩ :: rest) a w := by
 refine arm_skip (w' := w.setCell ⟨g, j, none⟩ v) rfl rfl ?_ (hK _ (heap_setCell_same hg v) (Only.of_setCell w ⟨g, j, none⟩ v))
 have hc : w.cell? ⟨g, j, none⟩ = some cs[j] := cell_of_heap hg (Array.getElem?_eq_getElem hj)
 have hf : w.frozen? ⟨g, j, none⟩ = false := by simp [World.frozen?, hg]
 simp only [execOp, hx, hy]
 simp [Z w _ _ hc hf, Result.andThen]
theorem ev_call {f : FuncId} {args : Array Value} {S : Value → World → Prop} (h : Ev N l a) (hg : o.guard = none) (hd : o.dst = some d) (hdN : d < N) (hr : (execOp a.eval o).run Tryz.prog w = .ok (.enter f args) w) (hc : Calls Tryz.prog f args w fun e w' => ∃ v, e = .returned v ∧ S v w')
  (hK : ∀ a' v w', S v w' → Ev N ((d, v) :: l) a' → wpList Tryz.prog ops Q rest a' w') : wpList Tryz.prog ops Q (o :: rest) a w := by
 refine wpList_plain hg fun K hK' => ?_
 unfold Oper.wp
 rw [hr]
 refine Calls.mono hc ?_
 rintro e w' ⟨v, rfl, Z⟩
 refine hK' _ _ ?_
 rw [hd]
 exact hK _ v w' Z (h.set hdN)
end
end Go.Proofs.YtflppablgdegcaaGreatDoor
