/- The walks of spec.seconds, spec.Line, laws.wordOf, laws.uriOf, spec.Variant.Resolution. -/
import Derived.Test.YtkddkmiomhadaaaDoorDec
import Derived.Lib.Hide
namespace Go.Proofs.YtkddkmiomhadaaaDoor
open Go.RowKit
/-- Eighths of seconds with three digits behind the point. -/
def secs (e : Nat) : ByteArray := dec (e / 8) ++ ⟨#[46]⟩ ++ dec (e % 8 * 125 / 100) ++ dec (e % 8 * 125 / 10 % 10) ++ dec (e % 8 * 125 % 10)
theorem dec_one {n : Nat} (h : n < 10) : (dec n).size ≤ 1 := dec_size 0 n (by omega)
theorem decimal_of (n : Nat) (x : Int) (w : World) (hx : x = n) (hn : n < 18446744073709551616) :
    Calls Tryd.prog 6 #[.int .u64 x] w fun e w' => e = .returned (.string (dec n)) ∧ w = w' := by
  subst hx
  exact decimal_any n w hn
theorem secs_size {n : Nat} (h : n < 1000000) : (secs n).size ≤ 24 := by
  have h1 := dec_le (n := n / 8) (by omega)
  have h2 := dec_one (n := n % 8 * 125 / 100) (by omega)
  have h3 := dec_one (n := n % 8 * 125 / 10 % 10) (by omega)
  have h4 := dec_one (n := n % 8 * 125 % 10) (by omega)
  unfold secs
  simp only [ByteArray.size_append', ByteArray.size_mk']
  simp
  omega
set_option maxRecDepth 100000 in
set_option maxHeartbeats 400000 in
theorem seconds_any (n : Nat) (w : World) (hn : n < 1000000) :
    Calls Tryd.prog 31 #[.int .i64 n] w fun e w' => e = .returned (.string (secs n)) ∧ w = w' := by
  have h1 := dec_le (n := n / 8) (by omega)
  have h2 := dec_one (n := n % 8 * 125 / 100) (by omega)
  have h3 := dec_one (n := n % 8 * 125 / 10 % 10) (by omega)
  have h4 := dec_one (n := n % 8 * 125 % 10) (by omega)
  go_enter Tryd.func31, Tryd.ntmps31
  go_wp2_with fail
  refine (decimal_of (n / 8) _ _ (by omega) (by omega)).mono ?_
  rintro e w' ⟨rfl, rfl⟩
  go_wp2_with (first | (refine arm_add 9 Tryd.underlying9 rfl rfl ?_ ?_; · (simp only [ByteArray.size_append', ByteArray.size_mk', List.size_toArray, List.length_cons, List.length_nil]; omega)))
  refine (decimal_of (n % 8 * 125 / 100) _ _ (by omega) (by omega)).mono ?_
  rintro e w' ⟨rfl, rfl⟩
  go_wp2_with (first | (refine arm_add 9 Tryd.underlying9 rfl rfl ?_ ?_; · (simp only [ByteArray.size_append', ByteArray.size_mk', List.size_toArray, List.length_cons, List.length_nil]; omega)))
  refine (decimal_of (n % 8 * 125 / 10 % 10) _ _ (by push_cast; rfl) (by omega)).mono ?_
  rintro e w' ⟨rfl, rfl⟩
  go_wp2_with (first | (refine arm_add 9 Tryd.underlying9 rfl rfl ?_ ?_; · (simp only [ByteArray.size_append', ByteArray.size_mk', List.size_toArray, List.length_cons, List.length_nil]; omega)))
  refine (decimal_of (n % 8 * 125 % 10) _ _ (by omega) (by omega)).mono ?_
  rintro e w' ⟨rfl, rfl⟩
  go_wp2_with (first | (refine arm_add 9 Tryd.underlying9 rfl rfl ?_ ?_; · (simp only [ByteArray.size_append', ByteArray.size_mk', List.size_toArray, List.length_cons, List.length_nil]; omega)))
  go_ret
  exact ⟨rfl, rfl⟩
/-- An attribute's text. -/
def attr (name value : ByteArray) (quotes : Bool) : ByteArray := if quotes then name ++ ⟨#[61, 34]⟩ ++ value ++ ⟨#[34]⟩ else name ++ ⟨#[61]⟩ ++ value
theorem attr_size (name value : ByteArray) (q : Bool) : (attr name value q).size ≤ name.size + value.size + 3 := by
  unfold attr
  split <;> (simp only [ByteArray.size_append', ByteArray.size_mk', List.size_toArray, List.length_cons, List.length_nil]; omega)
set_option maxRecDepth 100000 in
set_option maxHeartbeats 400000 in
theorem line_any (name value : ByteArray) (q : Bool) (w : World) (h1 : name.size ≤ 1000000) (h2 : value.size ≤ 1000000) :
    Calls Tryd.prog 30 #[.string name, .string value, .bool q] w fun e w' => e = .returned (.string (attr name value q)) ∧ w = w' := by
  cases q
  all_goals
    go_enter Tryd.func30, Tryd.ntmps30
    go_wp2_with (first | (refine arm_add 9 Tryd.underlying9 rfl rfl ?_ ?_; · (simp only [ByteArray.size_append', ByteArray.size_mk', List.size_toArray, List.length_cons, List.length_nil]; omega)))
    go_ret
    exact ⟨rfl, rfl⟩
/-- What a word of laws.wordOf is made of. -/
def wordByte (b : UInt8) : Bool := [97, 98, 99, 100, 101, 102, 103, 88, 89, 90, 48, 49, 56, 57, 46, 95, 45, 47, 32, 58, 119].contains b
/-- A text of laws.wordOf: of at most k signs out of its letters, its ends no blanks. -/
structure Word (k : Nat) (s : ByteArray) : Prop where
  size : s.size ≤ k
  bytes : ∀ b ∈ s.data.toList, wordByte b = true
  first : ∀ b, s.data.toList.head? = some b → b ≠ 32
  last : ∀ b, s.data.toList.getLast? = some b → b ≠ 32
def SomeWord (k : Nat) (w : World) (e : Ending) (w' : World) : Prop := ∃ s, Word k s ∧ e = .returned (.string s) ∧ w = w'
theorem alphabet_at (i : Nat) (h : i < 20) : ∃ b : UInt8, (⟨#[97, 98, 99, 100, 101, 102, 103, 88, 89, 90, 48, 49, 56, 57, 46, 95, 45, 47, 32, 58]⟩ : ByteArray).data[i]? = some b ∧ wordByte b = true ∧ b.toNat < 128 := by
  have : ∀ j : Fin 20, ∃ b : UInt8, (⟨#[97, 98, 99, 100, 101, 102, 103, 88, 89, 90, 48, 49, 56, 57, 46, 95, 45, 47, 32, 58]⟩ : ByteArray).data[j.val]? = some b ∧ wordByte b = true ∧ b.toNat < 128 := by
    intro j
    refine ⟨_, Array.getElem?_eq_getElem (by simp), ?_⟩
    revert j
    decide +kernel
  exact this ⟨i, h⟩
theorem alphabet_of {i : Nat} {b : UInt8} (h : (⟨#[97, 98, 99, 100, 101, 102, 103, 88, 89, 90, 48, 49, 56, 57, 46, 95, 45, 47, 32, 58]⟩ : ByteArray).data[i]? = some b) : Hid (wordByte b = true) ∧ b.toNat < 128 := by
  have hi : i < 20 := by
    rcases Nat.lt_or_ge i 20 with h1 | h1
    · exact h1
    · rw [Array.getElem?_eq_none (by simpa using h1)] at h; cases h
  obtain ⟨b', h1, h2, h3⟩ := alphabet_at i hi
  rw [h] at h1
  obtain rfl := Option.some.inj h1
  exact ⟨h2, h3⟩
theorem grow_word {s : ByteArray} {b : UInt8} {k : Nat} (hs : s.size = k) (h : ∀ c ∈ s.data.toList, wordByte c = true) (hb : wordByte b = true) :
    (s ++ ⟨#[b]⟩ : ByteArray).size = k + 1 ∧ ∀ c ∈ (s ++ ⟨#[b]⟩ : ByteArray).data.toList, wordByte c = true := by
  refine ⟨by rw [ByteArray.size_append', hs]; rfl, fun c hc => ?_⟩
  rw [ByteArray.data_append] at hc
  simp at hc
  rcases hc with hc | hc
  · exact h c (by simpa using hc)
  · rw [hc]; exact hb
theorem len_data (s : ByteArray) : s.data.toList.length = s.size := by rw [Array.length_toList]; rfl
theorem data_nil {s : ByteArray} (h : s.size = 0) : s.data.toList = [] := List.eq_nil_of_length_eq_zero (by rw [len_data]; exact h)
theorem toList_nil {s : ByteArray} (h : s.size = 0) : s.toList = [] := by rw [ByteArray.toList_eq]; exact data_nil h
theorem toList_ne {s : ByteArray} (h : 0 < s.size) : ¬ s.toList = [] := by
  rw [ByteArray.toList_eq]
  intro e
  have := len_data s
  rw [e] at this
  simp at this
  omega
theorem word_nil {s : ByteArray} (h : s.size = 0) : Word 20 s := by
  have := data_nil h
  exact ⟨by omega, by simp [this], by simp [this], by simp [this]⟩
theorem word_long {s : ByteArray} {k : Nat} (hs : s.size = k) (hk : k ≤ 15) (hb : ∀ b ∈ s.data.toList, wordByte b = true) : Word 20 (⟨#[119]⟩ ++ s ++ ⟨#[119]⟩) := by
  have e : (⟨#[119]⟩ ++ s ++ ⟨#[119]⟩ : ByteArray).data.toList = 119 :: (s.data.toList ++ [119]) := by simp [ByteArray.data_append]
  refine ⟨?_, ?_, ?_, ?_⟩
  · rw [← len_data, e]; simp [len_data]; omega
  · intro b h
    rw [e] at h
    simp at h
    rcases h with rfl | h | rfl
    · decide
    · exact hb b (by simpa using h)
    · decide
  · intro b h; rw [e] at h; simp at h; subst h; decide
  · intro b h
    rw [e, ← List.cons_append] at h
    rw [List.getLast?_append] at h
    simp at h; subst h; decide
theorem word_plain {s : ByteArray} {k : Nat} (hs : s.size = k) (hk : k ≤ 15) (hb : ∀ b ∈ s.data.toList, wordByte b = true) (hpos : 0 < s.size) (h1 : ¬ (((s[0]'hpos).toNat : Nat) : Int) = 32)
    (h2 : ¬ (((s[s.size - 1]'(by omega)).toNat : Nat) : Int) = 32) : Word 20 s := by
  have hl := len_data s
  refine ⟨by omega, hb, ?_, ?_⟩
  · intro b h e
    subst e
    rw [List.head?_eq_getElem?, List.getElem?_eq_getElem (by omega)] at h
    have : s[0] = 32 := by
      have h3 := Option.some.inj h
      rw [Array.getElem_toList] at h3
      exact h3
    rw [this] at h1
    exact h1 rfl
  · intro b h e
    subst e
    rw [List.getLast?_eq_getElem?, List.getElem?_eq_getElem (by omega)] at h
    have : s[s.size - 1] = 32 := by
      have h3 := Option.some.inj h
      simp only [hl, Array.getElem_toList] at h3
      exact h3
    rw [this] at h2
    exact h2 rfl
set_option maxRecDepth 100000 in
set_option maxHeartbeats 400000 in
theorem wordOf_any (n least : Nat) (w : World) (hn : n < 4294967296) (hl : least ≤ 4) :
    Calls Tryd.prog 25 #[.int .u32 n, .int .i64 least] w (SomeWord 20 w) := by
  go_enter Tryd.func25, Tryd.ntmps25
  go_wp2
  go_loop [5, 12] (fun o i => ∃ k : Nat, k ≤ least + n % 12 ∧ i = .int .i64 k ∧ ∃ s : ByteArray, o = .string s ∧ s.size = k ∧ ∀ b ∈ s.data.toList, wordByte b = true) (fun _ i => (least + n % 12) - (intOf i).toNat)
  case atStart => exact ⟨0, Nat.zero_le _, rfl, _, rfl, rfl, by simp⟩
  case round =>
    obtain ⟨k, hk, rfl, s, rfl, hs, hb⟩ := hrel
    by_cases hlt : k < least + n % 12
    · go_wp2_with (first | (refine arm_index 9 Tryd.underlying9 rfl rfl ?_ ?_ ?_; (· omega); (· (simp only [ByteArray.size_mk', List.size_toArray, List.length_cons, List.length_nil]; omega)); intro b hbd; obtain ⟨hb1, hb2⟩ := alphabet_of hbd; clear hbd) | (refine arm_chr1 9 Tryd.underlying9 21 (by kernel_rfl) rfl ?_ ?_ ?_; (· omega); (· omega)) | (refine arm_add 9 Tryd.underlying9 rfl rfl ?_ ?_; (· (simp only [ByteArray.size_append', ByteArray.size_mk', List.size_toArray, List.length_cons, List.length_nil]; omega))))
      go_round
      case rel => exact ⟨k + 1, by omega, by go_num, _, rfl, grow_word hs hb hb1.out⟩
      case measure => simp [intOf]; omega
    · have hk16 : k ≤ 15 := by omega
      rcases Nat.eq_zero_or_pos k with h0 | hpos
      · have hnil : s.toList = [] := toList_nil (by omega)
        have HS := Lib.hid hs
        clear hs
        subst h0
        go_wp2_with fail
        go_ret
        exact ⟨s, word_nil HS.out, rfl, rfl⟩
      · have hne : ¬ s.toList = [] := toList_ne (by omega)
        have HB := Lib.hid hb
        clear hb
        go_wp2_with fail
        all_goals go_ret
        · exact ⟨_, word_long hs hk16 HB.out, rfl, rfl⟩
        · exact absurd (by simpa using ‹(!s.toList.isEmpty) = false›) hne
        · exact ⟨_, word_long hs hk16 HB.out, rfl, rfl⟩
        · rename_i h1 _ _ h2
          rcases h2 with h2 | ⟨_, h2⟩
          · exact absurd (by simpa using h2) hne
          · subst hs
            exact ⟨_, word_plain rfl hk16 HB.out hpos (by assumption) (by simpa using h2), rfl, rfl⟩
end Go.Proofs.YtkddkmiomhadaaaDoor
