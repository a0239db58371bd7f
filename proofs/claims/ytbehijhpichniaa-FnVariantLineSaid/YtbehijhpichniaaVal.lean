/- The walk of pub/m3u8.zzValue. -/
import Derived.Test.YtbehijhpichniaaName
namespace Go.Proofs.Ytbehijhpichniaa
open Go.RowKit
theorem byte_get {s : ByteArray} {k : Nat} (h : k < s.size) : s.data.toList[k]? = some (s[k]'h) := by
  rw [List.getElem?_eq_getElem (by rw [len_data]; exact h)]
  rfl
theorem byte_eq {b : UInt8} {n : Nat} (h : b.toNat = n) : b = UInt8.ofNat n := by rw [← h]; simp
theorem valueOf_quote {l : List UInt8} {n : Nat} (h : l[0]? = some 34) (hn : n = 1 + skip (fun b => b != 34) (l.drop 1)) : valueOf l = if n < l.length ∧ 1 < n then n + 1 else 0 := by
  unfold valueOf
  rw [if_pos (by rw [List.head?_eq_getElem?]; exact h), ← hn]
theorem valueOf_bare {l : List UInt8} (h : ∀ b, l[0]? = some b → b ≠ 34) : valueOf l = skip (fun b => b != 34 && b != 44) l := by
  unfold valueOf
  rw [if_neg (by rw [List.head?_eq_getElem?]; intro e; exact h _ e rfl)]
set_option maxHeartbeats 4000000 in
theorem value_any (s : ByteArray) (w : World) (hs : s.size ≤ 1000000000) : Calls Try.prog 36 #[.string s] w (fun e w' => e = .returned (.int .i64 (valueOf s.data.toList)) ∧ w' = w) := by
  have hl : s.data.toList.length = s.size := len_data s
  by_cases hq : ∃ h : 0 < s.size, (s[0]'h).toNat = 34
  · obtain ⟨hpos, hq⟩ := hq
    generalize hn : 1 + skip (fun b => b != 34) (s.data.toList.drop 1) = n
    have hv := valueOf_quote (by rw [byte_get hpos, byte_eq hq]; rfl) hn.symm
    rw [hl] at hv
    generalize valueOf s.data.toList = v at *
    go_enter Try.func36, Try.ntmps36
    go_wp2
    go_loop [3] (fun i => ∃ k : Nat, i = .int .i64 k ∧ 1 ≤ k ∧ k ≤ s.size ∧ n = k + skip (fun b => b != 34) (s.data.toList.drop k)) (fun i => s.size - (intOf i).toNat)
    case atStart => exact ⟨1, rfl, Nat.le_refl _, hpos, hn.symm⟩
    case round =>
      obtain ⟨k, rfl, hk1, hk, hkn⟩ := hrel
      have HN := Lib.hid hkn
      clear hkn hn
      by_cases hlt : k < s.size
      · have hb := byte_get hlt
        by_cases hb2 : (s[k]'hlt).toNat = 34
        · have hkk : n = k := skip_stop hb (by rw [byte_eq hb2]; rfl) HN.out
          clear HN hb
          by_cases h1 : 1 < k
          · have hv1 : v = k + 1 := by rw [hv, hkk, if_pos ⟨hlt, h1⟩]
            clear hv
            go_wp2
            go_ret
            exact ⟨ret_int (by omega), rfl⟩
          · have hv1 : v = 0 := by rw [hv, hkk, if_neg (by omega)]
            clear hv
            go_wp2
            go_ret
            exact ⟨ret_int (by omega), rfl⟩
        · have hst := skip_step (p := fun b => b != 34) hb (by simpa using fun e => hb2 (by rw [e]; rfl)) HN.out
          have HS := Lib.hid hst
          clear hst hv HN hb
          go_wp2
          go_round
          case rel => exact ⟨k + 1, by go_num, by omega, by omega, HS.out⟩
          case measure => simp [intOf]; omega
      · have hkk : n = k := skip_end (by omega) HN.out
        have hv0 : v = 0 := by rw [hv, if_neg (by omega)]
        clear hv HN
        go_wp2
        go_ret
        exact ⟨ret_int (by omega), rfl⟩
  · have hv := valueOf_bare (l := s.data.toList) fun b hb e => hq (by
      subst e
      have h0 : 0 < s.size := by have := (List.getElem?_eq_some_iff.1 hb).1; omega
      refine ⟨h0, ?_⟩
      rw [byte_get h0] at hb
      rw [Option.some.inj hb]; rfl)
    have hq' : s.size = 0 ∨ ∃ h : 0 < s.size, ¬ (s[0]'h).toNat = 34 := by
      rcases Nat.eq_zero_or_pos s.size with h | h
      · exact .inl h
      · exact .inr ⟨h, fun e => hq ⟨h, e⟩⟩
    clear hq
    generalize valueOf s.data.toList = v at *
    have hat : Hid (v = 0 + skip (fun b => b != 34 && b != 44) (s.data.toList.drop 0)) := Lib.hid (by rw [List.drop_zero, hv]; omega)
    clear hv
    rcases hq' with h0 | ⟨hpos, hq0⟩
    · go_enter Try.func36, Try.ntmps36
      go_wp2
      go_loop [3] (fun i => ∃ k : Nat, i = .int .i64 k ∧ k ≤ s.size ∧ Hid (v = k + skip (fun b => b != 34 && b != 44) (s.data.toList.drop k))) (fun i => s.size - (intOf i).toNat)
      case atStart => exact ⟨0, rfl, Nat.zero_le _, hat⟩
      case round =>
        obtain ⟨k, rfl, hk, HN⟩ := hrel
        clear hat
        by_cases hlt : k < s.size
        · omega
        · have hkk : v = k := skip_end (by omega) HN.out
          clear HN
          go_wp2
          go_ret
          exact ⟨ret_int (by omega), rfl⟩
    · go_enter Try.func36, Try.ntmps36
      go_wp2
      go_loop [3] (fun i => ∃ k : Nat, i = .int .i64 k ∧ k ≤ s.size ∧ Hid (v = k + skip (fun b => b != 34 && b != 44) (s.data.toList.drop k))) (fun i => s.size - (intOf i).toNat)
      case atStart => exact ⟨0, rfl, Nat.zero_le _, hat⟩
      case round =>
        obtain ⟨k, rfl, hk, HN⟩ := hrel
        clear hat
        by_cases hlt : k < s.size
        · have hb := byte_get hlt
          by_cases hb2 : (s[k]'hlt).toNat = 34
          · have hkk : v = k := skip_stop hb (by rw [byte_eq hb2]; rfl) HN.out
            clear HN hb
            go_wp2
            go_ret
            exact ⟨ret_int (by omega), rfl⟩
          · by_cases hb3 : (s[k]'hlt).toNat = 44
            · have hkk : v = k := skip_stop hb (by rw [byte_eq hb3]; rfl) HN.out
              clear HN hb hb2
              go_wp2
              all_goals go_ret
              all_goals exact ⟨ret_int (by omega), rfl⟩
            · have HS := Lib.hid (skip_step (p := fun b => b != 34 && b != 44) hb (by simp only [Bool.and_eq_true, bne_iff_ne, ne_eq]; exact ⟨fun e => hb2 (by rw [e]; rfl), fun e => hb3 (by rw [e]; rfl)⟩) HN.out)
              have e1 : ((((s[k]'hlt).toNat : Nat) : Int) != 34) = true := by simp; omega
              have e2 : ((((s[k]'hlt).toNat : Nat) : Int) != 44) = true := by simp; omega
              clear HN hb hb2 hb3
              go_wp2
              go_round
              case rel => exact ⟨k + 1, by go_num, by omega, HS⟩
              case measure => simp [intOf]; omega
        · have hkk : v = k := skip_end (by omega) HN.out
          clear HN
          go_wp2
          go_ret
          exact ⟨ret_int (by omega), rfl⟩
end Go.Proofs.Ytbehijhpichniaa
