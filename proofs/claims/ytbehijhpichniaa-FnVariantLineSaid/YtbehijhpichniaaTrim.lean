/- The walk of pub/m3u8.zzTrim. -/
import Derived.Test.YtbehijhpichniaaVal
namespace Go.Proofs.Ytbehijhpichniaa
open Go.RowKit
/-- A blank or a quote. -/
def isBQ (b : UInt8) : Bool := b == 32 || b == 34
def trimL (l : List UInt8) : List UInt8 := l.dropWhile isBQ
def trimR (l : List UInt8) : List UInt8 := (l.reverse.dropWhile isBQ).reverse
theorem extract_list (s : ByteArray) (i j : Nat) : (s.extract i j).data.toList = (s.data.toList.drop i).take (j - i) := by
  rw [ByteArray.data_extract, Array.toList_extract]
theorem trimL_step {t : ByteArray} (h : 0 < t.size) (hb : isBQ (t[0]'h) = true) : trimL (t.extract 1 t.size).data.toList = trimL t.data.toList := by
  rw [extract_list, List.take_of_length_le (by simp [len_data])]
  have := drop_get (byte_get h)
  rw [List.drop_zero] at this
  conv => rhs; rw [this]
  unfold trimL
  rw [List.dropWhile_cons, if_pos hb]
theorem trimL_stop {t : ByteArray} (h : ∀ h : 0 < t.size, isBQ (t[0]'h) = false) : trimL t.data.toList = t.data.toList := by
  unfold trimL
  rcases Nat.eq_zero_or_pos t.size with h0 | h0
  · rw [data_nil h0]; rfl
  · have := drop_get (byte_get h0)
    rw [List.drop_zero] at this
    rw [this, List.dropWhile_cons, if_neg (by rw [h h0]; decide)]
theorem last_list {t : ByteArray} (h : 0 < t.size) : t.data.toList = t.data.toList.take (t.size - 1) ++ [t[t.size - 1]'(by omega)] := by
  have h1 := byte_get (s := t) (k := t.size - 1) (by omega)
  have h2 := List.take_append_drop (t.size - 1) t.data.toList
  rw [drop_get h1, List.drop_eq_nil_of_le (by rw [len_data]; omega)] at h2
  exact h2.symm
theorem trimR_step {t : ByteArray} (h : 0 < t.size) (hb : isBQ (t[t.size - 1]'(by omega)) = true) : trimR (t.extract 0 (t.size - 1)).data.toList = trimR t.data.toList := by
  rw [extract_list, List.drop_zero, Nat.sub_zero]
  conv => rhs; rw [last_list h]
  unfold trimR
  rw [List.reverse_append, List.reverse_singleton, List.singleton_append, List.dropWhile_cons, if_pos hb]
theorem trimR_stop {t : ByteArray} (h : ∀ h : 0 < t.size, isBQ (t[t.size - 1]'(by omega)) = false) : trimR t.data.toList = t.data.toList := by
  rcases Nat.eq_zero_or_pos t.size with h0 | h0
  · rw [data_nil h0]; rfl
  · conv => lhs; rw [last_list h0]
    unfold trimR
    rw [List.reverse_append, List.reverse_singleton, List.singleton_append, List.dropWhile_cons, if_neg (by rw [h h0]; decide), List.reverse_cons, List.reverse_reverse, ← last_list h0]
theorem bq_of {b : UInt8} (h : b.toNat = 32 ∨ b.toNat = 34) : isBQ b = true := by
  rcases h with h | h <;> (rw [byte_eq h]; rfl)
theorem bq_not {b : UInt8} (h1 : ¬ b.toNat = 32) (h2 : ¬ b.toNat = 34) : isBQ b = false := by
  unfold isBQ
  rw [Bool.or_eq_false_iff]
  exact ⟨by rw [beq_eq_false_iff_ne]; intro e; exact h1 (by rw [e]; rfl), by rw [beq_eq_false_iff_ne]; intro e; exact h2 (by rw [e]; rfl)⟩
def Trimmed (s : ByteArray) (w : World) (e : Ending) (w' : World) : Prop := ∃ t : ByteArray, e = .returned (.string t) ∧ t.data.toList = trimR (trimL s.data.toList) ∧ w' = w
set_option maxHeartbeats 4000000 in
theorem trim_any (s : ByteArray) (w : World) (hs : s.size ≤ 1000000000) : Calls Try.prog 24 #[.string s] w (Trimmed s w) := by
  go_enter Try.func24, Try.ntmps24
  go_wp2
  go_loop [0] (fun x => ∃ t : ByteArray, x = .string t ∧ t.size ≤ 1000000000 ∧ Hid (trimL t.data.toList = trimL s.data.toList)) (fun x => match x with | .string t => t.size | _ => 0)
  case atStart => exact ⟨s, rfl, hs, rfl⟩
  case round =>
    obtain ⟨t, rfl, ht, HT⟩ := hrel
    by_cases h0 : 0 < t.size
    · have hne : ¬ t.toList = [] := toList_ne h0
      by_cases h1 : (t[0]'h0).toNat = 32 ∨ (t[0]'h0).toNat = 34
      · have HS := Lib.hid ((trimL_step h0 (bq_of h1)).trans HT.out)
        clear HT
        rcases h1 with h1 | h1
        all_goals
          go_wp2
          go_round
          case rel => exact ⟨_, rfl, by simp only [ByteArray.size_extract]; omega, HS⟩
          case measure => simp; omega
      · have HB := Lib.hid ((trimL_stop (t := t) fun h => bq_not (fun e => h1 (.inl e)) (fun e => h1 (.inr e))).symm.trans HT.out)
        have e1 : ((((t[0]'h0).toNat : Nat) : Int) == 32) = false := by simp; omega
        have e2 : ((((t[0]'h0).toNat : Nat) : Int) == 34) = false := by simp; omega
        clear HT h1
        go_wp2
        go_loop [0] (fun x => ∃ u : ByteArray, x = .string u ∧ u.size ≤ 1000000000 ∧ Hid (trimR u.data.toList = trimR (trimL s.data.toList))) (fun x => match x with | .string t => t.size | _ => 0)
        case atStart => exact ⟨t, rfl, ht, congrArg trimR HB.out⟩
        case round =>
          obtain ⟨u, rfl, hu, HU⟩ := hrel
          clear HB
          by_cases g0 : 0 < u.size
          · by_cases g1 : (u[u.size - 1]'(by omega)).toNat = 32 ∨ (u[u.size - 1]'(by omega)).toNat = 34
            · have HS := Lib.hid ((trimR_step g0 (bq_of g1)).trans HU.out)
              clear HU
              rcases g1 with g1 | g1
              all_goals
                go_wp2
                go_round
                case rel => exact ⟨_, rfl, by simp only [ByteArray.size_extract]; omega, by simpa using HS⟩
                case measure => simp; omega
            · have HR := Lib.hid ((trimR_stop (t := u) fun h => bq_not (fun e => g1 (.inl e)) (fun e => g1 (.inr e))).symm.trans HU.out)
              have i1 : ((((u[u.size - 1]'(by omega)).toNat : Nat) : Int) == 32) = false := by simp; omega
              have i2 : ((((u[u.size - 1]'(by omega)).toNat : Nat) : Int) == 34) = false := by simp; omega
              clear HU g1
              go_wp2
              go_ret
              exact ⟨u, rfl, HR.out, rfl⟩
          · have HR := Lib.hid ((trimR_stop (t := u) fun h => absurd h g0).symm.trans HU.out)
            clear HU
            go_wp2
            go_ret
            exact ⟨u, rfl, HR.out, rfl⟩
    · have HB := Lib.hid ((trimL_stop (t := t) fun h => absurd h h0).symm.trans HT.out)
      clear HT
      go_wp2
      go_loop [0] (fun x => ∃ u : ByteArray, x = .string u ∧ u.size ≤ 1000000000 ∧ Hid (trimR u.data.toList = trimR (trimL s.data.toList))) (fun x => match x with | .string t => t.size | _ => 0)
      case atStart => exact ⟨t, rfl, ht, congrArg trimR HB.out⟩
      case round =>
        obtain ⟨u, rfl, hu, HU⟩ := hrel
        clear HB
        by_cases g0 : 0 < u.size
        · by_cases g1 : (u[u.size - 1]'(by omega)).toNat = 32 ∨ (u[u.size - 1]'(by omega)).toNat = 34
          · have HS := Lib.hid ((trimR_step g0 (bq_of g1)).trans HU.out)
            clear HU
            rcases g1 with g1 | g1
            all_goals
              go_wp2
              go_round
              case rel => exact ⟨_, rfl, by simp only [ByteArray.size_extract]; omega, by simpa using HS⟩
              case measure => simp; omega
          · have HR := Lib.hid ((trimR_stop (t := u) fun h => bq_not (fun e => g1 (.inl e)) (fun e => g1 (.inr e))).symm.trans HU.out)
            have i1 : ((((u[u.size - 1]'(by omega)).toNat : Nat) : Int) == 32) = false := by simp; omega
            have i2 : ((((u[u.size - 1]'(by omega)).toNat : Nat) : Int) == 34) = false := by simp; omega
            clear HU g1
            go_wp2
            go_ret
            exact ⟨u, rfl, HR.out, rfl⟩
        · have HR := Lib.hid ((trimR_stop (t := u) fun h => absurd h g0).symm.trans HU.out)
          clear HU
          go_wp2
          go_ret
          exact ⟨u, rfl, HR.out, rfl⟩
end Go.Proofs.Ytbehijhpichniaa
