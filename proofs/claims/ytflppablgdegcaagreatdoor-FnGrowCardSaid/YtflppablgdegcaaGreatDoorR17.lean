/- Joined: Kv, Name, Val, Trim, Join, Tr, Pkv, LnA, Kvs, Kvp, Rkv, Map. -/
import Derived.Test.YtflppablgdegcaaGreatDoorR02
import Derived.Test.YtflppablgdegcaaGreatDoorR01
import Derived.Maps.StringElems
import Derived.Sort.MapsRangeIn
import Derived.Test.YtflppablgdegcaaGreatDoorR16
namespace Go.Proofs.YtflppablgdegcaaGreatDoor.Q4
def nameB (b : UInt8) : Bool := (97 ≤ b.toNat && b.toNat ≤ 122) || (65 ≤ b.toNat && b.toNat ≤ 90) || (48 ≤ b.toNat && b.toNat ≤ 57) || b.toNat == 95 || b.toNat == 45
def skip (p : UInt8 → Bool) (l : List UInt8) : Nat := (l.takeWhile p).length
theorem skip_nil (p : UInt8 → Bool) : skip p [] = 0 := rfl
theorem skip_cons (p : UInt8 → Bool) (b : UInt8) (l : List UInt8) : skip p (b :: l) = if p b then skip p l + 1 else 0 := by
 unfold skip
 rw [List.takeWhile_cons]
 split <;> simp
theorem skip_le (p : UInt8 → Bool) (l : List UInt8) : skip p l ≤ l.length := (List.takeWhile_prefix p).length_le
theorem drop_get {l : List UInt8} {k : Nat} {b : UInt8} (h : l[k]? = some b) : l.drop k = b :: l.drop (k + 1) := by
 obtain ⟨hk, rfl⟩ := List.getElem?_eq_some_iff.1 h
 exact List.drop_eq_getElem_cons hk
theorem skip_step {p : UInt8 → Bool} {l : List UInt8} {k n : Nat} {b : UInt8} (hb : l[k]? = some b) (hp : p b = true) (h : n = k + skip p (l.drop k)) : n = (k + 1) + skip p (l.drop (k + 1)) := by
 rw [h, drop_get hb, skip_cons, if_pos hp]; omega
theorem skip_stop {p : UInt8 → Bool} {l : List UInt8} {k n : Nat} {b : UInt8} (hb : l[k]? = some b) (hp : p b = false) (h : n = k + skip p (l.drop k)) : n = k := by
 rw [h, drop_get hb, skip_cons, if_neg (by simp [hp])]; rfl
theorem skip_end {p : UInt8 → Bool} {l : List UInt8} {k n : Nat} (hk : l.length ≤ k) (h : n = k + skip p (l.drop k)) : n = k := by
 rw [h, List.drop_eq_nil_of_le hk, skip_nil]; rfl
def valueOf (l : List UInt8) : Nat :=
 if l.head? = some 34 then (let n := 1 + skip (fun b => b != 34) (l.drop 1); if n < l.length ∧ 1 < n then n + 1 else 0) else skip (fun b => b != 34 && b != 44) l
theorem valueOf_le (l : List UInt8) : valueOf l ≤ l.length := by
 unfold valueOf
 split
 ·dsimp only
  split <;> omega
 ·exact skip_le _ _
def kvAll (l : List UInt8) : List (List UInt8 × List UInt8) :=
 if h : l = [] then [] else
  let n := skip nameB l
  if n = 0 ∨ n = l.length ∨ l[n]? ≠ some 61 then kvAll (l.drop (max n 1))
  else
   let v := valueOf (l.drop (n + 1))
   if v = 0 then kvAll (l.drop (n + 1)) else (l.take n, (l.drop (n + 1)).take v) :: kvAll (l.drop (n + 1 + v))
 termination_by l.length
 decreasing_by all_goals (have := List.length_pos_iff.2 h; simp only [List.length_drop]; omega)
end Go.Proofs.YtflppablgdegcaaGreatDoor.Q4
set_option maxHeartbeats 4000000
namespace Go.Proofs.YtflppablgdegcaaGreatDoor.Q4
open Go.RowKit
theorem nameByte_any (b : UInt8) (w : World) : Calls Tryz.prog 111 #[.int .u8 (b.toNat : Int)] w (fun e w' => e = .returned (.bool (nameB b)) ∧ w' = w) := by
 have hb : b.toNat < 256 := b.toNat_lt
 have key : ∀ x : Bool, x = nameB b ↔ (x = true ↔ ((97 ≤ b.toNat ∧ b.toNat ≤ 122) ∨ (65 ≤ b.toNat ∧ b.toNat ≤ 90) ∨ (48 ≤ b.toNat ∧ b.toNat ≤ 57) ∨ b.toNat = 95 ∨ b.toNat = 45)) := by
  intro x
  rw [Bool.eq_iff_iff]
  simp [nameB, or_assoc]
 generalize nameB b = nb at *
 have hv := (key nb).1 rfl
 clear key
 generalize b.toNat = c at *
 rcases (show (c < 45 ∨ c = 46 ∨ c = 47 ∨ (58 ≤ c ∧ c < 65) ∨ (91 ≤ c ∧ c < 95) ∨ c = 96 ∨ 122 < c) ∨ c = 45 ∨ (48 ≤ c ∧ c ≤ 57) ∨ (65 ≤ c ∧ c ≤ 90) ∨ c = 95 ∨ (97 ≤ c ∧ c ≤ 122) by omega) with h | h | h | h | h | h
 ·have : nb = false := by rw [← Bool.not_eq_true, hv]; omega
  subst this
  clear hv
  rcases h with h | h | h | h | h | h | h
  all_goals
   go_enter Tryz.func111, Tryz.ntmps111
   go_wp2
   go_ret
   first
    | exact ⟨rfl, rfl⟩
    | (refine ⟨ret_bool ?_, rfl⟩; simp; omega)
 all_goals
  have : nb = true := by rw [hv]; omega
  subst this
  clear hv
  go_enter Tryz.func111, Tryz.ntmps111
  go_wp2
  go_ret
  first
   | exact ⟨rfl, rfl⟩
   | (refine ⟨ret_bool ?_, rfl⟩; simp; omega)
end Go.Proofs.YtflppablgdegcaaGreatDoor.Q4
set_option maxHeartbeats 4000000
namespace Go.Proofs.YtflppablgdegcaaGreatDoor.Q4
open Go.RowKit
theorem byte_get {s : ByteArray} {k : Nat} (h : k < s.size) : s.data.toList[k]? = some (s[k]'h) := by
 rw [List.getElem?_eq_getElem (by rw [len_data]; exact h)]
 rfl
theorem byte_eq {b : UInt8} {n : Nat} (h : b.toNat = n) : b = UInt8.ofNat n := by rw [← h]; simp
theorem valueOf_quote {l : List UInt8} {n : Nat} (h : l[0]? = some 34) (hn : n = 1 + skip (fun b => b != 34) (l.drop 1)) : valueOf l = if n < l.length ∧ 1 < n then n + 1 else 0 := by
 unfold valueOf
 rw [if_pos (by rw [List.head?_eq_getElem?]; exact h), ← hn]
theorem valueOf_bare {l : List UInt8} (h : ∀ b, l[0]? = some b → b ≠ 34) : valueOf l = skip (fun b => b != 34 && b != 44) l := by
 unfold valueOf
 rw [if_neg (by rw [List.head?_eq_getElem?]; intro e; exact h _ e rfl)]
theorem value_any (s : ByteArray) (w : World) (hs : s.size ≤ 1000000000) : Calls Tryz.prog 112 #[.string s] w (fun e w' => e = .returned (.int .i64 (valueOf s.data.toList)) ∧ w' = w) := by
 have hl : s.data.toList.length = s.size := len_data s
 by_cases hq : ∃ h : 0 < s.size, (s[0]'h).toNat = 34
 ·obtain ⟨hpos, hq⟩ := hq
  generalize hn : 1 + skip (fun b => b != 34) (s.data.toList.drop 1) = n
  have hv := valueOf_quote (by rw [byte_get hpos, byte_eq hq]; rfl) hn.symm
  rw [hl] at hv
  generalize valueOf s.data.toList = v at *
  go_enter Tryz.func112, Tryz.ntmps112
  go_wp2
  go_loop [3] (fun i => ∃ k : Nat, i = .int .i64 k ∧ 1 ≤ k ∧ k ≤ s.size ∧ n = k + skip (fun b => b != 34) (s.data.toList.drop k)) (fun i => s.size - (intOf i).toNat)
  case atStart => exact ⟨1, rfl, Nat.le_refl _, hpos, hn.symm⟩
  case round =>
   obtain ⟨k, rfl, hk1, hk, hkn⟩ := hrel
   have HN := Lib.hid hkn
   clear hkn hn
   by_cases hlt : k < s.size
   ·have hb := byte_get hlt
    by_cases hb2 : (s[k]'hlt).toNat = 34
    ·have hkk : n = k := skip_stop hb (by rw [byte_eq hb2]; rfl) HN.out
     clear HN hb
     by_cases h1 : 1 < k
     ·have hv1 : v = k + 1 := by rw [hv, hkk, if_pos ⟨hlt, h1⟩]
      clear hv
      go_wp2
      go_ret
      exact ⟨ret_int (by omega), rfl⟩
     ·have hv1 : v = 0 := by rw [hv, hkk, if_neg (by omega)]
      clear hv
      go_wp2
      go_ret
      exact ⟨ret_int (by omega), rfl⟩
    ·have hst := skip_step (p := fun b => b != 34) hb (by simpa using fun e => hb2 (by rw [e]; rfl)) HN.out
     have HS := Lib.hid hst
     clear hst hv HN hb
     go_wp2
     go_round
     case rel => exact ⟨k + 1, by go_num, by omega, by omega, HS.out⟩
     case measure => simp [intOf]; omega
   ·have hkk : n = k := skip_end (by omega) HN.out
    have hv0 : v = 0 := by rw [hv, if_neg (by omega)]
    clear hv HN
    go_wp2
    go_ret
    exact ⟨ret_int (by omega), rfl⟩
 ·have hv := valueOf_bare (l := s.data.toList) fun b hb e => hq (by
   subst e
   have h0 : 0 < s.size := by have := (List.getElem?_eq_some_iff.1 hb).1; omega
   refine ⟨h0, ?_⟩
   rw [byte_get h0] at hb
   rw [Option.some.inj hb]; rfl)
  have hq' : s.size = 0 ∨ ∃ h : 0 < s.size, ¬ (s[0]'h).toNat = 34 := by
   rcases Nat.eq_zero_or_pos s.size with h | h
   ·exact .inl h
   ·exact .inr ⟨h, fun e => hq ⟨h, e⟩⟩
  clear hq
  generalize valueOf s.data.toList = v at *
  have hat : Hid (v = 0 + skip (fun b => b != 34 && b != 44) (s.data.toList.drop 0)) := Lib.hid (by rw [List.drop_zero, hv]; omega)
  clear hv
  rcases hq' with h0 | ⟨hpos, hq0⟩
  ·go_enter Tryz.func112, Tryz.ntmps112
   go_wp2
   go_loop [3] (fun i => ∃ k : Nat, i = .int .i64 k ∧ k ≤ s.size ∧ Hid (v = k + skip (fun b => b != 34 && b != 44) (s.data.toList.drop k))) (fun i => s.size - (intOf i).toNat)
   case atStart => exact ⟨0, rfl, Nat.zero_le _, hat⟩
   case round =>
    obtain ⟨k, rfl, hk, HN⟩ := hrel
    clear hat
    by_cases hlt : k < s.size
    ·omega
    ·have hkk : v = k := skip_end (by omega) HN.out
     clear HN
     go_wp2
     go_ret
     exact ⟨ret_int (by omega), rfl⟩
  ·go_enter Tryz.func112, Tryz.ntmps112
   go_wp2
   go_loop [3] (fun i => ∃ k : Nat, i = .int .i64 k ∧ k ≤ s.size ∧ Hid (v = k + skip (fun b => b != 34 && b != 44) (s.data.toList.drop k))) (fun i => s.size - (intOf i).toNat)
   case atStart => exact ⟨0, rfl, Nat.zero_le _, hat⟩
   case round =>
    obtain ⟨k, rfl, hk, HN⟩ := hrel
    clear hat
    by_cases hlt : k < s.size
    ·have hb := byte_get hlt
     by_cases hb2 : (s[k]'hlt).toNat = 34
     ·have hkk : v = k := skip_stop hb (by rw [byte_eq hb2]; rfl) HN.out
      clear HN hb
      go_wp2
      go_ret
      exact ⟨ret_int (by omega), rfl⟩
     ·by_cases hb3 : (s[k]'hlt).toNat = 44
      ·have hkk : v = k := skip_stop hb (by rw [byte_eq hb3]; rfl) HN.out
       clear HN hb hb2
       go_wp2
       all_goals go_ret
       all_goals exact ⟨ret_int (by omega), rfl⟩
      ·have HS := Lib.hid (skip_step (p := fun b => b != 34 && b != 44) hb (by simp only [Bool.and_eq_true, bne_iff_ne, ne_eq]; exact ⟨fun e => hb2 (by rw [e]; rfl), fun e => hb3 (by rw [e]; rfl)⟩) HN.out)
       have e1 : ((((s[k]'hlt).toNat : Nat) : Int) != 34) = true := by simp; omega
       have e2 : ((((s[k]'hlt).toNat : Nat) : Int) != 44) = true := by simp; omega
       clear HN hb hb2 hb3
       go_wp2
       go_round
       case rel => exact ⟨k + 1, by go_num, by omega, HS⟩
       case measure => simp [intOf]; omega
    ·have hkk : v = k := skip_end (by omega) HN.out
     clear HN
     go_wp2
     go_ret
     exact ⟨ret_int (by omega), rfl⟩
end Go.Proofs.YtflppablgdegcaaGreatDoor.Q4
set_option maxHeartbeats 4000000
namespace Go.Proofs.YtflppablgdegcaaGreatDoor.Q4
open Go.RowKit
def isBQ (b : UInt8) : Bool := b == 32 || b == 34
def trimL (l : List UInt8) : List UInt8 := l.dropWhile isBQ
def trimR (l : List UInt8) : List UInt8 := (l.reverse.dropWhile isBQ).reverse
theorem extract_list (s : ByteArray) (i j : Nat) : (s.extract i j).data.toList = (s.data.toList.drop i).take (j - i) := by
 rw [ByteArray.data_extract, Array.toList_extract]
theorem trimL_step {t : ByteArray} (h : 0 < t.size) (hb : isBQ (t[0]'h) = true) : trimL (t.extract 1 t.size).data.toList = trimL t.data.toList := by
 rw [extract_list, List.take_of_length_le (by simp [len_data])]
 have := drop_get (byte_get h)
 rw [List.drop_zero] at this
 conv => rhs; rw [this]
 unfold trimL
 rw [List.dropWhile_cons, if_pos hb]
theorem trimL_stop {t : ByteArray} (h : ∀ h : 0 < t.size, isBQ (t[0]'h) = false) : trimL t.data.toList = t.data.toList := by
 unfold trimL
 rcases Nat.eq_zero_or_pos t.size with h0 | h0
 ·rw [data_nil h0]; rfl
 ·have := drop_get (byte_get h0)
  rw [List.drop_zero] at this
  rw [this, List.dropWhile_cons, if_neg (by rw [h h0]; decide)]
theorem last_list {t : ByteArray} (h : 0 < t.size) : t.data.toList = t.data.toList.take (t.size - 1) ++ [t[t.size - 1]'(by omega)] := by
 have h1 := byte_get (s := t) (k := t.size - 1) (by omega)
 have h2 := List.take_append_drop (t.size - 1) t.data.toList
 rw [drop_get h1, List.drop_eq_nil_of_le (by rw [len_data]; omega)] at h2
 exact h2.symm
theorem trimR_step {t : ByteArray} (h : 0 < t.size) (hb : isBQ (t[t.size - 1]'(by omega)) = true) : trimR (t.extract 0 (t.size - 1)).data.toList = trimR t.data.toList := by
 rw [extract_list, List.drop_zero, Nat.sub_zero]
 conv => rhs; rw [last_list h]
 unfold trimR
 rw [List.reverse_append, List.reverse_singleton, List.singleton_append, List.dropWhile_cons, if_pos hb]
theorem trimR_stop {t : ByteArray} (h : ∀ h : 0 < t.size, isBQ (t[t.size - 1]'(by omega)) = false) : trimR t.data.toList = t.data.toList := by
 rcases Nat.eq_zero_or_pos t.size with h0 | h0
 ·rw [data_nil h0]; rfl
 ·conv => lhs; rw [last_list h0]
  unfold trimR
  rw [List.reverse_append, List.reverse_singleton, List.singleton_append, List.dropWhile_cons, if_neg (by rw [h h0]; decide), List.reverse_cons, List.reverse_reverse, ← last_list h0]
theorem bq_of {b : UInt8} (h : b.toNat = 32 ∨ b.toNat = 34) : isBQ b = true := by
 rcases h with h | h <;> (rw [byte_eq h]; rfl)
theorem bq_not {b : UInt8} (h1 : ¬ b.toNat = 32) (h2 : ¬ b.toNat = 34) : isBQ b = false := by
 unfold isBQ
 rw [Bool.or_eq_false_iff]
 exact ⟨by rw [beq_eq_false_iff_ne]; intro e; exact h1 (by rw [e]; rfl), by rw [beq_eq_false_iff_ne]; intro e; exact h2 (by rw [e]; rfl)⟩
def Trimmed (s : ByteArray) (w : World) (e : Ending) (w' : World) : Prop := ∃ t : ByteArray, e = .returned (.string t) ∧ t.data.toList = trimR (trimL s.data.toList) ∧ w' = w
theorem trim_any (s : ByteArray) (w : World) (hs : s.size ≤ 1000000000) : Calls Tryz.prog 92 #[.string s] w (Trimmed s w) := by
 go_enter Tryz.func92, Tryz.ntmps92
 go_wp2
 go_loop [0] (fun x => ∃ t : ByteArray, x = .string t ∧ t.size ≤ 1000000000 ∧ Hid (trimL t.data.toList = trimL s.data.toList)) (fun x => match x with | .string t => t.size | _ => 0)
 case atStart => exact ⟨s, rfl, hs, rfl⟩
 case round =>
  obtain ⟨t, rfl, ht, HT⟩ := hrel
  by_cases h0 : 0 < t.size
  ·have hne : ¬ t.toList = [] := toList_ne h0
   by_cases h1 : (t[0]'h0).toNat = 32 ∨ (t[0]'h0).toNat = 34
   ·have HS := Lib.hid ((trimL_step h0 (bq_of h1)).trans HT.out)
    clear HT
    rcases h1 with h1 | h1
    all_goals
     go_wp2
     go_round
     case rel => exact ⟨_, rfl, by simp only [ByteArray.size_extract]; omega, HS⟩
     case measure => simp; omega
   ·have HB := Lib.hid ((trimL_stop (t := t) fun h => bq_not (fun e => h1 (.inl e)) (fun e => h1 (.inr e))).symm.trans HT.out)
    have e1 : ((((t[0]'h0).toNat : Nat) : Int) == 32) = false := by simp; omega
    have e2 : ((((t[0]'h0).toNat : Nat) : Int) == 34) = false := by simp; omega
    clear HT h1
    go_wp2
    go_loop [0] (fun x => ∃ u : ByteArray, x = .string u ∧ u.size ≤ 1000000000 ∧ Hid (trimR u.data.toList = trimR (trimL s.data.toList))) (fun x => match x with | .string t => t.size | _ => 0)
    case atStart => exact ⟨t, rfl, ht, congrArg trimR HB.out⟩
    case round =>
     obtain ⟨u, rfl, hu, HU⟩ := hrel
     clear HB
     by_cases g0 : 0 < u.size
     ·by_cases g1 : (u[u.size - 1]'(by omega)).toNat = 32 ∨ (u[u.size - 1]'(by omega)).toNat = 34
      ·have HS := Lib.hid ((trimR_step g0 (bq_of g1)).trans HU.out)
       clear HU
       rcases g1 with g1 | g1
       all_goals
        go_wp2
        go_round
        case rel => exact ⟨_, rfl, by simp only [ByteArray.size_extract]; omega, by simpa using HS⟩
        case measure => simp; omega
      ·have HR := Lib.hid ((trimR_stop (t := u) fun h => bq_not (fun e => g1 (.inl e)) (fun e => g1 (.inr e))).symm.trans HU.out)
       have i1 : ((((u[u.size - 1]'(by omega)).toNat : Nat) : Int) == 32) = false := by simp; omega
       have i2 : ((((u[u.size - 1]'(by omega)).toNat : Nat) : Int) == 34) = false := by simp; omega
       clear HU g1
       go_wp2
       go_ret
       exact ⟨u, rfl, HR.out, rfl⟩
     ·have HR := Lib.hid ((trimR_stop (t := u) fun h => absurd h g0).symm.trans HU.out)
      clear HU
      go_wp2
      go_ret
      exact ⟨u, rfl, HR.out, rfl⟩
  ·have HB := Lib.hid ((trimL_stop (t := t) fun h => absurd h h0).symm.trans HT.out)
   clear HT
   go_wp2
   go_loop [0] (fun x => ∃ u : ByteArray, x = .string u ∧ u.size ≤ 1000000000 ∧ Hid (trimR u.data.toList = trimR (trimL s.data.toList))) (fun x => match x with | .string t => t.size | _ => 0)
   case atStart => exact ⟨t, rfl, ht, congrArg trimR HB.out⟩
   case round =>
    obtain ⟨u, rfl, hu, HU⟩ := hrel
    clear HB
    by_cases g0 : 0 < u.size
    ·by_cases g1 : (u[u.size - 1]'(by omega)).toNat = 32 ∨ (u[u.size - 1]'(by omega)).toNat = 34
     ·have HS := Lib.hid ((trimR_step g0 (bq_of g1)).trans HU.out)
      clear HU
      rcases g1 with g1 | g1
      all_goals
       go_wp2
       go_round
       case rel => exact ⟨_, rfl, by simp only [ByteArray.size_extract]; omega, by simpa using HS⟩
       case measure => simp; omega
     ·have HR := Lib.hid ((trimR_stop (t := u) fun h => bq_not (fun e => g1 (.inl e)) (fun e => g1 (.inr e))).symm.trans HU.out)
      have i1 : ((((u[u.size - 1]'(by omega)).toNat : Nat) : Int) == 32) = false := by simp; omega
      have i2 : ((((u[u.size - 1]'(by omega)).toNat : Nat) : Int) == 34) = false := by simp; omega
      clear HU g1
      go_wp2
      go_ret
      exact ⟨u, rfl, HR.out, rfl⟩
    ·have HR := Lib.hid ((trimR_stop (t := u) fun h => absurd h g0).symm.trans HU.out)
     clear HU
     go_wp2
     go_ret
     exact ⟨u, rfl, HR.out, rfl⟩
end Go.Proofs.YtflppablgdegcaaGreatDoor.Q4
namespace Go.Proofs.YtflppablgdegcaaGreatDoor.Q4
open Go.RowKit
def joinL (L : List ByteArray) : List UInt8 := ((L.map fun s => s.data.toList).intersperse [44]).flatten
theorem joinL_one (s : ByteArray) : joinL [s] = s.data.toList := by simp [joinL]
theorem joinL_cons (s : ByteArray) (L : List ByteArray) (h : L ≠ []) : joinL (s :: L) = s.data.toList ++ 44 :: joinL L := by
 cases L with
 | nil => exact absurd rfl h
 | cons t L => simp [joinL, List.intersperse]
end Go.Proofs.YtflppablgdegcaaGreatDoor.Q4
namespace Go.Proofs.YtflppablgdegcaaGreatDoor.Q4
open Go.RowKit
structure Tr where
 name : ByteArray
 value : ByteArray
 q : Bool
def Tr.text (t : Tr) : ByteArray := attr t.name t.value t.q
structure Tr.Good (t : Tr) : Prop where
 name0 : t.name.data.toList ≠ []
 name : ∀ b ∈ t.name.data.toList, nameB b = true
 value0 : t.value.data.toList ≠ []
 quote : ∀ b ∈ t.value.data.toList, b ≠ 34
 comma : t.q = false → ∀ b ∈ t.value.data.toList, b ≠ 44
 first : ∀ b, t.value.data.toList.head? = some b → b ≠ 32
 last : ∀ b, t.value.data.toList.getLast? = some b → b ≠ 32
 size : t.name.size ≤ 100 ∧ t.value.size ≤ 100
def numB (b : UInt8) : Bool := (48 ≤ b.toNat && b.toNat ≤ 57) || b.toNat == 46 || b.toNat == 120
structure Num (s : ByteArray) : Prop where
 ne : s.data.toList ≠ []
 all : ∀ b ∈ s.data.toList, numB b = true
theorem Num.append {s t : ByteArray} (hs : Num s) (ht : Num t) : Num (s ++ t) := by
 refine ⟨?_, ?_⟩
 ·rw [ByteArray.data_append]; simp only [Array.toList_append, ne_eq, List.append_eq_nil_iff, not_and]; exact fun h => absurd h hs.ne
 ·intro b hb
  rw [ByteArray.data_append, Array.toList_append, List.mem_append] at hb
  rcases hb with hb | hb
  ·exact hs.all b hb
  ·exact ht.all b hb
end Go.Proofs.YtflppablgdegcaaGreatDoor.Q4
namespace Go.Proofs.YtflppablgdegcaaGreatDoor.Q4
open Go.RowKit
def Tr.raw (t : Tr) : List UInt8 := if t.q then 34 :: (t.value.data.toList ++ [34]) else t.value.data.toList
theorem Tr.text_list (t : Tr) : t.text.data.toList = t.name.data.toList ++ 61 :: t.raw := by
 unfold Tr.text attr Tr.raw
 split <;> simp [ByteArray.data_append]
theorem skip_append {p : UInt8 → Bool} {l r : List UInt8} (h : ∀ b ∈ l, p b = true) (hr : ∀ b, r.head? = some b → p b = false) : skip p (l ++ r) = l.length := by
 induction l with
 | nil =>
  cases r with
  | nil => rfl
  | cons b r => rw [List.nil_append, skip_cons, if_neg (by rw [hr b rfl]; decide)]; rfl
 | cons b l ih =>
  rw [List.cons_append, skip_cons, if_pos (h b (by simp)), ih fun c hc => h c (by simp [hc])]; rfl
theorem valueOf_raw {t : Tr} (h : t.Good) {r : List UInt8} (hr : ∀ b, r.head? = some b → b = 44) : valueOf (t.raw ++ r) = t.raw.length := by
 have hv := List.length_pos_iff.2 h.value0
 unfold Tr.raw
 split
 ·rename_i hq
  have e : skip (fun b => b != 34) (t.value.data.toList ++ 34 :: r) = t.value.data.toList.length := skip_append (fun b hb => by simpa using h.quote b hb) (by intro b hb; simp at hb; subst hb; rfl)
  rw [valueOf_quote (n := 1 + t.value.data.toList.length) (by simp) (by simp only [List.cons_append, List.drop_succ_cons, List.drop_zero, List.append_assoc, List.nil_append]; rw [e])]
  rw [if_pos (by simp only [List.cons_append, List.length_cons, List.length_append, List.append_assoc, List.nil_append]; omega)]
  simp only [List.length_cons, List.length_append, List.length_nil]
  omega
 ·rename_i hq
  have hq' : t.q = false := by simpa using hq
  rw [valueOf_bare]
  ·refine skip_append (fun b hb => ?_) fun b hb => ?_
   ·simp only [Bool.and_eq_true, bne_iff_ne, ne_eq]
    exact ⟨h.quote b hb, h.comma hq' b hb⟩
   ·rw [hr b hb]; rfl
  ·intro b hb
   refine h.quote b ?_
   rw [List.getElem?_append_left hv] at hb
   exact List.mem_of_getElem? hb
theorem kvAll_nil : kvAll [] = [] := by rw [kvAll, dif_pos rfl]
theorem kvAll_comma (l : List UInt8) : kvAll (44 :: l) = kvAll l := by
 rw [kvAll, dif_neg (by simp)]
 have : skip nameB (44 :: l) = 0 := by rw [skip_cons, if_neg (by decide)]
 simp only [this, true_or, if_true]
 rfl
theorem kvAll_one {t : Tr} (h : t.Good) {r : List UInt8} (hr : ∀ b, r.head? = some b → b = 44) : kvAll (t.text.data.toList ++ r) = (t.name.data.toList, t.raw) :: kvAll r := by
 have hn := List.length_pos_iff.2 h.name0
 have hraw : t.raw.length ≠ 0 := by
  unfold Tr.raw
  split
  ·simp
  ·have := List.length_pos_iff.2 h.value0; omega
 rw [Tr.text_list, List.append_assoc, List.cons_append]
 have hs : skip nameB (t.name.data.toList ++ 61 :: (t.raw ++ r)) = t.name.data.toList.length := skip_append h.name (by intro b hb; simp at hb; subst hb; decide)
 rw [kvAll, dif_neg (by simp)]
 simp only [hs]
 rw [if_neg (by
  rintro (e | e | e)
  ·omega
  ·simp only [List.length_append, List.length_cons] at e; omega
  ·exact e (by simp))]
 have hd : (t.name.data.toList ++ 61 :: (t.raw ++ r)).drop (t.name.data.toList.length + 1) = t.raw ++ r := by
  rw [List.drop_append]
  simp
 rw [hd, valueOf_raw h hr, if_neg hraw, ← List.drop_drop, hd]
 simp
theorem kvAll_join : ∀ {L : List Tr}, (∀ t ∈ L, t.Good) → kvAll (joinL (L.map Tr.text)) = L.map fun t => (t.name.data.toList, t.raw)
 | [], _ => kvAll_nil
 | [t], h => by
  have := kvAll_one (h t (by simp)) (r := []) (by simp)
  rw [List.append_nil, kvAll_nil] at this
  simpa [joinL_one] using this
 | t :: u :: L, h => by
  have e : joinL ((t :: u :: L).map Tr.text) = t.text.data.toList ++ 44 :: joinL ((u :: L).map Tr.text) := joinL_cons _ _ (by simp)
  rw [e, kvAll_one (h t (by simp)) (by intro b hb; simp at hb; exact hb.symm), kvAll_comma, kvAll_join fun t ht => h t (by simp [ht])]
  rfl
theorem trim_raw {t : Tr} (h : t.Good) : trimR (trimL t.raw) = t.value.data.toList := by
 have hne := h.value0
 have hbq : ∀ b ∈ t.value.data.toList, b ≠ 32 → isBQ b = false := fun b hb h32 => by
  unfold isBQ
  rw [Bool.or_eq_false_iff, beq_eq_false_iff_ne, beq_eq_false_iff_ne]
  exact ⟨h32, h.quote b hb⟩
 have hL : trimL (t.value.data.toList) = t.value.data.toList := by
  unfold trimL
  cases hv : t.value.data.toList with
  | nil => rfl
  | cons b l =>
   have hb : isBQ b = false := hbq b (by rw [hv]; simp) (h.first b (by rw [hv]; rfl))
   rw [List.dropWhile_cons, if_neg (by rw [hb]; decide)]
 have hR : trimR (t.value.data.toList) = t.value.data.toList := by
  have hl := h.last
  unfold trimR
  rw [← List.head?_reverse] at hl
  cases hv : t.value.data.toList.reverse with
  | nil => rw [List.reverse_eq_nil_iff] at hv; exact absurd hv hne
  | cons b l =>
   have hb : isBQ b = false := hbq b (by rw [← List.mem_reverse, hv]; simp) (hl b (by rw [hv]; rfl))
   rw [List.dropWhile_cons, if_neg (by rw [hb]; decide), ← hv, List.reverse_reverse]
 unfold Tr.raw
 split
 ·have h1 : trimL (34 :: (t.value.data.toList ++ [34])) = t.value.data.toList ++ [34] := by
   unfold trimL at hL ⊢
   rw [List.dropWhile_cons, if_pos (by decide)]
   cases hv : t.value.data.toList with
   | nil => exact absurd hv hne
   | cons b l =>
    have hb : isBQ b = false := hbq b (by rw [hv]; simp) (h.first b (by rw [hv]; rfl))
    rw [List.cons_append, List.dropWhile_cons, if_neg (by rw [hb]; decide)]
  rw [h1]
  unfold trimR at hR ⊢
  rw [List.reverse_append, List.reverse_singleton, List.singleton_append, List.dropWhile_cons, if_pos (by decide)]
  exact hR
 ·rw [hL, hR]
end Go.Proofs.YtflppablgdegcaaGreatDoor.Q4
namespace Go.Proofs.YtflppablgdegcaaGreatDoor.Q4
open Go.RowKit
def prT (t : Tr) : List Value := [.string t.name, .string t.value]
theorem info_pair : (Tryz.prog.info? 187).map (fun i => (i.zero, i.size, i.bytes)) = some (some (.agg #[.string ⟨#[]⟩, .string ⟨#[]⟩]), 2, 32) := by kernel_rfl
theorem ba_ext {a b : ByteArray} (h : a.data.toList = b.data.toList) : a = b := ByteArray.ext (Array.toList_inj.1 h)
theorem prT_one : ∀ (t : Tr), ∀ u ∈ prT t, u.oneCell' = true := by
 intro t u hu
 simp [prT] at hu
 rcases hu with rfl | rfl <;> rfl
section
variable {ops : Array Oper} {rest : List Oper} {a : Act} {Q : Exit → Act → World → Prop} {ty0 ty1 ty2 ty3 ty4 ty5 ty6 ty7 ty8 : TypeId} {pos0 pos1 pos2 pos3 pos4 pos5 pos6 pos7 pos8 : String} {aft0 aft1 aft2 aft3 aft4 aft5 aft6 aft7 aft8 : Array Edge}
end
section
variable {ops : Array Oper} {rest : List Oper} {a : Act} {Q : Exit → Act → World → Prop} {ty0 ty1 ty2 ty3 ty4 ty5 : TypeId} {pos0 pos1 pos2 pos3 pos4 pos5 : String} {aft0 aft1 aft2 aft3 aft4 aft5 : Array Edge}
end
end Go.Proofs.YtflppablgdegcaaGreatDoor.Q4
namespace Go.Proofs.YtflppablgdegcaaGreatDoor.Q4
theorem kv_end {l : List UInt8} {p : Nat} (h : l.length ≤ p) : kvAll (l.drop p) = [] := by
 rw [List.drop_eq_nil_of_le h, kvAll, dif_pos rfl]
theorem drop_ne {l : List UInt8} {p : Nat} (h : p < l.length) : l.drop p ≠ [] := by
 intro e
 have := congrArg List.length e
 simp only [List.length_drop, List.length_nil] at this
 omega
theorem kv_skip {l : List UInt8} {p e : Nat} (h : p < l.length) (he : e = p + skip nameB (l.drop p)) (hc : e = p ∨ e = l.length ∨ l[e]? ≠ some 61) : kvAll (l.drop p) = kvAll (l.drop (max e (p + 1))) := by
 rw [kvAll, dif_neg (drop_ne h)]
 have hn : skip nameB (l.drop p) = e - p := by omega
 have hge : p ≤ e := by omega
 simp only [hn]
 rw [if_pos]
 ·rw [List.drop_drop]
  congr 2
  omega
 ·rcases hc with rfl | rfl | hc
  ·exact .inl (by omega)
  ·exact .inr (.inl (by rw [List.length_drop]))
  ·refine .inr (.inr ?_)
   rw [List.getElem?_drop, show p + (e - p) = e by omega]
   exact hc
theorem kv_mid {l : List UInt8} {p e : Nat} (h : p < l.length) (he : e = p + skip nameB (l.drop p)) (h1 : e ≠ p) (h2 : e ≠ l.length) (h3 : l[e]? = some 61) :
  kvAll (l.drop p) = if valueOf (l.drop (e + 1)) = 0 then kvAll (l.drop (e + 1)) else ((l.drop p).take (e - p), (l.drop (e + 1)).take (valueOf (l.drop (e + 1)))) :: kvAll (l.drop (e + 1 + valueOf (l.drop (e + 1)))) := by
 rw [kvAll, dif_neg (drop_ne h)]
 have hn : skip nameB (l.drop p) = e - p := by omega
 have hge : p ≤ e := by omega
 simp only [hn, List.drop_drop, show p + (e - p + 1) = e + 1 by omega]
 rw [if_neg]
 ·split
  ·rfl
  ·congr 2
   congr 1
   omega
 ·rintro (e1 | e1 | e1)
  ·omega
  ·rw [List.length_drop] at e1; omega
  ·rw [List.getElem?_drop, show p + (e - p) = e by omega] at e1; exact e1 h3
theorem kv_zero {l : List UInt8} {p e : Nat} (h : p < l.length) (he : e = p + skip nameB (l.drop p)) (h1 : e ≠ p) (h2 : e ≠ l.length) (h3 : l[e]? = some 61) (hv : valueOf (l.drop (e + 1)) = 0) : kvAll (l.drop p) = kvAll (l.drop (e + 1)) := by
 rw [kv_mid h he h1 h2 h3, if_pos hv]
theorem kv_pair {l : List UInt8} {p e v : Nat} (h : p < l.length) (he : e = p + skip nameB (l.drop p)) (h1 : e ≠ p) (h2 : e ≠ l.length) (h3 : l[e]? = some 61) (hv : v = valueOf (l.drop (e + 1))) (hv0 : v ≠ 0) : kvAll (l.drop p) = ((l.drop p).take (e - p), (l.drop (e + 1)).take v) :: kvAll (l.drop (e + 1 + v)) := by
 subst hv
 rw [kv_mid h he h1 h2 h3, if_neg hv0]
end Go.Proofs.YtflppablgdegcaaGreatDoor.Q4
set_option maxRecDepth 100000
set_option maxHeartbeats 8000000
namespace Go.Proofs.YtflppablgdegcaaGreatDoor.Q4
open Go.RowKit
section
variable {P : Program} {ops : Array Oper} {rest : List Oper} {a : Act} {w : World} {Q : Exit → Act → World → Prop}
theorem arm_append {α : Type} {f : α → List Value} {e : TypeId} {k : Nat} {B : Nat} {v : Value} {L : List α} (t : TypeId) (ht : P.underlying t = some (.slice e)) {inf : TypeInfo} {z : Value} {bytes : Nat} (hi : P.info? e = some inf) (hz : inf.zero = some z) (hsize : inf.size = k)
  (hby : inf.bytes = bytes) (hzs : z.cells.size = k) (hk : 0 < k) (hf : ∀ x, (f x).length = k) (h1 : ∀ x, ∀ u ∈ f x, u.oneCell' = true)
  {dst : Option Tmp} {ty : TypeId} {pos : String} {after : Array Edge} {s x : Operand} (y : α) {g : Nat} (hs : a.eval s = v) (hx : a.eval x = .slice (some ⟨g, 0, none⟩) 1 1) (hg : w.heap[g]? = some (.cells (f y).toArray e (0, 0)))
  (hown : Own f e k w B v L) (hB : B ≤ w.heap.size) (hlen : (L.length + 1) * bytes ≤ 140737488355328) (hlen2 : L.length ≤ 1000000000)
  (hK : ∀ v' w', Own f e k w' B v' (L ++ [y]) → Only (fun g => v.ownBlock = some g) w w' → wpList P ops Q rest (a.put dst v') w') :
  wpList P ops Q ({ dst := dst, op := Op.call { callee := Callee.builtin Builtin.append, args := #[s, x], argTypes := #[t, t] }, type := ty, pos := pos, after := after, guard := none } :: rest) a w := by
 obtain ⟨v', w', hr, h2, h3, h4, h5⟩ := run_append_own_at (P := P) w B t ty e inf z k bytes ht hi hz hsize hby hzs hk v L.length (flat f L) hown ⟨g, 0, none⟩ 1 1 (f y) (by rw [hf]; omega)
  (by
   intro j u hu
   have : (⟨g, 0, none⟩ : Addr).add j = ⟨g, j, none⟩ := by unfold Addr.add; split <;> simp_all
   rw [this]
   simp [World.cell?, hg]
   simpa using hu) (h1 y) (by unfold maxLen; omega) hlen hB
 have hon : Only (fun g => v.ownBlock = some g) w w' := Only.of_grown h3 fun g hg => hg
 refine arm_run rfl (v := v') (w' := w') ?_ (hK v' w' ?_ hon)
 ·unfold execOp
  simp only [resolve, invoke, builtin, Sem.run_bind, Sem.run_pure, Result.andThen_ok, List.map_toArray, List.map_cons, List.map_nil, hs, hx, hr]
 ·unfold Own
  rw [flat_snoc, List.length_append]
  exact h2
end
theorem kvpush {id : Nat} {a0 : Act} {w : World} {Q : Exit → Act → World → Prop} {B : Nat} {sp : Value} {L : List Tr} {s x y : ByteArray} {p e v : Nat} (hsz : a0.tmps.size = 73) (h3 : a0.eval (.tmp 3) = sp) (h0 : a0.eval (.tmp 0) = .string s) (h4 : a0.eval (.tmp 4) = .int .i64 (p : Int)) (h5 : a0.eval (.tmp 5) = .int .i64 (e : Int)) (h6 : a0.eval (.tmp 6) = .int .i64 (v : Int))
  (hx : s.extract p e = x) (hy : s.extract (e + 1) (e + 1 + v) = y) (hpe : p ≤ e) (hev : e + 1 + v ≤ s.size) (hs : s.size ≤ 1000000) (hown : Own prT 187 2 w B sp L) (hB : B ≤ w.heap.size) (hL : L.length ≤ 1000000)
  (hK : ∀ (y52 y53 y54 y55 y56 y57 y58 y59 y60 y61 y62 y63 y64 y65 y66 sp' : Value) (w' : World), Own prT 187 2 w' B sp' (L ++ [⟨x, y, false⟩]) → Only (fun g => sp.ownBlock = some g) w w' → Q .normal ((((((((((((((((((a0.put (some 52) y52).put (some 53) y53).put (some 54) y54).put (some 55) y55).put (some 56) y56).put (some 57) y57).put (some 58) y58).put (some 59) y59).put (some 60) y60).put (some 61) y61).put (some 62) y62).put (some 63) y63).put (some 64) y64).put (some 65) y65).put (some 66) y66)).put (some 67) sp').put (some 3) sp') w') :
  (Code.region id #[{ dst := some 52, op := Op.move (Operand.tmp 3), type := 185, pos := "reader.go:39", after := #[], guard := none },
   { dst := some 53, op := Op.move (Operand.tmp 0), type := 9, pos := "reader.go:39", after := #[], guard := none },
   { dst := some 54, op := Op.move (Operand.tmp 4), type := 3, pos := "reader.go:39", after := #[], guard := none },
   { dst := some 55, op := Op.move (Operand.tmp 5), type := 3, pos := "reader.go:39", after := #[], guard := none },
   { dst := some 56, op := Op.slice 9 (Operand.tmp 53) (some (Operand.tmp 54)) (some (Operand.tmp 55)) none, type := 9, pos := "reader.go:39", after := #[{ on := 1, ground := Ground.data }, { on := 2, ground := Ground.data }, { on := 3, ground := Ground.data }], guard := none },
   { dst := some 57, op := Op.move (Operand.tmp 0), type := 9, pos := "reader.go:39", after := #[], guard := none },
   { dst := some 58, op := Op.move (Operand.tmp 5), type := 3, pos := "reader.go:39", after := #[], guard := none },
   { dst := some 59, op := Op.binOp BinOp.add 3 (Operand.tmp 58) (Operand.const (Value.int IntKind.i64 1)) 3, type := 3, pos := "reader.go:39", after := #[{ on := 6, ground := Ground.data }], guard := none },
   { dst := some 60, op := Op.move (Operand.tmp 5), type := 3, pos := "reader.go:39", after := #[], guard := none },
   { dst := some 61, op := Op.binOp BinOp.add 3 (Operand.tmp 60) (Operand.const (Value.int IntKind.i64 1)) 3, type := 3, pos := "reader.go:39", after := #[{ on := 8, ground := Ground.data }], guard := none },
   { dst := some 62, op := Op.move (Operand.tmp 6), type := 3, pos := "reader.go:39", after := #[], guard := none },
   { dst := some 63, op := Op.binOp BinOp.add 3 (Operand.tmp 61) (Operand.tmp 62) 3, type := 3, pos := "reader.go:39", after := #[{ on := 9, ground := Ground.data }, { on := 10, ground := Ground.data }], guard := none },
   { dst := some 64, op := Op.slice 9 (Operand.tmp 57) (some (Operand.tmp 59)) (some (Operand.tmp 63)) none, type := 9, pos := "reader.go:39", after := #[{ on := 5, ground := Ground.data }, { on := 7, ground := Ground.data }, { on := 11, ground := Ground.data }], guard := none },
   { dst := some 65, op := Op.build 187 #[(0, Operand.tmp 56), (1, Operand.tmp 64)], type := 187, pos := "reader.go:39", after := #[{ on := 4, ground := Ground.data }, { on := 12, ground := Ground.data }], guard := none },
   { dst := some 66, op := Op.buildSlice 185 1 #[(0, Operand.tmp 65)], type := 185, pos := "reader.go:39", after := #[{ on := 13, ground := Ground.data }], guard := none },
   { dst := some 67, op := Op.call { callee := Callee.builtin Builtin.append, args := #[Operand.tmp 52, Operand.tmp 66], argTypes := #[185, 185] }, type := 185, pos := "reader.go:39", after := #[{ on := 0, ground := Ground.data }, { on := 14, ground := Ground.data }], guard := none },
   { dst := some 3, op := Op.assign (Operand.tmp 67), type := 185, pos := "reader.go:39", after := #[{ on := 15, ground := Ground.data }, { on := 15, ground := Ground.chain }, { on := 0, ground := Ground.phase }, { on := 1, ground := Ground.phase }, { on := 2, ground := Ground.phase }, { on := 3, ground := Ground.phase }, { on := 4, ground := Ground.phase }, { on := 5, ground := Ground.phase }, { on := 6, ground := Ground.phase }, { on := 7, ground := Ground.phase }, { on := 8, ground := Ground.phase }, { on := 9, ground := Ground.phase }, { on := 10, ground := Ground.phase }, { on := 11, ground := Ground.phase }, { on := 12, ground := Ground.phase }, { on := 13, ground := Ground.phase }, { on := 14, ground := Ground.phase }, { on := 15, ground := Ground.phase }], guard := none }] true).wp Tryz.prog Q a0 w := by
 obtain ⟨iP, hiP, hzP, hsP, hbP⟩ := info_parts info_pair
 have hw1 : IntKind.i64.wrap ((e : Int) + 1) = ((e + 1 : Nat) : Int) := by rw [IntKind.wrap_i64] <;> omega
 have hw2 : IntKind.i64.wrap (((e + 1 : Nat) : Int) + (v : Int)) = ((e + 1 + v : Nat) : Int) := by rw [IntKind.wrap_i64] <;> omega
 have hw3 : IntKind.i64.wrap ((e : Int) + 1 + (v : Int)) = (e : Int) + 1 + (v : Int) := by rw [IntKind.wrap_i64] <;> omega
 refine wp_region_og1 (n := 73) 15 [Asr.eq (sp), Asr.eq (.string s), Asr.eq (.int .i64 (p : Int)), Asr.eq (.int .i64 (e : Int)), Asr.eq (.string x), Asr.eq (.string s), Asr.eq (.int .i64 (e : Int)), Asr.eq (.int .i64 ((e + 1 : Nat) : Int)), Asr.eq (.int .i64 (e : Int)), Asr.eq (.int .i64 ((e + 1 : Nat) : Int)), Asr.eq (.int .i64 (v : Int)), Asr.eq (.int .i64 ((e + 1 + v : Nat) : Int)), Asr.eq (.string y), Asr.eq (.agg #[.string x, .string y]), Asr.blk (fun g => .slice (some ⟨g, 0, none⟩) 1 1) 187 #[.string x, .string y]] (by kernel_rfl) (by kernel_rfl) (by kernel_rfl) (by simp) (by kernel_rfl) hsz trivial ?_ ?_
 ·simp only [List.take_succ_cons, List.take_zero]
  refine ⟨?_, ?_, ?_, ?_, ?_, ?_, ?_, ?_, ?_, ?_, ?_, ?_, ?_, ?_, ?_, trivial⟩
  ·intro a wx c
   have e3 : a.eval (.tmp 3) = sp := c.outE (by decide +kernel) h3
   clear c
   show Oper.wp _ _ _ _ _ _
   unfold Oper.wp
   simp only [execOp, e3]
   go_simp
   exact ⟨_, rfl, Only.refl _ _, rfl⟩
  ·intro a wx c
   have e0 : a.eval (.tmp 0) = .string s := c.outE (by decide +kernel) h0
   clear c
   show Oper.wp _ _ _ _ _ _
   unfold Oper.wp
   simp only [execOp, e0]
   go_simp
   exact ⟨_, rfl, Only.refl _ _, rfl⟩
  ·intro a wx c
   have e4 : a.eval (.tmp 4) = .int .i64 (p : Int) := c.outE (by decide +kernel) h4
   clear c
   show Oper.wp _ _ _ _ _ _
   unfold Oper.wp
   simp only [execOp, e4]
   go_simp
   exact ⟨_, rfl, Only.refl _ _, rfl⟩
  ·intro a wx c
   have e5 : a.eval (.tmp 5) = .int .i64 (e : Int) := c.outE (by decide +kernel) h5
   clear c
   show Oper.wp _ _ _ _ _ _
   unfold Oper.wp
   simp only [execOp, e5]
   go_simp
   exact ⟨_, rfl, Only.refl _ _, rfl⟩
  ·intro a wx c
   have e53 : a.eval (.tmp 53) = .string s := c.slot 1 _ (by decide +kernel) rfl
   have e54 : a.eval (.tmp 54) = .int .i64 (p : Int) := c.slot 2 _ (by decide +kernel) rfl
   have e55 : a.eval (.tmp 55) = .int .i64 (e : Int) := c.slot 3 _ (by decide +kernel) rfl
   clear c
   show Oper.wp _ _ _ _ _ _
   have hsl := run_slice_string (P := Tryz.prog) wx 9 s .i64 .i64 ((p : Nat) : Int) ((e : Nat) : Int) Tryz.underlying9 (by omega) (by omega) (by omega)
   rw [show ((p : Nat) : Int).toNat = p from rfl, show ((e : Nat) : Int).toNat = e from rfl, hx] at hsl
   unfold Oper.wp
   simp only [execOp, Option.map_some, Option.map_none, e53, e54, e55]
   simp only [Sem.run_bind, Sem.run_pure, Result.andThen_ok, run_sliceAt_string _ _ _ _ _ _ Tryz.underlying9, hsl]
   exact ⟨_, rfl, Only.refl _ _, rfl⟩
  ·intro a wx c
   have e0 : a.eval (.tmp 0) = .string s := c.outE (by decide +kernel) h0
   clear c
   show Oper.wp _ _ _ _ _ _
   unfold Oper.wp
   simp only [execOp, e0]
   go_simp
   exact ⟨_, rfl, Only.refl _ _, rfl⟩
  ·intro a wx c
   have e5 : a.eval (.tmp 5) = .int .i64 (e : Int) := c.outE (by decide +kernel) h5
   clear c
   show Oper.wp _ _ _ _ _ _
   unfold Oper.wp
   simp only [execOp, e5]
   go_simp
   exact ⟨_, rfl, Only.refl _ _, rfl⟩
  ·intro a wx c
   have e58 : a.eval (.tmp 58) = .int .i64 (e : Int) := c.slot 6 _ (by decide +kernel) rfl
   clear c
   show Oper.wp _ _ _ _ _ _
   unfold Oper.wp
   simp only [execOp, e58]
   try simp only [Act.eval]
   go_simp
   exact ⟨_, rfl, Only.refl _ _, rfl⟩
  ·intro a wx c
   have e5 : a.eval (.tmp 5) = .int .i64 (e : Int) := c.outE (by decide +kernel) h5
   clear c
   show Oper.wp _ _ _ _ _ _
   unfold Oper.wp
   simp only [execOp, e5]
   go_simp
   exact ⟨_, rfl, Only.refl _ _, rfl⟩
  ·intro a wx c
   have e60 : a.eval (.tmp 60) = .int .i64 (e : Int) := c.slot 8 _ (by decide +kernel) rfl
   clear c
   show Oper.wp _ _ _ _ _ _
   unfold Oper.wp
   simp only [execOp, e60]
   try simp only [Act.eval]
   go_simp
   exact ⟨_, rfl, Only.refl _ _, rfl⟩
  ·intro a wx c
   have e6 : a.eval (.tmp 6) = .int .i64 (v : Int) := c.outE (by decide +kernel) h6
   clear c
   show Oper.wp _ _ _ _ _ _
   unfold Oper.wp
   simp only [execOp, e6]
   go_simp
   exact ⟨_, rfl, Only.refl _ _, rfl⟩
  ·intro a wx c
   have e61 : a.eval (.tmp 61) = .int .i64 ((e + 1 : Nat) : Int) := c.slot 9 _ (by decide +kernel) rfl
   have e62 : a.eval (.tmp 62) = .int .i64 (v : Int) := c.slot 10 _ (by decide +kernel) rfl
   clear c
   show Oper.wp _ _ _ _ _ _
   unfold Oper.wp
   simp only [execOp, e61, e62]
   try simp only [Act.eval]
   go_simp
   exact ⟨_, rfl, Only.refl _ _, rfl⟩
  ·intro a wx c
   have e57 : a.eval (.tmp 57) = .string s := c.slot 5 _ (by decide +kernel) rfl
   have e59 : a.eval (.tmp 59) = .int .i64 ((e + 1 : Nat) : Int) := c.slot 7 _ (by decide +kernel) rfl
   have e63 : a.eval (.tmp 63) = .int .i64 ((e + 1 + v : Nat) : Int) := c.slot 11 _ (by decide +kernel) rfl
   clear c
   show Oper.wp _ _ _ _ _ _
   have hsl := run_slice_string (P := Tryz.prog) wx 9 s .i64 .i64 (((e + 1) : Nat) : Int) (((e + 1 + v) : Nat) : Int) Tryz.underlying9 (by omega) (by omega) (by omega)
   rw [show (((e + 1) : Nat) : Int).toNat = (e + 1) from rfl, show (((e + 1 + v) : Nat) : Int).toNat = (e + 1 + v) from rfl, hy] at hsl
   unfold Oper.wp
   simp only [execOp, Option.map_some, Option.map_none, e57, e59, e63]
   simp only [Sem.run_bind, Sem.run_pure, Result.andThen_ok, run_sliceAt_string _ _ _ _ _ _ Tryz.underlying9, hsl]
   exact ⟨_, rfl, Only.refl _ _, rfl⟩
  ·intro a wx c
   have e56 : a.eval (.tmp 56) = .string x := c.slot 4 _ (by decide +kernel) rfl
   have e64 : a.eval (.tmp 64) = .string y := c.slot 12 _ (by decide +kernel) rfl
   clear c
   show Oper.wp _ _ _ _ _ _
   unfold Oper.wp
   simp only [execOp, List.map_toArray, List.map_cons, List.map_nil, e56, e64]
   go_simp
   exact ⟨_, rfl, Only.refl _ _, rfl⟩
  ·intro a wx c
   have e65 : a.eval (.tmp 65) = .agg #[.string x, .string y] := c.slot 13 _ (by decide +kernel) rfl
   have hsz := c.only.size
   clear c
   show Oper.wp _ _ _ _ _ _
   unfold Oper.wp
   simp only [execOp, List.map_toArray, List.map_cons, List.map_nil, e65]
   go_simp
   exact ⟨_, rfl, Only.of_below ((Below.refl _ _).alloc (Nat.le_refl _) _), _, by simpa using hsz, rfl, heap_alloc_new _ _⟩
 ·intro a1 w1 c hb
  have r0 : a1.eval (.tmp 52) = sp := c.slot 0 _ (by decide) rfl
  obtain ⟨g, _, r14, hg⟩ : Asr.holds _ (Asr.blk (fun g => .slice (some ⟨g, 0, none⟩) 1 1) 187 #[.string x, .string y]) (a1.eval (.tmp 66)) w1 := c.slot 14 _ (by decide) rfl
  have ha := frame_head c [52, 53, 54, 55, 56, 57, 58, 59, 60, 61, 62, 63, 64, 65, 66] (by kernel_rfl)
  have hsz1 := c.size
  clear c
  simp only [List.drop_succ_cons, List.drop_zero]
  refine arm_append (f := prT) 185 Tryz.underlying185 hiP hzP hsP hbP (by rfl) (by decide) (fun _ => rfl) prT_one ⟨x, y, false⟩ r0 r14 hg (hown.below hb) (Nat.le_trans hB hb.size) (by omega) (by omega) fun sp' w2 ho2 hon2 => ?_
  refine arm_run rfl (v := sp') (w' := w2) ?_ ?_
  ·simp only [execOp]
   rw [ev_eq (by rw [hsz1, hsz]; decide)]
   go_simp
  refine wpList_nil ?_
  rw [ha]
  exact hK _ _ _ _ _ _ _ _ _ _ _ _ _ _ _ sp' w2 ho2 (((Only.of_below (M := fun g => sp.ownBlock = some g) hb).trans hon2).mono fun g _ h => h.elim (fun x => x) (fun x => x))
end Go.Proofs.YtflppablgdegcaaGreatDoor.Q4
set_option maxRecDepth 100000
set_option maxHeartbeats 8000000
namespace Go.Proofs.YtflppablgdegcaaGreatDoor.Q4
open Go.RowKit
def Tr.two (t : Tr) : List UInt8 × List UInt8 := (t.name.data.toList, t.value.data.toList)
def KvPost (s : ByteArray) (w : World) (e : Ending) (w' : World) : Prop := ∃ (sp : Value) (L : List Tr), e = .returned sp ∧ L.map Tr.two = kvAll s.data.toList ∧ L.length ≤ s.size ∧ Own prT 187 2 w' w.heap.size sp L ∧ Below w.heap.size w w'
structure Rk (s : ByteArray) (w : World) (sp : Value) (p : Nat) (L : List Tr) (wx : World) : Prop where
 kv : kvAll s.data.toList = L.map Tr.two ++ kvAll (s.data.toList.drop p)
 len : L.length ≤ p
 own : Own prT 187 2 wx w.heap.size sp L
 below : Below w.heap.size w wx
theorem Rk.skip {s : ByteArray} {w : World} {sp : Value} {p q : Nat} {L : List Tr} {wx : World} (h : Rk s w sp p L wx) (hq : p ≤ q) (e : kvAll (s.data.toList.drop p) = kvAll (s.data.toList.drop q)) : Rk s w sp q L wx :=
 ⟨by rw [h.kv, e], Nat.le_trans h.len hq, h.own, h.below⟩
theorem Rk.pair {s x y : ByteArray} {w : World} {sp sp' : Value} {p q : Nat} {L : List Tr} {wx wy : World} (h : Rk s w sp p L wx) (hq : p < q) (e : kvAll (s.data.toList.drop p) = (x.data.toList, y.data.toList) :: kvAll (s.data.toList.drop q))
  (h2 : Own prT 187 2 wy w.heap.size sp' (L ++ [⟨x, y, false⟩])) (o : Only (fun g => sp.ownBlock = some g) wx wy) : Rk s w sp' q (L ++ [⟨x, y, false⟩]) wy := by
 refine ⟨?_, ?_, h2, h.below.trans (o.below h.below.size fun g hg e => ?_)⟩
 ·rw [h.kv, e]; simp [Tr.two]
 ·have := h.len; rw [List.length_append]; simp; omega
 ·have := (h.own.block_lt g e).1; omega
theorem keyValue_any (s : ByteArray) (w : World) (hs : s.size ≤ 1000000) : Calls Tryz.prog 91 #[.string s] w (KvPost s w) := by
 have hl : s.data.toList.length = s.size := len_data s
 go_enter Tryz.func91, Tryz.ntmps91
 go_wp2
 go_loopg [3, 4] (s.size) (fun m sp i wx => ∃ (p : Nat) (L : List Tr), p ≤ s.size ∧ m = s.size - p ∧ i = .int .i64 p ∧ Rk s w sp p L wx)
 case atStart => exact ⟨0, [], Nat.zero_le _, rfl, rfl, by simp, Nat.le_refl _, Own.nil _ _ _ _ _, Below.refl _ _⟩
 case round =>
  obtain ⟨p, L, hp, rfl, rfl, hR⟩ := hrel
  by_cases hlt : p < s.size
  ·obtain ⟨e, he⟩ : ∃ e, e = p + skip nameB (s.data.toList.drop p) := ⟨_, rfl⟩
   have hee : e ≤ s.size := by have := skip_le nameB (s.data.toList.drop p); rw [List.length_drop, hl] at this; omega
   have HE := Lib.hid he
   have hpe : p ≤ e := by omega
   clear he
   go_wp2_with fail
   go_loop [5] (fun i => ∃ j : Nat, i = .int .i64 j ∧ j ≤ s.size ∧ Hid (e = j + skip nameB (s.data.toList.drop j))) (fun i => s.size - (intOf i).toNat)
   case atStart => exact ⟨p, rfl, hp, HE⟩
   case round =>
    obtain ⟨j, rfl, hj, HJ⟩ := hrel
    by_cases hjl : j < s.size
    ·have hbj := byte_get hjl
     cases hb : nameB (s[j]'hjl)
     ·obtain rfl : e = j := skip_stop hbj hb HJ.out
      clear HJ
      by_cases hjp : e = p
      ·subst hjp
       have hk := hR.skip (q := e + 1) (by omega) (by rw [kv_skip (by omega) HE.out (.inl rfl), Nat.max_eq_right (by omega)])
       clear hR HE hbj
       go_wp2_with (go_at_call 111; refine (nameByte_any _ _).mono ?_; rintro e' w' ⟨rfl, rfl⟩; rw [hb])
       go_roundg (s.size - (e + 1))
       case measure => omega
       case rel => exact ⟨e + 1, L, by omega, rfl, by go_num, hk⟩
      ·have d1 : ((e : Int) == (p : Int)) = false := by rw [beq_eq_false_iff_ne]; omega
       have d2 : ((e : Int) == (s.size : Int)) = false := by rw [beq_eq_false_iff_ne]; omega
       by_cases hq : (s[e]'hjl).toNat = 61
       ·have hq61 : s.data.toList[e]? = some 61 := by rw [hbj, byte_eq hq]; rfl
        clear hbj
        have d3 : (((s[e]'hjl).toNat : Int) == 61) = true := by rw [beq_iff_eq]; omega
        have d4 : (((s[e]'hjl).toNat : Int) != 61) = false := by rw [bne, d3]; rfl
        clear hq
        go_upto_region 9 with (go_at_call 111; refine (nameByte_any _ _).mono ?_; rintro e' w' ⟨rfl, rfl⟩; rw [hb])
        clear d1 d2 d3 d4 hb
        obtain ⟨v, hv⟩ : ∃ v, v = valueOf (s.data.toList.drop (e + 1)) := ⟨_, rfl⟩
        have hvl : e + 1 + v ≤ s.size := by have := valueOf_le (s.data.toList.drop (e + 1)); rw [List.length_drop, hl] at this; omega
        have hzl : (s.extract (e + 1) s.size).data.toList = s.data.toList.drop (e + 1) := by rw [extract_list, List.take_of_length_le (by rw [List.length_drop, hl]; exact Nat.le_refl _)]
        have hzs : (s.extract (e + 1) s.size).size ≤ 1000000000 := by rw [← len_data, hzl, List.length_drop, hl]; omega
        have hva := fun w => value_any (s.extract (e + 1) s.size) w hzs
        rw [hzl, ← hv] at hva
        have hva := Lib.hid hva
        clear hzl hzs
        have HV := Lib.hid hv
        clear hv
        have hn1 : (e : Int) + 1 ≤ s.size := by omega
        go_upto_region 10 with (go_at_call 112; refine (hva.out _).mono ?_; rintro e' w' ⟨rfl, rfl⟩)
        clear hva
        by_cases hv0 : v = 0
        ·have hk := hR.skip (q := e + 1) (by omega) (kv_zero (by omega) HE.out hjp (by rw [hl]; omega) hq61 (by have := HV.out; omega))
         subst hv0
         clear hR HE HV hq61
         go_wp2_with fail
         go_roundg (s.size - (e + 1))
         case measure => omega
         case rel => exact ⟨e + 1, L, by omega, rfl, by go_num, hk⟩
        ·have hkv := kv_pair (l := s.data.toList) (by omega) HE.out hjp (by rw [hl]; omega) hq61 HV.out hv0
         have hx : (s.extract p e).data.toList = (s.data.toList.drop p).take (e - p) := extract_list _ _ _
         have hy : (s.extract (e + 1) (e + 1 + v)).data.toList = (s.data.toList.drop (e + 1)).take v := by rw [extract_list]; congr 1; omega
         rw [← hx, ← hy] at hkv
         have hkv := Lib.hid hkv
         have hv0' : ((v : Int) == 0) = false := by rw [beq_eq_false_iff_ne]; omega
         clear hx hy HE hq61 HV
         go_upto_region 12 with fail
         refine kvpush (s := s) (p := p) (e := e) (v := v) (B := w.heap.size) (L := L) ?_ ?_ ?_ ?_ ?_ ?_ rfl rfl hpe hvl hs hR.own hR.below.size (by have := hR.len; omega) ?_
         ·rfl
         ·rfl
         ·rfl
         ·rfl
         ·rfl
         ·rfl
         intro y52 y53 y54 y55 y56 y57 y58 y59 y60 y61 y62 y63 y64 y65 y66 sp' w2 ho2 hon2
         have hk := hR.pair (q := e + 1 + v) (by omega) hkv.out ho2 hon2
         clear hR hkv ho2 hon2
         go_frame
         go_wp2_with fail
         go_roundg (s.size - (e + 1 + v))
         case measure => omega
         case rel => exact ⟨e + 1 + v, _, by omega, rfl, by go_num, hk⟩
       ·have hk := hR.skip (q := e) (by omega) (by rw [kv_skip (by omega) HE.out (.inr (.inr (by rw [hbj]; intro e1; exact hq (by rw [Option.some.inj e1]; rfl)))), Nat.max_eq_left (by omega)])
        have hne : ¬ e = s.size := by omega
        clear hR HE hbj
        have d3 : (((s[e]'hjl).toNat : Int) == 61) = false := by rw [beq_eq_false_iff_ne]; omega
        have d4 : (((s[e]'hjl).toNat : Int) != 61) = true := by rw [bne, d3]; rfl
        have hmx : max (e : Int) ((p : Int) + 1) = e := by omega
        go_wp2_with (go_at_call 111; refine (nameByte_any _ _).mono ?_; rintro e' w' ⟨rfl, rfl⟩; rw [hb])
        go_roundg (s.size - e)
        case measure => omega
        case rel => exact ⟨e, L, by omega, rfl, by go_num, hk⟩
     ·have hn := Lib.hid (skip_step hbj hb HJ.out)
      clear HJ hbj
      go_wp2_with (go_at_call 111; refine (nameByte_any _ _).mono ?_; rintro e w' ⟨rfl, rfl⟩; rw [hb])
      go_round
      case rel => exact ⟨j + 1, by go_num, by omega, hn⟩
      case measure => simp [intOf]; omega
    ·obtain rfl : j = s.size := by omega
     obtain rfl : e = s.size := skip_end (Nat.le_of_eq hl) HJ.out
     have hk := hR.skip (q := s.size) (by omega) (by rw [kv_skip (by omega) HE.out (.inr (.inl hl.symm)), Nat.max_eq_left (by omega)])
     have hne : ¬ s.size = p := by omega
     clear hR HE HJ
     have hmx : max (s.size : Int) ((p : Int) + 1) = s.size := by omega
     go_wp2_with fail
     go_roundg (s.size - s.size)
     case measure => omega
     case rel => exact ⟨s.size, L, by omega, rfl, by go_num, hk⟩
  ·obtain rfl : p = s.size := by omega
   clear hlt hs
   go_wp2
   go_ret
   refine ⟨_, L, rfl, ?_, hR.len, hR.own, hR.below⟩
   have := hR.kv
   rw [kv_end (Nat.le_of_eq hl), List.append_nil] at this
   exact this.symm
end Go.Proofs.YtflppablgdegcaaGreatDoor.Q4
namespace Go.Proofs.YtflppablgdegcaaGreatDoor.Q4
open Go.RowKit
def ent (t : Tr) : Lit × DataW Unit := (.string t.name.data.toList, .lit (.string t.value.data.toList))
def MapIs (D : DataW Unit) (G : List Tr) : Prop := ∃ l, D = .map l ∧ l.Perm (G.map ent)
theorem MapIs.nil : MapIs (.map []) [] := ⟨[], rfl, .refl _⟩
theorem MapIs.put {D : DataW Unit} {G : List Tr} (h : MapIs D G) (t : Tr) (hn : ∀ g ∈ G, g.name ≠ t.name) : MapIs (D.put (.string t.name.data.toList) (.lit (.string t.value.data.toList))) (G ++ [t]) := by
 obtain ⟨l, rfl, hp⟩ := h
 rw [DataW.put_eq]
 refine ⟨_, rfl, ?_⟩
 unfold Go.ChangeMaps.putKey
 have hf : l.filter (Go.ChangeMaps.notKey (.string t.name.data.toList)) = l := by
  rw [List.filter_eq_self]
  intro p hp2
  obtain ⟨g, hg, rfl⟩ := List.mem_map.1 (hp.mem_iff.1 hp2)
  unfold Go.ChangeMaps.notKey
  rw [Maps.sameKey_ne]
  ·rfl
  ·intro e
   exact hn g hg (ba_ext (Lit.string.inj e))
 rw [hf, List.map_append]
 refine (Go.WideShapes.insert_perm _ _).trans ?_
 refine (hp.cons _).trans ?_
 exact (List.perm_append_singleton _ _).symm
theorem MapIs.get {D : DataW Unit} {G : List Tr} (h : MapIs D G) {kl : Lit} (hk : Maps.has D kl = true) : ∃ g ∈ G, kl = (ent g).1 ∧ ∀ zd, D.atKey kl zd = .lit (.string g.value.data.toList) ∨ ∃ g' ∈ G, (ent g').1 = kl ∧ D.atKey kl zd = (ent g').2 := by
 obtain ⟨l, rfl, hp⟩ := h
 rw [Maps.has_eq, List.any_eq_true] at hk
 obtain ⟨p, hp1, hp2⟩ := hk
 obtain ⟨g, hg, rfl⟩ := List.mem_map.1 (hp.mem_iff.1 hp1)
 refine ⟨g, hg, (WideAt.sameKey_eq hp2).symm, fun zd => ?_⟩
 right
 cases hf : l.find? (fun p => p.1.sameKey kl) with
 | none => exact absurd hp2 (by simpa using List.find?_eq_none.1 hf _ hp1)
 | some q =>
  obtain ⟨g', hg', rfl⟩ := List.mem_map.1 (hp.mem_iff.1 (List.mem_of_find?_eq_some hf))
  have := List.find?_some hf
  exact ⟨g', hg', WideAt.sameKey_eq this, by simp only [DataW.atKey, hf]⟩
theorem MapIs.at {D : DataW Unit} {G : List Tr} (h : MapIs D G) {x c : ByteArray} (hk : Maps.has D (.string x.data.toList) = true) (hc : ∀ zd, D.atKey (.string x.data.toList) zd = .lit (.string c.data.toList)) : ∃ g ∈ G, g.name = x ∧ g.value = c := by
 obtain ⟨g, hg, e, h2⟩ := h.get hk
 rcases h2 (.lit (.bool true)) with h3 | ⟨g', hg', e', h3⟩
 ·rw [hc] at h3
  exact ⟨g, hg, (ba_ext (Lit.string.inj e)).symm, (ba_ext (Lit.string.inj (DataW.lit.inj h3))).symm⟩
 ·rw [hc] at h3
  exact ⟨g', hg', ba_ext (Lit.string.inj e'), (ba_ext (Lit.string.inj (DataW.lit.inj h3))).symm⟩
theorem MapIs.has {D : DataW Unit} {G : List Tr} (h : MapIs D G) {g : Tr} (hg : g ∈ G) : Maps.has D (.string g.name.data.toList) = true := by
 obtain ⟨l, rfl, hp⟩ := h
 rw [Maps.has_eq, List.any_eq_true]
 exact ⟨ent g, hp.mem_iff.2 (List.mem_map.2 ⟨g, hg, rfl⟩), by simp [ent, Lit.sameKey]⟩
theorem len_le : ∀ {l1 l2 : List ByteArray}, l1.Nodup → (∀ x ∈ l1, x ∈ l2) → l1.length ≤ l2.length
 | [], _, _, _ => Nat.zero_le _
 | x :: l1, l2, hn, hs => by
  obtain ⟨h1, h2⟩ := List.nodup_cons.1 hn
  obtain ⟨s, t, rfl⟩ := List.append_of_mem (hs x (by simp))
  have := len_le (l2 := s ++ t) h2 (fun y hy => by
   have := hs y (by simp [hy])
   simp only [List.mem_append, List.mem_cons] at this ⊢
   rcases this with h | rfl | h
   ·exact .inl h
   ·exact absurd hy h1
   ·exact .inr h)
  simp only [List.length_append, List.length_cons] at this ⊢
  omega
structure Rg (G : List Tr) (D : DataW Unit) (left : Lit → Bool) (C : List Tr) : Prop where
 sub : ∀ t ∈ C, ∃ g ∈ G, g.name = t.name ∧ g.value = t.value
 nodup : (C.map Tr.name).Nodup
 gone : ∀ t ∈ C, left (.string t.name.data.toList) = false
 all : ∀ g ∈ G, left (.string g.name.data.toList) = true ∨ ∃ t ∈ C, t.name = g.name
 left : ∀ kl, left kl = true → Maps.has D kl = true
theorem Rg.start {G : List Tr} {D : DataW Unit} (h : MapIs D G) : Rg G D (Maps.has D) [] := ⟨by simp, by simp, by simp, fun g hg => .inl (h.has hg), fun _ h => h⟩
theorem Rg.step {G : List Tr} {D : DataW Unit} {left : Lit → Bool} {C : List Tr} (r : Rg G D left C) (h : MapIs D G) {x c : ByteArray} (hl : left (.string x.data.toList) = true) (hc : ∀ zd, D.atKey (.string x.data.toList) zd = .lit (.string c.data.toList)) :
  Rg G D (fun z => left z && !z.sameKey (.string x.data.toList)) (C ++ [⟨x, c, false⟩]) := by
 have hne : ∀ t ∈ C, t.name ≠ x := fun t ht e => by have := r.gone t ht; rw [e, hl] at this; cases this
 refine ⟨?_, ?_, ?_, ?_, ?_⟩
 ·intro t ht
  rcases List.mem_append.1 ht with ht | ht
  ·exact r.sub t ht
  ·rw [List.mem_singleton.1 ht]; exact h.at (r.left _ hl) hc
 ·rw [List.map_append, List.nodup_append]
  refine ⟨r.nodup, by simp, ?_⟩
  intro a ha b hb e
  obtain ⟨t, ht, rfl⟩ := List.mem_map.1 ha
  simp at hb
  exact hne t ht (e.trans hb)
 ·intro t ht
  rcases List.mem_append.1 ht with ht | ht
  ·simp only [r.gone t ht, Bool.false_and]
  ·rw [List.mem_singleton.1 ht]; simp [Lit.sameKey]
 ·intro g hg
  by_cases e : g.name = x
  ·exact .inr ⟨⟨x, c, false⟩, by simp, e.symm⟩
  ·rcases r.all g hg with h1 | ⟨t, ht, h1⟩
   ·left
    simp only [h1, Bool.true_and, Bool.not_eq_true']
    exact Maps.sameKey_ne fun e2 => e (ba_ext (Lit.string.inj e2))
   ·exact .inr ⟨t, by simp [ht], h1⟩
 ·intro kl hk
  simp only [Bool.and_eq_true] at hk
  exact r.left _ hk.1
theorem Rg.len {G : List Tr} {D : DataW Unit} {left : Lit → Bool} {C : List Tr} (r : Rg G D left C) : C.length ≤ G.length := by
 have := len_le (l2 := G.map Tr.name) r.nodup (fun n hn => by
  obtain ⟨t, ht, rfl⟩ := List.mem_map.1 hn
  obtain ⟨g, hg, e, _⟩ := r.sub t ht
  exact List.mem_map.2 ⟨g, hg, e⟩)
 simpa using this
end Go.Proofs.YtflppablgdegcaaGreatDoor.Q4
