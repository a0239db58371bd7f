/- The walk of spec.joined. -/
import Derived.Test.YtkddkmiomhadaaaDoorEvs
import Derived.Test.YtkddkmiomhadaaaDoorM2
namespace Go.Proofs.YtkddkmiomhadaaaDoor
open Go.RowKit
/-- Texts with commas between them. -/
def joinL (L : List ByteArray) : List UInt8 := ((L.map fun s => s.data.toList).intersperse [44]).flatten
theorem joinL_nil : joinL [] = [] := rfl
theorem joinL_one (s : ByteArray) : joinL [s] = s.data.toList := by simp [joinL]
theorem joinL_cons (s : ByteArray) (L : List ByteArray) (h : L ≠ []) : joinL (s :: L) = s.data.toList ++ 44 :: joinL L := by
  cases L with
  | nil => exact absurd rfl h
  | cons t L => simp [joinL, List.intersperse]
theorem joinL_snoc (s : ByteArray) : ∀ (L : List ByteArray), joinL (L ++ [s]) = joinL L ++ (if L = [] then [] else [44]) ++ s.data.toList
  | [] => by simp [joinL_one, joinL_nil]
  | [t] => by rw [List.cons_append, List.nil_append, joinL_cons _ _ (by simp), joinL_one, joinL_one]; simp
  | t :: u :: L => by
    have h1 : joinL (t :: ((u :: L) ++ [s])) = t.data.toList ++ 44 :: joinL ((u :: L) ++ [s]) := joinL_cons _ _ (by simp)
    have h2 : joinL (t :: u :: L) = t.data.toList ++ 44 :: joinL (u :: L) := joinL_cons _ _ (by simp)
    rw [List.cons_append, h1, joinL_snoc s (u :: L), h2, if_neg (by simp), if_neg (by simp)]
    simp only [List.append_assoc, List.cons_append]
theorem Own.cell_at {f : ByteArray → Value} {e : TypeId} {w : World} {B g cap : Nat} {L : List ByteArray} {k : Nat} {s : ByteArray} (h : Own (fun s => [f s]) e 1 w B (.slice (some ⟨g, 0, none⟩) L.length cap) L) (hs : L[k]? = some s) : w.cell? ⟨g, k, none⟩ = some (f s) := by
  obtain ⟨hk, rfl⟩ := List.getElem?_eq_some_iff.1 hs
  have hne : L ≠ [] := by intro e; rw [e] at hk; simp at hk
  obtain ⟨g', cap', cur, hv, _, hh, _, ht⟩ := h.form hne
  injection hv with h1 h2 h3
  injection h1 with h1
  injection h1 with h1 _ _
  subst h1
  rw [Nat.mul_one, flat_one] at ht
  have : cur.toList[k]? = some (f L[k]) := by
    have h4 : (cur.toList.take L.length)[k]? = cur.toList[k]? := by rw [List.getElem?_take, if_pos hk]
    rw [← h4, ht, List.getElem?_map, List.getElem?_eq_getElem hk]; rfl
  simp only [World.cell?, hh]
  simpa using this
def Joined (L : List ByteArray) (w : World) (e : Ending) (w' : World) : Prop := ∃ t : ByteArray, e = .returned (.string t) ∧ t.data.toList = joinL L ∧ t.size ≤ 1001 * L.length ∧ w' = w
set_option maxRecDepth 100000 in
set_option maxHeartbeats 4000000 in
theorem joined_any (L : List ByteArray) (v : Value) (w : World) (B : Nat) (hL : Own (fun s => [Value.string s]) 9 1 w B v L) (hne : L ≠ []) (hlen : L.length ≤ 1000) (hsz : ∀ (k : Nat) (h : k < L.length), (L[k]'h).size ≤ 1000) :
    Calls Tryd.prog 20 #[v] w (Joined L w) := by
  obtain ⟨g, cap, cur, rfl, _⟩ := hL.form hne
  have hcell := fun (k : Nat) (h : k < L.length) => hL.cell_at (List.getElem?_eq_getElem h)
  clear hL
  go_enter Tryd.func20, Tryd.ntmps20
  go_wp2
  go_loop [3, 8] (fun o i => ∃ (k : Nat) (t : ByteArray), i = .int .i64 k ∧ o = .string t ∧ k ≤ L.length ∧ t.size ≤ 1001 * k ∧ Hid (t.data.toList = joinL (L.take k))) (fun _ i => L.length - (intOf i).toNat)
  case atStart => exact ⟨0, _, rfl, rfl, Nat.zero_le _, Nat.le_refl _, rfl⟩
  case round =>
    obtain ⟨k, t, rfl, rfl, hk, ht, HT⟩ := hrel
    by_cases hlt : k < L.length
    · have hc := hcell k hlt
      have hs := hsz k hlt
      clear hcell hsz
      have hjt : Hid (joinL (L.take (k + 1)) = joinL (L.take k) ++ (if k = 0 then [] else [44]) ++ (L[k]'hlt).data.toList) := by
        show _ = _
        rw [List.take_succ_eq_append_getElem hlt, joinL_snoc]
        congr 2
        rcases Nat.eq_zero_or_pos k with h | h
        · rw [h]; rfl
        · have : L ≠ [] := fun e => by simp [e] at hlt
          rw [if_neg (by rw [List.take_eq_nil_iff]; rintro (h2 | h2); omega; exact this h2), if_neg (by omega)]
      generalize L[k]'hlt = x at *
      rcases Nat.eq_zero_or_pos k with hk0 | hk0
      · subst hk0
        go_wp2_with (refine arm_add 9 Tryd.underlying9 rfl rfl ?_ ?_; (· omega))
        go_round
        case rel => exact ⟨0 + 1, _, by go_num, rfl, by omega, by rw [ByteArray.size_append']; omega, by show _ = _; rw [hjt.out, if_pos rfl, ← HT.out]; simp [ByteArray.data_append]⟩
        case measure => simp [intOf]; omega
      · go_wp2_with (refine arm_add 9 Tryd.underlying9 rfl rfl ?_ ?_; (· (simp only [ByteArray.size_append', ByteArray.size_mk', List.size_toArray, List.length_cons, List.length_nil]; omega)))
        go_round
        case rel => exact ⟨k + 1, _, by go_num, rfl, by omega, by (simp only [ByteArray.size_append', ByteArray.size_mk', List.size_toArray, List.length_cons, List.length_nil]; omega), by show _ = _; rw [hjt.out, if_neg (by omega), ← HT.out]; simp [ByteArray.data_append]⟩
        case measure => simp [intOf]; omega
    · have hkk : k = L.length := by omega
      clear hcell hsz
      go_wp2
      go_ret
      exact ⟨t, rfl, by rw [HT.out, hkk, List.take_length], by rw [← hkk]; exact ht, rfl⟩
end Go.Proofs.YtkddkmiomhadaaaDoor
