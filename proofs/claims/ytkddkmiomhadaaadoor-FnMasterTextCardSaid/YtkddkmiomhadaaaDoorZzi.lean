/- The walk of pub/m3u8.zzIndex at the part '?'. -/
import Derived.Test.YtkddkmiomhadaaaDoorHas
namespace Go.Proofs.YtkddkmiomhadaaaDoor
open Go.RowKit
theorem cut_one {u : ByteArray} {k : Nat} (hk : k < u.size) : (u.extract k (k + 1)).toList = [u[k]'hk] := by
  rw [ByteArray.toList_eq, ByteArray.data_extract, Array.toList_extract]
  have hk' : k < u.data.toList.length := by rw [← Lib.size_eq]; exact hk
  simp only [List.extract_eq_take_drop]
  rw [Nat.add_sub_cancel_left, List.drop_eq_getElem_cons hk']
  rfl
set_option maxRecDepth 100000 in
set_option maxHeartbeats 1000000 in
theorem zzIndex_any (u : ByteArray) (hu : u.size ≤ 1000000) (w : World) : Calls Tryd.prog 39 #[.string u, .string ⟨#[63]⟩] w fun e w' => e = .returned (.int .i64 (zzi u.data.toList 0)) ∧ Below w.heap.size w w' := by
  have hl : u.size = u.data.toList.length := Lib.size_eq u
  have HL := Lib.hid hl
  clear hl
  go_enter Tryd.func39, Tryd.ntmps39
  go_wp2
  go_loop [5] (fun i => ∃ k : Nat, i = .int .i64 k ∧ k ≤ u.size ∧ Hid (∀ j, j < k → u.data.toList[j]? ≠ some 63)) (fun i => u.size - (intOf i).toNat)
  case atStart => exact ⟨0, rfl, Nat.zero_le _, Lib.hid (fun j h => absurd h (Nat.not_lt_zero _))⟩
  case round =>
    obtain ⟨k, rfl, hk, HN⟩ := hrel
    by_cases hlt : k < u.size
    · have hc := cut_one hlt
      have hx : u.data.toList[k]? = some (u[k]'hlt) := by
        rw [List.getElem?_eq_getElem (by rw [← HL.out]; exact hlt)]; rfl
      have HX := Lib.hid hx
      clear hx
      by_cases h63 : (u[k]'hlt) = 63
      · have he : ((u.extract k (k + 1)).toList == [63]) = true := by rw [hc, h63]; rfl
        have hz : zzi u.data.toList 0 = k := zzi_at HN.out (by rw [HX.out, h63])
        clear hc h63 HX
        have HZ := Lib.hid hz
        clear hz
        go_wp2
        go_ret
        exact ⟨by rw [HZ.out]; rfl, Below.refl _ _⟩
      · have he : ((u.extract k (k + 1)).toList == [63]) = false := by
          rw [hc, beq_eq_false_iff_ne]
          exact fun e => h63 (List.cons.inj e).1
        clear hc
        have HN2 : Hid (∀ j, j < k + 1 → u.data.toList[j]? ≠ some 63) := Lib.hid fun j hj e => by
          rcases Nat.lt_succ_iff_lt_or_eq.1 hj with h | h
          · exact HN.out j h e
          · subst h
            rw [HX.out] at e
            exact h63 (Option.some.inj e)
        clear h63 HX HN
        go_wp2
        go_round
        case rel => exact ⟨k + 1, by go_num, by omega, HN2⟩
        case measure => simp [intOf]; omega
    · have hz : zzi u.data.toList 0 = -1 := zzi_none fun j hj => HN.out j (by have := HL.out; omega)
      have HZ := Lib.hid hz
      clear hz HN
      go_wp2
      go_ret
      exact ⟨by rw [HZ.out]; rfl, Below.refl _ _⟩
end Go.Proofs.YtkddkmiomhadaaaDoor
