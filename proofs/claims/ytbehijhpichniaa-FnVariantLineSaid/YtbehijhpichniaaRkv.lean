/- The walk of pub/m3u8.reKeyValue. -/
import Derived.Test.YtbehijhpichniaaKvp
import Derived.Test.YtbehijhpichniaaKvs
namespace Go.Proofs.Ytbehijhpichniaa
open Go.RowKit
def Tr.two (t : Tr) : List UInt8 × List UInt8 := (t.name.data.toList, t.value.data.toList)
/-- What pub/m3u8.reKeyValue hands back. -/
def KvPost (s : ByteArray) (w : World) (e : Ending) (w' : World) : Prop := ∃ (sp : Value) (L : List Tr), e = .returned sp ∧ L.map Tr.two = kvAll s.data.toList ∧ L.length ≤ s.size ∧ Own prT 37 2 w' w.heap.size sp L ∧ Below w.heap.size w w'
/-- Between two rounds. -/
structure Rk (s : ByteArray) (w : World) (sp : Value) (p : Nat) (L : List Tr) (wx : World) : Prop where
  kv : kvAll s.data.toList = L.map Tr.two ++ kvAll (s.data.toList.drop p)
  len : L.length ≤ p
  own : Own prT 37 2 wx w.heap.size sp L
  below : Below w.heap.size w wx
theorem Rk.skip {s : ByteArray} {w : World} {sp : Value} {p q : Nat} {L : List Tr} {wx : World} (h : Rk s w sp p L wx) (hq : p ≤ q) (e : kvAll (s.data.toList.drop p) = kvAll (s.data.toList.drop q)) : Rk s w sp q L wx :=
  ⟨by rw [h.kv, e], Nat.le_trans h.len hq, h.own, h.below⟩
theorem Rk.pair {s x y : ByteArray} {w : World} {sp sp' : Value} {p q : Nat} {L : List Tr} {wx wy : World} (h : Rk s w sp p L wx) (hq : p < q) (e : kvAll (s.data.toList.drop p) = (x.data.toList, y.data.toList) :: kvAll (s.data.toList.drop q))
    (h2 : Own prT 37 2 wy w.heap.size sp' (L ++ [⟨x, y, false⟩])) (o : Only (fun g => sp.ownBlock = some g) wx wy) : Rk s w sp' q (L ++ [⟨x, y, false⟩]) wy := by
  refine ⟨?_, ?_, h2, h.below.trans (o.below h.below.size fun g hg e => ?_)⟩
  · rw [h.kv, e]; simp [Tr.two]
  · have := h.len; rw [List.length_append]; simp; omega
  · have := (h.own.block_lt g e).1; omega
set_option maxRecDepth 100000 in
set_option maxHeartbeats 8000000 in
theorem keyValue_any (s : ByteArray) (w : World) (hs : s.size ≤ 1000000) : Calls Try.prog 23 #[.string s] w (KvPost s w) := by
  have hl : s.data.toList.length = s.size := len_data s
  go_enter Try.func23, Try.ntmps23
  go_wp2
  go_loopg [3, 4] (s.size) (fun m sp i wx => ∃ (p : Nat) (L : List Tr), p ≤ s.size ∧ m = s.size - p ∧ i = .int .i64 p ∧ Rk s w sp p L wx)
  case atStart => exact ⟨0, [], Nat.zero_le _, rfl, rfl, by simp, Nat.le_refl _, Own.nil _ _ _ _ _, Below.refl _ _⟩
  case round =>
    obtain ⟨p, L, hp, rfl, rfl, hR⟩ := hrel
    by_cases hlt : p < s.size
    · obtain ⟨e, he⟩ : ∃ e, e = p + skip nameB (s.data.toList.drop p) := ⟨_, rfl⟩
      have hee : e ≤ s.size := by have := skip_le nameB (s.data.toList.drop p); rw [List.length_drop, hl] at this; omega
      have HE := Lib.hid he
      have hpe : p ≤ e := by omega
      clear he
      go_wp2_with fail
      go_loop [5] (fun i => ∃ j : Nat, i = .int .i64 j ∧ j ≤ s.size ∧ Hid (e = j + skip nameB (s.data.toList.drop j))) (fun i => s.size - (intOf i).toNat)
      case atStart => exact ⟨p, rfl, hp, HE⟩
      case round =>
        obtain ⟨j, rfl, hj, HJ⟩ := hrel
        by_cases hjl : j < s.size
        · have hbj := byte_get hjl
          cases hb : nameB (s[j]'hjl)
          · obtain rfl : e = j := skip_stop hbj hb HJ.out
            clear HJ
            by_cases hjp : e = p
            · subst hjp
              have hk := hR.skip (q := e + 1) (by omega) (by rw [kv_skip (by omega) HE.out (.inl rfl), Nat.max_eq_right (by omega)])
              clear hR HE hbj
              go_wp2_with (go_at_call 35; refine (nameByte_any _ _).mono ?_; rintro e' w' ⟨rfl, rfl⟩; rw [hb])
              go_roundg (s.size - (e + 1))
              case measure => omega
              case rel => exact ⟨e + 1, L, by omega, rfl, by go_num, hk⟩
            · have d1 : ((e : Int) == (p : Int)) = false := by rw [beq_eq_false_iff_ne]; omega
              have d2 : ((e : Int) == (s.size : Int)) = false := by rw [beq_eq_false_iff_ne]; omega
              by_cases hq : (s[e]'hjl).toNat = 61
              · have hq61 : s.data.toList[e]? = some 61 := by rw [hbj, byte_eq hq]; rfl
                clear hbj
                have d3 : (((s[e]'hjl).toNat : Int) == 61) = true := by rw [beq_iff_eq]; omega
                have d4 : (((s[e]'hjl).toNat : Int) != 61) = false := by rw [bne, d3]; rfl
                clear hq
                go_upto_region 9 with (go_at_call 35; refine (nameByte_any _ _).mono ?_; rintro e' w' ⟨rfl, rfl⟩; rw [hb])
                clear d1 d2 d3 d4 hb
                obtain ⟨v, hv⟩ : ∃ v, v = valueOf (s.data.toList.drop (e + 1)) := ⟨_, rfl⟩
                have hvl : e + 1 + v ≤ s.size := by have := valueOf_le (s.data.toList.drop (e + 1)); rw [List.length_drop, hl] at this; omega
                have hzl : (s.extract (e + 1) s.size).data.toList = s.data.toList.drop (e + 1) := by rw [extract_list, List.take_of_length_le (by rw [List.length_drop, hl]; exact Nat.le_refl _)]
                have hzs : (s.extract (e + 1) s.size).size ≤ 1000000000 := by rw [← len_data, hzl, List.length_drop, hl]; omega
                have hva := fun w => value_any (s.extract (e + 1) s.size) w hzs
                rw [hzl, ← hv] at hva
                have hva := Lib.hid hva
                clear hzl hzs
                have HV := Lib.hid hv
                clear hv
                have hn1 : (e : Int) + 1 ≤ s.size := by omega
                go_upto_region 10 with (go_at_call 36; refine (hva.out _).mono ?_; rintro e' w' ⟨rfl, rfl⟩)
                clear hva
                by_cases hv0 : v = 0
                · have hk := hR.skip (q := e + 1) (by omega) (kv_zero (by omega) HE.out hjp (by rw [hl]; omega) hq61 (by have := HV.out; omega))
                  subst hv0
                  clear hR HE HV hq61
                  go_wp2_with fail
                  go_roundg (s.size - (e + 1))
                  case measure => omega
                  case rel => exact ⟨e + 1, L, by omega, rfl, by go_num, hk⟩
                · have hkv := kv_pair (l := s.data.toList) (by omega) HE.out hjp (by rw [hl]; omega) hq61 HV.out hv0
                  have hx : (s.extract p e).data.toList = (s.data.toList.drop p).take (e - p) := extract_list _ _ _
                  have hy : (s.extract (e + 1) (e + 1 + v)).data.toList = (s.data.toList.drop (e + 1)).take v := by rw [extract_list]; congr 1; omega
                  rw [← hx, ← hy] at hkv
                  have hkv := Lib.hid hkv
                  have hv0' : ((v : Int) == 0) = false := by rw [beq_eq_false_iff_ne]; omega
                  clear hx hy HE hq61 HV
                  go_upto_region 12 with fail
                  refine kvpush (s := s) (p := p) (e := e) (v := v) (B := w.heap.size) (L := L) ?_ ?_ ?_ ?_ ?_ ?_ rfl rfl hpe hvl hs hR.own hR.below.size (by have := hR.len; omega) ?_
                  · rfl
                  · rfl
                  · rfl
                  · rfl
                  · rfl
                  · rfl
                  intro y52 y53 y54 y55 y56 y57 y58 y59 y60 y61 y62 y63 y64 y65 y66 sp' w2 ho2 hon2
                  have hk := hR.pair (q := e + 1 + v) (by omega) hkv.out ho2 hon2
                  clear hR hkv ho2 hon2
                  go_frame
                  go_wp2_with fail
                  go_roundg (s.size - (e + 1 + v))
                  case measure => omega
                  case rel => exact ⟨e + 1 + v, _, by omega, rfl, by go_num, hk⟩
              · have hk := hR.skip (q := e) (by omega) (by rw [kv_skip (by omega) HE.out (.inr (.inr (by rw [hbj]; intro e1; exact hq (by rw [Option.some.inj e1]; rfl)))), Nat.max_eq_left (by omega)])
                have hne : ¬ e = s.size := by omega
                clear hR HE hbj
                have d3 : (((s[e]'hjl).toNat : Int) == 61) = false := by rw [beq_eq_false_iff_ne]; omega
                have d4 : (((s[e]'hjl).toNat : Int) != 61) = true := by rw [bne, d3]; rfl
                have hmx : max (e : Int) ((p : Int) + 1) = e := by omega
                go_wp2_with (go_at_call 35; refine (nameByte_any _ _).mono ?_; rintro e' w' ⟨rfl, rfl⟩; rw [hb])
                go_roundg (s.size - e)
                case measure => omega
                case rel => exact ⟨e, L, by omega, rfl, by go_num, hk⟩
          · have hn := Lib.hid (skip_step hbj hb HJ.out)
            clear HJ hbj
            go_wp2_with (go_at_call 35; refine (nameByte_any _ _).mono ?_; rintro e w' ⟨rfl, rfl⟩; rw [hb])
            go_round
            case rel => exact ⟨j + 1, by go_num, by omega, hn⟩
            case measure => simp [intOf]; omega
        · obtain rfl : j = s.size := by omega
          obtain rfl : e = s.size := skip_end (Nat.le_of_eq hl) HJ.out
          have hk := hR.skip (q := s.size) (by omega) (by rw [kv_skip (by omega) HE.out (.inr (.inl hl.symm)), Nat.max_eq_left (by omega)])
          have hne : ¬ s.size = p := by omega
          clear hR HE HJ
          have hmx : max (s.size : Int) ((p : Int) + 1) = s.size := by omega
          go_wp2_with fail
          go_roundg (s.size - s.size)
          case measure => omega
          case rel => exact ⟨s.size, L, by omega, rfl, by go_num, hk⟩
    · obtain rfl : p = s.size := by omega
      clear hlt hs
      go_wp2
      go_ret
      refine ⟨_, L, rfl, ?_, hR.len, hR.own, hR.below⟩
      have := hR.kv
      rw [kv_end (Nat.le_of_eq hl), List.append_nil] at this
      exact this.symm
end Go.Proofs.Ytbehijhpichniaa
