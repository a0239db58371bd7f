/- Joined: Pt, Pb, Pc, Pd, Pe, Pk. -/
import Derived.Test.YtflppablgdegcaaGreatDoorR27
namespace Go.Proofs.YtflppablgdegcaaGreatDoor
open Go.RowKit
def qbB (m k z : Nat) : Bool := if k = 0 then z == floatOfInt .f64 (m : Int) else match p10bits[k]? with
 | some p => floatBits .quo .f64 (floatOfInt .f64 (m : Int)) p == some z
 | none => false
def fOK (l : List UInt8) (z : Nat) : Bool := Rf.z.go l && decide (l.length ≤ 30) && (if (Rf.of l).m = 0 then z == 0 else
 decide ((Rf.of l).exp = -(((-(Rf.of l).exp).toNat : Nat) : Int)) && decide ((-(Rf.of l).exp).toNat ≤ 22) && decide ((Rf.of l).m < 4503599627370496) && qbB (Rf.of l).m (-(Rf.of l).exp).toNat z)
theorem fOK_of {l : List UInt8} {z : Nat} (h : fOK l z = true) : FloatOf ⟨l.toArray⟩ z := by
 unfold fOK at h
 simp only [Bool.and_eq_true, decide_eq_true_eq] at h
 obtain ⟨⟨h1, h2⟩, h3⟩ := h
 have hN : numB ⟨l.toArray⟩ = true := by
  unfold numB
  rw [list_of, size_of, h1]
  simpa using h2
 by_cases h0 : (Rf.of l).m = 0
 ·rw [if_pos h0] at h3
  exact .inr ⟨hN, by rw [list_of]; exact h0, by simpa using h3⟩
 ·rw [if_neg h0] at h3
  simp only [Bool.and_eq_true, decide_eq_true_eq] at h3
  obtain ⟨⟨⟨h4, h5⟩, h6⟩, h7⟩ := h3
  refine .inl ⟨hN, (-(Rf.of l).exp).toNat, by rw [list_of]; exact h4, h5, by rw [list_of]; exact h6, by rw [list_of]; exact h0, ?_⟩
  rw [list_of]
  unfold qbB at h7
  split at h7
  ·rename_i hk
   exact .inl ⟨hk, by simpa using h7⟩
  ·rename_i hk
   split at h7
   ·rename_i p hp
    exact .inr ⟨by omega, h5, p, hp, by simpa using h7⟩
   ·cases h7
def d2 (n : Nat) : List UInt8 := if n < 10 then [UInt8.ofNat (48 + n)] else [UInt8.ofNat (48 + n / 10), UInt8.ofNat (48 + n % 10)]
theorem dec_d2 {n : Nat} (h : n < 100) : (dec n).data.toList = d2 n := by
 unfold d2
 split
 ·rename_i h1; rw [dec_small h1]
 ·rename_i h1
  rw [dec_large h1, data_app, dec_small (by omega)]
  rfl
def sx (e : Nat) : List UInt8 := d2 (e / 8) ++ [46] ++ d2 (e % 8 * 125 / 100) ++ d2 (e % 8 * 125 / 10 % 10) ++ d2 (e % 8 * 125 % 10)
theorem secs_sx {e : Nat} (h : e < 800) : (secs e).data.toList = sx e := by
 unfold secs sx
 rw [data_app, data_app, data_app, data_app, dec_d2 (by omega), dec_d2 (by omega), dec_d2 (by omega), dec_d2 (by omega)]
theorem shorts_sx {e : Nat} (h : e < 800) : (shorts e).data.toList = stripP (stripZ (sx e)) := by
 unfold shorts
 rw [list_of, secs_sx h]
theorem tab_sx : ((List.range 160).all fun e => fOK (sx e) (e8 e)) = true := by decide +kernel
theorem tab_sh : ((List.range 301).all fun e => e == 0 || fOK (stripP (stripZ (sx e))) (e8 e)) = true := by decide +kernel
theorem tab_tg : ((List.range 70).all fun t => decide (t < 20) || fOK (d2 t) (floatOfInt .f64 (t : Int))) = true := by decide +kernel
theorem tab_eig : ((List.range 301).all fun e => (floatBits .mul .f64 (e8 e) 4620693217682128896 == some (m8 (e8 e))) && (FloatKind.f64.format.order (m8 (e8 e)) (floatOfInt .f64 (e : Int)) == some .eq)) = true := by decide +kernel
theorem tab_eq : ((List.range 70).all fun t => decide (t < 20) || !(FloatKind.f64.format.order (floatOfInt .f64 (t : Int)) (floatOfInt .f64 (t : Int)) != some .eq)) = true := by decide +kernel
theorem tab_lt : ((List.range 70).all fun t => decide (t < 20) || (List.range 160).all fun e => !(FloatKind.f64.format.order (floatOfInt .f64 (t : Int)) (e8 e) == some .lt)) = true := by decide +kernel
theorem secs_float {e : Nat} (h : e < 160) : FloatOf (secs e) (e8 e) := by
 have h1 := fOK_of (List.all_eq_true.1 tab_sx e (List.mem_range.2 h))
 rw [← secs_sx (by omega), ba_of] at h1
 exact h1
theorem shorts_float {e : Nat} (h0 : 0 < e) (h : e ≤ 300) : FloatOf (shorts e) (e8 e) := by
 have h1 := List.all_eq_true.1 tab_sh e (List.mem_range.2 (by omega))
 rw [Bool.or_eq_true] at h1
 rcases h1 with h1 | h1
 ·simp at h1; omega
 ·have h2 := fOK_of h1
  rw [← shorts_sx (by omega), ba_of] at h2
  exact h2
theorem tgt_float {t : Nat} (h0 : 20 ≤ t) (h : t < 70) : FloatOf (dec t) (floatOfInt .f64 (t : Int)) := by
 have h1 := List.all_eq_true.1 tab_tg t (List.mem_range.2 h)
 rw [Bool.or_eq_true] at h1
 rcases h1 with h1 | h1
 ·simp at h1; omega
 ·have h2 := fOK_of h1
  rw [← dec_d2 (by omega), ba_of] at h2
  exact h2
theorem floats_ok : FloatsOk := by
 constructor
 ·intro t h0 h
  have h1 := List.all_eq_true.1 tab_eq t (List.mem_range.2 h)
  rw [Bool.or_eq_true] at h1
  rcases h1 with h1 | h1
  ·simp at h1; omega
  ·rw [Bool.not_eq_true'] at h1; exact h1
 ·intro e h
  have h1 := List.all_eq_true.1 tab_eig e (List.mem_range.2 (by omega))
  rw [Bool.and_eq_true] at h1
  exact ⟨by simpa using h1.1, h1.2⟩
theorem dur_le {t e : Nat} (h0 : 20 ≤ t) (h : t < 70) (he : e < 160) : (FloatKind.f64.format.order (floatOfInt .f64 (t : Int)) (e8 e) == some .lt) = false := by
 have h1 := List.all_eq_true.1 tab_lt t (List.mem_range.2 h)
 rw [Bool.or_eq_true] at h1
 rcases h1 with h1 | h1
 ·simp at h1; omega
 ·have h2 := List.all_eq_true.1 h1 e (List.mem_range.2 he)
  rw [Bool.not_eq_true'] at h2
  exact h2
theorem e8_zero : e8 0 = 0 := by decide +kernel
theorem ext_pre {pre rest : List UInt8} {n : Nat} (hn : pre.length = n) : (⟨(pre ++ rest).toArray⟩ : ByteArray).extract n (⟨(pre ++ rest).toArray⟩ : ByteArray).size = ⟨rest.toArray⟩ := ba_eq (by
 rw [ext_list _ _ _ (Nat.le_refl _), ← len_list, List.take_length]
 subst hn
 simp)
theorem ext_mid {pre mid rest : List UInt8} {n m : Nat} (hn : pre.length = n) (hm : n + mid.length = m) : (⟨(pre ++ (mid ++ rest)).toArray⟩ : ByteArray).extract n m = ⟨mid.toArray⟩ := ba_eq (by
 subst hn hm
 rw [ext_list _ _ _ (by rw [size_of]; simp)]
 simp [List.take_append])
theorem sgn_at {s : ByteArray} (h : Sgn s.data.toList) : ∀ i (hi : i < s.size), (s[i]'hi).toNat ≠ 32 ∧ (s[i]'hi).toNat ≠ 9 := fun i hi => by
 have := (h _ (List.mem_of_getElem? (at_list hi))).1
 omega
abbrev LnOk (B : Nat) (G : Ge) (ln : List UInt8) (r r' : Rst) : Prop := StepOk B G ⟨(ln ++ [10]).toArray⟩ r r'
section
variable {B : Nat} {G : Ge} {r : Rst}
theorem pre_size {p q : List UInt8} {n : Nat} (h : n ≤ p.length) : n ≤ (⟨(p ++ q).toArray⟩ : ByteArray).size := by rw [size_of, List.length_append]; omega
def c_m3u : List UInt8 := [35, 69, 88, 84, 77, 51, 85]
theorem lin_m3u : Lin c_m3u := (sgn_of (by decide)).lin (by decide)
theorem p_m3u : LnOk B G c_m3u r ({ r with m3 := true }) := st_m3u (L := ⟨c_m3u.toArray⟩) (Lin.size (by decide)) lin_m3u.asc lin_m3u.trimA (list_of _) 
def c_end : List UInt8 := [35, 69, 88, 84, 45, 88, 45, 69, 78, 68, 76, 73, 83, 84]
theorem lin_end : Lin c_end := (sgn_of (by decide)).lin (by decide)
theorem p_end : LnOk B G c_end r ({ r with closed := true }) := st_end (L := ⟨c_end.toArray⟩) (Lin.size (by decide)) lin_end.asc lin_end.trimA (list_of _) 
def c_disc : List UInt8 := [35, 69, 88, 84, 45, 88, 45, 68, 73, 83, 67, 79, 78, 84, 73, 78, 85, 73, 84, 89]
theorem lin_disc : Lin c_disc := (sgn_of (by decide)).lin (by decide)
theorem p_disc (h : r.dis = false) : LnOk B G c_disc r ({ r with dis := true }) := st_disc (L := ⟨c_disc.toArray⟩) (Lin.size (by decide)) lin_disc.asc lin_disc.trimA (list_of _) h
def c_ifr : List UInt8 := [35, 69, 88, 84, 45, 88, 45, 73, 45, 70, 82, 65, 77, 69, 83, 45, 79, 78, 76, 89]
theorem lin_ifr : Lin c_ifr := (sgn_of (by decide)).lin (by decide)
theorem p_ifr (h : r.dis = false) : LnOk B G c_ifr r ({ r with iframe := true }) := st_ifr (L := ⟨c_ifr.toArray⟩) (Lin.size (by decide)) lin_ifr.asc lin_ifr.trimA (list_of _) h
def c_ev : List UInt8 := [35, 69, 88, 84, 45, 88, 45, 80, 76, 65, 89, 76, 73, 83, 84, 45, 84, 89, 80, 69, 58, 69, 86, 69, 78, 84]
theorem lin_ev : Lin c_ev := (sgn_of (by decide)).lin (by decide)
theorem p_ev : LnOk B G c_ev r ({ r with typ := 1 }) := st_ev (L := ⟨c_ev.toArray⟩) (Lin.size (by decide)) lin_ev.asc lin_ev.trimA (list_of _) (fun w => zzWord_any ⟨#[69, 86, 69, 78, 84]⟩ (by decide) (by decide) (sgn_at (sgn_of (by decide))) w)
def c_vod : List UInt8 := [35, 69, 88, 84, 45, 88, 45, 80, 76, 65, 89, 76, 73, 83, 84, 45, 84, 89, 80, 69, 58, 86, 79, 68]
theorem lin_vod : Lin c_vod := (sgn_of (by decide)).lin (by decide)
theorem p_vod : LnOk B G c_vod r ({ r with typ := 2 }) := st_vod (L := ⟨c_vod.toArray⟩) (Lin.size (by decide)) lin_vod.asc lin_vod.trimA (list_of _) (fun w => zzWord_any ⟨#[86, 79, 68]⟩ (by decide) (by decide) (sgn_at (sgn_of (by decide))) w)
def c_ver : List UInt8 := [35, 69, 88, 84, 45, 88, 45, 86, 69, 82, 83, 73, 79, 78, 58]
theorem lin_ver (n : Nat) : Lin (c_ver ++ (dec n).data.toList) := ((sgn_of (l := c_ver) (by decide)).app (dec_sgn n)).lin (by simp [c_ver])
theorem p_ver (n : Nat) (h : n ≤ 255) : LnOk B G (c_ver ++ (dec n).data.toList) r ({ r with ver := n }) := by
 have hl := dec_len (n := n) (by omega)
 refine st_ver (L := ⟨(c_ver ++ (dec n).data.toList).toArray⟩) (Lin.size (by rw [List.length_append]; have : c_ver.length = 15 := rfl; omega)) (lin_ver n).asc (lin_ver n).trimA (list_of _) (pre_size (Nat.le_of_eq rfl)) fun w hE => ?_
 rw [ext_pre (pre := c_ver) (n := 15) rfl, ba_of]
 exact zzUint8_ok (dec n) _ n h (by have := dec_le (n := n) (by omega); omega) (dec_first n) (by rw [dec_tok]; have := dec_pos n; omega) (by rw [dec_tok]; exact pu_dec n (by omega)) w
def c_seq : List UInt8 := [35, 69, 88, 84, 45, 88, 45, 77, 69, 68, 73, 65, 45, 83, 69, 81, 85, 69, 78, 67, 69, 58]
theorem lin_seq (n : Nat) : Lin (c_seq ++ (dec n).data.toList) := ((sgn_of (l := c_seq) (by decide)).app (dec_sgn n)).lin (by simp [c_seq])
theorem p_seq (n : Nat) (h : n < 4294967296) : LnOk B G (c_seq ++ (dec n).data.toList) r ({ r with seq := n }) := by
 have hl := dec_len (n := n) (by omega)
 refine st_seq (L := ⟨(c_seq ++ (dec n).data.toList).toArray⟩) (Lin.size (by rw [List.length_append]; have : c_seq.length = 22 := rfl; omega)) (lin_seq n).asc (lin_seq n).trimA (list_of _) (pre_size (Nat.le_of_eq rfl)) fun w hE => ?_
 rw [ext_pre (pre := c_seq) (n := 22) rfl, ba_of]
 exact zzUint64_ok (dec n) _ n (by have := dec_le (n := n) (by omega); omega) (dec_first n) (by rw [dec_tok]; have := dec_pos n; omega) (by rw [dec_tok]; exact pu_dec n (by omega)) w
def c_dsq : List UInt8 := [35, 69, 88, 84, 45, 88, 45, 68, 73, 83, 67, 79, 78, 84, 73, 78, 85, 73, 84, 89, 45, 83, 69, 81, 85, 69, 78, 67, 69, 58]
theorem lin_dsq (n : Nat) : Lin (c_dsq ++ (dec n).data.toList) := ((sgn_of (l := c_dsq) (by decide)).app (dec_sgn n)).lin (by simp [c_dsq])
theorem p_dsq (n : Nat) (h : n < 1000) : LnOk B G (c_dsq ++ (dec n).data.toList) r ({ r with disc := n }) := by
 have hl := dec_len (n := n) (by omega)
 refine st_dsq (L := ⟨(c_dsq ++ (dec n).data.toList).toArray⟩) (Lin.size (by rw [List.length_append]; have : c_dsq.length = 30 := rfl; omega)) (lin_dsq n).asc (lin_dsq n).trimA (list_of _) (pre_size (Nat.le_of_eq rfl)) fun w hE => ?_
 rw [ext_pre (pre := c_dsq) (n := 30) rfl, ba_of]
 exact zzUint64_ok (dec n) _ n (by have := dec_le (n := n) (by omega); omega) (dec_first n) (by rw [dec_tok]; have := dec_pos n; omega) (by rw [dec_tok]; exact pu_dec n (by omega)) w
def c_tgt : List UInt8 := [35, 69, 88, 84, 45, 88, 45, 84, 65, 82, 71, 69, 84, 68, 85, 82, 65, 84, 73, 79, 78, 58]
theorem lin_tgt (n : Nat) : Lin (c_tgt ++ (dec n).data.toList) := ((sgn_of (l := c_tgt) (by decide)).app (dec_sgn n)).lin (by simp [c_tgt])
theorem p_tgt (n : Nat) (h0 : 20 ≤ n) (h : n < 70) : LnOk B G (c_tgt ++ (dec n).data.toList) r ({ r with tgt := floatOfInt .f64 (n : Int) }) := by
 have hl := dec_len (n := n) (by omega)
 refine st_tgt (L := ⟨(c_tgt ++ (dec n).data.toList).toArray⟩) (Lin.size (by rw [List.length_append]; have : c_tgt.length = 22 := rfl; omega)) (lin_tgt n).asc (lin_tgt n).trimA (list_of _) (pre_size (Nat.le_of_eq rfl)) fun w hE => ?_
 rw [ext_pre (pre := c_tgt) (n := 22) rfl, ba_of]
 have h1 : runN (inS pms) (dec n) = 0 := by
  have := runN_none (p := inS pms) (l := (dec n).data.toList) (fun x hx => (digs_in ((dec_isD n).2 x hx)).2)
  rwa [ba_of] at this
 have h2 : runN isD (dec n) = (dec n).size := by
  have := runN_all (p := isD) (l := (dec n).data.toList) (dec_isD n).2
  rwa [ba_of, len_list] at this
 exact zzFloat_ok (dec n) _ _ (by have := dec_le (n := n) (by omega); omega) (dec_first n) h1 h2 (tgt_float h0 h) w hE
end
theorem zix_app {p q : List UInt8} {c : UInt8} (h : ∀ x ∈ p, x ≠ c) : zix ⟨(p ++ c :: q).toArray⟩ c = ((p.length : Nat) : Int) := by
 have hsz : (⟨(p ++ c :: q).toArray⟩ : ByteArray).size = p.length + (q.length + 1) := by rw [size_of, List.length_append, List.length_cons]
 have hget : ∀ (j : Nat) (hj : j < (⟨(p ++ c :: q).toArray⟩ : ByteArray).size) (b : UInt8), (p ++ c :: q)[j]? = some b → (⟨(p ++ c :: q).toArray⟩ : ByteArray)[j]'hj = b := by
  intro j hj b hb
  have h1 := at_list hj
  rw [list_of, hb] at h1
  exact (Option.some.inj h1).symm
 have hlt : p.length < (⟨(p ++ c :: q).toArray⟩ : ByteArray).size := by omega
 refine zix_hit hlt (hget _ hlt c (by rw [List.getElem?_append_right (Nat.le_refl _), Nat.sub_self]; rfl)) fun j hj hjp => ?_
 have hjl : j < p.length := hjp
 have h1 : (p ++ c :: q)[j]? = some (p[j]'hjl) := by rw [List.getElem?_append_left hjl, List.getElem?_eq_getElem hjl]
 rw [hget j hj _ h1]
 exact h _ (List.getElem_mem hjl)
theorem ext_head {p q : List UInt8} : (⟨(p ++ q).toArray⟩ : ByteArray).extract 0 p.length = ⟨p.toArray⟩ := ba_eq (by
 rw [ext_list _ _ _ (by rw [size_of, List.length_append]; omega)]
 simp)
theorem ext_tail {p q : List UInt8} {c : UInt8} : (⟨(p ++ c :: q).toArray⟩ : ByteArray).extract (p.length + 1) (⟨(p ++ c :: q).toArray⟩ : ByteArray).size = ⟨q.toArray⟩ := by
 have h := ext_pre (pre := p ++ [c]) (rest := q) (n := p.length + 1) (by simp)
 rw [List.append_assoc, List.singleton_append] at h
 exact h
theorem pm_dec (n : Nat) (h : n < 18446744073709551616) : Lib.parseUintM 18446744073709551615 0 (dec n).data.toList = .ok n := by
 rw [Lib.parseUintM_64]
 exact pu_dec n h
theorem pi_dec {n : Nat} (h : n < 9223372036854775808) : Lib.parseIntB 64 (dec n).data.toList = .ok (n : Int) := by
 obtain ⟨c, r, hl⟩ : ∃ c r, (dec n).data.toList = c :: r := by
  cases hq : (dec n).data.toList with
  | nil => exact absurd hq (dec_ne n)
  | cons c r => exact ⟨c, r, rfl⟩
 have hc := isD_nat ((dec_isD n).2 c (by rw [hl]; exact List.mem_cons_self))
 have hp := pm_dec n (by omega)
 unfold Lib.parseIntB
 rw [hl]
 simp only
 rw [if_neg (by omega)]
 unfold Lib.parseUintB
 rw [if_neg (by simp), ← hl, show (2 ^ 64 - 1 : Nat) = 18446744073709551615 from rfl, hp]
 simp only
 rw [if_neg (by rintro ⟨_, h2⟩; have h2 : 9223372036854775808 ≤ n := h2; omega), if_neg (by rintro ⟨h2, _⟩; omega), if_neg (by omega)]
theorem parseInt_dec {n : Nat} (h : n < 9223372036854775808) (w : World) : Calls Tryz.prog 75 #[.string (dec n), .int .i64 10, .int .i64 64] w fun e w' => e = .returned (.tuple #[.int .i64 ((n : Nat) : Int), .nilIface]) ∧ Below w.heap.size w w' :=
 parseInt_ok (dec n) n (by have := dec_pos n; omega) (by have := dec_le (n := n) (by omega); omega) (pi_dec h) w
section
variable {B : Nat} {G : Ge} {r : Rst}
def c_date : List UInt8 := [35, 69, 88, 84, 45, 88, 45, 80, 82, 79, 71, 82, 65, 77, 45, 68, 65, 84, 69, 45, 84, 73, 77, 69, 58]
theorem lin_date {d : ByteArray} (h : Sgn d.data.toList) : Lin (c_date ++ d.data.toList) := ((sgn_of (l := c_date) (by decide)).app h).lin (by simp [c_date])
theorem p_date {d : ByteArray} (h : Sgn d.data.toList) (hz : d.size ≤ 100) (hd : r.dat = false) : LnOk B G (c_date ++ d.data.toList) r { r with dat := true, dateV := d } := by
 have hs := st_date (B := B) (G := G) (r := r) (L := ⟨(c_date ++ d.data.toList).toArray⟩) (Lin.size (by rw [List.length_append, len_list]; have : c_date.length = 25 := rfl; omega)) (lin_date h).asc (lin_date h).trimA (list_of _) hd (pre_size (Nat.le_of_eq rfl))
 rw [ext_pre (pre := c_date) (n := 25) rfl, ba_of] at hs
 exact hs
def c_range : List UInt8 := [35, 69, 88, 84, 45, 88, 45, 66, 89, 84, 69, 82, 65, 78, 71, 69, 58]
def t_range (l o : Nat) : List UInt8 := (dec l).data.toList ++ 64 :: (dec o).data.toList
theorem dec_ne_c {n : Nat} {c : UInt8} (hc : c.toNat < 48 ∨ 57 < c.toNat) : ∀ x ∈ (dec n).data.toList, x ≠ c := by
 rintro x hx rfl
 have := isD_nat ((dec_isD n).2 x hx)
 omega
theorem t_range_sgn (l o : Nat) : Sgn (t_range l o) := (dec_sgn l).app (fun x hx => by
 rcases List.mem_cons.1 hx with rfl | hx
 ·exact ⟨by decide, by decide⟩
 ·exact dec_sgn o x hx)
theorem t_range_len {l o : Nat} (hl : l < 9223372036854775808) (ho : o < 9223372036854775808) : (t_range l o).length ≤ 41 := by
 unfold t_range
 have h1 := dec_len (n := l) (by omega)
 have h2 := dec_len (n := o) (by omega)
 rw [List.length_append, List.length_cons]
 omega
theorem lin_range (l o : Nat) : Lin (c_range ++ t_range l o) := ((sgn_of (l := c_range) (by decide)).app (t_range_sgn l o)).lin (by simp [c_range])
theorem p_range {l o : Nat} (hl : l < 9223372036854775808) (ho : o < 9223372036854775808) (hd : r.range = false) : LnOk B G (c_range ++ t_range l o) r { r with range := true, limit := l, offset := o } := by
 have hlen := t_range_len hl ho
 refine st_range (L := ⟨(c_range ++ t_range l o).toArray⟩) (t1 := dec l) (t2 := dec o) (Lin.size (by rw [List.length_append]; have : c_range.length = 17 := rfl; omega)) (lin_range l o).asc (lin_range l o).trimA (list_of _) (pre_size (Nat.le_of_eq rfl)) hd ?_ (parseInt_dec hl) (parseInt_dec ho)
 intro w
 rw [ext_pre (pre := c_range) (n := 17) rfl]
 have hix : zix ⟨(t_range l o).toArray⟩ 64 = (((dec l).data.toList.length : Nat) : Int) := zix_app (dec_ne_c (by decide))
 have h := zzCut_any ⟨(t_range l o).toArray⟩ _ (by rw [size_of]; omega) hix (by rw [size_of]; unfold t_range; rw [List.length_append, List.length_cons]; omega) w
 unfold t_range at h ⊢
 rw [ext_head, ext_tail, ba_of, ba_of] at h
 exact h
def c_inf : List UInt8 := [35, 69, 88, 84, 73, 78, 70, 58]
theorem d2_sgn {n : Nat} (h : n < 100) : Sgn (d2 n) := by rw [← dec_d2 h]; exact dec_sgn n
theorem d2_c {n : Nat} {c : UInt8} (h : n < 100) (hc : c.toNat < 48 ∨ 57 < c.toNat) : ∀ x ∈ d2 n, x ≠ c := by rw [← dec_d2 h]; exact dec_ne_c hc
theorem sx_sgn {e : Nat} (h : e < 800) : Sgn (sx e) := by
 unfold sx
 exact ((((d2_sgn (by omega)).app (sgn_of (by decide))).app (d2_sgn (by omega))).app (d2_sgn (by omega))).app (d2_sgn (by omega))
theorem sx_c {e : Nat} (h : e < 800) {c : UInt8} (hc : c.toNat < 46 ∨ 57 < c.toNat) : ∀ x ∈ sx e, x ≠ c := by
 unfold sx
 intro x hx
 rcases List.mem_append.1 hx with hx | hx
 ·rcases List.mem_append.1 hx with hx | hx
  ·rcases List.mem_append.1 hx with hx | hx
   ·rcases List.mem_append.1 hx with hx | hx
    ·exact d2_c (by omega) (by omega) x hx
    ·rw [List.mem_singleton.1 hx]; rintro rfl; revert hc; decide
   ·exact d2_c (by omega) (by omega) x hx
  ·exact d2_c (by omega) (by omega) x hx
 ·exact d2_c (by omega) (by omega) x hx
theorem d2_len (n : Nat) : (d2 n).length ≤ 2 ∧ d2 n ≠ [] := by unfold d2; split <;> simp
theorem sx_len (e : Nat) : (sx e).length ≤ 9 ∧ 0 < (sx e).length := by
 unfold sx
 have h1 := (d2_len (e / 8)).1
 have h2 := (d2_len (e % 8 * 125 / 100)).1
 have h3 := (d2_len (e % 8 * 125 / 10 % 10)).1
 have h4 := (d2_len (e % 8 * 125 % 10)).1
 simp only [List.length_append, List.length_singleton]
 omega
def t_inf (e : Nat) (t : ByteArray) : List UInt8 := (c_inf ++ sx e) ++ 44 :: t.data.toList
theorem lin_inf {e : Nat} {t : ByteArray} (he : e < 160) (ht : Sgs t.data.toList) (hl : ∀ b, t.data.toList.getLast? = some b → b ≠ 32) : Lin (t_inf e t) := by
 unfold t_inf
 refine lin_pre ((sgs_of (l := c_inf) (by decide)).app (sx_sgn (by omega)).sgs) (fun x hx => ?_) (fun b hb => ?_) (by simp [c_inf]) (fun b hb => ?_)
 ·rcases List.mem_cons.1 hx with rfl | hx
  ·exact ⟨by decide, by decide⟩
  ·exact ht x hx
 ·have : b = 35 := by simpa [c_inf] using hb.symm
  rw [this]; decide
 ·have hb := getLast_app hb (by simp)
  cases hq : t.data.toList with
  | nil =>
   rw [hq] at hb
   have : b = 44 := by simpa using hb.symm
   rw [this]; decide
  | cons x l =>
   rw [hq, List.getLast?_cons_cons, ← hq] at hb
   have h1 := (ht b (List.mem_of_getLast? hb)).1
   have h2 := hl b hb
   have h3 : b.toNat ≠ 32 := fun e => h2 (UInt8.toNat_inj.1 e)
   omega
theorem p_inf {e : Nat} {t : ByteArray} (he : e < 160) (ht : Sgs t.data.toList) (hl : ∀ b, t.data.toList.getLast? = some b → b ≠ 32) (hz : t.size ≤ 100) (hd : r.inf = false) : LnOk B G (t_inf e t) r { r with inf := true, dur := e8 e, title := t } := by
 have hl9 := sx_len e
 have hlen : (t_inf e t).length ≤ 200 := by
  unfold t_inf
  rw [List.length_append, List.length_append, List.length_cons, len_list]
  have : c_inf.length = 8 := rfl
  omega
 have hpl : (c_inf ++ sx e).length = 8 + (sx e).length := by rw [List.length_append]; rfl
 have hix : zix ⟨(t_inf e t).toArray⟩ 44 = (((c_inf ++ sx e).length : Nat) : Int) := zix_app (fun x hx => by
  rcases List.mem_append.1 hx with hx | hx
  ·exact (by decide : ∀ x ∈ c_inf, x ≠ 44) x hx
  ·exact sx_c (by omega) (by decide) x hx)
 have hs := st_inf (B := B) (G := G) (r := r) (L := ⟨(t_inf e t).toArray⟩) (rest := sx e ++ 44 :: t.data.toList) (z := e8 e) (Lin.size (by omega)) (lin_inf he ht hl).asc (lin_inf he ht hl).trimA (by rw [list_of]; unfold t_inf; rw [List.append_assoc]; rfl) hd hix (by omega) (by rw [size_of]; unfold t_inf; simp only [List.length_append, List.length_cons]; omega) (by rw [size_of]; omega) (by
  intro w hE
  have h1 : (⟨(t_inf e t).toArray⟩ : ByteArray).extract 8 (c_inf ++ sx e).length = secs e := by
   unfold t_inf
   rw [List.append_assoc, hpl, ext_mid (pre := c_inf) (mid := sx e) (n := 8) (m := 8 + (sx e).length) rfl rfl, ← secs_sx (by omega), ba_of]
  rw [h1]
  exact parseFloat_num _ _ (secs_float he) w hE)
 unfold t_inf at hs
 rw [ext_tail, ba_of] at hs
 exact hs
end
theorem wb_tab : (List.range 256).all (fun n => !wordByte (UInt8.ofNat n) || (decide (32 ≤ n) && decide (n < 128) && decide (n ≠ 34) && decide (n ≠ 44) && decide (n ≠ 35))) = true := by decide +kernel
theorem wb_facts {b : UInt8} (h : wordByte b = true) : 32 ≤ b.toNat ∧ b.toNat < 128 ∧ b.toNat ≠ 34 ∧ b.toNat ≠ 44 ∧ b.toNat ≠ 35 := by
 have h1 := List.all_eq_true.1 wb_tab b.toNat (List.mem_range.2 b.toNat_lt)
 rw [UInt8.ofNat_toNat, h] at h1
 simpa [and_assoc] using h1
theorem Word.sgs {k : Nat} {s : ByteArray} (h : Word k s) : Sgs s.data.toList := fun x hx => by have := wb_facts (h.bytes x hx); exact ⟨this.1, this.2.1⟩
structure Val (v : ByteArray) : Prop where
 ne : v.data.toList ≠ []
 sgs : Sgs v.data.toList
 quote : ∀ b ∈ v.data.toList, b ≠ 34
 comma : ∀ b ∈ v.data.toList, b ≠ 44
 first : ∀ b, v.data.toList.head? = some b → b ≠ 32
 last : ∀ b, v.data.toList.getLast? = some b → b ≠ 32
 size : v.size ≤ 100
theorem Val.good {n v : ByteArray} {q : Bool} (h : Val v) (h0 : n.data.toList ≠ []) (h1 : n.data.toList.all Q4.nameB = true) (h2 : n.size ≤ 100) : Q4.Tr.Good ⟨n, v, q⟩ :=
 ⟨h0, fun b hb => List.all_eq_true.1 h1 b hb, h.ne, h.quote, fun _ => h.comma, h.first, h.last, h2, h.size⟩
theorem toNat_ne {b : UInt8} {n : Nat} (h : b.toNat ≠ n) (hn : n < 256) : b ≠ UInt8.ofNat n := by
 rintro rfl
 apply h
 simp [UInt8.toNat_ofNat, Nat.mod_eq_of_lt hn]
theorem val_of {l : List UInt8} (h0 : l ≠ []) (hl : l.length ≤ 100) (h : ∀ x ∈ l, 33 ≤ x.toNat ∧ x.toNat < 128 ∧ x.toNat ≠ 34 ∧ x.toNat ≠ 44) : Val ⟨l.toArray⟩ := by
 have e : (⟨l.toArray⟩ : ByteArray).data.toList = l := list_of l
 refine ⟨by rw [e]; exact h0, by rw [e]; exact fun x hx => ⟨by have := (h x hx).1; omega, (h x hx).2.1⟩, by rw [e]; exact fun x hx => toNat_ne (h x hx).2.2.1 (by decide), by rw [e]; exact fun x hx => toNat_ne (h x hx).2.2.2 (by decide), ?_, ?_, by rw [size_of]; exact hl⟩
 ·rw [e]; intro b hb; exact toNat_ne (n := 32) (by have := (h b (List.mem_of_mem_head? hb)).1; omega) (by decide)
 ·rw [e]; intro b hb; exact toNat_ne (n := 32) (by have := (h b (List.mem_of_getLast? hb)).1; omega) (by decide)
theorem uri_list {u : ByteArray} (h : IsUri u) : ∃ s, Word 20 s ∧ u.data.toList = 117 :: (s.data.toList ++ [46, 116, 115]) := by
 obtain ⟨s, hs, rfl⟩ := h
 exact ⟨s, hs, by rw [data_app, data_app]; simp⟩
theorem IsUri.val {u : ByteArray} (h : IsUri u) : Val u := by
 have hsz := h.size
 obtain ⟨s, hs, e⟩ := uri_list h
 have hb : ∀ x ∈ u.data.toList, 32 ≤ x.toNat ∧ x.toNat < 128 ∧ x.toNat ≠ 34 ∧ x.toNat ≠ 44 ∧ x.toNat ≠ 35 := by
  rw [e]
  intro x hx
  rcases List.mem_cons.1 hx with rfl | hx
  ·decide
  ·rcases List.mem_append.1 hx with hx | hx
   ·exact wb_facts (hs.bytes x hx)
   ·simp only [List.mem_cons, List.not_mem_nil, or_false] at hx
    rcases hx with rfl | rfl | rfl <;> decide
 refine ⟨by rw [e]; simp, fun x hx => ⟨(hb x hx).1, (hb x hx).2.1⟩, fun x hx => toNat_ne (hb x hx).2.2.1 (by decide), fun x hx => toNat_ne (hb x hx).2.2.2.1 (by decide), ?_, ?_, by omega⟩
 ·intro b h; rw [e] at h; have : b = 117 := by simpa using h.symm
  rw [this]; decide
 ·intro b h; rw [e, show 117 :: (s.data.toList ++ [46, 116, 115]) = (117 :: s.data.toList) ++ [46, 116, 115] from rfl] at h
  have := getLast_app h (by simp)
  have : b = 115 := by simpa using this.symm
  rw [this]; decide
theorem Val.lin {v : ByteArray} (h : Val v) : Lin v.data.toList := ⟨h.ne, h.sgs, fun b hb => by
 have h1 := (h.sgs b (List.mem_of_mem_head? hb)).1
 have h2 := h.first b hb
 have : b.toNat ≠ 32 := fun e => h2 (UInt8.toNat_inj.1 e)
 omega, fun b hb => by
 have h1 := (h.sgs b (List.mem_of_getLast? hb)).1
 have h2 := h.last b hb
 have : b.toNat ≠ 32 := fun e => h2 (UInt8.toNat_inj.1 e)
 omega⟩
section
variable {B : Nat} {G : Ge} {r : Rst}
theorem uri_no {u : ByteArray} (h : IsUri u) : Lib.hasPrefix u.data.toList [35] = false := by
 obtain ⟨s, _, e⟩ := uri_list h
 exact hpf (pre := [117]) (rest := s.data.toList ++ [46, 116, 115]) e (by decide)
theorem p_uri {u : ByteArray} (h : IsUri u) (hinf : r.inf = true) (hky : r.ky = true → r.xkey.isSome = true) (hmp : r.mp = true → r.xmap.isSome = true) (hseq : r.seq ≤ 4294967296) (hfl : (FloatKind.f64.format.order r.tgt r.dur == some .lt) = false) (hn : r.segs.length ≤ 200) (hls : ∀ g, r.segs.getLast? = some g → g.seq = r.seq + (r.segs.length - 1)) : LnOk B G u.data.toList r (r.put u) := by
 have hsz := h.size
 have hs := st_uri (B := B) (G := G) (r := r) (L := ⟨u.data.toList.toArray⟩) (Lin.size (by rw [len_list]; omega)) h.val.lin.asc h.val.lin.trimA (by rw [list_of]; exact uri_no h) hinf hky hmp hseq hfl hn hls
 rw [ba_of] at hs
 exact hs
theorem p_none (hinf : r.inf = false) (hrange : r.range = false) (hdis : r.dis = false) (hdat : r.dat = false) (hky : r.ky = false) (hmp : r.mp = false) : StepOk B G ⟨([] : List UInt8).toArray⟩ r r :=
 st_none (L := ⟨([] : List UInt8).toArray⟩) (by decide) (asc_of (by simp)) rfl rfl hinf hrange hdis hdat hky hmp
def lnA (pre : List UInt8) (A : List Q4.Tr) : List UInt8 := pre ++ Q4.joinL (A.map Q4.Tr.text)
def Sga (A : List Q4.Tr) : Prop := ∀ t ∈ A, Val t.value ∧ t.name.data.toList ≠ [] ∧ t.name.data.toList.all Q4.nameB = true ∧ t.name.size ≤ 30 ∧ Sgn t.name.data.toList
theorem text_lin {t : Q4.Tr} (hv : Val t.value) (hn : Sgn t.name.data.toList) (h0 : t.name.data.toList ≠ []) : Lin t.text.data.toList := by
 unfold Q4.Tr.text attr
 split
 ·rw [data_app, data_app, data_app, List.append_assoc, List.append_assoc]
  refine lin_pre hn.sgs (((sgs_of (by decide)).app (hv.sgs.app (sgs_of (by decide))))) (fun b hb => (hn b (List.mem_of_mem_head? hb)).1) h0 fun b hb => ?_
  rw [← List.append_assoc, ← List.append_assoc] at hb
  have := getLast_app hb (by simp)
  have : b = 34 := by simpa using this.symm
  rw [this]; decide
 ·rw [data_app, data_app, List.append_assoc]
  refine lin_pre hn.sgs ((sgs_of (by decide)).app hv.sgs) (fun b hb => (hn b (List.mem_of_mem_head? hb)).1) h0 fun b hb => ?_
  rw [← List.append_assoc] at hb
  exact hv.lin.last b (getLast_app hb hv.ne)
theorem join_lin : ∀ (A : List Q4.Tr), A ≠ [] → Sga A → Lin (Q4.joinL (A.map Q4.Tr.text))
 | [], h, _ => absurd rfl h
 | [t], _, h => by
  obtain ⟨h1, h2, _, _, h3⟩ := h t List.mem_cons_self
  rw [List.map_singleton, Q4.joinL_one]
  exact text_lin h1 h3 h2
 | t :: u :: A, _, h => by
  obtain ⟨h1, h2, _, _, h3⟩ := h t List.mem_cons_self
  have ih := join_lin (u :: A) (by simp) (fun x hx => h x (List.mem_cons_of_mem _ hx))
  have ht := text_lin h1 h3 h2
  rw [List.map_cons, Q4.joinL_cons _ _ (by simp)]
  refine lin_pre ht.sgs (fun x hx => ?_) ht.first ht.ne fun b hb => ?_
  ·rcases List.mem_cons.1 hx with rfl | hx
   ·exact ⟨by decide, by decide⟩
   ·exact ih.sgs x hx
  ·have hb := getLast_app hb (by simp)
   cases hq : Q4.joinL ((u :: A).map Q4.Tr.text) with
   | nil => exact absurd hq ih.ne
   | cons x l => rw [hq, List.getLast?_cons_cons, ← hq] at hb; exact ih.last b hb
theorem lin_A {pre : List UInt8} {A : List Q4.Tr} (hp : Sgn pre) (h0 : pre ≠ []) (hA : A ≠ []) (h : Sga A) : Lin (lnA pre A) := by
 have ih := join_lin A hA h
 exact lin_pre hp.sgs ih.sgs (fun b hb => (hp b (List.mem_of_mem_head? hb)).1) h0 fun b hb => ih.last b (getLast_app hb ih.ne)
theorem join_len : ∀ (A : List Q4.Tr), Sga A → (Q4.joinL (A.map Q4.Tr.text)).length ≤ A.length * 140
 | [], _ => by simp [Q4.joinL]
 | t :: A, h => by
  obtain ⟨h1, _, _, h3, _⟩ := h t List.mem_cons_self
  have h4 := h1.size
  have h5 := attr_size t.name t.value t.q
  have h6 : t.text.data.toList.length ≤ 133 := by rw [len_list]; unfold Q4.Tr.text; omega
  have ih := join_len A (fun x hx => h x (List.mem_cons_of_mem _ hx))
  cases A with
  | nil => rw [List.map_singleton, Q4.joinL_one, List.length_singleton]; omega
  | cons u A =>
   rw [List.map_cons, Q4.joinL_cons _ _ (by simp), List.length_append, List.length_cons, List.length_cons (a := t)]
   omega
theorem Sga.good {A : List Q4.Tr} (h : Sga A) : ∀ t ∈ A, t.Good := fun t ht => by
 obtain ⟨h1, h2, h3, h4, _⟩ := h t ht
 exact h1.good h2 h3 (by omega)
theorem hdec_A {pre : List UInt8} {A : List Q4.Tr} {n : Nat} (hn : pre.length = n) (hA : A ≠ []) (hl : A.length ≤ 5) (h : Sga A) (hnd : (A.map Q4.Tr.name).Nodup) : ∀ w, Calls Tryz.prog 72 #[.string ((⟨(lnA pre A).toArray⟩ : ByteArray).extract n (⟨(lnA pre A).toArray⟩ : ByteArray).size)] w (Q4.MapPost A w) := by
 intro w
 have hj := join_len A h
 unfold lnA
 rw [ext_pre hn]
 exact Q4.decode_any _ A h.good hnd hA (by omega) (list_of _) (by rw [size_of]; omega) w
theorem lnA_len {pre : List UInt8} {A : List Q4.Tr} (hl : A.length ≤ 5) (h : Sga A) : (lnA pre A).length ≤ pre.length + 700 := by
 have hj := join_len A h
 unfold lnA
 rw [List.length_append]
 omega
end
theorem runN_app {p : UInt8 → Bool} {A q : List UInt8} {c : UInt8} (h : ∀ x ∈ A, p x = true) (hc : p c = false) : runN p ⟨(A ++ c :: q).toArray⟩ = A.length := by
 show (List.takeWhile p (A ++ c :: q)).length = A.length
 rw [List.takeWhile_append_of_pos h, List.takeWhile_cons_of_neg (by rw [hc]; decide), List.append_nil]
theorem ext_from {p q : List UInt8} : (⟨(p ++ q).toArray⟩ : ByteArray).extract p.length (⟨(p ++ q).toArray⟩ : ByteArray).size = ⟨q.toArray⟩ := ext_pre rfl
theorem at_zero {l : List UInt8} {b : UInt8} (hb : l.head? = some b) (h : 0 < (⟨l.toArray⟩ : ByteArray).size) : (⟨l.toArray⟩ : ByteArray)[0]'h = b := by
 have h1 := at_list h
 rw [list_of] at h1
 rw [List.head?_eq_getElem?, h1] at hb
 exact Option.some.inj hb
theorem dec_head (n : Nat) : ∃ b, (dec n).data.toList.head? = some b ∧ 48 ≤ b.toNat := by
 cases hq : (dec n).data.toList with
 | nil => exact absurd hq (dec_ne n)
 | cons c l => exact ⟨c, rfl, (isD_nat ((dec_isD n).2 c (by rw [hq]; exact List.mem_cons_self))).1⟩
def r_at (o : Nat) : ByteArray := ⟨(64 :: (dec o).data.toList).toArray⟩
theorem r_at0 (o : Nat) (h : 0 < (r_at o).size) : ((r_at o)[0]'h).toNat = 64 := by
 have h1 := at_zero (l := 64 :: (dec o).data.toList) (b := 64) rfl h
 have h2 : (r_at o)[0]'h = 64 := h1
 rw [h2]
 rfl
theorem zz1 {l o : Nat} (hl : l < 9223372036854775808) (ho : o < 9223372036854775808) (w : World) : Calls Tryz.prog 93 #[.string ⟨(t_range l o).toArray⟩] w fun e w' => e = .returned (.tuple #[.int .i64 ((l : Nat) : Int), .string (r_at o), .nilIface]) ∧ Below w.heap.size w w' := by
 have hrn : runN isD ⟨(t_range l o).toArray⟩ = (dec l).data.toList.length := runN_app (dec_isD l).2 (by decide)
 have hlen := t_range_len hl ho
 obtain ⟨b, hb, hb48⟩ := dec_head l
 have hpos : 0 < (⟨(t_range l o).toArray⟩ : ByteArray).size := by rw [size_of]; unfold t_range; rw [List.length_append, List.length_cons]; omega
 have hh : (t_range l o).head? = some b := by unfold t_range; rw [List.head?_append, hb]; rfl
 have h := zzSigned_any ⟨(t_range l o).toArray⟩ l (by rw [size_of]; omega) hpos (by rw [at_zero hh]; exact hb48) (by
  intro w
  rw [hrn]
  unfold t_range
  rw [ext_head, ba_of]
  exact parseInt_dec hl w) w
 rw [hrn] at h
 have he : (⟨(t_range l o).toArray⟩ : ByteArray).extract (dec l).data.toList.length (⟨(t_range l o).toArray⟩ : ByteArray).size = r_at o := ext_from
 rw [he] at h
 exact h
theorem zz2 {o : Nat} (ho : o < 9223372036854775808) (w : World) : Calls Tryz.prog 93 #[.string ((r_at o).extract 1 (r_at o).size)] w fun e w' => e = .returned (.tuple #[.int .i64 ((o : Nat) : Int), .string ((dec o).extract (runN isD (dec o)) (dec o).size), .nilIface]) ∧ Below w.heap.size w w' := by
 have he : (r_at o).extract 1 (r_at o).size = dec o := by
  have := ext_pre (pre := [64]) (rest := (dec o).data.toList) (n := 1) rfl
  rw [ba_of] at this
  exact this
 have hrn : runN isD (dec o) = (dec o).size := by
  have := runN_all (p := isD) (l := (dec o).data.toList) (dec_isD o).2
  rwa [ba_of, len_list] at this
 obtain ⟨b, hb, hb48⟩ := dec_head o
 rw [he]
 have hp := dec_pos o
 have hsz := dec_le (n := o) (by omega)
 refine zzSigned_any (dec o) o (by omega) hp ?_ ?_ w
 ·have h1 := at_list hp
  rw [List.head?_eq_getElem?, h1] at hb
  rw [Option.some.inj hb]
  exact hb48
 ·intro w
  rw [hrn, ext_self]
  exact parseInt_dec ho w
section
variable {B : Nat} {G : Ge} {r : Rst}
def c_map : List UInt8 := [35, 69, 88, 84, 45, 88, 45, 77, 65, 80, 58]
def mapA (m : Mp) : List Q4.Tr := if 0 < m.limit then [⟨⟨#[85, 82, 73]⟩, m.uri, true⟩, ⟨⟨#[66, 89, 84, 69, 82, 65, 78, 71, 69]⟩, ⟨(t_range m.limit m.offset).toArray⟩, false⟩] else [⟨⟨#[85, 82, 73]⟩, m.uri, true⟩]
theorem range_val {l o : Nat} (hl : l < 9223372036854775808) (ho : o < 9223372036854775808) : Val ⟨(t_range l o).toArray⟩ := by
 have hlen := t_range_len hl ho
 refine val_of (by unfold t_range; simp) (by omega) fun x hx => ?_
 unfold t_range at hx
 rcases List.mem_append.1 hx with hx | hx
 ·have := isD_nat ((dec_isD l).2 x hx); omega
 ·rcases List.mem_cons.1 hx with rfl | hx
  ·decide
  ·have := isD_nat ((dec_isD o).2 x hx); omega
theorem mapA_ok {m : Mp} (h : MapOk m) : Sga (mapA m) ∧ mapA m ≠ [] ∧ (mapA m).length ≤ 5 ∧ ((mapA m).map Q4.Tr.name).Nodup ∧ (∀ g ∈ mapA m, g.name = ⟨#[85, 82, 73]⟩ ∨ g.name = ⟨#[66, 89, 84, 69, 82, 65, 78, 71, 69]⟩) := by
 obtain ⟨hu, hr⟩ := h
 have h1 : Val m.uri ∧ (⟨#[85, 82, 73]⟩ : ByteArray).data.toList ≠ [] ∧ (⟨#[85, 82, 73]⟩ : ByteArray).data.toList.all Q4.nameB = true ∧ (⟨#[85, 82, 73]⟩ : ByteArray).size ≤ 30 ∧ Sgn (⟨#[85, 82, 73]⟩ : ByteArray).data.toList := ⟨hu.val, by decide, by decide, by decide, sgn_of (by decide)⟩
 unfold mapA
 split
 ·have h2 : Val ⟨(t_range m.limit m.offset).toArray⟩ ∧ (⟨#[66, 89, 84, 69, 82, 65, 78, 71, 69]⟩ : ByteArray).data.toList ≠ [] ∧ (⟨#[66, 89, 84, 69, 82, 65, 78, 71, 69]⟩ : ByteArray).data.toList.all Q4.nameB = true ∧ (⟨#[66, 89, 84, 69, 82, 65, 78, 71, 69]⟩ : ByteArray).size ≤ 30 ∧ Sgn (⟨#[66, 89, 84, 69, 82, 65, 78, 71, 69]⟩ : ByteArray).data.toList := ⟨range_val (by omega) (by omega), by decide, by decide, by decide, sgn_of (by decide)⟩
  refine ⟨fun t ht => ?_, by simp, by simp, (show ([⟨#[85, 82, 73]⟩, ⟨#[66, 89, 84, 69, 82, 65, 78, 71, 69]⟩] : List ByteArray).Nodup from by decide), fun g hg => ?_⟩
  ·simp only [List.mem_cons, List.not_mem_nil, or_false] at ht
   rcases ht with rfl | rfl
   ·exact h1
   ·exact h2
  ·simp only [List.mem_cons, List.not_mem_nil, or_false] at hg
   rcases hg with rfl | rfl
   ·exact .inl rfl
   ·exact .inr rfl
 ·refine ⟨fun t ht => ?_, by simp, by simp, (show ([⟨#[85, 82, 73]⟩] : List ByteArray).Nodup from by decide), fun g hg => ?_⟩
  ·rw [List.mem_singleton.1 ht]; exact h1
  ·rw [List.mem_singleton.1 hg]; exact .inl rfl
theorem Val.ne0 {v : ByteArray} (h : Val v) : v.size ≠ 0 := by
 intro e
 apply h.ne
 rw [← List.length_eq_zero_iff, len_list, e]
theorem Val.has {v : ByteArray} (h : Val v) : has v = true := by
 unfold Go.Proofs.YtflppablgdegcaaGreatDoor.has
 have := h.ne0
 simpa using this
theorem p_map {m : Mp} (h : MapOk m) : LnOk B G (lnA c_map (mapA m)) r { r with xmap := some m.ud, mp := true } := by
 obtain ⟨h1, h2, h3, h4, h5⟩ := mapA_ok h
 obtain ⟨hu, hr⟩ := h
 have hl := lin_A (pre := c_map) (sgn_of (by decide)) (by decide) h2 h1
 have hlen := lnA_len (pre := c_map) h3 h1
 have hcl : c_map.length = 11 := rfl
 have hdec := hdec_A (pre := c_map) (n := 11) rfl h2 h3 h1 h4
 by_cases hc : 0 < m.limit
 ·have hs := st_map (B := B) (G := G) (r := r) (L := ⟨(lnA c_map (mapA m)).toArray⟩) (t1 := ⟨(t_range m.limit m.offset).toArray⟩) (r1 := r_at m.offset) (n1 := m.limit) (n2 := m.offset) (Lin.size (by omega)) hl.asc hl.trimA (list_of _) (pre_size (Nat.le_of_eq rfl)) hdec h4 h5 (fun g hg => (h1 g hg).1.ne0) (by
   intro g hg hn
   unfold mapA at hg
   rw [if_pos hc] at hg
   simp only [List.mem_cons, List.not_mem_nil, or_false] at hg
   rcases hg with rfl | rfl
   ·exact absurd hn (show ¬ (⟨#[85, 82, 73]⟩ : ByteArray) = ⟨#[66, 89, 84, 69, 82, 65, 78, 71, 69]⟩ from by decide)
   ·rfl) (zz1 (by omega) (by omega)) (by show 0 < (r_at m.offset).size; unfold r_at; rw [size_of, List.length_cons]; omega) (r_at0 _ _) (by unfold r_at; rw [size_of, List.length_cons]; have := dec_len (n := m.offset) (by omega); omega) (zz2 (by omega))
  have e1 : Q4.vOf (mapA m) [85, 82, 73] = m.uri := by unfold mapA; rw [if_pos hc]; rfl
  have e2 : Q4.vOf (mapA m) [66, 89, 84, 69, 82, 65, 78, 71, 69] = ⟨(t_range m.limit m.offset).toArray⟩ := by unfold mapA; rw [if_pos hc]; rfl
  rw [e1, e2, if_pos (range_val (by omega) (by omega)).has, if_pos (range_val (by omega) (by omega)).has] at hs
  exact hs
 ·have hs := st_map (B := B) (G := G) (r := r) (L := ⟨(lnA c_map (mapA m)).toArray⟩) (t1 := ⟨(t_range 1 0).toArray⟩) (r1 := r_at 0) (n1 := 1) (n2 := 0) (Lin.size (by omega)) hl.asc hl.trimA (list_of _) (pre_size (Nat.le_of_eq rfl)) hdec h4 h5 (fun g hg => (h1 g hg).1.ne0) (by
   intro g hg hn
   unfold mapA at hg
   rw [if_neg hc] at hg
   rw [List.mem_singleton.1 hg] at hn
   exact absurd hn (show ¬ (⟨#[85, 82, 73]⟩ : ByteArray) = ⟨#[66, 89, 84, 69, 82, 65, 78, 71, 69]⟩ from by decide)) (zz1 (by decide) (by decide)) (by show 0 < (r_at 0).size; unfold r_at; rw [size_of, List.length_cons]; omega) (r_at0 _ _) (by unfold r_at; rw [size_of, List.length_cons]; have := dec_len (n := 0) (by decide); omega) (zz2 (by decide))
  have e1 : Q4.vOf (mapA m) [85, 82, 73] = m.uri := by unfold mapA; rw [if_neg hc]; rfl
  have e2 : Q4.vOf (mapA m) [66, 89, 84, 69, 82, 65, 78, 71, 69] = ⟨#[]⟩ := by unfold mapA; rw [if_neg hc]; rfl
  have e3 : m.limit = 0 ∧ m.offset = 0 := by omega
  rw [e1, e2, if_neg (by decide), if_neg (by decide)] at hs
  have e4 : m.ud = ⟨m.uri, 0, 0⟩ := by unfold Mp.ud; rw [e3.1, e3.2]
  rw [e4]
  exact hs
theorem mapT {m : Mp} : (Mp.text m).data.toList = lnA c_map (mapA m) ++ [10] := by
 unfold Mp.text lnA mapA c_map
 dsimp only
 split
 ·rw [List.map_cons, Q4.joinL_cons _ _ (by simp), List.map_cons, List.map_nil, Q4.joinL_one]
  simp [data_app, Q4.Tr.text, attr, t_range, ByteArray.data_append]
 ·rw [List.map_cons, List.map_nil, Q4.joinL_one]
  simp [data_app, Q4.Tr.text, attr, ByteArray.data_append]
def c_start : List UInt8 := [35, 69, 88, 84, 45, 88, 45, 83, 84, 65, 82, 84, 58]
def startA (e : Nat) (p : Bool) : List Q4.Tr := if p = true then [⟨⟨#[84, 73, 77, 69, 45, 79, 70, 70, 83, 69, 84]⟩, shorts e, false⟩, ⟨⟨#[80, 82, 69, 67, 73, 83, 69]⟩, ⟨#[89, 69, 83]⟩, false⟩] else [⟨⟨#[84, 73, 77, 69, 45, 79, 70, 70, 83, 69, 84]⟩, shorts e, false⟩]
theorem stripZ_mem {l : List UInt8} {x : UInt8} (h : x ∈ stripZ l) : x ∈ l := by
 unfold stripZ at h
 have h1 := List.mem_reverse.1 h
 exact List.mem_reverse.1 ((List.dropWhile_sublist _).subset h1)
theorem stripP_mem {l : List UInt8} {x : UInt8} (h : x ∈ stripP l) : x ∈ l := by
 unfold stripP at h
 split at h
 ·exact (List.dropLast_sublist _).subset h
 ·exact h
theorem tab_shn : ((List.range 301).all fun e => !(stripP (stripZ (sx e))).isEmpty && decide ((stripP (stripZ (sx e))).length ≤ 20)) = true := by decide +kernel
theorem shorts_val {e : Nat} (h : e ≤ 300) : Val (shorts e) := by
 have h1 := List.all_eq_true.1 tab_shn e (List.mem_range.2 (by omega))
 rw [Bool.and_eq_true] at h1
 have h2 := val_of (l := stripP (stripZ (sx e))) (by have := h1.1; intro hq; rw [hq] at this; simp at this) (by have := h1.2; simp at this; omega) fun x hx => by
  have h3 := stripZ_mem (stripP_mem hx)
  have h4 := sx_sgn (by omega) x h3
  refine ⟨h4.1, h4.2, fun hn => ?_, fun hn => ?_⟩
  ·exact sx_c (c := 34) (by omega) (by decide) x h3 (UInt8.toNat_inj.1 hn)
  ·exact sx_c (c := 44) (by omega) (by decide) x h3 (UInt8.toNat_inj.1 hn)
 rw [← shorts_sx (by omega), ba_of] at h2
 exact h2
theorem startA_ok {e : Nat} (h : e ≤ 300) (p : Bool) : Sga (startA e p) ∧ startA e p ≠ [] ∧ (startA e p).length ≤ 5 ∧ ((startA e p).map Q4.Tr.name).Nodup ∧ (∀ g ∈ startA e p, g.name = ⟨#[84, 73, 77, 69, 45, 79, 70, 70, 83, 69, 84]⟩ ∨ g.name = ⟨#[80, 82, 69, 67, 73, 83, 69]⟩) := by
 have h1 : Val (shorts e) ∧ (⟨#[84, 73, 77, 69, 45, 79, 70, 70, 83, 69, 84]⟩ : ByteArray).data.toList ≠ [] ∧ (⟨#[84, 73, 77, 69, 45, 79, 70, 70, 83, 69, 84]⟩ : ByteArray).data.toList.all Q4.nameB = true ∧ (⟨#[84, 73, 77, 69, 45, 79, 70, 70, 83, 69, 84]⟩ : ByteArray).size ≤ 30 ∧ Sgn (⟨#[84, 73, 77, 69, 45, 79, 70, 70, 83, 69, 84]⟩ : ByteArray).data.toList := ⟨shorts_val h, by decide, by decide, by decide, sgn_of (by decide)⟩
 have h2 : Val ⟨#[89, 69, 83]⟩ ∧ (⟨#[80, 82, 69, 67, 73, 83, 69]⟩ : ByteArray).data.toList ≠ [] ∧ (⟨#[80, 82, 69, 67, 73, 83, 69]⟩ : ByteArray).data.toList.all Q4.nameB = true ∧ (⟨#[80, 82, 69, 67, 73, 83, 69]⟩ : ByteArray).size ≤ 30 ∧ Sgn (⟨#[80, 82, 69, 67, 73, 83, 69]⟩ : ByteArray).data.toList := ⟨val_of (by decide) (by decide) (by decide), by decide, by decide, by decide, sgn_of (by decide)⟩
 unfold startA
 split
 ·refine ⟨fun t ht => ?_, by simp, by simp, (show ([⟨#[84, 73, 77, 69, 45, 79, 70, 70, 83, 69, 84]⟩, ⟨#[80, 82, 69, 67, 73, 83, 69]⟩] : List ByteArray).Nodup from by decide), fun g hg => ?_⟩
  ·simp only [List.mem_cons, List.not_mem_nil, or_false] at ht
   rcases ht with rfl | rfl
   ·exact h1
   ·exact h2
  ·simp only [List.mem_cons, List.not_mem_nil, or_false] at hg
   rcases hg with rfl | rfl
   ·exact .inl rfl
   ·exact .inr rfl
 ·refine ⟨fun t ht => ?_, by simp, by simp, (show ([⟨#[84, 73, 77, 69, 45, 79, 70, 70, 83, 69, 84]⟩] : List ByteArray).Nodup from by decide), fun g hg => ?_⟩
  ·rw [List.mem_singleton.1 ht]; exact h1
  ·rw [List.mem_singleton.1 hg]; exact .inl rfl
theorem p_start {e : Nat} (h0 : 0 < e) (h : e ≤ 300) (p : Bool) : LnOk B G (lnA c_start (startA e p)) r { r with start := e8 e, precise := if p = true then true else r.precise } := by
 obtain ⟨h1, h2, h3, h4, h5⟩ := startA_ok h p
 have hl := lin_A (pre := c_start) (sgn_of (by decide)) (by decide) h2 h1
 have hlen := lnA_len (pre := c_start) h3 h1
 have hcl : c_start.length = 13 := rfl
 have hs := st_start (B := B) (G := G) (r := r) (L := ⟨(lnA c_start (startA e p)).toArray⟩) (t1 := shorts e) (z := e8 e) (Lin.size (by omega)) hl.asc hl.trimA (list_of _) (pre_size (Nat.le_of_eq rfl)) (hdec_A (pre := c_start) (n := 13) rfl h2 h3 h1 h4) h4 h5 (fun g hg => (h1 g hg).1.ne0) (by
  intro g hg hn
  unfold startA at hg
  split at hg
  ·simp only [List.mem_cons, List.not_mem_nil, or_false] at hg
   rcases hg with rfl | rfl
   ·rfl
   ·exact absurd hn (show ¬ (⟨#[80, 82, 69, 67, 73, 83, 69]⟩ : ByteArray) = ⟨#[84, 73, 77, 69, 45, 79, 70, 70, 83, 69, 84]⟩ from by decide)
  ·rw [List.mem_singleton.1 hg]) (fun w hE => parseFloat_num _ _ (shorts_float h0 h) w hE) (by
  intro g hg hn
  unfold startA at hg
  split at hg
  ·simp only [List.mem_cons, List.not_mem_nil, or_false] at hg
   rcases hg with rfl | rfl
   ·exact absurd hn (show ¬ (⟨#[84, 73, 77, 69, 45, 79, 70, 70, 83, 69, 84]⟩ : ByteArray) = ⟨#[80, 82, 69, 67, 73, 83, 69]⟩ from by decide)
   ·rfl
  ·rw [List.mem_singleton.1 hg] at hn; exact absurd hn (show ¬ (⟨#[84, 73, 77, 69, 45, 79, 70, 70, 83, 69, 84]⟩ : ByteArray) = ⟨#[80, 82, 69, 67, 73, 83, 69]⟩ from by decide))
 have e1 : Q4.vOf (startA e p) [84, 73, 77, 69, 45, 79, 70, 70, 83, 69, 84] = shorts e := by unfold startA; cases p <;> rfl
 have e2 : Q4.vOf (startA e p) [80, 82, 69, 67, 73, 83, 69] = if p = true then ⟨#[89, 69, 83]⟩ else ⟨#[]⟩ := by unfold startA; cases p <;> rfl
 rw [e1, e2, if_pos (shorts_val h).has] at hs
 cases p with
 | true => rw [if_pos (by decide)] at hs; exact hs
 | false => rw [if_neg (by decide)] at hs; exact hs
end
def c_key : List UInt8 := [35, 69, 88, 84, 45, 88, 45, 75, 69, 89, 58]
theorem val_dec {p : List UInt8} (hp : (p.all fun x => decide (33 ≤ x.toNat) && decide (x.toNat < 128) && decide (x.toNat ≠ 34) && decide (x.toNat ≠ 44)) = true) (hl : p.length ≤ 20) {n : Nat} (hn : n < 18446744073709551616) : Val ((⟨p.toArray⟩ : ByteArray) ++ dec n) := by
 have h := val_of (l := p ++ (dec n).data.toList) (by have := dec_ne n; simp [this]) (by rw [List.length_append]; have := dec_len hn; omega) fun x hx => by
  rcases List.mem_append.1 hx with hx | hx
  ·have := List.all_eq_true.1 hp x hx
   simpa [and_assoc] using this
  ·have := isD_nat ((dec_isD n).2 x hx)
   omega
 have e : (⟨(p ++ (dec n).data.toList).toArray⟩ : ByteArray) = (⟨p.toArray⟩ : ByteArray) ++ dec n := ba_eq (by rw [data_app])
 rw [e] at h
 exact h
theorem ne_val {v : ByteArray} (h : Val v) : ne v = true := by
 unfold ne
 cases hq : v.data.toList with
 | nil => exact absurd hq h.ne
 | cons x l => rfl
section
variable {B : Nat} {G : Ge} {r : Rst}
theorem key_of {A : List Q4.Tr} {k : Kd} (h1 : Sga A) (h2 : A ≠ []) (h3 : A.length ≤ 5) (h4 : (A.map Q4.Tr.name).Nodup) (h5 : ∀ g ∈ A, g.name = ⟨#[77, 69, 84, 72, 79, 68]⟩ ∨ g.name = ⟨#[85, 82, 73]⟩ ∨ g.name = ⟨#[73, 86]⟩ ∨ g.name = ⟨#[75, 69, 89, 70, 79, 82, 77, 65, 84]⟩ ∨ g.name = ⟨#[75, 69, 89, 70, 79, 82, 77, 65, 84, 86, 69, 82, 83, 73, 79, 78, 83]⟩) (hk : (⟨Q4.vOf A [77, 69, 84, 72, 79, 68], Q4.vOf A [85, 82, 73], Q4.vOf A [73, 86], Q4.vOf A [75, 69, 89, 70, 79, 82, 77, 65, 84], Q4.vOf A [75, 69, 89, 70, 79, 82, 77, 65, 84, 86, 69, 82, 83, 73, 79, 78, 83]⟩ : Kd) = k) : Lin (lnA c_key A) ∧ (lnA c_key A).length ≤ 1000 ∧ LnOk B G (lnA c_key A) r { r with xkey := some k, ky := true } := by
 have hl := lin_A (pre := c_key) (sgn_of (by decide)) (by decide) h2 h1
 have hlen := lnA_len (pre := c_key) h3 h1
 have hcl : c_key.length = 11 := rfl
 refine ⟨hl, by omega, ?_⟩
 rw [← hk]
 exact st_key (B := B) (G := G) (r := r) (L := ⟨(lnA c_key A).toArray⟩) (Lin.size (by omega)) hl.asc hl.trimA (list_of _) (pre_size (Nat.le_of_eq rfl)) (hdec_A (pre := c_key) (n := 11) rfl h2 h3 h1 h4) h4 h5 (fun g hg => (h1 g hg).1.ne0)
theorem sga_of {A : List Q4.Tr} (hv : ∀ t ∈ A, Val t.value) (hn : ∀ t ∈ A, t.name = ⟨#[77, 69, 84, 72, 79, 68]⟩ ∨ t.name = ⟨#[85, 82, 73]⟩ ∨ t.name = ⟨#[73, 86]⟩ ∨ t.name = ⟨#[75, 69, 89, 70, 79, 82, 77, 65, 84]⟩ ∨ t.name = ⟨#[75, 69, 89, 70, 79, 82, 77, 65, 84, 86, 69, 82, 83, 73, 79, 78, 83]⟩) : Sga A := fun t ht => by
 refine ⟨hv t ht, ?_⟩
 rcases hn t ht with h | h | h | h | h <;> rw [h] <;> exact ⟨by decide, by decide, by decide, sgn_of (by decide)⟩
theorem p_key {k : Ky} (h : KeyOk k) : ∃ A, k.text.data.toList = lnA c_key A ++ [10] ∧ Lin (lnA c_key A) ∧ (lnA c_key A).length ≤ 1000 ∧ ∀ r, LnOk B G (lnA c_key A) r { r with xkey := some k.kd, ky := true } := by
 rcases h with rfl | ⟨u, hu, rfl⟩ | ⟨u, a, b, c, hu, ha, hb, hc, rfl⟩
 ·have hn : ∀ t ∈ ([⟨⟨#[77, 69, 84, 72, 79, 68]⟩, ⟨#[78, 79, 78, 69]⟩, false⟩] : List Q4.Tr), t.name = ⟨#[77, 69, 84, 72, 79, 68]⟩ ∨ t.name = ⟨#[85, 82, 73]⟩ ∨ t.name = ⟨#[73, 86]⟩ ∨ t.name = ⟨#[75, 69, 89, 70, 79, 82, 77, 65, 84]⟩ ∨ t.name = ⟨#[75, 69, 89, 70, 79, 82, 77, 65, 84, 86, 69, 82, 83, 73, 79, 78, 83]⟩ := fun t ht => by rw [List.mem_singleton.1 ht]; exact .inl rfl
  have hs := sga_of (A := [⟨⟨#[77, 69, 84, 72, 79, 68]⟩, ⟨#[78, 79, 78, 69]⟩, false⟩]) (fun t ht => by rw [List.mem_singleton.1 ht]; exact val_of (by decide) (by decide) (by decide)) hn
  have hA := fun r => key_of (B := B) (G := G) (r := r) (A := [⟨⟨#[77, 69, 84, 72, 79, 68]⟩, ⟨#[78, 79, 78, 69]⟩, false⟩]) (k := Ky.kd ⟨⟨#[78, 79, 78, 69]⟩, ⟨#[]⟩, ⟨#[]⟩, ⟨#[]⟩, ⟨#[]⟩⟩) hs (by simp) (by simp) (show ([⟨#[77, 69, 84, 72, 79, 68]⟩] : List ByteArray).Nodup from by decide) hn rfl
  refine ⟨_, ?_, (hA rst0).1, (hA rst0).2.1, fun r => (hA r).2.2⟩
  unfold Ky.text lnA c_key
  dsimp only
  rw [if_pos (by decide), List.map_cons, List.map_nil, Q4.joinL_one]
  simp [data_app, Q4.Tr.text, attr, ByteArray.data_append]
 ·have hn : ∀ t ∈ ([⟨⟨#[77, 69, 84, 72, 79, 68]⟩, ⟨#[65, 69, 83, 45, 49, 50, 56]⟩, false⟩, ⟨⟨#[85, 82, 73]⟩, u, true⟩] : List Q4.Tr), t.name = ⟨#[77, 69, 84, 72, 79, 68]⟩ ∨ t.name = ⟨#[85, 82, 73]⟩ ∨ t.name = ⟨#[73, 86]⟩ ∨ t.name = ⟨#[75, 69, 89, 70, 79, 82, 77, 65, 84]⟩ ∨ t.name = ⟨#[75, 69, 89, 70, 79, 82, 77, 65, 84, 86, 69, 82, 83, 73, 79, 78, 83]⟩ := fun t ht => by
   simp only [List.mem_cons, List.not_mem_nil, or_false] at ht
   rcases ht with rfl | rfl
   ·exact .inl rfl
   ·exact .inr (.inl rfl)
  have hs := sga_of (A := [⟨⟨#[77, 69, 84, 72, 79, 68]⟩, ⟨#[65, 69, 83, 45, 49, 50, 56]⟩, false⟩, ⟨⟨#[85, 82, 73]⟩, u, true⟩]) (fun t ht => by
   simp only [List.mem_cons, List.not_mem_nil, or_false] at ht
   rcases ht with rfl | rfl
   ·exact val_of (by decide) (by decide) (by decide)
   ·exact hu.val) hn
  have hA := fun r => key_of (B := B) (G := G) (r := r) (A := [⟨⟨#[77, 69, 84, 72, 79, 68]⟩, ⟨#[65, 69, 83, 45, 49, 50, 56]⟩, false⟩, ⟨⟨#[85, 82, 73]⟩, u, true⟩]) (k := Ky.kd ⟨⟨#[65, 69, 83, 45, 49, 50, 56]⟩, u, ⟨#[]⟩, ⟨#[]⟩, ⟨#[]⟩⟩) hs (by simp) (by simp) (show ([⟨#[77, 69, 84, 72, 79, 68]⟩, ⟨#[85, 82, 73]⟩] : List ByteArray).Nodup from by decide) hn rfl
  refine ⟨_, ?_, (hA rst0).1, (hA rst0).2.1, fun r => (hA r).2.2⟩
  unfold Ky.text lnA c_key
  dsimp only
  rw [if_neg (by simp), if_neg (by simp [ne]), if_neg (by simp [ne]), if_neg (by simp [ne]), List.map_cons, Q4.joinL_cons _ _ (by simp), List.map_cons, List.map_nil, Q4.joinL_one]
  simp [data_app, Q4.Tr.text, attr, ByteArray.data_append]
 ·have hn : ∀ t ∈ ([⟨⟨#[77, 69, 84, 72, 79, 68]⟩, ⟨#[83, 65, 77, 80, 76, 69, 45, 65, 69, 83]⟩, false⟩, ⟨⟨#[85, 82, 73]⟩, u, true⟩, ⟨⟨#[73, 86]⟩, (⟨#[48, 120]⟩ : ByteArray) ++ dec a, false⟩, ⟨⟨#[75, 69, 89, 70, 79, 82, 77, 65, 84]⟩, (⟨#[99, 111, 109, 46, 102]⟩ : ByteArray) ++ dec b, true⟩, ⟨⟨#[75, 69, 89, 70, 79, 82, 77, 65, 84, 86, 69, 82, 83, 73, 79, 78, 83]⟩, (⟨#[49, 47]⟩ : ByteArray) ++ dec c, true⟩] : List Q4.Tr), t.name = ⟨#[77, 69, 84, 72, 79, 68]⟩ ∨ t.name = ⟨#[85, 82, 73]⟩ ∨ t.name = ⟨#[73, 86]⟩ ∨ t.name = ⟨#[75, 69, 89, 70, 79, 82, 77, 65, 84]⟩ ∨ t.name = ⟨#[75, 69, 89, 70, 79, 82, 77, 65, 84, 86, 69, 82, 83, 73, 79, 78, 83]⟩ := fun t ht => by
   simp only [List.mem_cons, List.not_mem_nil, or_false] at ht
   rcases ht with rfl | rfl | rfl | rfl | rfl
   ·exact .inl rfl
   ·exact .inr (.inl rfl)
   ·exact .inr (.inr (.inl rfl))
   ·exact .inr (.inr (.inr (.inl rfl)))
   ·exact .inr (.inr (.inr (.inr rfl)))
  have v1 : Val ((⟨#[48, 120]⟩ : ByteArray) ++ dec a) := val_dec (p := [48, 120]) (by decide) (by decide) (by omega)
  have v2 : Val ((⟨#[99, 111, 109, 46, 102]⟩ : ByteArray) ++ dec b) := val_dec (p := [99, 111, 109, 46, 102]) (by decide) (by decide) (by omega)
  have v3 : Val ((⟨#[49, 47]⟩ : ByteArray) ++ dec c) := val_dec (p := [49, 47]) (by decide) (by decide) (by omega)
  have hs := sga_of (A := [⟨⟨#[77, 69, 84, 72, 79, 68]⟩, ⟨#[83, 65, 77, 80, 76, 69, 45, 65, 69, 83]⟩, false⟩, ⟨⟨#[85, 82, 73]⟩, u, true⟩, ⟨⟨#[73, 86]⟩, (⟨#[48, 120]⟩ : ByteArray) ++ dec a, false⟩, ⟨⟨#[75, 69, 89, 70, 79, 82, 77, 65, 84]⟩, (⟨#[99, 111, 109, 46, 102]⟩ : ByteArray) ++ dec b, true⟩, ⟨⟨#[75, 69, 89, 70, 79, 82, 77, 65, 84, 86, 69, 82, 83, 73, 79, 78, 83]⟩, (⟨#[49, 47]⟩ : ByteArray) ++ dec c, true⟩]) (fun t ht => by
   simp only [List.mem_cons, List.not_mem_nil, or_false] at ht
   rcases ht with rfl | rfl | rfl | rfl | rfl
   ·exact val_of (by decide) (by decide) (by decide)
   ·exact hu.val
   ·exact v1
   ·exact v2
   ·exact v3) hn
  have hA := fun r => key_of (B := B) (G := G) (r := r) (A := [⟨⟨#[77, 69, 84, 72, 79, 68]⟩, ⟨#[83, 65, 77, 80, 76, 69, 45, 65, 69, 83]⟩, false⟩, ⟨⟨#[85, 82, 73]⟩, u, true⟩, ⟨⟨#[73, 86]⟩, (⟨#[48, 120]⟩ : ByteArray) ++ dec a, false⟩, ⟨⟨#[75, 69, 89, 70, 79, 82, 77, 65, 84]⟩, (⟨#[99, 111, 109, 46, 102]⟩ : ByteArray) ++ dec b, true⟩, ⟨⟨#[75, 69, 89, 70, 79, 82, 77, 65, 84, 86, 69, 82, 83, 73, 79, 78, 83]⟩, (⟨#[49, 47]⟩ : ByteArray) ++ dec c, true⟩]) (k := Ky.kd ⟨⟨#[83, 65, 77, 80, 76, 69, 45, 65, 69, 83]⟩, u, (⟨#[48, 120]⟩ : ByteArray) ++ dec a, (⟨#[99, 111, 109, 46, 102]⟩ : ByteArray) ++ dec b, (⟨#[49, 47]⟩ : ByteArray) ++ dec c⟩) hs (by simp) (by simp) (show ([⟨#[77, 69, 84, 72, 79, 68]⟩, ⟨#[85, 82, 73]⟩, ⟨#[73, 86]⟩, ⟨#[75, 69, 89, 70, 79, 82, 77, 65, 84]⟩, ⟨#[75, 69, 89, 70, 79, 82, 77, 65, 84, 86, 69, 82, 83, 73, 79, 78, 83]⟩] : List ByteArray).Nodup from by decide) hn rfl
  have n1 : ne ((⟨#[48, 120]⟩ : ByteArray) ++ dec a) = true := ne_val v1
  have n2 : ne ((⟨#[99, 111, 109, 46, 102]⟩ : ByteArray) ++ dec b) = true := ne_val v2
  have n3 : ne ((⟨#[49, 47]⟩ : ByteArray) ++ dec c) = true := ne_val v3
  refine ⟨_, ?_, (hA rst0).1, (hA rst0).2.1, fun r => (hA r).2.2⟩
  unfold Ky.text lnA c_key
  dsimp only
  rw [if_neg (by simp), if_pos n1, if_pos n2, if_pos n3, List.map_cons, Q4.joinL_cons _ _ (by simp), List.map_cons, Q4.joinL_cons _ _ (by simp), List.map_cons, Q4.joinL_cons _ _ (by simp), List.map_cons, Q4.joinL_cons _ _ (by simp), List.map_cons, List.map_nil, Q4.joinL_one]
  simp [data_app, Q4.Tr.text, attr, ByteArray.data_append]
end
end Go.Proofs.YtflppablgdegcaaGreatDoor
