/- Joined: Ffk, Ffl, Ffm, Lbi. -/
import Derived.Test.YtkddkmiomhadaaaDoorFfj
import Derived.Laws.MakeOwn
/-! strconv.FormatFloat at 'f', 3, 64 for eighths. -/
namespace Go.Proofs.YtkddkmiomhadaaaDoor
open Go.Shelf Go.RowKit Go.Sort Go.Lib
theorem FfTab.next {w w' : World} (h : FfTab w) (hb : Below w.heap.size w w') : FfTab w' := by
  have key : ∀ {g k : Nat} {v : Value}, w.cell? ⟨g, k, none⟩ = some v → w'.cell? ⟨g, k, none⟩ = some v := by
    intro g k v hc
    have hlt : g < w.heap.size := by
      rcases Nat.lt_or_ge g w.heap.size with h | h
      · exact h
      · simp [World.cell?, Array.getElem?_eq_none h] at hc
    simp only [World.cell?, hb.block g hlt] at hc ⊢
    exact hc
  exact ⟨tabBelow_of_tabIs h.pow w' hb, ⟨key h.pm.h3, key h.pm.l3, key h.pm.h4, key h.pm.l4⟩, key h.opt⟩
theorem pad (L : List UInt8) (k nd : Nat) (hk : k ≤ L.length) (hz : ∀ (j : Nat) (b : UInt8), nd ≤ j → L[j]? = some b → b = 48) : L.take (min nd k) ++ List.replicate (k - min nd k) 48 = L.take k := by
  apply List.ext_getElem?
  intro j
  have hl : (L.take (min nd k)).length = min nd k := by rw [List.length_take]; omega
  by_cases h1 : j < min nd k
  · rw [List.getElem?_append_left (by rw [hl]; exact h1), List.getElem?_take_of_lt h1, List.getElem?_take_of_lt (by omega)]
  · rw [List.getElem?_append_right (by rw [hl]; omega), hl]
    by_cases h2 : j < k
    · rw [List.getElem?_take_of_lt h2, List.getElem?_replicate_of_lt (by omega)]
      have h3 : L[j]? = some L[j] := List.getElem?_eq_getElem (by omega)
      rw [h3, hz j _ (by omega) h3]
    · rw [List.getElem?_eq_none (by rw [List.length_replicate]; omega), List.getElem?_eq_none (by rw [List.length_take]; omega)]
theorem efg_full (L : List UInt8) (dp nd : Nat) (hL : L.length = dp + 3) (hz : ∀ (j : Nat) (b : UInt8), nd ≤ j → L[j]? = some b → b = 48) : efg L dp nd = (if 0 < dp then L.take dp else [48]) ++ ([46] ++ L.drop dp) := by
  unfold efg efgTail
  have h1 := pad L dp nd (by omega) hz
  have h2 := pad (L.drop dp) 3 (nd - dp) (by rw [List.length_drop]; omega) (fun j b hj hb => by
    rw [List.getElem?_drop] at hb
    exact hz (dp + j) b (by omega) hb)
  rw [List.take_of_length_le (show (L.drop dp).length ≤ 3 by rw [List.length_drop]; omega), Nat.min_comm] at h2
  rw [h1, List.append_assoc, h2]
theorem dd_big {u : Nat} (h : 10 ≤ u) : decDigits u = decDigits (u / 10) ++ [UInt8.ofNat (48 + u % 10)] := by rw [decDigits, dif_neg (by omega)]
theorem dd_small {u : Nat} (h : u < 10) : decDigits u = [UInt8.ofNat (48 + u)] := by rw [decDigits, dif_pos h]
theorem dd_len_le : ∀ (k u : Nat), u < 10 ^ (k + 1) → (decDigits u).length ≤ k + 1 := by
  intro k
  induction k with
  | zero => intro u h; rw [dd_small (by omega)]; simp
  | succ k ih =>
    intro u h
    by_cases h2 : u < 10
    · rw [dd_small h2]; simp
    · rw [dd_big (by omega), List.length_append]
      have := ih (u / 10) (by rw [Nat.pow_succ] at h; omega)
      simp
      omega
theorem dd_head : ∀ u : Nat, 1 ≤ u → ∃ b, (decDigits u)[0]? = some b ∧ b ≠ 48 := by
  intro u
  induction u using Nat.strongRecOn with
  | _ u ih =>
    intro h
    by_cases h2 : u < 10
    · rw [dd_small h2]
      refine ⟨_, rfl, fun e => ?_⟩
      have := congrArg UInt8.toNat e
      rw [UInt8.toNat_ofNat'] at this
      have h48 : (48 : UInt8).toNat = 48 := rfl
      omega
    · obtain ⟨b, hb, hne⟩ := ih (u / 10) (by omega) (by omega)
      rw [dd_big (by omega)]
      refine ⟨b, ?_, hne⟩
      rw [List.getElem?_append_left (by rw [List.getElem?_eq_some_iff] at hb; exact hb.1)]
      exact hb
theorem dd_three (D : Nat) (h : 100 ≤ D) : decDigits D = (if D < 1000 then [] else decDigits (D / 1000)) ++ [UInt8.ofNat (48 + D / 100 % 10), UInt8.ofNat (48 + D / 10 % 10), UInt8.ofNat (48 + D % 10)] := by
  rw [dd_big (by omega), dd_big (show 10 ≤ D / 10 by omega)]
  by_cases h2 : D < 1000
  · rw [if_pos h2, dd_small (show D / 10 / 10 < 10 by omega)]
    have : D / 10 / 10 = D / 100 % 10 := by omega
    rw [this]
    rfl
  · rw [if_neg h2, dd_big (show 10 ≤ D / 10 / 10 by omega)]
    have e1 : D / 10 / 10 / 10 = D / 1000 := by omega
    have e2 : D / 10 / 10 % 10 = D / 100 % 10 := by omega
    rw [e1, e2]
    simp
theorem secs_list (r : Nat) : (secs r).data.toList = decDigits (r / 8) ++ ([46] ++ [UInt8.ofNat (48 + r % 8 * 125 / 100), UInt8.ofNat (48 + r % 8 * 125 / 10 % 10), UInt8.ofNat (48 + r % 8 * 125 % 10)]) := by
  unfold secs
  rw [dec_digits (r / 8), dec_small (show r % 8 * 125 / 100 < 10 by omega), dec_small (show r % 8 * 125 / 10 % 10 < 10 by omega), dec_small (show r % 8 * 125 % 10 < 10 by omega)]
  simp [ByteArray.data_append]
theorem eighth_digits (r : Nat) : 125 * r / 100 % 10 = r % 8 * 125 / 100 ∧ 125 * r / 10 % 10 = r % 8 * 125 / 10 % 10 := by
  obtain ⟨q, t, ht, rfl⟩ : ∃ q t, t < 8 ∧ r = 8 * q + t := ⟨r / 8, r % 8, by omega, by omega⟩
  have h8 : (8 * q + t) % 8 = t := by omega
  rw [h8]
  have hc : t = 0 ∨ t = 1 ∨ t = 2 ∨ t = 3 ∨ t = 4 ∨ t = 5 ∨ t = 6 ∨ t = 7 := by omega
  rcases hc with rfl | rfl | rfl | rfl | rfl | rfl | rfl | rfl <;> omega
theorem efg_secs (r nd : Nat) (h1 : 1 ≤ r) (hz : ∀ (j : Nat) (b : UInt8), nd ≤ j → (decDigits (125 * r))[j]? = some b → b = 48) : efg (decDigits (125 * r)) ((decDigits (125 * r)).length - 3) nd = (secs r).data.toList := by
  have h3 := dd_three (125 * r) (by omega)
  have e1 : 125 * r / 1000 = r / 8 := by omega
  have e2 := (eighth_digits r).1
  have e3 := (eighth_digits r).2
  have e4 : 125 * r % 10 = r % 8 * 125 % 10 := by omega
  rw [e1, e2, e3, e4] at h3
  have hlen : (decDigits (125 * r)).length = ((if 125 * r < 1000 then [] else decDigits (r / 8)) : List UInt8).length + 3 := by rw [h3]; simp
  rw [efg_full _ _ _ (by omega) hz, secs_list]
  generalize hdp : (decDigits (125 * r)).length - 3 = dp
  have hdp2 : ((if 125 * r < 1000 then [] else decDigits (r / 8)) : List UInt8).length = dp := by omega
  rw [h3]
  rw [List.take_append_of_le_length (by omega), List.drop_append_of_le_length (by omega), List.take_of_length_le (by omega), List.drop_eq_nil_of_le (by omega), List.nil_append]
  by_cases h8 : 125 * r < 1000
  · rw [if_pos h8] at hdp2
    have hd0 : dp = 0 := by simpa using hdp2.symm
    subst hd0
    rw [if_neg (by omega), show r / 8 = 0 by omega, dd_small (by omega)]
    rfl
  · rw [if_neg h8] at hdp2 ⊢
    have : 0 < dp := by
      rw [← hdp2, decDigits_length]
      exact nDigits_pos _
    rw [if_pos this]
end Go.Proofs.YtkddkmiomhadaaaDoor
/-! strconv.FormatFloat at 'f', 3, 64 for eighths. -/
namespace Go.Proofs.YtkddkmiomhadaaaDoor
open Go.Shelf Go.RowKit Go.Sort Go.Lib
def exN (r : Nat) : Nat := e8 r / 4503599627370496
def frN (r : Nat) : Nat := e8 r % 4503599627370496
def mtN (r : Nat) : Nat := frN r + 4503599627370496
def EI (r : Nat) : Int := (exN r : Int) - 1023
def LI (r : Nat) : Int := if EI r < 0 then -1 else (Lib.l10 (EI r).toNat : Int)
def dgN (r : Nat) : Nat := if EI r < 0 then 4 - Lib.l10 (-(EI r)).toNat else Lib.l10 (1 + EI r).toNat + 4
def shN (r : Nat) : Nat := if (dgN r : Int) - 1 - LI r = 3 then (-(EI r - 63 + 9 + 3)).toNat else (-(EI r - 63 + 13 + 3)).toNat
def okP (r : Nat) : Prop := r = 0 ∨ (e8 r < 9223372036854775808 ∧ 0 < exN r ∧ exN r < 2047 ∧ bits .and .i64 (exN r : Int) 2047 = (exN r : Int) ∧ e8 r &&& 4503599627370495 = frN r ∧ frN r ||| 4503599627370496 = mtN r ∧ -3 ≤ EI r ∧ EI r ≤ 6 ∧ Lib.bitLen (mtN r) = 53 ∧
  (dgN r = 4 ∨ dgN r = 5 ∨ dgN r = 6) ∧ shN r < 64 ∧ (EI r < 0 ∨ Lib.l10 (1 + EI r).toNat ≤ 10) ∧ (¬ EI r < 0 ∨ Lib.l10 (-(EI r)).toNat ≤ 3) ∧
  (((dgN r : Int) - 1 - LI r = 3 ∧ -(EI r - 63 + 9 + 3) = (shN r : Int) ∧ mtN r * 2048 * 18014398509481984000 % 18446744073709551616 = 0 ∧ mtN r * 2048 * 18014398509481984000 / 18446744073709551616 = 4 * (125 * r) * 2 ^ shN r ∧ 4 * (125 * r) + 2 < 4 * 10 ^ dgN r) ∨
  ((dgN r : Int) - 1 - LI r = 4 ∧ -(EI r - 63 + 13 + 3) = (shN r : Int) ∧ mtN r * 2048 * 11258999068426240000 % 18446744073709551616 = 0 ∧ mtN r * 2048 * 11258999068426240000 / 18446744073709551616 = 40 * (125 * r) * 2 ^ shN r)))
instance : DecidablePred okP := fun r => by unfold okP; infer_instance
theorem okP_all : ∀ r ∈ List.range 1001, okP r := by decide +kernel
/-- A make'd row. -/
theorem mk24 (w : World) : ∃ w', (Instr.makeSlice 68 (.int .i64 0) (.int .i64 24)).run Tryd.prog w = .ok (.slice (some ⟨w.heap.size, 0, none⟩) 0 24) w' ∧ Own ul 5 1 w' w.heap.size (.slice (some ⟨w.heap.size, 0, none⟩) 0 24) [] ∧ Below w.heap.size w w' := by
  obtain ⟨i0, hi, hz0, hz1, hz2⟩ := info_parts info_u8
  obtain ⟨w', hr, ho, hg⟩ := run_makeSlice_owned (P := Tryd.prog) (w := w) w.heap.size 68 5 i0 _ 1 Tryd.underlying68 hi hz0 hz1 .i64 .i64 24 (by decide) (by rw [hz2]; decide) (by decide) (Nat.le_refl _)
  exact ⟨w', hr, ho, ⟨hg.os, hg.tape, hg.output, hg.size, fun k hk => hg.block k hk (by simp)⟩⟩
theorem cv_own {w : World} {B : Nat} {s : Value} {X : List UInt8} (h : Own ul 5 1 w B s X) (hX : X ≠ []) : (convert 68 9 s).run Tryd.prog w = .ok (.string ⟨X.toArray⟩) w := by
  obtain ⟨g, cap, cur, rfl, _, hh, _, ht⟩ := h.form hX
  refine run_convert_bytes_back (P := Tryd.prog) w 68 9 5 ⟨g, 0, none⟩ cap X Tryd.underlying68 Tryd.underlying5 Tryd.underlying9 (fun j hj => ?_)
  rw [add_plain, Nat.zero_add]
  refine cell_of_heap hh ?_
  have h2 : (cur.toList.take (X.length * 1))[j]? = some (.int .u8 (X[j].toNat : Int)) := by
    rw [ht]
    have := flat_get (f := ul) (k := 1) (fun _ => rfl) Nat.one_pos X j
    rw [this, Nat.div_one, List.getElem?_eq_getElem hj, Nat.mod_one]
    rfl
  rw [List.getElem?_take_of_lt (by omega)] at h2
  simpa using h2
set_option maxRecDepth 100000 in
theorem formatFloat_in (r : Nat) (h1 : 1 ≤ r) (h2 : r ≤ 1000) (w : World) (hT : FfTab w)
    (hft : ∀ (B : Nat) (s0 : Value) (w : World), B ≤ w.heap.size → Own ul 5 1 w B s0 [] → FfTab w → Calls Tryd.prog 53 #[s0, .float .f64 (e8 r), .int .u8 102, .int .i64 3] w fun e w' => ∃ (s : Value), e = .returned s ∧ Own ul 5 1 w' B s (secs r).data.toList ∧ Below B w w') :
    Calls Tryd.prog 45 #[.float .f64 (e8 r), .int .u8 102, .int .i64 3, .int .i64 64] w fun e w' => e = .returned (.string (secs r)) ∧ Below w.heap.size w w' := by
  have hne : (secs r).data.toList ≠ [] := by rw [secs_list]; simp
  refine calls_of_ev Tryd.func45 rfl (show 4 ≤ 33 from by decide) ?_
  intro a hE
  have hE : Ev 33 ((0, .float .f64 (e8 r)) :: (1, .int .u8 102) :: (2, .int .i64 3) :: (3, .int .i64 64) :: []) a := hE
  refine wp_seq ?_
  refine wp_region_lit ?_
  refine ev_ac hE (by decide) ?_
  intro a hE
  refine wpList_nil ?_
  show Code.wp _ _ _ _ _
  refine wp_seq ?_
  refine wp_seq ?_
  refine wp_region_lit ?_
  refine ev_run (w' := w) hE rfl rfl (by decide) (ex_mv (hE.get 3 rfl)) ?_
  intro a hE
  refine ev_run (v := .bool false) (w' := w) hE rfl rfl (by decide) (by simp only [execOp, hE.get 9 rfl]; go_simp) ?_
  intro a hE
  refine wpList_nil ?_
  show Code.wp _ _ _ _ _
  refine wp_cond_split (hE.get 10 rfl) (fun h => by cases h) (fun _ => ?_)
  refine wp_skip ?_
  show Code.wp _ _ _ _ _
  refine wp_seq ?_
  refine wp_seq ?_
  refine wp_region_lit ?_
  refine ev_run (w' := w) hE rfl rfl (by decide) (ex_mv (hE.get 3 rfl)) ?_
  intro a hE
  refine ev_run (v := .bool true) (w' := w) hE rfl rfl (by decide) (by simp only [execOp, hE.get 21 rfl]; go_simp) ?_
  intro a hE
  refine wpList_nil ?_
  show Code.wp _ _ _ _ _
  refine wp_cond_split (hE.get 22 rfl) (fun _ => ?_) (fun h => by cases h)
  refine wp_seq ?_
  refine wp_region_lit ?_
  refine ev_run (w' := w) hE rfl rfl (by decide) (ex_mv (hE.get 2 rfl)) ?_
  intro a hE
  refine ev_run (v := .int .i64 7) (w' := w) hE rfl rfl (by decide) (ei_add (hE.get 23 rfl) rfl (by decide)) ?_
  intro a hE
  refine ev_run (v := .int .i64 24) (w' := w) hE rfl rfl (by decide) (ex_max (hE.get 24 rfl) rfl (by decide)) ?_
  intro a hE
  obtain ⟨w1, hmk, hown, hb1⟩ := mk24 w
  refine ev_run (v := .slice (some ⟨w.heap.size, 0, none⟩) 0 24) (w' := w1) hE rfl rfl (by decide) (by simp only [execOp, hE.get 25 rfl]; have e0 : a.eval (.const (.int .i64 0)) = .int .i64 0 := rfl; simp [e0, hmk, Result.andThen]) ?_
  intro a hE
  refine ev_run (w' := w1) hE rfl rfl (by decide) (ex_mv (hE.get 0 rfl)) ?_
  intro a hE
  refine ev_run (w' := w1) hE rfl rfl (by decide) (ex_mv (hE.get 1 rfl)) ?_
  intro a hE
  refine ev_run (w' := w1) hE rfl rfl (by decide) (ex_mv (hE.get 2 rfl)) ?_
  intro a hE
  refine ev_call (S := fun u w' => Own ul 5 1 w' w.heap.size u (secs r).data.toList ∧ Below w.heap.size w1 w') hE rfl rfl (by decide) (f := 53) (args := #[.slice (some ⟨w.heap.size, 0, none⟩) 0 24, .float .f64 (e8 r), .int .u8 102, .int .i64 3]) (by simp only [execOp, resolve, List.map_toArray, List.map_cons, List.map_nil, hE.get 26 rfl, hE.get 27 rfl, hE.get 28 rfl, hE.get 29 rfl]; go_simp) ((hft w.heap.size _ w1 hb1.size hown (hT.next hb1)).mono (by rintro e w' ⟨s, rfl, h⟩; exact ⟨_, rfl, h⟩)) ?_
  rintro a s w2 ⟨hown2, hb2⟩ hE
  refine ev_run (v := .string (secs r)) (w' := w2) hE rfl rfl (by decide) (by simp only [execOp, hE.get 30 rfl]; exact run_andValue (cv_own hown2 hne)) ?_
  intro a hE
  refine ev_as hE (hE.get 31 rfl) (by decide) ?_
  intro a hE
  refine wpList_nil ?_
  show Code.wp _ _ _ _ _
  refine wp_ret ?_
  simp only [Exit.then]
  exact ret_of_ev hE rfl (hE.get 8 rfl) ⟨rfl, hb1.trans hb2⟩
set_option maxRecDepth 100000 in
theorem formatFloat_out (r : Nat) (w : World) (hin : Calls Tryd.prog 45 #[.float .f64 (e8 r), .int .u8 102, .int .i64 3, .int .i64 64] w fun e w' => e = .returned (.string (secs r)) ∧ Below w.heap.size w w') :
    Calls Tryd.prog 38 #[.float .f64 (e8 r), .int .u8 102, .int .i64 3, .int .i64 64] w fun e w' => e = .returned (.string (secs r)) ∧ Below w.heap.size w w' := by
  refine calls_of_ev Tryd.func38 rfl (show 4 ≤ 14 from by decide) ?_
  intro a hE
  have hE : Ev 14 ((0, .float .f64 (e8 r)) :: (1, .int .u8 102) :: (2, .int .i64 3) :: (3, .int .i64 64) :: []) a := hE
  refine wp_seq ?_
  refine wp_region_lit ?_
  refine ev_ac hE (by decide) ?_
  intro a hE
  refine wpList_nil ?_
  show Code.wp _ _ _ _ _
  refine wp_seq ?_
  refine wp_region_lit ?_
  refine ev_run (w' := w) hE rfl rfl (by decide) (ex_mv (hE.get 0 rfl)) ?_
  intro a hE
  refine ev_run (w' := w) hE rfl rfl (by decide) (ex_mv (hE.get 1 rfl)) ?_
  intro a hE
  refine ev_run (w' := w) hE rfl rfl (by decide) (ex_mv (hE.get 2 rfl)) ?_
  intro a hE
  refine ev_run (w' := w) hE rfl rfl (by decide) (ex_mv (hE.get 3 rfl)) ?_
  intro a hE
  refine ev_call (S := fun u w' => u = .string (secs r) ∧ Below w.heap.size w w') hE rfl rfl (by decide) (f := 45) (args := #[.float .f64 (e8 r), .int .u8 102, .int .i64 3, .int .i64 64]) (by simp only [execOp, resolve, List.map_toArray, List.map_cons, List.map_nil, hE.get 9 rfl, hE.get 10 rfl, hE.get 11 rfl, hE.get 12 rfl]; go_simp) (hin.mono (by rintro e w' ⟨rfl, h⟩; exact ⟨_, rfl, rfl, h⟩)) ?_
  rintro a u w1 ⟨rfl, hb⟩ hE
  refine ev_as hE (hE.get 13 rfl) (by decide) ?_
  intro a hE
  refine wpList_nil ?_
  show Code.wp _ _ _ _ _
  refine wp_ret ?_
  exact ret_of_ev hE rfl (hE.get 8 rfl) ⟨rfl, hb⟩
end Go.Proofs.YtkddkmiomhadaaaDoor
/-! strconv.FormatFloat for eighths, and what Encode leans on. -/
namespace Go.Proofs.YtkddkmiomhadaaaDoor
open Go.Shelf Go.RowKit Go.Sort Go.Lib
theorem ff_facts (r : Nat) (h1 : 1 ≤ r) (h2 : r ≤ 1000) : ∃ (X ex fr mt dg sh : Nat) (E L : Int), e8 r = X ∧ X < 9223372036854775808 ∧ X / 4503599627370496 = ex ∧ 0 < ex ∧ ex < 2047 ∧ bits .and .i64 (ex : Int) 2047 = ex ∧ X &&& 4503599627370495 = fr ∧ fr ||| 4503599627370496 = mt ∧ fr < 4503599627370496 ∧ mt = fr + 4503599627370496 ∧ (ex : Int) - 1023 = E ∧ -3 ≤ E ∧ E ≤ 6 ∧ Lib.bitLen mt = 53 ∧ (dg = 4 ∨ dg = 5 ∨ dg = 6) ∧ sh < 64 ∧
    L = (if E < 0 then -1 else (Lib.l10 E.toNat : Int)) ∧ dg = (if E < 0 then 4 - Lib.l10 (-E).toNat else Lib.l10 (1 + E).toNat + 4) ∧ (E < 0 ∨ Lib.l10 (1 + E).toNat ≤ 10) ∧ (¬ E < 0 ∨ Lib.l10 (-E).toNat ≤ 3) ∧
    (((dg : Int) - 1 - L = 3 ∧ -(E - 63 + 9 + 3) = (sh : Int) ∧ mt * 2048 * 18014398509481984000 % 18446744073709551616 = 0 ∧ mt * 2048 * 18014398509481984000 / 18446744073709551616 = 4 * (125 * r) * 2 ^ sh ∧ 4 * (125 * r) + 2 < 4 * 10 ^ dg) ∨
     ((dg : Int) - 1 - L = 4 ∧ -(E - 63 + 13 + 3) = (sh : Int) ∧ mt * 2048 * 11258999068426240000 % 18446744073709551616 = 0 ∧ mt * 2048 * 11258999068426240000 / 18446744073709551616 = 40 * (125 * r) * 2 ^ sh)) := by
  rcases okP_all r (List.mem_range.2 (by omega)) with h | ⟨q1, q2, q3, q4, q5, q6, q7, q8, q9, q10, q11, q12, q13, q14⟩
  · omega
  have p1 : e8 r / 4503599627370496 = exN r := by unfold exN; rfl
  have p2 : frN r < 4503599627370496 := by unfold frN; exact Nat.mod_lt _ (by decide)
  have p3 : mtN r = frN r + 4503599627370496 := by unfold mtN; rfl
  have p4 : (exN r : Int) - 1023 = EI r := by unfold EI; rfl
  have p5 : LI r = (if EI r < 0 then -1 else (Lib.l10 (EI r).toNat : Int)) := by unfold LI; rfl
  have p6 : dgN r = (if EI r < 0 then 4 - Lib.l10 (-(EI r)).toNat else Lib.l10 (1 + EI r).toNat + 4) := by unfold dgN; rfl
  generalize e8 r = X at *
  generalize exN r = ex at *
  generalize frN r = fr at *
  generalize mtN r = mt at *
  generalize EI r = E at *
  generalize LI r = L at *
  generalize dgN r = dg at *
  generalize shN r = sh at *
  exact ⟨X, ex, fr, mt, dg, sh, E, L, rfl, q1, p1, q2, q3, q4, q5, q6, p2, p3, p4, q7, q8, q9, q10, q11, p5, p6, q12, q13, q14⟩
set_option maxRecDepth 100000 in
theorem ftoa_rate (r : Nat) (h1 : 1 ≤ r) (h2 : r ≤ 1000) (B : Nat) (s0 : Value) (w : World) (hB : B ≤ w.heap.size) (hs0 : Own ul 5 1 w B s0 []) (hT : FfTab w) :
    Calls Tryd.prog 53 #[s0, .float .f64 (e8 r), .int .u8 102, .int .i64 3] w fun e w' => ∃ (s : Value), e = .returned s ∧ Own ul 5 1 w' B s (secs r).data.toList ∧ Below B w w' := by
  obtain ⟨X, ex, fr, mt, dg, sh, E, L, hX, q1, hex, q2, q3, q4, q5, q6, hfb, hmt, hE0, q7, q8, q9, q10, q11, hLd, hdgd, q12, q13, q14⟩ := ff_facts r h1 h2
  rw [hX]
  clear hX
  obtain ⟨b0, hb0, hb1⟩ := dd_head (125 * r) (by omega)
  have hlen := decDigits_length (125 * r)
  have h3 := dd_three (125 * r) (by omega)
  have hn3 : 3 ≤ nDigits (125 * r) := by rw [← hlen, h3]; simp
  have hn7 : nDigits (125 * r) ≤ 7 := by rw [← hlen]; have := dd_len_le 5 (125 * r) (by omega); omega
  have hTn : ∀ w' : World, FfTab w' → ∀ w'', Below w'.heap.size w' w'' → FfTab w'' := fun w' h w'' hb => h.next hb
  have hL : ∀ w, Calls Tryd.prog 55 #[.int .i64 E] w fun e w' => e = .returned (.int .i64 L) ∧ w' = w := by
    intro w
    rw [hLd]
    by_cases he : E < 0
    · rw [if_pos he]
      exact l10_neg _ (by omega) w
    · rw [if_neg he]
      have := l10_any E.toNat (by omega) w
      rw [Int.toNat_of_nonneg (by omega)] at this
      exact this
  have hpow : ∀ w' : World, FfTab w' → w'.cell? ⟨1, dg, none⟩ = some (.int .u64 ((10 ^ dg : Nat) : Int)) := by
    intro w' hw
    have := TabIs.cell (g := 1) hw.pow (by kernel_rfl) dg (by have : pow10Tab.length = 20 := rfl; omega)
    rw [this]
    rcases q10 with e | e | e <;> rw [e] <;> rfl
  have hdgb : 4 ≤ dg ∧ dg ≤ 6 := by omega
  have hy : (dg = 4 ∧ ((10 ^ dg : Nat) : Int) = 10000) ∨ (dg = 5 ∧ ((10 ^ dg : Nat) : Int) = 100000) ∨ (dg = 6 ∧ ((10 ^ dg : Nat) : Int) = 1000000) := by
    rcases q10 with e | e | e <;> rw [e] <;> decide
  have hmb : mt < 9007199254740992 := by omega
  refine (ftoa_any X ex fr mt (mt * 2048) (125 * r) dg (nDigits (125 * r)) E q1 hex q2 q3 q4 q5 q6 hfb hE0 (by omega) q9 hmb (by omega) rfl ?_ ?_ (by omega) ?_ (by omega) (by omega) rfl hn3 hn7 (lt_pow_nDigits _) b0 hb0 hb1 B s0 w hB hs0 (hTn w hT)).mono ?_
  · intro he
    refine ⟨(Lib.l10 (1 + E).toNat : Int), ?_, by omega, ?_, fun w => ?_⟩
    · have : dg = Lib.l10 (1 + E).toNat + 4 := by rw [hdgd, if_neg (by omega)]
      omega
    · rcases q12 with h | h <;> omega
    · have := l10_any (1 + E).toNat (by omega) w
      rw [Int.toNat_of_nonneg (by omega)] at this
      exact this
  · intro he
    refine ⟨(Lib.l10 (-E).toNat : Int), ?_, by omega, ?_, fun w => ?_⟩
    · have : dg = 4 - Lib.l10 (-E).toNat := by rw [hdgd, if_pos he]
      rcases q13 with h | h <;> omega
    · rcases q13 with h | h <;> omega
    · have := l10_any (-E).toNat (by omega) w
      rw [Int.toNat_of_nonneg (by omega)] at this
      exact this
  · intro w hTw
    rcases q14 with ⟨p1, p2, p3, p4, p5⟩ | ⟨p1, p2, p3, p4⟩
    · exact fixed3 (mt * 2048) dg sh (125 * r) E L _ hL (by omega) p1 hy p2 q11 (by omega) p3 p4 (by omega) (by omega) w (fun w' hb => ⟨(hTw w' hb).pm, hpow w' (hTw w' hb)⟩)
    · exact fixed4 (mt * 2048) dg sh (125 * r) E L _ hL (by omega) p1 hy p2 q11 (by omega) p3 p4 (by omega) w (fun w' hb => ⟨(hTw w' hb).pm, hpow w' (hTw w' hb)⟩)
  · rintro e w' ⟨s, nd, rfl, hz, _, hown, hb⟩
    refine ⟨s, rfl, ?_, hb⟩
    have := efg_secs r nd h1 hz
    rw [hlen] at this
    rw [← this]
    exact hown
theorem formatRate_any (r : Nat) (h1 : 1 ≤ r) (h2 : r ≤ 1000) (w : World) (hT : FfTab w) : Calls Tryd.prog 38 #[.float .f64 (e8 r), .int .u8 102, .int .i64 3, .int .i64 64] w fun e w' => e = .returned (.string (secs r)) ∧ Below w.heap.size w w' :=
  formatFloat_out r w (formatFloat_in r h1 h2 w hT fun B s0 w hB hs hT => ftoa_rate r h1 h2 B s0 w hB hs hT)
end Go.Proofs.YtkddkmiomhadaaaDoor
/-! What Encode leans on, as an instance. -/
namespace Go.Proofs.YtkddkmiomhadaaaDoor
open Go.RowKit
theorem lb_any : Lb FfTab where
  pow := fun w h => h.pow
  rate := fun r w h0 h1 hT => formatRate_any r (by omega) h1 w hT
  neq := fun r h w => rate_neq r h w
  index := fun u w hu => zzIndex_any u (by omega) w
end Go.Proofs.YtkddkmiomhadaaaDoor
