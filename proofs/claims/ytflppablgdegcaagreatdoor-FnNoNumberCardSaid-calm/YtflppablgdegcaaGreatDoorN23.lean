/- Joined: Ls, Re, Mf. -/
import Derived.Test.YtflppablgdegcaaGreatDoorN22
/- impl.lines. -/
set_option maxRecDepth 100000
set_option maxHeartbeats 8000000
namespace Go.Proofs.YtflppablgdegcaaGreatDoor
open Go.RowKit
/-- The lines of a text, trimmed. -/
def trL (l : List UInt8) : ByteArray := trimA ⟨l.toArray⟩
def piece (rem : List (List UInt8)) (last : List UInt8) : List UInt8 := rem.headD last
theorem flat_piece (rem : List (List UInt8)) (last : List UInt8) : ∃ more, flatLn rem last = piece rem last ++ more ∧ (rem = [] → more = []) ∧ (∀ ln r, rem = ln :: r → more = 10 :: flatLn r last) := by
 cases rem with
 | nil => exact ⟨[], (by simp [flatLn, piece]), (fun _ => rfl), (fun _ _ h => by cases h)⟩
 | cons ln r => exact ⟨10 :: flatLn r last, rfl, (fun h => by cases h), (fun l r' h => by cases h; rfl)⟩
theorem at_drop {s : ByteArray} {fr i : Nat} {A more : List UInt8} (h : s.data.toList.drop fr = A ++ more) (hf : fr ≤ i) (hi : i < fr + A.length) : ∃ hs : i < s.size, (s[i]'hs) ∈ A := by
 have h1 : (s.data.toList.drop fr)[i - fr]? = A[i - fr]? := by rw [h, List.getElem?_append_left (by omega)]
 rw [List.getElem?_drop, show fr + (i - fr) = i from by omega, List.getElem?_eq_getElem (show i - fr < A.length by omega)] at h1
 have hs : i < s.size := by rw [← len_list]; exact (List.getElem?_eq_some_iff.1 h1).1
 refine ⟨hs, ?_⟩
 rw [at_list hs] at h1
 rw [Option.some.inj h1]; exact List.getElem_mem _
theorem at_drop_nl {s : ByteArray} {fr : Nat} {A more : List UInt8} {c : UInt8} (h : s.data.toList.drop fr = A ++ c :: more) : ∃ hs : fr + A.length < s.size, (s[fr + A.length]'hs) = c := by
 have h1 : (s.data.toList.drop fr)[A.length]? = some c := by rw [h, List.getElem?_append_right (Nat.le_refl _), Nat.sub_self]; rfl
 rw [List.getElem?_drop] at h1
 have hs : fr + A.length < s.size := by rw [← len_list]; exact (List.getElem?_eq_some_iff.1 h1).1
 refine ⟨hs, ?_⟩
 rw [at_list hs] at h1
 exact Option.some.inj h1
theorem ext_piece {s : ByteArray} {fr : Nat} {A more : List UInt8} (h : s.data.toList.drop fr = A ++ more) (hl : fr + A.length ≤ s.size) : s.extract fr (fr + A.length) = ⟨A.toArray⟩ := ba_eq (by
 rw [ext_list _ _ _ hl, List.drop_take, h, show fr + A.length - fr = A.length from by omega, List.take_left])
theorem asc_ext {s : ByteArray} (h : Asc s) (i j : Nat) (hj : j ≤ s.size) : Asc (s.extract i j) := fun k b hk => by
 rw [ext_list _ _ _ hj, List.getElem?_drop] at hk
 rw [List.getElem?_take] at hk
 split at hk
 ·exact h _ b hk
 ·cases hk
theorem lines_any (lns : List (List UInt8)) (last : List UInt8) (s : ByteArray) (hs : s.data.toList = flatLn lns last) (hno : ∀ ln ∈ lns, ∀ x ∈ ln, x ≠ 10) (hnl : ∀ x ∈ last, x ≠ 10) (hz : s.size ≤ 100000) (ha : Asc s) {B : Nat} {G : Ge} (w : World) (hG : Env B G w) :
  Calls Tryz.prog 32 #[.string s] w fun e w' => ∃ v, e = .returned v ∧ Below w.heap.size w w' ∧ Own strL 9 1 w' w.heap.size v ((lns ++ [last]).map trL) := by
 refine calls_of_ev Tryz.func32 rfl (show 1 ≤ 35 from by decide) ?_
 intro a hE
 have hE : Ev 35 ((0, .string s) :: []) a := hE
 have hS : Sv 35 ((0, .string s) :: []) [] (fun _ => False) w a w := Sv.start hE _ _
 clear hE
 refine wp_seq ?_
 refine wp_region_lit ?_
 refine sv_r (v := .slice none 0 0) hS ex_ac fun a hS => ?_
 refine wpList_nil ?_
 replace hS := hS.cut [2, 0]
 show Code.wp _ _ _ _ _
 refine wp_seq ?_
 refine wp_region_lit ?_
 refine sv_r (v := .slice none 0 0) hS ex_ac fun a hS => ?_
 refine wpList_nil ?_
 replace hS := hS.cut [3, 2, 0]
 show Code.wp _ _ _ _ _
 refine wp_seq ?_
 refine wp_region_lit ?_
 refine sv_r (v := .int .i64 0) hS ex_ac fun a hS => ?_
 replace hS : Sv 35 ((4, .int .i64 0) :: (3, .slice none 0 0) :: (2, .slice none 0 0) :: (0, .string s) :: []) [] (fun _ => False) w a w := hS.pick rfl
 refine nx1 ?_
 refine wp_seq ?_
 refine wp_seq ?_
 refine wp_region_lit ?_
 refine sv_r (v := .int .i64 0) hS ex_ac fun a hS => ?_
 refine wpList_nil ?_
 replace hS := hS.cut [5, 4, 3, 2, 0]
 show Code.wp _ _ _ _ _
 refine wp_block ?_
 refine wp_loop (fun a w' => ∃ (fr i : Nat) (sv : Value) (L : List ByteArray), ((∃ dn rem, lns = dn ++ rem ∧ s.data.toList.drop fr = flatLn rem last ∧ fr ≤ s.size ∧ fr ≤ i ∧ i ≤ fr + (piece rem last).length ∧ L = dn.map trL ∧ L.length ≤ fr) ∨ (i = s.size + 1 ∧ L = (lns ++ [last]).map trL)) ∧ Own strL 9 1 w' w.heap.size sv L ∧ Sv 35 ((3, sv) :: (4, .int .i64 ((fr : Nat) : Int)) :: (5, .int .i64 ((i : Nat) : Int)) :: (0, .string s) :: []) [] (fun _ => False) w a w') (fun a _ => s.size + 2 - (intOf (a.eval (.tmp 5))).toNat) ⟨0, 0, .slice none 0 0, [], .inl ⟨[], lns, rfl, hs, Nat.zero_le _, Nat.le_refl _, Nat.zero_le _, rfl, Nat.le_refl _⟩, Own.nil _ _ _ _ _, hS.pick rfl⟩ ?_
 clear hS
 rintro a w2 ⟨fr, i, sv, L, hinv, ho, hS⟩
 have h5 := hS.get 5 rfl
 rcases hinv with ⟨dn, rem, hdr, hd, hfs, hfi, hip, hL, hLf⟩ | ⟨rfl, hL⟩
 ·obtain ⟨more, hfp, hm0, hm1⟩ := flat_piece rem last
  rw [hfp] at hd
  have hpl : fr + (piece rem last).length ≤ s.size := by
   have h1 := congrArg List.length hd
   simp only [List.length_drop, len_list, List.length_append] at h1
   omega
  rcases Nat.lt_or_ge i (fr + (piece rem last).length) with hlt | hge
  ·obtain ⟨hsi, hmem⟩ := at_drop hd hfi hlt
   have hat : (s[i]'hsi) ≠ 10 := by
    cases rem with
    | nil => exact hnl _ hmem
    | cons ln r => exact hno ln (by rw [hdr]; simp) _ hmem
   refine wp_seq ?_
   refine wp_seq ?_
   refine wp_region_lit ?_
   refine sv_r (v := .int .i64 ((i : Nat) : Int)) hS (ex_mv (hS.get 5 rfl)) fun a hS => ?_
   refine sv_r (v := .string s) hS (ex_mv (hS.get 0 rfl)) fun a hS => ?_
   refine sv_r (v := .int .i64 ((s.size : Nat) : Int)) hS (ex_slen (ats := #[]) (hS.get 7 rfl)) fun a hS => ?_
   refine sv_r (v := .bool true) hS (ei_leq (hS.get 6 rfl) (hS.get 8 rfl) (by rw [decide_eq_true_iff]; omega)) fun a hS => ?_
   refine wpList_nil ?_
   replace hS := hS.cut [9, 3, 4, 5, 0]
   show Code.wp _ _ _ _ _
   refine cond_t (hS.get 9 rfl) ?_
   refine wp_skip ?_
   show Code.wp _ _ _ _ _
   refine wp_seq ?_
   refine wp_block ?_
   refine wp_seq ?_
   refine wp_region_lit ?_
   refine sv_r (v := .int .i64 ((i : Nat) : Int)) hS (ex_mv (hS.get 5 rfl)) fun a hS => ?_
   refine sv_r (v := .string s) hS (ex_mv (hS.get 0 rfl)) fun a hS => ?_
   refine sv_r (v := .int .i64 ((s.size : Nat) : Int)) hS (ex_slen (ats := #[]) (hS.get 13 rfl)) fun a hS => ?_
   refine sv_r (v := .bool false) hS (ei_eql (hS.get 12 rfl) (hS.get 14 rfl) (by rw [decide_eq_false_iff_not]; omega)) fun a hS => ?_
   refine sv_r (v := .bool false) hS (ex_mv (hS.get 15 rfl)) fun a hS => ?_
   refine sv_g (v := .string s) hS (hS.get 16 rfl) (ex_mv (hS.get 0 rfl)) fun a hS => ?_
   refine sv_g (v := .int .i64 ((i : Nat) : Int)) hS (hS.get 16 rfl) (ex_mv (hS.get 5 rfl)) fun a hS => ?_
   refine sv_g (v := .int .u8 (((s[i]'hsi).toNat : Nat) : Int)) hS (hS.get 16 rfl) (ex_sidx (hS.get 17 rfl) (hS.get 18 rfl) hsi) fun a hS => ?_
   refine sv_g (v := .bool false) hS (hS.get 16 rfl) (ei_eql (hS.get 19 rfl) rfl (by rw [decide_eq_false_iff_not]; intro e; exact hat (UInt8.toNat_inj.1 (show (s[i]).toNat = 10 by omega)))) fun a hS => ?_
   refine sv_r (v := .bool false) hS (ex_pickF (hS.get 16 rfl) (hS.get 20 rfl)) fun a hS => ?_
   replace hS : Sv 35 ((21, .bool false) :: (9, .bool true) :: (3, sv) :: (4, .int .i64 ((fr : Nat) : Int)) :: (5, .int .i64 ((i : Nat) : Int)) :: (0, .string s) :: []) [] (fun _ => False) w a w2 := hS.pick rfl
   refine nx1 ?_
   refine cond_f (hS.get 21 rfl) ?_
   refine wp_skip ?_
   show Code.wp _ _ _ _ _
   refine wp_region_lit ?_
   refine sv_r (v := .int .i64 ((i : Nat) : Int)) hS (ex_mv (hS.get 5 rfl)) fun a hS => ?_
   refine sv_r (v := .int .i64 ((i + 1 : Nat) : Int)) hS (ei_add (hS.get 10 rfl) rfl (by rw [IntKind.wrap_i64]; omega)) fun a hS => ?_
   refine sv_r (v := .int .i64 ((i + 1 : Nat) : Int)) hS (ex_as (hS.get 11 rfl)) fun a hS => ?_
   refine wpList_nil ?_
   replace hS := hS.cut [5, 21, 9, 3, 4, 0]
   refine ⟨⟨fr, i + 1, sv, L, .inl ⟨dn, rem, hdr, (by rw [hd, hfp]), hfs, by omega, by omega, hL, hLf⟩, ho, hS.pick rfl⟩, ?_⟩
   have h5' := hS.get 5 rfl
   rw [h5, h5']
   simp only [intOf]
   omega
  have hie : i = fr + (piece rem last).length := by omega
  have hpx : trimA (s.extract fr i) = trL (piece rem last) := by rw [hie, ext_piece hd hpl]; rfl
  rcases hr0 : rem with _ | ⟨ln, rem'⟩
  ·have hend : i = s.size := by
    have h1 := congrArg List.length hd
    rw [hm0 hr0] at h1
    simp only [List.length_drop, len_list, List.length_append, List.length_nil] at h1
    omega
   refine wp_seq ?_
   refine wp_seq ?_
   refine wp_region_lit ?_
   refine sv_r (v := .int .i64 ((i : Nat) : Int)) hS (ex_mv (hS.get 5 rfl)) fun a hS => ?_
   refine sv_r (v := .string s) hS (ex_mv (hS.get 0 rfl)) fun a hS => ?_
   refine sv_r (v := .int .i64 ((s.size : Nat) : Int)) hS (ex_slen (ats := #[]) (hS.get 7 rfl)) fun a hS => ?_
   refine sv_r (v := .bool true) hS (ei_leq (hS.get 6 rfl) (hS.get 8 rfl) (by rw [decide_eq_true_iff]; omega)) fun a hS => ?_
   refine wpList_nil ?_
   replace hS := hS.cut [9, 3, 4, 5, 0]
   show Code.wp _ _ _ _ _
   refine cond_t (hS.get 9 rfl) ?_
   refine wp_skip ?_
   show Code.wp _ _ _ _ _
   refine wp_seq ?_
   refine wp_block ?_
   refine wp_seq ?_
   refine wp_region_lit ?_
   refine sv_r (v := .int .i64 ((i : Nat) : Int)) hS (ex_mv (hS.get 5 rfl)) fun a hS => ?_
   refine sv_r (v := .string s) hS (ex_mv (hS.get 0 rfl)) fun a hS => ?_
   refine sv_r (v := .int .i64 ((s.size : Nat) : Int)) hS (ex_slen (ats := #[]) (hS.get 13 rfl)) fun a hS => ?_
   refine sv_r (v := .bool true) hS (ei_eql (hS.get 12 rfl) (hS.get 14 rfl) (by rw [decide_eq_true_iff]; omega)) fun a hS => ?_
   refine sv_r (v := .bool true) hS (ex_mv (hS.get 15 rfl)) fun a hS => ?_
   refine sv_goff hS rfl rfl (hS.get 16 rfl) rfl rfl (by decide) ?_
   intro a hS
   refine sv_goff hS rfl rfl (hS.get 16 rfl) rfl rfl (by decide) ?_
   intro a hS
   refine sv_goff hS rfl rfl (hS.get 16 rfl) rfl rfl (by decide) ?_
   intro a hS
   refine sv_goff hS rfl rfl (hS.get 16 rfl) rfl rfl (by decide) ?_
   intro a hS
   refine sv_r (v := .bool true) hS (ex_pickT (hS.get 16 rfl) rfl) fun a hS => ?_
   replace hS : Sv 35 ((21, .bool true) :: (9, .bool true) :: (3, sv) :: (4, .int .i64 ((fr : Nat) : Int)) :: (5, .int .i64 ((i : Nat) : Int)) :: (0, .string s) :: []) [] (fun _ => False) w a w2 := hS.pick rfl
   refine nx1 ?_
   refine cond_t (hS.get 21 rfl) ?_
   refine wp_seq ?_
   refine wp_region_lit ?_
   refine sv_r (v := sv) hS (ex_mv (hS.get 3 rfl)) fun a hS => ?_
   refine sv_r (v := .string s) hS (ex_mv (hS.get 0 rfl)) fun a hS => ?_
   refine sv_r (v := .int .i64 ((fr : Nat) : Int)) hS (ex_mv (hS.get 4 rfl)) fun a hS => ?_
   refine sv_r (v := .int .i64 ((i : Nat) : Int)) hS (ex_mv (hS.get 5 rfl)) fun a hS => ?_
   refine sv_r (v := .string (s.extract fr i)) hS (ex_sslh (hS.get 23 rfl) (hS.get 24 rfl) (hS.get 25 rfl) (by omega) (by omega)) fun a hS => ?_
   obtain ⟨Hb, cb, wn, hrun, hbel, hbyt, hcb, hHb, hHl⟩ := conv_new (s.extract fr i) w2
   refine sv_ext hS rfl rfl (by decide) (by simp only [execOp, hS.get 26 rfl]; exact run_andValue'' hrun) hbel ?_
   intro a hS
   replace ho := ho.ty (TyOnly.of_below (ts := []) hbel) (by decide)
   have hexz : (s.extract fr i).size ≤ 100000 := by rw [ByteArray.size_extract]; omega
   have his : i ≤ s.size := by omega
   have hae := asc_ext ha fr i his
   have hGn : Env B G wn := hG.below hS.toBelow
   have htb := trimB_any wn hbyt hcb (Nat.le_trans hexz (by decide)) hae hGn
   obtain ⟨bt, hbt⟩ : ∃ bt, bt = Lib.bytesTrimSpace Hb 0 cb (s.extract fr i).data.toList := ⟨_, rfl⟩
   obtain ⟨tq, htq⟩ : ∃ tq, tq = trimA (s.extract fr i) := ⟨_, rfl⟩
   refine sv_callq (v := bt) hS rfl rfl (by decide) (ex_call1 cf_bytes_TrimSpace (hS.get 27 rfl)) (by rw [hbt]; exact htb) ?_
   intro a hS
   refine sv_r (v := .string tq) hS (by simp only [execOp, hS.get 28 rfl]; rw [hbt, htq]; exact run_andValue (conv_trim _ hbyt)) fun a hS => ?_
   refine sv_new (T := 9) (cs := #[.string tq]) hS rfl rfl (by decide) (fun g => .slice (some ⟨g, 0, none⟩) 1 1) (by simp only [execOp, List.map_toArray, List.map_cons, List.map_nil, hS.get 29 rfl]; go_simp) ?_
   intro g6 a w7 hg6 hbw7 hwg6 hS
   replace ho := ho.ty (TyOnly.of_below (ts := []) hbw7) (by decide)
   have hxg6 := hS.at 0 rfl
   replace hS : Sv 35 ((30, .slice (some ⟨g6, 0, none⟩) 1 1) :: (29, .string tq) :: (28, bt) :: (27, .slice (some ⟨Hb, 0, none⟩) (s.extract fr i).size cb) :: (26, .string (s.extract fr i)) :: (25, .int .i64 ((i : Nat) : Int)) :: (24, .int .i64 ((fr : Nat) : Int)) :: (23, .string s) :: (22, sv) :: (21, .bool true) :: (9, .bool true) :: (3, sv) :: (4, .int .i64 ((fr : Nat) : Int)) :: (5, .int .i64 ((i : Nat) : Int)) :: (0, .string s) :: []) [] (fun _ => False) w a w7 := (hS.mask [false]).pick rfl
   refine sv_append (f := strL) (L := L) sli_sl_string (by decide) (fun _ => rfl) [tq] hS (hS.get 22 rfl) (hS.get 30 rfl) hxg6 rfl rfl (fun y _ u hu => strL_one y u hu) ho rfl (by decide) (by (try simp only [List.length_append, List.length_cons, List.length_nil]); omega) (by (try simp only [List.length_append, List.length_cons, List.length_nil]); omega) ?_
   intro a sv8 w10 hty ho9 hS
   refine sv_r (v := sv8) hS (ex_as (hS.get 31 rfl)) fun a hS => ?_
   refine wpList_nil ?_
   replace hS := hS.cut [3, 21, 9, 4, 5, 0]
   show Code.wp _ _ _ _ _
   refine wp_region_lit ?_
   refine sv_r (v := .int .i64 ((i : Nat) : Int)) hS (ex_mv (hS.get 5 rfl)) fun a hS => ?_
   refine sv_r (v := .int .i64 ((i + 1 : Nat) : Int)) hS (ei_add (hS.get 32 rfl) rfl (by rw [IntKind.wrap_i64]; omega)) fun a hS => ?_
   refine sv_r (v := .int .i64 ((i + 1 : Nat) : Int)) hS (ex_as (hS.get 33 rfl)) fun a hS => ?_
   refine wpList_nil ?_
   replace hS := hS.cut [4, 3, 21, 9, 5, 0]
   show Code.wp _ _ _ _ _
   refine wp_region_lit ?_
   refine sv_r (v := .int .i64 ((i : Nat) : Int)) hS (ex_mv (hS.get 5 rfl)) fun a hS => ?_
   refine sv_r (v := .int .i64 ((i + 1 : Nat) : Int)) hS (ei_add (hS.get 10 rfl) rfl (by rw [IntKind.wrap_i64]; omega)) fun a hS => ?_
   refine sv_r (v := .int .i64 ((i + 1 : Nat) : Int)) hS (ex_as (hS.get 11 rfl)) fun a hS => ?_
   refine wpList_nil ?_
   replace hS : Sv 35 ((5, .int .i64 ((i + 1 : Nat) : Int)) :: (4, .int .i64 ((i + 1 : Nat) : Int)) :: (3, sv8) :: (21, .bool true) :: (9, .bool true) :: (0, .string s) :: []) [] (fun _ => False) w a w10 := hS.pick rfl
   refine ⟨⟨i + 1, i + 1, sv8, (L ++ [tq]), .inr ⟨by omega, by rw [hL, htq, hpx, hdr, hr0]; simp [trL, piece]⟩, ho9, hS.pick rfl⟩, ?_⟩
   have h5' := hS.get 5 rfl
   rw [h5, h5']
   simp only [intOf]
   omega
  ·have hr2 : rem = ln :: rem' := hr0
   have hd2 : s.data.toList.drop fr = piece rem last ++ 10 :: flatLn rem' last := by rw [hd, hm1 _ _ hr0]
   obtain ⟨hsi0, hat0⟩ := at_drop_nl hd2
   have hsi : i < s.size := by omega
   have hat : (s[i]'hsi) = 10 := by
    have e : ∀ (j : Nat) (hj : j < s.size), j = fr + (piece rem last).length → s[j]'hj = 10 := by rintro j hj rfl; exact hat0
    exact e i hsi hie
   refine wp_seq ?_
   refine wp_seq ?_
   refine wp_region_lit ?_
   refine sv_r (v := .int .i64 ((i : Nat) : Int)) hS (ex_mv (hS.get 5 rfl)) fun a hS => ?_
   refine sv_r (v := .string s) hS (ex_mv (hS.get 0 rfl)) fun a hS => ?_
   refine sv_r (v := .int .i64 ((s.size : Nat) : Int)) hS (ex_slen (ats := #[]) (hS.get 7 rfl)) fun a hS => ?_
   refine sv_r (v := .bool true) hS (ei_leq (hS.get 6 rfl) (hS.get 8 rfl) (by rw [decide_eq_true_iff]; omega)) fun a hS => ?_
   refine wpList_nil ?_
   replace hS := hS.cut [9, 3, 4, 5, 0]
   show Code.wp _ _ _ _ _
   refine cond_t (hS.get 9 rfl) ?_
   refine wp_skip ?_
   show Code.wp _ _ _ _ _
   refine wp_seq ?_
   refine wp_block ?_
   refine wp_seq ?_
   refine wp_region_lit ?_
   refine sv_r (v := .int .i64 ((i : Nat) : Int)) hS (ex_mv (hS.get 5 rfl)) fun a hS => ?_
   refine sv_r (v := .string s) hS (ex_mv (hS.get 0 rfl)) fun a hS => ?_
   refine sv_r (v := .int .i64 ((s.size : Nat) : Int)) hS (ex_slen (ats := #[]) (hS.get 13 rfl)) fun a hS => ?_
   refine sv_r (v := .bool false) hS (ei_eql (hS.get 12 rfl) (hS.get 14 rfl) (by rw [decide_eq_false_iff_not]; omega)) fun a hS => ?_
   refine sv_r (v := .bool false) hS (ex_mv (hS.get 15 rfl)) fun a hS => ?_
   refine sv_g (v := .string s) hS (hS.get 16 rfl) (ex_mv (hS.get 0 rfl)) fun a hS => ?_
   refine sv_g (v := .int .i64 ((i : Nat) : Int)) hS (hS.get 16 rfl) (ex_mv (hS.get 5 rfl)) fun a hS => ?_
   refine sv_g (v := .int .u8 (((s[i]'hsi).toNat : Nat) : Int)) hS (hS.get 16 rfl) (ex_sidx (hS.get 17 rfl) (hS.get 18 rfl) hsi) fun a hS => ?_
   refine sv_g (v := .bool true) hS (hS.get 16 rfl) (ei_eql (hS.get 19 rfl) rfl (by rw [decide_eq_true_iff, hat]; rfl)) fun a hS => ?_
   refine sv_r (v := .bool true) hS (ex_pickF (hS.get 16 rfl) (hS.get 20 rfl)) fun a hS => ?_
   replace hS : Sv 35 ((21, .bool true) :: (9, .bool true) :: (3, sv) :: (4, .int .i64 ((fr : Nat) : Int)) :: (5, .int .i64 ((i : Nat) : Int)) :: (0, .string s) :: []) [] (fun _ => False) w a w2 := hS.pick rfl
   refine nx1 ?_
   refine cond_t (hS.get 21 rfl) ?_
   refine wp_seq ?_
   refine wp_region_lit ?_
   refine sv_r (v := sv) hS (ex_mv (hS.get 3 rfl)) fun a hS => ?_
   refine sv_r (v := .string s) hS (ex_mv (hS.get 0 rfl)) fun a hS => ?_
   refine sv_r (v := .int .i64 ((fr : Nat) : Int)) hS (ex_mv (hS.get 4 rfl)) fun a hS => ?_
   refine sv_r (v := .int .i64 ((i : Nat) : Int)) hS (ex_mv (hS.get 5 rfl)) fun a hS => ?_
   refine sv_r (v := .string (s.extract fr i)) hS (ex_sslh (hS.get 23 rfl) (hS.get 24 rfl) (hS.get 25 rfl) (by omega) (by omega)) fun a hS => ?_
   obtain ⟨Hb, cb, wn, hrun, hbel, hbyt, hcb, hHb, hHl⟩ := conv_new (s.extract fr i) w2
   refine sv_ext hS rfl rfl (by decide) (by simp only [execOp, hS.get 26 rfl]; exact run_andValue'' hrun) hbel ?_
   intro a hS
   replace ho := ho.ty (TyOnly.of_below (ts := []) hbel) (by decide)
   have hexz : (s.extract fr i).size ≤ 100000 := by rw [ByteArray.size_extract]; omega
   have his : i ≤ s.size := by omega
   have hae := asc_ext ha fr i his
   have hGn : Env B G wn := hG.below hS.toBelow
   have htb := trimB_any wn hbyt hcb (Nat.le_trans hexz (by decide)) hae hGn
   obtain ⟨bt, hbt⟩ : ∃ bt, bt = Lib.bytesTrimSpace Hb 0 cb (s.extract fr i).data.toList := ⟨_, rfl⟩
   obtain ⟨tq, htq⟩ : ∃ tq, tq = trimA (s.extract fr i) := ⟨_, rfl⟩
   refine sv_callq (v := bt) hS rfl rfl (by decide) (ex_call1 cf_bytes_TrimSpace (hS.get 27 rfl)) (by rw [hbt]; exact htb) ?_
   intro a hS
   refine sv_r (v := .string tq) hS (by simp only [execOp, hS.get 28 rfl]; rw [hbt, htq]; exact run_andValue (conv_trim _ hbyt)) fun a hS => ?_
   refine sv_new (T := 9) (cs := #[.string tq]) hS rfl rfl (by decide) (fun g => .slice (some ⟨g, 0, none⟩) 1 1) (by simp only [execOp, List.map_toArray, List.map_cons, List.map_nil, hS.get 29 rfl]; go_simp) ?_
   intro g6 a w7 hg6 hbw7 hwg6 hS
   replace ho := ho.ty (TyOnly.of_below (ts := []) hbw7) (by decide)
   have hxg6 := hS.at 0 rfl
   replace hS : Sv 35 ((30, .slice (some ⟨g6, 0, none⟩) 1 1) :: (29, .string tq) :: (28, bt) :: (27, .slice (some ⟨Hb, 0, none⟩) (s.extract fr i).size cb) :: (26, .string (s.extract fr i)) :: (25, .int .i64 ((i : Nat) : Int)) :: (24, .int .i64 ((fr : Nat) : Int)) :: (23, .string s) :: (22, sv) :: (21, .bool true) :: (9, .bool true) :: (3, sv) :: (4, .int .i64 ((fr : Nat) : Int)) :: (5, .int .i64 ((i : Nat) : Int)) :: (0, .string s) :: []) [] (fun _ => False) w a w7 := (hS.mask [false]).pick rfl
   refine sv_append (f := strL) (L := L) sli_sl_string (by decide) (fun _ => rfl) [tq] hS (hS.get 22 rfl) (hS.get 30 rfl) hxg6 rfl rfl (fun y _ u hu => strL_one y u hu) ho rfl (by decide) (by (try simp only [List.length_append, List.length_cons, List.length_nil]); omega) (by (try simp only [List.length_append, List.length_cons, List.length_nil]); omega) ?_
   intro a sv8 w10 hty ho9 hS
   refine sv_r (v := sv8) hS (ex_as (hS.get 31 rfl)) fun a hS => ?_
   refine wpList_nil ?_
   replace hS := hS.cut [3, 21, 9, 4, 5, 0]
   show Code.wp _ _ _ _ _
   refine wp_region_lit ?_
   refine sv_r (v := .int .i64 ((i : Nat) : Int)) hS (ex_mv (hS.get 5 rfl)) fun a hS => ?_
   refine sv_r (v := .int .i64 ((i + 1 : Nat) : Int)) hS (ei_add (hS.get 32 rfl) rfl (by rw [IntKind.wrap_i64]; omega)) fun a hS => ?_
   refine sv_r (v := .int .i64 ((i + 1 : Nat) : Int)) hS (ex_as (hS.get 33 rfl)) fun a hS => ?_
   refine wpList_nil ?_
   replace hS := hS.cut [4, 3, 21, 9, 5, 0]
   show Code.wp _ _ _ _ _
   refine wp_region_lit ?_
   refine sv_r (v := .int .i64 ((i : Nat) : Int)) hS (ex_mv (hS.get 5 rfl)) fun a hS => ?_
   refine sv_r (v := .int .i64 ((i + 1 : Nat) : Int)) hS (ei_add (hS.get 10 rfl) rfl (by rw [IntKind.wrap_i64]; omega)) fun a hS => ?_
   refine sv_r (v := .int .i64 ((i + 1 : Nat) : Int)) hS (ex_as (hS.get 11 rfl)) fun a hS => ?_
   refine wpList_nil ?_
   replace hS : Sv 35 ((5, .int .i64 ((i + 1 : Nat) : Int)) :: (4, .int .i64 ((i + 1 : Nat) : Int)) :: (3, sv8) :: (21, .bool true) :: (9, .bool true) :: (0, .string s) :: []) [] (fun _ => False) w a w10 := hS.pick rfl
   refine ⟨⟨i + 1, i + 1, sv8, (L ++ [tq]), .inl ⟨dn ++ [piece rem last], rem', by rw [hdr, hr2]; simp [piece], (by have := drop_line hd2; rw [show fr + (piece rem last).length + 1 = i + 1 from by omega] at this; exact this), by omega, Nat.le_refl _, by omega, by rw [hL, htq, hpx]; simp [trL], by rw [List.length_append]; simp only [List.length_cons, List.length_nil]; omega⟩, ho9, hS.pick rfl⟩, ?_⟩
   have h5' := hS.get 5 rfl
   rw [h5, h5']
   simp only [intOf]
   omega
 ·refine wp_seq ?_
  refine wp_seq ?_
  refine wp_region_lit ?_
  refine sv_r (v := .int .i64 ((s.size + 1 : Nat) : Int)) hS (ex_mv (hS.get 5 rfl)) fun a hS => ?_
  refine sv_r (v := .string s) hS (ex_mv (hS.get 0 rfl)) fun a hS => ?_
  refine sv_r (v := .int .i64 ((s.size : Nat) : Int)) hS (ex_slen (ats := #[]) (hS.get 7 rfl)) fun a hS => ?_
  refine sv_r (v := .bool false) hS (ei_leq (hS.get 6 rfl) (hS.get 8 rfl) (by rw [decide_eq_false_iff_not]; omega)) fun a hS => ?_
  refine wpList_nil ?_
  replace hS := hS.cut [9, 3, 4, 5, 0]
  show Code.wp _ _ _ _ _
  refine cond_f (hS.get 9 rfl) ?_
  refine wp_exit ?_
  show Code.wp _ _ _ _ _
  refine wp_seq ?_
  refine wp_region_lit ?_
  refine sv_r (v := sv) hS (ex_mv (hS.get 3 rfl)) fun a hS => ?_
  refine sv_r (v := sv) hS (ex_as (hS.get 34 rfl)) fun a hS => ?_
  replace hS : Sv 35 ((2, sv) :: (9, .bool false) :: (3, sv) :: (4, .int .i64 ((fr : Nat) : Int)) :: (5, .int .i64 ((s.size + 1 : Nat) : Int)) :: (0, .string s) :: []) [] (fun _ => False) w a w2 := hS.pick rfl
  refine nx1 ?_
  refine wp_ret ?_
  try simp only [Exit.inBlock, Exit.then]
  exact ret_of_ev hS.ev rfl (hS.get 2 rfl) ⟨_, rfl, hS.toBelow, by rw [← hL]; exact ho⟩
end Go.Proofs.YtflppablgdegcaaGreatDoor
/- impl.readable, of a text without keys and maps. -/
set_option maxRecDepth 100000
set_option maxHeartbeats 8000000
namespace Go.Proofs.YtflppablgdegcaaGreatDoor
open Go.RowKit
/-- A line that is no key's and no map's. -/
def NoKM (L : ByteArray) : Prop := Lib.hasPrefix L.data.toList (⟨#[35, 69, 88, 84, 45, 88, 45, 75, 69, 89, 58]⟩ : ByteArray).data.toList = false ∧ Lib.hasPrefix L.data.toList (⟨#[35, 69, 88, 84, 45, 88, 45, 77, 65, 80, 58]⟩ : ByteArray).data.toList = false
theorem readable_any (lns : List (List UInt8)) (last : List UInt8) (s : ByteArray) (hs : s.data.toList = flatLn lns last) (hno : ∀ ln ∈ lns, ∀ x ∈ ln, x ≠ 10) (hnl : ∀ x ∈ last, x ≠ 10) (hz : s.size ≤ 8192) (ha : Asc s) (hlc : lns.length ≤ 8192) (hkm : ∀ l ∈ lns ++ [last], NoKM (trL l)) {B : Nat} {G : Ge} (w : World) (hG : Env B G w) :
  Calls Tryz.prog 16 #[.string s] w fun e w' => e = .returned (.bool true) ∧ Below w.heap.size w w' := by
 have hLn : ((lns ++ [last]).map trL).length = lns.length + 1 := by simp
 refine calls_of_ev Tryz.func16 rfl (show 1 ≤ 45 from by decide) ?_
 intro a hE
 have hE : Ev 45 ((0, .string s) :: []) a := hE
 have hS : Sv 45 ((0, .string s) :: []) [] (fun _ => False) w a w := Sv.start hE _ _
 clear hE
 refine wp_seq ?_
 refine wp_region_lit ?_
 refine sv_r (v := .bool false) hS ex_ac fun a hS => ?_
 refine wpList_nil ?_
 replace hS := hS.cut [2, 0]
 show Code.wp _ _ _ _ _
 refine wp_seq ?_
 refine wp_seq ?_
 refine wp_region_lit ?_
 refine sv_r (v := .string s) hS (ex_mv (hS.get 0 rfl)) fun a hS => ?_
 refine sv_r (v := .int .i64 ((s.size : Nat) : Int)) hS (ex_slen (ats := #[]) (hS.get 8 rfl)) fun a hS => ?_
 refine sv_r (v := .bool false) hS (ei_gtr (hS.get 9 rfl) rfl (by rw [decide_eq_false_iff_not]; omega)) fun a hS => ?_
 refine wpList_nil ?_
 replace hS := hS.cut [10, 2, 0]
 show Code.wp _ _ _ _ _
 refine cond_f (hS.get 10 rfl) ?_
 refine wp_skip ?_
 show Code.wp _ _ _ _ _
 refine wp_seq ?_
 refine wp_region_lit ?_
 refine sv_r (v := .bool false) hS ex_ac fun a hS => ?_
 refine sv_r (v := .bool false) hS ex_ac fun a hS => ?_
 refine sv_r (v := .int .i64 0) hS ex_ac fun a hS => ?_
 refine wpList_nil ?_
 replace hS : Sv 45 ((5, .int .i64 0) :: (4, .bool false) :: (3, .bool false) :: (10, .bool false) :: (2, .bool false) :: (0, .string s) :: []) [] (fun _ => False) w a w := hS.pick rfl
 show Code.wp _ _ _ _ _
 refine wp_seq ?_
 refine wp_seq ?_
 refine wp_region_lit ?_
 refine sv_r (v := .string s) hS (ex_mv (hS.get 0 rfl)) fun a hS => ?_
 have hlt := hS.lt
 have hsz := hS.size
 refine sv_call (S := fun v w' => Own strL 9 1 w' w.heap.size v ((lns ++ [last]).map trL)) hS rfl rfl (by decide) (ex_call1 cf_impl_lines (hS.get 11 rfl)) (lines_any lns last s hs hno hnl (by omega) ha _ (hG.below hS.toBelow)) ?_
 rintro a lv w1 ho hbw1 hS
 refine sv_r (v := .int .i64 ((((lns ++ [last]).map trL).length : Nat) : Int)) hS (ex_lenO Tryz.underlying46 (hS.get 12 rfl) ho) fun a hS => ?_
 refine sv_r (v := .int .i64 0) hS ex_mc fun a hS => ?_
 refine wpList_nil ?_
 replace hS := hS.cut [14, 13, 12, 5, 4, 3, 10, 2, 0]
 show Code.wp _ _ _ _ _
 refine wp_block ?_
 refine wp_loop (fun a w' => ∃ (inf : Bool) (seg k : Nat), k ≤ lns.length + 1 ∧ seg ≤ k ∧ Own strL 9 1 w' w.heap.size lv ((lns ++ [last]).map trL) ∧ Sv 45 ((3, .bool inf) :: (4, .bool false) :: (5, .int .i64 ((seg : Nat) : Int)) :: (12, lv) :: (13, .int .i64 ((((lns ++ [last]).map trL).length : Nat) : Int)) :: (14, .int .i64 ((k : Nat) : Int)) :: []) [] (fun _ => False) w a w') (fun a _ => lns.length + 2 - (intOf (a.eval (.tmp 14))).toNat) ⟨false, 0, 0, Nat.zero_le _, Nat.le_refl _, ho, hS.pick rfl⟩ ?_
 clear hS ho
 rintro a w5 ⟨inf, seg, k, hk, hsk, ho, hS⟩
 have h14 := hS.get 14 rfl
 rcases Nat.lt_or_ge k (lns.length + 1) with hlt | hge
 ·obtain ⟨ln, hln, hmem⟩ : ∃ ln, ((lns ++ [last]).map trL)[k]? = some ln ∧ NoKM ln := by
   obtain ⟨q, hq⟩ : ∃ q, (lns ++ [last])[k]? = some q := ⟨_, List.getElem?_eq_getElem (by simp; omega)⟩
   exact ⟨trL q, by rw [List.getElem?_map, hq]; rfl, hkm q (List.mem_of_getElem? hq)⟩
  refine wp_seq ?_
  refine wp_region_lit ?_
  refine sv_r (v := .bool true) hS (ei_lss (hS.get 14 rfl) (hS.get 13 rfl) (by rw [decide_eq_true_iff, hLn]; omega)) fun a hS => ?_
  refine wpList_nil ?_
  replace hS := hS.cut [15, 3, 4, 5, 12, 13, 14]
  show Code.wp _ _ _ _ _
  refine wp_seq ?_
  refine cond_t (hS.get 15 rfl) ?_
  refine wp_skip ?_
  show Code.wp _ _ _ _ _
  refine wp_seq ?_
  refine wp_block ?_
  refine wp_seq ?_
  refine wp_region_lit ?_
  refine sv_elemS Tryz.underlying46 Tryz.sizeOf9 lt_string hS ho hln (hS.get 12 rfl) (hS.get 14 rfl) (by decide) (by decide) ?_
  intro a p hS
  refine sv_r (v := .string ln) hS (ex_as (hS.get 17 rfl)) fun a hS => ?_
  refine wpList_nil ?_
  replace hS : Sv 45 ((7, .string ln) :: (15, .bool true) :: (3, .bool inf) :: (4, .bool false) :: (5, .int .i64 ((seg : Nat) : Int)) :: (12, lv) :: (13, .int .i64 ((((lns ++ [last]).map trL).length : Nat) : Int)) :: (14, .int .i64 ((k : Nat) : Int)) :: []) [] (fun _ => False) w a w5 := hS.pick rfl
  show Code.wp _ _ _ _ _
  refine wp_block ?_
  refine wp_seq ?_
  obtain ⟨b1, hb1⟩ : ∃ b, Lib.hasPrefix ln.data.toList (⟨#[35, 69, 88, 84, 73, 78, 70, 58]⟩ : ByteArray).data.toList = b := ⟨_, rfl⟩
  cases inf
  ·refine wp_region_lit ?_
   refine sv_r (v := .bool false) hS (ex_mv (hS.get 3 rfl)) fun a hS => ?_
   refine sv_r (v := .bool true) hS (ex_not (hS.get 19 rfl)) fun a hS => ?_
   refine sv_r (v := .bool true) hS (ex_mv (hS.get 20 rfl)) fun a hS => ?_
   refine sv_g (v := .string ln) hS (hS.get 21 rfl) (ex_mv (hS.get 7 rfl)) fun a hS => ?_
   refine sv_gcallv (v := .bool b1) hS rfl rfl (hS.get 21 rfl) rfl (by decide) (ex_call2 cf_impl_begins (hS.get 22 rfl) rfl) (begins_any (by decide) hb1 _) ?_
   intro a w9 hbw9 hS
   replace ho := ho.ty (TyOnly.of_below (ts := []) hbw9) (by decide)
   refine sv_r (v := .bool b1) hS (ex_pickT (hS.get 21 rfl) (hS.get 23 rfl)) fun a hS => ?_
   refine sv_r (v := .bool b1) hS (ex_as (hS.get 24 rfl)) fun a hS => ?_
   refine wpList_nil ?_
   replace hS := hS.cut [18, 7, 15, 3, 4, 5, 12, 13, 14]
   cases b1
   ·show Code.wp _ _ _ _ _
    refine cond_f (hS.get 18 rfl) ?_
    refine wp_seq ?_
    obtain ⟨b2, hb2⟩ : ∃ b, Lib.hasPrefix ln.data.toList (⟨#[35]⟩ : ByteArray).data.toList = b := ⟨_, rfl⟩
    refine wp_region_lit ?_
    refine sv_r (v := .string ln) hS (ex_mv (hS.get 7 rfl)) fun a hS => ?_
    refine sv_callv (v := .bool b2) hS rfl rfl (by decide) (ex_call2 cf_impl_begins (hS.get 26 rfl) rfl) (begins_any (by decide) hb2 _) ?_
    intro a w10 hbw10 hS
    replace ho := ho.ty (TyOnly.of_below (ts := []) hbw10) (by decide)
    refine sv_r (v := .bool (!b2)) hS (ex_not (hS.get 27 rfl)) fun a hS => ?_
    refine sv_r (v := .bool (!b2)) hS (ex_as (hS.get 28 rfl)) fun a hS => ?_
    refine wpList_nil ?_
    replace hS := hS.cut [25, 18, 7, 15, 3, 4, 5, 12, 13, 14]
    cases b2
    ·replace hS : Sv 45 ((25, .bool true) :: (18, .bool false) :: (7, .string ln) :: (15, .bool true) :: (3, .bool false) :: (4, .bool false) :: (5, .int .i64 ((seg : Nat) : Int)) :: (12, lv) :: (13, .int .i64 ((((lns ++ [last]).map trL).length : Nat) : Int)) :: (14, .int .i64 ((k : Nat) : Int)) :: []) [] (fun _ => False) w a w10 := hS.pick rfl
     show Code.wp _ _ _ _ _
     refine cond_t (hS.get 25 rfl) ?_
     refine wp_seq ?_
     refine wp_seq ?_
     refine wp_region_lit ?_
     refine sv_r (v := .bool false) hS (ex_mv (hS.get 3 rfl)) fun a hS => ?_
     refine wpList_nil ?_
     replace hS : Sv 45 ((29, .bool false) :: (25, .bool true) :: (18, .bool false) :: (7, .string ln) :: (15, .bool true) :: (3, .bool false) :: (4, .bool false) :: (5, .int .i64 ((seg : Nat) : Int)) :: (12, lv) :: (13, .int .i64 ((((lns ++ [last]).map trL).length : Nat) : Int)) :: (14, .int .i64 ((k : Nat) : Int)) :: []) [] (fun _ => False) w a w10 := hS.pick rfl
     show Code.wp _ _ _ _ _
     refine cond_f (hS.get 29 rfl) ?_
     refine wp_skip ?_
     show Code.wp _ _ _ _ _
     refine wp_seq ?_
     refine wp_seq ?_
     refine wp_region_lit ?_
     refine sv_r (v := .bool false) hS (ex_mv (hS.get 4 rfl)) fun a hS => ?_
     refine sv_r (v := .bool false) hS (ex_mv (hS.get 32 rfl)) fun a hS => ?_
     refine sv_goff hS rfl rfl (hS.get 33 rfl) rfl rfl (by decide) ?_
     intro a hS
     refine sv_goff hS rfl rfl (hS.get 33 rfl) rfl rfl (by decide) ?_
     intro a hS
     refine sv_r (v := .bool false) hS (ex_pickF (hS.get 33 rfl) rfl) fun a hS => ?_
     refine wpList_nil ?_
     replace hS := hS.cut [36, 29, 25, 18, 7, 15, 3, 4, 5, 12, 13, 14]
     show Code.wp _ _ _ _ _
     refine cond_f (hS.get 36 rfl) ?_
     refine wp_skip ?_
     show Code.wp _ _ _ _ _
     refine wp_region_lit ?_
     refine sv_r (v := .bool false) hS ex_ac fun a hS => ?_
     refine sv_r (v := .bool false) hS ex_ac fun a hS => ?_
     refine wpList_nil ?_
     replace hS := hS.cut [4, 3, 36, 29, 25, 18, 7, 15, 5, 12, 13, 14]
     show Code.wp _ _ _ _ _
     refine wp_region_lit ?_
     refine sv_r (v := .int .i64 ((k + 1 : Nat) : Int)) hS (ei_add (hS.get 14 rfl) rfl (by rw [IntKind.wrap_i64]; omega)) fun a hS => ?_
     refine sv_r (v := .int .i64 ((k + 1 : Nat) : Int)) hS (ex_mv (hS.get 44 rfl)) fun a hS => ?_
     refine wpList_nil ?_
     replace hS : Sv 45 ((14, .int .i64 ((k + 1 : Nat) : Int)) :: (4, .bool false) :: (3, .bool false) :: (36, .bool false) :: (29, .bool false) :: (25, .bool true) :: (18, .bool false) :: (7, .string ln) :: (15, .bool true) :: (5, .int .i64 ((seg : Nat) : Int)) :: (12, lv) :: (13, .int .i64 ((((lns ++ [last]).map trL).length : Nat) : Int)) :: []) [] (fun _ => False) w a w10 := hS.pick rfl
     refine ⟨⟨false, seg, k + 1, by omega, by omega, ho, hS.pick rfl⟩, ?_⟩
     have h14' := hS.get 14 rfl
     rw [h14, h14']
     simp only [intOf]
     omega
    ·replace hS : Sv 45 ((25, .bool false) :: (18, .bool false) :: (7, .string ln) :: (15, .bool true) :: (3, .bool false) :: (4, .bool false) :: (5, .int .i64 ((seg : Nat) : Int)) :: (12, lv) :: (13, .int .i64 ((((lns ++ [last]).map trL).length : Nat) : Int)) :: (14, .int .i64 ((k : Nat) : Int)) :: []) [] (fun _ => False) w a w10 := hS.pick rfl
     show Code.wp _ _ _ _ _
     refine cond_f (hS.get 25 rfl) ?_
     refine wp_seq ?_
     refine wp_region_lit ?_
     refine sv_r (v := .string ln) hS (ex_mv (hS.get 7 rfl)) fun a hS => ?_
     refine sv_callv (v := .bool false) hS rfl rfl (by decide) (ex_call2 cf_impl_begins (hS.get 38 rfl) rfl) (begins_any (by decide) hmem.1 _) ?_
     intro a w11 hbw11 hS
     replace ho := ho.ty (TyOnly.of_below (ts := []) hbw11) (by decide)
     refine sv_r (v := .bool false) hS (ex_mv (hS.get 39 rfl)) fun a hS => ?_
     refine sv_g (v := .string ln) hS (hS.get 40 rfl) (ex_mv (hS.get 7 rfl)) fun a hS => ?_
     refine sv_gcallv (v := .bool false) hS rfl rfl (hS.get 40 rfl) rfl (by decide) (ex_call2 cf_impl_begins (hS.get 41 rfl) rfl) (begins_any (by decide) hmem.2 _) ?_
     intro a w12 hbw12 hS
     replace ho := ho.ty (TyOnly.of_below (ts := []) hbw12) (by decide)
     refine sv_r (v := .bool false) hS (ex_pickF (hS.get 40 rfl) (hS.get 42 rfl)) fun a hS => ?_
     refine sv_r (v := .bool false) hS (ex_as (hS.get 43 rfl)) fun a hS => ?_
     refine wpList_nil ?_
     replace hS : Sv 45 ((37, .bool false) :: (25, .bool false) :: (18, .bool false) :: (7, .string ln) :: (15, .bool true) :: (3, .bool false) :: (4, .bool false) :: (5, .int .i64 ((seg : Nat) : Int)) :: (12, lv) :: (13, .int .i64 ((((lns ++ [last]).map trL).length : Nat) : Int)) :: (14, .int .i64 ((k : Nat) : Int)) :: []) [] (fun _ => False) w a w12 := hS.pick rfl
     show Code.wp _ _ _ _ _
     refine cond_f (hS.get 37 rfl) ?_
     refine wp_skip ?_
     show Code.wp _ _ _ _ _
     refine wp_region_lit ?_
     refine sv_r (v := .int .i64 ((k + 1 : Nat) : Int)) hS (ei_add (hS.get 14 rfl) rfl (by rw [IntKind.wrap_i64]; omega)) fun a hS => ?_
     refine sv_r (v := .int .i64 ((k + 1 : Nat) : Int)) hS (ex_mv (hS.get 44 rfl)) fun a hS => ?_
     refine wpList_nil ?_
     replace hS := hS.cut [14, 37, 25, 18, 7, 15, 3, 4, 5, 12, 13]
     refine ⟨⟨false, seg, k + 1, by omega, by omega, ho, hS.pick rfl⟩, ?_⟩
     have h14' := hS.get 14 rfl
     rw [h14, h14']
     simp only [intOf]
     omega
   ·show Code.wp _ _ _ _ _
    refine cond_t (hS.get 18 rfl) ?_
    refine wp_region_lit ?_
    refine sv_r (v := .bool true) hS ex_ac fun a hS => ?_
    refine wpList_nil ?_
    replace hS := hS.cut [3, 18, 7, 15, 4, 5, 12, 13, 14]
    show Code.wp _ _ _ _ _
    refine wp_region_lit ?_
    refine sv_r (v := .int .i64 ((k + 1 : Nat) : Int)) hS (ei_add (hS.get 14 rfl) rfl (by rw [IntKind.wrap_i64]; omega)) fun a hS => ?_
    refine sv_r (v := .int .i64 ((k + 1 : Nat) : Int)) hS (ex_mv (hS.get 44 rfl)) fun a hS => ?_
    refine wpList_nil ?_
    replace hS : Sv 45 ((14, .int .i64 ((k + 1 : Nat) : Int)) :: (3, .bool true) :: (18, .bool true) :: (7, .string ln) :: (15, .bool true) :: (4, .bool false) :: (5, .int .i64 ((seg : Nat) : Int)) :: (12, lv) :: (13, .int .i64 ((((lns ++ [last]).map trL).length : Nat) : Int)) :: []) [] (fun _ => False) w a w9 := hS.pick rfl
    refine ⟨⟨true, seg, k + 1, by omega, by omega, ho, hS.pick rfl⟩, ?_⟩
    have h14' := hS.get 14 rfl
    rw [h14, h14']
    simp only [intOf]
    omega
  ·refine wp_region_lit ?_
   refine sv_r (v := .bool true) hS (ex_mv (hS.get 3 rfl)) fun a hS => ?_
   refine sv_r (v := .bool false) hS (ex_not (hS.get 19 rfl)) fun a hS => ?_
   refine sv_r (v := .bool false) hS (ex_mv (hS.get 20 rfl)) fun a hS => ?_
   refine sv_goff hS rfl rfl (hS.get 21 rfl) rfl rfl (by decide) ?_
   intro a hS
   refine sv_goff hS rfl rfl (hS.get 21 rfl) rfl rfl (by decide) ?_
   intro a hS
   refine sv_r (v := .bool false) hS (ex_pickF (hS.get 21 rfl) rfl) fun a hS => ?_
   refine sv_r (v := .bool false) hS (ex_as (hS.get 24 rfl)) fun a hS => ?_
   refine wpList_nil ?_
   replace hS := hS.cut [18, 7, 15, 3, 4, 5, 12, 13, 14]
   show Code.wp _ _ _ _ _
   refine cond_f (hS.get 18 rfl) ?_
   refine wp_seq ?_
   obtain ⟨b2, hb2⟩ : ∃ b, Lib.hasPrefix ln.data.toList (⟨#[35]⟩ : ByteArray).data.toList = b := ⟨_, rfl⟩
   refine wp_region_lit ?_
   refine sv_r (v := .string ln) hS (ex_mv (hS.get 7 rfl)) fun a hS => ?_
   refine sv_callv (v := .bool b2) hS rfl rfl (by decide) (ex_call2 cf_impl_begins (hS.get 26 rfl) rfl) (begins_any (by decide) hb2 _) ?_
   intro a w9 hbw9 hS
   replace ho := ho.ty (TyOnly.of_below (ts := []) hbw9) (by decide)
   refine sv_r (v := .bool (!b2)) hS (ex_not (hS.get 27 rfl)) fun a hS => ?_
   refine sv_r (v := .bool (!b2)) hS (ex_as (hS.get 28 rfl)) fun a hS => ?_
   refine wpList_nil ?_
   replace hS := hS.cut [25, 18, 7, 15, 3, 4, 5, 12, 13, 14]
   cases b2
   ·replace hS : Sv 45 ((25, .bool true) :: (18, .bool false) :: (7, .string ln) :: (15, .bool true) :: (3, .bool true) :: (4, .bool false) :: (5, .int .i64 ((seg : Nat) : Int)) :: (12, lv) :: (13, .int .i64 ((((lns ++ [last]).map trL).length : Nat) : Int)) :: (14, .int .i64 ((k : Nat) : Int)) :: []) [] (fun _ => False) w a w9 := hS.pick rfl
    show Code.wp _ _ _ _ _
    refine cond_t (hS.get 25 rfl) ?_
    refine wp_seq ?_
    refine wp_seq ?_
    refine wp_region_lit ?_
    refine sv_r (v := .bool true) hS (ex_mv (hS.get 3 rfl)) fun a hS => ?_
    refine wpList_nil ?_
    replace hS : Sv 45 ((29, .bool true) :: (25, .bool true) :: (18, .bool false) :: (7, .string ln) :: (15, .bool true) :: (3, .bool true) :: (4, .bool false) :: (5, .int .i64 ((seg : Nat) : Int)) :: (12, lv) :: (13, .int .i64 ((((lns ++ [last]).map trL).length : Nat) : Int)) :: (14, .int .i64 ((k : Nat) : Int)) :: []) [] (fun _ => False) w a w9 := hS.pick rfl
    show Code.wp _ _ _ _ _
    refine cond_t (hS.get 29 rfl) ?_
    refine wp_region_lit ?_
    refine sv_r (v := .int .i64 ((seg : Nat) : Int)) hS (ex_mv (hS.get 5 rfl)) fun a hS => ?_
    refine sv_r (v := .int .i64 ((seg + 1 : Nat) : Int)) hS (ei_add (hS.get 30 rfl) rfl (by rw [IntKind.wrap_i64]; omega)) fun a hS => ?_
    refine sv_r (v := .int .i64 ((seg + 1 : Nat) : Int)) hS (ex_as (hS.get 31 rfl)) fun a hS => ?_
    refine wpList_nil ?_
    replace hS := hS.cut [5, 29, 25, 18, 7, 15, 3, 4, 12, 13, 14]
    show Code.wp _ _ _ _ _
    refine wp_seq ?_
    refine wp_seq ?_
    refine wp_region_lit ?_
    refine sv_r (v := .bool false) hS (ex_mv (hS.get 4 rfl)) fun a hS => ?_
    refine sv_r (v := .bool false) hS (ex_mv (hS.get 32 rfl)) fun a hS => ?_
    refine sv_goff hS rfl rfl (hS.get 33 rfl) rfl rfl (by decide) ?_
    intro a hS
    refine sv_goff hS rfl rfl (hS.get 33 rfl) rfl rfl (by decide) ?_
    intro a hS
    refine sv_r (v := .bool false) hS (ex_pickF (hS.get 33 rfl) rfl) fun a hS => ?_
    refine wpList_nil ?_
    replace hS := hS.cut [36, 5, 29, 25, 18, 7, 15, 3, 4, 12, 13, 14]
    show Code.wp _ _ _ _ _
    refine cond_f (hS.get 36 rfl) ?_
    refine wp_skip ?_
    show Code.wp _ _ _ _ _
    refine wp_region_lit ?_
    refine sv_r (v := .bool false) hS ex_ac fun a hS => ?_
    refine sv_r (v := .bool false) hS ex_ac fun a hS => ?_
    refine wpList_nil ?_
    replace hS : Sv 45 ((4, .bool false) :: (3, .bool false) :: (36, .bool false) :: (5, .int .i64 ((seg + 1 : Nat) : Int)) :: (29, .bool true) :: (25, .bool true) :: (18, .bool false) :: (7, .string ln) :: (15, .bool true) :: (12, lv) :: (13, .int .i64 ((((lns ++ [last]).map trL).length : Nat) : Int)) :: (14, .int .i64 ((k : Nat) : Int)) :: []) [] (fun _ => False) w a w9 := hS.pick rfl
    show Code.wp _ _ _ _ _
    refine wp_region_lit ?_
    refine sv_r (v := .int .i64 ((k + 1 : Nat) : Int)) hS (ei_add (hS.get 14 rfl) rfl (by rw [IntKind.wrap_i64]; omega)) fun a hS => ?_
    refine sv_r (v := .int .i64 ((k + 1 : Nat) : Int)) hS (ex_mv (hS.get 44 rfl)) fun a hS => ?_
    refine wpList_nil ?_
    replace hS := hS.cut [14, 4, 3, 36, 5, 29, 25, 18, 7, 15, 12, 13]
    refine ⟨⟨false, seg + 1, k + 1, by omega, by omega, ho, hS.pick rfl⟩, ?_⟩
    have h14' := hS.get 14 rfl
    rw [h14, h14']
    simp only [intOf]
    omega
   ·replace hS : Sv 45 ((25, .bool false) :: (18, .bool false) :: (7, .string ln) :: (15, .bool true) :: (3, .bool true) :: (4, .bool false) :: (5, .int .i64 ((seg : Nat) : Int)) :: (12, lv) :: (13, .int .i64 ((((lns ++ [last]).map trL).length : Nat) : Int)) :: (14, .int .i64 ((k : Nat) : Int)) :: []) [] (fun _ => False) w a w9 := hS.pick rfl
    show Code.wp _ _ _ _ _
    refine cond_f (hS.get 25 rfl) ?_
    refine wp_seq ?_
    refine wp_region_lit ?_
    refine sv_r (v := .string ln) hS (ex_mv (hS.get 7 rfl)) fun a hS => ?_
    refine sv_callv (v := .bool false) hS rfl rfl (by decide) (ex_call2 cf_impl_begins (hS.get 38 rfl) rfl) (begins_any (by decide) hmem.1 _) ?_
    intro a w10 hbw10 hS
    replace ho := ho.ty (TyOnly.of_below (ts := []) hbw10) (by decide)
    refine sv_r (v := .bool false) hS (ex_mv (hS.get 39 rfl)) fun a hS => ?_
    refine sv_g (v := .string ln) hS (hS.get 40 rfl) (ex_mv (hS.get 7 rfl)) fun a hS => ?_
    refine sv_gcallv (v := .bool false) hS rfl rfl (hS.get 40 rfl) rfl (by decide) (ex_call2 cf_impl_begins (hS.get 41 rfl) rfl) (begins_any (by decide) hmem.2 _) ?_
    intro a w11 hbw11 hS
    replace ho := ho.ty (TyOnly.of_below (ts := []) hbw11) (by decide)
    refine sv_r (v := .bool false) hS (ex_pickF (hS.get 40 rfl) (hS.get 42 rfl)) fun a hS => ?_
    refine sv_r (v := .bool false) hS (ex_as (hS.get 43 rfl)) fun a hS => ?_
    refine wpList_nil ?_
    replace hS : Sv 45 ((37, .bool false) :: (25, .bool false) :: (18, .bool false) :: (7, .string ln) :: (15, .bool true) :: (3, .bool true) :: (4, .bool false) :: (5, .int .i64 ((seg : Nat) : Int)) :: (12, lv) :: (13, .int .i64 ((((lns ++ [last]).map trL).length : Nat) : Int)) :: (14, .int .i64 ((k : Nat) : Int)) :: []) [] (fun _ => False) w a w11 := hS.pick rfl
    show Code.wp _ _ _ _ _
    refine cond_f (hS.get 37 rfl) ?_
    refine wp_skip ?_
    show Code.wp _ _ _ _ _
    refine wp_region_lit ?_
    refine sv_r (v := .int .i64 ((k + 1 : Nat) : Int)) hS (ei_add (hS.get 14 rfl) rfl (by rw [IntKind.wrap_i64]; omega)) fun a hS => ?_
    refine sv_r (v := .int .i64 ((k + 1 : Nat) : Int)) hS (ex_mv (hS.get 44 rfl)) fun a hS => ?_
    refine wpList_nil ?_
    replace hS := hS.cut [14, 37, 25, 18, 7, 15, 3, 4, 5, 12, 13]
    refine ⟨⟨true, seg, k + 1, by omega, by omega, ho, hS.pick rfl⟩, ?_⟩
    have h14' := hS.get 14 rfl
    rw [h14, h14']
    simp only [intOf]
    omega
 ·refine wp_seq ?_
  refine wp_region_lit ?_
  refine sv_r (v := .bool false) hS (ei_lss (hS.get 14 rfl) (hS.get 13 rfl) (by rw [decide_eq_false_iff_not, hLn]; omega)) fun a hS => ?_
  refine wpList_nil ?_
  replace hS := hS.cut [15, 3, 4, 5, 12, 13, 14]
  show Code.wp _ _ _ _ _
  refine wp_seq ?_
  refine cond_f (hS.get 15 rfl) ?_
  refine wp_exit ?_
  show Code.wp _ _ _ _ _
  refine wp_seq ?_
  refine wp_region_lit ?_
  refine sv_r (v := .bool true) hS ex_ac fun a hS => ?_
  refine wpList_nil ?_
  replace hS : Sv 45 ((2, .bool true) :: (15, .bool false) :: (3, .bool inf) :: (4, .bool false) :: (5, .int .i64 ((seg : Nat) : Int)) :: (12, lv) :: (13, .int .i64 ((((lns ++ [last]).map trL).length : Nat) : Int)) :: (14, .int .i64 ((k : Nat) : Int)) :: []) [] (fun _ => False) w a w5 := hS.pick rfl
  show Code.wp _ _ _ _ _
  refine wp_ret ?_
  try simp only [Exit.inBlock, Exit.then]
  exact ret_of_ev hS.ev rfl (hS.get 2 rfl) ⟨rfl, hS.toBelow⟩
end Go.Proofs.YtflppablgdegcaaGreatDoor
/- keyOf, mapOf, cueOf of nil; Version, WinSize, ZZHead. -/
set_option maxRecDepth 100000
set_option maxHeartbeats 8000000
namespace Go.Proofs.YtflppablgdegcaaGreatDoor
open Go.RowKit
theorem keyOf_nil (w : World) : Calls Tryz.prog 40 #[.pointer none] w fun e w' => e = .returned (.slice none 0 0) ∧ Below w.heap.size w w' := by
 refine calls_of_ev Tryz.func40 rfl (show 1 ≤ 27 from by decide) ?_
 intro a hE
 have hE : Ev 27 ((0, .pointer none) :: []) a := hE
 have hS : Sv 27 ((0, .pointer none) :: []) [] (fun _ => False) w a w := Sv.start hE _ _
 clear hE
 refine wp_seq ?_
 refine wp_region_lit ?_
 refine sv_r (v := .slice none 0 0) hS ex_ac fun a hS => ?_
 refine wpList_nil ?_
 replace hS := hS.cut [2, 0]
 show Code.wp _ _ _ _ _
 refine wp_seq ?_
 refine wp_seq ?_
 refine wp_region_lit ?_
 refine sv_r (v := .pointer none) hS (ex_mv (hS.get 0 rfl)) fun a hS => ?_
 refine sv_r (v := .bool true) hS (ex_pe eqp_p_m3u8_Key (hS.get 3 rfl)) fun a hS => ?_
 refine wpList_nil ?_
 replace hS := hS.cut [4, 2, 0]
 show Code.wp _ _ _ _ _
 refine cond_t (hS.get 4 rfl) ?_
 refine wp_seq ?_
 refine wp_region_lit ?_
 refine sv_r (v := .slice none 0 0) hS ex_ac fun a hS => ?_
 replace hS : Sv 27 ((2, .slice none 0 0) :: (4, .bool true) :: (0, .pointer none) :: []) [] (fun _ => False) w a w := hS.pick rfl
 refine nx1 ?_
 refine wp_ret ?_
 try simp only [Exit.inBlock, Exit.then]
 exact ret_of_ev hS.ev rfl (hS.get 2 rfl) ⟨rfl, hS.toBelow⟩
theorem mapOf_nil (w : World) : Calls Tryz.prog 41 #[.pointer none] w fun e w' => e = .returned (.slice none 0 0) ∧ Below w.heap.size w w' := by
 refine calls_of_ev Tryz.func41 rfl (show 1 ≤ 19 from by decide) ?_
 intro a hE
 have hE : Ev 19 ((0, .pointer none) :: []) a := hE
 have hS : Sv 19 ((0, .pointer none) :: []) [] (fun _ => False) w a w := Sv.start hE _ _
 clear hE
 refine wp_seq ?_
 refine wp_region_lit ?_
 refine sv_r (v := .slice none 0 0) hS ex_ac fun a hS => ?_
 refine wpList_nil ?_
 replace hS := hS.cut [2, 0]
 show Code.wp _ _ _ _ _
 refine wp_seq ?_
 refine wp_seq ?_
 refine wp_region_lit ?_
 refine sv_r (v := .pointer none) hS (ex_mv (hS.get 0 rfl)) fun a hS => ?_
 refine sv_r (v := .bool true) hS (ex_pe eqp_p_m3u8_Map (hS.get 3 rfl)) fun a hS => ?_
 refine wpList_nil ?_
 replace hS := hS.cut [4, 2, 0]
 show Code.wp _ _ _ _ _
 refine cond_t (hS.get 4 rfl) ?_
 refine wp_seq ?_
 refine wp_region_lit ?_
 refine sv_r (v := .slice none 0 0) hS ex_ac fun a hS => ?_
 replace hS : Sv 19 ((2, .slice none 0 0) :: (4, .bool true) :: (0, .pointer none) :: []) [] (fun _ => False) w a w := hS.pick rfl
 refine nx1 ?_
 refine wp_ret ?_
 try simp only [Exit.inBlock, Exit.then]
 exact ret_of_ev hS.ev rfl (hS.get 2 rfl) ⟨rfl, hS.toBelow⟩
theorem cueOf_nil (w : World) : Calls Tryz.prog 48 #[.pointer none] w fun e w' => e = .returned (.slice none 0 0) ∧ Below w.heap.size w w' := by
 refine calls_of_ev Tryz.func48 rfl (show 1 ≤ 33 from by decide) ?_
 intro a hE
 have hE : Ev 33 ((0, .pointer none) :: []) a := hE
 have hS : Sv 33 ((0, .pointer none) :: []) [] (fun _ => False) w a w := Sv.start hE _ _
 clear hE
 refine wp_seq ?_
 refine wp_region_lit ?_
 refine sv_r (v := .slice none 0 0) hS ex_ac fun a hS => ?_
 refine wpList_nil ?_
 replace hS := hS.cut [2, 0]
 show Code.wp _ _ _ _ _
 refine wp_seq ?_
 refine wp_seq ?_
 refine wp_region_lit ?_
 refine sv_r (v := .pointer none) hS (ex_mv (hS.get 0 rfl)) fun a hS => ?_
 refine sv_r (v := .bool true) hS (ex_pe eqp_p_m3u8_SCTE (hS.get 3 rfl)) fun a hS => ?_
 refine wpList_nil ?_
 replace hS := hS.cut [4, 2, 0]
 show Code.wp _ _ _ _ _
 refine cond_t (hS.get 4 rfl) ?_
 refine wp_seq ?_
 refine wp_region_lit ?_
 refine sv_r (v := .slice none 0 0) hS ex_ac fun a hS => ?_
 replace hS : Sv 33 ((2, .slice none 0 0) :: (4, .bool true) :: (0, .pointer none) :: []) [] (fun _ => False) w a w := hS.pick rfl
 refine nx1 ?_
 refine wp_ret ?_
 try simp only [Exit.inBlock, Exit.then]
 exact ret_of_ev hS.ev rfl (hS.get 2 rfl) ⟨rfl, hS.toBelow⟩
theorem ver_any {gp tgt seq disc ver cap tail count : Nat} {sv : Value} (w : World) (hp : w.heap[gp]? = some (.cells (pcs tgt seq disc ver sv cap tail count) 88 (0, 0))) : Calls Tryz.prog 39 #[pt gp 0] w fun e w' => e = .returned (.int .u8 ((ver : Nat) : Int)) ∧ Below w.heap.size w w' := by
 refine calls_of_ev Tryz.func39 rfl (show 1 ≤ 7 from by decide) ?_
 intro a hE
 have hE : Ev 7 ((0, pt gp 0) :: []) a := hE
 have hS : Sv 7 ((0, pt gp 0) :: []) [] (fun _ => False) w a w := Sv.start hE _ _
 clear hE
 replace hS : Sv 7 ((0, pt gp 0) :: []) [⟨gp, (pcs tgt seq disc ver sv cap tail count), 88, false⟩] (fun _ => False) w a w := (hS.addR hp (by intro b hb; cases hb)).pick rfl
 refine wp_seq ?_
 refine wp_region_lit ?_
 refine sv_r (v := .int .u8 0) hS ex_ac fun a hS => ?_
 refine wpList_nil ?_
 replace hS := hS.cut [2, 0]
 show Code.wp _ _ _ _ _
 refine wp_seq ?_
 refine wp_region_lit ?_
 refine sv_r (v := pt gp 0) hS (ex_mv (hS.get 0 rfl)) fun a hS => ?_
 refine sv_r (v := pt gp 0) hS (ex_nc (hS.get 3 rfl)) fun a hS => ?_
 refine sv_r (v := pt gp 20) hS (ex_fo (hS.get 4 rfl) fo_m3u8_MediaPlaylist_18 rfl) fun a hS => ?_
 refine sv_r (v := .int .u8 ((ver : Nat) : Int)) hS (ex_ld (hS.get 5 rfl) lt_uint8 (cell_of_heap (v := .int .u8 ((ver : Nat) : Int)) (hS.at 0 rfl) rfl)) fun a hS => ?_
 refine sv_r (v := .int .u8 ((ver : Nat) : Int)) hS (ex_as (hS.get 6 rfl)) fun a hS => ?_
 refine wpList_nil ?_
 replace hS := hS.cut [2]
 show Code.wp _ _ _ _ _
 refine wp_ret ?_
 try simp only [Exit.inBlock, Exit.then]
 exact ret_of_ev hS.ev rfl (hS.get 2 rfl) ⟨rfl, hS.toBelow⟩
theorem win_any {gp tgt seq disc ver cap tail count : Nat} {sv : Value} (w : World) (hp : w.heap[gp]? = some (.cells (pcs tgt seq disc ver sv cap tail count) 88 (0, 0))) : Calls Tryz.prog 42 #[pt gp 0] w fun e w' => e = .returned (.int .u64 0) ∧ Below w.heap.size w w' := by
 refine calls_of_ev Tryz.func42 rfl (show 1 ≤ 7 from by decide) ?_
 intro a hE
 have hE : Ev 7 ((0, pt gp 0) :: []) a := hE
 have hS : Sv 7 ((0, pt gp 0) :: []) [] (fun _ => False) w a w := Sv.start hE _ _
 clear hE
 replace hS : Sv 7 ((0, pt gp 0) :: []) [⟨gp, (pcs tgt seq disc ver sv cap tail count), 88, false⟩] (fun _ => False) w a w := (hS.addR hp (by intro b hb; cases hb)).pick rfl
 refine wp_seq ?_
 refine wp_region_lit ?_
 refine sv_r (v := .int .u64 0) hS ex_ac fun a hS => ?_
 refine wpList_nil ?_
 replace hS := hS.cut [2, 0]
 show Code.wp _ _ _ _ _
 refine wp_seq ?_
 refine wp_region_lit ?_
 refine sv_r (v := pt gp 0) hS (ex_mv (hS.get 0 rfl)) fun a hS => ?_
 refine sv_r (v := pt gp 0) hS (ex_nc (hS.get 3 rfl)) fun a hS => ?_
 refine sv_r (v := pt gp 12) hS (ex_fo (hS.get 4 rfl) fo_m3u8_MediaPlaylist_12 rfl) fun a hS => ?_
 refine sv_r (v := .int .u64 0) hS (ex_ld (hS.get 5 rfl) lt_uint (cell_of_heap (v := .int .u64 0) (hS.at 0 rfl) rfl)) fun a hS => ?_
 refine sv_r (v := .int .u64 0) hS (ex_as (hS.get 6 rfl)) fun a hS => ?_
 refine wpList_nil ?_
 replace hS := hS.cut [2]
 show Code.wp _ _ _ _ _
 refine wp_ret ?_
 try simp only [Exit.inBlock, Exit.then]
 exact ret_of_ev hS.ev rfl (hS.get 2 rfl) ⟨rfl, hS.toBelow⟩
theorem head_any {gp tgt seq disc ver cap tail count : Nat} {sv : Value} (w : World) (hp : w.heap[gp]? = some (.cells (pcs tgt seq disc ver sv cap tail count) 88 (0, 0))) : Calls Tryz.prog 49 #[pt gp 0] w fun e w' => e = .returned (.tuple #[.int .u64 0, .int .u64 ((tail : Nat) : Int), .int .u64 ((count : Nat) : Int)]) ∧ Below w.heap.size w w' := by
 refine calls_of_ev Tryz.func49 rfl (show 1 ≤ 17 from by decide) ?_
 intro a hE
 have hE : Ev 17 ((0, pt gp 0) :: []) a := hE
 have hS : Sv 17 ((0, pt gp 0) :: []) [] (fun _ => False) w a w := Sv.start hE _ _
 clear hE
 replace hS : Sv 17 ((0, pt gp 0) :: []) [⟨gp, (pcs tgt seq disc ver sv cap tail count), 88, false⟩] (fun _ => False) w a w := (hS.addR hp (by intro b hb; cases hb)).pick rfl
 refine wp_seq ?_
 refine wp_region_lit ?_
 refine sv_r (v := .int .u64 0) hS ex_ac fun a hS => ?_
 refine sv_r (v := .int .u64 0) hS ex_ac fun a hS => ?_
 refine sv_r (v := .int .u64 0) hS ex_ac fun a hS => ?_
 refine wpList_nil ?_
 replace hS := hS.cut [4, 3, 2, 0]
 show Code.wp _ _ _ _ _
 refine wp_seq ?_
 refine G2.wp_region_og0 (n := 17) [G2.Asr.eq (pt gp 0), G2.Asr.eq (pt gp 0), G2.Asr.eq (pt gp 14), G2.Asr.eq (.int .u64 0), G2.Asr.eq (pt gp 0), G2.Asr.eq (pt gp 0), G2.Asr.eq (pt gp 15), G2.Asr.eq (.int .u64 ((tail : Nat) : Int)), G2.Asr.eq (pt gp 0), G2.Asr.eq (pt gp 0), G2.Asr.eq (pt gp 16), G2.Asr.eq (.int .u64 ((count : Nat) : Int)), G2.Asr.eq (.int .u64 0), G2.Asr.eq (.int .u64 ((tail : Nat) : Int)), G2.Asr.eq (.int .u64 ((count : Nat) : Int))] (by kernel_rfl) (by kernel_rfl) (by kernel_rfl) hS.ev.size ⟨⟩ ?_ ?_
 ·refine ⟨?_, ?_, ?_, ?_, ?_, ?_, ?_, ?_, ?_, ?_, ?_, ?_, ?_, ?_, ?_, trivial⟩
  ·intro a wx c
   have e_0 : a.eval (.tmp 0) = pt gp 0 := c.outE (by decide +kernel) (hS.get 0 rfl)
   clear c
   exact G2.og_val (ex_mv e_0) rfl
  ·intro a wx c
   have e_5 : a.eval (.tmp 5) = pt gp 0 := c.slot 0 _ (by decide +kernel) rfl
   clear c
   exact G2.og_val (ex_nc e_5) rfl
  ·intro a wx c
   have e_6 : a.eval (.tmp 6) = pt gp 0 := c.slot 1 _ (by decide +kernel) rfl
   clear c
   exact G2.og_val (ex_fo e_6 fo_m3u8_MediaPlaylist_14 rfl) rfl
  ·intro a wx c
   have e_7 : a.eval (.tmp 7) = pt gp 14 := c.slot 2 _ (by decide +kernel) rfl
   have hO := G2.sv_ogc hS c
   clear c
   exact G2.og_val (ex_ld e_7 lt_uint (cell_of_heap (v := .int .u64 0) (hO.at 0 rfl) rfl)) rfl
  ·intro a wx c
   have e_0 : a.eval (.tmp 0) = pt gp 0 := c.outE (by decide +kernel) (hS.get 0 rfl)
   clear c
   exact G2.og_val (ex_mv e_0) rfl
  ·intro a wx c
   have e_9 : a.eval (.tmp 9) = pt gp 0 := c.slot 4 _ (by decide +kernel) rfl
   clear c
   exact G2.og_val (ex_nc e_9) rfl
  ·intro a wx c
   have e_10 : a.eval (.tmp 10) = pt gp 0 := c.slot 5 _ (by decide +kernel) rfl
   clear c
   exact G2.og_val (ex_fo e_10 fo_m3u8_MediaPlaylist_15 rfl) rfl
  ·intro a wx c
   have e_11 : a.eval (.tmp 11) = pt gp 15 := c.slot 6 _ (by decide +kernel) rfl
   have hO := G2.sv_ogc hS c
   clear c
   exact G2.og_val (ex_ld e_11 lt_uint (cell_of_heap (v := .int .u64 ((tail : Nat) : Int)) (hO.at 0 rfl) rfl)) rfl
  ·intro a wx c
   have e_0 : a.eval (.tmp 0) = pt gp 0 := c.outE (by decide +kernel) (hS.get 0 rfl)
   clear c
   exact G2.og_val (ex_mv e_0) rfl
  ·intro a wx c
   have e_13 : a.eval (.tmp 13) = pt gp 0 := c.slot 8 _ (by decide +kernel) rfl
   clear c
   exact G2.og_val (ex_nc e_13) rfl
  ·intro a wx c
   have e_14 : a.eval (.tmp 14) = pt gp 0 := c.slot 9 _ (by decide +kernel) rfl
   clear c
   exact G2.og_val (ex_fo e_14 fo_m3u8_MediaPlaylist_16 rfl) rfl
  ·intro a wx c
   have e_15 : a.eval (.tmp 15) = pt gp 16 := c.slot 10 _ (by decide +kernel) rfl
   have hO := G2.sv_ogc hS c
   clear c
   exact G2.og_val (ex_ld e_15 lt_uint (cell_of_heap (v := .int .u64 ((count : Nat) : Int)) (hO.at 0 rfl) rfl)) rfl
  ·intro a wx c
   have e_8 : a.eval (.tmp 8) = .int .u64 0 := c.slot 3 _ (by decide +kernel) rfl
   clear c
   exact G2.og_val (ex_as e_8) rfl
  ·intro a wx c
   have e_12 : a.eval (.tmp 12) = .int .u64 ((tail : Nat) : Int) := c.slot 7 _ (by decide +kernel) rfl
   clear c
   exact G2.og_val (ex_as e_12) rfl
  ·intro a wx c
   have e_16 : a.eval (.tmp 16) = .int .u64 ((count : Nat) : Int) := c.slot 11 _ (by decide +kernel) rfl
   clear c
   exact G2.og_val (ex_as e_16) rfl
 ·intro a w1 c hbw1
  replace hS : Sv 17 ((4, .int .u64 ((count : Nat) : Int)) :: (3, .int .u64 ((tail : Nat) : Int)) :: (2, .int .u64 0) :: (0, pt gp 0) :: []) [⟨gp, (pcs tgt seq disc ver sv cap tail count), 88, false⟩] (fun _ => False) w a w1 := (((((G2.sv_oge hS c).know (c.outG (by decide +kernel) (hS.get 0 rfl))).know (c.slot 12 _ rfl)).know (c.slot 13 _ rfl)).know (c.slot 14 _ rfl))
  clear c
  replace hS := hS.cut [4, 3, 2]
  show Code.wp _ _ _ _ _
  refine wp_ret ?_
  try simp only [Exit.inBlock, Exit.then]
  exact ret3_of_ev hS.ev rfl (hS.get 2 rfl) (hS.get 3 rfl) (hS.get 4 rfl) ⟨rfl, hS.toBelow⟩
end Go.Proofs.YtflppablgdegcaaGreatDoor
