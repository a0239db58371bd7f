/- Joined: Plw, Plx, Fmt. -/
import Derived.Test.YtkddkmiomhadaaaDoorFfz
/-! The plain law, its pieces: what Encode writes is what the definition says. -/
namespace Go.Proofs.YtkddkmiomhadaaaDoor
open Go.RowKit
theorem joinL_opt (L : List ByteArray) (h : L ≠ []) (b : Bool) (x : ByteArray) : joinL (L ++ opt b x) = joinL L ++ (if b = true then 44 :: x.data.toList else []) := by
  cases b with
  | false => simp [opt]
  | true =>
    simp only [opt, if_true]
    induction L with
    | nil => exact absurd rfl h
    | cons s r ih =>
      cases r with
      | nil => rw [List.cons_append, List.nil_append, joinL_cons _ _ (by simp), joinL_one, joinL_one]
      | cons t r =>
        rw [List.cons_append, joinL_cons _ _ (by simp), ih (by simp), joinL_cons s (t :: r) (by simp)]
        simp
theorem app_ne {L : List ByteArray} (h : L ≠ []) (M : List ByteArray) : L ++ M ≠ [] := by simp [h]
theorem joinL_two (x y : ByteArray) : joinL [x, y] = x.data.toList ++ 44 :: y.data.toList := by rw [joinL_cons _ _ (by simp), joinL_one]
theorem quo_list (k v : ByteArray) : (attr k v true).data.toList = k.data.toList ++ (61 :: 34 :: (v.data.toList ++ [34])) := by simp [attr, ByteArray.data_append]
theorem raw_list (k v : ByteArray) : (attr k v false).data.toList = k.data.toList ++ (61 :: v.data.toList) := by simp [attr, ByteArray.data_append]
theorem pos_dec (n : Nat) : decide (0 < n) = decide (n ≠ 0) := by rw [decide_eq_decide]; omega
theorem ne_list (s : ByteArray) : (!s.toList.isEmpty) = ne s := by unfold ne; rw [ByteArray.toList_eq]
theorem ne_app_right {s t : ByteArray} (h : ne t = true) : ne (s ++ t) = true := by
  unfold ne at *
  rw [ByteArray.data_append, Array.toList_append]
  cases hs : s.data.toList with
  | nil => simpa using h
  | cons x r => rfl
theorem ne_res (v : Vt) : ne v.resolution = decide (v.width ≠ 0) := by
  unfold Vt.resolution
  by_cases h : v.width = 0
  · rw [if_pos h]; simp [h, ne]
  · rw [if_neg h]
    have h2 : ne (dec v.width ++ ⟨#[120]⟩ ++ dec v.height) = true := by
      unfold ne
      simp [ByteArray.data_append]
    rw [h2]
    simp [h]
theorem zzi_neg : ∀ (l : List UInt8) (i : Int), 0 ≤ i → (0 ≤ zzi l i ↔ hasB l 63 = true) := by
  intro l
  induction l with
  | nil => intro i hi; simp [zzi, hasB]
  | cons c r ih =>
    intro i hi
    unfold zzi
    have e : hasB (c :: r) 63 = (c == 63 || hasB r 63) := by simp [hasB]
    rw [e]
    cases hc : c == 63 with
    | true => simpa using hi
    | false => simpa using ih (i + 1) (by omega)
theorem hasQ_eq (u : ByteArray) : hasQ u = hasB u.data.toList 63 := by
  unfold hasQ
  have h := zzi_neg u.data.toList 0 (by omega)
  cases hb : hasB u.data.toList 63 with
  | true => simpa using h.2 hb
  | false =>
    rw [hb] at h
    simpa using h
theorem media_eq {k : Nat} {y : At} (h1 : ne y.typ = true) (h2 : ne y.grp = true) (h3 : ne y.name = true) : y.media = mediaLine y := by
  have n0 : ne (⟨#[]⟩ : ByteArray) = false := rfl
  have e0 : y.at0 ≠ [] := by simp [At.at0]
  have e1 : y.at1 ≠ [] := app_ne e0 _
  have e2 : y.at2 ≠ [] := app_ne e1 _
  have e3 : y.at3 ≠ [] := app_ne e2 _
  have j0 : joinL y.at1 = (attr ⟨#[84, 89, 80, 69]⟩ y.typ false).data.toList ++ 44 :: (attr ⟨#[71, 82, 79, 85, 80, 45, 73, 68]⟩ y.grp true).data.toList ++ 44 :: (attr ⟨#[78, 65, 77, 69]⟩ y.name true).data.toList ++ 44 :: (if y.dflt = true then attr ⟨#[68, 69, 70, 65, 85, 76, 84]⟩ ⟨#[89, 69, 83]⟩ false else attr ⟨#[68, 69, 70, 65, 85, 76, 84]⟩ ⟨#[78, 79]⟩ false).data.toList := by
    unfold At.at1 At.at0
    simp only [List.cons_append, List.nil_append]
    rw [joinL_cons _ _ (by simp), joinL_cons _ _ (by simp), joinL_two]
    simp
  unfold At.media mediaLine At.attrs
  rw [joinL_opt _ e3, At.at3, joinL_opt _ e2, At.at2, joinL_opt _ e1, j0, n0, if_pos h1, if_pos h2, if_pos h3]
  simp only [quo_list, raw_list]
  cases y.dflt <;> simp [raw_list]
theorem lines_eq (v : Vt) (hu : ne v.uri = true) (fr : Bool) (args : ByteArray) : v.lines fr args = varLine v fr args := by
  have n0 : ne (⟨#[]⟩ : ByteArray) = false := rfl
  cases fr with
  | true => 
    unfold Vt.lines varLine
    rw [if_pos rfl, if_pos rfl, n0]
    unfold Vt.frames Vt.f4 Vt.f3 Vt.f2 Vt.f1 Vt.f0
    rw [ne_res, pos_dec, pos_dec]
    by_cases c1 : v.average ≠ 0 <;> by_cases c2 : ne v.codecs = true <;> by_cases c3 : v.width ≠ 0 <;> by_cases c4 : ne v.video = true <;> simp [c1, c2, c3, c4, hu, ByteArray.data_append]
  | false =>
    have e0 : v.at0 ≠ [] := by simp [Vt.at0]
    have e1 : v.at1 ≠ [] := app_ne e0 _
    have e2 : v.at2 ≠ [] := app_ne e1 _
    have e3 : v.at3 ≠ [] := app_ne e2 _
    have e4 : v.at4 ≠ [] := app_ne e3 _
    have e5 : v.at5 ≠ [] := app_ne e4 _
    have e6 : v.at6 ≠ [] := app_ne e5 _
    have e7 : v.at7 ≠ [] := app_ne e6 _
    have e8 : v.at8 ≠ [] := app_ne e7 _
    have hcap : (if ne v.captions = true then 44 :: (attr ⟨#[67, 76, 79, 83, 69, 68, 45, 67, 65, 80, 84, 73, 79, 78, 83]⟩ v.captions (!(v.captions.toList == [78, 79, 78, 69]))).data.toList else []) = (if ne v.captions = true then 44 :: 67 :: 76 :: 79 :: 83 :: 69 :: 68 :: 45 :: 67 :: 65 :: 80 :: 84 :: 73 :: 79 :: 78 :: 83 :: 61 :: (if isNone v.captions = true then v.captions.data.toList else 34 :: (v.captions.data.toList ++ [34])) else []) := by
      rw [ByteArray.toList_eq]
      unfold isNone
      cases h : v.captions.data.toList == [78, 79, 78, 69] with
      | true => simp [raw_list]
      | false => simp [quo_list]
    unfold Vt.lines varLine Vt.attrs
    simp only [show (false = true) = False from by simp, if_false]
    rw [n0, Vt.at9, joinL_opt _ e8, Vt.at8, joinL_opt _ e7, Vt.at7, joinL_opt _ e6, Vt.at6, joinL_opt _ e5, Vt.at5, joinL_opt _ e4, Vt.at4, joinL_opt _ e3, Vt.at3, joinL_opt _ e2, Vt.at2, joinL_opt _ e1, Vt.at1, joinL_opt _ e0, Vt.at0, joinL_two]
    simp only [ne_list, pos_dec, hcap]
    rw [ne_res, hasQ_eq]
    simp only [quo_list, raw_list]
    cases ha : ne args <;> cases hb : hasB v.uri.data.toList 63 <;> simp
end Go.Proofs.YtkddkmiomhadaaaDoor
/-! The plain law: what Encode writes is what the definition says. -/
namespace Go.Proofs.YtkddkmiomhadaaaDoor
open Go.RowKit
/-- The digit of a rendition's name, off its key. -/
def digOf (l : List UInt8) : Option UInt8 := if l[0]? = some 83 then l[13]? else l[9]?
theorem key_digit {k : Nat} {y : At} (hk : k < 10) (h : AtOk k y) : digOf (altKey y).data.toList = some (UInt8.ofNat (48 + k)) := by
  have h1 := h.typ; have h2 := h.grp; have h4 := h.lang
  unfold OneOf at h1 h2 h4
  simp only [List.mem_cons, List.not_mem_nil, or_false] at h1 h2 h4
  unfold altKey
  rw [h.name, dec_small hk]
  rcases h1 with h1 | h1 | h1 <;> rcases h2 with h2 | h2 <;> rcases h4 with h4 | h4 | h4 <;> rw [h1, h2, h4] <;> rfl
theorem key_inj {As : List At} (hA : AtsOk As) (hl : As.length ≤ 4) {x y : At} (hx : x ∈ As) (hy : y ∈ As) (h : (altKey x).data.toList = (altKey y).data.toList) : x = y := by
  obtain ⟨i, hi⟩ := List.getElem?_of_mem hx
  obtain ⟨j, hj⟩ := List.getElem?_of_mem hy
  have hil := (List.getElem?_eq_some_iff.1 hi).1
  have hjl := (List.getElem?_eq_some_iff.1 hj).1
  have h1 := key_digit (by omega) (hA i x hi)
  have h2 := key_digit (by omega) (hA j y hj)
  rw [h, h2] at h1
  have h3 := congrArg UInt8.toNat (Option.some.inj h1)
  rw [UInt8.toNat_ofNat', UInt8.toNat_ofNat'] at h3
  have hij : i = j := by omega
  rw [hij, hj] at hi
  exact (Option.some.inj hi).symm
theorem atEq_refl (y : At) : atEq y y = true := by simp [atEq]
theorem atEq_key {x y : At} (h : atEq y x = true) : (altKey x).data.toList = (altKey y).data.toList := by
  unfold atEq at h
  simp only [Bool.and_eq_true, beq_iff_eq, ByteArray.toList_eq] at h
  obtain ⟨h1, h2, h3, _, _, h6, _⟩ := h
  unfold altKey
  simp only [ByteArray.data_append, Array.toList_append, h1, h2, h3, h6]
theorem at_media {k : Nat} {y : At} (h : AtOk k y) : y.media = mediaLine y := by
  have h1 := h.typ; have h2 := h.grp
  unfold OneOf at h1 h2
  simp only [List.mem_cons, List.not_mem_nil, or_false] at h1 h2
  refine media_eq (k := k) ?_ ?_ ?_
  · rcases h1 with h | h | h <;> rw [h] <;> rfl
  · rcases h2 with h | h <;> rw [h] <;> rfl
  · rw [h.name]
    unfold ne
    simp [ByteArray.data_append]
/-- The same set of renditions is behind the keys and behind the list. -/
def SameSet (As : List At) (K : List (List UInt8)) (W : List At) : Prop := (∀ x ∈ W, x ∈ As) ∧ ∀ s, s ∈ K ↔ ∃ x ∈ W, (altKey x).data.toList = s
theorem same_any {As : List At} (hA : AtsOk As) (hl : As.length ≤ 4) {K : List (List UInt8)} {W : List At} (h : SameSet As K W) {y : At} (hy : y ∈ As) : (altKey y).data.toList ∈ K ↔ W.any (atEq y) = true := by
  rw [h.2, List.any_eq_true]
  constructor
  · rintro ⟨x, hx, he⟩
    have := key_inj hA hl (h.1 x hx) hy he
    subst this
    exact ⟨x, hx, atEq_refl x⟩
  · rintro ⟨x, hx, he⟩
    exact ⟨x, hx, atEq_key he⟩
theorem alt_eq {As : List At} (hA : AtsOk As) (hl : As.length ≤ 4) : ∀ (ys : List At), (∀ y ∈ ys, y ∈ As) → ∀ (K : List (List UInt8)) (W : List At), SameSet As K W → (altLoop K ys).1 = (specAlt W ys).1 ∧ SameSet As (altLoop K ys).2 (specAlt W ys).2 := by
  intro ys
  induction ys with
  | nil => intro _ K W h; exact ⟨rfl, h⟩
  | cons y r ih =>
    intro hys K W h
    have hy := hys y (List.mem_cons_self ..)
    have hr := fun x hx => hys x (List.mem_cons_of_mem _ hx)
    obtain ⟨i, hi⟩ := List.getElem?_of_mem hy
    have hs := same_any hA hl h hy
    unfold altLoop specAlt
    by_cases hk : (altKey y).data.toList ∈ K
    · rw [if_pos hk, if_pos (hs.1 hk)]
      exact ih hr K W h
    · rw [if_neg hk, if_neg (fun e => hk (hs.2 e))]
      have h' : SameSet As ((altKey y).data.toList :: K) (W ++ [y]) := by
        refine ⟨fun x hx => ?_, fun s => ?_⟩
        · rcases List.mem_append.1 hx with hx | hx
          · exact h.1 x hx
          · rw [List.mem_singleton.1 hx]; exact hy
        · rw [List.mem_cons, h.2]
          constructor
          · rintro (rfl | ⟨x, hx, he⟩)
            · exact ⟨y, by simp, rfl⟩
            · exact ⟨x, List.mem_append_left _ hx, he⟩
          · rintro ⟨x, hx, he⟩
            rcases List.mem_append.1 hx with hx | hx
            · exact .inr ⟨x, hx, he⟩
            · rw [List.mem_singleton.1 hx] at he; exact .inl he.symm
      obtain ⟨e1, e2⟩ := ih hr _ _ h'
      exact ⟨by rw [at_media (hA i y hi), e1], e2⟩
theorem var_eq {As : List At} (hA : AtsOk As) (hl : As.length ≤ 4) (args : ByteArray) : ∀ (ds : List (Vt × Bool)), (∀ d ∈ ds, ne d.1.uri = true) → ∀ (K : List (List UInt8)) (W : List At), SameSet As K W → (varLoop args K (ds.map fun d => (⟨d.1, d.2, ofL As d.1⟩ : Vd))).1 = (specVars As args W ds).1 := by
  intro ds
  induction ds with
  | nil => intro _ K W h; rfl
  | cons d r ih =>
    intro hds K W h
    obtain ⟨e1, e2⟩ := alt_eq hA hl (ofL As d.1) (fun y hy => (List.mem_filter.1 hy).1) K W h
    have e3 := ih (fun x hx => hds x (List.mem_cons_of_mem _ hx)) _ _ e2
    rw [List.map_cons, varLoop, specVars]
    simp only
    rw [e1, e3, lines_eq d.1 (hds d (List.mem_cons_self ..))]
theorem text_eq {As : List At} (hA : AtsOk As) (hl : As.length ≤ 4) (ver : Nat) (ind : Bool) (args : ByteArray) (ds : List (Vt × Bool)) (hds : ∀ d ∈ ds, ne d.1.uri = true) : encText ver ind args (ds.map fun d => (⟨d.1, d.2, ofL As d.1⟩ : Vd)) = specText ver ind args As ds := by
  unfold encText specText
  rw [var_eq hA hl args ds hds [] [] ⟨fun x hx => by simp at hx, fun s => by simp⟩]
end Go.Proofs.YtkddkmiomhadaaaDoor
/-! The walk of laws.FnMasterText. -/
namespace Go.Proofs.YtkddkmiomhadaaaDoor
open Go.RowKit
theorem one_sizes {L : List ByteArray} {s : ByteArray} (h : OneOf L s) (hL : ∀ x ∈ L, x.size ≤ 100) : s.size ≤ 100 := hL s h
theorem AtOk.ok {k : Nat} {y : At} (hk : k < 10) (h : AtOk k y) : y.Ok where
  typ := one_sizes h.typ (by decide)
  grp := one_sizes h.grp (by decide)
  name := by rw [h.name, dec_small hk]; simp only [ByteArray.size_append', ByteArray.size_mk', List.size_toArray, List.length_cons, List.length_nil]; omega
  auto := one_sizes h.auto (by decide)
  lang := one_sizes h.lang (by decide)
  uri := one_sizes h.uri (by decide)
theorem AtsOk.ok {As : List At} (h : AtsOk As) (hl : As.length ≤ 4) : ∀ y ∈ As, y.Ok := fun y hy => by
  obtain ⟨i, hi⟩ := List.getElem?_of_mem hy
  exact (h i y hi).ok (by have := (List.getElem?_eq_some_iff.1 hi).1; omega)
theorem VOk.ne_uri {v : Vt} (h : VOk v) : ne v.uri = true := by
  have key : ∀ u, IsUri u → ∃ t : ByteArray, u = ⟨#[117]⟩ ++ t := by
    rintro u ⟨s, _, rfl⟩
    exact ⟨s ++ ⟨#[46, 116, 115]⟩, by rw [ByteArray.append_assoc]⟩
  rcases h.uri with h | ⟨u, h, e⟩
  · obtain ⟨t, ht⟩ := key _ h
    rw [ht]; unfold ne; simp [ByteArray.data_append]
  · obtain ⟨t, ht⟩ := key _ h
    rw [e, ht]; unfold ne; simp [ByteArray.data_append]
noncomputable def fmBody : Code := Tryd.f3.body.getD .skip
set_option maxRecDepth 100000 in
theorem al_msx : Al 27 #[.int .i64 0, .bool false, .slice none 0 0, .slice none 0 0] := by intro w; go_simp
set_option maxRecDepth 100000 in
set_option maxHeartbeats 4000000 in
theorem masterText_any (n : Nat) (hn : n < 4294967296) (A : Option Addr) (len cap : Nat) (bq : Bool) (w : World) (hA : len ≤ 100 → U32s w A len) (hlen : len ≤ 9223372036854775807) (hT : FfTab w) :
    Calls Tryd.prog 3 #[.slice A len cap, .int .u32 n, .bool bq] w fun e w' => e = .returned (.bool true) ∧ Below w.heap.size w w' := by
  refine calls_of_ev Tryd.func3 rfl (show 3 ≤ 49 from by decide) ?_
  intro a hE
  have hE : Ev 49 ((0, .slice A len cap) :: (1, .int .u32 n) :: (2, .bool bq) :: []) a := hE
  refine wp_seq ?_
  refine wp_region_lit ?_
  refine ev_ac hE (by decide) ?_
  intro a hE
  refine wpList_nil ?_
  show Code.wp _ _ _ _ _
  refine wp_seq ?_
  refine wp_seq ?_
  refine wp_region_lit ?_
  refine ev_run (w' := w) hE rfl rfl (by decide) (ex_mv (hE.get 0 rfl)) ?_
  intro a hE
  refine ev_run hE rfl rfl (by decide) (ex_len Tryd.underlying22 (hE.get 13 rfl)) ?_
  intro a hE
  refine ev_run (v := .bool (decide ((2147483647 : Int) < len))) (w' := w) hE rfl rfl (by decide) (ei_gtr (hE.get 14 rfl) rfl rfl) ?_
  intro a hE
  refine wpList_nil ?_
  show Code.wp _ _ _ _ _
  refine wp_cond_split (hE.get 15 rfl) (fun _ => ?_) (fun _ => ?_)
  · refine wp_seq ?_
    refine wp_region_lit ?_
    refine ev_ac hE (by decide) ?_
    intro a hE
    refine wpList_nil ?_
    show Code.wp _ _ _ _ _
    refine wp_ret ?_
    try simp only [Exit.then]
    exact ret_of_ev hE rfl (hE.get 6 rfl) ⟨rfl, Below.refl _ _⟩
  refine wp_skip ?_
  show Code.wp _ _ _ _ _
  refine wp_seq ?_
  refine wp_seq ?_
  refine wp_region_lit ?_
  refine ev_run (w' := w) hE rfl rfl (by decide) (ex_mv (hE.get 0 rfl)) ?_
  intro a hE
  refine ev_run hE rfl rfl (by decide) (ex_len Tryd.underlying22 (hE.get 16 rfl)) ?_
  intro a hE
  refine ev_run (v := .bool (decide ((100 : Int) < len))) (w' := w) hE rfl rfl (by decide) (ei_gtr (hE.get 17 rfl) rfl rfl) ?_
  intro a hE
  refine wpList_nil ?_
  show Code.wp _ _ _ _ _
  refine wp_cond_split (hE.get 18 rfl) (fun _ => ?_) (fun hb => ?_)
  · refine wp_seq ?_
    refine wp_region_lit ?_
    refine ev_ac hE (by decide) ?_
    intro a hE
    refine wpList_nil ?_
    show Code.wp _ _ _ _ _
    refine wp_ret ?_
    try simp only [Exit.then]
    exact ret_of_ev hE rfl (hE.get 6 rfl) ⟨rfl, Below.refl _ _⟩
  have hl100 : len ≤ 100 := by have := of_decide_eq_false hb; omega
  refine wp_skip ?_
  show Code.wp _ _ _ _ _
  refine wp_seq ?_
  refine wp_region_lit ?_
  refine ev_run (w' := w) hE rfl rfl (by decide) (ex_mv (hE.get 0 rfl)) ?_
  intro a hE
  refine ev_run (w' := w) hE rfl rfl (by decide) (ex_mv (hE.get 1 rfl)) ?_
  intro a hE
  refine ev_call (S := fun u w' => MasterPost w (.returned u) w') hE rfl rfl (by decide) (f := 4) (args := #[.slice A len cap, .int .u32 n]) (by simp only [execOp, resolve, List.map_toArray, List.map_cons, List.map_nil, hE.get 20 rfl, hE.get 21 rfl]; go_simp) ((masterOf_any n A len cap w hn (by omega) (hA hl100)).mono ?_) ?_
  · rintro e w' ⟨ver, ind, sA, sV, sF, As, Vs, Fs, h1, h2, h3, h4, h5, h6, rfl, h7⟩
    exact ⟨_, rfl, ver, ind, sA, sV, sF, As, Vs, Fs, h1, h2, h3, h4, h5, h6, rfl, h7⟩
  rintro a u w1 ⟨ver, ind, sA, sV, sF, As, Vs, Fs, hver, hAs, hA4, hVs, hV4, hFl, hu, hoA, hoV, hoF, hb1⟩ hE
  obtain rfl : u = .tuple #[.agg #[.int .i64 ver, .bool ind, sA, sV], sF] := by injection hu
  refine ev_run (w' := w1) hE rfl rfl (by decide) (ex_mv (hE.get 22 rfl)) ?_
  intro a hE
  refine ev_run (w' := w1) hE rfl rfl (by decide) (ei_ext (hE.get 19 rfl) rfl) ?_
  intro a hE
  refine ev_run (w' := w1) hE rfl rfl (by decide) (ei_ext (hE.get 19 rfl) rfl) ?_
  intro a hE
  refine ev_al hE al_msx (by decide) ?_
  intro a w2 hE hg7 hb2 _
  refine ev_sb (cs := #[.int .i64 ver, .bool ind, sA, sV]) hE ag_ms (hE.get 7 rfl) (hE.get 23 rfl) hg7 rfl rfl ?_ ?_
  · intro u hu
    simp only [List.mem_cons, List.not_mem_nil, or_false] at hu
    rcases hu with rfl | rfl | rfl | rfl
    · rfl
    · rfl
    · exact hoA.one
    · exact hoV.one
  intro w3 hg7 ho3
  have hb13 : Below w1.heap.size w1 w3 := hb2.trans (only_bel ho3 hb2.size (Nat.le_refl _))
  refine ev_as hE (hE.get 24 rfl) (by decide) ?_
  intro a hE
  refine wpList_nil ?_
  show Code.wp _ _ _ _ _
  have hoA3 := hoA.below hb13
  have hoV3 := hoV.below hb13
  have hoF3 := hoF.below hb13
  have hb3 : Below w.heap.size w w3 := hb1.trans (hb13.mono hb1.size)
  generalize hg7e : w1.heap.size = g7 at hE hg7
  have hE : Ev 49 ((1, .int .u32 n) :: (2, .bool bq) :: (7, pt g7 0) :: (8, sF) :: []) a := hE.pick rfl
  generalize hds : Vs.zip Fs = ds
  have hV1 : ds.map Prod.fst = Vs := by rw [← hds]; exact List.map_fst_zip (by omega)
  have hF1 : ds.map Prod.snd = Fs := by rw [← hds]; exact List.map_snd_zip (by omega)
  have hdl : ds.length ≤ 4 := by rw [← hds, List.length_zip]; omega
  have hdv : ∀ d ∈ ds, VOk d.1 := fun d hd => hVs d.1 (by rw [← hV1]; exact List.mem_map_of_mem hd)
  rw [← hV1] at hoV3
  rw [← hF1] at hoF3
  have hAok := hAs.ok hA4
  have hdok : ∀ d ∈ ds, d.1.Ok ∧ d.1.rate ≤ 1000 := fun d hd => ⟨(hdv d hd).ok, (hdv d hd).rate⟩
  refine wp_seq ?_
  refine wp_region_lit ?_
  refine ev_lb hE ag_ms (hE.get 7 rfl) hg7 rfl (by decide) ?_
  intro a hE
  refine ev_run (w' := w3) hE rfl rfl (by decide) (ex_mv (hE.get 8 rfl)) ?_
  intro a hE
  refine ev_call (S := fun u w' => ∃ (sO : Value) (xs : List Xv), u = .agg #[sO, .string ⟨#[]⟩, .int .i64 ver, .bool ind] ∧ Own ivl 53 16 w' w3.heap.size sO xs ∧ xs.map (fun x => (x.1, x.2.1)) = ds ∧ (∀ x ∈ xs, Own At.mlist 56 10 w' w3.heap.size x.2.2 (ofL As x.1)) ∧ Below w3.heap.size w3 w') hE rfl rfl (by decide) (f := 5) (args := #[.agg #[.int .i64 ver, .bool ind, sA, sV], sF]) (by simp only [execOp, resolve, List.map_toArray, List.map_cons, List.map_nil, hE.get 25 rfl, hE.get 26 rfl]; go_simp) ((toMaster_any ver ind As ds sA sV sF w3 w.heap.size (by omega) (by omega) hdok hoA3 hoV3 hoF3).mono ?_) ?_
  · rintro e w' ⟨sO, xs, rfl, h⟩
    exact ⟨_, rfl, sO, xs, rfl, h⟩
  rintro a u w4 ⟨sO, xs, rfl, hoO, hxs, hox, hb4⟩ hE
  have hg74 := hp_below hg7 hb4
  refine ev_al hE al_im (by decide) ?_
  intro a w5 hE hg9 hb5 _
  refine ev_sb (cs := #[sO, .string ⟨#[]⟩, .int .i64 ver, .bool ind]) hE ag_im (hE.get 9 rfl) (hE.get 27 rfl) hg9 rfl rfl ?_ ?_
  · intro u hu
    simp only [List.mem_cons, List.not_mem_nil, or_false] at hu
    rcases hu with rfl | rfl | rfl | rfl
    · exact hoO.one
    · rfl
    · rfl
    · rfl
  intro w6 hg9 ho6
  have hb46 : Below w4.heap.size w4 w6 := hb5.trans (only_bel ho6 hb5.size (Nat.le_refl _))
  have hg76 := hp_below hg74 hb46
  have hb36 : Below w3.heap.size w3 w6 := hb4.trans (hb46.mono hb4.size)
  generalize hg9e : w4.heap.size = g9 at hE hg9
  refine wpList_nil ?_
  show Code.wp _ _ _ _ _
  have hE : Ev 49 ((1, .int .u32 n) :: (2, .bool bq) :: (7, pt g7 0) :: (8, sF) :: (9, pt g9 0) :: []) a := hE.pick rfl
  refine wp_seq ?_
  refine wp_region_lit ?_
  refine ev_ac hE (by decide) ?_
  intro a hE
  refine wpList_nil ?_
  show Code.wp _ _ _ _ _
  have cont : ∀ (a : Act) (args : ByteArray), args.size ≤ 100 → Ev 49 ((1, .int .u32 n) :: (2, .bool bq) :: (7, pt g7 0) :: (8, sF) :: (9, pt g9 0) :: (10, .string args) :: []) a → Code.wp Tryd.prog (cB (cB (cB (cB (cB (cB (cB fmBody))))))) (bodyPost Tryd.prog Tryd.f3 fun e w' => e = .returned (.bool true) ∧ Below w.heap.size w w') a w6 := by
    intro a args hargs hE
    refine wp_seq ?_
    refine wp_region_lit ?_
    refine ev_mv hE (hE.get 10 rfl) (by decide) ?_
    intro a hE
    refine ev_fa hE (hE.get 9 rfl) (fa_im_1 _) (by decide) ?_
    intro a hE
    refine ev_sc (v := .string args) hE (st_str _) (hE.get 34 rfl) (hE.get 33 rfl) hg9 (show 1 < 4 from by decide) ?_
    intro w7 hg9 ho7
    have hg9 : w7.heap[g9]? = some (.cells #[sO, .string args, .int .i64 ver, .bool ind] 33 (0, 0)) := hg9
    have hb67 : Below w4.heap.size w6 w7 := only_bel ho7 hb46.size (by omega)
    have hg77 := hp_only hg76 ho7 (by have := (Array.getElem?_eq_some_iff.1 hg74).1; omega)
    have hb47 : Below w4.heap.size w4 w7 := hb46.trans hb67
    have hb37 : Below w3.heap.size w3 w7 := hb4.trans (hb47.mono hb4.size)
    have hb07 : Below w.heap.size w w7 := hb3.trans (hb37.mono hb3.size)
    refine wpList_nil ?_
    show Code.wp _ _ _ _ _
    refine wp_seq ?_
    refine wp_region_lit ?_
    refine ev_lb hE ag_im (hE.get 9 rfl) hg9 rfl (by decide) ?_
    intro a hE
    have hxl : xs.length ≤ 10 := by
      have := congrArg List.length hxs
      rw [List.length_map] at this
      omega
    have hxok : ∀ x ∈ xs, x.1.Ok ∧ x.1.rate ≤ 1000 ∧ (ofL As x.1).length ≤ 10 ∧ ∀ y ∈ ofL As x.1, y.Ok := by
      intro x hx
      have hd := hdok (x.1, x.2.1) (by rw [← hxs]; exact List.mem_map_of_mem (f := fun x : Xv => (x.1, x.2.1)) hx)
      refine ⟨hd.1, hd.2, ?_, fun y hy => hAok y (List.mem_filter.1 hy).1⟩
      have := ofL_len As x.1
      omega
    have hmap : (xs.map fun x => (⟨x.1, x.2.1, ofL As x.1⟩ : Vd)) = ds.map fun d => (⟨d.1, d.2, ofL As d.1⟩ : Vd) := by
      rw [← hxs, List.map_map]
      rfl
    refine ev_call (S := fun u w' => u = .tuple #[.string ⟨(specText ver ind args As ds).toArray⟩, .bool true] ∧ Below w7.heap.size w7 w') hE rfl rfl (by decide) (f := 7) (args := #[.agg #[sO, .string args, .int .i64 ver, .bool ind]]) (by simp only [execOp, resolve, List.map_toArray, List.map_cons, List.map_nil, hE.get 36 rfl]; go_simp) ((writeMaster_any lb_any ver (by omega) ind args hargs (ofL As) xs hxl hxok sO w3.heap.size w7 (hoO.below hb47) (fun x hx => (hox x hx).below hb47) (fun w' hb' => hT.next (hb07.trans (hb'.mono hb07.size)))).mono ?_) ?_
    · rintro e w' ⟨rfl, h⟩
      rw [hmap, text_eq hAs hA4 ver ind args ds (fun d hd => (hdv d hd).ne_uri)]
      exact ⟨_, rfl, rfl, h⟩
    rintro a u w8 ⟨rfl, hb8⟩ hE
    refine ev_run (w' := w8) hE rfl rfl (by decide) (ex_mv (hE.get 37 rfl)) ?_
    intro a hE
    refine ev_run (w' := w8) hE rfl rfl (by decide) (ei_ext (hE.get 35 rfl) rfl) ?_
    intro a hE
    refine ev_run (w' := w8) hE rfl rfl (by decide) (ei_ext (hE.get 35 rfl) rfl) ?_
    intro a hE
    refine ev_run (w' := w8) hE rfl rfl (by decide) (ex_as (hE.get 38 rfl)) ?_
    intro a hE
    refine ev_run (w' := w8) hE rfl rfl (by decide) (ex_as (hE.get 39 rfl)) ?_
    intro a hE
    refine wpList_nil ?_
    show Code.wp _ _ _ _ _
    have hb38 : Below w3.heap.size w3 w8 := hb37.trans (hb8.mono hb37.size)
    have hg78 := hp_below hg77 hb8
    refine wp_seq ?_
    refine wp_region_lit ?_
    refine ev_run (w' := w8) hE rfl rfl (by decide) (ex_mv (hE.get 12 rfl)) ?_
    intro a hE
    refine ev_run (w' := w8) hE rfl rfl (by decide) (ex_mv (hE.get 40 rfl)) ?_
    intro a hE
    refine ev_gon (w' := w8) hE rfl rfl (hE.get 41 rfl) rfl (by decide) (ex_mv (hE.get 11 rfl)) ?_
    intro a hE
    refine ev_gon (v := .agg #[.int .i64 ver, .bool ind, sA, sV]) (w' := w8) hE rfl rfl (hE.get 41 rfl) rfl (by decide) (ex_lb ag_ms (hE.get 7 rfl) hg78 rfl) ?_
    intro a hE
    refine ev_gon (w' := w8) hE rfl rfl (hE.get 41 rfl) rfl (by decide) (ex_mv (hE.get 10 rfl)) ?_
    intro a hE
    refine ev_gon (w' := w8) hE rfl rfl (hE.get 41 rfl) rfl (by decide) (ex_mv (hE.get 8 rfl)) ?_
    intro a hE
    refine ev_gcall (S := fun u w' => (∃ t : ByteArray, u = .string t ∧ t.data.toList = specText ver ind args As ds) ∧ Below w8.heap.size w8 w') hE rfl rfl (hE.get 41 rfl) rfl (by decide) (f := 8) (args := #[.agg #[.int .i64 ver, .bool ind, sA, sV], .string args, sF]) (by simp only [execOp, resolve, List.map_toArray, List.map_cons, List.map_nil, hE.get 43 rfl, hE.get 44 rfl, hE.get 45 rfl]; go_simp) ((text_any ver (by omega) ind args hargs As ds sA sV sF w8 w.heap.size hAok (by omega) (by omega) (fun d hd => (hdok d hd).1) (hoA3.below hb38) (hoV3.below hb38) (hoF3.below hb38)).mono ?_) ?_
    · rintro e w' ⟨t, rfl, h1, h2⟩
      exact ⟨_, rfl, ⟨t, rfl, h1⟩, h2⟩
    rintro a u w9 ⟨⟨t, rfl, ht⟩, hb9⟩ hE
    have htx : t = ⟨(specText ver ind args As ds).toArray⟩ := ByteArray.ext (Array.ext' ht)
    refine ev_gon (v := .bool true) (w' := w9) hE rfl rfl (hE.get 41 rfl) rfl (by decide) ?_ ?_
    · rw [ex_eqs (hE.get 42 rfl) (hE.get 46 rfl), htx]
      simp
    intro a hE
    refine ev_run (v := .bool true) (w' := w9) hE rfl rfl (by decide) (by rw [ex_pick (b := true) (hE.get 41 rfl)]; have e1 := hE.get 47 rfl; simp only [e1]; rfl) ?_
    intro a hE
    refine ev_as hE (hE.get 48 rfl) (by decide) ?_
    intro a hE
    refine wpList_nil ?_
    show Code.wp _ _ _ _ _
    refine wp_ret ?_
    exact ret_of_ev hE rfl (hE.get 6 rfl) ⟨rfl, (hb07.trans (hb8.mono hb07.size)).trans (hb9.mono (Nat.le_trans hb07.size hb8.size))⟩
  refine wp_seq ?_
  refine wp_seq ?_
  refine wp_region_lit ?_
  refine ev_run (w' := w6) hE rfl rfl (by decide) (ex_mv (hE.get 2 rfl)) ?_
  intro a hE
  refine wpList_nil ?_
  show Code.wp _ _ _ _ _
  refine wp_cond_split (hE.get 28 rfl) (fun hb => ?_) (fun hb => ?_)
  · refine wp_region_lit ?_
    refine ev_run (w' := w6) hE rfl rfl (by decide) (ex_mv (hE.get 1 rfl)) ?_
    intro a hE
    refine ev_run (v := .int .u64 n) (w' := w6) hE rfl rfl (by decide) ?_ ?_
    · have hw : IntKind.u64.wrap (n : Int) = n := by rw [IntKind.wrap_u64]; omega
      simp only [execOp, hE.get 29 rfl]
      go_simp
    intro a hE
    refine ev_call (S := fun u w' => u = .string (dec n) ∧ w6 = w') hE rfl rfl (by decide) (f := 6) (args := #[.int .u64 n]) (by simp only [execOp, resolve, List.map_toArray, List.map_cons, List.map_nil, hE.get 30 rfl]; go_simp) ((decimal_any n w6 (by omega)).mono (by rintro e w' ⟨rfl, h⟩; exact ⟨_, rfl, rfl, h⟩)) ?_
    rintro a u wx ⟨rfl, rfl⟩ hE
    have hds := dec_u32 hn
    refine ev_run (v := .string (⟨#[116, 111, 107, 101, 110, 61]⟩ ++ dec n)) (w' := w6) hE rfl rfl (by decide) (ex_add rfl (hE.get 31 rfl) (by simp only [ByteArray.size_mk', List.size_toArray, List.length_cons, List.length_nil]; omega)) ?_
    intro a hE
    refine ev_as hE (hE.get 32 rfl) (by decide) ?_
    intro a hE
    refine wpList_nil ?_
    show Code.wp _ _ _ _ _
    exact cont a _ (by simp only [ByteArray.size_append', ByteArray.size_mk', List.size_toArray, List.length_cons, List.length_nil]; omega) (hE.pick rfl)
  · refine wp_skip ?_
    show Code.wp _ _ _ _ _
    exact cont a ⟨#[]⟩ (by decide) (hE.pick rfl)
end Go.Proofs.YtkddkmiomhadaaaDoor
