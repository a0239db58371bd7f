/- The walks of spec.Has and pub/m3u8.zzIndex at one sign: a sign's place in a text. -/
import Derived.Test.YtkddkmiomhadaaaDoorEvs
import Derived.Test.YtkddkmiomhadaaaDoorEnc
namespace Go.Proofs.YtkddkmiomhadaaaDoor
open Go.RowKit
def hasB (l : List UInt8) (c : UInt8) : Bool := l.any (· == c)
noncomputable def hasBody : Code := Tryd.f24.body.getD .skip
theorem hasB_take {l : List UInt8} {c x : UInt8} {k : Nat} (h : l[k]? = some x) (h0 : hasB (l.take k) c = false) : hasB (l.take (k + 1)) c = (x == c) := by
  unfold hasB at h0 ⊢
  rw [List.take_add_one, h]
  simp only [Option.toList_some, List.any_append, h0, List.any_cons, List.any_nil, Bool.false_or, Bool.or_false]
theorem hasB_of {l : List UInt8} {c : UInt8} {k : Nat} (h : l[k]? = some c) : hasB l c = true := by
  unfold hasB
  rw [List.any_eq_true]
  exact ⟨c, List.mem_of_getElem? h, by simp⟩
set_option maxRecDepth 100000 in
set_option maxHeartbeats 1000000 in
/-- spec.Has. -/
theorem has_any (u : ByteArray) (c : Nat) (hc : c < 256) (w : World) (hu : u.size ≤ 1000000) : Calls Tryd.prog 24 #[.string u, .int .u8 c] w fun e w' => e = .returned (.bool (hasB u.data.toList (UInt8.ofNat c))) ∧ Below w.heap.size w w' := by
  refine calls_of_ev Tryd.func24 rfl (show 2 ≤ 17 from by decide) ?_
  intro a hE
  have hE : Ev 17 ((0, .string u) :: (1, .int .u8 c) :: []) a := hE
  refine wp_seq ?_
  refine wp_region_lit ?_
  refine ev_ac hE (by decide) ?_
  intro a hE
  refine wpList_nil ?_
  show Code.wp _ _ _ _ _
  refine wp_seq ?_
  refine wp_seq ?_
  refine wp_region_lit ?_
  refine ev_mv hE (hE.get 0 rfl) (by decide) ?_
  intro a hE
  refine ev_run (v := .int .i64 u.data.toList.length) (w' := w) hE rfl rfl (by decide) ?_ ?_
  · simp only [execOp, resolve, List.map_toArray, List.map_cons, List.map_nil, hE.get 6 rfl]
    go_simp
  intro a hE
  refine ev_run (v := .int .i64 (0 : Nat)) (w' := w) hE rfl rfl (by decide) (by simp only [execOp]; rfl) ?_
  intro a hE
  refine wpList_nil ?_
  have hlen : u.data.toList.length ≤ 1000000 := by rw [← Lib.size_eq]; exact hu
  show Code.wp _ _ _ _ _
  refine range_wp3 (N := 17) (n := u.data.toList.length) [0, 1] (l0 := (0, .string u) :: (1, .int .u8 c) :: []) (fun k l wr => l = (0, .string u) :: (1, .int .u8 c) :: [] ∧ hasB (u.data.toList.take k) (UInt8.ofNat c) = false ∧ Below w.heap.size w wr) (by omega) (hE.pick rfl) rfl ⟨rfl, rfl, Below.refl _ _⟩ (by decide) (by decide) (by decide) ?_ ?_
  · rintro k l a wr hk hE ⟨rfl, h0, hb⟩ Q' hQ' hR'
    obtain ⟨x, hx⟩ : ∃ x, u.data.toList[k]? = some x := ⟨_, List.getElem?_eq_getElem hk⟩
    refine wp_block ?_
    refine wp_seq ?_
    refine wp_region_lit ?_
    refine ev_mv hE (hE.get 8 rfl) (by decide) ?_
    intro a hE
    refine ev_as hE (hE.get 10 rfl) (by decide) ?_
    intro a hE
    refine wpList_nil ?_
    show Code.wp _ _ _ _ _
    refine wp_seq ?_
    refine wp_region_lit ?_
    refine ev_mv hE (hE.get 0 rfl) (by decide) ?_
    intro a hE
    refine ev_mv hE (hE.get 5 rfl) (by decide) ?_
    intro a hE
    refine ev_run (v := .int .u8 x.toNat) (w' := wr) hE rfl rfl (by decide) ?_ ?_
    · have hks : k < u.size := by rw [Lib.size_eq]; exact hk
      have hx2 : (u[k]'hks) = x := by
        rw [List.getElem?_eq_getElem hk] at hx
        exact Option.some.inj hx
      simp only [execOp, hE.get 11 rfl, hE.get 12 rfl]
      go_simp
      try simp [hx2]
    intro a hE
    refine ev_mv hE (hE.get 1 rfl) (by decide) ?_
    intro a hE
    refine ev_run (v := .bool (x == UInt8.ofNat c)) (w' := wr) hE rfl rfl (by decide) ?_ ?_
    · simp only [execOp, hE.get 13 rfl, hE.get 14 rfl]
      show Result.ok (Next.value (Value.bool ((x.toNat : Int) == (c : Int)))) wr = _
      congr 3
      rw [Bool.eq_iff_iff]
      simp only [beq_iff_eq]
      constructor
      · intro h
        have h : x.toNat = c := by omega
        subst h
        simp
      · rintro rfl
        simp
        omega
    intro a hE
    refine wpList_nil ?_
    show Code.wp _ _ _ _ _
    refine wp_cond_split (hE.get 15 rfl) (fun ht => ?_) (fun ht => ?_)
    · refine wp_seq ?_
      refine wp_region_lit ?_
      refine ev_ac hE (by decide) ?_
      intro a hE
      refine wpList_nil ?_
      show Code.wp _ _ _ _ _
      refine wp_ret ?_
      refine hR' a wr ?_
      have hx' : u.data.toList[k]? = some (UInt8.ofNat c) := by rw [hx]; simpa using ht
      show bodyPost Tryd.prog Tryd.f24 (fun e w' => e = .returned (.bool (hasB u.data.toList (UInt8.ofNat c))) ∧ Below w.heap.size w w') .ret a wr
      exact ret_of_ev hE rfl (hE.get 4 rfl) ⟨by rw [hasB_of hx'], hb⟩
    · refine wp_skip ?_
      show Q' .normal a wr
      exact hQ' _ a wr rfl (hE.pick rfl) ⟨rfl, by rw [hasB_take hx h0]; exact ht, hb⟩
  · rintro l a wr hE ⟨rfl, h0, hb⟩
    rw [List.take_length] at h0
    show Code.wp _ _ _ _ _
    refine wp_seq ?_
    refine wp_region_lit ?_
    refine ev_ac hE (by decide) ?_
    intro a hE
    refine wpList_nil ?_
    show Code.wp _ _ _ _ _
    refine wp_ret ?_
    exact ret_of_ev hE rfl (hE.get 4 rfl) ⟨by rw [h0], hb⟩
theorem zzi_drop (l : List UInt8) : ∀ (k : Nat), (∀ j, j < k → l[j]? ≠ some 63) → zzi l 0 = zzi (l.drop k) k := by
  intro k
  induction k with
  | zero => intro _; rfl
  | succ k ih =>
    intro h
    rw [ih (fun j hj => h j (by omega))]
    cases hk : l[k]? with
    | none => rw [List.drop_eq_nil_of_le (by rw [List.getElem?_eq_none_iff] at hk; omega), List.drop_eq_nil_of_le (by rw [List.getElem?_eq_none_iff] at hk; omega)]; rfl
    | some x =>
      obtain ⟨hlt, hx⟩ := List.getElem?_eq_some_iff.1 hk
      rw [List.drop_eq_getElem_cons hlt, hx, zzi]
      have : (x == 63) = false := by
        have := h k (by omega)
        rw [hk] at this
        simpa using this
      rw [this]
      simp
theorem zzi_at {l : List UInt8} {k : Nat} (h : ∀ j, j < k → l[j]? ≠ some 63) (hk : l[k]? = some 63) : zzi l 0 = k := by
  rw [zzi_drop l k h]
  obtain ⟨hlt, hx⟩ := List.getElem?_eq_some_iff.1 hk
  rw [List.drop_eq_getElem_cons hlt, hx]
  rfl
theorem zzi_none {l : List UInt8} (h : ∀ j, j < l.length → l[j]? ≠ some 63) : zzi l 0 = -1 := by
  rw [zzi_drop l l.length h, List.drop_length]
  rfl
end Go.Proofs.YtkddkmiomhadaaaDoor
