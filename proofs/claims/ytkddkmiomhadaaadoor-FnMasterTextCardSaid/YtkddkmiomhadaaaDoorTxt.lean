/- The walk of spec.Master.Text: a master playlist's text by its definition. -/
import Derived.Test.YtkddkmiomhadaaaDoorAat
import Derived.Test.YtkddkmiomhadaaaDoorFrm
import Derived.Test.YtkddkmiomhadaaaDoorJn
import Derived.Test.YtkddkmiomhadaaaDoorZzi
import Derived.Test.YtkddkmiomhadaaaDoorEcw
namespace Go.Proofs.YtkddkmiomhadaaaDoor
open Go.RowKit
noncomputable def txtBody : Code := Tryd.f8.body.getD .skip
/-- Two renditions are alike. -/
def atEq (a b : At) : Bool := a.typ.toList == b.typ.toList && (a.grp.toList == b.grp.toList && (a.name.toList == b.name.toList && (a.dflt == b.dflt && (a.auto.toList == b.auto.toList && (a.lang.toList == b.lang.toList && a.uri.toList == b.uri.toList)))))
set_option maxRecDepth 100000 in
theorem run_eql_at (a b : At) (w : World) : (binOp .eql 46 (.agg a.cells) (.agg b.cells)).run Tryd.prog w = .ok (.bool (atEq a b)) w := by
  unfold At.cells
  rw [run_eql_struct]
  go_simp
  unfold atEq
  (repeat' split) <;> simp_all
theorem run_agg_eql {T : TypeId} {x y : Operand} {xs ys : Array Value} {w : World} {b : Bool} (h : (binOp .eql T (.agg xs) (.agg ys)).run Tryd.prog w = .ok (.bool b) w) (hg : ∀ w, (eqGuard .eql T x y (.agg xs) (.agg ys)).run Tryd.prog w = .ok () w := by intro w; go_simp) : (do pure (Next.value (← (do eqGuard .eql T x y (.agg xs) (.agg ys); binOp .eql T (.agg xs) (.agg ys)))) : Sem Next).run Tryd.prog w = .ok (.value (.bool b)) w := by
  simp [hg, h, Result.andThen]
theorem any_take {α : Type} {l : List α} {f : α → Bool} {k : Nat} {x : α} (h : l[k]? = some x) : (l.take (k + 1)).any f = ((l.take k).any f || f x) := by
  rw [List.take_add_one, h]; simp
set_option maxRecDepth 100000 in
set_option maxHeartbeats 4000000 in
/-- Is a rendition written? -/
theorem seen_wp {Q : Exit → Act → World → Prop} {a : Act} {w : World} {args out : ByteArray} {sF sW k9 sV n29 i30 sO n38 i39 : Value} {b3 gv ga B : Nat} {y : At} (W : List At) (hWl : W.length ≤ 1000000) (hW : Own At.list 46 7 w B sW W) (hy : w.heap[ga]? = some (.cells y.cells 46 (0, 0)))
    (hE : Ev 107 ((45, .int .i64 (0 : Nat)) :: (44, .int .i64 W.length) :: (13, .bool false) :: (12, pt ga 0) :: (43, sW) :: (1, .string args) :: (2, sF) :: (3, pt b3 0) :: (7, .string out) :: (8, sW) :: (9, k9) :: (10, pt gv 0) :: (28, sV) :: (29, n29) :: (30, i30) :: (37, sO) :: (38, n38) :: (39, i39) :: []) a) (hQ : ∀ a' w', Ev 107 ((13, .bool (W.any (atEq y))) :: (12, pt ga 0) :: (1, .string args) :: (2, sF) :: (3, pt b3 0) :: (7, .string out) :: (8, sW) :: (9, k9) :: (10, pt gv 0) :: (28, sV) :: (29, n29) :: (30, i30) :: (37, sO) :: (38, n38) :: (39, i39) :: []) a' → Below w.heap.size w w' → Q .normal a' w') :
    Code.wp Tryd.prog (cB (cA (cB (cB (cA (cA (cB (cB (cA (cA (cB (cA (cB (cA (cA (cB (cB (cA (cA (cB (cA (cB (cB (cB (cB txtBody))))))))))))))))))))))))) Q a w := by
  refine range_wp2 (N := 107) (n := W.length) [13, 12, 43, 1, 2, 3, 7, 8, 9, 10, 28, 29, 30, 37, 38, 39] (l0 := ((13, .bool false) :: (12, pt ga 0) :: (43, sW) :: (1, .string args) :: (2, sF) :: (3, pt b3 0) :: (7, .string out) :: (8, sW) :: (9, k9) :: (10, pt gv 0) :: (28, sV) :: (29, n29) :: (30, i30) :: (37, sO) :: (38, n38) :: (39, i39) :: [])) (fun k l wr => l = ((13, .bool ((W.take k).any (atEq y))) :: (12, pt ga 0) :: (43, sW) :: (1, .string args) :: (2, sF) :: (3, pt b3 0) :: (7, .string out) :: (8, sW) :: (9, k9) :: (10, pt gv 0) :: (28, sV) :: (29, n29) :: (30, i30) :: (37, sO) :: (38, n38) :: (39, i39) :: []) ∧ Below w.heap.size w wr) (by omega) hE rfl ⟨rfl, Below.refl _ _⟩ (by decide) (by decide) (by decide) ?_ ?_
  · rintro k l a wr hk hE ⟨rfl, hb⟩ Q' hQ'
    obtain ⟨x, hx⟩ : ∃ x, W[k]? = some x := ⟨_, List.getElem?_eq_getElem hk⟩
    have hy := hp_below hy hb
    refine wp_block ?_
    refine wp_seq ?_
    refine wp_region_lit ?_
    refine ev_elem ag_sa Tryd.underlying24 (fun _ => rfl) (by decide) hE (hW.below hb) hx (hE.get 43 rfl) (hE.get 45 rfl) (by decide) (by decide) ?_ rfl (by decide)
    intro a hE
    refine ev_al hE al_sa (by decide) ?_
    intro a w4 hE hb4 hbl4 _
    refine ev_sb (cs := x.cells) hE ag_sa (hE.get 15 rfl) (hE.get 48 rfl) hb4 rfl rfl (at_one x) ?_
    intro w5 hb5 ho5
    refine wpList_nil ?_
    have hyl : ga < wr.heap.size := (Array.getElem?_eq_some_iff.1 hy).1
    have hy := hp_only (hp_below hy hbl4) ho5 (by omega)
    have hbr : Below w.heap.size w w5 := hb.trans (((hbl4.trans (only_bel ho5 hbl4.size (Nat.le_refl _)))).mono hb.size)
    show Code.wp _ _ _ _ _
    refine wp_region_lit ?_
    cases hs : (W.take k).any (atEq y)
    · rw [hs] at hE
      refine ev_mv hE (hE.get 13 rfl) (by decide) ?_
      intro a hE
      refine ev_mv hE (hE.get 49 rfl) (by decide) ?_
      intro a hE
      refine ev_gon hE rfl rfl (hE.get 50 rfl) rfl (by decide) (ex_lb ag_sa (hE.get 12 rfl) hy rfl) ?_
      intro a hE
      refine ev_gon hE rfl rfl (hE.get 50 rfl) rfl (by decide) (ex_lb ag_sa (hE.get 15 rfl) hb5 rfl) ?_
      intro a hE
      refine ev_gon (v := .bool (atEq y x)) (w' := w5) hE rfl rfl (hE.get 50 rfl) rfl (by decide) ?_ ?_
      · have e1 := hE.get 51 rfl
        have e2 := hE.get 52 rfl
        simp only [execOp, e1, e2]
        exact run_agg_eql (run_eql_at y x w5)
      intro a hE
      refine ev_run (v := .bool (atEq y x)) (w' := w5) hE rfl rfl (by decide) ?_ ?_
      · rw [ex_pick (b := false) (hE.get 50 rfl)]
        have e1 := hE.get 53 rfl
        simp only [Bool.false_eq_true, if_false, e1]
      intro a hE
      refine ev_as hE (hE.get 54 rfl) (by decide) ?_
      intro a hE
      refine wpList_nil ?_
      show Q' .normal a w5
      refine hQ' _ a w5 ?_ (hE.pick ?_) ⟨by rw [any_take hx, hs, Bool.false_or], hbr⟩
      · rfl
      · rfl
    · rw [hs] at hE
      refine ev_mv hE (hE.get 13 rfl) (by decide) ?_
      intro a hE
      refine ev_mv hE (hE.get 49 rfl) (by decide) ?_
      intro a hE
      refine ev_goff hE rfl rfl (hE.get 50 rfl) rfl rfl (by decide) ?_
      intro a hE
      refine ev_goff hE rfl rfl (hE.get 50 rfl) rfl rfl (by decide) ?_
      intro a hE
      refine ev_goff hE rfl rfl (hE.get 50 rfl) rfl rfl (by decide) ?_
      intro a hE
      refine ev_run (v := .bool true) (w' := w5) hE rfl rfl (by decide) ?_ ?_
      · rw [ex_pick (b := true) (hE.get 50 rfl)]
        simp only [if_true, Act.eval]
      intro a hE
      refine ev_as hE (hE.get 54 rfl) (by decide) ?_
      intro a hE
      refine wpList_nil ?_
      show Q' .normal a w5
      refine hQ' _ a w5 ?_ (hE.pick ?_) ⟨by rw [any_take hx, hs, Bool.true_or], hbr⟩
      · rfl
      · rfl
  · rintro l a wr hE ⟨rfl, hb⟩
    rw [List.take_length] at hE
    exact hQ a wr (hE.pick rfl) hb
theorem At.attrs_ne (y : At) : y.attrs ≠ [] := by
  intro h
  have := congrArg List.length h
  simp [At.attrs, At.at3, At.at2, At.at1, At.at0] at this
theorem At.attrs_size {y : At} (h : y.Ok) : ∀ (k : Nat) (hk : k < y.attrs.length), (y.attrs[k]'hk).size ≤ 1000 := by
  obtain ⟨q1, q2, q3, q4, q5, q6⟩ := h
  have key : ∀ x ∈ y.attrs, x.size ≤ 1000 := by
    intro x hx
    simp only [At.attrs, At.at3, At.at2, At.at1, At.at0, opt, List.mem_append, List.mem_cons, List.not_mem_nil, or_false] at hx
    have a1 := fun (n v : ByteArray) (q : Bool) (hn : n.size ≤ 100) (hv : v.size ≤ 100) => (show (attr n v q).size ≤ 1000 from by have := attr_size n v q; omega)
    rcases hx with ((((rfl | rfl | rfl) | hx) | hx) | hx) | hx
    · exact a1 _ _ _ (by simp [ByteArray.size]) q1
    · exact a1 _ _ _ (by simp [ByteArray.size]) q2
    · exact a1 _ _ _ (by simp [ByteArray.size]) q3
    · rw [hx]; split <;> exact a1 _ _ _ (by simp [ByteArray.size]) (by simp [ByteArray.size])
    · split at hx
      · simp only [List.mem_cons, List.not_mem_nil, or_false] at hx; rw [hx]; exact a1 _ _ _ (by simp [ByteArray.size]) q4
      · cases hx
    · split at hx
      · simp only [List.mem_cons, List.not_mem_nil, or_false] at hx; rw [hx]; exact a1 _ _ _ (by simp [ByteArray.size]) q5
      · cases hx
    · split at hx
      · simp only [List.mem_cons, List.not_mem_nil, or_false] at hx; rw [hx]; exact a1 _ _ _ (by simp [ByteArray.size]) q6
      · cases hx
  exact fun k hk => key _ (List.getElem_mem hk)
/-- A rendition's line by its definition. -/
def mediaLine (y : At) : List UInt8 := (⟨#[35, 69, 88, 84, 45, 88, 45, 77, 69, 68, 73, 65, 58]⟩ : ByteArray).data.toList ++ joinL y.attrs ++ [10]
def specAlt : List At → List At → List UInt8 × List At
  | W, [] => ([], W)
  | W, y :: r => if W.any (atEq y) = true then specAlt W r else (mediaLine y ++ (specAlt (W ++ [y]) r).1, (specAlt (W ++ [y]) r).2)
theorem specAlt_app (ys : List At) : ∀ (W : List At) (zs : List At), specAlt W (ys ++ zs) = ((specAlt W ys).1 ++ (specAlt (specAlt W ys).2 zs).1, (specAlt (specAlt W ys).2 zs).2) := by
  induction ys with
  | nil => intro W zs; simp [specAlt]
  | cons y r ih =>
    intro W zs
    rw [List.cons_append, specAlt, specAlt]
    split
    · rw [ih]
    · rw [ih]; simp
theorem specAlt_step {W : List At} {ys : List At} {k : Nat} {y : At} (h : ys[k]? = some y) :
    specAlt W (ys.take (k + 1)) = if (specAlt W (ys.take k)).2.any (atEq y) = true then specAlt W (ys.take k) else ((specAlt W (ys.take k)).1 ++ mediaLine y, (specAlt W (ys.take k)).2 ++ [y]) := by
  rw [take_app h, specAlt_app, specAlt]
  split <;> simp [specAlt]
theorem specAlt_len (ys : List At) : ∀ W : List At, (specAlt W ys).2.length ≤ W.length + ys.length := by
  induction ys with
  | nil => intro W; simp [specAlt]
  | cons y r ih =>
    intro W
    rw [specAlt]
    split
    · have := ih W; simp only [List.length_cons]; omega
    · have := ih (W ++ [y]); simp only [List.length_append, List.length_cons, List.length_nil] at this ⊢; omega
/-- Between two rounds of the renditions. -/
structure Ti (B b3 gv : Nat) (ms : Array Value) (v : Vt) (sO : Value) (ys : List At) (w0 : World) (txt : List UInt8) (W : List At) (n : Nat) (out : ByteArray) (sW : Value) (w : World) : Prop where
  tx : out.data.toList = txt
  size : out.size ≤ n
  own : Own At.list 46 7 w B sW W
  ms : w.heap[b3]? = some (.cells ms 27 (0, 0))
  sv : w.heap[gv]? = some (.cells v.cells 48 (0, 0))
  of : Own At.list 46 7 w B sO ys
  ne : ∀ g, sW.ownBlock = some g → ¬ sO.ownBlock = some g
  below : Below B w0 w
  le : B ≤ w.heap.size
theorem Ti.next {B b3 gv : Nat} {ms : Array Value} {v : Vt} {sO : Value} {ys : List At} {w0 w w' : World} {txt : List UInt8} {W : List At} {n : Nat} {out : ByteArray} {sW : Value} (h : Ti B b3 gv ms v sO ys w0 txt W n out sW w) (hb : Below w.heap.size w w') : Ti B b3 gv ms v sO ys w0 txt W n out sW w' :=
  ⟨h.tx, h.size, h.own.below hb, hp_below h.ms hb, hp_below h.sv hb, h.of.below hb, h.ne, h.below.trans (hb.mono h.le), Nat.le_trans h.le hb.size⟩
set_option maxRecDepth 100000 in
set_option maxHeartbeats 4000000 in
/-- The renditions of a variant, by the definition. -/
theorem alts_txt {Q : Exit → Act → World → Prop} {a : Act} {w w0 : World} {args out : ByteArray} {sF sW k9 sV n29 i30 sO : Value} {b3 gv B n : Nat} {ms : Array Value} {v : Vt} {txt : List UInt8} {W : List At} (ys : List At) (hok : ∀ y ∈ ys, y.Ok) (hys : ys.length ≤ 1000) (hWl : W.length ≤ 100000) (hn : n ≤ 1000000000) (hT : Ti B b3 gv ms v sO ys w0 txt W n out sW w)
    (hE : Ev 107 ((39, .int .i64 (0 : Nat)) :: (38, .int .i64 ys.length) :: (1, .string args) :: (2, sF) :: (3, pt b3 0) :: (7, .string out) :: (8, sW) :: (9, k9) :: (10, pt gv 0) :: (28, sV) :: (29, n29) :: (30, i30) :: (37, sO) :: []) a) (hQ : ∀ a' w' out' sW', Ev 107 ((1, .string args) :: (2, sF) :: (3, pt b3 0) :: (7, .string out') :: (8, sW') :: (9, k9) :: (10, pt gv 0) :: (28, sV) :: (29, n29) :: (30, i30) :: []) a' → Ti B b3 gv ms v sO ys w0 (txt ++ (specAlt W ys).1) (specAlt W ys).2 (n + 20000 * ys.length) out' sW' w' → Q .normal a' w') :
    Code.wp Tryd.prog (cB (cA (cB (cA (cA (cB (cB (cA (cA (cB (cA (cB (cB (cB (cB txtBody))))))))))))))) Q a w := by
  obtain ⟨i0, hi, hz0, hz1, hz2⟩ := info_parts info_alt
  refine range_wp2 (N := 107) (n := ys.length) [1, 2, 3, 7, 8, 9, 10, 28, 29, 30, 37] (l0 := ((1, .string args) :: (2, sF) :: (3, pt b3 0) :: (7, .string out) :: (8, sW) :: (9, k9) :: (10, pt gv 0) :: (28, sV) :: (29, n29) :: (30, i30) :: (37, sO) :: [])) (fun k l wr => ∃ out sW, l = ((1, .string args) :: (2, sF) :: (3, pt b3 0) :: (7, .string out) :: (8, sW) :: (9, k9) :: (10, pt gv 0) :: (28, sV) :: (29, n29) :: (30, i30) :: (37, sO) :: []) ∧ Ti B b3 gv ms v sO ys w0 (txt ++ (specAlt W (ys.take k)).1) (specAlt W (ys.take k)).2 (n + 20000 * k) out sW wr) (by omega) hE rfl ⟨out, sW, rfl, ?_⟩ (by decide) (by decide) (by decide) ?_ ?_
  · simpa [specAlt] using hT
  · rintro k l a wr hk hE ⟨out, sW, rfl, hT⟩ Q' hQ'
    obtain ⟨y, hy⟩ : ∃ y, ys[k]? = some y := ⟨_, List.getElem?_eq_getElem hk⟩
    have hyok := hok y (List.mem_of_getElem? hy)
    have hsl := specAlt_len (ys.take k) W
    have htk : (ys.take k).length ≤ k := by rw [List.length_take]; omega
    refine wp_block ?_
    refine wp_seq ?_
    refine wp_region_lit ?_
    refine ev_elem ag_sa Tryd.underlying24 (fun _ => rfl) (by decide) hE hT.of hy (hE.get 37 rfl) (hE.get 39 rfl) (by decide) (by decide) ?_ rfl (by decide)
    intro a hE
    refine ev_al hE al_sa (by decide) ?_
    intro a w4 hE hga hbl4 _
    refine ev_sb (cs := y.cells) hE ag_sa (hE.get 12 rfl) (hE.get 42 rfl) hga rfl rfl (at_one y) ?_
    intro w5 hya ho5
    refine wpList_nil ?_
    have hT5 := hT.next (hbl4.trans (only_bel ho5 hbl4.size (Nat.le_refl _)))
    have hE : Ev 107 ((12, pt wr.heap.size 0) :: (39, .int .i64 k) :: (38, .int .i64 ys.length) :: (1, .string args) :: (2, sF) :: (3, pt b3 0) :: (7, .string out) :: (8, sW) :: (9, k9) :: (10, pt gv 0) :: (28, sV) :: (29, n29) :: (30, i30) :: (37, sO) :: []) a := hE.pick rfl
    have hnega : ∀ g, g = wr.heap.size → ¬ sW.ownBlock = some g := fun g hg hv => by have := (hT.own.block_lt g hv).2; omega
    generalize wr.heap.size = ga at *
    clear hga hbl4 ho5
    obtain ⟨A, cap, hsW, _⟩ := hT5.own.shape
    show Code.wp _ _ _ _ _
    refine wp_seq ?_
    refine wp_region_lit ?_
    refine ev_ac hE (by decide) ?_
    intro a hE
    refine wpList_nil ?_
    show Code.wp _ _ _ _ _
    refine wp_seq ?_
    refine wp_seq ?_
    refine wp_region_lit ?_
    refine ev_mv hE (hE.get 8 rfl) (by decide) ?_
    intro a hE
    have e43 : a.eval (.tmp 43) = .slice A (specAlt W (ys.take k)).2.length cap := by rw [← hsW]; exact hE.get 43 rfl
    refine ev_run hE rfl rfl (by decide) (ex_len Tryd.underlying24 e43) ?_
    intro a hE
    refine ev_run (v := .int .i64 (0 : Nat)) (w' := w5) hE rfl rfl (by decide) (by simp only [execOp]; rfl) ?_
    intro a hE
    refine wpList_nil ?_
    show Code.wp _ _ _ _ _
    refine seen_wp (specAlt W (ys.take k)).2 (by omega) hT5.own hya (hE.pick rfl) ?_
    intro a w6 hE hb6
    have hT6 := hT5.next hb6
    have hya := hp_below hya hb6
    have hst := specAlt_step (W := W) hy
    show Code.wp _ _ _ _ _
    refine wp_seq ?_
    refine wp_region_lit ?_
    refine ev_mv hE (hE.get 13 rfl) (by decide) ?_
    intro a hE
    refine ev_run hE rfl rfl (by decide) (ex_not (hE.get 56 rfl)) ?_
    intro a hE
    refine wpList_nil ?_
    show Code.wp _ _ _ _ _
    cases hs : (specAlt W (ys.take k)).2.any (atEq y)
    · rw [hs] at hE
      rw [hs, if_neg (by decide)] at hst
      refine wp_cond_true (hE.get 57 rfl) ?_
      refine wp_seq ?_
      refine wp_region_lit ?_
      refine ev_mv hE (hE.get 8 rfl) (by decide) ?_
      intro a hE
      refine ev_lb hE ag_sa (hE.get 12 rfl) hya rfl (by decide) ?_
      intro a hE
      refine ev_push 24 Tryd.underlying24 i0 _ 104 hi hz0 hz1 hz2 (by rfl) (by decide) (fun _ => rfl) at_one y hE ?_ (hE.get 58 rfl) (by decide) (by decide) (by decide) hT6.own hT6.le (by omega) (by omega) ?_
      · simp only [execOp, List.map_toArray, List.map_cons, List.map_nil, hE.get 59 rfl]
        unfold At.cells At.list
        go_simp
      intro a s' w7 hown7 hon7 hbk7 hE
      refine ev_as hE (hE.get 61 rfl) (by decide) ?_
      intro a hE
      refine wpList_nil ?_
      have hlt : ∀ {g : Nat} {ob : Obj}, w6.heap[g]? = some ob → g < w6.heap.size := fun h => (Array.getElem?_eq_some_iff.1 h).1
      have hms7 : w7.heap[b3]? = _ := (hon7.block _ (hlt hT6.ms) (fun hv => hT6.own.ne_blk hT6.ms (by decide) hv)).trans hT6.ms
      have hsv7 : w7.heap[gv]? = _ := (hon7.block _ (hlt hT6.sv) (fun hv => hT6.own.ne_blk hT6.sv (by decide) hv)).trans hT6.sv
      have hbw7 : Below B w6 w7 := hon7.below hT6.le fun g hg hv => by have := (hT6.own.block_lt g hv).1; omega
      have hof7 := hT6.of.only hon7 (fun g hg hg2 => hT6.ne g hg2 hg)
      have hne7 : ∀ g, s'.ownBlock = some g → ¬ sO.ownBlock = some g := by
        intro g hg ho
        rcases hbk7 with e | e
        · exact hT6.ne g (e ▸ hg) ho
        · rw [e] at hg
          have h1 := Option.some.inj hg
          have h2 := (hT6.of.block_lt g ho).2
          omega
      have hE : Ev 107 ((12, pt ga 0) :: (39, .int .i64 k) :: (38, .int .i64 ys.length) :: (1, .string args) :: (2, sF) :: (3, pt b3 0) :: (7, .string out) :: (8, s') :: (9, k9) :: (10, pt gv 0) :: (28, sV) :: (29, n29) :: (30, i30) :: (37, sO) :: []) a := hE.pick rfl
      have hya7 : w7.heap[ga]? = some (.cells y.cells 46 (0, 0)) := (hon7.block _ (hlt hya) (fun hv => hnega ga rfl hv)).trans hya
      show Code.wp _ _ _ _ _
      refine wp_region_lit ?_
      refine ev_mv hE (hE.get 7 rfl) (by decide) ?_
      intro a hE
      refine ev_lb hE ag_sa (hE.get 12 rfl) hya7 rfl (by decide) ?_
      intro a hE
      refine ev_call (S := fun u w' => strOwn w' w7.heap.size u y.attrs ∧ Below w7.heap.size w7 w') hE rfl rfl (by decide) (f := 21) (args := #[.agg y.cells]) ?_ ((aat_any y hyok w7).mono ?_) ?_
      · simp only [execOp, resolve, List.map_toArray, List.map_cons, List.map_nil, hE.get 63 rfl]
        go_simp
      · rintro e w' ⟨u, rfl, h1, h2⟩
        exact ⟨u, rfl, h1, h2⟩
      rintro a u w8 ⟨hu8, hb8⟩ hE
      refine ev_call (S := fun x w' => ∃ t : ByteArray, x = .string t ∧ t.data.toList = joinL y.attrs ∧ t.size ≤ 1001 * y.attrs.length ∧ w' = w8) hE rfl rfl (by decide) (f := 20) (args := #[u]) ?_ ((joined_any y.attrs u w8 _ hu8 y.attrs_ne (by have := y.attrs_len; omega) (At.attrs_size hyok)).mono ?_) ?_
      · simp only [execOp, resolve, List.map_toArray, List.map_cons, List.map_nil, hE.get 64 rfl]
        go_simp
      · rintro e w' ⟨t, rfl, h1, h2, h3⟩
        exact ⟨_, rfl, t, rfl, h1, h2, h3⟩
      rintro a x w9 ⟨t, rfl, ht1, ht2, rfl⟩ hE
      have hal := y.attrs_len
      have hos := hT6.size
      refine ev_run hE rfl rfl (by decide) (ex_add rfl (hE.get 65 rfl) (by simp only [ByteArray.size_append', ByteArray.size_mk', List.size_toArray, List.length_cons, List.length_nil]; omega)) ?_
      intro a hE
      refine ev_run hE rfl rfl (by decide) (ex_add (hE.get 66 rfl) rfl (by simp only [ByteArray.size_append', ByteArray.size_mk', List.size_toArray, List.length_cons, List.length_nil]; omega)) ?_
      intro a hE
      refine ev_run hE rfl rfl (by decide) (ex_add (hE.get 62 rfl) (hE.get 67 rfl) (by simp only [ByteArray.size_append', ByteArray.size_mk', List.size_toArray, List.length_cons, List.length_nil]; omega)) ?_
      intro a hE
      refine ev_as hE (hE.get 68 rfl) (by decide) ?_
      intro a hE
      refine wpList_nil ?_
      show Q' .normal a w9
      refine hQ' _ a w9 ?_ (hE.pick ?_) ⟨out ++ (⟨#[35, 69, 88, 84, 45, 88, 45, 77, 69, 68, 73, 65, 58]⟩ ++ t ++ ⟨#[10]⟩), s', rfl, ?_⟩
      · rfl
      · rfl
      · have hTn : Ti B b3 gv ms v sO ys w0 (txt ++ (specAlt W (ys.take k)).1 ++ mediaLine y) ((specAlt W (ys.take k)).2 ++ [y]) (n + 20000 * (k + 1)) (out ++ (⟨#[35, 69, 88, 84, 45, 88, 45, 77, 69, 68, 73, 65, 58]⟩ ++ t ++ ⟨#[10]⟩)) s' w7 := by
          refine ⟨?_, ?_, hown7, hms7, hsv7, hof7, hne7, hT6.below.trans hbw7, Nat.le_trans hT6.le hon7.size⟩
          · simp only [ByteArray.data_append, Array.toList_append, hT6.tx, ht1, mediaLine]
          · simp only [ByteArray.size_append', ByteArray.size_mk', List.size_toArray, List.length_cons, List.length_nil]
            omega
        rw [hst]
        rw [← List.append_assoc]
        exact hTn.next hb8
    · rw [hs] at hE
      rw [hs, if_pos rfl] at hst
      refine wp_cond_false (hE.get 57 rfl) ?_
      refine wp_skip ?_
      show Q' .normal a w6
      refine hQ' _ a w6 ?_ (hE.pick ?_) ⟨out, sW, rfl, ?_⟩
      · rfl
      · rfl
      · rw [hst]
        exact ⟨hT6.tx, by have := hT6.size; omega, hT6.own, hT6.ms, hT6.sv, hT6.of, hT6.ne, hT6.below, hT6.le⟩
  · rintro l a wr hE ⟨out, sW, rfl, hT⟩
    rw [List.take_length] at hT
    exact hQ a wr out sW (hE.pick rfl) hT
theorem Vt.attrs_ne (v : Vt) : v.attrs ≠ [] := by
  intro h
  have := congrArg List.length h
  simp [Vt.attrs, Vt.at9, Vt.at8, Vt.at7, Vt.at6, Vt.at5, Vt.at4, Vt.at3, Vt.at2, Vt.at1, Vt.at0] at this
theorem opt_all {c : Bool} {x y : ByteArray} (h : y ∈ opt c x) : y = x := by
  unfold opt at h
  split at h
  · simpa using h
  · cases h
theorem Vt.attrs_sizes {v : Vt} (h : v.Ok) : ∀ (k : Nat) (hk : k < v.attrs.length), (v.attrs[k]'hk).size ≤ 1000 := by
  have q1 := dec_u32 h.program
  have q2 := dec_u32 h.bandwidth
  have q3 := dec_u32 h.average
  have q4 := Vt.resolution_size h
  have q5 := secs_size (n := v.rate) (by have := h.rate; omega)
  have key : ∀ x ∈ v.attrs, x.size ≤ 1000 := by
    intro x hx
    have a1 := fun (n u : ByteArray) (q : Bool) (hn : n.size ≤ 100) (hv : u.size ≤ 100) => (show (attr n u q).size ≤ 1000 from by have := attr_size n u q; omega)
    simp only [Vt.attrs, Vt.at9, Vt.at8, Vt.at7, Vt.at6, Vt.at5, Vt.at4, Vt.at3, Vt.at2, Vt.at1, Vt.at0, List.mem_append, List.mem_cons, List.not_mem_nil, or_false] at hx
    rcases hx with ((((((((((rfl | rfl) | hx) | hx) | hx) | hx) | hx) | hx) | hx) | hx) | hx)
    · exact a1 _ _ _ (by simp [ByteArray.size]) (by omega)
    · exact a1 _ _ _ (by simp [ByteArray.size]) (by omega)
    all_goals (rw [opt_all hx])
    · exact a1 _ _ _ (by simp [ByteArray.size]) (by omega)
    · exact a1 _ _ _ (by simp [ByteArray.size]) h.codecs
    · exact a1 _ _ _ (by simp [ByteArray.size]) (by omega)
    · exact a1 _ _ _ (by simp [ByteArray.size]) h.audio
    · exact a1 _ _ _ (by simp [ByteArray.size]) h.video
    · exact a1 _ _ _ (by simp [ByteArray.size]) h.captions
    · exact a1 _ _ _ (by simp [ByteArray.size]) h.subtitles
    · exact a1 _ _ _ (by simp [ByteArray.size]) h.name
    · exact a1 _ _ _ (by simp [ByteArray.size]) (by omega)
  exact fun k hk => key _ (List.getElem_mem hk)
theorem joinL_len {L : List ByteArray} (h : ∀ x ∈ L, x.size ≤ 1000) : (joinL L).length ≤ 1001 * L.length := by
  induction L with
  | nil => simp [joinL_nil]
  | cons x r ih =>
    have h1 := h x (by simp)
    rw [Lib.size_eq] at h1
    have h2 := ih fun y hy => h y (List.mem_cons_of_mem _ hy)
    by_cases hr : r = []
    · subst hr; rw [joinL_one]; simp only [List.length_cons, List.length_nil]; omega
    · rw [joinL_cons _ _ hr]; simp only [List.length_append, List.length_cons]; omega
theorem Vt.joined_size {v : Vt} (h : v.Ok) : (joinL v.attrs).length ≤ 20000 := by
  have h1 := joinL_len (L := v.attrs) (fun x hx => by
    obtain ⟨k, hk, rfl⟩ := List.mem_iff_getElem.1 hx
    exact Vt.attrs_sizes h k hk)
  have h2 : v.attrs.length ≤ 11 := v.at9_len
  omega
set_option maxRecDepth 100000 in
set_option maxHeartbeats 4000000 in
theorem txt_rgn {v : Vt} {id gv : Nat} {out : ByteArray} {a0 : Act} {w : World} {Q : Exit → Act → World → Prop} (hok : v.Ok) (hout : out.size ≤ 1000000000) (hsz : a0.tmps.size = 107) (h7 : a0.eval (.tmp 7) = .string out) (h10 : a0.eval (.tmp 10) = pt gv 0) (hy : w.heap[gv]? = some (.cells v.cells 48 (0, 0)))
    (hK : ∀ a' w', a'.tmps.size = 107 → a'.defers = a0.defers → (∀ t, t < 78 → t ≠ 7 → a'.eval (.tmp t) = a0.eval (.tmp t)) → a'.eval (.tmp 7) = .string (out ++ (⟨#[35, 69, 88, 84, 45, 88, 45, 83, 84, 82, 69, 65, 77, 45, 73, 78, 70, 58]⟩ ++ (⟨(joinL v.attrs).toArray⟩ : ByteArray) ++ ⟨#[10]⟩ ++ v.uri)) → Below w.heap.size w w' → Q .normal a' w') :
    (Code.region id #[{ dst := some 78, op := Op.move (Operand.tmp 7), type := 9, pos := "more.go:104", after := #[], guard := none },
      { dst := some 79, op := Op.load 48 (Operand.tmp 10), type := 48, pos := "more.go:104", after := #[], guard := none },
      { dst := some 80, op := Op.call { callee := Callee.value (Operand.func 23), args := #[Operand.tmp 79], argTypes := #[48] }, type := 43, pos := "more.go:104", after := #[{ on := 1, ground := Ground.data }], guard := none },
      { dst := some 81, op := Op.call { callee := Callee.value (Operand.func 20), args := #[Operand.tmp 80], argTypes := #[43] }, type := 9, pos := "more.go:104", after := #[{ on := 2, ground := Ground.data }, { on := 2, ground := Ground.chain }], guard := none },
      { dst := some 82, op := Op.binOp BinOp.add 9 (Operand.const (Value.string { data := #[35, 69, 88, 84, 45, 88, 45, 83, 84, 82, 69, 65, 77, 45, 73, 78, 70, 58] })) (Operand.tmp 81) 9, type := 9, pos := "more.go:104", after := #[{ on := 3, ground := Ground.data }], guard := none },
      { dst := some 83, op := Op.binOp BinOp.add 9 (Operand.tmp 82) (Operand.const (Value.string { data := #[10] })) 9, type := 9, pos := "more.go:104", after := #[{ on := 4, ground := Ground.data }], guard := none },
      { dst := some 84, op := Op.fieldAddr 48 (Operand.tmp 10) 0, type := 0, pos := "more.go:104", after := #[], guard := none },
      { dst := some 85, op := Op.load 9 (Operand.tmp 84), type := 9, pos := "more.go:104", after := #[{ on := 6, ground := Ground.data }], guard := none },
      { dst := some 86, op := Op.binOp BinOp.add 9 (Operand.tmp 83) (Operand.tmp 85) 9, type := 9, pos := "more.go:104", after := #[{ on := 5, ground := Ground.data }, { on := 7, ground := Ground.data }], guard := none },
      { dst := some 87, op := Op.binOp BinOp.add 9 (Operand.tmp 78) (Operand.tmp 86) 9, type := 9, pos := "more.go:104", after := #[{ on := 0, ground := Ground.data }, { on := 8, ground := Ground.data }], guard := none },
      { dst := some 7, op := Op.assign (Operand.tmp 87), type := 9, pos := "more.go:104", after := #[{ on := 9, ground := Ground.data }, { on := 3, ground := Ground.chain }, { on := 0, ground := Ground.phase }, { on := 1, ground := Ground.phase }, { on := 2, ground := Ground.phase }, { on := 3, ground := Ground.phase }, { on := 4, ground := Ground.phase }, { on := 5, ground := Ground.phase }, { on := 6, ground := Ground.phase }, { on := 7, ground := Ground.phase }, { on := 8, ground := Ground.phase }, { on := 9, ground := Ground.phase }], guard := none }] true).wp Tryd.prog Q a0 w := by
  have q1 := hok.uri
  have q2 := Vt.joined_size hok
  have hal : v.attrs.length ≤ 1000 := Nat.le_trans v.at9_len (by decide)
  refine wp_region_og0 (n := 107) [Asr.eq (.string out), Asr.eq (.agg v.cells), Asr.any (fun x wx => strOwn wx w.heap.size x v.attrs), Asr.eq (.string (⟨(joinL v.attrs).toArray⟩ : ByteArray)), Asr.eq (.string (⟨#[35, 69, 88, 84, 45, 88, 45, 83, 84, 82, 69, 65, 77, 45, 73, 78, 70, 58]⟩ ++ (⟨(joinL v.attrs).toArray⟩ : ByteArray))), Asr.eq (.string (⟨#[35, 69, 88, 84, 45, 88, 45, 83, 84, 82, 69, 65, 77, 45, 73, 78, 70, 58]⟩ ++ (⟨(joinL v.attrs).toArray⟩ : ByteArray) ++ ⟨#[10]⟩)), Asr.eq (pt gv 0), Asr.eq (.string v.uri), Asr.eq (.string (⟨#[35, 69, 88, 84, 45, 88, 45, 83, 84, 82, 69, 65, 77, 45, 73, 78, 70, 58]⟩ ++ (⟨(joinL v.attrs).toArray⟩ : ByteArray) ++ ⟨#[10]⟩ ++ v.uri)), Asr.eq (.string (out ++ (⟨#[35, 69, 88, 84, 45, 88, 45, 83, 84, 82, 69, 65, 77, 45, 73, 78, 70, 58]⟩ ++ (⟨(joinL v.attrs).toArray⟩ : ByteArray) ++ ⟨#[10]⟩ ++ v.uri))), Asr.eq (.string (out ++ (⟨#[35, 69, 88, 84, 45, 88, 45, 83, 84, 82, 69, 65, 77, 45, 73, 78, 70, 58]⟩ ++ (⟨(joinL v.attrs).toArray⟩ : ByteArray) ++ ⟨#[10]⟩ ++ v.uri)))] (by kernel_rfl) (by kernel_rfl) (by kernel_rfl) hsz ⟨?_, trivial⟩ ⟨?_, ?_, ?_, ?_, ?_, ?_, ?_, ?_, ?_, ?_, ?_, trivial⟩ ?_
  · intro i _ _ x w1 w2 hB ho hp
    exact hp.below (ho.below (Nat.le_refl _) fun _ _ h => h)
  · intro a wx c
    have e7 : a.eval (.tmp 7) = .string out := c.outE (by decide +kernel) h7
    clear c
    show Oper.wp _ _ _ _ _ _
    unfold Oper.wp
    simp only [execOp, resolve, e7]
    go_simp; try go_bits
    exact ⟨_, rfl, Only.refl _ _, rfl⟩
  · intro a wx c
    have e10 : a.eval (.tmp 10) = pt gv 0 := c.outE (by decide +kernel) h10
    have hg2 : wx.heap[gv]? = some (.cells v.cells 48 (0, 0)) := c.heap hy (fun _ h => h.elim)
    clear c
    show Oper.wp _ _ _ _ _ _
    have hr := run_load_blk (P := Tryd.prog) (w := wx) 48 Tryd.isAgg48 Tryd.sizeOf48 hg2 rfl
    unfold Oper.wp
    simp only [execOp, e10, Instr.loadAt, Instr.sureAddr]
    simp [hr]
    exact ⟨_, rfl, Only.refl _ _, rfl⟩
  · intro a wx c
    have e79 : a.eval (.tmp 79) = .agg v.cells := c.slot 1 _ (by decide +kernel) rfl
    have hsz := c.only.size
    clear c
    show Oper.wp _ _ _ _ _ _
    unfold Oper.wp
    simp only [execOp, resolve, List.map_toArray, List.map_cons, List.map_nil, e79]
    go_simp
    refine (attributes_any v hok wx).mono ?_
    rintro e w' ⟨s, rfl, hs, hb⟩
    exact ⟨_, rfl, Only.of_below hb, hs.base hsz⟩
  · intro a wx c
    obtain p80 : (fun x wx => strOwn wx w.heap.size x v.attrs) (a.eval (.tmp 80)) wx := c.slot 2 _ (by decide +kernel) rfl
    clear c
    show Oper.wp _ _ _ _ _ _
    generalize e80 : a.eval (.tmp 80) = x80 at p80
    have h80 : Own (fun s => [Value.string s]) 9 1 wx w.heap.size x80 v.attrs := p80
    unfold Oper.wp
    simp only [execOp, resolve, List.map_toArray, List.map_cons, List.map_nil, e80]
    go_simp
    refine (joined_any v.attrs x80 wx w.heap.size h80 (Vt.attrs_ne v) hal (Vt.attrs_sizes hok)).mono ?_
    rintro e w' ⟨t, rfl, ht, _, rfl⟩
    have ht2 : t = (⟨(joinL v.attrs).toArray⟩ : ByteArray) := ByteArray.ext (Array.ext' ht)
    subst ht2
    exact ⟨_, rfl, Only.refl _ _, rfl⟩
  · intro a wx c
    have e81 : a.eval (.tmp 81) = .string (⟨(joinL v.attrs).toArray⟩ : ByteArray) := c.slot 3 _ (by decide +kernel) rfl
    clear c
    show Oper.wp _ _ _ _ _ _
    exact og_add Tryd.underlying9 rfl e81 (by simp only [ByteArray.size_append', ByteArray.size_mk', List.size_toArray, List.length_cons, List.length_nil]; omega) rfl
  · intro a wx c
    have e82 : a.eval (.tmp 82) = .string (⟨#[35, 69, 88, 84, 45, 88, 45, 83, 84, 82, 69, 65, 77, 45, 73, 78, 70, 58]⟩ ++ (⟨(joinL v.attrs).toArray⟩ : ByteArray)) := c.slot 4 _ (by decide +kernel) rfl
    clear c
    show Oper.wp _ _ _ _ _ _
    exact og_add Tryd.underlying9 e82 rfl (by simp only [ByteArray.size_append', ByteArray.size_mk', List.size_toArray, List.length_cons, List.length_nil]; omega) rfl
  · intro a wx c
    have e10 : a.eval (.tmp 10) = pt gv 0 := c.outE (by decide +kernel) h10
    clear c
    show Oper.wp _ _ _ _ _ _
    unfold Oper.wp
    simp only [execOp, resolve, e10]
    go_simp; try go_bits
    exact ⟨_, rfl, Only.refl _ _, rfl⟩
  · intro a wx c
    have e84 : a.eval (.tmp 84) = pt gv 0 := c.slot 6 _ (by decide +kernel) rfl
    have hcell := c.cell (p := ⟨gv, 0, none⟩) (v := .string v.uri) (cell_of_heap hy rfl) (fun _ h => h.elim)
    clear c
    show Oper.wp _ _ _ _ _ _
    unfold Oper.wp
    simp only [execOp, resolve, e84]
    go_simp; try go_bits
    exact ⟨_, rfl, Only.refl _ _, rfl⟩
  · intro a wx c
    have e83 : a.eval (.tmp 83) = .string (⟨#[35, 69, 88, 84, 45, 88, 45, 83, 84, 82, 69, 65, 77, 45, 73, 78, 70, 58]⟩ ++ (⟨(joinL v.attrs).toArray⟩ : ByteArray) ++ ⟨#[10]⟩) := c.slot 5 _ (by decide +kernel) rfl
    have e85 : a.eval (.tmp 85) = .string v.uri := c.slot 7 _ (by decide +kernel) rfl
    clear c
    show Oper.wp _ _ _ _ _ _
    exact og_add Tryd.underlying9 e83 e85 (by simp only [ByteArray.size_append', ByteArray.size_mk', List.size_toArray, List.length_cons, List.length_nil]; omega) rfl
  · intro a wx c
    have e78 : a.eval (.tmp 78) = .string out := c.slot 0 _ (by decide +kernel) rfl
    have e86 : a.eval (.tmp 86) = .string (⟨#[35, 69, 88, 84, 45, 88, 45, 83, 84, 82, 69, 65, 77, 45, 73, 78, 70, 58]⟩ ++ (⟨(joinL v.attrs).toArray⟩ : ByteArray) ++ ⟨#[10]⟩ ++ v.uri) := c.slot 8 _ (by decide +kernel) rfl
    clear c
    show Oper.wp _ _ _ _ _ _
    exact og_add Tryd.underlying9 e78 e86 (by simp only [ByteArray.size_append', ByteArray.size_mk', List.size_toArray, List.length_cons, List.length_nil]; omega) rfl
  · intro a wx c
    have e87 : a.eval (.tmp 87) = .string (out ++ (⟨#[35, 69, 88, 84, 45, 88, 45, 83, 84, 82, 69, 65, 77, 45, 73, 78, 70, 58]⟩ ++ (⟨(joinL v.attrs).toArray⟩ : ByteArray) ++ ⟨#[10]⟩ ++ v.uri)) := c.slot 9 _ (by decide +kernel) rfl
    clear c
    show Oper.wp _ _ _ _ _ _
    unfold Oper.wp
    simp only [execOp, resolve, e87]
    go_simp; try go_bits
    exact ⟨_, rfl, Only.refl _ _, rfl⟩
  · intro a1 w1 c hb
    have r : a1.tmps.getD 7 undef = .string (out ++ (⟨#[35, 69, 88, 84, 45, 88, 45, 83, 84, 82, 69, 65, 77, 45, 73, 78, 70, 58]⟩ ++ (⟨(joinL v.attrs).toArray⟩ : ByteArray) ++ ⟨#[10]⟩ ++ v.uri)) := c.slot 10 _ rfl
    refine hK a1 w1 (c.size.trans hsz) c.defers (fun t ht h8 => ?_) r hb
    have := c.out t (by
      intro j o hj hd
      have key : (ogDsts #[{ dst := some 78, op := Op.move (Operand.tmp 7), type := 9, pos := "more.go:104", after := #[], guard := none },
      { dst := some 79, op := Op.load 48 (Operand.tmp 10), type := 48, pos := "more.go:104", after := #[], guard := none },
      { dst := some 80, op := Op.call { callee := Callee.value (Operand.func 23), args := #[Operand.tmp 79], argTypes := #[48] }, type := 43, pos := "more.go:104", after := #[{ on := 1, ground := Ground.data }], guard := none },
      { dst := some 81, op := Op.call { callee := Callee.value (Operand.func 20), args := #[Operand.tmp 80], argTypes := #[43] }, type := 9, pos := "more.go:104", after := #[{ on := 2, ground := Ground.data }, { on := 2, ground := Ground.chain }], guard := none },
      { dst := some 82, op := Op.binOp BinOp.add 9 (Operand.const (Value.string { data := #[35, 69, 88, 84, 45, 88, 45, 83, 84, 82, 69, 65, 77, 45, 73, 78, 70, 58] })) (Operand.tmp 81) 9, type := 9, pos := "more.go:104", after := #[{ on := 3, ground := Ground.data }], guard := none },
      { dst := some 83, op := Op.binOp BinOp.add 9 (Operand.tmp 82) (Operand.const (Value.string { data := #[10] })) 9, type := 9, pos := "more.go:104", after := #[{ on := 4, ground := Ground.data }], guard := none },
      { dst := some 84, op := Op.fieldAddr 48 (Operand.tmp 10) 0, type := 0, pos := "more.go:104", after := #[], guard := none },
      { dst := some 85, op := Op.load 9 (Operand.tmp 84), type := 9, pos := "more.go:104", after := #[{ on := 6, ground := Ground.data }], guard := none },
      { dst := some 86, op := Op.binOp BinOp.add 9 (Operand.tmp 83) (Operand.tmp 85) 9, type := 9, pos := "more.go:104", after := #[{ on := 5, ground := Ground.data }, { on := 7, ground := Ground.data }], guard := none },
      { dst := some 87, op := Op.binOp BinOp.add 9 (Operand.tmp 78) (Operand.tmp 86) 9, type := 9, pos := "more.go:104", after := #[{ on := 0, ground := Ground.data }, { on := 8, ground := Ground.data }], guard := none },
      { dst := some 7, op := Op.assign (Operand.tmp 87), type := 9, pos := "more.go:104", after := #[{ on := 9, ground := Ground.data }, { on := 3, ground := Ground.chain }, { on := 0, ground := Ground.phase }, { on := 1, ground := Ground.phase }, { on := 2, ground := Ground.phase }, { on := 3, ground := Ground.phase }, { on := 4, ground := Ground.phase }, { on := 5, ground := Ground.phase }, { on := 6, ground := Ground.phase }, { on := 7, ground := Ground.phase }, { on := 8, ground := Ground.phase }, { on := 9, ground := Ground.phase }], guard := none }] [7, 78, 79, 80, 81, 82, 83, 84, 85, 86, 87]) = true := by kernel_rfl
      unfold ogDsts at key
      rw [List.all_eq_true] at key
      have := key o (by have := Array.mem_of_getElem? hj; simpa using this)
      rw [hd] at this
      have h9 : (t ∈ [7, 78, 79, 80, 81, 82, 83, 84, 85, 86, 87]) := by simpa using this
      rcases (by decide : ∀ x ∈ [7, 78, 79, 80, 81, 82, 83, 84, 85, 86, 87], x = 7 ∨ 78 ≤ x) t h9 with e | e
      · exact h8 e
      · exact absurd ht (Nat.not_lt.2 e))
    simp only [Act.eval, Array.getD_eq_getD_getElem?, this]
end Go.Proofs.YtkddkmiomhadaaaDoor
