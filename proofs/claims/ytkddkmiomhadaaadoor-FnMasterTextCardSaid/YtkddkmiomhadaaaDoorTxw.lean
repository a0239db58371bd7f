/- The walk of spec.Master.Text, its outer loop and the whole. -/
import Derived.Test.YtkddkmiomhadaaaDoorTxt
namespace Go.Proofs.YtkddkmiomhadaaaDoor
open Go.RowKit
theorem ex_eq0 {a : Act} {w : World} {T T' : TypeId} {x : Operand} {s : ByteArray} {ty : TypeId} {ps : String} {af : Array Edge} {dst : Option Nat} {gd : Option (Nat × Bool)} (hx : a.eval x = .string s) : (execOp a.eval ⟨dst, .binOp .eql T x (.const (.string ⟨#[]⟩)) T', ty, ps, af, gd⟩).run Tryd.prog w = .ok (.value (.bool (!ne s))) w := by
  have h : (s.toList == (⟨#[]⟩ : ByteArray).toList) = s.data.toList.isEmpty := by
    rw [ByteArray.toList_eq, ByteArray.toList_eq]
    cases s.data.toList <;> rfl
  simp only [execOp, hx]
  show Result.ok (Next.value (Value.bool (s.toList == (⟨#[]⟩ : ByteArray).toList))) w = _
  rw [h]
  simp [ne]
/-- 's[i]', a value of one cell. -/
theorem ev_cell {N n : Nat} {l : List (Nat × Value)} {a : Act} {w : World} {ops : Array Oper} {rest : List Oper} {Q : Exit → Act → World → Prop} {d1 d2 : Nat} {ty1 ty2 : TypeId} {ps1 ps2 : String} {af1 af2 : Array Edge} {α : Type} {f : α → Value} {T E s i B : Nat} {sv : Value} {L : List α} {x : α} (hL : Ld E) (hz : ∀ w, (sizeOf E).run Tryd.prog w = .ok 1 w) (hu : Tryd.prog.underlying T = some (.slice E)) (h : Ev N l a) (ho : Own (fun x => [f x]) E 1 w B sv L) (hx : L[n]? = some x) (hs : a.eval (.tmp s) = sv) (hi : a.eval (.tmp i) = .int .i64 n) (h1 : d1 < N) (h2 : d2 < N)
    (hK : ∀ a', Ev N ((d2, f x) :: l) a' → wpList Tryd.prog ops Q rest a' w) (hfr : (l.all fun p => p.1 != d1) = true) (hne : d1 ≠ d2) :
    wpList Tryd.prog ops Q (⟨some d1, .indexAddr T (.tmp s) (.tmp i), ty1, ps1, af1, none⟩ :: ⟨some d2, .load E (.tmp d1), ty2, ps2, af2, none⟩ :: rest) a w := by
  have hlt : n < L.length := (List.getElem?_eq_some_iff.1 hx).1
  have hne0 : L ≠ [] := by intro e; rw [e] at hlt; simp at hlt
  obtain ⟨A, cap, hsv, hA0⟩ := ho.shape
  obtain ⟨g, rfl⟩ := hA0 hne0
  rw [hsv] at ho hs
  have hun := run_underlying (P := Tryd.prog) hu
  have hcell : w.cell? ⟨g, n, none⟩ = some (f x) := by
    have := Own.cells_at (f := fun x => [f x]) (k := 1) (fun _ => rfl) Nat.one_pos ho hlt (j := 0) Nat.one_pos
    rw [Nat.mul_one, Nat.add_zero] at this
    rw [this]
    rw [List.getElem?_eq_getElem hlt] at hx
    rw [Option.some.inj hx]
    rfl
  refine ev_run (v := .pointer (some ⟨g, n, none⟩)) (w' := w) h rfl rfl h1 ?_ ?_
  · simp only [execOp, hs, hi]
    refine run_andValue ?_
    have hadd : (⟨g, 0, none⟩ : Addr).add n = ⟨g, n, none⟩ := by unfold Addr.add; split <;> simp_all
    simp [Instr.indexAt, asIntOf, hun, hlt, hz, hadd]
  · intro a' h'
    refine ev_run (v := f x) (w' := w) h' rfl rfl h2 (by simp only [execOp, h'.get d1 look_eq]; exact run_andValue (hL w _ _ hcell)) ?_
    intro a2 h2'
    refine hK a2 (h2'.weaken fun t v ht => ?_)
    by_cases e : t = d2
    · subst e; rw [look_eq] at ht ⊢; exact ht
    · rw [look_ne e] at ht ⊢
      rw [List.all_eq_true] at hfr
      have := hfr _ (look_mem ht)
      rw [look_ne (by simpa using this)]
      exact ht
set_option maxRecDepth 100000 in
theorem al_sv : Al 48 #[.string ⟨#[]⟩, .int .u32 0, .int .u32 0, .int .u32 0, .string ⟨#[]⟩, .int .u32 0, .int .u32 0, .string ⟨#[]⟩, .string ⟨#[]⟩, .string ⟨#[]⟩, .string ⟨#[]⟩, .string ⟨#[]⟩, .int .i64 0] := by intro w; go_simp
/-- A variant's line by its definition. -/
def varLine (v : Vt) (fr : Bool) (args : ByteArray) : List UInt8 := if fr = true then v.frames.data.toList else (⟨#[35, 69, 88, 84, 45, 88, 45, 83, 84, 82, 69, 65, 77, 45, 73, 78, 70, 58]⟩ : ByteArray).data.toList ++ joinL v.attrs ++ [10] ++ v.uri.data.toList ++ (if (!ne args) = true then [] else if hasB v.uri.data.toList 63 = true then 38 :: args.data.toList else 63 :: args.data.toList) ++ [10]
def specVars (As : List At) (args : ByteArray) : List At → List (Vt × Bool) → List UInt8 × List At
  | W, [] => ([], W)
  | W, d :: r => ((specAlt W (ofL As d.1)).1 ++ (varLine d.1 d.2 args ++ (specVars As args (specAlt W (ofL As d.1)).2 r).1), (specVars As args (specAlt W (ofL As d.1)).2 r).2)
theorem specVars_app (As : List At) (args : ByteArray) (ys : List (Vt × Bool)) : ∀ (W : List At) (zs : List (Vt × Bool)), specVars As args W (ys ++ zs) = ((specVars As args W ys).1 ++ (specVars As args (specVars As args W ys).2 zs).1, (specVars As args (specVars As args W ys).2 zs).2) := by
  induction ys with
  | nil => intro W zs; simp [specVars]
  | cons y r ih =>
    intro W zs
    rw [List.cons_append, specVars, specVars, ih]
    simp
theorem specVars_step {As : List At} {args : ByteArray} {W : List At} {ys : List (Vt × Bool)} {k : Nat} {d : Vt × Bool} (h : ys[k]? = some d) :
    specVars As args W (ys.take (k + 1)) = ((specVars As args W (ys.take k)).1 ++ ((specAlt (specVars As args W (ys.take k)).2 (ofL As d.1)).1 ++ varLine d.1 d.2 args), (specAlt (specVars As args W (ys.take k)).2 (ofL As d.1)).2) := by
  rw [take_app h, specVars_app]
  simp [specVars]
theorem specVars_len (As : List At) (args : ByteArray) (ys : List (Vt × Bool)) : ∀ W : List At, (specVars As args W ys).2.length ≤ W.length + As.length * ys.length := by
  induction ys with
  | nil => intro W; simp [specVars]
  | cons y r ih =>
    intro W
    have h1 := ih (specAlt W (ofL As y.1)).2
    have h2 := specAlt_len (ofL As y.1) W
    have h3 := ofL_len As y.1
    simp only [specVars, List.length_cons, Nat.mul_add, Nat.mul_one]
    omega
/-- Between two rounds. -/
structure Tv (B b3 : Nat) (ms : Array Value) (w0 : World) (txt : List UInt8) (W : List At) (n : Nat) (out : ByteArray) (sW : Value) (w : World) : Prop where
  tx : out.data.toList = txt
  size : out.size ≤ n
  own : Own At.list 46 7 w B sW W
  ms : w.heap[b3]? = some (.cells ms 27 (0, 0))
  below : Below B w0 w
  le : B ≤ w.heap.size
theorem Tv.next {B b3 : Nat} {ms : Array Value} {w0 w w' : World} {txt : List UInt8} {W : List At} {n : Nat} {out : ByteArray} {sW : Value} (h : Tv B b3 ms w0 txt W n out sW w) (hb : Below w.heap.size w w') : Tv B b3 ms w0 txt W n out sW w' :=
  ⟨h.tx, h.size, h.own.below hb, hp_below h.ms hb, h.below.trans (hb.mono h.le), Nat.le_trans h.le hb.size⟩
set_option maxRecDepth 100000 in
set_option maxHeartbeats 8000000 in
/-- The variants, by the definition. -/
theorem vars_txt {Q : Exit → Act → World → Prop} {a : Act} {w0 w : World} {args out : ByteArray} {sF sW sV sA : Value} {b3 B0 n : Nat} {ver : Int} {ind : Bool} {txt : List UInt8} {W : List At} (As : List At) (ds : List (Vt × Bool)) (hAok : ∀ y ∈ As, y.Ok) (hAl : As.length ≤ 10) (hdl : ds.length ≤ 10) (hdok : ∀ d ∈ ds, d.1.Ok) (hargs : args.size ≤ 100) (hWl : W.length ≤ 10) (hn : n ≤ 1000000)
    (hA : Own At.list 46 7 w0 B0 sA As) (hV : Own Vt.list 48 13 w0 B0 sV (ds.map Prod.fst)) (hF : Own (fun b => [Value.bool b]) 4 1 w0 B0 sF (ds.map Prod.snd)) (hT : Tv w0.heap.size b3 #[.int .i64 ver, .bool ind, sA, sV] w0 txt W n out sW w)
    (hE : Ev 107 ((30, .int .i64 (0 : Nat)) :: (29, .int .i64 ds.length) :: (1, .string args) :: (2, sF) :: (3, pt b3 0) :: (7, .string out) :: (8, sW) :: (28, sV) :: []) a) (hQ : ∀ a' w' out', Ev 107 ((7, .string out') :: []) a' → out'.data.toList = txt ++ (specVars As args W ds).1 → Below w0.heap.size w0 w' → Q .normal a' w') :
    Code.wp Tryd.prog (cB (cA (cB (cB (cB (cB txtBody)))))) Q a w := by
  have hV1 : sV.oneCell' = true := by obtain ⟨A, cap, rfl, _⟩ := hV.shape; rfl
  refine range_wp2 (N := 107) (n := ds.length) [1, 2, 3, 7, 8, 28] (l0 := ((1, .string args) :: (2, sF) :: (3, pt b3 0) :: (7, .string out) :: (8, sW) :: (28, sV) :: [])) (fun k l wr => ∃ out sW, l = ((1, .string args) :: (2, sF) :: (3, pt b3 0) :: (7, .string out) :: (8, sW) :: (28, sV) :: []) ∧ Tv w0.heap.size b3 #[.int .i64 ver, .bool ind, sA, sV] w0 (txt ++ (specVars As args W (ds.take k)).1) (specVars As args W (ds.take k)).2 (n + 1000000 * k) out sW wr) (by omega) hE rfl ⟨out, sW, rfl, ?_⟩ (by decide) (by decide) (by decide) ?_ ?_
  · simpa [specVars] using hT
  · rintro k l a wr hk hE ⟨out, sW, rfl, hT⟩ Q' hQ'
    obtain ⟨d, hd⟩ : ∃ d, ds[k]? = some d := ⟨_, List.getElem?_eq_getElem hk⟩
    obtain ⟨v, fr⟩ := d
    have hvok : v.Ok := hdok _ (List.mem_of_getElem? hd)
    have hdv : (ds.map Prod.fst)[k]? = some v := by rw [List.getElem?_map, hd]; rfl
    have hdf : (ds.map Prod.snd)[k]? = some fr := by rw [List.getElem?_map, hd]; rfl
    have hsl := specVars_len As args (ds.take k) W
    have htk : (ds.take k).length ≤ 10 := by rw [List.length_take]; omega
    have hprod : As.length * (ds.take k).length ≤ 100 := Nat.mul_le_mul hAl htk
    have hol := ofL_len As v
    have hst := specVars_step (As := As) (args := args) (W := W) hd
    refine wp_block ?_
    refine wp_seq ?_
    refine wp_region_lit ?_
    refine ev_mv hE (hE.get 30 rfl) (by decide) ?_
    intro a hE
    refine ev_elem ag_sv Tryd.underlying25 (fun _ => rfl) (by decide) hE (hV.below hT.below) hdv (hE.get 28 rfl) (hE.get 30 rfl) (by decide) (by decide) ?_ rfl (by decide)
    intro a hE
    refine ev_al hE al_sv (by decide) ?_
    intro a w4 hE hgv hbl4 _
    refine ev_as hE (hE.get 32 rfl) (by decide) ?_
    intro a hE
    refine ev_sb (cs := v.cells) hE ag_sv (hE.get 10 rfl) (hE.get 34 rfl) hgv rfl rfl (vt_one v) ?_
    intro w5 hy ho5
    refine wpList_nil ?_
    have hT5 := hT.next (hbl4.trans (only_bel ho5 hbl4.size (Nat.le_refl _)))
    have hE : Ev 107 ((9, .int .i64 k) :: (10, pt wr.heap.size 0) :: (30, .int .i64 k) :: (29, .int .i64 ds.length) :: (1, .string args) :: (2, sF) :: (3, pt b3 0) :: (7, .string out) :: (8, sW) :: (28, sV) :: []) a := hE.pick rfl
    have hbg := hT.le
    generalize wr.heap.size = gv at *
    clear hgv hbl4 ho5
    show Code.wp _ _ _ _ _
    refine wp_seq ?_
    refine wp_seq ?_
    refine wp_region_lit ?_
    refine ev_lb hE ag_ms (hE.get 3 rfl) hT5.ms rfl (by decide) ?_
    intro a hE
    refine ev_lb hE ag_sv (hE.get 10 rfl) hy rfl (by decide) ?_
    intro a hE
    refine ev_call (S := fun s w' => Own At.list 46 7 w' w5.heap.size s (ofL As v) ∧ Below w5.heap.size w5 w') hE rfl rfl (by decide) (f := 13) (args := #[.agg #[.int .i64 ver, .bool ind, sA, sV], .agg v.cells]) ?_ ((of_any ver ind sA sV As v w5 B0 (hA.below hT5.below) (by omega) hV1).mono ?_) ?_
    · simp only [execOp, resolve, List.map_toArray, List.map_cons, List.map_nil, hE.get 35 rfl, hE.get 36 rfl]
      go_simp
    · rintro e w' ⟨u, rfl, h1, h2⟩
      exact ⟨u, rfl, h1, h2⟩
    rintro a sO w6 ⟨hO, hb6⟩ hE
    have hT6 := hT5.next hb6
    have hy := hp_below hy hb6
    obtain ⟨AO, capO, hsO, _⟩ := hO.shape
    have e37 : a.eval (.tmp 37) = .slice AO (ofL As v).length capO := by rw [← hsO]; exact hE.get 37 rfl
    refine ev_run hE rfl rfl (by decide) (ex_len Tryd.underlying24 e37) ?_
    intro a hE
    refine ev_run (v := .int .i64 (0 : Nat)) (w' := w6) hE rfl rfl (by decide) (by simp only [execOp]; rfl) ?_
    intro a hE
    refine wpList_nil ?_
    have hTi : Ti w0.heap.size b3 gv #[.int .i64 ver, .bool ind, sA, sV] v sO (ofL As v) w0 (txt ++ (specVars As args W (ds.take k)).1) (specVars As args W (ds.take k)).2 (n + 1000000 * k) out sW w6 :=
      ⟨hT6.tx, hT6.size, hT6.own, hT6.ms, hy, hO.base hT5.le, fun g h1 h2 => by
        have h3 := (hT5.own.block_lt g h1).2
        have h4 := (hO.block_lt g h2).1
        omega, hT6.below, hT6.le⟩
    show Code.wp _ _ _ _ _
    refine alts_txt (ofL As v) (fun y hy => hAok y (List.mem_filter.1 hy).1) (by omega) (by omega) (by omega) hTi (hE.pick rfl) ?_
    intro a w7 out sW hE hT7
    have hy := hT7.sv
    have hb7 := hT7.below
    have hos := hT7.size
    generalize htx7 : txt ++ (specVars As args W (ds.take k)).1 ++ (specAlt (specVars As args W (ds.take k)).2 (ofL As v)).1 = tx7 at hT7
    have hle7 := hT7.le
    show Code.wp _ _ _ _ _
    refine wp_seq ?_
    refine wp_seq ?_
    refine wp_region_lit ?_
    refine ev_mv hE (hE.get 2 rfl) (by decide) ?_
    intro a hE
    refine ev_mv hE (hE.get 9 rfl) (by decide) ?_
    intro a hE
    refine ev_cell (f := Value.bool) ld_bool Tryd.sizeOf4 Tryd.underlying28 hE (hF.below hb7) hdf (hE.get 70 rfl) (hE.get 71 rfl) (by decide) (by decide) ?_ rfl (by decide)
    intro a hE
    refine wpList_nil ?_
    -- what a round owes
    have fin : ∀ a w' out', Ev 107 ((7, .string out') :: (30, .int .i64 k) :: (29, .int .i64 ds.length) :: (1, .string args) :: (2, sF) :: (3, pt b3 0) :: (8, sW) :: (28, sV) :: []) a → Below w7.heap.size w7 w' → out'.data.toList = tx7 ++ varLine v fr args → out'.size ≤ n + 1000000 * (k + 1) → Q' .normal a w' := by
      intro a w' out' hE hb htx hsz
      refine hQ' _ a w' ?_ (hE.pick ?_) ⟨out', sW, rfl, ?_⟩
      · rfl
      · rfl
      · rw [hst]
        refine ⟨?_, hsz, hT7.own.below hb, hp_below hT7.ms hb, hT7.below.trans (hb.mono hT7.le), Nat.le_trans hT7.le hb.size⟩
        rw [htx, ← htx7]
        simp only [List.append_assoc]
    show Code.wp _ _ _ _ _
    refine wp_cond_split (hE.get 73 rfl) (fun hfr => ?_) (fun hfr => ?_)
    · have hvl : varLine v fr args = v.frames.data.toList := by unfold varLine; rw [if_pos hfr]
      have hfs := Vt.f4_size hvok
      have hus := hvok.uri
      have hfrs : v.frames.size ≤ 1000 := by
        unfold Vt.frames
        simp only [ByteArray.size_append', ByteArray.size_mk', List.size_toArray, List.length_cons, List.length_nil]
        omega
      refine wp_seq ?_
      refine wp_region_lit ?_
      refine ev_mv hE (hE.get 7 rfl) (by decide) ?_
      intro a hE
      refine ev_lb hE ag_sv (hE.get 10 rfl) hy rfl (by decide) ?_
      intro a hE
      refine ev_call (S := fun s w' => s = .string v.frames ∧ Below w7.heap.size w7 w') hE rfl rfl (by decide) (f := 22) (args := #[.agg v.cells]) ?_ ((frames_any v hvok w7).mono ?_) ?_
      · simp only [execOp, resolve, List.map_toArray, List.map_cons, List.map_nil, hE.get 75 rfl]
        go_simp
      · rintro e w' ⟨rfl, h1⟩
        exact ⟨_, rfl, rfl, h1⟩
      rintro a _ w8 ⟨rfl, hb8⟩ hE
      refine ev_run hE rfl rfl (by decide) (ex_add (hE.get 74 rfl) (hE.get 76 rfl) (by omega)) ?_
      intro a hE
      refine ev_as hE (hE.get 77 rfl) (by decide) ?_
      intro a hE
      refine wpList_nil ?_
      show Code.wp _ _ _ _ _
      refine wp_exit ?_
      show Q' .normal a w8
      refine fin a w8 (out ++ v.frames) (hE.pick rfl) hb8 ?_ ?_
      · rw [ByteArray.data_append, Array.toList_append, hT7.tx, hvl]
      · rw [ByteArray.size_append']; omega
    · refine wp_skip ?_
      show Code.wp _ _ _ _ _
      refine wp_seq ?_
      refine txt_rgn hvok (by omega) hE.size (hE.get 7 rfl) (hE.get 10 rfl) hy ?_
      intro a1 w8 hs1 hd1 hlow h7 hb8
      have hE := (hE.pick (l' := ((10, pt gv 0) :: (30, .int .i64 k) :: (29, .int .i64 ds.length) :: (1, .string args) :: (2, sF) :: (3, pt b3 0) :: (8, sW) :: (28, sV) :: [])) rfl).from hs1 hd1 hlow h7 rfl
      have hy := hp_below hy hb8
      have hj := Vt.joined_size hvok
      have hus := hvok.uri
      generalize hout8 : out ++ (⟨#[35, 69, 88, 84, 45, 88, 45, 83, 84, 82, 69, 65, 77, 45, 73, 78, 70, 58]⟩ ++ (⟨(joinL v.attrs).toArray⟩ : ByteArray) ++ ⟨#[10]⟩ ++ v.uri) = out8 at hE
      have hs8 : out8.size ≤ n + 1000000 * k + 20000 * (ofL As v).length + 30000 := by
        rw [← hout8]
        simp only [ByteArray.size_append', ByteArray.size_mk', List.size_toArray, List.length_cons, List.length_nil]
        omega
      have ht8 : out8.data.toList = tx7 ++ ((⟨#[35, 69, 88, 84, 45, 88, 45, 83, 84, 82, 69, 65, 77, 45, 73, 78, 70, 58]⟩ : ByteArray).data.toList ++ joinL v.attrs ++ [10] ++ v.uri.data.toList) := by
        rw [← hout8]
        simp only [ByteArray.data_append, Array.toList_append, hT7.tx, List.append_assoc]
      have hvl : varLine v fr args = (⟨#[35, 69, 88, 84, 45, 88, 45, 83, 84, 82, 69, 65, 77, 45, 73, 78, 70, 58]⟩ : ByteArray).data.toList ++ joinL v.attrs ++ [10] ++ v.uri.data.toList ++ (if (!ne args) = true then [] else if hasB v.uri.data.toList 63 = true then 38 :: args.data.toList else 63 :: args.data.toList) ++ [10] := by
        unfold varLine; rw [if_neg (by rw [hfr]; decide)]
      -- the line's end
      have cont : ∀ a w' out' tl, Ev 107 ((7, .string out') :: (10, pt gv 0) :: (30, .int .i64 k) :: (29, .int .i64 ds.length) :: (1, .string args) :: (2, sF) :: (3, pt b3 0) :: (8, sW) :: (28, sV) :: []) a → Below w8.heap.size w8 w' → out'.data.toList = out8.data.toList ++ tl → tl = (if (!ne args) = true then [] else if hasB v.uri.data.toList 63 = true then 38 :: args.data.toList else 63 :: args.data.toList) → out'.size ≤ out8.size + 200 → Code.wp Tryd.prog (cB (cB (cB (cB (cB (cA (cA (cB (cB (cA (cA (cB (cA (cB (cB (cB (cB txtBody))))))))))))))))) (Exit.inBlock 1 Q') a w' := by
        intro a w' out' tl hE hb htx htl hsz
        refine wp_region_lit ?_
        refine ev_mv hE (hE.get 7 rfl) (by decide) ?_
        intro a hE
        refine ev_run hE rfl rfl (by decide) (ex_add (hE.get 103 rfl) rfl (by simp only [ByteArray.size_append', ByteArray.size_mk', List.size_toArray, List.length_cons, List.length_nil]; omega)) ?_
        intro a hE
        refine ev_as hE (hE.get 104 rfl) (by decide) ?_
        intro a hE
        refine wpList_nil ?_
        show Q' .normal a w'
        refine fin a w' (out' ++ ⟨#[10]⟩) (hE.pick rfl) (hb8.trans (hb.mono hb8.size)) ?_ ?_
        · rw [ByteArray.data_append, Array.toList_append, htx, ht8, hvl, htl]
          simp only [List.append_assoc]
        · rw [ByteArray.size_append']
          have : (⟨#[10]⟩ : ByteArray).size = 1 := rfl
          omega
      show Code.wp _ _ _ _ _
      refine wp_seq ?_
      refine wp_block ?_
      refine wp_seq ?_
      refine wp_region_lit ?_
      refine ev_mv hE (hE.get 1 rfl) (by decide) ?_
      intro a hE
      refine ev_run hE rfl rfl (by decide) (ex_eq0 (hE.get 93 rfl)) ?_
      intro a hE
      refine ev_as hE (hE.get 94 rfl) (by decide) ?_
      intro a hE
      refine wpList_nil ?_
      show Code.wp _ _ _ _ _
      refine wp_cond_split (hE.get 92 rfl) (fun hne => ?_) (fun hne => ?_)
      · refine wp_skip ?_
        show Code.wp _ _ _ _ _
        exact cont a w8 out8 [] (hE.pick rfl) (Below.refl _ _) (by simp) (by rw [if_pos hne]) (by omega)
      · refine wp_seq ?_
        refine wp_region_lit ?_
        refine ev_run hE rfl rfl (by decide) (ex_fa (hE.get 10 rfl) (fa_sv_0 _)) ?_
        intro a hE
        refine ev_run hE rfl rfl (by decide) (ex_ld (hE.get 96 rfl) ld_string (cell_of_heap (v := .string v.uri) hy rfl)) ?_
        intro a hE
        refine ev_call (S := fun s w' => s = .bool (hasB v.uri.data.toList 63) ∧ Below w8.heap.size w8 w') hE rfl rfl (by decide) (f := 24) (args := #[.string v.uri, .int .u8 (63 : Nat)]) ?_ ((has_any v.uri 63 (by decide) w8 (by omega)).mono ?_) ?_
        · simp only [execOp, resolve, List.map_toArray, List.map_cons, List.map_nil, hE.get 97 rfl]
          go_simp
        · rintro e w' ⟨rfl, h1⟩
          exact ⟨_, rfl, rfl, h1⟩
        rintro a _ w9 ⟨rfl, hb9⟩ hE
        refine ev_as hE (hE.get 98 rfl) (by decide) ?_
        intro a hE
        refine wpList_nil ?_
        show Code.wp _ _ _ _ _
        refine wp_cond_split (hE.get 95 rfl) (fun hq => ?_) (fun hq => ?_)
        · refine wp_region_lit ?_
          refine ev_mv hE (hE.get 7 rfl) (by decide) ?_
          intro a hE
          refine ev_mv hE (hE.get 1 rfl) (by decide) ?_
          intro a hE
          refine ev_run hE rfl rfl (by decide) (ex_add rfl (hE.get 100 rfl) (by simp only [ByteArray.size_append', ByteArray.size_mk', List.size_toArray, List.length_cons, List.length_nil]; omega)) ?_
          intro a hE
          refine ev_run hE rfl rfl (by decide) (ex_add (hE.get 99 rfl) (hE.get 101 rfl) (by simp only [ByteArray.size_append', ByteArray.size_mk', List.size_toArray, List.length_cons, List.length_nil]; omega)) ?_
          intro a hE
          refine ev_as hE (hE.get 102 rfl) (by decide) ?_
          intro a hE
          refine wpList_nil ?_
          show Code.wp _ _ _ _ _
          refine cont a w9 _ (38 :: args.data.toList) (hE.pick rfl) hb9 ?_ (by rw [if_neg (by rw [hne]; decide), if_pos hq]) ?_
          · simp [ByteArray.data_append]
          · simp only [ByteArray.size_append', ByteArray.size_mk', List.size_toArray, List.length_cons, List.length_nil]; omega
        · refine wp_region_lit ?_
          refine ev_mv hE (hE.get 7 rfl) (by decide) ?_
          intro a hE
          refine ev_mv hE (hE.get 1 rfl) (by decide) ?_
          intro a hE
          refine ev_run hE rfl rfl (by decide) (ex_add rfl (hE.get 89 rfl) (by simp only [ByteArray.size_append', ByteArray.size_mk', List.size_toArray, List.length_cons, List.length_nil]; omega)) ?_
          intro a hE
          refine ev_run hE rfl rfl (by decide) (ex_add (hE.get 88 rfl) (hE.get 90 rfl) (by simp only [ByteArray.size_append', ByteArray.size_mk', List.size_toArray, List.length_cons, List.length_nil]; omega)) ?_
          intro a hE
          refine ev_as hE (hE.get 91 rfl) (by decide) ?_
          intro a hE
          refine wpList_nil ?_
          show Code.wp _ _ _ _ _
          refine cont a w9 _ (63 :: args.data.toList) (hE.pick rfl) hb9 ?_ (by rw [if_neg (by rw [hne]; decide), if_neg (by rw [hq]; decide)]) ?_
          · simp [ByteArray.data_append]
          · simp only [ByteArray.size_append', ByteArray.size_mk', List.size_toArray, List.length_cons, List.length_nil]; omega
  · rintro l a wr hE ⟨out, sW, rfl, hT⟩
    rw [List.take_length] at hT
    exact hQ a wr out (hE.pick rfl) hT.tx hT.below
set_option maxRecDepth 100000 in
theorem run_conv_int {n : Nat} (hn : n < 9223372036854775808) (w : World) : (convert 3 36 (.int .i64 n)).run Tryd.prog w = .ok (.int .u64 n) w := by
  have h : IntKind.u64.wrap (n : Int) = n := by rw [IntKind.wrap_u64]; omega
  go_simp
theorem ex_cvi {a : Act} {w : World} {n : Nat} (hn : n < 9223372036854775808) {t : Nat} {ty : TypeId} {ps : String} {af : Array Edge} {dst : Option Nat} {gd : Option (Nat × Bool)} (hx : a.eval (.tmp t) = .int .i64 n) : (execOp a.eval ⟨dst, .convert 3 36 (.tmp t), ty, ps, af, gd⟩).run Tryd.prog w = .ok (.value (.int .u64 n)) w := by
  simp only [execOp, hx]
  exact run_andValue (run_conv_int hn w)
/-- A master playlist's text by its definition. -/
def specText (ver : Nat) (ind : Bool) (args : ByteArray) (As : List At) (ds : List (Vt × Bool)) : List UInt8 := encHead ver ind ++ (specVars As args [] ds).1
set_option maxRecDepth 100000 in
set_option maxHeartbeats 4000000 in
/-- spec.Master.Text. -/
theorem text_any (ver : Nat) (hver : ver < 256) (ind : Bool) (args : ByteArray) (hargs : args.size ≤ 100) (As : List At) (ds : List (Vt × Bool)) (sA sV sF : Value) (w : World) (B0 : Nat) (hAok : ∀ y ∈ As, y.Ok) (hAl : As.length ≤ 10) (hdl : ds.length ≤ 10) (hdok : ∀ d ∈ ds, d.1.Ok)
    (hA : Own At.list 46 7 w B0 sA As) (hV : Own Vt.list 48 13 w B0 sV (ds.map Prod.fst)) (hF : Own (fun b => [Value.bool b]) 4 1 w B0 sF (ds.map Prod.snd)) :
    Calls Tryd.prog 8 #[.agg #[.int .i64 ver, .bool ind, sA, sV], .string args, sF] w fun e w' => ∃ t : ByteArray, e = .returned (.string t) ∧ t.data.toList = specText ver ind args As ds ∧ Below w.heap.size w w' := by
  obtain ⟨AA, capA, hsA, _⟩ := hA.shape
  obtain ⟨AV, capV, hsV, _⟩ := hV.shape
  have hA1 : sA.oneCell' = true := by rw [hsA]; rfl
  have hV1 : sV.oneCell' = true := by rw [hsV]; rfl
  have hdz : (dec ver).size ≤ 3 := dec_size 2 ver (by omega)
  refine calls_of_ev Tryd.func8 rfl (show 3 ≤ 107 from by decide) ?_
  intro a hE
  have hE : Ev 107 ((0, .agg #[.int .i64 ver, .bool ind, sA, sV]) :: (1, .string args) :: (2, sF) :: []) a := hE
  refine wp_seq ?_
  refine wp_region_lit ?_
  refine ev_box hE (hE.get 0 rfl) (bx_ms _ _ _ _ rfl rfl hA1 hV1) (by decide) ?_
  intro a w1 hE hms hb1 _
  refine ev_ac hE (by decide) ?_
  intro a hE
  refine wpList_nil ?_
  have hE : Ev 107 ((1, .string args) :: (2, sF) :: (3, pt w.heap.size 0) :: []) a := hE.pick rfl
  show Code.wp _ _ _ _ _
  refine wp_seq ?_
  refine wp_region_lit ?_
  refine ev_run hE rfl rfl (by decide) (ex_fa (hE.get 3 rfl) (fa_ms_0 _)) ?_
  intro a hE
  refine ev_run hE rfl rfl (by decide) (ex_ld (hE.get 16 rfl) ld_i64 (cell_of_heap (v := .int .i64 ver) hms rfl)) ?_
  intro a hE
  refine ev_run hE rfl rfl (by decide) (ex_cvi (n := ver) (by omega) (hE.get 17 rfl)) ?_
  intro a hE
  refine ev_call (S := fun s w' => s = .string (dec ver) ∧ w' = w1) hE rfl rfl (by decide) (f := 6) (args := #[.int .u64 ver]) ?_ ((decimal_any ver w1 (by omega)).mono ?_) ?_
  · simp only [execOp, resolve, List.map_toArray, List.map_cons, List.map_nil, hE.get 18 rfl]
    go_simp
  · rintro e w' ⟨rfl, rfl⟩
    exact ⟨_, rfl, rfl, rfl⟩
  rintro a _ w1 ⟨rfl, rfl⟩ hE
  refine ev_run hE rfl rfl (by decide) (ex_add rfl (hE.get 19 rfl) (by simp only [ByteArray.size_append', ByteArray.size_mk', List.size_toArray, List.length_cons, List.length_nil]; omega)) ?_
  intro a hE
  refine ev_run hE rfl rfl (by decide) (ex_add (hE.get 20 rfl) rfl (by simp only [ByteArray.size_append', ByteArray.size_mk', List.size_toArray, List.length_cons, List.length_nil]; omega)) ?_
  intro a hE
  refine ev_as hE (hE.get 21 rfl) (by decide) ?_
  intro a hE
  refine wpList_nil ?_
  have hb1' : Below w.heap.size w _ := hb1
  generalize hout0 : (⟨#[35, 69, 88, 84, 77, 51, 85, 10, 35, 69, 88, 84, 45, 88, 45, 86, 69, 82, 83, 73, 79, 78, 58]⟩ : ByteArray) ++ dec ver ++ ⟨#[10]⟩ = out0 at hE
  have hs0 : out0.size ≤ 100 := by rw [← hout0]; simp only [ByteArray.size_append', ByteArray.size_mk', List.size_toArray, List.length_cons, List.length_nil]; omega
  have hE : Ev 107 ((1, .string args) :: (2, sF) :: (3, pt w.heap.size 0) :: (7, .string out0) :: []) a := hE.pick rfl
  show Code.wp _ _ _ _ _
  have cont : ∀ a out, Ev 107 ((1, .string args) :: (2, sF) :: (3, pt w.heap.size 0) :: (7, .string out) :: []) a → out.data.toList = encHead ver ind → out.size ≤ 1000 → Code.wp Tryd.prog (cB (cB (cB txtBody))) (bodyPost Tryd.prog Tryd.f8 fun e w' => ∃ t : ByteArray, e = .returned (.string t) ∧ t.data.toList = specText ver ind args As ds ∧ Below w.heap.size w w') a w1 := by
    intro a out hE htx hsz
    refine wp_seq ?_
    refine wp_region_lit ?_
    refine ev_run (v := .slice (some ⟨w1.heap.size, 0, none⟩) 0 0) (w' := w1.alloc (.cells #[] 46)) hE rfl rfl (by decide) (by simp only [execOp]; go_simp) ?_
    intro a hE
    refine ev_as hE (hE.get 26 rfl) (by decide) ?_
    intro a hE
    refine wpList_nil ?_
    have hown : Own At.list 46 7 (w1.alloc (.cells #[] 46)) w.heap.size (.slice (some ⟨w1.heap.size, 0, none⟩) 0 0) [] := Own.fresh (cs := []) (fun _ => rfl) (heap_alloc_new _ _) hb1.size rfl rfl (by decide)
    have hb3 : Below w1.heap.size w1 (w1.alloc (.cells #[] 46)) := (Below.refl _ _).alloc (Nat.le_refl _) _
    have hms := hp_below hms hb3
    have hb := hb1.trans (hb3.mono hb1.size)
    generalize hs0 : Value.slice (some ⟨w1.heap.size, 0, none⟩) 0 0 = s0 at hE hown
    generalize w1.alloc (.cells #[] 46) = w3 at *
    have hE : Ev 107 ((1, .string args) :: (2, sF) :: (3, pt w.heap.size 0) :: (7, .string out) :: (8, s0) :: []) a := hE.pick rfl
    show Code.wp _ _ _ _ _
    refine wp_seq ?_
    refine wp_seq ?_
    refine wp_region_lit ?_
    refine ev_run hE rfl rfl (by decide) (ex_fa (hE.get 3 rfl) (fa_ms_3 _)) ?_
    intro a hE
    refine ev_run hE rfl rfl (by decide) (ex_ld (hE.get 27 rfl) ld_svars (cell_of_heap (v := sV) hms rfl)) ?_
    intro a hE
    have e28 : a.eval (.tmp 28) = .slice AV (ds.map Prod.fst).length capV := by rw [← hsV]; exact hE.get 28 rfl
    refine ev_run hE rfl rfl (by decide) (ex_len Tryd.underlying25 e28) ?_
    intro a hE
    refine ev_run (v := .int .i64 (0 : Nat)) (w' := w3) hE rfl rfl (by decide) (by simp only [execOp]; rfl) ?_
    intro a hE
    refine wpList_nil ?_
    show Code.wp _ _ _ _ _
    rw [List.length_map] at hE
    refine vars_txt (W := []) (n := 1000) As ds hAok hAl hdl hdok hargs (by simp) (by omega) hA hV hF ⟨htx, hsz, hown, hms, hb, hb.size⟩ (hE.pick rfl) ?_
    intro a w' out' hE htx' hb'
    show Code.wp _ _ _ _ _
    refine wp_seq ?_
    refine wp_region_lit ?_
    refine ev_mv hE (hE.get 7 rfl) (by decide) ?_
    intro a hE
    refine ev_as hE (hE.get 106 rfl) (by decide) ?_
    intro a hE
    refine wpList_nil ?_
    show Code.wp _ _ _ _ _
    refine wp_ret ?_
    exact ret_of_ev hE rfl (hE.get 6 rfl) ⟨out', rfl, htx', hb'⟩
  refine wp_seq ?_
  refine wp_seq ?_
  refine wp_region_lit ?_
  refine ev_run hE rfl rfl (by decide) (ex_fa (hE.get 3 rfl) (fa_ms_1 _)) ?_
  intro a hE
  refine ev_run hE rfl rfl (by decide) (ex_ld (hE.get 22 rfl) ld_bool (cell_of_heap (v := .bool ind) hms rfl)) ?_
  intro a hE
  refine wpList_nil ?_
  show Code.wp _ _ _ _ _
  refine wp_cond_split (hE.get 23 rfl) (fun hi => ?_) (fun hi => ?_)
  · refine wp_region_lit ?_
    refine ev_mv hE (hE.get 7 rfl) (by decide) ?_
    intro a hE
    refine ev_run hE rfl rfl (by decide) (ex_add (hE.get 24 rfl) rfl (by simp only [ByteArray.size_append', ByteArray.size_mk', List.size_toArray, List.length_cons, List.length_nil]; omega)) ?_
    intro a hE
    refine ev_as hE (hE.get 25 rfl) (by decide) ?_
    intro a hE
    refine wpList_nil ?_
    show Code.wp _ _ _ _ _
    refine cont a _ (hE.pick rfl) ?_ ?_
    · rw [← hout0]
      simp only [ByteArray.data_append, Array.toList_append, encHead, hi, if_true]
      rfl
    · simp only [ByteArray.size_append', ByteArray.size_mk', List.size_toArray, List.length_cons, List.length_nil]; omega
  · refine wp_skip ?_
    show Code.wp _ _ _ _ _
    refine cont a _ (hE.pick rfl) ?_ (by omega)
    rw [← hout0]
    simp [ByteArray.data_append, encHead, hi]
end Go.Proofs.YtkddkmiomhadaaaDoor
