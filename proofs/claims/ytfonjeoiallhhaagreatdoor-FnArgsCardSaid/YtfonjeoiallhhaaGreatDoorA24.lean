/- Joined: Rw, Far, Lw. -/
import Derived.Test.YtfonjeoiallhhaaGreatDoorA23
/- A cell of a row of the call's own turned; texts of one sign. -/
namespace Go.Proofs.YtfonjeoiallhhaaGreatDoor
open Go.RowKit
theorem flat_set {α : Type} {f : α → List Value} {k : Nat} (hf : ∀ x, (f x).length = k) (hk : 0 < k) (L : List α) {i j : Nat} {x x' : α} {u : Value} (hx : L[i]? = some x) (hj : j < k) (hu : f x' = (f x).set j u) : flat f (L.set i x') = (flat f L).set (i * k + j) u := by
 have hil : i < L.length := (List.getElem?_eq_some_iff.1 hx).1
 apply List.ext_getElem?
 intro t
 rw [flat_get hf hk, List.getElem?_set, List.getElem?_set, flat_get hf hk]
 by_cases e : i = t / k
 ·subst e
  rw [if_pos rfl, if_pos hil, hx]
  show (f x')[t % k]? = _
  rw [hu, List.getElem?_set]
  have hlt : t / k * k + j < (flat f L).length := by
   rw [flat_length hf]
   calc t / k * k + j < t / k * k + k := by omega
    _ = (t / k + 1) * k := by rw [Nat.add_mul, Nat.one_mul]
    _ ≤ L.length * k := Nat.mul_le_mul_right _ hil
  by_cases e2 : j = t % k
  ·subst e2
   rw [if_pos rfl, if_pos (by rw [hf]; exact hj)]
   rw [if_pos (by rw [Nat.mul_comm]; exact Nat.div_add_mod t k), if_pos hlt]
  ·rw [if_neg e2, if_neg (fun e3 => e2 (by have h1 := Nat.div_add_mod t k; rw [Nat.mul_comm] at h1; omega))]
   rfl
 ·rw [if_neg e, if_neg (fun e3 => e (by rw [← e3, Nat.mul_comm, Nat.mul_add_div hk, Nat.div_eq_of_lt hj, Nat.add_zero]))]
theorem Own.setCell {α : Type} {f : α → List Value} {e : TypeId} {k B g n cap i j : Nat} {w w' : World} {L : List α} {x x' : α} {u : Value} (hf : ∀ x, (f x).length = k) (hk : 0 < k) (h : Own f e k w B (.slice (some ⟨g, 0, none⟩) n cap) L) (hx : L[i]? = some x) (hj : j < k) (hu : f x' = (f x).set j u) {cur : Array Value} (hg : w.heap[g]? = some (.cells cur e (0, 0))) (hg' : w'.heap[g]? = some (.cells (cur.setIfInBounds (i * k + j) u) e (0, 0))) : Own f e k w' B (.slice (some ⟨g, 0, none⟩) n cap) (L.set i x') := by
 have hil : i < L.length := (List.getElem?_eq_some_iff.1 hx).1
 refine ⟨by rw [flat_length hf], ?_⟩
 rcases h.2 with ⟨h1, _⟩ | ⟨g1, cap1, cur1, hv, hb, hh, hn, hm, hs, ht⟩
 ·cases h1
 ·injection hv with h1 h2 h3
  injection h1 with h1
  injection h1 with h1 _ _
  subst h1 h2 h3
  rw [hg] at hh
  injection hh with hh
  injection hh with hh _ _
  subst hh
  refine .inr ⟨g, cap, _, by rw [List.length_set], hb, hg', by rw [List.length_set]; exact hn, hm, by rw [Array.size_setIfInBounds]; exact hs, ?_⟩
  rw [List.length_set, flat_set hf hk L hx hj hu, ← ht, Array.toList_setIfInBounds, List.take_set]
theorem ex_chr1 {a : Act} {w : World} {dst : Option Nat} {ty : TypeId} {ps : String} {af : Array Edge} {gd : Option (Nat × Bool)} {x : Operand} {n : Nat} (hx : a.eval x = .int .i32 (n : Int)) (h1 : n < 128) : (execOp a.eval ⟨dst, .convert 21 9 x, ty, ps, af, gd⟩).run Tryz.prog w = .ok (.value (.string ⟨#[UInt8.ofNat n]⟩)) w := by
 have hr := run_convert_int_string (P := Tryz.prog) w 21 9 .i32 (n : Int) (by simp [Tryz.underlying21]) Tryz.underlying9
 rw [← chr_eq, chr_ascii n h1] at hr
 simp only [execOp, hx]
 exact run_andValue hr
theorem cv_uint8_int32 (n : Nat) (h : n < 256) : Cv 5 21 (.int .u8 (n : Int)) (.int .i32 (n : Int)) := by
 have hw : IntKind.i32.wrap (n : Int) = n := by rw [IntKind.wrap_i32]; omega
 intro w
 go_simp
/-- A slice of bytes that is there. -/
def U8s (w : World) (A : Option Addr) (len : Nat) : Prop := ∀ j, j < len → ∃ (a : Addr) (x : Nat), A = some a ∧ w.cell? (a.add j) = some (.int .u8 x) ∧ x < 256
theorem U8s.below {w w' : World} {A : Option Addr} {len : Nat} (h : U8s w A len) (hb : Below w.heap.size w w') : U8s w' A len := fun j hj => by
 obtain ⟨a, x, ha, hc, hx⟩ := h j hj
 refine ⟨a, x, ha, ?_, hx⟩
 rw [World.cell?_of_block (w := w)]
 ·exact hc
 ·exact hb.block _ (World.block_lt_of_cell? w _ hc)
/-- The segments, of which the first k have their URI lengthened. -/
def upM (a : ByteArray) (z : Sm) : Sm := { z with uri := z.uri ++ ((⟨#[63]⟩ : ByteArray) ++ a) }
def upS (a : ByteArray) (x : Sx) : Sx := (upM a x.1, x.2)
theorem up_list {a : ByteArray} {ys : List Iy} {xs : List Sx} (h : ys.map Iy.s = xs.map (·.1)) : (ys.map fun y => upM a y.s) = (xs.map (upS a)).map (·.1) := by
 have h2 := congrArg (List.map (upM a)) h
 rw [List.map_map, List.map_map] at h2
 rw [List.map_map]
 exact h2
def upK (a : ByteArray) (k : Nat) (xs : List Sx) : List Sx := (xs.take k).map (upS a) ++ xs.drop k
theorem upK_zero (a : ByteArray) (xs : List Sx) : upK a 0 xs = xs := by simp [upK]
theorem upK_all (a : ByteArray) (xs : List Sx) : upK a xs.length xs = xs.map (upS a) := by simp [upK]
theorem upK_get (a : ByteArray) (xs : List Sx) {k : Nat} (h : k < xs.length) : (upK a k xs)[k]? = xs[k]? := by
 unfold upK
 rw [List.getElem?_append_right (by simp; omega)]
 simp only [List.length_map, List.length_take, List.getElem?_drop]
 rw [show k + (k - min k xs.length) = k from by omega]
theorem upK_succ (a : ByteArray) (xs : List Sx) {k : Nat} {x : Sx} (h : xs[k]? = some x) : (upK a k xs).set k (upS a x) = upK a (k + 1) xs := by
 have hk : k < xs.length := (List.getElem?_eq_some_iff.1 h).1
 unfold upK
 have e : xs.drop k = x :: xs.drop (k + 1) := by
  rw [List.drop_eq_getElem_cons hk]
  rw [List.getElem?_eq_getElem hk] at h
  rw [Option.some.inj h]
 rw [e, List.set_append_right _ _ (by simp; omega), List.take_add_one, h]
 simp only [List.length_map, List.length_take]
 rw [show k - min k xs.length = 0 from by omega]
 simp
end Go.Proofs.YtfonjeoiallhhaaGreatDoor
/- laws.FnArgs: the walk. Printed by wip/tools/gen_fa.py. -/
set_option maxRecDepth 100000
set_option maxHeartbeats 8000000
namespace Go.Proofs.YtfonjeoiallhhaaGreatDoor
open Go.RowKit
/-- What WriteMedia writes is what the reference writes. -/
def WmLaw : Prop := ∀ (m : Md) (s : ByteArray) (ys : List Iy), MdOk m → (m.typ = 0 ∨ m.typ = 2) → 1 ≤ s.size → s.size ≤ 12 → ys.length ≤ 12 → (∀ y ∈ ys, SegOk y.s ∧ y.c = none) → (wmText m s ys).length ≤ 140737488355328 ∧ (⟨(wmText m s ys).toArray⟩ : ByteArray) = m.write (ys.map fun y => upM s y.s)
def sgns : ByteArray := ⟨#[97, 98, 99, 120, 121, 122, 48, 49, 56, 57, 61, 38]⟩
theorem sgns_lt : ∀ (i : Nat) (h : i < sgns.size), (sgns[i]'h).toNat < 128 := by decide
theorem ex_iaR {a : Act} {w : World} {dst : Option Nat} {ty : TypeId} {ps : String} {af : Array Edge} {gd : Option (Nat × Bool)} {x : Operand} {T E k s n c i g : Nat} {kk : IntKind} (hu : Tryz.prog.underlying T = some (.slice E)) (hz : ∀ w, (sizeOf E).run Tryz.prog w = .ok k w) (hs : a.eval (.tmp s) = .slice (some ⟨g, 0, none⟩) n c) (hi : a.eval x = .int kk (i : Int)) (hlt : i < n) :
  (execOp a.eval ⟨dst, .indexAddr T (.tmp s) x, ty, ps, af, gd⟩).run Tryz.prog w = .ok (.value (pt g (i * k))) w := by
 have h := ex_ia (dst := dst) (ty := ty) (ps := ps) (af := af) (gd := gd) (w := w) hu hz hs hi hlt
 rw [add_block, Nat.zero_add] at h
 exact h
theorem curR_at {w : World} {B n cap g : Nat} {v : Value} {L : List Sx} {x : Sx} {k : Nat} {cur : Array Value} (h : Own Sx.list 40 9 w B v L) (hv : v = .slice (some ⟨g, 0, none⟩) n cap) (hg : w.heap[g]? = some (.cells cur 40 (0, 0))) (hx : L[k]? = some x) : cur[k * 9 + 1]? = some (.string x.1.uri) := by
 subst hv
 have hkl : k < L.length := (List.getElem?_eq_some_iff.1 hx).1
 rcases h.2 with ⟨h1, _⟩ | ⟨g1, cap1, cur1, hv, hb, hh, hn, hm, hs, ht⟩
 ·cases h1
 ·injection hv with h1 h2 h3
  injection h1 with h1
  injection h1 with h1 _ _
  subst h1
  rw [hg] at hh
  injection hh with hh
  injection hh with hh _ _
  subst hh
  have h4 : (cur.toList.take (L.length * 9))[k * 9 + 1]? = some (.string x.1.uri) := by
   rw [ht, flat_get (f := Sx.list) (k := 9) (fun _ => rfl) (by decide)]
   rw [show (k * 9 + 1) / 9 = k from by omega, show (k * 9 + 1) % 9 = 1 from by omega, hx]
   rfl
  rw [List.getElem?_take_of_lt (by omega)] at h4
  simpa using h4
theorem curR_lt {w : World} {B n cap g : Nat} {v : Value} {L : List Sx} {x : Sx} {k : Nat} {cur : Array Value} (h : Own Sx.list 40 9 w B v L) (hv : v = .slice (some ⟨g, 0, none⟩) n cap) (hg : w.heap[g]? = some (.cells cur 40 (0, 0))) (hx : L[k]? = some x) : k * 9 + 1 < cur.size := (Array.getElem?_eq_some_iff.1 (curR_at h hv hg hx)).1
theorem upS_ok {s : ByteArray} {x : Sx} (h : SegOk x.1) (hs : s.size ≤ 12) : SegLn (upS s x).1 ∧ (upS s x).1.uri.size ≤ 100 := by
 refine ⟨⟨h.ln.title, h.ln.e, h.ln.part, h.ln.key, h.ln.map, h.ln.date⟩, ?_⟩
 have := h.uri.size
 show (x.1.uri ++ ((⟨#[63]⟩ : ByteArray) ++ s)).size ≤ 100
 rw [ByteArray.size_append', ByteArray.size_append']
 show x.1.uri.size + (1 + s.size) ≤ 100
 omega
theorem es_eqlT {a : Act} {w : World} {dst : Option Nat} {ty : TypeId} {ps : String} {af : Array Edge} {gd : Option (Nat × Bool)} {x y : Operand} {T' : TypeId} {s t : ByteArray} (hx : a.eval x = .string s) (hy : a.eval y = .string t) (h : s = t) : (execOp a.eval ⟨dst, .binOp .eql 9 x y T', ty, ps, af, gd⟩).run Tryz.prog w = .ok (.value (.bool true)) w := by
 subst h
 have hr : (binOp .eql 9 (.string s) (.string s)).run Tryz.prog w = .ok (.bool true) w := by
  have : (binOp .eql 9 (.string s) (.string s)).run Tryz.prog w = .ok (.bool (s.toList == s.toList)) w := rfl
  rw [this]; simp
 simp only [execOp, hx, hy]
 simp [eqGuard, hr, Result.andThen]
theorem fnArgs_any (hlaw : WmLaw) (A A2 : Option Addr) (len cap len2 cap2 n : Nat) (hn : n < 4294967296) (hlen : len ≤ cap) (w : World) (hA : U32s w A len) (hA2 : U8s w A2 len2) (hT : ∀ w', Below w.heap.size w w' → PowTab w') (hFF : ∀ x : Nat, x ≤ 400 → ∀ w', Below w.heap.size w w' → Calls Tryz.prog 56 #[.float .f64 (e8 x), .int .u8 102, .int .i64 (-1), .int .i64 64] w' fun e w'' => e = .returned (.string (shorts x)) ∧ Below w'.heap.size w' w'') (hF3 : ∀ x : Nat, x < 160 → ∀ w', Below w.heap.size w w' → Calls Tryz.prog 56 #[.float .f64 (e8 x), .int .u8 102, .int .i64 3, .int .i64 32] w' fun e w'' => e = .returned (.string (secs x)) ∧ Below w'.heap.size w' w'') : Calls Tryz.prog 3 #[.slice A len cap, .int .u32 n, .slice A2 len2 cap2] w fun e w' => e = .returned (.bool true) ∧ Below w.heap.size w w' := by
 by_cases h0 : 2147483647 < len
 ·refine calls_of_ev Tryz.func3 rfl (show 3 ≤ 92 from by decide) ?_
  intro a hE
  have hE : Ev 92 ((0, .slice A len cap) :: (1, .int .u32 ((n : Nat) : Int)) :: (2, .slice A2 len2 cap2) :: []) a := hE
  have hS : Sv 92 ((0, .slice A len cap) :: (1, .int .u32 ((n : Nat) : Int)) :: (2, .slice A2 len2 cap2) :: []) [] (fun _ => False) w a w := Sv.start hE _ _
  clear hE
  refine wp_seq ?_
  refine wp_region_lit ?_
  refine sv_r (v := .bool false) hS ex_ac fun a hS => ?_
  refine wpList_nil ?_
  replace hS := hS.cut [6, 0, 1, 2]
  show Code.wp _ _ _ _ _
  refine wp_seq ?_
  refine wp_seq ?_
  refine wp_region_lit ?_
  refine sv_r (v := .slice A len cap) hS (ex_mv (hS.get 0 rfl)) fun a hS => ?_
  refine sv_r (v := .int .i64 ((len : Nat) : Int)) hS (ex_len Tryz.underlying22 (hS.get 15 rfl)) fun a hS => ?_
  refine sv_r (v := .bool true) hS (ei_gtr (hS.get 16 rfl) rfl (by rw [decide_eq_true_iff]; omega)) fun a hS => ?_
  refine sv_r (v := .bool true) hS (ex_mv (hS.get 17 rfl)) fun a hS => ?_
  refine sv_goff hS rfl rfl (hS.get 18 rfl) rfl rfl (by decide) ?_
  intro a hS
  refine sv_goff hS rfl rfl (hS.get 18 rfl) rfl rfl (by decide) ?_
  intro a hS
  refine sv_goff hS rfl rfl (hS.get 18 rfl) rfl rfl (by decide) ?_
  intro a hS
  refine sv_r (v := .bool true) hS (ex_pickT (hS.get 18 rfl) rfl) fun a hS => ?_
  refine wpList_nil ?_
  replace hS := hS.cut [22, 6, 0, 1, 2]
  show Code.wp _ _ _ _ _
  refine cond_t (hS.get 22 rfl) ?_
  refine wp_seq ?_
  refine wp_region_lit ?_
  refine sv_r (v := .bool true) hS ex_ac fun a hS => ?_
  refine wpList_nil ?_
  replace hS := hS.cut [6, 22, 0, 1, 2]
  show Code.wp _ _ _ _ _
  refine wp_ret ?_
  try simp only [Exit.inBlock, Exit.then]
  exact ret_of_ev hS.ev rfl (hS.get 6 rfl) ⟨rfl, hS.toBelow⟩
 by_cases h1 : 2147483647 < len2
 ·refine calls_of_ev Tryz.func3 rfl (show 3 ≤ 92 from by decide) ?_
  intro a hE
  have hE : Ev 92 ((0, .slice A len cap) :: (1, .int .u32 ((n : Nat) : Int)) :: (2, .slice A2 len2 cap2) :: []) a := hE
  have hS : Sv 92 ((0, .slice A len cap) :: (1, .int .u32 ((n : Nat) : Int)) :: (2, .slice A2 len2 cap2) :: []) [] (fun _ => False) w a w := Sv.start hE _ _
  clear hE
  refine wp_seq ?_
  refine wp_region_lit ?_
  refine sv_r (v := .bool false) hS ex_ac fun a hS => ?_
  refine wpList_nil ?_
  replace hS := hS.cut [6, 0, 1, 2]
  show Code.wp _ _ _ _ _
  refine wp_seq ?_
  refine wp_seq ?_
  refine wp_region_lit ?_
  refine sv_r (v := .slice A len cap) hS (ex_mv (hS.get 0 rfl)) fun a hS => ?_
  refine sv_r (v := .int .i64 ((len : Nat) : Int)) hS (ex_len Tryz.underlying22 (hS.get 15 rfl)) fun a hS => ?_
  refine sv_r (v := .bool false) hS (ei_gtr (hS.get 16 rfl) rfl (by rw [decide_eq_false_iff_not]; omega)) fun a hS => ?_
  refine sv_r (v := .bool false) hS (ex_mv (hS.get 17 rfl)) fun a hS => ?_
  refine sv_g (v := .slice A2 len2 cap2) hS (hS.get 18 rfl) (ex_mv (hS.get 2 rfl)) fun a hS => ?_
  refine sv_g (v := .int .i64 ((len2 : Nat) : Int)) hS (hS.get 18 rfl) (ex_len Tryz.underlying24 (hS.get 19 rfl)) fun a hS => ?_
  refine sv_g (v := .bool true) hS (hS.get 18 rfl) (ei_gtr (hS.get 20 rfl) rfl (by rw [decide_eq_true_iff]; omega)) fun a hS => ?_
  refine sv_r (v := .bool true) hS (ex_pickF (hS.get 18 rfl) (hS.get 21 rfl)) fun a hS => ?_
  refine wpList_nil ?_
  replace hS := hS.cut [22, 6, 0, 1, 2]
  show Code.wp _ _ _ _ _
  refine cond_t (hS.get 22 rfl) ?_
  refine wp_seq ?_
  refine wp_region_lit ?_
  refine sv_r (v := .bool true) hS ex_ac fun a hS => ?_
  refine wpList_nil ?_
  replace hS := hS.cut [6, 22, 0, 1, 2]
  show Code.wp _ _ _ _ _
  refine wp_ret ?_
  try simp only [Exit.inBlock, Exit.then]
  exact ret_of_ev hS.ev rfl (hS.get 6 rfl) ⟨rfl, hS.toBelow⟩
 by_cases h2 : 100 < len
 ·refine calls_of_ev Tryz.func3 rfl (show 3 ≤ 92 from by decide) ?_
  intro a hE
  have hE : Ev 92 ((0, .slice A len cap) :: (1, .int .u32 ((n : Nat) : Int)) :: (2, .slice A2 len2 cap2) :: []) a := hE
  have hS : Sv 92 ((0, .slice A len cap) :: (1, .int .u32 ((n : Nat) : Int)) :: (2, .slice A2 len2 cap2) :: []) [] (fun _ => False) w a w := Sv.start hE _ _
  clear hE
  refine wp_seq ?_
  refine wp_region_lit ?_
  refine sv_r (v := .bool false) hS ex_ac fun a hS => ?_
  refine wpList_nil ?_
  replace hS := hS.cut [6, 0, 1, 2]
  show Code.wp _ _ _ _ _
  refine wp_seq ?_
  refine wp_seq ?_
  refine wp_region_lit ?_
  refine sv_r (v := .slice A len cap) hS (ex_mv (hS.get 0 rfl)) fun a hS => ?_
  refine sv_r (v := .int .i64 ((len : Nat) : Int)) hS (ex_len Tryz.underlying22 (hS.get 15 rfl)) fun a hS => ?_
  refine sv_r (v := .bool false) hS (ei_gtr (hS.get 16 rfl) rfl (by rw [decide_eq_false_iff_not]; omega)) fun a hS => ?_
  refine sv_r (v := .bool false) hS (ex_mv (hS.get 17 rfl)) fun a hS => ?_
  refine sv_g (v := .slice A2 len2 cap2) hS (hS.get 18 rfl) (ex_mv (hS.get 2 rfl)) fun a hS => ?_
  refine sv_g (v := .int .i64 ((len2 : Nat) : Int)) hS (hS.get 18 rfl) (ex_len Tryz.underlying24 (hS.get 19 rfl)) fun a hS => ?_
  refine sv_g (v := .bool false) hS (hS.get 18 rfl) (ei_gtr (hS.get 20 rfl) rfl (by rw [decide_eq_false_iff_not]; omega)) fun a hS => ?_
  refine sv_r (v := .bool false) hS (ex_pickF (hS.get 18 rfl) (hS.get 21 rfl)) fun a hS => ?_
  refine wpList_nil ?_
  replace hS := hS.cut [22, 6, 0, 1, 2]
  show Code.wp _ _ _ _ _
  refine cond_f (hS.get 22 rfl) ?_
  refine wp_skip ?_
  show Code.wp _ _ _ _ _
  refine wp_seq ?_
  refine wp_seq ?_
  refine wp_region_lit ?_
  refine sv_r (v := .slice A len cap) hS (ex_mv (hS.get 0 rfl)) fun a hS => ?_
  refine sv_r (v := .int .i64 ((len : Nat) : Int)) hS (ex_len Tryz.underlying22 (hS.get 23 rfl)) fun a hS => ?_
  refine sv_r (v := .bool true) hS (ei_gtr (hS.get 24 rfl) rfl (by rw [decide_eq_true_iff]; omega)) fun a hS => ?_
  refine sv_r (v := .bool true) hS (ex_mv (hS.get 25 rfl)) fun a hS => ?_
  refine sv_goff hS rfl rfl (hS.get 26 rfl) rfl rfl (by decide) ?_
  intro a hS
  refine sv_goff hS rfl rfl (hS.get 26 rfl) rfl rfl (by decide) ?_
  intro a hS
  refine sv_goff hS rfl rfl (hS.get 26 rfl) rfl rfl (by decide) ?_
  intro a hS
  refine sv_r (v := .bool true) hS (ex_pickT (hS.get 26 rfl) rfl) fun a hS => ?_
  refine sv_r (v := .bool true) hS (ex_mv (hS.get 30 rfl)) fun a hS => ?_
  refine sv_goff hS rfl rfl (hS.get 31 rfl) rfl rfl (by decide) ?_
  intro a hS
  refine sv_goff hS rfl rfl (hS.get 31 rfl) rfl rfl (by decide) ?_
  intro a hS
  refine sv_goff hS rfl rfl (hS.get 31 rfl) rfl rfl (by decide) ?_
  intro a hS
  refine sv_r (v := .bool true) hS (ex_pickT (hS.get 31 rfl) rfl) fun a hS => ?_
  refine wpList_nil ?_
  replace hS := hS.cut [35, 22, 6, 0, 1, 2]
  show Code.wp _ _ _ _ _
  refine cond_t (hS.get 35 rfl) ?_
  refine wp_seq ?_
  refine wp_region_lit ?_
  refine sv_r (v := .bool true) hS ex_ac fun a hS => ?_
  refine wpList_nil ?_
  replace hS := hS.cut [6, 35, 22, 0, 1, 2]
  show Code.wp _ _ _ _ _
  refine wp_ret ?_
  try simp only [Exit.inBlock, Exit.then]
  exact ret_of_ev hS.ev rfl (hS.get 6 rfl) ⟨rfl, hS.toBelow⟩
 by_cases h3 : len2 = 0
 ·refine calls_of_ev Tryz.func3 rfl (show 3 ≤ 92 from by decide) ?_
  intro a hE
  have hE : Ev 92 ((0, .slice A len cap) :: (1, .int .u32 ((n : Nat) : Int)) :: (2, .slice A2 len2 cap2) :: []) a := hE
  have hS : Sv 92 ((0, .slice A len cap) :: (1, .int .u32 ((n : Nat) : Int)) :: (2, .slice A2 len2 cap2) :: []) [] (fun _ => False) w a w := Sv.start hE _ _
  clear hE
  refine wp_seq ?_
  refine wp_region_lit ?_
  refine sv_r (v := .bool false) hS ex_ac fun a hS => ?_
  refine wpList_nil ?_
  replace hS := hS.cut [6, 0, 1, 2]
  show Code.wp _ _ _ _ _
  refine wp_seq ?_
  refine wp_seq ?_
  refine wp_region_lit ?_
  refine sv_r (v := .slice A len cap) hS (ex_mv (hS.get 0 rfl)) fun a hS => ?_
  refine sv_r (v := .int .i64 ((len : Nat) : Int)) hS (ex_len Tryz.underlying22 (hS.get 15 rfl)) fun a hS => ?_
  refine sv_r (v := .bool false) hS (ei_gtr (hS.get 16 rfl) rfl (by rw [decide_eq_false_iff_not]; omega)) fun a hS => ?_
  refine sv_r (v := .bool false) hS (ex_mv (hS.get 17 rfl)) fun a hS => ?_
  refine sv_g (v := .slice A2 len2 cap2) hS (hS.get 18 rfl) (ex_mv (hS.get 2 rfl)) fun a hS => ?_
  refine sv_g (v := .int .i64 ((len2 : Nat) : Int)) hS (hS.get 18 rfl) (ex_len Tryz.underlying24 (hS.get 19 rfl)) fun a hS => ?_
  refine sv_g (v := .bool false) hS (hS.get 18 rfl) (ei_gtr (hS.get 20 rfl) rfl (by rw [decide_eq_false_iff_not]; omega)) fun a hS => ?_
  refine sv_r (v := .bool false) hS (ex_pickF (hS.get 18 rfl) (hS.get 21 rfl)) fun a hS => ?_
  refine wpList_nil ?_
  replace hS := hS.cut [22, 6, 0, 1, 2]
  show Code.wp _ _ _ _ _
  refine cond_f (hS.get 22 rfl) ?_
  refine wp_skip ?_
  show Code.wp _ _ _ _ _
  refine wp_seq ?_
  refine wp_seq ?_
  refine wp_region_lit ?_
  refine sv_r (v := .slice A len cap) hS (ex_mv (hS.get 0 rfl)) fun a hS => ?_
  refine sv_r (v := .int .i64 ((len : Nat) : Int)) hS (ex_len Tryz.underlying22 (hS.get 23 rfl)) fun a hS => ?_
  refine sv_r (v := .bool false) hS (ei_gtr (hS.get 24 rfl) rfl (by rw [decide_eq_false_iff_not]; omega)) fun a hS => ?_
  refine sv_r (v := .bool false) hS (ex_mv (hS.get 25 rfl)) fun a hS => ?_
  refine sv_g (v := .slice A2 len2 cap2) hS (hS.get 26 rfl) (ex_mv (hS.get 2 rfl)) fun a hS => ?_
  refine sv_g (v := .int .i64 ((len2 : Nat) : Int)) hS (hS.get 26 rfl) (ex_len Tryz.underlying24 (hS.get 27 rfl)) fun a hS => ?_
  refine sv_g (v := .bool true) hS (hS.get 26 rfl) (ei_eql (hS.get 28 rfl) rfl (by rw [decide_eq_true_iff]; omega)) fun a hS => ?_
  refine sv_r (v := .bool true) hS (ex_pickF (hS.get 26 rfl) (hS.get 29 rfl)) fun a hS => ?_
  refine sv_r (v := .bool true) hS (ex_mv (hS.get 30 rfl)) fun a hS => ?_
  refine sv_goff hS rfl rfl (hS.get 31 rfl) rfl rfl (by decide) ?_
  intro a hS
  refine sv_goff hS rfl rfl (hS.get 31 rfl) rfl rfl (by decide) ?_
  intro a hS
  refine sv_goff hS rfl rfl (hS.get 31 rfl) rfl rfl (by decide) ?_
  intro a hS
  refine sv_r (v := .bool true) hS (ex_pickT (hS.get 31 rfl) rfl) fun a hS => ?_
  refine wpList_nil ?_
  replace hS := hS.cut [35, 22, 6, 0, 1, 2]
  show Code.wp _ _ _ _ _
  refine cond_t (hS.get 35 rfl) ?_
  refine wp_seq ?_
  refine wp_region_lit ?_
  refine sv_r (v := .bool true) hS ex_ac fun a hS => ?_
  refine wpList_nil ?_
  replace hS := hS.cut [6, 35, 22, 0, 1, 2]
  show Code.wp _ _ _ _ _
  refine wp_ret ?_
  try simp only [Exit.inBlock, Exit.then]
  exact ret_of_ev hS.ev rfl (hS.get 6 rfl) ⟨rfl, hS.toBelow⟩
 by_cases h4 : 12 < len2
 ·refine calls_of_ev Tryz.func3 rfl (show 3 ≤ 92 from by decide) ?_
  intro a hE
  have hE : Ev 92 ((0, .slice A len cap) :: (1, .int .u32 ((n : Nat) : Int)) :: (2, .slice A2 len2 cap2) :: []) a := hE
  have hS : Sv 92 ((0, .slice A len cap) :: (1, .int .u32 ((n : Nat) : Int)) :: (2, .slice A2 len2 cap2) :: []) [] (fun _ => False) w a w := Sv.start hE _ _
  clear hE
  refine wp_seq ?_
  refine wp_region_lit ?_
  refine sv_r (v := .bool false) hS ex_ac fun a hS => ?_
  refine wpList_nil ?_
  replace hS := hS.cut [6, 0, 1, 2]
  show Code.wp _ _ _ _ _
  refine wp_seq ?_
  refine wp_seq ?_
  refine wp_region_lit ?_
  refine sv_r (v := .slice A len cap) hS (ex_mv (hS.get 0 rfl)) fun a hS => ?_
  refine sv_r (v := .int .i64 ((len : Nat) : Int)) hS (ex_len Tryz.underlying22 (hS.get 15 rfl)) fun a hS => ?_
  refine sv_r (v := .bool false) hS (ei_gtr (hS.get 16 rfl) rfl (by rw [decide_eq_false_iff_not]; omega)) fun a hS => ?_
  refine sv_r (v := .bool false) hS (ex_mv (hS.get 17 rfl)) fun a hS => ?_
  refine sv_g (v := .slice A2 len2 cap2) hS (hS.get 18 rfl) (ex_mv (hS.get 2 rfl)) fun a hS => ?_
  refine sv_g (v := .int .i64 ((len2 : Nat) : Int)) hS (hS.get 18 rfl) (ex_len Tryz.underlying24 (hS.get 19 rfl)) fun a hS => ?_
  refine sv_g (v := .bool false) hS (hS.get 18 rfl) (ei_gtr (hS.get 20 rfl) rfl (by rw [decide_eq_false_iff_not]; omega)) fun a hS => ?_
  refine sv_r (v := .bool false) hS (ex_pickF (hS.get 18 rfl) (hS.get 21 rfl)) fun a hS => ?_
  refine wpList_nil ?_
  replace hS := hS.cut [22, 6, 0, 1, 2]
  show Code.wp _ _ _ _ _
  refine cond_f (hS.get 22 rfl) ?_
  refine wp_skip ?_
  show Code.wp _ _ _ _ _
  refine wp_seq ?_
  refine wp_seq ?_
  refine wp_region_lit ?_
  refine sv_r (v := .slice A len cap) hS (ex_mv (hS.get 0 rfl)) fun a hS => ?_
  refine sv_r (v := .int .i64 ((len : Nat) : Int)) hS (ex_len Tryz.underlying22 (hS.get 23 rfl)) fun a hS => ?_
  refine sv_r (v := .bool false) hS (ei_gtr (hS.get 24 rfl) rfl (by rw [decide_eq_false_iff_not]; omega)) fun a hS => ?_
  refine sv_r (v := .bool false) hS (ex_mv (hS.get 25 rfl)) fun a hS => ?_
  refine sv_g (v := .slice A2 len2 cap2) hS (hS.get 26 rfl) (ex_mv (hS.get 2 rfl)) fun a hS => ?_
  refine sv_g (v := .int .i64 ((len2 : Nat) : Int)) hS (hS.get 26 rfl) (ex_len Tryz.underlying24 (hS.get 27 rfl)) fun a hS => ?_
  refine sv_g (v := .bool false) hS (hS.get 26 rfl) (ei_eql (hS.get 28 rfl) rfl (by rw [decide_eq_false_iff_not]; omega)) fun a hS => ?_
  refine sv_r (v := .bool false) hS (ex_pickF (hS.get 26 rfl) (hS.get 29 rfl)) fun a hS => ?_
  refine sv_r (v := .bool false) hS (ex_mv (hS.get 30 rfl)) fun a hS => ?_
  refine sv_g (v := .slice A2 len2 cap2) hS (hS.get 31 rfl) (ex_mv (hS.get 2 rfl)) fun a hS => ?_
  refine sv_g (v := .int .i64 ((len2 : Nat) : Int)) hS (hS.get 31 rfl) (ex_len Tryz.underlying24 (hS.get 32 rfl)) fun a hS => ?_
  refine sv_g (v := .bool true) hS (hS.get 31 rfl) (ei_gtr (hS.get 33 rfl) rfl (by rw [decide_eq_true_iff]; omega)) fun a hS => ?_
  refine sv_r (v := .bool true) hS (ex_pickF (hS.get 31 rfl) (hS.get 34 rfl)) fun a hS => ?_
  refine wpList_nil ?_
  replace hS := hS.cut [35, 22, 6, 0, 1, 2]
  show Code.wp _ _ _ _ _
  refine cond_t (hS.get 35 rfl) ?_
  refine wp_seq ?_
  refine wp_region_lit ?_
  refine sv_r (v := .bool true) hS ex_ac fun a hS => ?_
  refine wpList_nil ?_
  replace hS := hS.cut [6, 35, 22, 0, 1, 2]
  show Code.wp _ _ _ _ _
  refine wp_ret ?_
  try simp only [Exit.inBlock, Exit.then]
  exact ret_of_ev hS.ev rfl (hS.get 6 rfl) ⟨rfl, hS.toBelow⟩
 refine calls_of_ev Tryz.func3 rfl (show 3 ≤ 92 from by decide) ?_
 intro a hE
 have hE : Ev 92 ((0, .slice A len cap) :: (1, .int .u32 ((n : Nat) : Int)) :: (2, .slice A2 len2 cap2) :: []) a := hE
 have hS : Sv 92 ((0, .slice A len cap) :: (1, .int .u32 ((n : Nat) : Int)) :: (2, .slice A2 len2 cap2) :: []) [] (fun _ => False) w a w := Sv.start hE _ _
 clear hE
 refine wp_seq ?_
 refine wp_region_lit ?_
 refine sv_r (v := .bool false) hS ex_ac fun a hS => ?_
 refine wpList_nil ?_
 replace hS := hS.cut [6, 0, 1, 2]
 show Code.wp _ _ _ _ _
 refine wp_seq ?_
 refine wp_seq ?_
 refine wp_region_lit ?_
 refine sv_r (v := .slice A len cap) hS (ex_mv (hS.get 0 rfl)) fun a hS => ?_
 refine sv_r (v := .int .i64 ((len : Nat) : Int)) hS (ex_len Tryz.underlying22 (hS.get 15 rfl)) fun a hS => ?_
 refine sv_r (v := .bool false) hS (ei_gtr (hS.get 16 rfl) rfl (by rw [decide_eq_false_iff_not]; omega)) fun a hS => ?_
 refine sv_r (v := .bool false) hS (ex_mv (hS.get 17 rfl)) fun a hS => ?_
 refine sv_g (v := .slice A2 len2 cap2) hS (hS.get 18 rfl) (ex_mv (hS.get 2 rfl)) fun a hS => ?_
 refine sv_g (v := .int .i64 ((len2 : Nat) : Int)) hS (hS.get 18 rfl) (ex_len Tryz.underlying24 (hS.get 19 rfl)) fun a hS => ?_
 refine sv_g (v := .bool false) hS (hS.get 18 rfl) (ei_gtr (hS.get 20 rfl) rfl (by rw [decide_eq_false_iff_not]; omega)) fun a hS => ?_
 refine sv_r (v := .bool false) hS (ex_pickF (hS.get 18 rfl) (hS.get 21 rfl)) fun a hS => ?_
 refine wpList_nil ?_
 replace hS := hS.cut [22, 6, 0, 1, 2]
 show Code.wp _ _ _ _ _
 refine cond_f (hS.get 22 rfl) ?_
 refine wp_skip ?_
 show Code.wp _ _ _ _ _
 refine wp_seq ?_
 refine wp_seq ?_
 refine wp_region_lit ?_
 refine sv_r (v := .slice A len cap) hS (ex_mv (hS.get 0 rfl)) fun a hS => ?_
 refine sv_r (v := .int .i64 ((len : Nat) : Int)) hS (ex_len Tryz.underlying22 (hS.get 23 rfl)) fun a hS => ?_
 refine sv_r (v := .bool false) hS (ei_gtr (hS.get 24 rfl) rfl (by rw [decide_eq_false_iff_not]; omega)) fun a hS => ?_
 refine sv_r (v := .bool false) hS (ex_mv (hS.get 25 rfl)) fun a hS => ?_
 refine sv_g (v := .slice A2 len2 cap2) hS (hS.get 26 rfl) (ex_mv (hS.get 2 rfl)) fun a hS => ?_
 refine sv_g (v := .int .i64 ((len2 : Nat) : Int)) hS (hS.get 26 rfl) (ex_len Tryz.underlying24 (hS.get 27 rfl)) fun a hS => ?_
 refine sv_g (v := .bool false) hS (hS.get 26 rfl) (ei_eql (hS.get 28 rfl) rfl (by rw [decide_eq_false_iff_not]; omega)) fun a hS => ?_
 refine sv_r (v := .bool false) hS (ex_pickF (hS.get 26 rfl) (hS.get 29 rfl)) fun a hS => ?_
 refine sv_r (v := .bool false) hS (ex_mv (hS.get 30 rfl)) fun a hS => ?_
 refine sv_g (v := .slice A2 len2 cap2) hS (hS.get 31 rfl) (ex_mv (hS.get 2 rfl)) fun a hS => ?_
 refine sv_g (v := .int .i64 ((len2 : Nat) : Int)) hS (hS.get 31 rfl) (ex_len Tryz.underlying24 (hS.get 32 rfl)) fun a hS => ?_
 refine sv_g (v := .bool false) hS (hS.get 31 rfl) (ei_gtr (hS.get 33 rfl) rfl (by rw [decide_eq_false_iff_not]; omega)) fun a hS => ?_
 refine sv_r (v := .bool false) hS (ex_pickF (hS.get 31 rfl) (hS.get 34 rfl)) fun a hS => ?_
 refine wpList_nil ?_
 replace hS := hS.cut [35, 22, 6, 0, 1, 2]
 show Code.wp _ _ _ _ _
 refine cond_f (hS.get 35 rfl) ?_
 refine wp_skip ?_
 show Code.wp _ _ _ _ _
 refine wp_seq ?_
 refine wp_region_lit ?_
 refine sv_r (v := .string (⟨#[]⟩)) hS ex_ac fun a hS => ?_
 refine wpList_nil ?_
 replace hS := hS.cut [7, 35, 22, 6, 0, 1, 2]
 show Code.wp _ _ _ _ _
 refine wp_seq ?_
 refine wp_seq ?_
 refine wp_region_lit ?_
 refine sv_r (v := .slice A2 len2 cap2) hS (ex_mv (hS.get 2 rfl)) fun a hS => ?_
 refine sv_r (v := .int .i64 ((len2 : Nat) : Int)) hS (ex_len Tryz.underlying24 (hS.get 36 rfl)) fun a hS => ?_
 refine sv_r (v := .int .i64 0) hS ex_mc fun a hS => ?_
 refine wpList_nil ?_
 replace hS := hS.cut [38, 37, 36, 7, 35, 22, 6, 0, 1, 2]
 show Code.wp _ _ _ _ _
 have hE : Ev 92 ((38, .int .i64 ((0 : Nat) : Int)) :: (37, .int .i64 ((len2 : Nat) : Int)) :: ((7, .string (⟨#[]⟩)) :: (36, .slice A2 len2 cap2) :: (0, .slice A len cap) :: (1, .int .u32 ((n : Nat) : Int)) :: [])) a := hS.ev.pick rfl
 refine range_wp2 (N := 92) (n := len2) [7, 36, 0, 1] (l0 := ((7, .string (⟨#[]⟩)) :: (36, .slice A2 len2 cap2) :: (0, .slice A len cap) :: (1, .int .u32 ((n : Nat) : Int)) :: [])) (fun k l w' => ∃ s : ByteArray, l = ((7, .string s) :: (36, .slice A2 len2 cap2) :: (0, .slice A len cap) :: (1, .int .u32 ((n : Nat) : Int)) :: []) ∧ s.size = k ∧ Below w.heap.size w w') (by omega) hE rfl ⟨⟨#[]⟩, rfl, rfl, Below.refl _ _⟩ (by decide) (by decide) (by decide) ?_ ?_
 ·clear hE hS
  rintro k l a w1 hk hE ⟨s, rfl, hssz, hbw⟩ Q' hQ'
  have hAw : U8s w1 A2 len2 := hA2.below hbw
  obtain ⟨p, b, hp, hcb, hbl⟩ := hAw k hk
  have hlt : b % 12 < sgns.size := by show b % 12 < 12; omega
  obtain ⟨c, hc⟩ : ∃ c : Nat, c = (sgns[b % 12]'hlt).toNat := ⟨_, rfl⟩
  have hc1 : c < 128 := by rw [hc]; exact sgns_lt _ hlt
  have hS : Sv 92 ((38, .int .i64 ((k : Nat) : Int)) :: (37, .int .i64 ((len2 : Nat) : Int)) :: (7, .string s) :: (36, .slice A2 len2 cap2) :: (0, .slice A len cap) :: (1, .int .u32 ((n : Nat) : Int)) :: []) [] (fun _ => False) w1 a w1 := Sv.start hE _ _
  refine wp_block ?_
  refine wp_seq ?_
  refine wp_region_lit ?_
  refine sv_r (v := .pointer (some (p.add (k * 1)))) hS (ex_ia Tryz.underlying24 Tryz.sizeOf5 (by rw [← hp]; exact hS.get 36 rfl) (hS.get 38 rfl) hk) fun a hS => ?_
  refine sv_r (v := .int .u8 ((b : Nat) : Int)) hS (ex_ld (hS.get 40 rfl) lt_uint8 (by rw [Nat.mul_one]; exact hcb)) fun a hS => ?_
  refine sv_r (v := .int .u8 ((b : Nat) : Int)) hS (ex_as (hS.get 41 rfl)) fun a hS => ?_
  refine wpList_nil ?_
  replace hS := hS.cut [9, 38, 37, 7, 36, 0, 1]
  show Code.wp _ _ _ _ _
  refine wp_region_lit ?_
  refine sv_r (v := .string s) hS (ex_mv (hS.get 7 rfl)) fun a hS => ?_
  refine sv_r (v := .int .u8 ((b : Nat) : Int)) hS (ex_mv (hS.get 9 rfl)) fun a hS => ?_
  refine sv_r (v := .int .u8 ((b % 12 : Nat) : Int)) hS (ni_rem 12 (hS.get 43 rfl) rfl (by decide)) fun a hS => ?_
  refine sv_r (v := .int .u8 ((c : Nat) : Int)) hS (by rw [hc]; exact ex_sidx (s := sgns) (i := b % 12) rfl (hS.get 44 rfl) hlt) fun a hS => ?_
  refine sv_r (v := .int .i32 ((c : Nat) : Int)) hS (ex_cv (hS.get 45 rfl) (cv_uint8_int32 c (by omega))) fun a hS => ?_
  refine sv_r (v := .string ⟨#[UInt8.ofNat c]⟩) hS (ex_chr1 (hS.get 46 rfl) hc1) fun a hS => ?_
  refine sv_r (v := .string (s ++ (⟨#[UInt8.ofNat c]⟩ : ByteArray))) hS (ex_add (hS.get 42 rfl) (hS.get 47 rfl) (by rw [hssz]; show k + 1 ≤ _; omega)) fun a hS => ?_
  refine sv_r (v := .string (s ++ (⟨#[UInt8.ofNat c]⟩ : ByteArray))) hS (ex_as (hS.get 48 rfl)) fun a hS => ?_
  refine wpList_nil ?_
  replace hS := hS.cut [7, 38, 37, 36, 0, 1]
  show Q' .normal a w1
  exact hQ' _ a w1 rfl (hS.ev.pick (l' := (38, .int .i64 ((k : Nat) : Int)) :: (37, .int .i64 ((len2 : Nat) : Int)) :: ((7, .string (s ++ (⟨#[UInt8.ofNat c]⟩ : ByteArray))) :: (36, .slice A2 len2 cap2) :: (0, .slice A len cap) :: (1, .int .u32 ((n : Nat) : Int)) :: [])) rfl) ⟨s ++ (⟨#[UInt8.ofNat c]⟩ : ByteArray), rfl, by rw [ByteArray.size_append', hssz]; rfl, hbw⟩
 ·clear hE hS
  rintro l a w2 hE ⟨s, rfl, hssz, hbw⟩
  have hS : Sv 92 ((38, .int .i64 ((len2 : Nat) : Int)) :: (37, .int .i64 ((len2 : Nat) : Int)) :: (7, .string s) :: (36, .slice A2 len2 cap2) :: (0, .slice A len cap) :: (1, .int .u32 ((n : Nat) : Int)) :: []) [] (fun _ => False) w2 a w2 := Sv.start hE _ _
  show Code.wp _ _ _ _ _
  refine wp_seq ?_
  refine wp_region_lit ?_
  refine sv_r (v := .slice A len cap) hS (ex_mv (hS.get 0 rfl)) fun a hS => ?_
  refine sv_r (v := .int .u32 ((n : Nat) : Int)) hS (ex_mv (hS.get 1 rfl)) fun a hS => ?_
  have hlt := hS.lt
  have hsz := hS.size
  refine sv_call (S := fun v w' => ∃ (m : Md) (sl : Value) (xs : List Sx), v = .agg (m.cells sl) ∧ MdOk m ∧ xs.length = min len 12 ∧ (∀ x ∈ xs, SegOk x.1) ∧ SegsAt w2.heap.size sl xs w') hS rfl rfl (by decide) (ex_call2 cf_laws_mediaOf (hS.get 50 rfl) (hS.get 51 rfl)) (mediaOf_any A len cap n hn hlen w2 (hA.below hbw)) ?_
  rintro a vx w3 ⟨m, sl, xs, rfl, hm, hxl, hxs, hT0⟩ hbw3 hS
  have hsl1 := hT0.own.one'
  refine sv_al hS al_spec_Media (by decide) ?_
  intro g4 a w5 hg4 hbw5 hwg4 hS
  replace hT0 := hT0.ty (TyOnly.of_below (ts := []) hbw5) (by decide)
  refine sv_sb (i := 0) (m' := [⟨g4, (m.cells sl), 30, true⟩]) hS ag_spec_Media (hS.get 10 rfl) (hS.get 52 rfl) rfl rfl rfl (m.one hsl1) rfl ?_
  intro w6 hty hS
  replace hT0 := hT0.ty hty (by decide)
  refine wpList_nil ?_
  replace hS := hS.cut [10, 38, 37, 7, 36, 0]
  show Code.wp _ _ _ _ _
  refine wp_seq ?_
  have htyp := hm.typ
  refine wp_region_lit ?_
  refine sv_r (v := pt g4 4) hS (ex_fo (hS.get 10 rfl) fo_spec_Media_4 rfl) fun a hS => ?_
  refine sv_r (v := .int .i64 ((m.typ : Nat) : Int)) hS (ex_ld (hS.get 53 rfl) lt_int (cell_of_heap (v := .int .i64 ((m.typ : Nat) : Int)) (hS.at 0 rfl) rfl)) fun a hS => ?_
  refine sv_r (v := .int .i64 (((m.typ) / 2 : Nat) : Int)) hS (ni_quo 2 (hS.get 54 rfl) rfl (by decide) (by rw [IntKind.wrap_i64]; omega)) fun a hS => ?_
  refine sv_r (v := .int .i64 ((2 * ((m.typ) / 2) : Nat) : Int)) hS (ei_mul rfl (hS.get 55 rfl) (by rw [IntKind.wrap_i64]; omega)) fun a hS => ?_
  refine sv_r (v := pt g4 4) hS (ex_fo (hS.get 10 rfl) fo_spec_Media_4 rfl) fun a hS => ?_
  refine sv_st (i := 0) (v := .int .i64 ((2 * ((m.typ) / 2) : Nat) : Int)) (cs' := #[.int .i64 ((m.version : Nat) : Int), .int .i64 ((m.target : Nat) : Int), .int .u64 ((m.seq : Nat) : Int), .int .u64 ((m.disc : Nat) : Int), .int .i64 ((2 * ((m.typ) / 2) : Nat) : Int), .int .i64 ((m.start : Nat) : Int), .bool (m.precise), .bool (m.iframe), .bool (m.closed), .pointer none, .pointer none, sl]) (m' := [⟨g4, #[.int .i64 ((m.version : Nat) : Int), .int .i64 ((m.target : Nat) : Int), .int .u64 ((m.seq : Nat) : Int), .int .u64 ((m.disc : Nat) : Int), .int .i64 ((2 * ((m.typ) / 2) : Nat) : Int), .int .i64 ((m.start : Nat) : Int), .bool (m.precise), .bool (m.iframe), .bool (m.closed), .pointer none, .pointer none, sl], 30, true⟩]) hS (su_int _) (hS.get 57 rfl) (hS.get 56 rfl) rfl (show 4 < 12 from by decide) rfl rfl ?_
  intro w7 hty hS
  replace hT0 := hT0.ty hty (by decide)
  refine wpList_nil ?_
  replace hS := hS.cut [10, 38, 37, 7, 36, 0]
  obtain ⟨m2, hm2⟩ : ∃ m2 : Md, m2 = { m with typ := 2 * (m.typ / 2) } := ⟨_, rfl⟩
  have hmk : MdOk m2 := by rw [hm2]; obtain ⟨q1, q2, q3, q4, q5, q6, q7⟩ := hm; exact ⟨q1, q2, q3, q4, by show 2 * (m.typ / 2) < 3; omega, q6, q7⟩
  have hmt : m2.typ = 0 ∨ m2.typ = 2 := by rw [hm2]; have := hm.typ; show 2 * (m.typ / 2) = 0 ∨ 2 * (m.typ / 2) = 2; omega
  replace hS : Sv 92 ((10, pt g4 0) :: (38, .int .i64 ((len2 : Nat) : Int)) :: (37, .int .i64 ((len2 : Nat) : Int)) :: (7, .string s) :: (36, .slice A2 len2 cap2) :: (0, .slice A len cap) :: []) [⟨g4, (m2.cells sl), 30, true⟩] (fun _ => False) w2 a w7 := by rw [hm2]; exact hS.pick rfl
  show Code.wp _ _ _ _ _
  refine wp_seq ?_
  refine wp_region_lit ?_
  refine sv_r (v := .agg (m2.cells sl)) hS (ex_lb ag_spec_Media (hS.get 10 rfl) (hS.at 0 rfl) rfl) fun a hS => ?_
  have hlt := hS.lt
  have hsz := hS.size
  refine sv_call (S := fun v w' => ∃ (dl : Value) (ys : List Iy), v = .agg (m2.icells ⟨#[]⟩ dl) ∧ ys.map Iy.s = xs.map (·.1) ∧ (∀ y ∈ ys, y.c = none) ∧ IsAt w7.heap.size dl ys w') hS rfl rfl (by decide) (ex_call1 cf_laws_toMedia (hS.get 58 rfl)) (toMedia_any m2 hmk _ sl xs (by omega) hxs w7 hT0) ?_
  rintro a vx w8 ⟨dl, ys, rfl, hys, hyc, hI⟩ hbw8 hS
  replace hT0 := hT0.ty (TyOnly.of_below (ts := []) hbw8) (by decide)
  have hdl1 := hI.own.one'
  refine sv_al hS al_impl_Media (by decide) ?_
  intro g9 a w10 hg9 hbw10 hwg9 hS
  replace hT0 := hT0.ty (TyOnly.of_below (ts := []) hbw10) (by decide)
  replace hI := hI.ty (TyOnly.of_below (ts := []) hbw10) (by decide)
  refine sv_sb (i := 0) (m' := [⟨g9, (m2.icells ⟨#[]⟩ dl), 37, true⟩, ⟨g4, (m2.cells sl), 30, true⟩]) hS ag_impl_Media (hS.get 11 rfl) (hS.get 59 rfl) rfl rfl rfl (m2.ione ⟨#[]⟩ hdl1) rfl ?_
  intro w11 hty hS
  replace hT0 := hT0.ty hty (by decide)
  replace hI := hI.ty hty (by decide)
  refine wpList_nil ?_
  replace hS := hS.cut [11, 10, 38, 37, 7, 36, 0]
  show Code.wp _ _ _ _ _
  refine wp_seq ?_
  refine wp_region_lit ?_
  refine sv_r (v := .string s) hS (ex_mv (hS.get 7 rfl)) fun a hS => ?_
  refine sv_r (v := pt g9 3) hS (ex_fo (hS.get 11 rfl) fo_impl_Media_3 rfl) fun a hS => ?_
  refine sv_st (i := 0) (v := .string s) (cs' := #[.float .f64 (floatOfInt .f64 ((m2.target : Nat) : Int)), .int .u64 ((m2.seq : Nat) : Int), dl, .string s, .bool (m2.iframe), .bool (m2.closed), .int .i64 ((m2.typ : Nat) : Int), .int .u64 ((m2.disc : Nat) : Int), .float .f64 (e8 m2.start), .bool (m2.precise), .int .i64 ((m2.version : Nat) : Int), .slice none 0 0, .slice none 0 0, .int .i64 0]) (m' := [⟨g9, #[.float .f64 (floatOfInt .f64 ((m2.target : Nat) : Int)), .int .u64 ((m2.seq : Nat) : Int), dl, .string s, .bool (m2.iframe), .bool (m2.closed), .int .i64 ((m2.typ : Nat) : Int), .int .u64 ((m2.disc : Nat) : Int), .float .f64 (e8 m2.start), .bool (m2.precise), .int .i64 ((m2.version : Nat) : Int), .slice none 0 0, .slice none 0 0, .int .i64 0], 37, true⟩, ⟨g4, (m2.cells sl), 30, true⟩]) hS (su_string _) (hS.get 61 rfl) (hS.get 60 rfl) rfl (show 3 < 14 from by decide) rfl rfl ?_
  intro w12 hty hS
  replace hT0 := hT0.ty hty (by decide)
  replace hI := hI.ty hty (by decide)
  refine wpList_nil ?_
  replace hS := hS.cut [11, 10, 38, 37, 7, 36, 0]
  replace hS : Sv 92 ((11, pt g9 0) :: (10, pt g4 0) :: (38, .int .i64 ((len2 : Nat) : Int)) :: (37, .int .i64 ((len2 : Nat) : Int)) :: (7, .string s) :: (36, .slice A2 len2 cap2) :: (0, .slice A len cap) :: []) [⟨g9, (m2.icells s dl), 37, true⟩, ⟨g4, (m2.cells sl), 30, true⟩] (fun _ => False) w2 a w12 := hS.pick rfl
  show Code.wp _ _ _ _ _
  refine wp_seq ?_
  refine wp_seq ?_
  refine wp_region_lit ?_
  refine sv_r (v := pt g4 11) hS (ex_fo (hS.get 10 rfl) fo_spec_Media_11 rfl) fun a hS => ?_
  refine sv_r (v := sl) hS (ex_ld (hS.get 62 rfl) lt_sl_spec_Segment (cell_of_heap (v := sl) (hS.at 1 rfl) rfl)) fun a hS => ?_
  refine sv_r (v := .int .i64 ((xs.length : Nat) : Int)) hS (ex_lenO Tryz.underlying28 (hS.get 63 rfl) hT0.own) fun a hS => ?_
  refine sv_r (v := .int .i64 0) hS ex_mc fun a hS => ?_
  refine wpList_nil ?_
  replace hS := hS.cut [65, 64, 11, 10, 38, 37, 7, 36, 0]
  show Code.wp _ _ _ _ _
  have hB0 : w.heap.size ≤ w2.heap.size := hbw.size
  have hE : Ev 92 ((65, .int .i64 ((0 : Nat) : Int)) :: (64, .int .i64 ((xs.length : Nat) : Int)) :: (11, pt g9 0) :: (10, pt g4 0) :: (7, .string s) :: []) a := hS.ev.pick rfl
  refine range_wp (N := 92) (n := xs.length) (l := (11, pt g9 0) :: (10, pt g4 0) :: (7, .string s) :: []) (fun k w' => SegsAt w2.heap.size sl (upK s k xs) w' ∧ IsAt w7.heap.size dl ys w' ∧ Hv [⟨g9, m2.icells s dl, 37, true⟩, ⟨g4, m2.cells sl, 30, true⟩] (fun _ => False) w2 w') (by omega) hE (⟨by rw [upK_zero]; exact hT0, hI, hS.hv⟩) rfl (by decide) (by decide) ?_ ?_
  ·clear hE hS
   rintro k a w13 hk hE ⟨hT0, hI, hV⟩ Q' hQ'
   have hS : Sv 92 ((65, .int .i64 ((k : Nat) : Int)) :: (64, .int .i64 ((xs.length : Nat) : Int)) :: (11, pt g9 0) :: (10, pt g4 0) :: (7, .string s) :: []) [⟨g9, m2.icells s dl, 37, true⟩, ⟨g4, m2.cells sl, 30, true⟩] (fun _ => False) w2 a w13 := hV.sv hE
   obtain ⟨x, hxk⟩ : ∃ x, xs[k]? = some x := ⟨_, List.getElem?_eq_getElem hk⟩
   have hxm := List.mem_of_getElem? hxk
   have hxU : (upK s k xs)[k]? = some x := by rw [upK_get s xs hk]; exact hxk
   have hxo := hxs x hxm
   obtain ⟨gR, capR, curR, hsv, hBR, hhR, _, _⟩ := hT0.own.form (fun e => by rw [e] at hxU; cases hxU)
   have hlU : (upK s k xs).length = xs.length := by simp [upK]; omega
   refine wp_block ?_
   refine wp_seq ?_
   refine wp_region_lit ?_
   refine sv_r (v := .int .i64 ((k : Nat) : Int)) hS (ex_mv (hS.get 65 rfl)) fun a hS => ?_
   refine sv_r (v := .int .i64 ((k : Nat) : Int)) hS (ex_as (hS.get 67 rfl)) fun a hS => ?_
   refine wpList_nil ?_
   replace hS := hS.cut [12, 65, 64, 11, 10, 7]
   show Code.wp _ _ _ _ _
   refine wp_region_lit ?_
   refine sv_r (v := pt g4 11) hS (ex_fo (hS.get 10 rfl) fo_spec_Media_11 rfl) fun a hS => ?_
   refine sv_r (v := sl) hS (ex_ld (hS.get 68 rfl) lt_sl_spec_Segment (cell_of_heap (v := sl) (hS.at 1 rfl) rfl)) fun a hS => ?_
   refine sv_r (v := .int .i64 ((k : Nat) : Int)) hS (ex_mv (hS.get 12 rfl)) fun a hS => ?_
   refine sv_r (v := pt gR (k * 9)) hS (ex_iaR Tryz.underlying28 Tryz.sizeOf40 (by rw [← hsv]; exact hS.get 69 rfl) (hS.get 70 rfl) (by rw [hlU]; exact hk)) fun a hS => ?_
   refine sv_r (v := pt gR (k * 9 + 1)) hS (ex_fo (hS.get 71 rfl) fo_spec_Segment_1 rfl) fun a hS => ?_
   refine sv_r (v := .string x.1.uri) hS (ex_ld (hS.get 72 rfl) lt_string (cell_of_heap (v := .string x.1.uri) hhR (curR_at hT0.own hsv hhR hxU))) fun a hS => ?_
   refine sv_r (v := .string s) hS (ex_mv (hS.get 7 rfl)) fun a hS => ?_
   refine sv_r (v := .string ((⟨#[63]⟩ : ByteArray) ++ s)) hS (ex_add rfl (hS.get 74 rfl) (by rw [hssz]; show 1 + len2 ≤ _; omega)) fun a hS => ?_
   refine sv_r (v := .string (x.1.uri ++ ((⟨#[63]⟩ : ByteArray) ++ s))) hS (ex_add (hS.get 73 rfl) (hS.get 75 rfl) (by have := hxo.uri.size; rw [ByteArray.size_append', hssz]; show x.1.uri.size + (1 + len2) ≤ _; omega)) fun a hS => ?_
   refine sv_r (v := pt gR (k * 9)) hS (ex_iaR Tryz.underlying28 Tryz.sizeOf40 (by rw [← hsv]; exact hS.get 69 rfl) (hS.get 70 rfl) (by rw [hlU]; exact hk)) fun a hS => ?_
   refine sv_r (v := pt gR (k * 9 + 1)) hS (ex_fo (hS.get 77 rfl) fo_spec_Segment_1 rfl) fun a hS => ?_
   refine ev_sc hS.ev (su_string _) (hS.get 78 rfl) (hS.get 76 rfl) hhR (curR_lt hT0.own hsv hhR hxU) ?_
   intro w14 hgN honly
   have htyN : TyOnly [40] w13 w14 := .of_set honly hhR
   have hTn : SegsAt w2.heap.size sl (upK s (k + 1) xs) w14 := by
    rw [← upK_succ s xs hxk]
    refine ⟨?_, fun z hz => ?_⟩
    ·have hO := hT0.own; rw [hsv] at hO ⊢; exact Own.setCell (fun _ => rfl) (by decide) hO hxU (by decide) rfl hhR hgN
    ·rcases List.mem_or_eq_of_mem_set hz with hz | rfl
     ·exact (hT0.ats z hz).ty htyN (by decide)
     ·have h9 := (hT0.ats x (List.mem_of_getElem? hxU)).ty htyN (by decide); exact h9
   replace hI := hI.ty htyN (by decide)
   replace hS : Sv 92 ((78, pt gR (k * 9 + 1)) :: (77, pt gR (k * 9)) :: (76, .string (x.1.uri ++ ((⟨#[63]⟩ : ByteArray) ++ s))) :: (75, .string ((⟨#[63]⟩ : ByteArray) ++ s)) :: (74, .string s) :: (73, .string x.1.uri) :: (72, pt gR (k * 9 + 1)) :: (71, pt gR (k * 9)) :: (70, .int .i64 ((k : Nat) : Int)) :: (69, sl) :: (68, pt g4 11) :: (12, .int .i64 ((k : Nat) : Int)) :: (65, .int .i64 ((k : Nat) : Int)) :: (64, .int .i64 ((xs.length : Nat) : Int)) :: (11, pt g9 0) :: (10, pt g4 0) :: (7, .string s) :: []) [⟨g9, (m2.icells s dl), 37, true⟩, ⟨g4, (m2.cells sl), 30, true⟩] (fun _ => False) w2 a w14 := (hS.go honly (by intro b hb e; have h8 := hS.hp b hb; rw [e, hhR] at h8; simp only [List.mem_cons, List.not_mem_nil, or_false] at hb; rcases hb with rfl | rfl <;> (injection h8 with h8; injection h8 with _ h7 _; exact absurd (show (_ : Nat) = _ from h7) (by dsimp only; decide))) (fun g e hlt => by subst e; omega)).pick rfl
   refine wpList_nil ?_
   replace hS := hS.cut [65, 64, 11, 10, 7]
   show Q' .normal a w14
   exact hQ' a w14 (hS.ev.pick rfl) (⟨hTn, hI, hS.hv⟩)
  ·clear hE hS
   rintro a w15 hE ⟨hT0, hI, hV⟩
   have hS : Sv 92 ((65, .int .i64 ((xs.length : Nat) : Int)) :: (64, .int .i64 ((xs.length : Nat) : Int)) :: (11, pt g9 0) :: (10, pt g4 0) :: (7, .string s) :: []) [⟨g9, m2.icells s dl, 37, true⟩, ⟨g4, m2.cells sl, 30, true⟩] (fun _ => False) w2 a w15 := hV.sv hE
   rw [upK_all] at hT0
   show Code.wp _ _ _ _ _
   refine wp_seq ?_
   have hbz : Below w.heap.size w w15 := hbw.trans (hS.toBelow.mono hbw.size)
   have hyl : ys.length = xs.length := by have := congrArg List.length hys; simpa using this
   have hyo : ∀ y ∈ ys, SegOk y.s ∧ y.c = none := fun y hy => ⟨by have h1 : y.s ∈ xs.map (·.1) := hys ▸ List.mem_map_of_mem hy; obtain ⟨x, hx, e⟩ := List.mem_map.1 h1; rw [← e]; exact hxs x hx, hyc y hy⟩
   obtain ⟨hlawL, hlawE⟩ := hlaw m2 s ys hmk hmt (by omega) (by omega) (by rw [hyl]; omega) hyo
   rw [up_list hys] at hlawE
   refine wp_region_lit ?_
   refine sv_r (v := .agg (m2.icells s dl)) hS (ex_lb ag_impl_Media (hS.get 11 rfl) (hS.at 0 rfl) rfl) fun a hS => ?_
   refine sv_callv (v := .tuple #[.string ⟨(wmText m2 s ys).toArray⟩, .bool true]) hS rfl rfl (by decide) (ex_call2 cf_impl_WriteMedia (hS.get 81 rfl) rfl) (writeMedia_any m2 hmk s _ dl ys (by rw [hyl]; omega) (fun y hy => ⟨(hyo y hy).1.ln, fun c hc => by rw [(hyo y hy).2] at hc; cases hc⟩) hlawL w15 hI (fun w' h => hT w' (hbz.trans (h.mono hbz.size))) (fun x hx w' h => hFF x hx w' (hbz.trans (h.mono hbz.size))) (fun x hx w' h => hF3 x hx w' (hbz.trans (h.mono hbz.size)))) ?_
   intro a w16 hbw16 hS
   replace hT0 := hT0.ty (TyOnly.of_below (ts := []) hbw16) (by decide)
   replace hI := hI.ty (TyOnly.of_below (ts := []) hbw16) (by decide)
   refine sv_r (v := .tuple #[.string ⟨(wmText m2 s ys).toArray⟩, .bool true]) hS (ex_mv (hS.get 82 rfl)) fun a hS => ?_
   refine sv_r (v := .string ((⟨(wmText m2 s ys).toArray⟩ : ByteArray))) hS (ei_ext (hS.get 80 rfl) rfl) fun a hS => ?_
   refine sv_r (v := .bool true) hS (ei_ext (hS.get 80 rfl) rfl) fun a hS => ?_
   refine sv_r (v := .string ((⟨(wmText m2 s ys).toArray⟩ : ByteArray))) hS (ex_as (hS.get 83 rfl)) fun a hS => ?_
   refine sv_r (v := .bool true) hS (ex_as (hS.get 84 rfl)) fun a hS => ?_
   refine wpList_nil ?_
   replace hS := hS.cut [14, 13, 65, 64, 11, 10, 7]
   show Code.wp _ _ _ _ _
   refine wp_seq ?_
   refine wp_region_lit ?_
   refine sv_r (v := .bool true) hS (ex_mv (hS.get 14 rfl)) fun a hS => ?_
   refine sv_r (v := .bool true) hS (ex_mv (hS.get 85 rfl)) fun a hS => ?_
   refine sv_g (v := .string ((⟨(wmText m2 s ys).toArray⟩ : ByteArray))) hS (hS.get 86 rfl) (ex_mv (hS.get 13 rfl)) fun a hS => ?_
   refine sv_g (v := .agg (m2.cells sl)) hS (hS.get 86 rfl) (ex_lb ag_spec_Media (hS.get 10 rfl) (hS.at 1 rfl) rfl) fun a hS => ?_
   refine ev_gcall (S := fun v w' => v = .string (m2.write ((xs.map (upS s)).map (·.1))) ∧ Below w16.heap.size w16 w') hS.ev rfl rfl (hS.get 86 rfl) rfl (by decide) (ex_call3 cf_spec_Media_Write (hS.get 88 rfl) rfl rfl) (Calls.mono (write_any m2 hmk _ sl (xs.map (upS s)) (by rw [List.length_map]; omega) (fun z hz => by obtain ⟨x, hx, rfl⟩ := List.mem_map.1 hz; exact upS_ok (hxs x hx) (by omega)) 0 w16 hT0) (by rintro e w' ⟨rfl, h⟩; exact ⟨_, rfl, rfl, h⟩)) ?_
   rintro a v w17 ⟨rfl, hbq⟩ hE
   replace hS : Sv 92 ((89, .string (m2.write ((xs.map (upS s)).map (·.1)))) :: (88, .agg (m2.cells sl)) :: (87, .string ((⟨(wmText m2 s ys).toArray⟩ : ByteArray))) :: (86, .bool true) :: (85, .bool true) :: (14, .bool true) :: (13, .string ((⟨(wmText m2 s ys).toArray⟩ : ByteArray))) :: (65, .int .i64 ((xs.length : Nat) : Int)) :: (64, .int .i64 ((xs.length : Nat) : Int)) :: (11, pt g9 0) :: (10, pt g4 0) :: (7, .string s) :: []) [⟨g9, (m2.icells s dl), 37, true⟩, ⟨g4, (m2.cells sl), 30, true⟩] (fun _ => False) w2 a w17 := ((hS.below hbq).slot hE).pick rfl
   refine sv_g (v := .bool true) hS (hS.get 86 rfl) (es_eqlT (hS.get 87 rfl) (hS.get 89 rfl) hlawE) fun a hS => ?_
   refine sv_r (v := .bool true) hS (ex_pickT (hS.get 86 rfl) (hS.get 90 rfl)) fun a hS => ?_
   refine sv_r (v := .bool true) hS (ex_as (hS.get 91 rfl)) fun a hS => ?_
   refine wpList_nil ?_
   replace hS := hS.cut [6, 65, 64, 11, 10, 7]
   show Code.wp _ _ _ _ _
   refine wp_ret ?_
   try simp only [Exit.inBlock, Exit.then]
   exact ret_of_ev hS.ev rfl (hS.get 6 rfl) ⟨rfl, hbw.trans (hS.toBelow.mono hbw.size)⟩
end Go.Proofs.YtfonjeoiallhhaaGreatDoor
/- The plain law of FnArgs: what Encode writes is what the reference writes. -/
namespace Go.Proofs.YtfonjeoiallhhaaGreatDoor
open Go.RowKit
abbrev tl (b : ByteArray) : List UInt8 := b.data.toList
theorem tl_app (a b : ByteArray) : (a ++ b).data.toList = a.data.toList ++ b.data.toList := by
 simp
theorem cat_tl : ∀ (L : List ByteArray) (o : ByteArray), (cat o L).data.toList = o.data.toList ++ (L.map tl).flatten
 | [], o => by simp [cat]
 | x :: L, o => by
  have e : cat o (x :: L) = cat (o ++ x) L := rfl
  rw [e, cat_tl L (o ++ x), tl_app]
  simp
def segT (s : Sm) : List UInt8 := (s.lines.map tl).flatten ++ (s.uri.data.toList ++ [10])
theorem catS_tl : ∀ (L : List Sm) (o : ByteArray), (catS o L).data.toList = o.data.toList ++ (L.map segT).flatten
 | [], o => by simp [catS]
 | x :: L, o => by
  have e : catS o (x :: L) = catS (cat o x.lines ++ (x.uri ++ (⟨#[10]⟩ : ByteArray))) L := rfl
  rw [e, catS_tl L, tl_app, cat_tl, tl_app]
  simp [segT]
theorem addL_eq : ∀ (L : List (List UInt8)) (s : List UInt8), addL s L = s ++ L.flatten
 | [], s => by simp [addL]
 | x :: L, s => by
  have e : addL s (x :: L) = addL (s ++ x) L := rfl
  rw [e, addL_eq L]
  simp
theorem enc_fold (p : Pq) : ∀ (L : List Mz) (s : List UInt8), L.foldl (segEnc p) s = s ++ (L.map fun z => (segParts p z).flatten).flatten
 | [], s => by simp
 | z :: L, s => by
  rw [List.foldl_cons, enc_fold p L]
  unfold segEnc
  rw [addL_eq]
  simp
theorem key_eq (k : Ky) : t_key k = k.text.data.toList := by
 unfold t_key Ky.text
 dsimp only
 by_cases h0 : k.method.data.toList = (⟨#[78, 79, 78, 69]⟩ : ByteArray).data.toList
 ·have d0 : decide (k.method.data.toList = (⟨#[78, 79, 78, 69]⟩ : ByteArray).data.toList) = true := decide_eq_true h0
  simp only [d0, if_true, Bool.not_true, Bool.false_eq_true, if_false, tl_app]
  simp
 ·have d0 : decide (k.method.data.toList = (⟨#[78, 79, 78, 69]⟩ : ByteArray).data.toList) = false := decide_eq_false h0
  simp only [d0, Bool.not_false, Bool.false_eq_true, if_false, if_true]
  by_cases h1 : ne k.iv = true <;> by_cases h2 : ne k.format = true <;> by_cases h3 : ne k.versions = true <;> simp only [h1, h2, h3, if_true, if_false, Bool.false_eq_true, tl_app] <;> simp
theorem map_eq (k : Mp) : t_map k = k.text.data.toList := by
 unfold t_map Mp.text
 dsimp only
 by_cases h1 : 0 < k.limit
 ·have d1 : decide (0 < k.limit) = true := decide_eq_true h1
  simp only [d1, h1, if_true, tl_app]
  simp
 ·have d1 : decide (0 < k.limit) = false := decide_eq_false h1
  simp only [d1, h1, Bool.false_eq_true, if_false, tl_app]
  simp
def lineO (b : Bool) (x : ByteArray) : List ByteArray := if b = true then [x] else []
theorem lines_eq (s : Sm) : s.lines = lineO s.key.isSome (Ky.textO s.key) ++ (lineO s.disc ⟨#[35, 69, 88, 84, 45, 88, 45, 68, 73, 83, 67, 79, 78, 84, 73, 78, 85, 73, 84, 89, 10]⟩ ++ (lineO s.map.isSome (Mp.textO s.map) ++ (lineO (ne s.date) (((⟨#[35, 69, 88, 84, 45, 88, 45, 80, 82, 79, 71, 82, 65, 77, 45, 68, 65, 84, 69, 45, 84, 73, 77, 69, 58]⟩ : ByteArray) ++ s.date) ++ (⟨#[10]⟩ : ByteArray)) ++ (lineO (decide (0 < s.limit)) (((((⟨#[35, 69, 88, 84, 45, 88, 45, 66, 89, 84, 69, 82, 65, 78, 71, 69, 58]⟩ : ByteArray) ++ (dec s.limit)) ++ (⟨#[64]⟩ : ByteArray)) ++ (dec s.offset)) ++ (⟨#[10]⟩ : ByteArray)) ++ [(((((⟨#[35, 69, 88, 84, 73, 78, 70, 58]⟩ : ByteArray) ++ (secs s.e)) ++ (⟨#[44]⟩ : ByteArray)) ++ s.title) ++ (⟨#[10]⟩ : ByteArray))])))) := by
 unfold Sm.lines lineO
 dsimp only
 rw [Option.isSome_map, Option.isSome_map]
 cases s.key.isSome <;> cases s.disc <;> cases s.map.isSome <;> cases ne s.date <;> by_cases h : 0 < s.limit <;> simp [h]
theorem seg_eq (p : Pq) (s : Sm) (a : ByteArray) (ha : 1 ≤ a.size) (hp : p.args = a) : (segParts p (mz s none)).flatten = segT (upM a s) := by
 have hne : ne a = true := by
  unfold ne
  have : a.data.toList ≠ [] := fun e => by
   have h2 : a.size = a.data.toList.length := by show a.data.size = _; simp
   rw [h2, e] at ha
   simp at ha
  cases h : a.data.toList with
  | nil => exact absurd h this
  | cons x l => rfl
 unfold segT
 have hl : (upM a s).lines = s.lines := rfl
 rw [hl, lines_eq]
 have k1 : tO t_key s.key = ((lineO s.key.isSome (Ky.textO s.key)).map tl).flatten := by
  cases h : s.key with
  | none => rfl
  | some k => simp [tO, lineO, Ky.textO, key_eq, tl]
 have k2 : tO t_map s.map = ((lineO s.map.isSome (Mp.textO s.map)).map tl).flatten := by
  cases h : s.map with
  | none => rfl
  | some k => simp [tO, lineO, Mp.textO, map_eq, tl]
 have hu : (upM a s).uri = s.uri ++ ((⟨#[63]⟩ : ByteArray) ++ a) := rfl
 rw [hu]
 simp only [List.map_append, List.flatten_append, segParts, mz, List.flatten_cons, List.flatten_nil, k1, k2, tl_app]
 unfold t_dis t_date t_part t_r155 t_r163 t_r164 t_r165 t_r166 t_args t_r170 lineO
 simp only [hp, hne, if_true]
 cases s.disc <;> cases ne s.date <;> by_cases h : 0 < s.limit <;> simp [h, tO, tl]
theorem head_eq (m : Md) (a : ByteArray) (ht : m.typ = 0 ∨ m.typ = 2) : (headParts (pqT m a) m.target m.start).flatten = ((((⟨#[35, 69, 88, 84, 77, 51, 85, 10, 35, 69, 88, 84, 45, 88, 45, 86, 69, 82, 83, 73, 79, 78, 58]⟩ : ByteArray) ++ (dec m.version)) ++ (⟨#[10]⟩ : ByteArray)).data.toList) ++ (m.head.map tl).flatten := by
 unfold headParts Md.head t_r3 t_r4 t_r5 t_typ t_r45 t_r46 t_r47 t_r48 t_r49 t_r50 t_start t_disc t_ifr pqT
 dsimp only
 rcases ht with h0 | h0
 all_goals
  rw [h0]
  rcases Nat.eq_zero_or_pos m.disc with h3 | h3
  ·by_cases h1 : 0 < m.start <;> cases h2 : m.precise <;> cases h4 : m.iframe <;> simp [h1, h3, tl]
  ·have h3' : m.disc ≠ 0 := by omega
   by_cases h1 : 0 < m.start <;> cases h2 : m.precise <;> cases h4 : m.iframe <;> simp [h1, h3, h3', tl]
theorem text_eq (m : Md) (a : ByteArray) (ys : List Iy) (ht : m.typ = 0 ∨ m.typ = 2) (ha : 1 ≤ a.size) (hc : ∀ y ∈ ys, y.c = none) : wmText m a ys = (m.write (ys.map fun y => upM a y.s)).data.toList := by
 have hsegs : ((ys.map fun y => mz y.s y.c).map fun z => (segParts (pqT m a) z).flatten).flatten = ((ys.map fun y => upM a y.s).map segT).flatten := by
  rw [List.map_map, List.map_map]
  congr 1
  refine List.map_congr_left fun y hy => ?_
  show (segParts (pqT m a) (mz y.s y.c)).flatten = segT (upM a y.s)
  rw [hc y hy]
  exact seg_eq (pqT m a) y.s a ha rfl
 unfold wmText encAll Md.write
 rw [enc_fold, addL_eq, List.nil_append, head_eq m a ht, hsegs]
 unfold t_end pqT
 dsimp only
 cases m.closed
 ·simp only [Bool.false_eq_true, if_false, List.append_nil]
  rw [catS_tl, cat_tl]
 ·simp only [if_true]
  refine Eq.symm ((tl_app _ _).trans ?_)
  rw [catS_tl, cat_tl]
theorem catS_size : ∀ {L : List Sm} {o : ByteArray}, (∀ s ∈ L, SegLn s ∧ s.uri.size ≤ 100) → (catS o L).size ≤ o.size + L.length * 2600
 | [], o, _ => by simp [catS]
 | x :: L, o, h => by
  have e : catS o (x :: L) = catS (cat o x.lines ++ (x.uri ++ (⟨#[10]⟩ : ByteArray))) L := rfl
  rw [e]
  obtain ⟨h1, h2⟩ := h x (List.mem_cons_self ..)
  refine Nat.le_trans (catS_size fun s hs => h s (List.mem_cons_of_mem _ hs)) ?_
  have h3 := cat_size (o := o) (lines_size h1)
  have h4 := lines_len x
  have h5 : x.lines.length * 400 ≤ 6 * 400 := Nat.mul_le_mul_right _ h4
  rw [ByteArray.size_append', ByteArray.size_append']
  have h6 : (⟨#[10]⟩ : ByteArray).size = 1 := rfl
  simp only [List.length_cons]
  omega
theorem write_size {m : Md} (hm : MdOk m) {L : List Sm} (h : ∀ s ∈ L, SegLn s ∧ s.uri.size ≤ 100) : (m.write L).size ≤ 3000 + L.length * 2600 := by
 have h1 := head_size hm
 have hv := hm.version
 have h2 := dec_le (n := m.version) (by omega)
 have h3 : (cat (((⟨#[35, 69, 88, 84, 77, 51, 85, 10, 35, 69, 88, 84, 45, 88, 45, 86, 69, 82, 83, 73, 79, 78, 58]⟩ : ByteArray) ++ (dec m.version)) ++ (⟨#[10]⟩ : ByteArray)) m.head).size ≤ 2900 := by
  refine Nat.le_trans (cat_size h1.1) ?_
  have h5 : m.head.length * 400 ≤ 6 * 400 := Nat.mul_le_mul_right _ h1.2
  simp only [ByteArray.size_append', ByteArray.size_mk', List.size_toArray, List.length_cons, List.length_nil]
  omega
 have h4 := catS_size (o := cat (((⟨#[35, 69, 88, 84, 77, 51, 85, 10, 35, 69, 88, 84, 45, 88, 45, 86, 69, 82, 83, 73, 79, 78, 58]⟩ : ByteArray) ++ (dec m.version)) ++ (⟨#[10]⟩ : ByteArray)) m.head) h
 unfold Md.write
 dsimp only
 split
 ·rw [ByteArray.size_append']
  have h6 : (⟨#[35, 69, 88, 84, 45, 88, 45, 69, 78, 68, 76, 73, 83, 84, 10]⟩ : ByteArray).size = 15 := rfl
  omega
 ·omega
theorem wm_law : WmLaw := by
 intro m s ys hm ht h1 h2 hl hy
 have he := text_eq m s ys ht h1 (fun y hy' => (hy y hy').2)
 have hz := write_size hm (L := ys.map fun y => upM s y.s) (by
  intro z hz
  obtain ⟨y, hy', rfl⟩ := List.mem_map.1 hz
  have := upS_ok (x := (y.s, (.pointer none, .pointer none))) (hy y hy').1 h2
  exact this)
 rw [List.length_map] at hz
 have hlen : (wmText m s ys).length = (m.write (ys.map fun y => upM s y.s)).size := by
  rw [he]
  generalize m.write (ys.map fun y => upM s y.s) = B
  show B.data.toList.length = B.data.size
  simp
 refine ⟨by omega, ?_⟩
 rw [he]
end Go.Proofs.YtfonjeoiallhhaaGreatDoor
