/- Joined: Rw, Far, Lw, Fgu, Fgv, Lfa. -/
import Derived.Test.YtfonjeoiallhhaaGreatDoorB23
import Derived.Test.YtfonjeoiallhhaaGreatDoorB10
import Derived.Test.YtfonjeoiallhhaaGreatDoorRows
import Derived.ProofKit
import Derived.LaidMore
import Derived.MakeChecks
import Derived.Lib.LaidTab
import Derived.ChangeArms
/- A cell of a row of the call's own turned; texts of one sign. -/
namespace Go.Proofs.YtfonjeoiallhhaaGreatDoor
open Go.RowKit
theorem flat_set {α : Type} {f : α → List Value} {k : Nat} (hf : ∀ x, (f x).length = k) (hk : 0 < k) (L : List α) {i j : Nat} {x x' : α} {u : Value} (hx : L[i]? = some x) (hj : j < k) (hu : f x' = (f x).set j u) : flat f (L.set i x') = (flat f L).set (i * k + j) u := by
 have hil : i < L.length := (List.getElem?_eq_some_iff.1 hx).1
 apply List.ext_getElem?
 intro t
 rw [flat_get hf hk, List.getElem?_set, List.getElem?_set, flat_get hf hk]
 by_cases e : i = t / k
 ·subst e
  rw [if_pos rfl, if_pos hil, hx]
  show (f x')[t % k]? = _
  rw [hu, List.getElem?_set]
  have hlt : t / k * k + j < (flat f L).length := by
   rw [flat_length hf]
   calc t / k * k + j < t / k * k + k := by omega
    _ = (t / k + 1) * k := by rw [Nat.add_mul, Nat.one_mul]
    _ ≤ L.length * k := Nat.mul_le_mul_right _ hil
  by_cases e2 : j = t % k
  ·subst e2
   rw [if_pos rfl, if_pos (by rw [hf]; exact hj)]
   rw [if_pos (by rw [Nat.mul_comm]; exact Nat.div_add_mod t k), if_pos hlt]
  ·rw [if_neg e2, if_neg (fun e3 => e2 (by have h1 := Nat.div_add_mod t k; rw [Nat.mul_comm] at h1; omega))]
   rfl
 ·rw [if_neg e, if_neg (fun e3 => e (by rw [← e3, Nat.mul_comm, Nat.mul_add_div hk, Nat.div_eq_of_lt hj, Nat.add_zero]))]
theorem Own.setCell {α : Type} {f : α → List Value} {e : TypeId} {k B g n cap i j : Nat} {w w' : World} {L : List α} {x x' : α} {u : Value} (hf : ∀ x, (f x).length = k) (hk : 0 < k) (h : Own f e k w B (.slice (some ⟨g, 0, none⟩) n cap) L) (hx : L[i]? = some x) (hj : j < k) (hu : f x' = (f x).set j u) {cur : Array Value} (hg : w.heap[g]? = some (.cells cur e (0, 0))) (hg' : w'.heap[g]? = some (.cells (cur.setIfInBounds (i * k + j) u) e (0, 0))) : Own f e k w' B (.slice (some ⟨g, 0, none⟩) n cap) (L.set i x') := by
 have hil : i < L.length := (List.getElem?_eq_some_iff.1 hx).1
 refine ⟨by rw [flat_length hf], ?_⟩
 rcases h.2 with ⟨h1, _⟩ | ⟨g1, cap1, cur1, hv, hb, hh, hn, hm, hs, ht⟩
 ·cases h1
 ·injection hv with h1 h2 h3
  injection h1 with h1
  injection h1 with h1 _ _
  subst h1 h2 h3
  rw [hg] at hh
  injection hh with hh
  injection hh with hh _ _
  subst hh
  refine .inr ⟨g, cap, _, by rw [List.length_set], hb, hg', by rw [List.length_set]; exact hn, hm, by rw [Array.size_setIfInBounds]; exact hs, ?_⟩
  rw [List.length_set, flat_set hf hk L hx hj hu, ← ht, Array.toList_setIfInBounds, List.take_set]
theorem ex_chr1 {a : Act} {w : World} {dst : Option Nat} {ty : TypeId} {ps : String} {af : Array Edge} {gd : Option (Nat × Bool)} {x : Operand} {n : Nat} (hx : a.eval x = .int .i32 (n : Int)) (h1 : n < 128) : (execOp a.eval ⟨dst, .convert 21 9 x, ty, ps, af, gd⟩).run Tryz.prog w = .ok (.value (.string ⟨#[UInt8.ofNat n]⟩)) w := by
 have hr := run_convert_int_string (P := Tryz.prog) w 21 9 .i32 (n : Int) (by simp [Tryz.underlying21]) Tryz.underlying9
 rw [← chr_eq, chr_ascii n h1] at hr
 simp only [execOp, hx]
 exact run_andValue hr
theorem cv_uint8_int32 (n : Nat) (h : n < 256) : Cv 5 21 (.int .u8 (n : Int)) (.int .i32 (n : Int)) := by
 have hw : IntKind.i32.wrap (n : Int) = n := by rw [IntKind.wrap_i32]; omega
 intro w
 go_simp
/-- A slice of bytes that is there. -/
def U8s (w : World) (A : Option Addr) (len : Nat) : Prop := ∀ j, j < len → ∃ (a : Addr) (x : Nat), A = some a ∧ w.cell? (a.add j) = some (.int .u8 x) ∧ x < 256
theorem U8s.below {w w' : World} {A : Option Addr} {len : Nat} (h : U8s w A len) (hb : Below w.heap.size w w') : U8s w' A len := fun j hj => by
 obtain ⟨a, x, ha, hc, hx⟩ := h j hj
 refine ⟨a, x, ha, ?_, hx⟩
 rw [World.cell?_of_block (w := w)]
 ·exact hc
 ·exact hb.block _ (World.block_lt_of_cell? w _ hc)
end Go.Proofs.YtfonjeoiallhhaaGreatDoor
/- laws.FnArgs: the walk. Printed by wip/tools/gen_fa.py. -/
namespace Go.Proofs.YtfonjeoiallhhaaGreatDoor
open Go.RowKit
theorem ex_iaR {a : Act} {w : World} {dst : Option Nat} {ty : TypeId} {ps : String} {af : Array Edge} {gd : Option (Nat × Bool)} {x : Operand} {T E k s n c i g : Nat} {kk : IntKind} (hu : Tryz.prog.underlying T = some (.slice E)) (hz : ∀ w, (sizeOf E).run Tryz.prog w = .ok k w) (hs : a.eval (.tmp s) = .slice (some ⟨g, 0, none⟩) n c) (hi : a.eval x = .int kk (i : Int)) (hlt : i < n) :
  (execOp a.eval ⟨dst, .indexAddr T (.tmp s) x, ty, ps, af, gd⟩).run Tryz.prog w = .ok (.value (pt g (i * k))) w := by
 have h := ex_ia (dst := dst) (ty := ty) (ps := ps) (af := af) (gd := gd) (w := w) hu hz hs hi hlt
 rw [add_block, Nat.zero_add] at h
 exact h
theorem es_eqlT {a : Act} {w : World} {dst : Option Nat} {ty : TypeId} {ps : String} {af : Array Edge} {gd : Option (Nat × Bool)} {x y : Operand} {T' : TypeId} {s t : ByteArray} (hx : a.eval x = .string s) (hy : a.eval y = .string t) (h : s = t) : (execOp a.eval ⟨dst, .binOp .eql 9 x y T', ty, ps, af, gd⟩).run Tryz.prog w = .ok (.value (.bool true)) w := by
 subst h
 have hr : (binOp .eql 9 (.string s) (.string s)).run Tryz.prog w = .ok (.bool true) w := by
  have : (binOp .eql 9 (.string s) (.string s)).run Tryz.prog w = .ok (.bool (s.toList == s.toList)) w := rfl
  rw [this]; simp
 simp only [execOp, hx, hy]
 simp [eqGuard, hr, Result.andThen]
end Go.Proofs.YtfonjeoiallhhaaGreatDoor
/- The plain law of FnArgs: what Encode writes is what the reference writes. -/
namespace Go.Proofs.YtfonjeoiallhhaaGreatDoor
open Go.RowKit
abbrev tl (b : ByteArray) : List UInt8 := b.data.toList
theorem tl_app (a b : ByteArray) : (a ++ b).data.toList = a.data.toList ++ b.data.toList := by
 simp
theorem cat_tl : ∀ (L : List ByteArray) (o : ByteArray), (cat o L).data.toList = o.data.toList ++ (L.map tl).flatten
 | [], o => by simp [cat]
 | x :: L, o => by
  have e : cat o (x :: L) = cat (o ++ x) L := rfl
  rw [e, cat_tl L (o ++ x), tl_app]
  simp
def segT (s : Sm) : List UInt8 := (s.lines.map tl).flatten ++ (s.uri.data.toList ++ [10])
theorem addL_eq : ∀ (L : List (List UInt8)) (s : List UInt8), addL s L = s ++ L.flatten
 | [], s => by simp [addL]
 | x :: L, s => by
  have e : addL s (x :: L) = addL (s ++ x) L := rfl
  rw [e, addL_eq L]
  simp
theorem enc_fold (p : Pq) : ∀ (L : List Mz) (s : List UInt8), L.foldl (segEnc p) s = s ++ (L.map fun z => (segParts p z).flatten).flatten
 | [], s => by simp
 | z :: L, s => by
  rw [List.foldl_cons, enc_fold p L]
  unfold segEnc
  rw [addL_eq]
  simp
theorem key_eq (k : Ky) : t_key k = k.text.data.toList := by
 unfold t_key Ky.text
 dsimp only
 by_cases h0 : k.method.data.toList = (⟨#[78, 79, 78, 69]⟩ : ByteArray).data.toList
 ·have d0 : decide (k.method.data.toList = (⟨#[78, 79, 78, 69]⟩ : ByteArray).data.toList) = true := decide_eq_true h0
  simp only [d0, if_true, Bool.not_true, Bool.false_eq_true, if_false, tl_app]
  simp
 ·have d0 : decide (k.method.data.toList = (⟨#[78, 79, 78, 69]⟩ : ByteArray).data.toList) = false := decide_eq_false h0
  simp only [d0, Bool.not_false, Bool.false_eq_true, if_false, if_true]
  by_cases h1 : ne k.iv = true <;> by_cases h2 : ne k.format = true <;> by_cases h3 : ne k.versions = true <;> simp only [h1, h2, h3, if_true, if_false, Bool.false_eq_true, tl_app] <;> simp
theorem map_eq (k : Mp) : t_map k = k.text.data.toList := by
 unfold t_map Mp.text
 dsimp only
 by_cases h1 : 0 < k.limit
 ·have d1 : decide (0 < k.limit) = true := decide_eq_true h1
  simp only [d1, h1, if_true, tl_app]
  simp
 ·have d1 : decide (0 < k.limit) = false := decide_eq_false h1
  simp only [d1, h1, Bool.false_eq_true, if_false, tl_app]
  simp
def lineO (b : Bool) (x : ByteArray) : List ByteArray := if b = true then [x] else []
theorem lines_eq (s : Sm) : s.lines = lineO s.key.isSome (Ky.textO s.key) ++ (lineO s.disc ⟨#[35, 69, 88, 84, 45, 88, 45, 68, 73, 83, 67, 79, 78, 84, 73, 78, 85, 73, 84, 89, 10]⟩ ++ (lineO s.map.isSome (Mp.textO s.map) ++ (lineO (ne s.date) (((⟨#[35, 69, 88, 84, 45, 88, 45, 80, 82, 79, 71, 82, 65, 77, 45, 68, 65, 84, 69, 45, 84, 73, 77, 69, 58]⟩ : ByteArray) ++ s.date) ++ (⟨#[10]⟩ : ByteArray)) ++ (lineO (decide (0 < s.limit)) (((((⟨#[35, 69, 88, 84, 45, 88, 45, 66, 89, 84, 69, 82, 65, 78, 71, 69, 58]⟩ : ByteArray) ++ (dec s.limit)) ++ (⟨#[64]⟩ : ByteArray)) ++ (dec s.offset)) ++ (⟨#[10]⟩ : ByteArray)) ++ [(((((⟨#[35, 69, 88, 84, 73, 78, 70, 58]⟩ : ByteArray) ++ (secs s.e)) ++ (⟨#[44]⟩ : ByteArray)) ++ s.title) ++ (⟨#[10]⟩ : ByteArray))])))) := by
 unfold Sm.lines lineO
 dsimp only
 rw [Option.isSome_map, Option.isSome_map]
 cases s.key.isSome <;> cases s.disc <;> cases s.map.isSome <;> cases ne s.date <;> by_cases h : 0 < s.limit <;> simp [h]
theorem head_eq (m : Md) (a : ByteArray) (ht : m.typ = 0 ∨ m.typ = 2) : (headParts (pqT m a) m.target m.start).flatten = ((((⟨#[35, 69, 88, 84, 77, 51, 85, 10, 35, 69, 88, 84, 45, 88, 45, 86, 69, 82, 83, 73, 79, 78, 58]⟩ : ByteArray) ++ (dec m.version)) ++ (⟨#[10]⟩ : ByteArray)).data.toList) ++ (m.head.map tl).flatten := by
 unfold headParts Md.head t_r3 t_r4 t_r5 t_typ t_r45 t_r46 t_r47 t_r48 t_r49 t_r50 t_start t_disc t_ifr pqT
 dsimp only
 rcases ht with h0 | h0
 all_goals
  rw [h0]
  rcases Nat.eq_zero_or_pos m.disc with h3 | h3
  ·by_cases h1 : 0 < m.start <;> cases h2 : m.precise <;> cases h4 : m.iframe <;> simp [h1, h3, tl]
  ·have h3' : m.disc ≠ 0 := by omega
   by_cases h1 : 0 < m.start <;> cases h2 : m.precise <;> cases h4 : m.iframe <;> simp [h1, h3, h3', tl]
end Go.Proofs.YtfonjeoiallhhaaGreatDoor
/- The shortest decimal text of an eighth: from the digits. -/
namespace Go.Proofs.YtfonjeoiallhhaaGreatDoor
open Go.Shelf Go.RowKit Go.Sort Go.Lib
theorem dd_ten (a : Nat) (ha : 1 ≤ a) : ∀ k : Nat, decDigits (a * 10 ^ k) = decDigits a ++ List.replicate k (48 : UInt8)
 | 0 => by simp
 | k + 1 => by
  have e : a * 10 ^ (k + 1) = a * 10 ^ k * 10 := by rw [Nat.pow_succ, Nat.mul_assoc]
  have hp : 1 ≤ a * 10 ^ k := Nat.mul_pos ha (Nat.pow_pos (by decide))
  rw [e, dd_big (by omega), Nat.mul_div_cancel _ (by decide), Nat.mul_mod_left, dd_ten a ha k, List.append_assoc, List.replicate_succ']
  rfl
theorem dd_ge : ∀ u : Nat, ∀ b ∈ decDigits u, b ≠ 46 := by
 intro u
 induction u using Nat.strongRecOn with
 | _ u ih =>
  have key : ∀ t : Nat, t < 10 → UInt8.ofNat (48 + t) ≠ 46 := by
   intro t ht e
   have := congrArg UInt8.toNat e
   rw [UInt8.toNat_ofNat_of_lt' (by show 48 + t < 256; omega)] at this
   have h46 : (46 : UInt8).toNat = 46 := rfl
   omega
  intro b hb
  by_cases h : u < 10
  ·rw [dd_small h] at hb
   rw [List.mem_singleton.1 hb]
   exact key u h
  ·rw [dd_big (by omega)] at hb
   rcases List.mem_append.1 hb with hb | hb
   ·exact ih (u / 10) (by omega) b hb
   ·rw [List.mem_singleton.1 hb]
    exact key _ (Nat.mod_lt _ (by decide))
theorem stripZ_rep (l : List UInt8) : ∀ k : Nat, stripZ (l ++ List.replicate k 48) = stripZ l
 | 0 => by simp
 | k + 1 => by rw [List.replicate_succ', ← List.append_assoc, stripZ_snoc, stripZ_rep l k]
theorem lst_le {D : List UInt8} {k nd : Nat} (h1 : 1 ≤ nd) (hz : Q3.Lst nd (D ++ List.replicate k 48)) : nd ≤ D.length := by
 obtain ⟨_, b, hb, hne⟩ := hz
 rcases Nat.lt_or_ge D.length nd with h | h
 ·rw [List.getElem?_append_right (by omega), List.getElem?_replicate] at hb
  split at hb
  ·exact absurd (Option.some.inj hb).symm hne
  ·cases hb
 ·exact h
theorem efg_short (r nd k : Nat) (h1 : 1 ≤ r) (hn1 : 1 ≤ nd) (hz : Q3.Lst nd (decDigits (125 * r) ++ List.replicate k 48)) : Q.efg ((nd - ((decDigits (125 * r)).length - 3) : Nat) : Int) (decDigits (125 * r) ++ List.replicate k 48) ((decDigits (125 * r)).length - 3) nd = (shorts r).data.toList := by
 have hnl := lst_le hn1 hz
 have hl3 : 3 ≤ (decDigits (125 * r)).length := by rw [dd_three (125 * r) (by omega)]; simp
 have hs := efg_secs r nd h1 (fun j b hj hb => hz.1 j b hj (by rw [List.getElem?_append_left (List.getElem?_eq_some_iff.1 hb).1]; exact hb))
 have hge := dd_ge (125 * r)
 obtain ⟨_, b, hb, hne⟩ := hz
 rw [List.getElem?_append_left (by omega)] at hb
 generalize decDigits (125 * r) = D at *
 obtain ⟨dp, hdp⟩ : ∃ dp, dp = D.length - 3 := ⟨_, rfl⟩
 rw [← hdp] at hs ⊢
 show _ = stripP (stripZ (secs r).data.toList)
 rw [← hs]
 unfold efg efgTail Q.efg Q.efgTail
 rw [List.take_append_of_le_length (show min nd dp ≤ D.length by omega)]
 generalize (if 0 < dp then D.take (min nd dp) ++ List.replicate (dp - min nd dp) 48 else [48]) = I
 rcases Nat.lt_or_ge dp nd with hlt | hge2
 ·rw [if_pos (by omega), Int.toNat_natCast]
  have hm : min 3 (nd - dp) = nd - dp := by omega
  rw [hm, Nat.min_self, Nat.sub_self, List.replicate_zero, List.append_nil]
  rw [List.drop_append_of_le_length (by omega), List.take_append_of_le_length (by rw [List.length_drop]; omega)]
  have hF : (D.drop dp).take (nd - dp) = (D.drop dp).take (nd - dp - 1) ++ [b] := by
   have e : nd - dp = (nd - dp - 1) + 1 := by omega
   conv => lhs; rw [e]
   rw [List.take_add_one]
   have : (D.drop dp)[nd - dp - 1]? = some b := by rw [List.getElem?_drop, show dp + (nd - dp - 1) = nd - 1 by omega]; exact hb
   rw [this]
   rfl
  rw [hF]
  have e2 : I ++ ([46] ++ ((D.drop dp).take (nd - dp - 1) ++ [b]) ++ List.replicate (3 - (nd - dp)) 48) = (I ++ [46] ++ (D.drop dp).take (nd - dp - 1)) ++ [b] ++ List.replicate (3 - (nd - dp)) 48 := by simp
  rw [e2, stripZ_rep, stripZ_ne _ hne]
  unfold stripP
  rw [if_neg (by rw [List.getLast?_append]; simp; exact hge b (List.mem_of_getElem? hb))]
  simp
 ·rw [if_neg (by omega), List.append_nil]
  have hm : min 3 (nd - dp) = 0 := by omega
  rw [hm, List.take_zero, List.append_nil, Nat.sub_zero, ← List.append_assoc, stripZ_rep, stripZ_ne _ (by decide)]
  unfold stripP
  rw [if_pos (by simp)]
  simp
end Go.Proofs.YtfonjeoiallhhaaGreatDoor
/- strconv.FormatFloat at 'f', -1, 64 for eighths up to 400. Printed by wip/tools/gen_fgv.py. -/
set_option maxRecDepth 100000
set_option maxHeartbeats 1000000
namespace Go.Proofs.YtfonjeoiallhhaaGreatDoor
open Go.Shelf Go.RowKit Go.Sort Go.Lib
def mS (x : Nat) : Nat := mtN x * 2048
def pwS (x : Nat) : Bool := decide (mS x = 9223372036854775808)
def eS (x : Nat) : Int := EI x - 63
def pS (x : Nat) : Int := if pwS x = true then -(((eS x + 11) * 631305 - 261663) / 2097152) else -((eS x + 11) * 78913 / 262144)
def shS (x : Nat) : Nat := (-(eS x + pS x * 108853 / 32768 + 3)).toNat
def aS (x : Nat) : Nat := mS x - (if pwS x = true then 512 else 1024)
def okS (x : Nat) : Prop := x = 0 ∨ (4096 ≤ mS x ∧ mS x < 18446744073709500000 ∧ bits BinOp.and IntKind.i64 ((mS x / 2048 : Nat) : Int) 1 = 0 ∧ (pS x = 15 ∨ pS x = 16 ∨ pS x = 17) ∧ -(eS x + pS x * 108853 / 32768 + 3) = (shS x : Int) ∧ shS x < 64 ∧ aS x + (if pwS x = true then 512 else 1024) = mS x ∧
 us (aS x) (hiP (pS x)) (shS x) < 4611686018427387000 ∧ us (mS x + 1024) (hiP (pS x)) (shS x) < 4611686018427387000 ∧ (us (aS x) (hiP (pS x)) (shS x) + 3) / 4 ≤ us (mS x + 1024) (hiP (pS x)) (shS x) / 4 / 10 * 10 ∧ us (mS x + 1024) (hiP (pS x)) (shS x) / 4 / 10 = 125 * x * 10 ^ (pS x - 4).toNat)
instance : DecidablePred okS := fun r => by unfold okS; infer_instance
theorem okS_all : ∀ r ∈ List.range 401, okS r := by decide +kernel
theorem shorts_ne_all : (List.range 401).all (fun r => !(shorts r).data.toList.isEmpty) = true := by decide +kernel
theorem shorts_ne {r : Nat} (h : r ≤ 400) : (shorts r).data.toList ≠ [] := by
 have := List.all_eq_true.1 shorts_ne_all r (List.mem_range.2 (by omega))
 intro e
 rw [e] at this
 simp at this
theorem formatShort_in (r : Nat) (hne : (shorts r).data.toList ≠ []) (w : World)
  (hft : ∀ (B : Nat) (s0 : Value) (wz : World), B ≤ wz.heap.size → Own ul 5 1 wz B s0 [] → Below w.heap.size w wz → Calls Tryz.prog 74 #[s0, .float .f64 (e8 r), .int .u8 102, .int .i64 (-1)] wz fun e w' => ∃ (s : Value), e = .returned s ∧ Own ul 5 1 w' B s (shorts r).data.toList ∧ Below B wz w') :
  Calls Tryz.prog 64 #[.float .f64 (e8 r), .int .u8 102, .int .i64 (-1), .int .i64 64] w fun e w' => e = .returned (.string (shorts r)) ∧ Below w.heap.size w w' := by
 refine calls_of_ev Tryz.func64 rfl (show 4 ≤ 33 from by decide) ?_
 intro a hE
 have hE : Ev 33 ((0, .float .f64 (e8 r)) :: (1, .int .u8 102) :: (2, .int .i64 (-1)) :: (3, .int .i64 64) :: []) a := hE
 refine wp_seq ?_
 refine wp_region_lit ?_
 refine ev_ac hE (by decide) ?_
 intro a hE
 refine nx1 ?_
 refine wp_seq ?_
 refine wp_seq ?_
 refine wp_region_lit ?_
 refine ev_r (w' := w) hE (ex_mv (hE.get 3 rfl)) fun a hE => ?_
 refine ev_r (v := .bool false) (w' := w) hE (by simp only [execOp, hE.get 9 rfl]; go_simp) fun a hE => ?_
 refine nx1 ?_
 refine wp_cond_split (hE.get 10 rfl) (fun h => by cases h) (fun _ => ?_)
 refine wp_skip ?_
 show Code.wp _ _ _ _ _
 refine wp_seq ?_
 refine wp_seq ?_
 refine wp_region_lit ?_
 refine ev_r (w' := w) hE (ex_mv (hE.get 3 rfl)) fun a hE => ?_
 refine ev_r (v := .bool true) (w' := w) hE (by simp only [execOp, hE.get 21 rfl]; go_simp) fun a hE => ?_
 refine nx1 ?_
 refine wp_cond_split (hE.get 22 rfl) (fun _ => ?_) (fun h => by cases h)
 refine wp_seq ?_
 refine wp_region_lit ?_
 refine ev_r (w' := w) hE (ex_mv (hE.get 2 rfl)) fun a hE => ?_
 refine ev_r (v := .int .i64 3) (w' := w) hE (ei_add (hE.get 23 rfl) rfl (by decide)) fun a hE => ?_
 refine ev_r (v := .int .i64 24) (w' := w) hE (fx_max (hE.get 24 rfl) rfl (by decide)) fun a hE => ?_
 obtain ⟨w1, hmk, hown, hb1⟩ := mk24 w
 refine ev_r (v := .slice (some ⟨w.heap.size, 0, none⟩) 0 24) (w' := w1) hE (by simp only [execOp, hE.get 25 rfl]; have e0 : a.eval (.const (.int .i64 0)) = .int .i64 0 := rfl; simp [e0, hmk, Result.andThen]) fun a hE => ?_
 refine ev_r (w' := w1) hE (ex_mv (hE.get 0 rfl)) fun a hE => ?_
 refine ev_r (w' := w1) hE (ex_mv (hE.get 1 rfl)) fun a hE => ?_
 refine ev_r (w' := w1) hE (ex_mv (hE.get 2 rfl)) fun a hE => ?_
 refine ev_call (S := fun u w' => Own ul 5 1 w' w.heap.size u (shorts r).data.toList ∧ Below w.heap.size w1 w') hE rfl rfl (by decide) (f := 74) (args := #[.slice (some ⟨w.heap.size, 0, none⟩) 0 24, .float .f64 (e8 r), .int .u8 102, .int .i64 (-1)]) (by simp only [execOp, resolve, List.map_toArray, List.map_cons, List.map_nil, hE.get 26 rfl, hE.get 27 rfl, hE.get 28 rfl, hE.get 29 rfl]; go_simp) ((hft w.heap.size _ w1 hb1.size hown hb1).mono (by rintro e w' ⟨s, rfl, h⟩; exact ⟨_, rfl, h⟩)) ?_
 rintro a s w2 ⟨hown2, hb2⟩ hE
 refine ev_r (v := .string (shorts r)) (w' := w2) hE (by simp only [execOp, hE.get 30 rfl]; exact run_andValue (cv_own hown2 hne)) fun a hE => ?_
 refine ev_as hE (hE.get 31 rfl) (by decide) ?_
 intro a hE
 refine nx1 ?_
 refine wp_ret ?_
 simp only [Exit.then]
 exact ret_of_ev hE rfl (hE.get 8 rfl) ⟨rfl, hb1.trans hb2⟩
theorem formatShort_out (r : Nat) (w : World) (hin : Calls Tryz.prog 64 #[.float .f64 (e8 r), .int .u8 102, .int .i64 (-1), .int .i64 64] w fun e w' => e = .returned (.string (shorts r)) ∧ Below w.heap.size w w') :
  Calls Tryz.prog 56 #[.float .f64 (e8 r), .int .u8 102, .int .i64 (-1), .int .i64 64] w fun e w' => e = .returned (.string (shorts r)) ∧ Below w.heap.size w w' := by
 refine calls_of_ev Tryz.func56 rfl (show 4 ≤ 14 from by decide) ?_
 intro a hE
 have hE : Ev 14 ((0, .float .f64 (e8 r)) :: (1, .int .u8 102) :: (2, .int .i64 (-1)) :: (3, .int .i64 64) :: []) a := hE
 refine wp_seq ?_
 refine wp_region_lit ?_
 refine ev_ac hE (by decide) ?_
 intro a hE
 refine nx3 ?_
 refine ev_r (w' := w) hE (ex_mv (hE.get 0 rfl)) fun a hE => ?_
 refine ev_r (w' := w) hE (ex_mv (hE.get 1 rfl)) fun a hE => ?_
 refine ev_r (w' := w) hE (ex_mv (hE.get 2 rfl)) fun a hE => ?_
 refine ev_r (w' := w) hE (ex_mv (hE.get 3 rfl)) fun a hE => ?_
 refine ev_call (S := fun u w' => u = .string (shorts r) ∧ Below w.heap.size w w') hE rfl rfl (by decide) (f := 64) (args := #[.float .f64 (e8 r), .int .u8 102, .int .i64 (-1), .int .i64 64]) (by simp only [execOp, resolve, List.map_toArray, List.map_cons, List.map_nil, hE.get 9 rfl, hE.get 10 rfl, hE.get 11 rfl, hE.get 12 rfl]; go_simp) (hin.mono (by rintro e w' ⟨rfl, h⟩; exact ⟨_, rfl, rfl, h⟩)) ?_
 rintro a u w1 ⟨rfl, hb⟩ hE
 refine ev_as hE (hE.get 13 rfl) (by decide) ?_
 intro a hE
 refine nx1 ?_
 refine wp_ret ?_
 exact ret_of_ev hE rfl (hE.get 8 rfl) ⟨rfl, hb⟩

/-- What the tables hold. -/
structure FfTab2 (w : World) : Prop where
 ff : FfTab w
 pm : PmTab2 w
theorem ftoa_short_any (r : Nat) (h1 : 1 ≤ r) (h2 : r ≤ 400) (w : World) (hT : ∀ w', Below w.heap.size w w' → FfTab2 w') (B : Nat) (s0 : Value) (hB : B ≤ w.heap.size) (hs0 : Own ul 5 1 w B s0 []) : Calls Tryz.prog 74 #[s0, .float .f64 (e8 r), .int .u8 102, .int .i64 (-1)] w fun e w' => ∃ (s : Value), e = .returned s ∧ Own ul 5 1 w' B s (shorts r).data.toList ∧ Below B w w' := by
 rcases okP_all r (List.mem_range.2 (by omega)) with h | ⟨q1, q2, q3, q4, q5, q6, q7, q8, q9, _⟩
 ·omega
 rcases okS_all r (List.mem_range.2 (by omega)) with h | ⟨p1, p2, p3, p4, p5, p6, p7, p8, p9, p10, p11⟩
 ·omega
 have s1 : e8 r / 4503599627370496 = exN r := by unfold exN; rfl
 have s2 : frN r < 4503599627370496 := by unfold frN; exact Nat.mod_lt _ (by decide)
 have s3 : mtN r = frN r + 4503599627370496 := by unfold mtN; rfl
 have s4 : (exN r : Int) - 1023 = EI r := by unfold EI; rfl
 have s5 : mtN r * 2048 = mS r := by unfold mS; rfl
 have s6 : eS r = EI r - 63 := by unfold eS; rfl
 have s7 : pwS r = decide (mS r = 9223372036854775808) := by unfold pwS; rfl
 have s8 : (if pwS r = true then -(((eS r + 11) * 631305 - 261663) / 2097152) else -((eS r + 11) * 78913 / 262144)) = pS r := by unfold pS; rfl
 generalize e8 r = X at *
 generalize exN r = ex at *
 generalize frN r = fr at *
 generalize mtN r = mt at *
 generalize EI r = E at *
 generalize mS r = m at *
 generalize eS r = e at *
 generalize pS r = p at *
 generalize pwS r = pw at *
 generalize shS r = sh at *
 generalize aS r = a at *
 obtain ⟨k, hk⟩ : ∃ k, k = (p - 4).toNat := ⟨_, rfl⟩
 have hkp : p = k + 4 := by omega
 obtain ⟨d, hd⟩ : ∃ d, d = 125 * r * 10 ^ k := ⟨_, rfl⟩
 have hdd : decDigits d = decDigits (125 * r) ++ List.replicate k 48 := by rw [hd]; exact dd_ten (125 * r) (by omega) k
 have hd1 : 1 ≤ d := by rw [hd]; exact Nat.mul_pos (by omega) (Nat.pow_pos (by decide))
 have hl5 := dd_len_le 4 (125 * r) (by omega)
 have hl3 : 3 ≤ (decDigits (125 * r)).length := by rw [dd_three (125 * r) (by omega)]; simp
 have hnl : nDigits d = (decDigits (125 * r)).length + k := by rw [← decDigits_length, hdd]; simp
 rw [← hk, ← hd] at p11
 obtain ⟨b0, hb0, hb1⟩ := dd_head d hd1
 refine (ftoa64_short X ex fr mt m d (nDigits d) ((decDigits (125 * r)).length - 3) E (-(p - 1)) q1 s1 q2 q3 q4 q5 q6 s2 s4 (by omega) q9 (by omega) (by omega) s5 B s0 w hB hs0 (fun w' hb => (hT w' hb).ff.pow) ?_ (by omega) (by omega) (by omega) rfl (by omega) (by omega) (lt_pow_nDigits _) b0 hb0 hb1 (by omega) (by omega) ?_).mono ?_
 ·intro w' hb
  rw [← s6]
  exact shortFloat_any m e p pw sh a (m + 1024) _ _ d p1 p2 p3 s7 (by omega) p4 s8 p5 p6 p7 rfl rfl rfl p8 p9 p11.symm (by rw [← p11]; exact p10) w' (fun w'' hb' => (hT w'' (hb.trans (hb'.mono hb.size))).pm)
 ·intro nd hz
  rw [hdd] at hz
  rcases Nat.eq_zero_or_pos nd with h | h
  ·omega
  ·have := lst_le h hz
   omega
 ·rintro e w' ⟨s, nd, rfl, hz, hn1, _, hown, hb⟩
  refine ⟨s, rfl, ?_, hb⟩
  rw [hdd] at hz hown
  rw [efg_short r nd k h1 hn1 hz] at hown
  exact hown
theorem shorts_zero : Q.efg (-1) [] 0 0 = (shorts 0).data.toList := by decide +kernel
theorem formatShort_any (r : Nat) (h2 : r ≤ 400) (w : World) (hT : ∀ w', Below w.heap.size w w' → FfTab2 w') : Calls Tryz.prog 56 #[.float .f64 (e8 r), .int .u8 102, .int .i64 (-1), .int .i64 64] w fun e w' => e = .returned (.string (shorts r)) ∧ Below w.heap.size w w' := by
 refine formatShort_out r w (formatShort_in r (shorts_ne h2) w fun B s0 wz hB hs hbz => ?_)
 rcases Nat.eq_zero_or_pos r with h | h
 ·subst h
  have h := ftoa64_zero B s0 wz hB hs
  rw [shorts_zero] at h
  exact h
 ·exact ftoa_short_any r h h2 wz (fun w' hb => hT w' (hbz.trans (hb.mono hbz.size))) B s0 hB hs
end Go.Proofs.YtfonjeoiallhhaaGreatDoor
/- The laid tables, off the row's condition. -/
namespace Go.Proofs.YtfonjeoiallhhaaGreatDoor
open Go.Shelf Go.RowKit Go.Sort Go.Lib
abbrev laid8 : List (String × DataW Unit) := [("math/bits.deBruijn32tab", Rows.laid_math_bits_deBruijn32tab), ("math/bits.deBruijn64tab", Rows.laid_math_bits_deBruijn64tab), ("internal/strconv.optimize", Rows.laid_internal_strconv_optimize), ("internal/strconv.uint64pow10", Rows.laid_internal_strconv_uint64pow10), ("bytes.ErrTooLarge", Rows.laid_bytes_ErrTooLarge), ("loop.example/pub-g03455/pub/m3u8.ErrPlaylistFull", Rows.laid_loop_example_pub_g03455_pub_m3u8_ErrPlaylistFull), ("internal/strconv.leftcheats", Rows.laid_internal_strconv_leftcheats), ("internal/strconv.pow10Tab", Rows.laid_internal_strconv_pow10Tab)]
theorem pm_struct : ∃ fs : Array Field, Tryz.prog.underlying 193 = some (.struct fs) ∧ fs.size = 2 ∧ (fs[0]?).map (fun f => (f.type, f.offset)) = some (25, 0) ∧ (fs[1]?).map (fun f => (f.type, f.offset)) = some (25, 1) := ⟨_, Tryz.underlying193, rfl, rfl, rfl⟩
theorem c64 : Tryz.prog.cellsOf 25 = 1 := by kernel_rfl
theorem cpm : Tryz.prog.cellsOf 193 = 2 := by kernel_rfl
theorem ctab : Tryz.prog.cellsOf 194 = 1392 := by kernel_rfl
/-- One row of the table. -/
theorem row_at {w : World} {base fuel i : Nat} {sp : Nat → Bool} {cs : List Value} {hi lo : Int} {p : List MemPlace} {rows : List (Nat × Nat)} {x : Nat × Nat}
  (h : DataW.trod (fun _ => ()) Tryz.prog w base sp false fuel 194 cs = some (.agg (rows.map fun x => .agg [.lit (.int .u64 x.1), .lit (.int .u64 x.2)]), p)) (hx : rows[i]? = some x) (hi696 : i < 696) :
  cs[i * 2]? = some (.int .u64 x.1) ∧ cs[i * 2 + 1]? = some (.int .u64 x.2) := by
 obtain ⟨fs, hst, hsz, hf0, hf1⟩ := pm_struct
 cases fuel with
 | zero => simp [DataW.trod] at h
 | succ fuel =>
  simp only [DataW.trod, Tryz.underlying194, cpm, ctab] at h
  split at h
  ·obtain ⟨xs, hm, he⟩ := Option.map_eq_some_iff.1 h
   have hxs := congrArg Prod.fst he
   simp only [DataW.agg.injEq] at hxs
   obtain ⟨b, hb, hf⟩ := mapM_at hm i i (by simp [hi696])
   have h2 : (xs.map (·.1))[i]? = some b.1 := by rw [List.getElem?_map, hb]; rfl
   rw [hxs, List.getElem?_map, hx] at h2
   have hb1 := Option.some.inj h2
   cases fuel with
   | zero => simp [DataW.trod] at hf
   | succ fuel =>
    simp only [DataW.trod, hst, cpm] at hf
    split at hf
    ·obtain ⟨ys, hm2, he2⟩ := Option.map_eq_some_iff.1 hf
     have hys : (DataW.agg (ys.map (·.1)) : DataW Unit) = b.1 := congrArg Prod.fst he2
     rw [← hb1, DataW.agg.injEq] at hys
     have hfl : fs.toList.length = 2 := by rw [Array.length_toList, hsz]
     obtain ⟨f0, e0⟩ : ∃ f, fs.toList[0]? = some f := ⟨_, List.getElem?_eq_getElem (by omega)⟩
     obtain ⟨f1, e1⟩ : ∃ f, fs.toList[1]? = some f := ⟨_, List.getElem?_eq_getElem (by omega)⟩
     have g0 : fs[0]? = some f0 := by simpa using e0
     have g1 : fs[1]? = some f1 := by simpa using e1
     rw [g0] at hf0
     rw [g1] at hf1
     have t0 := Option.some.inj hf0
     have t1 := Option.some.inj hf1
     simp only [Prod.mk.injEq] at t0 t1
     obtain ⟨y0, hy0, q0⟩ := mapM_at hm2 0 f0 e0
     obtain ⟨y1, hy1, q1⟩ := mapM_at hm2 1 f1 e1
     rw [t0.1, t0.2, c64] at q0
     rw [t1.1, t1.2, c64] at q1
     obtain ⟨z0, hc0, rfl, _⟩ := DataW.trod_int Tryz.underlying25 q0
     obtain ⟨z1, hc1, rfl, _⟩ := DataW.trod_int Tryz.underlying25 q1
     have r0 : (ys.map (·.1))[0]? = some (DataW.lit (.int .u64 z0) : DataW Unit) := by rw [List.getElem?_map, hy0]; rfl
     have r1 : (ys.map (·.1))[1]? = some (DataW.lit (.int .u64 z1) : DataW Unit) := by rw [List.getElem?_map, hy1]; rfl
     rw [hys] at r0 r1
     simp only [List.getElem?_cons_zero, List.getElem?_cons_succ, Option.some.injEq, DataW.lit.injEq, Lit.int.injEq, true_and] at r0 r1
     have k0 := congrArg (·[0]?) hc0
     have k1 := congrArg (·[0]?) hc1
     simp [List.getElem?_take, List.getElem?_drop] at k0 k1
     rw [r0, r1]
     exact ⟨by simpa using k0, by simpa using k1⟩
    ·cases hf
  ·cases h
theorem row351 : Pinned.pow10Rows[351]? = some (18014398509481984000, 0) := by kernel_rfl
theorem row352 : Pinned.pow10Rows[352]? = some (11258999068426240000, 0) := by kernel_rfl
theorem row363 : Pinned.pow10Rows[363]? = some (16384000000000000000, 0) := by kernel_rfl
theorem row364 : Pinned.pow10Rows[364]? = some (10240000000000000000, 0) := by kernel_rfl
theorem row365 : Pinned.pow10Rows[365]? = some (12800000000000000000, 0) := by kernel_rfl
theorem ff2_of_laid {W : World} (h : laidMetH Tryz.prog laid8 W) : FfTab2 W := by
 rw [Go.MakeChecks.laidMetH_plain _ _ _ (by kernel_rfl)] at h
 obtain ⟨ps, h, _⟩ := h
 obtain ⟨_, _, _, _, _, _, _, _, _, _, h, _⟩ := h
 obtain ⟨_, _, _, _, _, _, _, _, _, _, h, _⟩ := h
 obtain ⟨g3, t3, cs3, fuel3, p3, q3, hg3, ht3, hv3, hd3, h, _⟩ := h
 obtain ⟨g4, t4, cs4, fuel4, p4, q4, hg4, ht4, hv4, hd4, h, _⟩ := h
 obtain ⟨_, _, _, _, _, _, _, _, _, _, h, _⟩ := h
 obtain ⟨_, _, _, _, _, _, _, _, _, _, h, _⟩ := h
 obtain ⟨_, _, _, _, _, _, _, _, _, _, h, _⟩ := h
 obtain ⟨g7, t7, cs7, fuel7, p7, q7, hg7, ht7, hv7, hd7, h, _⟩ := h
 have n3 : Tryz.prog.globalNamed "internal/strconv.optimize" = some 4 := by kernel_rfl
 have n4 : Tryz.prog.globalNamed "internal/strconv.uint64pow10" = some 3 := by kernel_rfl
 have n7 : Tryz.prog.globalNamed "internal/strconv.pow10Tab" = some 7 := by kernel_rfl
 obtain rfl := Option.some.inj (n3.symm.trans hg3)
 obtain rfl := Option.some.inj (n4.symm.trans hg4)
 obtain rfl := Option.some.inj (n7.symm.trans hg7)
 obtain rfl := Option.some.inj ((show (Tryz.prog.globals[4]?).map (·.type) = some 4 by kernel_rfl).symm.trans ht3)
 obtain rfl := Option.some.inj ((show (Tryz.prog.globals[3]?).map (·.type) = some 152 by kernel_rfl).symm.trans ht4)
 obtain rfl := Option.some.inj ((show (Tryz.prog.globals[7]?).map (·.type) = some 194 by kernel_rfl).symm.trans ht7)
 have hpow : PowTab W := by
  show W.var? Tryz.prog "internal/strconv.uint64pow10" = some (pow10Tab.map fun z => Value.int .u64 z).toArray
  rw [hv4, ← cells_of_tab (zs := pow10Tab) Tryz.underlying152 Tryz.underlying25 c64 (by kernel_rfl) hd4]
 obtain ⟨b, hb, hx⟩ := DataW.trod_bool Tryz.underlying4 hd3
 have hbt : b = true := by
  have h5 : (DataW.lit (.bool true) : DataW Unit) = .lit (.bool b) := congrArg Prod.fst hx
  simp only [DataW.lit.injEq, Lit.bool.injEq] at h5
  exact h5.symm
 have hopt : W.cell? ⟨4, 0, none⟩ = some (.bool true) := by
  rw [World.var?_cell n3 hv3 0]
  have : cs3[0]? = cs3.toList[0]? := by simp
  rw [this, hb, hbt]
  rfl
 have hrow : ∀ (i : Nat) (x : Nat × Nat), Pinned.pow10Rows[i]? = some x → i < 696 → W.cell? ⟨7, i * 2, none⟩ = some (.int .u64 x.1) ∧ W.cell? ⟨7, i * 2 + 1, none⟩ = some (.int .u64 x.2) := by
  intro i x hx hi
  obtain ⟨h1, h2⟩ := row_at (hi := 0) (lo := 0) hd7 hx hi
  rw [World.var?_cell n7 hv7, World.var?_cell n7 hv7]
  exact ⟨by simpa using h1, by simpa using h2⟩
 obtain ⟨a1, a2⟩ := hrow 351 _ row351 (by decide)
 obtain ⟨a3, a4⟩ := hrow 352 _ row352 (by decide)
 obtain ⟨b1, b2⟩ := hrow 363 _ row363 (by decide)
 obtain ⟨b3, b4⟩ := hrow 364 _ row364 (by decide)
 obtain ⟨b5, b6⟩ := hrow 365 _ row365 (by decide)
 exact ⟨⟨hpow, ⟨a1, a2, a3, a4⟩, hopt⟩, ⟨b1, b2, b3, b4, b5, b6⟩⟩
end Go.Proofs.YtfonjeoiallhhaaGreatDoor
