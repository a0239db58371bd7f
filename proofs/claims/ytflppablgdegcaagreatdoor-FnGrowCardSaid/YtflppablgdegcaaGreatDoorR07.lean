/- Joined: En, Lb, Zu, Rf, Rg, Spc. -/
import Derived.Test.YtflppablgdegcaaGreatDoorR06
import Derived.Test.YtflppablgdegcaaGreatDoorLays
import Derived.Lib.LaidTab
import Derived.Lib.Space
import Derived.LaidEql
import Derived.Lib.AtoiErrMem
import Derived.Lib.SlBytesRow
import Derived.Scope
namespace Go.Proofs.YtflppablgdegcaaGreatDoor
open Go.RowKit
structure Ge where
 eof : Addr
 full : Addr
 pow : Addr
 pn : Nat
 pc : Nat
abbrev errES : TypeId := 137
def eofV (G : Ge) : Value := .iface errES (.pointer (some G.eof))
def fullV (G : Ge) : Value := .iface errES (.pointer (some G.full))
def p10bits : List Nat := [4607182418800017408, 4621819117588971520, 4636737291354636288, 4652007308841189376, 4666723172467343360, 4681608360884174848, 4696837146684686336, 4711630319722168320, 4726483295884279808, 4741671816366391296, 4756540486875873280, 4771362005757984768, 4786511204640096256, 4801453603149578240, 4816244402031689728, 4831355200913801216, 4846369599423283200, 4861130398305394688, 4876203697187506176, 4891288408196988160, 4906019910204099648, 4921056587992461136, 4936209963552724370]
theorem gnB : Tryz.prog.globalNamed "bytes.asciiSpace" = some 2 := by kernel_rfl
theorem gnS : Tryz.prog.globalNamed "strings.asciiSpace" = some 6 := by kernel_rfl
structure Env (B : Nat) (G : Ge) (w : World) : Prop where
 ge : 24 ≤ B
 le : B ≤ w.heap.size
 tabB : Lib.TabIs Tryz.prog w "bytes.asciiSpace" .u8 Lib.asciiSpaceTab
 tabS : Lib.TabIs Tryz.prog w "strings.asciiSpace" .u8 Lib.asciiSpaceTab
 eof : w.cell? ⟨1, 0, none⟩ = some (eofV G)
 full : w.cell? ⟨4, 0, none⟩ = some (fullV G)
 opt : w.cell? ⟨14, 0, none⟩ = some (.bool true)
 bits : w.cell? ⟨15, 0, none⟩ = some (.int .u64 52)
 pow : w.cell? ⟨18, 0, none⟩ = some (.slice (some G.pow) G.pn G.pc)
 powB : G.pow.block < B
 powN : 23 ≤ G.pn
 pows : ∀ i x, p10bits[i]? = some x → w.cell? (G.pow.add i) = some (.float .f64 x)
theorem Env.keep {B : Nat} {G : Ge} {w w' : World} {X : Nat → Prop} (h : Env B G w) (ho : Only X w w') (hX : ∀ g, X g → B ≤ g) : Env B G w' := by
 have hb : ∀ g, g < B → w'.heap[g]? = w.heap[g]? := fun g hg => ho.block g (Nat.lt_of_lt_of_le hg h.le) fun hx => absurd (hX g hx) (Nat.not_le.2 hg)
 have hc : ∀ (g o : Nat) v, g < B → w.cell? ⟨g, o, none⟩ = some v → w'.cell? ⟨g, o, none⟩ = some v := fun g o v hg hv => by
  rw [World.cell?_of_block (w := w) (hb g hg)]; exact hv
 have hge := h.ge
 refine ⟨h.ge, Nat.le_trans h.le ho.size, ?_, ?_, hc _ _ _ (by omega) h.eof, hc _ _ _ (by omega) h.full, hc _ _ _ (by omega) h.opt, hc _ _ _ (by omega) h.bits, hc _ _ _ (by omega) h.pow, h.powB, h.powN, ?_⟩
 ·have := h.tabB
  unfold Lib.TabIs World.var? at this ⊢
  rw [gnB] at this ⊢
  simp only [Option.bind_some] at this ⊢
  rw [hb _ (by omega)]; exact this
 ·have := h.tabS
  unfold Lib.TabIs World.var? at this ⊢
  rw [gnS] at this ⊢
  simp only [Option.bind_some] at this ⊢
  rw [hb _ (by omega)]; exact this
 ·intro i x hx
  have hblk : (G.pow.add i).block = G.pow.block := by unfold Addr.add; split <;> rfl
  rw [World.cell?_of_block (w := w) (by rw [hblk]; exact hb _ h.powB)]
  exact h.pows i x hx
theorem Env.below {B : Nat} {G : Ge} {w w' : World} (h : Env B G w) (hb : Below w.heap.size w w') : Env B G w' := h.keep (X := fun _ => False) (Only.of_below hb) fun _ hf => hf.elim
section
variable {a : Act} {w : World} {x y : Operand} {dst : Option Nat} {ty : TypeId} {ps : String} {af : Array Edge} {gd : Option (Nat × Bool)} {T' : TypeId}
theorem ne_err_nil (t : TypeId) (v : Value) (w : World) : (binOp .neq 58 (.iface t v) .nilIface).run Tryz.prog w = .ok (.bool true) w := by go_simp
theorem info_of {T : TypeId} {f : TypeInfo → Bool} (h : ((Tryz.prog.info? T).any f) = true) : ∃ i, Tryz.prog.info? T = some i ∧ f i = true := by
 cases hi : Tryz.prog.info? T with
 | none => rw [hi] at h; cases h
 | some i => rw [hi] at h; exact ⟨i, rfl, h⟩
theorem es_info : ∃ i, Tryz.prog.info? 137 = some i ∧ i.comparable = true := info_of (f := fun i => i.comparable) (by kernel_rfl)
theorem es_info2 : ∃ i, Tryz.prog.info? 139 = some i ∧ (fun _ => true) i = true := info_of (f := fun _ => true) (by kernel_rfl)
theorem ex_nileq {t : TypeId} {v : Value} (hx : a.eval x = .nilIface) (hy : a.eval y = .iface t v) : (execOp a.eval ⟨dst, .binOp .eql 58 x y T', ty, ps, af, gd⟩).run Tryz.prog w = .ok (.value (.bool false)) w := by
 have hr := run_eql_iface_nil_left (P := Tryz.prog) w t v Tryz.underlying58
 have hg : (eqGuard .eql 58 x y .nilIface (.iface t v)).run Tryz.prog w = .ok () w := rfl
 simp only [execOp, hx, hy]
 simp [hg, hr, Result.andThen]
theorem ex_sameeq {p : Addr} (hx : a.eval x = .iface errES (.pointer (some p))) (hy : a.eval y = .iface errES (.pointer (some p))) : (execOp a.eval ⟨dst, .binOp .eql 58 x y T', ty, ps, af, gd⟩).run Tryz.prog w = .ok (.value (.bool true)) w := by
 obtain ⟨i, hi, hc⟩ := es_info
 obtain ⟨j, hj, _⟩ := es_info2
 have hr := run_eql_iface_ptr_same (P := Tryz.prog) w p Tryz.underlying58 Tryz.underlying137 hi hc hj
 have hg : (eqGuard .eql 58 x y (.iface errES (.pointer (some p))) (.iface errES (.pointer (some p)))).run Tryz.prog w = .ok () w := rfl
 simp only [execOp, hx, hy]
 simp [hg, hr, Result.andThen]
theorem ex_mi {T : TypeId} {t : Nat} {v : Value} (hx : a.eval (.tmp t) = v) (hC : Tryz.prog.concrete T = true) : (execOp a.eval ⟨dst, .makeInterface T (.tmp t), ty, ps, af, gd⟩).run Tryz.prog w = .ok (.value (.iface T v)) w := by
 simp only [execOp, hx]; exact run_andValue (run_makeInterface w T v hC)
theorem ex_ifne {t : TypeId} {v : Value} (hx : a.eval x = .iface t v) : (execOp a.eval ⟨dst, .binOp .neq 58 x (.const .nilIface) T', ty, ps, af, gd⟩).run Tryz.prog w = .ok (.value (.bool true)) w := by
 simp only [execOp, hx]
 have hr := ne_err_nil t v w
 simp [Act.eval, eqGuard, hr, Result.andThen]
end
theorem hasPrefix_any (s p : ByteArray) (w : World) : Calls Tryz.prog 58 #[.string s, .string p] w fun e w' => e = .returned (.bool (Lib.hasPrefix s.data.toList p.data.toList)) ∧ w' = w := Any.strings_HasPrefix Tryz.lays99 s p w
def Asc (s : ByteArray) : Prop := ∀ (j : Nat) (b : UInt8), s.data.toList[j]? = some b → b.toNat < 128
def trimA (s : ByteArray) : ByteArray := ⟨(Lib.trimSpace s.data.toList).toArray⟩
theorem trimS_any (s : ByteArray) (hs : s.size ≤ 1000000000) (ha : Asc s) {B : Nat} {G : Ge} (w : World) (hE : Env B G w) : Calls Tryz.prog 57 #[.string s] w fun e w' => e = .returned (.string (trimA s)) ∧ Below w.heap.size w w' :=
 Calls.mono (Any.strings_TrimSpace Tryz.lays163 ⟨gnS⟩ s w (by omega) ha hE.tabS) fun e w' ⟨h1, h2⟩ => ⟨h1, by rw [h2]; exact Lib.bytesWorld_below _ _ _⟩
theorem parseU_ok (t : ByteArray) (n : Nat) (hne : t.size ≠ 0) (hs : t.size ≤ 1000000000) (h : Lib.parseUint10 0 t.data.toList = .ok n) (w : World) : Calls Tryz.prog 110 #[.string t, .int .i64 10, .int .i64 64] w fun e w' => e = .returned (.tuple #[.int .u64 n, .nilIface]) ∧ Below w.heap.size w w' :=
 Calls.mono (Any.internal_strconv_ParseUint_10_b64 Tryz.lays287 t hne (by omega) w) fun e w' ⟨h1, h2⟩ => ⟨by rw [h1, h]; rfl, by rw [h2]; exact Lib.bytesWorld_below _ _ _⟩
set_option maxRecDepth 100000
set_option maxHeartbeats 8000000
theorem cv_uint64_uint8 (n : Int) {z : Int} (h : IntKind.u8.wrap n = z) : Cv 24 5 (.int .u64 n) (.int .u8 z) := by subst h; intro w; go_simp
def digs : ByteArray := ⟨#[48, 49, 50, 51, 52, 53, 54, 55, 56, 57]⟩
def IsErr (v : Value) : Prop := ∃ (t : TypeId) (N : Nat), v = .iface t (pt N 0)

theorem parseUint_ok (t : ByteArray) (n : Nat) (hne : t.size ≠ 0) (hs : t.size ≤ 1000000000) (h : Lib.parseUint10 0 t.data.toList = .ok n) (w : World) : Calls Tryz.prog 90 #[.string t, .int .i64 10, .int .i64 64] w fun e w' => e = .returned (.tuple #[.int .u64 n, .nilIface]) ∧ Below w.heap.size w w' := by
 refine calls_of_ev Tryz.func90 rfl (show 3 ≤ 26 from by decide) fun a hE => ?_
 have hE : Ev 26 ((0, .string t) :: (1, .int .i64 10) :: (2, .int .i64 64) :: []) a := hE
 have Z : Sv 26 ((0, .string t) :: (1, .int .i64 10) :: (2, .int .i64 64) :: []) [] (fun _ => False) w a w := Sv.start hE _ _
 clear hE
 refine wr (sv_n 2 Z rfl fun a Z => Z.nx [7, 6, 0, 1, 2] rfl fun Z => sh (wr (sv_n 3 Z rfl fun a Z => sv_callv (v := .tuple #[.int .u64 ((n : Nat) : Int), .nilIface]) Z rfl rfl (by decide) (ex_call3 cf_istrconv_ParseUint (Z.g 11 rfl) (Z.g 12 rfl) (Z.g 13 rfl)) (parseU_ok t n hne hs h _) fun a w1 hbw1 Z => sv_n 5 Z rfl fun a Z => Z.nx [9, 8, 7, 6, 0, 1, 2] rfl fun Z => sh (wp_seq (wr ?_)))))
 refine sv_n 1 Z rfl fun a Z => sv_r (v := .bool false) Z (ex_ine eqi_error (Z.g 17 rfl)) fun a Z => Z.nx [18, 9, 8, 7, 6, 0, 1, 2] rfl fun Z => sh (cond_f (Z.g 18 rfl) (wp_skip (sh (wr (sv_n 3 Z rfl fun a Z => Z.nx [7, 6, 18, 9, 8, 0, 1, 2] rfl fun Z => sh (wp_ret ?_))))))
 try simp only [Exit.inBlock, Exit.then]
 exact ret2_of_ev Z.ev rfl (Z.g 6 rfl) (Z.g 7 rfl) ⟨rfl, Z.toBelow⟩
theorem zzUint64_ok (s : ByteArray) (old n : Nat) (hs : s.size ≤ 1000000000) (hb : ∀ h : 0 < s.size, (s[0]'h).toNat ≠ 32 ∧ (s[0]'h).toNat ≠ 9) (hne : (s.extract 0 (runN (inS digs) s)).size ≠ 0) (h : Lib.parseUint10 0 (s.extract 0 (runN (inS digs) s)).data.toList = .ok n) (w : World) : Calls Tryz.prog 70 #[.string s, .int .u64 ((old : Nat) : Int)] w fun e w' => e = .returned (.tuple #[.int .u64 n, .nilIface]) ∧ Below w.heap.size w w' := by
 have htz : (s.extract 0 (runN (inS digs) s)).size ≤ 1000000000 := by rw [ByteArray.size_extract]; omega
 refine calls_of_ev Tryz.func70 rfl (show 2 ≤ 25 from by decide) fun a hE => ?_
 have hE : Ev 25 ((0, .string s) :: (1, .int .u64 ((old : Nat) : Int)) :: []) a := hE
 have Z : Sv 25 ((0, .string s) :: (1, .int .u64 ((old : Nat) : Int)) :: []) [] (fun _ => False) w a w := Sv.start hE _ _
 clear hE
 refine wr (sv_n 2 Z rfl fun a Z => Z.nx [5, 4, 0, 1] rfl fun Z => sh (wr (sv_n 1 Z rfl fun a Z => sv_callv (v := .tuple #[.string (s.extract 0 (runN (inS digs) s)), .string (s.extract (runN (inS digs) s) s.size)]) Z rfl rfl (by decide) (ex_call2 cf_m3u8_zzToken (Z.g 11 rfl) rfl) (zzToken_any s digs hs (by decide) hb _) fun a w1 hbw1 Z => sv_n 1 Z rfl fun a Z => sv_r (v := .string (s.extract 0 (runN (inS digs) s))) Z (ei_ext (Z.g 10 rfl) rfl) fun a Z => sv_r (v := .string (s.extract (runN (inS digs) s) s.size)) Z (ei_ext (Z.g 10 rfl) rfl) fun a Z => sv_n 2 Z rfl fun a Z => Z.nx [6, 5, 4, 1] rfl fun Z => ?_)))
 refine sh (wr (sv_n 1 Z rfl fun a Z => sv_callv (v := .tuple #[.int .u64 ((n : Nat) : Int), .nilIface]) Z rfl rfl (by decide) (ex_call3 cf_strconv_ParseUint (Z.g 16 rfl) rfl rfl) (parseUint_ok _ n hne htz h _) fun a w2 hbw2 Z => sv_n 5 Z rfl fun a Z => Z.nx [9, 8, 5, 4, 1] rfl fun Z => sh (wp_seq (wr (sv_n 1 Z rfl fun a Z => sv_r (v := .bool false) Z (ex_ine eqi_error (Z.g 20 rfl)) fun a Z => Z.nx [21, 9, 8, 5, 4, 1] rfl fun Z => ?_)))))
 refine sh (cond_f (Z.g 21 rfl) (wp_skip (sh (wr (sv_n 3 Z rfl fun a Z => Z.nx [5, 4, 21, 9, 1] rfl fun Z => sh (wp_ret ?_))))))
 try simp only [Exit.inBlock, Exit.then]
 exact ret2_of_ev Z.ev rfl (Z.g 4 rfl) (Z.g 5 rfl) ⟨rfl, Z.toBelow⟩
theorem zzUint8_ok (s : ByteArray) (old n : Nat) (hn : n ≤ 255) (hs : s.size ≤ 1000000000) (hb : ∀ h : 0 < s.size, (s[0]'h).toNat ≠ 32 ∧ (s[0]'h).toNat ≠ 9) (hne : (s.extract 0 (runN (inS digs) s)).size ≠ 0) (h : Lib.parseUint10 0 (s.extract 0 (runN (inS digs) s)).data.toList = .ok n) (w : World) : Calls Tryz.prog 68 #[.string s, .int .u8 ((old : Nat) : Int)] w fun e w' => e = .returned (.tuple #[.int .u8 n, .nilIface]) ∧ Below w.heap.size w w' := by
 refine calls_of_ev Tryz.func68 rfl (show 2 ≤ 23 from by decide) fun a hE => ?_
 have hE : Ev 23 ((0, .string s) :: (1, .int .u8 ((old : Nat) : Int)) :: []) a := hE
 have Z : Sv 23 ((0, .string s) :: (1, .int .u8 ((old : Nat) : Int)) :: []) [] (fun _ => False) w a w := Sv.start hE _ _
 clear hE
 refine wr (sv_n 2 Z rfl fun a Z => Z.nx [5, 4, 0, 1] rfl fun Z => sh (wr (sv_n 1 Z rfl fun a Z => sv_callv (v := .tuple #[.int .u64 ((n : Nat) : Int), .nilIface]) Z rfl rfl (by decide) (ex_call2 cf_m3u8_zzUint64 (Z.g 9 rfl) rfl) (zzUint64_ok s 0 n hs hb hne h _) fun a w1 hbw1 Z => sv_n 5 Z rfl fun a Z => Z.nx [7, 6, 5, 4, 1] rfl fun Z => sh (wp_seq (wr ?_)))))
 refine sv_n 1 Z rfl fun a Z => sv_r (v := .bool false) Z (ex_ine eqi_error (Z.g 13 rfl)) fun a Z => sv_n 2 Z rfl fun a Z => ?_
 refine sv_g (v := .bool false) Z (Z.g 15 rfl) (ei_gtr (Z.g 16 rfl) rfl (by rw [decide_eq_false_iff_not]; omega)) fun a Z => sv_n 1 Z rfl fun a Z => Z.nx [18, 6, 5, 4, 1] rfl fun Z => sh (cond_f (Z.g 18 rfl) (wp_skip (sh (wr (sv_n 1 Z rfl fun a Z => ?_)))))
 refine sv_r (v := .int .u8 ((n : Nat) : Int)) Z (ex_cv (Z.g 21 rfl) (cv_uint64_uint8 _ (by rw [IntKind.wrap_u8]; omega))) fun a Z => sv_n 2 Z rfl fun a Z => Z.nx [5, 4, 18, 6, 1] rfl fun Z => sh (wp_ret ?_)
 try simp only [Exit.inBlock, Exit.then]
 exact ret2_of_ev Z.ev rfl (Z.g 4 rfl) (Z.g 5 rfl) ⟨rfl, Z.toBelow⟩
theorem cv_uint8_uint64 (n : Int) {z : Int} (h : IntKind.u64.wrap n = z) : Cv 5 24 (.int .u8 n) (.int .u64 z) := by subst h; intro w; go_simp
structure Rf where
 m : Nat
 nd : Nat
 dp : Int
 dot : Bool
 dig : Bool
def Rf.z : Rf := ⟨0, 0, 0, false, false⟩
def Rf.step (r : Rf) (b : UInt8) : Rf :=
 if b.toNat = 46 then { r with dot := true, dp := (r.nd : Int) }
 else if b.toNat = 48 ∧ r.nd = 0 then { r with dig := true, dp := r.dp - 1 }
 else { r with dig := true, nd := r.nd + 1, m := r.m * 10 + (b.toNat - 48) }
def Rf.fits (r : Rf) : Bool := decide (r.m < 1000000000000000000) && decide (r.nd < 19) && decide (-100 ≤ r.dp) && decide (r.dp ≤ 100)
def Rf.go : Rf → List UInt8 → Bool
 | r, [] => r.dig && r.fits
 | r, b :: l => (r.fits && (if b.toNat = 46 then !r.dot else isD b)) && (r.step b).go l
def Rf.of (l : List UInt8) : Rf := l.foldl Rf.step Rf.z
def Rf.exp (r : Rf) : Int := if r.m ≠ 0 then (if r.dot = true then r.dp else (r.nd : Int)) - (r.nd : Int) else 0
def numB (s : ByteArray) : Bool := Rf.z.go s.data.toList && decide (s.size ≤ 30)
theorem go_chars : ∀ (l : List UInt8) (r : Rf), r.go l = true → ∀ b ∈ l, b.toNat = 46 ∨ isD b = true
 | [], _, _, b, hb => by cases hb
 | c :: l, r, h, b, hb => by
  rw [Rf.go, Bool.and_eq_true, Bool.and_eq_true] at h
  rcases List.mem_cons.1 hb with rfl | hb
  ·by_cases e : b.toNat = 46
   ·exact .inl e
   ·rw [if_neg e] at h; exact .inr h.1.2
  ·exact go_chars l _ h.2 b hb
theorem go_pos {l : List UInt8} (h : Rf.z.go l = true) : l ≠ [] := by
 intro e; rw [e] at h; simp [Rf.go, Rf.z] at h
theorem drop_at {s : ByteArray} {i : Nat} (h : i < s.size) : s.data.toList.drop i = s[i]'h :: s.data.toList.drop (i + 1) := by
 have h1 : i < s.data.toList.length := by rw [len_list]; exact h
 rw [List.drop_eq_getElem_cons h1]
 have := at_list h
 rw [List.getElem?_eq_getElem h1] at this
 rw [Option.some.inj this]
theorem num_ne {s : ByteArray} (hN : numB s = true) {i : Nat} (h : i < s.size) (c : Nat) (h1 : c ≠ 46) (h2 : c < 48 ∨ 57 < c) : (s[i]'h).toNat ≠ c := by
 unfold numB at hN
 rw [Bool.and_eq_true] at hN
 have hm : s[i]'h ∈ s.data.toList := List.mem_of_getElem? (at_list h)
 rcases go_chars _ _ hN.1 _ hm with e | e
 ·omega
 ·simp [isD] at e; omega
theorem num_cases {r : Rf} {s : ByteArray} {i : Nat} (hi : i ≤ s.size) (hg : r.go (s.data.toList.drop i) = true) : (i = s.size ∧ r.dig = true ∧ r.fits = true) ∨ (∃ h : i < s.size, r.fits = true ∧ (r.step (s[i]'h)).go (s.data.toList.drop (i + 1)) = true ∧
  (((s[i]'h).toNat = 46 ∧ r.dot = false ∧ r.step (s[i]'h) = { r with dot := true, dp := (r.nd : Int) }) ∨ ((s[i]'h).toNat = 48 ∧ r.nd = 0 ∧ r.step (s[i]'h) = { r with dig := true, dp := r.dp - 1 }) ∨
   ((s[i]'h).toNat = 48 ∧ r.nd ≠ 0 ∧ r.step (s[i]'h) = { r with dig := true, nd := r.nd + 1, m := r.m * 10 + ((s[i]'h).toNat - 48) }) ∨ ((48 < (s[i]'h).toNat ∧ (s[i]'h).toNat ≤ 57) ∧ r.step (s[i]'h) = { r with dig := true, nd := r.nd + 1, m := r.m * 10 + ((s[i]'h).toNat - 48) }))) := by
 rcases Nat.lt_or_ge i s.size with h | h
 ·right
  refine ⟨h, ?_⟩
  rw [drop_at h, Rf.go, Bool.and_eq_true, Bool.and_eq_true] at hg
  obtain ⟨⟨hf, hc⟩, hgo⟩ := hg
  refine ⟨hf, hgo, ?_⟩
  by_cases e : (s[i]'h).toNat = 46
  ·rw [if_pos e] at hc
   exact .inl ⟨e, by simpa using hc, by unfold Rf.step; rw [if_pos e]⟩
  ·rw [if_neg e] at hc
   have hd : 48 ≤ (s[i]'h).toNat ∧ (s[i]'h).toNat ≤ 57 := by simpa [isD] using hc
   by_cases e8 : (s[i]'h).toNat = 48
   ·by_cases en : r.nd = 0
    ·exact .inr (.inl ⟨e8, en, by unfold Rf.step; rw [if_neg e, if_pos ⟨e8, en⟩]⟩)
    ·exact .inr (.inr (.inl ⟨e8, en, by unfold Rf.step; rw [if_neg e, if_neg (fun h => en h.2)]⟩))
   ·exact .inr (.inr (.inr ⟨by omega, by unfold Rf.step; rw [if_neg e, if_neg (fun h => e8 h.1)]⟩))
 ·left
  have : s.data.toList.drop i = [] := List.drop_eq_nil_of_le (by rw [len_list]; omega)
  rw [this, Rf.go, Bool.and_eq_true] at hg
  exact ⟨by omega, hg.1, hg.2⟩
theorem take_next {s : ByteArray} {i : Nat} (h : i < s.size) : Rf.of (s.data.toList.take (i + 1)) = (Rf.of (s.data.toList.take i)).step (s[i]'h) := by
 rw [List.take_add_one, at_list h]
 simp [Rf.of]
theorem ret7_of_ev {N t1 t2 t3 t4 t5 t6 t7 : Nat} {l : List (Nat × Value)} {fn : Func} {R : Ending → World → Prop} {a : Act} {w : World} {v1 v2 v3 v4 v5 v6 v7 : Value} (h : Ev N l a) (hr : fn.results = #[.tmp t1, .tmp t2, .tmp t3, .tmp t4, .tmp t5, .tmp t6, .tmp t7])
  (h1 : a.eval (.tmp t1) = v1) (h2 : a.eval (.tmp t2) = v2) (h3 : a.eval (.tmp t3) = v3) (h4 : a.eval (.tmp t4) = v4) (h5 : a.eval (.tmp t5) = v5) (h6 : a.eval (.tmp t6) = v6) (h7 : a.eval (.tmp t7) = v7)
  (hR : R (.returned (.tuple #[v1, v2, v3, v4, v5, v6, v7])) w) : bodyPost Tryz.prog fn R .ret a w := by
 refine bodyPost_ret (v := .tuple #[v1, v2, v3, v4, v5, v6, v7]) ?_ h.defers hR
 have e1 : a.tmps.getD t1 undef = v1 := h1
 have e2 : a.tmps.getD t2 undef = v2 := h2
 have e3 : a.tmps.getD t3 undef = v3 := h3
 have e4 : a.tmps.getD t4 undef = v4 := h4
 have e5 : a.tmps.getD t5 undef = v5 := h5
 have e6 : a.tmps.getD t6 undef = v6 := h6
 have e7 : a.tmps.getD t7 undef = v7 := h7
 rw [Array.getD_eq_getD_getElem?] at e1 e2 e3 e4 e5 e6 e7
 simp [results, hr, e1, e2, e3, e4, e5, e6, e7]
theorem num_low {s : ByteArray} (hN : numB s = true) {i : Nat} (h : i < s.size) (c : Nat) (hc : (46 ||| 32) ≠ c ∧ (List.range 10).all (fun k => decide (((48 + k) ||| 32) ≠ c)) = true) : ((s[i]'h).toNat ||| 32) ≠ c := by
 unfold numB at hN
 rw [Bool.and_eq_true] at hN
 have hm : s[i]'h ∈ s.data.toList := List.mem_of_getElem? (at_list h)
 rcases go_chars _ _ hN.1 _ hm with e | e
 ·rw [e]; exact hc.1
 ·have e2 : 48 ≤ (s[i]'h).toNat ∧ (s[i]'h).toNat ≤ 57 := by simpa [isD] using e
  have h3 := List.all_eq_true.1 hc.2 ((s[i]'h).toNat - 48) (List.mem_range.2 (by omega))
  rw [show 48 + ((s[i]'h).toNat - 48) = (s[i]'h).toNat from by omega] at h3
  exact of_decide_eq_true h3
theorem eb_true {a : Act} {w : World} {dst : Option Nat} {ty : TypeId} {ps : String} {af : Array Edge} {gd : Option (Nat × Bool)} {y : Operand} {T' : TypeId} {b : Bool} (hy : a.eval y = .bool b) : (execOp a.eval ⟨dst, .binOp .eql 4 (.const (.bool true)) y T', ty, ps, af, gd⟩).run Tryz.prog w = .ok (.value (.bool b)) w := by
 simp only [execOp, hy]
 cases b <;> go_simp
theorem or8_tab : (List.range 256).all (fun n => bits .or .u8 (n : Int) 32 == ((n ||| 32 : Nat) : Int)) = true := by decide +kernel
theorem or8_all (n : Nat) (h : n < 256) : bits .or .u8 (n : Int) 32 = ((n ||| 32 : Nat) : Int) := by simpa using List.all_eq_true.1 or8_tab n (List.mem_range.2 h)
theorem lower_any (n : Nat) (hn : n < 256) (w : World) : Calls Tryz.prog 124 #[.int .u8 n] w fun e w' => e = .returned (.int .u8 ((n ||| 32 : Nat) : Int)) ∧ Below w.heap.size w w' := by
 refine calls_of_ev Tryz.func124 rfl (show 1 ≤ 5 from by decide) fun a hE => ?_
 have hE : Ev 5 ((0, .int .u8 ((n : Nat) : Int)) :: []) a := hE
 have Z : Sv 5 ((0, .int .u8 ((n : Nat) : Int)) :: []) [] (fun _ => False) w a w := Sv.start hE _ _
 clear hE
 refine wr (sv_n 1 Z rfl fun a Z => Z.nx [2, 0] rfl fun Z => sh (wr (sv_n 1 Z rfl fun a Z => sv_r (v := .int .u8 ((n ||| 32 : Nat) : Int)) Z (ei_or (Z.g 3 rfl) rfl (or8_all n hn)) fun a Z => sv_n 1 Z rfl fun a Z => Z.nx [2] rfl fun Z => sh (wp_ret ?_))))
 try simp only [Exit.inBlock, Exit.then]
 exact ret_of_ev Z.ev rfl (Z.g 2 rfl) ⟨rfl, Z.toBelow⟩
theorem readFloat_num (s : ByteArray) (hN : numB s = true) (w : World) : Calls Tryz.prog 128 #[.string s] w fun e w' => e = .returned (.tuple #[.int .u64 (((Rf.of s.data.toList).m : Nat) : Int), .int .i64 (Rf.of s.data.toList).exp, .bool false, .bool false, .bool false, .int .i64 (s.size : Int), .bool true]) ∧ Below w.heap.size w w' := by
 have hN0 := hN
 unfold numB at hN0
 rw [Bool.and_eq_true] at hN0
 obtain ⟨hgo, hsz⟩ := hN0
 have hsz := of_decide_eq_true hsz
 have h0 : 0 < s.size := by
  have := List.length_pos_iff.2 (go_pos hgo)
  rw [len_list] at this; exact this
 have n43 := num_ne hN h0 43 (by decide) (by decide)
 have n45 := num_ne hN h0 45 (by decide) (by decide)
 refine calls_of_ev Tryz.func128 rfl (show 1 ≤ 253 from by decide) fun a hE => ?_
 have hE : Ev 253 ((0, .string s) :: []) a := hE
 have Z : Sv 253 ((0, .string s) :: []) [] (fun _ => False) w a w := Sv.start hE _ _
 clear hE
 refine wr (sv_n 7 Z rfl fun a Z => Z.nx [8, 7, 6, 5, 4, 3, 2, 0] rfl fun Z => sh (wp_scope_straight (wr (sv_n 1 Z rfl fun a Z => Z.nx [9, 8, 7, 6, 5, 4, 3, 2, 0] rfl fun Z => sh (wp_seq (wr (sv_n 2 Z rfl fun a Z => ?_)))))))
 refine sv_r (v := .int .i64 ((s.size : Nat) : Int)) Z (ex_slen (ats := #[]) (Z.g 22 rfl)) fun a Z => ?_
 refine sv_r (v := .bool false) Z (ei_geq (Z.g 21 rfl) (Z.g 23 rfl) (by rw [decide_eq_false_iff_not]; omega)) fun a Z => Z.nx [24, 9, 8, 7, 6, 5, 4, 3, 2, 0] rfl fun Z => sh (cond_f (Z.g 24 rfl) (wp_skip (sh (wp_seq (wr (sv_n 2 Z rfl fun a Z => sv_r (v := .int .u8 (((s[0]'h0).toNat : Nat) : Int)) Z (ex_sidx (Z.g 25 rfl) (Z.g 26 rfl) h0) fun a Z => Z.nx [27, 24, 9, 8, 7, 6, 5, 4, 3, 2, 0] rfl fun Z => sh ?_))))))
 refine wp_block (wr ?_)
 refine sv_r (v := .bool false) Z (ei_eql (Z.g 27 rfl) rfl (by rw [decide_eq_false_iff_not]; omega)) fun a Z => sv_n 1 Z rfl fun a Z => Z.nx [28, 27, 24, 9, 8, 7, 6, 5, 4, 3, 2, 0] rfl fun Z => sh (cond_f (Z.g 28 rfl) (wr ?_))
 refine sv_r (v := .bool false) Z (ei_eql (Z.g 27 rfl) rfl (by rw [decide_eq_false_iff_not]; omega)) fun a Z => sv_n 1 Z rfl fun a Z => Z.nx [32, 28, 27, 24, 9, 8, 7, 6, 5, 4, 3, 2, 0] rfl fun Z => sh (cond_f (Z.g 32 rfl) (wp_skip (sh (wr (sv_n 1 Z rfl fun a Z => Z.nx [10, 32, 28, 27, 24, 9, 8, 7, 6, 5, 4, 3, 2, 0] rfl fun Z => sh (wr ?_))))))
 refine sv_n 1 Z rfl fun a Z => Z.nx [11, 10, 32, 28, 27, 24, 9, 8, 7, 6, 5, 4, 3, 2, 0] rfl fun Z => sh (wr (sv_n 1 Z rfl fun a Z => Z.nx [12, 11, 10, 32, 28, 27, 24, 9, 8, 7, 6, 5, 4, 3, 2, 0] rfl fun Z => sh (wp_seq (wp_seq ?_))))
 refine wp_mono (Q := fun e a' w' => e = .normal ∧ Sv 253 ((54, .bool false) :: (12, .int .u8 101) :: (11, .int .i64 19) :: (10, .int .u64 10) :: (32, .bool false) :: (28, .bool false) :: (27, .int .u8 (((s[0]'h0).toNat : Nat) : Int)) :: (24, .bool false) :: (9, .bool false) :: (8, .bool false) :: (7, .int .i64 0) :: (6, .bool false) :: (5, .bool false) :: (4, .bool false) :: (3, .int .i64 0) :: (2, .int .u64 0) :: (0, .string s) :: []) [] (fun _ => False) w a' w') ?_ ?_
 ·obtain hq | ⟨hq, hq2⟩ | ⟨hq, hq2⟩ : s.size ≤ 2 ∨ (2 < s.size ∧ (s[0]'h0).toNat ≠ 48) ∨ (2 < s.size ∧ (s[0]'h0).toNat = 48) := by omega
  ·have hq2 : ¬ (0 + 2 < s.size) := by omega
   refine wp_region_lit (sv_n 1 Z rfl fun a Z => ?_)
   refine sv_r (v := .int .i64 ((0 + 2 : Nat) : Int)) Z (ei_add (Z.g 36 rfl) rfl (by rw [IntKind.wrap_i64]; omega)) fun a Z => sv_n 1 Z rfl fun a Z => sv_r (v := .int .i64 ((s.size : Nat) : Int)) Z (ex_slen (ats := #[]) (Z.g 38 rfl)) fun a Z => ?_
   refine sv_r (v := .bool false) Z (ei_lss (Z.g 37 rfl) (Z.g 39 rfl) (by rw [decide_eq_false_iff_not]; omega)) fun a Z => sv_n 14 Z rfl fun a Z => wpList_nil ?_
   exact ⟨rfl, Z.pick rfl⟩
  ·have hq3 : ¬ ((s[0]'h0).toNat = 48) := hq2
   refine wp_region_lit (sv_n 1 Z rfl fun a Z => ?_)
   refine sv_r (v := .int .i64 ((0 + 2 : Nat) : Int)) Z (ei_add (Z.g 36 rfl) rfl (by rw [IntKind.wrap_i64]; omega)) fun a Z => sv_n 1 Z rfl fun a Z => sv_r (v := .int .i64 ((s.size : Nat) : Int)) Z (ex_slen (ats := #[]) (Z.g 38 rfl)) fun a Z => ?_
   refine sv_r (v := .bool true) Z (ei_lss (Z.g 37 rfl) (Z.g 39 rfl) (by rw [decide_eq_true_iff]; omega)) fun a Z => sv_n 3 Z rfl fun a Z => sv_g (v := .int .u8 (((s[0]'h0).toNat : Nat) : Int)) Z (Z.g 41 rfl) (ex_sidx (Z.g 42 rfl) (Z.g 43 rfl) h0) fun a Z => ?_
   refine sv_g (v := .bool false) Z (Z.g 41 rfl) (ei_eql (Z.g 44 rfl) rfl (by rw [decide_eq_false_iff_not]; omega)) fun a Z => sv_n 9 Z rfl fun a Z => wpList_nil ?_
   exact ⟨rfl, Z.pick rfl⟩
  ·have h1 : 0 + 1 < s.size := by omega
   have nx : ((s[0 + 1]'h1).toNat ||| 32) ≠ 120 := num_low hN h1 120 (by decide)
   refine wp_region_lit (sv_n 1 Z rfl fun a Z => ?_)
   refine sv_r (v := .int .i64 ((0 + 2 : Nat) : Int)) Z (ei_add (Z.g 36 rfl) rfl (by rw [IntKind.wrap_i64]; omega)) fun a Z => sv_n 1 Z rfl fun a Z => sv_r (v := .int .i64 ((s.size : Nat) : Int)) Z (ex_slen (ats := #[]) (Z.g 38 rfl)) fun a Z => ?_
   refine sv_r (v := .bool true) Z (ei_lss (Z.g 37 rfl) (Z.g 39 rfl) (by rw [decide_eq_true_iff]; omega)) fun a Z => sv_n 3 Z rfl fun a Z => sv_g (v := .int .u8 (((s[0]'h0).toNat : Nat) : Int)) Z (Z.g 41 rfl) (ex_sidx (Z.g 42 rfl) (Z.g 43 rfl) h0) fun a Z => ?_
   refine sv_g (v := .bool true) Z (Z.g 41 rfl) (ei_eql (Z.g 44 rfl) rfl (by rw [decide_eq_true_iff]; omega)) fun a Z => sv_n 4 Z rfl fun a Z => ?_
   refine sv_g (v := .int .i64 ((0 + 1 : Nat) : Int)) Z (Z.g 47 rfl) (ei_add (Z.g 49 rfl) rfl (by rw [IntKind.wrap_i64]; omega)) fun a Z => sv_g (v := .int .u8 (((s[0 + 1]'h1).toNat : Nat) : Int)) Z (Z.g 47 rfl) (ex_sidx (Z.g 48 rfl) (Z.g 50 rfl) h1) fun a Z => sv_gcallv (v := .int .u8 ((((s[0 + 1]'h1).toNat) ||| 32 : Nat) : Int)) Z rfl rfl (Z.g 47 rfl) rfl (by decide) (ex_call1 cf_istrconv_lower (Z.g 51 rfl)) (lower_any _ (UInt8.toNat_lt _) _) fun a w1 hbw1 Z => ?_
   refine sv_g (v := .bool false) Z (Z.g 47 rfl) (ei_eql (Z.g 52 rfl) rfl (by rw [decide_eq_false_iff_not]; omega)) fun a Z => sv_n 1 Z rfl fun a Z => wpList_nil ?_
   exact ⟨rfl, Z.pick rfl⟩
 ·rintro _ a w2 ⟨rfl, Z⟩
  refine sh (cond_f (Z.g 54 rfl) (wp_skip (sh (wr (sv_n 1 Z rfl fun a Z => Z.nx [13, 54, 12, 11, 10, 32, 28, 27, 24, 9, 8, 7, 6, 5, 4, 3, 2, 0] rfl fun Z => sh (wr (sv_n 1 Z rfl fun a Z => Z.nx [14, 13, 54, 12, 11, 10, 32, 28, 27, 24, 9, 8, 7, 6, 5, 4, 3, 2, 0] rfl fun Z => sh ?_)))))))
  refine wr (sv_n 1 Z rfl fun a Z => Z.nx [15, 14, 13, 54, 12, 11, 10, 32, 28, 27, 24, 9, 8, 7, 6, 5, 4, 3, 2, 0] rfl fun Z => sh (wr (sv_n 1 Z rfl fun a Z => Z.nx [16, 15, 14, 13, 54, 12, 11, 10, 32, 28, 27, 24, 9, 8, 7, 6, 5, 4, 3, 2, 0] rfl fun Z => sh (wr (sv_n 1 Z rfl fun a Z => Z.nx [17, 16, 15, 14, 13, 54, 12, 11, 10, 32, 28, 27, 24, 9, 8, 7, 6, 5, 4, 3, 2, 0] rfl fun Z => sh ?_)))))
  refine wp_seq (wp_label (sh (wp_seq (wp_block ?_))))
  refine wp_loop (fun a w' => ∃ (i : Nat) (r : Rf), i ≤ s.size ∧ r = Rf.of (s.data.toList.take i) ∧ r.go (s.data.toList.drop i) = true ∧ Sv 253 ((7, .int .i64 ((i : Nat) : Int)) :: (2, .int .u64 ((r.m : Nat) : Int)) :: (17, .int .i64 (r.dp)) :: (15, .int .i64 ((r.nd : Nat) : Int)) :: (16, .int .i64 ((r.nd : Nat) : Int)) :: (13, .bool (r.dot)) :: (14, .bool (r.dig)) :: (5, .bool false) :: (9, .bool false) :: (10, .int .u64 10) :: (11, .int .i64 19) :: (0, .string s) :: (3, .int .i64 0) :: (4, .bool false) :: (6, .bool false) :: (8, .bool false) :: (12, .int .u8 101) :: []) [] (fun _ => False) w a w') (fun a _ => (s.size + 1 - (intOf (a.eval (.tmp 7))).toNat)) ⟨0, Rf.z, Nat.zero_le _, rfl, hgo, Z.pick rfl⟩ ?_
  clear Z
  rintro a w3 ⟨i, r, hi, hr, hg, Z⟩
  have hS0 := Z.g 7 rfl
  obtain ⟨hie, hdg, hfi⟩ | ⟨hlt, hfi, hgn, hcase | hcase | hcase | hcase⟩ := num_cases hi hg
  ·have hfit : r.m < 1000000000000000000 ∧ r.nd < 19 ∧ -100 ≤ r.dp ∧ r.dp ≤ 100 := by simpa [Rf.fits, and_assoc] using hfi
   refine wp_seq (wr (sv_n 2 Z rfl fun a Z => sv_r (v := .int .i64 ((s.size : Nat) : Int)) Z (ex_slen (ats := #[]) (Z.g 58 rfl)) fun a Z => ?_))
   refine sv_r (v := .bool false) Z (ei_lss (Z.g 57 rfl) (Z.g 59 rfl) (by rw [decide_eq_false_iff_not]; omega)) fun a Z => Z.nx [60, 7, 2, 17, 15, 16, 13, 14, 5, 9, 10, 11, 0, 3, 4, 6, 8, 12] rfl fun Z => sh (cond_f (Z.g 60 rfl) (wp_exit ?_))
   simp only [Exit.inBlock, Exit.then, if_true]
   refine sh (wp_seq (wr (sv_n 1 Z rfl fun a Z => sv_r (v := .bool (!(r.dig))) Z (ex_not (Z.g 139 rfl)) fun a Z => Z.nx [140, 60, 7, 2, 17, 15, 16, 13, 14, 5, 9, 10, 11, 0, 3, 4, 6, 8, 12] rfl fun Z => sh ?_)))
   refine cond_f (show a.eval (.tmp 140) = .bool false from by rw [Z.g 140 rfl, hdg]; rfl) (wp_skip (sh (wp_seq (wr (sv_n 1 Z rfl fun a Z => sv_r (v := .bool (!(r.dot))) Z (ex_not (Z.g 141 rfl)) fun a Z => Z.nx [142, 140, 60, 7, 2, 17, 15, 16, 13, 14, 5, 9, 10, 11, 0, 3, 4, 6, 8, 12] rfl fun Z => sh ?_)))))
   refine if_join (fun a w' => Sv 253 ((17, .int .i64 ((if r.dot = true then r.dp else (r.nd : Int)))) :: (140, .bool (!(r.dig))) :: (60, .bool false) :: (7, .int .i64 ((i : Nat) : Int)) :: (2, .int .u64 ((r.m : Nat) : Int)) :: (15, .int .i64 ((r.nd : Nat) : Int)) :: (16, .int .i64 ((r.nd : Nat) : Int)) :: (13, .bool (r.dot)) :: (14, .bool (r.dig)) :: (5, .bool false) :: (9, .bool false) :: (10, .int .u64 10) :: (11, .int .i64 19) :: (0, .string s) :: (3, .int .i64 0) :: (4, .bool false) :: (6, .bool false) :: (8, .bool false) :: (12, .int .u8 101) :: []) [] (fun _ => False) w a w') (Z.g 142 rfl) ?_ ?_ ?_
   ·intro hb4 Q' hQ'
    refine wp_region_lit (sv_n 2 Z rfl fun a Z => Z.nx [17, 142, 140, 60, 7, 2, 15, 16, 13, 14, 5, 9, 10, 11, 0, 3, 4, 6, 8, 12] rfl fun Z => ?_)
    exact hQ' _ _ (by rw [show (if r.dot = true then r.dp else (r.nd : Int)) = (r.nd : Int) from (if_neg (by intro h; rw [h] at hb4; cases hb4))]; exact Z.pick rfl)
   ·intro hb4 Q' hQ'
    refine wp_skip ?_
    exact hQ' _ _ (by rw [show (if r.dot = true then r.dp else (r.nd : Int)) = r.dp from (if_pos (by cases hd : r.dot with | true => rfl | false => rw [hd] at hb4; cases hb4))]; exact Z.pick rfl)
   ·rintro a w5 Z
    refine sh (wp_seq (wr (sv_n 1 Z rfl fun a Z => ?_)))
    refine sv_r (v := .bool false) Z (ei_eql (Z.g 144 rfl) rfl (by rw [decide_eq_false_iff_not]; omega)) fun a Z => Z.nx [145, 17, 140, 60, 7, 2, 15, 16, 13, 14, 5, 9, 10, 11, 0, 3, 4, 6, 8, 12] rfl fun Z => sh (cond_f (Z.g 145 rfl) (wp_skip (sh (wp_seq (wr (sv_n 2 Z rfl fun a Z => sv_r (v := .int .i64 ((s.size : Nat) : Int)) Z (ex_slen (ats := #[]) (Z.g 151 rfl)) fun a Z => ?_))))))
    refine sv_r (v := .bool false) Z (ei_lss (Z.g 150 rfl) (Z.g 152 rfl) (by rw [decide_eq_false_iff_not]; omega)) fun a Z => sv_n 8 Z rfl fun a Z => Z.nx [161, 145, 17, 140, 60, 7, 2, 15, 16, 13, 14, 5, 9, 10, 11, 0, 3, 4, 6, 8, 12] rfl fun Z => sh (cond_f (Z.g 161 rfl) (wr (sv_n 1 Z rfl fun a Z => ?_)))
    refine sv_r (v := .bool false) Z (ei_eql (Z.g 238 rfl) rfl (by rw [decide_eq_false_iff_not]; omega)) fun a Z => Z.nx [239, 161, 145, 17, 140, 60, 7, 2, 15, 16, 13, 14, 5, 9, 10, 11, 0, 3, 4, 6, 8, 12] rfl fun Z => sh (cond_f (Z.g 239 rfl) (wp_skip (sh (wp_seq (wr (sv_n 1 Z rfl fun a Z => ?_))))))
    refine sv_r (v := .bool (decide ((r.m : Nat) ≠ 0))) Z (ei_neq (Z.g 240 rfl) rfl (by rw [decide_eq_decide]; omega)) fun a Z => Z.nx [241, 239, 161, 145, 17, 140, 60, 7, 2, 15, 16, 13, 14, 5, 9, 10, 11, 0, 3, 4, 6, 8, 12] rfl fun Z => sh ?_
    refine if_join (fun a w' => Sv 253 ((3, .int .i64 (r.exp)) :: (239, .bool false) :: (161, .bool false) :: (145, .bool false) :: (17, .int .i64 ((if r.dot = true then r.dp else (r.nd : Int)))) :: (140, .bool (!(r.dig))) :: (60, .bool false) :: (7, .int .i64 ((i : Nat) : Int)) :: (2, .int .u64 ((r.m : Nat) : Int)) :: (15, .int .i64 ((r.nd : Nat) : Int)) :: (16, .int .i64 ((r.nd : Nat) : Int)) :: (13, .bool (r.dot)) :: (14, .bool (r.dig)) :: (5, .bool false) :: (9, .bool false) :: (10, .int .u64 10) :: (11, .int .i64 19) :: (0, .string s) :: (4, .bool false) :: (6, .bool false) :: (8, .bool false) :: (12, .int .u8 101) :: []) [] (fun _ => False) w a w') (Z.g 241 rfl) ?_ ?_ ?_
    ·intro hb6 Q' hQ'
     have hb6 := of_decide_eq_true hb6
     refine wp_region_lit (sv_n 2 Z rfl fun a Z => ?_)
     refine sv_r (v := .int .i64 ((if r.dot = true then r.dp else (r.nd : Int)) - (r.nd : Int))) Z (ei_sub (Z.g 242 rfl) (Z.g 243 rfl) (by rw [IntKind.wrap_i64]; split <;> omega)) fun a Z => sv_n 1 Z rfl fun a Z => Z.nx [3, 241, 239, 161, 145, 17, 140, 60, 7, 2, 15, 16, 13, 14, 5, 9, 10, 11, 0, 4, 6, 8, 12] rfl fun Z => ?_
     exact hQ' _ _ (by rw [show r.exp = (if r.dot = true then r.dp else (r.nd : Int)) - (r.nd : Int) from (if_pos hb6)]; exact Z.pick rfl)
    ·intro hb6 Q' hQ'
     have hb6 := of_decide_eq_false hb6
     refine wp_skip ?_
     exact hQ' _ _ (by rw [show r.exp = 0 from (if_neg (by simpa using hb6))]; exact Z.pick rfl)
    ·rintro a w7 Z
     refine sh (wp_seq (wr (sv_n 8 Z rfl fun a Z => Z.nx [252, 3, 239, 161, 145, 17, 140, 60, 7, 2, 15, 16, 13, 14, 5, 9, 10, 11, 0, 4, 6, 8, 12] rfl fun Z => sh (cond_f (Z.g 252 rfl) (wp_skip (sh (wr (sv_n 1 Z rfl fun a Z => Z.nx [8, 252, 3, 239, 161, 145, 17, 140, 60, 7, 2, 15, 16, 13, 14, 5, 9, 10, 11, 0, 4, 6, 12] rfl fun Z => ?_))))))))
     refine sh (wp_ret ?_)
     try simp only [Exit.inBlock, Exit.then]
     simp only [Exit.noGoto]
     exact ret7_of_ev Z.ev rfl (Z.g 2 rfl) (Z.g 3 rfl) (Z.g 4 rfl) (Z.g 5 rfl) (Z.g 6 rfl) (Z.g 7 rfl) (Z.g 8 rfl) ⟨by rw [hr, hie, List.take_of_length_le (by rw [len_list]; exact Nat.le_refl _)], Z.toBelow⟩
  ·obtain ⟨hce, hdt, hst⟩ := hcase
   have hfit : r.m < 1000000000000000000 ∧ r.nd < 19 ∧ -100 ≤ r.dp ∧ r.dp ≤ 100 := by simpa [Rf.fits, and_assoc] using hfi
   replace Z : Sv 253 ((7, .int .i64 ((i : Nat) : Int)) :: (2, .int .u64 ((r.m : Nat) : Int)) :: (17, .int .i64 (r.dp)) :: (15, .int .i64 ((r.nd : Nat) : Int)) :: (16, .int .i64 ((r.nd : Nat) : Int)) :: (13, .bool false) :: (14, .bool (r.dig)) :: (5, .bool false) :: (9, .bool false) :: (10, .int .u64 10) :: (11, .int .i64 19) :: (0, .string s) :: (3, .int .i64 0) :: (4, .bool false) :: (6, .bool false) :: (8, .bool false) :: (12, .int .u8 101) :: []) [] (fun _ => False) w a w3 := by have h9 := Z; rw [hdt] at h9; exact h9
   refine wp_seq (wr (sv_n 2 Z rfl fun a Z => sv_r (v := .int .i64 ((s.size : Nat) : Int)) Z (ex_slen (ats := #[]) (Z.g 58 rfl)) fun a Z => ?_))
   refine sv_r (v := .bool true) Z (ei_lss (Z.g 57 rfl) (Z.g 59 rfl) (by rw [decide_eq_true_iff]; omega)) fun a Z => Z.nx [60, 7, 2, 17, 15, 16, 13, 14, 5, 9, 10, 11, 0, 3, 4, 6, 8, 12] rfl fun Z => sh (cond_t (Z.g 60 rfl) (wp_skip (sh (wp_seq (wp_block (wp_seq (wr (sv_n 2 Z rfl fun a Z => sv_r (v := .int .u8 (((s[i]'hlt).toNat : Nat) : Int)) Z (ex_sidx (Z.g 63 rfl) (Z.g 64 rfl) hlt) fun a Z => ?_))))))))
   refine sv_n 1 Z rfl fun a Z => Z.nx [18, 60, 7, 2, 17, 15, 16, 13, 14, 5, 9, 10, 11, 0, 3, 4, 6, 8, 12] rfl fun Z => sh (wp_block (wr (sv_n 1 Z rfl fun a Z => ?_)))
   refine sv_r (v := .bool false) Z (ei_eql (Z.g 67 rfl) rfl (by rw [decide_eq_false_iff_not]; omega)) fun a Z => sv_r (v := .bool false) Z (eb_true (Z.g 68 rfl)) fun a Z => sv_n 1 Z rfl fun a Z => Z.nx [66, 18, 60, 7, 2, 17, 15, 16, 13, 14, 5, 9, 10, 11, 0, 3, 4, 6, 8, 12] rfl fun Z => sh (cond_f (Z.g 66 rfl) (wr (sv_n 1 Z rfl fun a Z => ?_)))
   refine sv_r (v := .bool true) Z (ei_eql (Z.g 71 rfl) rfl (by rw [decide_eq_true_iff]; omega)) fun a Z => sv_r (v := .bool true) Z (eb_true (Z.g 72 rfl)) fun a Z => sv_n 1 Z rfl fun a Z => Z.nx [70, 66, 18, 60, 7, 2, 17, 15, 16, 13, 14, 5, 9, 10, 11, 0, 3, 4, 6, 8, 12] rfl fun Z => sh (cond_t (Z.g 70 rfl) (wp_seq (wr (sv_n 1 Z rfl fun a Z => Z.nx [74, 70, 66, 18, 60, 7, 2, 17, 15, 16, 13, 14, 5, 9, 10, 11, 0, 3, 4, 6, 8, 12] rfl fun Z => sh (cond_f (Z.g 74 rfl) ?_)))))
   refine wp_skip (sh (wr (sv_n 1 Z rfl fun a Z => Z.nx [13, 74, 70, 66, 18, 60, 7, 2, 17, 15, 16, 14, 5, 9, 10, 11, 0, 3, 4, 6, 8, 12] rfl fun Z => sh (wr (sv_n 2 Z rfl fun a Z => Z.nx [17, 13, 74, 70, 66, 18, 60, 7, 2, 15, 16, 14, 5, 9, 10, 11, 0, 3, 4, 6, 8, 12] rfl fun Z => sh (wp_exit (sh ?_)))))))
   refine wp_region_lit (sv_n 1 Z rfl fun a Z => ?_)
   refine sv_r (v := .int .i64 ((i + 1 : Nat) : Int)) Z (ei_add (Z.g 61 rfl) rfl (by rw [IntKind.wrap_i64]; omega)) fun a Z => sv_n 1 Z rfl fun a Z => Z.nx [7, 17, 13, 74, 70, 66, 18, 60, 2, 15, 16, 14, 5, 9, 10, 11, 0, 3, 4, 6, 8, 12] rfl fun Z => ?_
   refine ⟨⟨i + 1, { r with dot := true, dp := (r.nd : Int) }, by omega, by rw [take_next hlt, ← hr, hst], by rw [← hst]; exact hgn, Z.pick rfl⟩, ?_⟩
   have h1 := Z.g 7 rfl; rw [h1]; rw [hS0]; simp only [intOf]; omega
  ·obtain ⟨hce, hnd, hst⟩ := hcase
   have hfit : r.m < 1000000000000000000 ∧ r.nd < 19 ∧ -100 ≤ r.dp ∧ r.dp ≤ 100 := by simpa [Rf.fits, and_assoc] using hfi
   refine wp_seq (wr (sv_n 2 Z rfl fun a Z => sv_r (v := .int .i64 ((s.size : Nat) : Int)) Z (ex_slen (ats := #[]) (Z.g 58 rfl)) fun a Z => ?_))
   refine sv_r (v := .bool true) Z (ei_lss (Z.g 57 rfl) (Z.g 59 rfl) (by rw [decide_eq_true_iff]; omega)) fun a Z => Z.nx [60, 7, 2, 17, 15, 16, 13, 14, 5, 9, 10, 11, 0, 3, 4, 6, 8, 12] rfl fun Z => sh (cond_t (Z.g 60 rfl) (wp_skip (sh (wp_seq (wp_block (wp_seq (wr (sv_n 2 Z rfl fun a Z => sv_r (v := .int .u8 (((s[i]'hlt).toNat : Nat) : Int)) Z (ex_sidx (Z.g 63 rfl) (Z.g 64 rfl) hlt) fun a Z => ?_))))))))
   refine sv_n 1 Z rfl fun a Z => Z.nx [18, 60, 7, 2, 17, 15, 16, 13, 14, 5, 9, 10, 11, 0, 3, 4, 6, 8, 12] rfl fun Z => sh (wp_block (wr (sv_n 1 Z rfl fun a Z => ?_)))
   refine sv_r (v := .bool false) Z (ei_eql (Z.g 67 rfl) rfl (by rw [decide_eq_false_iff_not]; omega)) fun a Z => sv_r (v := .bool false) Z (eb_true (Z.g 68 rfl)) fun a Z => sv_n 1 Z rfl fun a Z => Z.nx [66, 18, 60, 7, 2, 17, 15, 16, 13, 14, 5, 9, 10, 11, 0, 3, 4, 6, 8, 12] rfl fun Z => sh (cond_f (Z.g 66 rfl) (wr (sv_n 1 Z rfl fun a Z => ?_)))
   refine sv_r (v := .bool false) Z (ei_eql (Z.g 71 rfl) rfl (by rw [decide_eq_false_iff_not]; omega)) fun a Z => sv_r (v := .bool false) Z (eb_true (Z.g 72 rfl)) fun a Z => sv_n 1 Z rfl fun a Z => Z.nx [70, 66, 18, 60, 7, 2, 17, 15, 16, 13, 14, 5, 9, 10, 11, 0, 3, 4, 6, 8, 12] rfl fun Z => sh (cond_f (Z.g 70 rfl) (wr (sv_n 1 Z rfl fun a Z => ?_)))
   refine sv_r (v := .bool true) Z (ei_leq rfl (Z.g 77 rfl) (by rw [decide_eq_true_iff]; omega)) fun a Z => sv_n 2 Z rfl fun a Z => ?_
   refine sv_g (v := .bool true) Z (Z.g 79 rfl) (ei_leq (Z.g 80 rfl) rfl (by rw [decide_eq_true_iff]; omega)) fun a Z => sv_n 1 Z rfl fun a Z => sv_r (v := .bool true) Z (eb_true (Z.g 82 rfl)) fun a Z => sv_n 1 Z rfl fun a Z => Z.nx [76, 70, 66, 18, 60, 7, 2, 17, 15, 16, 13, 14, 5, 9, 10, 11, 0, 3, 4, 6, 8, 12] rfl fun Z => sh (cond_t (Z.g 76 rfl) (wr (sv_n 1 Z rfl fun a Z => Z.nx [14, 76, 70, 66, 18, 60, 7, 2, 17, 15, 16, 13, 5, 9, 10, 11, 0, 3, 4, 6, 8, 12] rfl fun Z => sh (wp_seq ?_))))
   refine wr (sv_n 1 Z rfl fun a Z => ?_)
   refine sv_r (v := .bool true) Z (ei_eql (Z.g 84 rfl) rfl (by rw [decide_eq_true_iff]; omega)) fun a Z => sv_n 2 Z rfl fun a Z => ?_
   refine sv_g (v := .bool true) Z (Z.g 86 rfl) (ei_eql (Z.g 87 rfl) rfl (by rw [decide_eq_true_iff]; omega)) fun a Z => sv_n 1 Z rfl fun a Z => Z.nx [89, 14, 76, 70, 66, 18, 60, 7, 2, 17, 15, 16, 13, 5, 9, 10, 11, 0, 3, 4, 6, 8, 12] rfl fun Z => sh (cond_t (Z.g 89 rfl) (wr (sv_n 1 Z rfl fun a Z => ?_)))
   refine sv_r (v := .int .i64 (r.dp - 1)) Z (ei_sub (Z.g 90 rfl) rfl (by rw [IntKind.wrap_i64]; omega)) fun a Z => sv_n 1 Z rfl fun a Z => Z.nx [17, 89, 14, 76, 70, 66, 18, 60, 7, 2, 15, 16, 13, 5, 9, 10, 11, 0, 3, 4, 6, 8, 12] rfl fun Z => sh (wp_exit (sh (wp_region_lit (sv_n 1 Z rfl fun a Z => ?_))))
   refine sv_r (v := .int .i64 ((i + 1 : Nat) : Int)) Z (ei_add (Z.g 61 rfl) rfl (by rw [IntKind.wrap_i64]; omega)) fun a Z => sv_n 1 Z rfl fun a Z => Z.nx [7, 17, 89, 14, 76, 70, 66, 18, 60, 2, 15, 16, 13, 5, 9, 10, 11, 0, 3, 4, 6, 8, 12] rfl fun Z => ?_
   refine ⟨⟨i + 1, { r with dig := true, dp := r.dp - 1 }, by omega, by rw [take_next hlt, ← hr, hst], by rw [← hst]; exact hgn, Z.pick rfl⟩, ?_⟩
   have h1 := Z.g 7 rfl; rw [h1]; rw [hS0]; simp only [intOf]; omega
  ·obtain ⟨hce, hnd, hst⟩ := hcase
   have hfit : r.m < 1000000000000000000 ∧ r.nd < 19 ∧ -100 ≤ r.dp ∧ r.dp ≤ 100 := by simpa [Rf.fits, and_assoc] using hfi
   refine wp_seq (wr (sv_n 2 Z rfl fun a Z => sv_r (v := .int .i64 ((s.size : Nat) : Int)) Z (ex_slen (ats := #[]) (Z.g 58 rfl)) fun a Z => ?_))
   refine sv_r (v := .bool true) Z (ei_lss (Z.g 57 rfl) (Z.g 59 rfl) (by rw [decide_eq_true_iff]; omega)) fun a Z => Z.nx [60, 7, 2, 17, 15, 16, 13, 14, 5, 9, 10, 11, 0, 3, 4, 6, 8, 12] rfl fun Z => sh (cond_t (Z.g 60 rfl) (wp_skip (sh (wp_seq (wp_block (wp_seq (wr (sv_n 2 Z rfl fun a Z => sv_r (v := .int .u8 (((s[i]'hlt).toNat : Nat) : Int)) Z (ex_sidx (Z.g 63 rfl) (Z.g 64 rfl) hlt) fun a Z => ?_))))))))
   refine sv_n 1 Z rfl fun a Z => Z.nx [18, 60, 7, 2, 17, 15, 16, 13, 14, 5, 9, 10, 11, 0, 3, 4, 6, 8, 12] rfl fun Z => sh (wp_block (wr (sv_n 1 Z rfl fun a Z => ?_)))
   refine sv_r (v := .bool false) Z (ei_eql (Z.g 67 rfl) rfl (by rw [decide_eq_false_iff_not]; omega)) fun a Z => sv_r (v := .bool false) Z (eb_true (Z.g 68 rfl)) fun a Z => sv_n 1 Z rfl fun a Z => Z.nx [66, 18, 60, 7, 2, 17, 15, 16, 13, 14, 5, 9, 10, 11, 0, 3, 4, 6, 8, 12] rfl fun Z => sh (cond_f (Z.g 66 rfl) (wr (sv_n 1 Z rfl fun a Z => ?_)))
   refine sv_r (v := .bool false) Z (ei_eql (Z.g 71 rfl) rfl (by rw [decide_eq_false_iff_not]; omega)) fun a Z => sv_r (v := .bool false) Z (eb_true (Z.g 72 rfl)) fun a Z => sv_n 1 Z rfl fun a Z => Z.nx [70, 66, 18, 60, 7, 2, 17, 15, 16, 13, 14, 5, 9, 10, 11, 0, 3, 4, 6, 8, 12] rfl fun Z => sh (cond_f (Z.g 70 rfl) (wr (sv_n 1 Z rfl fun a Z => ?_)))
   refine sv_r (v := .bool true) Z (ei_leq rfl (Z.g 77 rfl) (by rw [decide_eq_true_iff]; omega)) fun a Z => sv_n 2 Z rfl fun a Z => ?_
   refine sv_g (v := .bool true) Z (Z.g 79 rfl) (ei_leq (Z.g 80 rfl) rfl (by rw [decide_eq_true_iff]; omega)) fun a Z => sv_n 1 Z rfl fun a Z => sv_r (v := .bool true) Z (eb_true (Z.g 82 rfl)) fun a Z => sv_n 1 Z rfl fun a Z => Z.nx [76, 70, 66, 18, 60, 7, 2, 17, 15, 16, 13, 14, 5, 9, 10, 11, 0, 3, 4, 6, 8, 12] rfl fun Z => sh (cond_t (Z.g 76 rfl) (wr (sv_n 1 Z rfl fun a Z => Z.nx [14, 76, 70, 66, 18, 60, 7, 2, 17, 15, 16, 13, 5, 9, 10, 11, 0, 3, 4, 6, 8, 12] rfl fun Z => sh (wp_seq ?_))))
   refine wr (sv_n 1 Z rfl fun a Z => ?_)
   refine sv_r (v := .bool true) Z (ei_eql (Z.g 84 rfl) rfl (by rw [decide_eq_true_iff]; omega)) fun a Z => sv_n 2 Z rfl fun a Z => ?_
   refine sv_g (v := .bool false) Z (Z.g 86 rfl) (ei_eql (Z.g 87 rfl) rfl (by rw [decide_eq_false_iff_not]; omega)) fun a Z => sv_n 1 Z rfl fun a Z => Z.nx [89, 14, 76, 70, 66, 18, 60, 7, 2, 17, 15, 16, 13, 5, 9, 10, 11, 0, 3, 4, 6, 8, 12] rfl fun Z => sh (cond_f (Z.g 89 rfl) (wp_skip (sh (wr (sv_n 1 Z rfl fun a Z => ?_)))))
   refine sv_r (v := .int .i64 ((r.nd + 1 : Nat) : Int)) Z (ei_add (Z.g 92 rfl) rfl (by rw [IntKind.wrap_i64]; omega)) fun a Z => sv_n 1 Z rfl fun a Z => Z.nx [15, 89, 14, 76, 70, 66, 18, 60, 7, 2, 17, 16, 13, 5, 9, 10, 11, 0, 3, 4, 6, 8, 12] rfl fun Z => sh (wp_seq (wr (sv_n 2 Z rfl fun a Z => ?_)))
   refine sv_r (v := .bool true) Z (ei_lss (Z.g 94 rfl) (Z.g 95 rfl) (by rw [decide_eq_true_iff]; omega)) fun a Z => Z.nx [96, 15, 89, 14, 76, 70, 66, 18, 60, 7, 2, 17, 16, 13, 5, 9, 10, 11, 0, 3, 4, 6, 8, 12] rfl fun Z => sh (cond_t (Z.g 96 rfl) (wr (sv_n 2 Z rfl fun a Z => ?_)))
   refine sv_r (v := .int .u64 ((r.m * 10 : Nat) : Int)) Z (ei_mul (Z.g 97 rfl) (Z.g 98 rfl) (by rw [IntKind.wrap_u64]; omega)) fun a Z => sv_n 1 Z rfl fun a Z => Z.nx [2, 96, 15, 89, 14, 76, 70, 66, 18, 60, 7, 17, 16, 13, 5, 9, 10, 11, 0, 3, 4, 6, 8, 12] rfl fun Z => sh (wr (sv_n 2 Z rfl fun a Z => ?_))
   refine sv_r (v := .int .u8 (((s[i]'hlt).toNat - 48 : Nat) : Int)) Z (ei_sub (Z.g 101 rfl) rfl (by rw [IntKind.wrap_u8]; omega)) fun a Z => ?_
   refine sv_r (v := .int .u64 (((s[i]'hlt).toNat - 48 : Nat) : Int)) Z (ex_cv (Z.g 102 rfl) (cv_uint8_uint64 _ (by rw [IntKind.wrap_u64]; omega))) fun a Z => ?_
   refine sv_r (v := .int .u64 (((r.m * 10) + ((s[i]'hlt).toNat - 48) : Nat) : Int)) Z (ei_add (Z.g 100 rfl) (Z.g 103 rfl) (by rw [IntKind.wrap_u64]; omega)) fun a Z => sv_n 1 Z rfl fun a Z => Z.nx [2, 96, 15, 89, 14, 76, 70, 66, 18, 60, 7, 17, 16, 13, 5, 9, 10, 11, 0, 3, 4, 6, 8, 12] rfl fun Z => sh (wp_region_lit (sv_n 1 Z rfl fun a Z => ?_))
   refine sv_r (v := .int .i64 ((r.nd + 1 : Nat) : Int)) Z (ei_add (Z.g 105 rfl) rfl (by rw [IntKind.wrap_i64]; omega)) fun a Z => sv_n 1 Z rfl fun a Z => Z.nx [16, 2, 96, 15, 89, 14, 76, 70, 66, 18, 60, 7, 17, 13, 5, 9, 10, 11, 0, 3, 4, 6, 8, 12] rfl fun Z => sh (wp_exit (sh (wp_region_lit (sv_n 1 Z rfl fun a Z => ?_))))
   refine sv_r (v := .int .i64 ((i + 1 : Nat) : Int)) Z (ei_add (Z.g 61 rfl) rfl (by rw [IntKind.wrap_i64]; omega)) fun a Z => sv_n 1 Z rfl fun a Z => Z.nx [7, 16, 2, 96, 15, 89, 14, 76, 70, 66, 18, 60, 17, 13, 5, 9, 10, 11, 0, 3, 4, 6, 8, 12] rfl fun Z => ?_
   refine ⟨⟨i + 1, { r with dig := true, nd := r.nd + 1, m := r.m * 10 + ((s[i]'hlt).toNat - 48) }, by omega, by rw [take_next hlt, ← hr, hst], by rw [← hst]; exact hgn, Z.pick rfl⟩, ?_⟩
   have h1 := Z.g 7 rfl; rw [h1]; rw [hS0]; simp only [intOf]; omega
  ·obtain ⟨⟨hce, hce2⟩, hst⟩ := hcase
   have hfit : r.m < 1000000000000000000 ∧ r.nd < 19 ∧ -100 ≤ r.dp ∧ r.dp ≤ 100 := by simpa [Rf.fits, and_assoc] using hfi
   refine wp_seq (wr (sv_n 2 Z rfl fun a Z => sv_r (v := .int .i64 ((s.size : Nat) : Int)) Z (ex_slen (ats := #[]) (Z.g 58 rfl)) fun a Z => ?_))
   refine sv_r (v := .bool true) Z (ei_lss (Z.g 57 rfl) (Z.g 59 rfl) (by rw [decide_eq_true_iff]; omega)) fun a Z => Z.nx [60, 7, 2, 17, 15, 16, 13, 14, 5, 9, 10, 11, 0, 3, 4, 6, 8, 12] rfl fun Z => sh (cond_t (Z.g 60 rfl) (wp_skip (sh (wp_seq (wp_block (wp_seq (wr (sv_n 2 Z rfl fun a Z => sv_r (v := .int .u8 (((s[i]'hlt).toNat : Nat) : Int)) Z (ex_sidx (Z.g 63 rfl) (Z.g 64 rfl) hlt) fun a Z => ?_))))))))
   refine sv_n 1 Z rfl fun a Z => Z.nx [18, 60, 7, 2, 17, 15, 16, 13, 14, 5, 9, 10, 11, 0, 3, 4, 6, 8, 12] rfl fun Z => sh (wp_block (wr (sv_n 1 Z rfl fun a Z => ?_)))
   refine sv_r (v := .bool false) Z (ei_eql (Z.g 67 rfl) rfl (by rw [decide_eq_false_iff_not]; omega)) fun a Z => sv_r (v := .bool false) Z (eb_true (Z.g 68 rfl)) fun a Z => sv_n 1 Z rfl fun a Z => Z.nx [66, 18, 60, 7, 2, 17, 15, 16, 13, 14, 5, 9, 10, 11, 0, 3, 4, 6, 8, 12] rfl fun Z => sh (cond_f (Z.g 66 rfl) (wr (sv_n 1 Z rfl fun a Z => ?_)))
   refine sv_r (v := .bool false) Z (ei_eql (Z.g 71 rfl) rfl (by rw [decide_eq_false_iff_not]; omega)) fun a Z => sv_r (v := .bool false) Z (eb_true (Z.g 72 rfl)) fun a Z => sv_n 1 Z rfl fun a Z => Z.nx [70, 66, 18, 60, 7, 2, 17, 15, 16, 13, 14, 5, 9, 10, 11, 0, 3, 4, 6, 8, 12] rfl fun Z => sh (cond_f (Z.g 70 rfl) (wr (sv_n 1 Z rfl fun a Z => ?_)))
   refine sv_r (v := .bool true) Z (ei_leq rfl (Z.g 77 rfl) (by rw [decide_eq_true_iff]; omega)) fun a Z => sv_n 2 Z rfl fun a Z => ?_
   refine sv_g (v := .bool true) Z (Z.g 79 rfl) (ei_leq (Z.g 80 rfl) rfl (by rw [decide_eq_true_iff]; omega)) fun a Z => sv_n 1 Z rfl fun a Z => sv_r (v := .bool true) Z (eb_true (Z.g 82 rfl)) fun a Z => sv_n 1 Z rfl fun a Z => Z.nx [76, 70, 66, 18, 60, 7, 2, 17, 15, 16, 13, 14, 5, 9, 10, 11, 0, 3, 4, 6, 8, 12] rfl fun Z => sh (cond_t (Z.g 76 rfl) (wr (sv_n 1 Z rfl fun a Z => Z.nx [14, 76, 70, 66, 18, 60, 7, 2, 17, 15, 16, 13, 5, 9, 10, 11, 0, 3, 4, 6, 8, 12] rfl fun Z => sh (wp_seq ?_))))
   refine wr (sv_n 1 Z rfl fun a Z => ?_)
   refine sv_r (v := .bool false) Z (ei_eql (Z.g 84 rfl) rfl (by rw [decide_eq_false_iff_not]; omega)) fun a Z => sv_n 4 Z rfl fun a Z => Z.nx [89, 14, 76, 70, 66, 18, 60, 7, 2, 17, 15, 16, 13, 5, 9, 10, 11, 0, 3, 4, 6, 8, 12] rfl fun Z => sh (cond_f (Z.g 89 rfl) (wp_skip (sh (wr (sv_n 1 Z rfl fun a Z => ?_)))))
   refine sv_r (v := .int .i64 ((r.nd + 1 : Nat) : Int)) Z (ei_add (Z.g 92 rfl) rfl (by rw [IntKind.wrap_i64]; omega)) fun a Z => sv_n 1 Z rfl fun a Z => Z.nx [15, 89, 14, 76, 70, 66, 18, 60, 7, 2, 17, 16, 13, 5, 9, 10, 11, 0, 3, 4, 6, 8, 12] rfl fun Z => sh (wp_seq (wr (sv_n 2 Z rfl fun a Z => ?_)))
   refine sv_r (v := .bool true) Z (ei_lss (Z.g 94 rfl) (Z.g 95 rfl) (by rw [decide_eq_true_iff]; omega)) fun a Z => Z.nx [96, 15, 89, 14, 76, 70, 66, 18, 60, 7, 2, 17, 16, 13, 5, 9, 10, 11, 0, 3, 4, 6, 8, 12] rfl fun Z => sh (cond_t (Z.g 96 rfl) (wr (sv_n 2 Z rfl fun a Z => ?_)))
   refine sv_r (v := .int .u64 ((r.m * 10 : Nat) : Int)) Z (ei_mul (Z.g 97 rfl) (Z.g 98 rfl) (by rw [IntKind.wrap_u64]; omega)) fun a Z => sv_n 1 Z rfl fun a Z => Z.nx [2, 96, 15, 89, 14, 76, 70, 66, 18, 60, 7, 17, 16, 13, 5, 9, 10, 11, 0, 3, 4, 6, 8, 12] rfl fun Z => sh (wr (sv_n 2 Z rfl fun a Z => ?_))
   refine sv_r (v := .int .u8 (((s[i]'hlt).toNat - 48 : Nat) : Int)) Z (ei_sub (Z.g 101 rfl) rfl (by rw [IntKind.wrap_u8]; omega)) fun a Z => ?_
   refine sv_r (v := .int .u64 (((s[i]'hlt).toNat - 48 : Nat) : Int)) Z (ex_cv (Z.g 102 rfl) (cv_uint8_uint64 _ (by rw [IntKind.wrap_u64]; omega))) fun a Z => ?_
   refine sv_r (v := .int .u64 (((r.m * 10) + ((s[i]'hlt).toNat - 48) : Nat) : Int)) Z (ei_add (Z.g 100 rfl) (Z.g 103 rfl) (by rw [IntKind.wrap_u64]; omega)) fun a Z => sv_n 1 Z rfl fun a Z => Z.nx [2, 96, 15, 89, 14, 76, 70, 66, 18, 60, 7, 17, 16, 13, 5, 9, 10, 11, 0, 3, 4, 6, 8, 12] rfl fun Z => sh (wp_region_lit (sv_n 1 Z rfl fun a Z => ?_))
   refine sv_r (v := .int .i64 ((r.nd + 1 : Nat) : Int)) Z (ei_add (Z.g 105 rfl) rfl (by rw [IntKind.wrap_i64]; omega)) fun a Z => sv_n 1 Z rfl fun a Z => Z.nx [16, 2, 96, 15, 89, 14, 76, 70, 66, 18, 60, 7, 17, 13, 5, 9, 10, 11, 0, 3, 4, 6, 8, 12] rfl fun Z => sh (wp_exit (sh (wp_region_lit (sv_n 1 Z rfl fun a Z => ?_))))
   refine sv_r (v := .int .i64 ((i + 1 : Nat) : Int)) Z (ei_add (Z.g 61 rfl) rfl (by rw [IntKind.wrap_i64]; omega)) fun a Z => sv_n 1 Z rfl fun a Z => Z.nx [7, 16, 2, 96, 15, 89, 14, 76, 70, 66, 18, 60, 17, 13, 5, 9, 10, 11, 0, 3, 4, 6, 8, 12] rfl fun Z => ?_
   refine ⟨⟨i + 1, { r with dig := true, nd := r.nd + 1, m := r.m * 10 + ((s[i]'hlt).toNat - 48) }, by omega, by rw [take_next hlt, ← hr, hst], by rw [← hst]; exact hgn, Z.pick rfl⟩, ?_⟩
   have h1 := Z.g 7 rfl; rw [h1]; rw [hS0]; simp only [intOf]; omega

theorem ret3_of_ev {N t1 t2 t3 : Nat} {l : List (Nat × Value)} {fn : Func} {R : Ending → World → Prop} {a : Act} {w : World} {v1 v2 v3 : Value} (h : Ev N l a) (hr : fn.results = #[.tmp t1, .tmp t2, .tmp t3])
  (h1 : a.eval (.tmp t1) = v1) (h2 : a.eval (.tmp t2) = v2) (h3 : a.eval (.tmp t3) = v3) (hR : R (.returned (.tuple #[v1, v2, v3])) w) : bodyPost Tryz.prog fn R .ret a w := by
 refine bodyPost_ret (v := .tuple #[v1, v2, v3]) ?_ h.defers hR
 have e1 : a.tmps.getD t1 undef = v1 := h1
 have e2 : a.tmps.getD t2 undef = v2 := h2
 have e3 : a.tmps.getD t3 undef = v3 := h3
 rw [Array.getD_eq_getD_getElem?] at e1 e2 e3
 simp [results, hr, e1, e2, e3]
theorem special_num (s : ByteArray) (hN : numB s = true) (w : World) : Calls Tryz.prog 127 #[.string s] w fun e w' => e = .returned (.tuple #[.float .f64 0, .int .i64 0, .bool false]) ∧ Below w.heap.size w w' := by
 have hN0 := hN
 unfold numB at hN0
 rw [Bool.and_eq_true] at hN0
 have h0 : 0 < s.size := by
  have := List.length_pos_iff.2 (go_pos hN0.1)
  rw [len_list] at this; exact this
 have n43 := num_ne hN h0 43 (by decide) (by decide)
 have n45 := num_ne hN h0 45 (by decide) (by decide)
 have n105 := num_ne hN h0 105 (by decide) (by decide)
 have n73 := num_ne hN h0 73 (by decide) (by decide)
 have n110 := num_ne hN h0 110 (by decide) (by decide)
 have n78 := num_ne hN h0 78 (by decide) (by decide)
 refine calls_of_ev Tryz.func127 rfl (show 1 ≤ 50 from by decide) fun a hE => ?_
 have hE : Ev 50 ((0, .string s) :: []) a := hE
 have Z : Sv 50 ((0, .string s) :: []) [] (fun _ => False) w a w := Sv.start hE _ _
 clear hE
 refine wr (sv_r (v := .float .f64 0) Z ex_ac fun a Z => sv_n 2 Z rfl fun a Z => Z.nx [4, 3, 2, 0] rfl fun Z => sh (wp_seq (wr (sv_n 1 Z rfl fun a Z => sv_r (v := .int .i64 ((s.size : Nat) : Int)) Z (ex_slen (ats := #[]) (Z.g 8 rfl)) fun a Z => ?_))))
 refine sv_r (v := .bool false) Z (ei_eql (Z.g 9 rfl) rfl (by rw [decide_eq_false_iff_not]; omega)) fun a Z => Z.nx [10, 4, 3, 2, 0] rfl fun Z => sh (cond_f (Z.g 10 rfl) (wp_skip (sh (wr (sv_n 1 Z rfl fun a Z => Z.nx [5, 10, 4, 3, 2, 0] rfl fun Z => sh (wr (sv_n 1 Z rfl fun a Z => ?_)))))))
 refine Z.nx [6, 5, 10, 4, 3, 2, 0] rfl fun Z => sh (wp_seq (wr (sv_n 1 Z rfl fun a Z => sv_r (v := .int .u8 (((s[0]'h0).toNat : Nat) : Int)) Z (ex_sidx (i := 0) (Z.g 11 rfl) rfl h0) fun a Z => Z.nx [12, 6, 5, 10, 4, 3, 2, 0] rfl fun Z => sh (wp_block (wp_seq (wp_block (wp_seq ?_)))))))
 refine wp_block (wp_seq (wp_block (wp_seq (wp_seq (wp_seq (wr ?_))))))
 refine sv_r (v := .bool false) Z (ei_eql (Z.g 12 rfl) rfl (by rw [decide_eq_false_iff_not]; omega)) fun a Z => sv_n 1 Z rfl fun a Z => Z.nx [13, 12, 6, 5, 10, 4, 3, 2, 0] rfl fun Z => sh (cond_f (Z.g 13 rfl) (wp_region_lit ?_))
 refine sv_r (v := .bool false) Z (ei_eql (Z.g 12 rfl) rfl (by rw [decide_eq_false_iff_not]; omega)) fun a Z => sv_n 1 Z rfl fun a Z => Z.nx [13, 12, 6, 5, 10, 4, 3, 2, 0] rfl fun Z => sh (cond_f (Z.g 13 rfl) (wp_skip (sh (wp_seq (wp_seq (wr ?_))))))
 refine sv_r (v := .bool false) Z (ei_eql (Z.g 12 rfl) rfl (by rw [decide_eq_false_iff_not]; omega)) fun a Z => sv_n 1 Z rfl fun a Z => Z.nx [16, 13, 12, 6, 5, 10, 4, 3, 2, 0] rfl fun Z => sh (cond_f (Z.g 16 rfl) (wp_region_lit ?_))
 refine sv_r (v := .bool false) Z (ei_eql (Z.g 12 rfl) rfl (by rw [decide_eq_false_iff_not]; omega)) fun a Z => sv_n 1 Z rfl fun a Z => Z.nx [16, 13, 12, 6, 5, 10, 4, 3, 2, 0] rfl fun Z => sh (cond_f (Z.g 16 rfl) (wp_skip (sh (wp_seq (wr ?_)))))
 refine sv_r (v := .bool false) Z (ei_eql (Z.g 12 rfl) rfl (by rw [decide_eq_false_iff_not]; omega)) fun a Z => sv_n 1 Z rfl fun a Z => Z.nx [19, 16, 13, 12, 6, 5, 10, 4, 3, 2, 0] rfl fun Z => sh (cond_f (Z.g 19 rfl) (wp_region_lit ?_))
 refine sv_r (v := .bool false) Z (ei_eql (Z.g 12 rfl) rfl (by rw [decide_eq_false_iff_not]; omega)) fun a Z => sv_n 1 Z rfl fun a Z => Z.nx [19, 16, 13, 12, 6, 5, 10, 4, 3, 2, 0] rfl fun Z => sh (cond_f (Z.g 19 rfl) (wp_skip (sh (wp_exit (sh (wr (sv_r (v := .float .f64 0) Z ex_ac fun a Z => sv_n 2 Z rfl fun a Z => ?_)))))))
 refine Z.nx [4, 3, 2, 19, 16, 13, 12, 6, 5, 10, 0] rfl fun Z => sh (wp_ret ?_)
 try simp only [Exit.inBlock, Exit.then]
 exact ret3_of_ev Z.ev rfl (Z.g 2 rfl) (Z.g 3 rfl) (Z.g 4 rfl) ⟨rfl, Z.toBelow⟩
end Go.Proofs.YtflppablgdegcaaGreatDoor
