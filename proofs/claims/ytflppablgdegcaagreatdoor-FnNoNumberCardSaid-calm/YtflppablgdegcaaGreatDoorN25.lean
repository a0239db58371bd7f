/- Joined: Nl, Ns. -/
import Derived.Test.YtflppablgdegcaaGreatDoorN15
import Derived.Test.YtflppablgdegcaaGreatDoorN16
import Derived.Test.YtflppablgdegcaaGreatDoorN17
import Derived.Test.YtflppablgdegcaaGreatDoorN18
import Derived.Test.YtflppablgdegcaaGreatDoorN19
import Derived.Test.YtflppablgdegcaaGreatDoorN20
import Derived.Test.YtflppablgdegcaaGreatDoorN23
import Derived.Test.YtflppablgdegcaaGreatDoorN22
import Derived.Test.YtflppablgdegcaaGreatDoorN24
/- The lines of FnNoNumber's texts, each read: with its number, or with a word of letters. -/
set_option maxRecDepth 100000
namespace Go.Proofs.YtflppablgdegcaaGreatDoor
open Go.RowKit
/-- Signs that are not white space. -/
def Sgn (l : List UInt8) : Prop := ∀ x ∈ l, 33 ≤ x.toNat ∧ x.toNat < 128
theorem Sgn.app {l m : List UInt8} (h : Sgn l) (k : Sgn m) : Sgn (l ++ m) := fun x hx => (List.mem_append.1 hx).elim (h x) (k x)
theorem sgn_of {l : List UInt8} (h : (l.all fun x => decide (33 ≤ x.toNat) && decide (x.toNat < 128)) = true) : Sgn l := by
 intro x hx
 have := List.all_eq_true.1 h x hx
 simpa using this
theorem Sgn.nsp {l : List UInt8} (h : Sgn l) : ∀ x ∈ l, Lib.isSp x = false := by
 intro x hx
 have h1 := (h x hx).1
 have h2 : ∀ c : UInt8, c.toNat < 33 → (x == c) = false := by
  intro c hc
  rw [beq_eq_false_iff_ne]
  rintro rfl
  omega
 unfold Lib.isSp
 rw [h2 9 (by decide), h2 10 (by decide), h2 11 (by decide), h2 12 (by decide), h2 13 (by decide), h2 32 (by decide)]
 rfl
theorem Sgn.ne10 {l : List UInt8} (h : Sgn l) : ∀ x ∈ l, x ≠ 10 := by
 rintro x hx rfl
 have := (h 10 hx).1
 revert this; decide
theorem dw_sgn : ∀ m : List UInt8, (∀ x ∈ m, Lib.isSp x = false) → m.dropWhile Lib.isSp = m
 | [], _ => rfl
 | x :: r, hm => by rw [List.dropWhile_cons_of_neg (by rw [hm x List.mem_cons_self]; decide)]
theorem trim_sgn {l : List UInt8} (h : Sgn l) : Lib.trimSpace l = l := by
 unfold Lib.trimSpace
 rw [dw_sgn l h.nsp, dw_sgn _ (fun x hx => h.nsp x (List.mem_reverse.1 hx)), List.reverse_reverse]
theorem trim_line {l : List UInt8} (h : Sgn l) (h0 : l ≠ []) : Lib.trimSpace (l ++ [10]) = l := by
 unfold Lib.trimSpace
 have h1 : (l ++ [10]).dropWhile Lib.isSp = l ++ [10] := by
  cases l with
  | nil => exact absurd rfl h0
  | cons x r => rw [List.cons_append, List.dropWhile_cons_of_neg (by rw [h.nsp x List.mem_cons_self]; decide)]
 rw [h1, List.reverse_append, List.reverse_singleton, List.singleton_append, List.dropWhile_cons_of_pos (by decide), dw_sgn _ (fun x hx => h.nsp x (List.mem_reverse.1 hx)), List.reverse_reverse]
theorem trimA_line {l : List UInt8} (h : Sgn l) (h0 : l ≠ []) : trimA ⟨(l ++ [10]).toArray⟩ = ⟨l.toArray⟩ := by
 show (⟨(Lib.trimSpace (l ++ [10])).toArray⟩ : ByteArray) = _
 rw [trim_line h h0]
theorem trL_sgn {l : List UInt8} (h : Sgn l) : trL l = ⟨l.toArray⟩ := by
 show (⟨(Lib.trimSpace l).toArray⟩ : ByteArray) = _
 rw [trim_sgn h]
theorem asc_of {l : List UInt8} (h : ∀ x ∈ l, x.toNat < 128) : Asc ⟨l.toArray⟩ := by
 intro j b hb
 refine h b (List.mem_of_getElem? (i := j) ?_)
 simpa using hb
theorem asc_line {l : List UInt8} (h : Sgn l) : Asc ⟨(l ++ [10]).toArray⟩ := asc_of (by
 intro x hx
 rcases List.mem_append.1 hx with hx | hx
 ·exact (h x hx).2
 ·rw [List.mem_singleton.1 hx]; decide)
theorem size_of (l : List UInt8) : (⟨l.toArray⟩ : ByteArray).size = l.length := by simp [ByteArray.size]
/-- A word of letters from g to x. -/
structure Wd (wd : List UInt8) : Prop where
 ne : wd ≠ []
 le : wd.length ≤ 10
 ch : ∀ x ∈ wd, 103 ≤ x.toNat ∧ x.toNat ≤ 120
theorem Wd.sgn {wd : List UInt8} (h : Wd wd) : Sgn wd := fun x hx => by have := h.ch x hx; omega
theorem Wd.noNum {wd : List UInt8} (h : Wd wd) : NoNum ⟨wd.toArray⟩ := by
 refine .inr ⟨?_, ?_, ?_⟩
 ·intro i hi
  have h1 := at_list hi
  refine h.ch _ (List.mem_of_getElem? (i := i) ?_)
  simpa using h1
 ·rw [size_of]; exact List.length_pos_iff.2 h.ne
 ·rw [size_of]; have := h.le; omega
theorem let_tab : (List.range 256).all (fun n => !(decide (103 ≤ n) && decide (n ≤ 120)) || (!inS digs (UInt8.ofNat n) && !inS pms (UInt8.ofNat n) && !isD (UInt8.ofNat n))) = true := by decide +kernel
theorem let_no {x : UInt8} (h : 103 ≤ x.toNat ∧ x.toNat ≤ 120) : inS digs x = false ∧ inS pms x = false ∧ isD x = false := by
 have h1 := List.all_eq_true.1 let_tab x.toNat (List.mem_range.2 x.toNat_lt)
 rw [UInt8.ofNat_toNat] at h1
 simpa [h.1, h.2, and_assoc] using h1
theorem runN0 {p : UInt8 → Bool} {wd : List UInt8} (h : ∀ x ∈ wd, p x = false) : runN p ⟨wd.toArray⟩ = 0 := by
 show (wd.takeWhile p).length = 0
 cases wd with
 | nil => rfl
 | cons x r => rw [List.takeWhile_cons_of_neg (by rw [h x List.mem_cons_self]; decide)]; rfl
theorem ext_pre {pre rest : List UInt8} {n : Nat} (hn : pre.length = n) : (⟨(pre ++ rest).toArray⟩ : ByteArray).extract n (⟨(pre ++ rest).toArray⟩ : ByteArray).size = ⟨rest.toArray⟩ := ba_eq (by
 rw [ext_list _ _ _ (Nat.le_refl _), ← len_list, List.take_length]
 subst hn
 simp)
theorem ext_mid {pre mid rest : List UInt8} {n m : Nat} (hn : pre.length = n) (hm : n + mid.length = m) : (⟨(pre ++ (mid ++ rest)).toArray⟩ : ByteArray).extract n m = ⟨mid.toArray⟩ := ba_eq (by
 subst hn hm
 rw [ext_list _ _ _ (by rw [size_of]; simp)]
 simp [List.take_append])
theorem wd_at0 {wd : List UInt8} (h : Wd wd) (h0 : 0 < (⟨wd.toArray⟩ : ByteArray).size) : 103 ≤ ((⟨wd.toArray⟩ : ByteArray)[0]'h0).toNat ∧ ((⟨wd.toArray⟩ : ByteArray)[0]'h0).toNat ≤ 120 := by
 refine h.ch _ (List.mem_of_getElem? (i := 0) ?_)
 have := at_list h0
 simpa using this
theorem StepR.ok {st : Bool} {Bad K : Prop} (h : K) : StepR st .nilIface Bad K := .inl ⟨rfl, h⟩
theorem StepR.bad {st : Bool} {ev : Value} {Bad K : Prop} (he : IsErr ev) (hb : st = true → Bad) (hK : st = false → K) : StepR st ev Bad K := by
 cases st with
 | false => exact .inr (.inl ⟨rfl, he, hK rfl⟩)
 | true => exact .inr (.inr ⟨rfl, he, hb rfl⟩)
theorem StepR.mono {st : Bool} {ev : Value} {Bad Bad' K K' : Prop} (h : StepR st ev Bad K) (hb : st = true → Bad → Bad') (hK : K → K') : StepR st ev Bad' K' := by
 rcases h with ⟨h1, h2⟩ | ⟨h1, h2, h3⟩ | ⟨h1, h2, h3⟩
 ·exact .inl ⟨h1, hK h2⟩
 ·exact .inr (.inl ⟨h1, h2, hK h3⟩)
 ·exact .inr (.inr ⟨h1, h2, hb h1 h3⟩)
/-- The cells of the reading's state. -/
def dst (lt : Nat) (m3 inf : Bool) (dur : Nat) (title : ByteArray) : Array Value := #[.int .u64 (lt : Int), .bool m3, .bool false, .bool inf, .bool false, .bool false, .bool false, .bool false, .bool false, .bool false, .string ⟨#[]⟩, .int .i64 0, .int .i64 0, .float .f64 dur, .string title, .pointer none, .slice none 0 0, .pointer none, .pointer none, .pointer none]
/-- What lies at the playlist and at the state. -/
def Hh (gp gs : Nat) (P S : Array Value) (w : World) : Prop := w.heap[gp]? = some (.cells P 88 (0, 0)) ∧ w.heap[gs]? = some (.cells S 121 (0, 0))
/-- A line is read: the cells turn. -/
def Ln (st : Bool) (b : Bool) (gp gs : Nat) (w : World) (P' S' : Array Value) (e : Ending) (w2 : World) : Prop := ∃ ev, e = .returned ev ∧ Only (fun q => q = gp ∨ q = gs) w w2 ∧ StepR st ev (b = true) ((st = true → b = false) ∧ Hh gp gs P' S' w2)

theorem f9 : FloatOf ⟨#[57]⟩ 4621256167635550208 := ⟨by decide +kernel, 0, by decide +kernel, by decide, by decide +kernel, by decide +kernel, .inl ⟨rfl, by decide +kernel⟩⟩
theorem f8 : FloatOf ⟨#[56, 46, 48, 48, 48]⟩ 4620693217682128896 := ⟨by decide +kernel, 3, by decide +kernel, by decide, by decide +kernel, by decide +kernel, .inr ⟨by decide, by decide, _, rfl, by decide +kernel⟩⟩
def pVer : List UInt8 := [35, 69, 88, 84, 45, 88, 45, 86, 69, 82, 83, 73, 79, 78, 58]
def lnVer (b : Bool) (wd : List UInt8) : List UInt8 := pVer ++ (if b then wd else [51])
def pTgt : List UInt8 := [35, 69, 88, 84, 45, 88, 45, 84, 65, 82, 71, 69, 84, 68, 85, 82, 65, 84, 73, 79, 78, 58]
def lnTgt (b : Bool) (wd : List UInt8) : List UInt8 := pTgt ++ (if b then wd else [57])
def pSeq : List UInt8 := [35, 69, 88, 84, 45, 88, 45, 77, 69, 68, 73, 65, 45, 83, 69, 81, 85, 69, 78, 67, 69, 58]
def lnSeq (b : Bool) (wd : List UInt8) : List UInt8 := pSeq ++ (if b then wd else [52])
def pDsq : List UInt8 := [35, 69, 88, 84, 45, 88, 45, 68, 73, 83, 67, 79, 78, 84, 73, 78, 85, 73, 84, 89, 45, 83, 69, 81, 85, 69, 78, 67, 69, 58]
def lnDsq (b : Bool) (wd : List UInt8) : List UInt8 := pDsq ++ (if b then wd else [50])
def pInf : List UInt8 := [35, 69, 88, 84, 73, 78, 70, 58]
def lnInf (b : Bool) (wd : List UInt8) : List UInt8 := pInf ++ ((if b then wd else [56, 46, 48, 48, 48]) ++ [44])
def lnHd : List UInt8 := [35, 69, 88, 84, 77, 51, 85]
def lnUri : List UInt8 := [97, 46, 116, 115]
theorem sgnVer {b : Bool} {wd : List UInt8} (h : Wd wd) : Sgn (lnVer b wd) := by
 unfold lnVer
 cases b with
 | false => exact sgn_of (l := pVer ++ [51]) (by decide)
 | true => exact Sgn.app (sgn_of (by decide)) h.sgn
theorem lenVer {b : Bool} {wd : List UInt8} (h : Wd wd) : (lnVer b wd).length ≤ 60 := by
 unfold lnVer
 cases b with
 | false => exact (by decide : (pVer ++ [51]).length ≤ 60)
 | true =>
  have := h.le
  rw [List.length_append]
  show pVer.length + wd.length ≤ 60
  have h1 : pVer.length = 15 := rfl
  omega
theorem neVer {b : Bool} {wd : List UInt8} : lnVer b wd ≠ [] := by unfold lnVer pVer; simp
theorem sgnTgt {b : Bool} {wd : List UInt8} (h : Wd wd) : Sgn (lnTgt b wd) := by
 unfold lnTgt
 cases b with
 | false => exact sgn_of (l := pTgt ++ [57]) (by decide)
 | true => exact Sgn.app (sgn_of (by decide)) h.sgn
theorem lenTgt {b : Bool} {wd : List UInt8} (h : Wd wd) : (lnTgt b wd).length ≤ 60 := by
 unfold lnTgt
 cases b with
 | false => exact (by decide : (pTgt ++ [57]).length ≤ 60)
 | true =>
  have := h.le
  rw [List.length_append]
  show pTgt.length + wd.length ≤ 60
  have h1 : pTgt.length = 22 := rfl
  omega
theorem neTgt {b : Bool} {wd : List UInt8} : lnTgt b wd ≠ [] := by unfold lnTgt pTgt; simp
theorem sgnSeq {b : Bool} {wd : List UInt8} (h : Wd wd) : Sgn (lnSeq b wd) := by
 unfold lnSeq
 cases b with
 | false => exact sgn_of (l := pSeq ++ [52]) (by decide)
 | true => exact Sgn.app (sgn_of (by decide)) h.sgn
theorem lenSeq {b : Bool} {wd : List UInt8} (h : Wd wd) : (lnSeq b wd).length ≤ 60 := by
 unfold lnSeq
 cases b with
 | false => exact (by decide : (pSeq ++ [52]).length ≤ 60)
 | true =>
  have := h.le
  rw [List.length_append]
  show pSeq.length + wd.length ≤ 60
  have h1 : pSeq.length = 22 := rfl
  omega
theorem neSeq {b : Bool} {wd : List UInt8} : lnSeq b wd ≠ [] := by unfold lnSeq pSeq; simp
theorem sgnDsq {b : Bool} {wd : List UInt8} (h : Wd wd) : Sgn (lnDsq b wd) := by
 unfold lnDsq
 cases b with
 | false => exact sgn_of (l := pDsq ++ [50]) (by decide)
 | true => exact Sgn.app (sgn_of (by decide)) h.sgn
theorem lenDsq {b : Bool} {wd : List UInt8} (h : Wd wd) : (lnDsq b wd).length ≤ 60 := by
 unfold lnDsq
 cases b with
 | false => exact (by decide : (pDsq ++ [50]).length ≤ 60)
 | true =>
  have := h.le
  rw [List.length_append]
  show pDsq.length + wd.length ≤ 60
  have h1 : pDsq.length = 30 := rfl
  omega
theorem neDsq {b : Bool} {wd : List UInt8} : lnDsq b wd ≠ [] := by unfold lnDsq pDsq; simp
theorem sgnInf {b : Bool} {wd : List UInt8} (h : Wd wd) : Sgn (lnInf b wd) := by
 unfold lnInf
 cases b with
 | false => exact sgn_of (l := pInf ++ ([56, 46, 48, 48, 48] ++ [44])) (by decide)
 | true => exact Sgn.app (sgn_of (by decide)) (Sgn.app h.sgn (sgn_of (by decide)))
theorem lenInf {b : Bool} {wd : List UInt8} (h : Wd wd) : (lnInf b wd).length ≤ 60 := by
 unfold lnInf
 cases b with
 | false => exact (by decide : (pInf ++ ([56, 46, 48, 48, 48] ++ [44])).length ≤ 60)
 | true =>
  have := h.le
  rw [List.length_append]
  show pInf.length + (wd ++ [44]).length ≤ 60
  have h1 : pInf.length = 8 := rfl
  rw [List.length_append]; show pInf.length + (wd.length + 1) ≤ 60
  omega
theorem neInf {b : Bool} {wd : List UInt8} : lnInf b wd ≠ [] := by unfold lnInf pInf; simp
theorem lineVer {B : Nat} {G : Ge} {gp gs : Nat} {wd : List UInt8} (hw : Wd wd) (b st : Bool) {tgt seq disc cap tail count lt dur : Nat} {m3 : Bool} {title : ByteArray} {sv : Value} (w : World) (hG : Env B G w) (hh : Hh gp gs (pcs tgt seq disc 3 sv cap tail count) (dst lt m3 false dur title) w) (hne : gp ≠ gs) (hBp : B ≤ gp) (hBs : B ≤ gs) : Calls Tryz.prog 47 #[pt gp 0, pt gs 0, .string ⟨(lnVer b wd ++ [10]).toArray⟩, .bool st] w (Ln st b gp gs w (pcs tgt seq disc 3 sv cap tail count) (dst 2 m3 false dur title)) := by
 have hz : (⟨(lnVer b wd ++ [10]).toArray⟩ : ByteArray).size ≤ 1000000 := by rw [size_of, List.length_append]; have := lenVer (b := b) hw; show _ + 1 ≤ _; omega
 have htr := trimA_line (sgnVer (b := b) hw) (neVer (b := b) (wd := wd))
 have hasc := asc_line (sgnVer (b := b) hw)
 cases b with
 | false =>
  refine (dl_ver_ok (L := ⟨#[35, 69, 88, 84, 45, 88, 45, 86, 69, 82, 83, 73, 79, 78, 58, 51]⟩) (rest := [51]) (old := 3) (nw := 3) w hG hz hasc htr rfl (by decide) (fun w _ => zzUint8_ok ⟨#[51]⟩ 3 3 (by decide) (by decide) (fun _ => (by decide : (51 : UInt8).toNat ≠ 32 ∧ (51 : UInt8).toNat ≠ 9)) (by decide +kernel) (by decide +kernel) w) hh.1 hh.2 hne hBp hBs).mono ?_
  rintro e w2 ⟨rfl, h2, h3, h4⟩
  exact ⟨_, rfl, h2, StepR.ok ⟨fun _ => rfl, h3, h4⟩⟩
 | true =>
  have hex : (⟨(lnVer true wd).toArray⟩ : ByteArray).extract 15 (⟨(lnVer true wd).toArray⟩ : ByteArray).size = ⟨wd.toArray⟩ := ext_pre (pre := pVer) (rest := wd) rfl
  refine (dl_ver_bad (L := ⟨(lnVer true wd).toArray⟩) (rest := wd) (old := 3) w hG hz hasc htr (by simp [lnVer, pVer]) (by rw [size_of]; simp [lnVer, pVer]) (fun w hG => by rw [hex]; exact zzUint8_bad ⟨wd.toArray⟩ 3 (by rw [size_of]; have := hw.le; omega) (fun h => by have := wd_at0 hw h; omega) (by rw [runN0 fun x hx => (let_no (hw.ch x hx)).1]; exact ext_zero _) w hG) hh.1 hh.2 hne hBp hBs).mono ?_
  rintro e w2 ⟨ev, rfl, he, h2, h3, h4⟩
  exact ⟨_, rfl, h2, StepR.bad he (fun _ => rfl) (fun hs => ⟨(fun h => by rw [hs] at h; cases h), h3, h4⟩)⟩
theorem lineTgt {B : Nat} {G : Ge} {gp gs : Nat} {wd : List UInt8} (hw : Wd wd) (b st : Bool) {seq disc ver cap tail count lt dur : Nat} {m3 : Bool} {title : ByteArray} {sv : Value} (w : World) (hG : Env B G w) (hh : Hh gp gs (pcs 0 seq disc ver sv cap tail count) (dst lt m3 false dur title) w) (hne : gp ≠ gs) (hBp : B ≤ gp) (hBs : B ≤ gs) : Calls Tryz.prog 47 #[pt gp 0, pt gs 0, .string ⟨(lnTgt b wd ++ [10]).toArray⟩, .bool st] w (Ln st b gp gs w (pcs (if b then 0 else 4621256167635550208) seq disc ver sv cap tail count) (dst 2 m3 false dur title)) := by
 have hz : (⟨(lnTgt b wd ++ [10]).toArray⟩ : ByteArray).size ≤ 1000000 := by rw [size_of, List.length_append]; have := lenTgt (b := b) hw; show _ + 1 ≤ _; omega
 have htr := trimA_line (sgnTgt (b := b) hw) (neTgt (b := b) (wd := wd))
 have hasc := asc_line (sgnTgt (b := b) hw)
 cases b with
 | false =>
  refine (dl_tgt_ok (L := ⟨#[35, 69, 88, 84, 45, 88, 45, 84, 65, 82, 71, 69, 84, 68, 85, 82, 65, 84, 73, 79, 78, 58, 57]⟩) (rest := [57]) (old := 0) (nw := 4621256167635550208) w hG hz hasc htr rfl (by decide) (fun w hG => zzFloat_ok ⟨#[57]⟩ 4621256167635550208 0 (by decide) (fun _ => (by decide : (57 : UInt8).toNat ≠ 32 ∧ (57 : UInt8).toNat ≠ 9)) (by decide +kernel) (by decide +kernel) f9 w hG) hh.1 hh.2 hne hBp hBs).mono ?_
  rintro e w2 ⟨rfl, h2, h3, h4⟩
  exact ⟨_, rfl, h2, StepR.ok ⟨fun _ => rfl, h3, h4⟩⟩
 | true =>
  have hex : (⟨(lnTgt true wd).toArray⟩ : ByteArray).extract 22 (⟨(lnTgt true wd).toArray⟩ : ByteArray).size = ⟨wd.toArray⟩ := ext_pre (pre := pTgt) (rest := wd) rfl
  have hw0 : 0 < (⟨wd.toArray⟩ : ByteArray).size := by rw [size_of]; exact List.length_pos_iff.2 hw.ne
  have hat : ((⟨wd.toArray⟩ : ByteArray)[0]'hw0).toNat ≠ 46 ∧ ((⟨wd.toArray⟩ : ByteArray)[0]'hw0).toNat ≠ 101 ∧ ((⟨wd.toArray⟩ : ByteArray)[0]'hw0).toNat ≠ 69 := by have := wd_at0 hw hw0; omega
  refine (dl_tgt_bad (L := ⟨(lnTgt true wd).toArray⟩) (rest := wd) (old := 0) w hG hz hasc htr (by simp [lnTgt, pTgt]) (by rw [size_of]; simp [lnTgt, pTgt]) (fun w hG => by rw [hex]; exact zzFloat_bad ⟨wd.toArray⟩ 0 (by rw [size_of]; have := hw.le; omega) (fun h => by have := wd_at0 hw h; omega) (runN0 fun x hx => (let_no (hw.ch x hx)).2.1) (runN0 fun x hx => (let_no (hw.ch x hx)).2.2) hw0 (hat.1) (hat.2.1) (hat.2.2) w hG) hh.1 hh.2 hne hBp hBs).mono ?_
  rintro e w2 ⟨ev, rfl, he, h2, h3, h4⟩
  exact ⟨_, rfl, h2, StepR.bad he (fun _ => rfl) (fun hs => ⟨(fun h => by rw [hs] at h; cases h), h3, h4⟩)⟩
theorem lineSeq {B : Nat} {G : Ge} {gp gs : Nat} {wd : List UInt8} (hw : Wd wd) (b st : Bool) {tgt disc ver cap tail count lt dur : Nat} {m3 : Bool} {title : ByteArray} {sv : Value} (w : World) (hG : Env B G w) (hh : Hh gp gs (pcs tgt 0 disc ver sv cap tail count) (dst lt m3 false dur title) w) (hne : gp ≠ gs) (hBp : B ≤ gp) (hBs : B ≤ gs) : Calls Tryz.prog 47 #[pt gp 0, pt gs 0, .string ⟨(lnSeq b wd ++ [10]).toArray⟩, .bool st] w (Ln st b gp gs w (pcs tgt (if b then 0 else 4) disc ver sv cap tail count) (dst 2 m3 false dur title)) := by
 have hz : (⟨(lnSeq b wd ++ [10]).toArray⟩ : ByteArray).size ≤ 1000000 := by rw [size_of, List.length_append]; have := lenSeq (b := b) hw; show _ + 1 ≤ _; omega
 have htr := trimA_line (sgnSeq (b := b) hw) (neSeq (b := b) (wd := wd))
 have hasc := asc_line (sgnSeq (b := b) hw)
 cases b with
 | false =>
  refine (dl_seq_ok (L := ⟨#[35, 69, 88, 84, 45, 88, 45, 77, 69, 68, 73, 65, 45, 83, 69, 81, 85, 69, 78, 67, 69, 58, 52]⟩) (rest := [52]) (old := 0) (nw := 4) w hG hz hasc htr rfl (by decide) (fun w _ => zzUint64_ok ⟨#[52]⟩ 0 4 (by decide) (fun _ => (by decide : (52 : UInt8).toNat ≠ 32 ∧ (52 : UInt8).toNat ≠ 9)) (by decide +kernel) (by decide +kernel) w) hh.1 hh.2 hne hBp hBs).mono ?_
  rintro e w2 ⟨rfl, h2, h3, h4⟩
  exact ⟨_, rfl, h2, StepR.ok ⟨fun _ => rfl, h3, h4⟩⟩
 | true =>
  have hex : (⟨(lnSeq true wd).toArray⟩ : ByteArray).extract 22 (⟨(lnSeq true wd).toArray⟩ : ByteArray).size = ⟨wd.toArray⟩ := ext_pre (pre := pSeq) (rest := wd) rfl
  refine (dl_seq_bad (L := ⟨(lnSeq true wd).toArray⟩) (rest := wd) (old := 0) w hG hz hasc htr (by simp [lnSeq, pSeq]) (by rw [size_of]; simp [lnSeq, pSeq]) (fun w hG => by rw [hex]; exact zzUint64_bad ⟨wd.toArray⟩ 0 (by rw [size_of]; have := hw.le; omega) (fun h => by have := wd_at0 hw h; omega) (by rw [runN0 fun x hx => (let_no (hw.ch x hx)).1]; exact ext_zero _) w hG) hh.1 hh.2 hne hBp hBs).mono ?_
  rintro e w2 ⟨ev, rfl, he, h2, h3, h4⟩
  exact ⟨_, rfl, h2, StepR.bad he (fun _ => rfl) (fun hs => ⟨(fun h => by rw [hs] at h; cases h), h3, h4⟩)⟩
theorem lineDsq {B : Nat} {G : Ge} {gp gs : Nat} {wd : List UInt8} (hw : Wd wd) (b st : Bool) {tgt seq ver cap tail count lt dur : Nat} {m3 : Bool} {title : ByteArray} {sv : Value} (w : World) (hG : Env B G w) (hh : Hh gp gs (pcs tgt seq 0 ver sv cap tail count) (dst lt m3 false dur title) w) (hne : gp ≠ gs) (hBp : B ≤ gp) (hBs : B ≤ gs) : Calls Tryz.prog 47 #[pt gp 0, pt gs 0, .string ⟨(lnDsq b wd ++ [10]).toArray⟩, .bool st] w (Ln st b gp gs w (pcs tgt seq (if b then 0 else 2) ver sv cap tail count) (dst 2 m3 false dur title)) := by
 have hz : (⟨(lnDsq b wd ++ [10]).toArray⟩ : ByteArray).size ≤ 1000000 := by rw [size_of, List.length_append]; have := lenDsq (b := b) hw; show _ + 1 ≤ _; omega
 have htr := trimA_line (sgnDsq (b := b) hw) (neDsq (b := b) (wd := wd))
 have hasc := asc_line (sgnDsq (b := b) hw)
 cases b with
 | false =>
  refine (dl_dsq_ok (L := ⟨#[35, 69, 88, 84, 45, 88, 45, 68, 73, 83, 67, 79, 78, 84, 73, 78, 85, 73, 84, 89, 45, 83, 69, 81, 85, 69, 78, 67, 69, 58, 50]⟩) (rest := [50]) (old := 0) (nw := 2) w hG hz hasc htr rfl (by decide) (fun w _ => zzUint64_ok ⟨#[50]⟩ 0 2 (by decide) (fun _ => (by decide : (50 : UInt8).toNat ≠ 32 ∧ (50 : UInt8).toNat ≠ 9)) (by decide +kernel) (by decide +kernel) w) hh.1 hh.2 hne hBp hBs).mono ?_
  rintro e w2 ⟨rfl, h2, h3, h4⟩
  exact ⟨_, rfl, h2, StepR.ok ⟨fun _ => rfl, h3, h4⟩⟩
 | true =>
  have hex : (⟨(lnDsq true wd).toArray⟩ : ByteArray).extract 30 (⟨(lnDsq true wd).toArray⟩ : ByteArray).size = ⟨wd.toArray⟩ := ext_pre (pre := pDsq) (rest := wd) rfl
  refine (dl_dsq_bad (L := ⟨(lnDsq true wd).toArray⟩) (rest := wd) (old := 0) w hG hz hasc htr (by simp [lnDsq, pDsq]) (by rw [size_of]; simp [lnDsq, pDsq]) (fun w hG => by rw [hex]; exact zzUint64_bad ⟨wd.toArray⟩ 0 (by rw [size_of]; have := hw.le; omega) (fun h => by have := wd_at0 hw h; omega) (by rw [runN0 fun x hx => (let_no (hw.ch x hx)).1]; exact ext_zero _) w hG) hh.1 hh.2 hne hBp hBs).mono ?_
  rintro e w2 ⟨ev, rfl, he, h2, h3, h4⟩
  exact ⟨_, rfl, h2, StepR.bad he (fun _ => rfl) (fun hs => ⟨(fun h => by rw [hs] at h; cases h), h3, h4⟩)⟩
theorem lineInf {B : Nat} {G : Ge} {gp gs : Nat} {wd : List UInt8} (hw : Wd wd) (b st : Bool) {tgt seq disc ver cap tail count lt dur : Nat} {m3 : Bool} {title : ByteArray} {sv : Value} (w : World) (hG : Env B G w) (hh : Hh gp gs (pcs tgt seq disc ver sv cap tail count) (dst lt m3 false dur title) w) (hne : gp ≠ gs) (hBp : B ≤ gp) (hBs : B ≤ gs) : Calls Tryz.prog 47 #[pt gp 0, pt gs 0, .string ⟨(lnInf b wd ++ [10]).toArray⟩, .bool st] w (Ln st b gp gs w (pcs tgt seq disc ver sv cap tail count) (dst 2 m3 true (if b then 0 else 4620693217682128896) ⟨#[]⟩)) := by
 have hz : (⟨(lnInf b wd ++ [10]).toArray⟩ : ByteArray).size ≤ 1000000 := by rw [size_of, List.length_append]; have := lenInf (b := b) hw; show _ + 1 ≤ _; omega
 have htr := trimA_line (sgnInf (b := b) hw) (neInf (b := b) (wd := wd))
 have hasc := asc_line (sgnInf (b := b) hw)
 cases b with
 | false =>
  refine (dl_inf_ok (L := ⟨#[35, 69, 88, 84, 73, 78, 70, 58, 56, 46, 48, 48, 48, 44]⟩) (rest := [56, 46, 48, 48, 48, 44]) (ix := 13) (z := 4620693217682128896) w hG hz hasc htr rfl (by decide +kernel) (by decide) (by decide) (by decide) (fun w hG => parseFloat_num ⟨#[56, 46, 48, 48, 48]⟩ 4620693217682128896 f8 w hG) hh.1 hh.2 hne hBp hBs).mono ?_
  rintro e w2 ⟨rfl, h2, h3, h4⟩
  exact ⟨_, rfl, h2, StepR.ok ⟨fun _ => rfl, h3, h4⟩⟩
 | true =>
  have hl1 : 0 < wd.length := List.length_pos_iff.2 hw.ne
  have hl2 := hw.le
  have hsz : (⟨(lnInf true wd).toArray⟩ : ByteArray).size = 8 + (wd.length + 1) := by rw [size_of]; simp [lnInf, pInf]; omega
  have hex : (⟨(lnInf true wd).toArray⟩ : ByteArray).extract 8 (8 + wd.length) = ⟨wd.toArray⟩ := ext_mid (pre := pInf) (mid := wd) (rest := [44]) rfl rfl
  have hex2 : (⟨(lnInf true wd).toArray⟩ : ByteArray).extract (8 + wd.length + 1) (⟨(lnInf true wd).toArray⟩ : ByteArray).size = ⟨#[]⟩ := by
   rw [hsz, show 8 + wd.length + 1 = 8 + (wd.length + 1) from by omega]
   have h := ext_end (⟨(lnInf true wd).toArray⟩ : ByteArray)
   rw [hsz] at h; exact h
  have hix : zix ⟨(lnInf true wd).toArray⟩ 44 = ((8 + wd.length : Nat) : Int) := by
   refine zix_hit (by rw [hsz]; omega) ?_ ?_
   ·have h1 := at_list (s := ⟨(lnInf true wd).toArray⟩) (i := 8 + wd.length) (by rw [hsz]; omega)
    rw [show (⟨(lnInf true wd).toArray⟩ : ByteArray).data.toList = (pInf ++ wd) ++ [44] from by simp [lnInf], List.getElem?_append_right (by rw [List.length_append]; show 8 + _ ≤ _; omega), show 8 + wd.length - (pInf ++ wd).length = 0 from by rw [List.length_append]; show 8 + wd.length - (8 + wd.length) = 0; omega] at h1
    exact (Option.some.inj h1).symm
   ·intro j hj hlt
    have h1 := at_list (s := ⟨(lnInf true wd).toArray⟩) (i := j) hj
    rw [show (⟨(lnInf true wd).toArray⟩ : ByteArray).data.toList = (pInf ++ wd) ++ [44] from by simp [lnInf], List.getElem?_append_left (by rw [List.length_append]; show j < 8 + _; omega)] at h1
    have h2 := List.mem_of_getElem? h1
    rcases List.mem_append.1 h2 with h2 | h2
    ·intro e; rw [e] at h2; revert h2; decide
    ·intro e; rw [e] at h2; have := (hw.ch _ h2).1; revert this; decide
  have hrest : (⟨(lnInf true wd).toArray⟩ : ByteArray).data.toList = [35, 69, 88, 84, 73, 78, 70, 58] ++ (wd ++ [44]) := by simp [lnInf, pInf]
  cases st with
  | false =>
   have hd := dl_inf_badF (L := ⟨(lnInf true wd).toArray⟩) (rest := wd ++ [44]) (ix := 8 + wd.length) w hG hz hasc htr hrest hix (by omega) (by rw [hsz]; omega) (by rw [hsz]; omega) (fun w hG => by rw [hex]; exact parseFloat_bad _ hw.noNum w hG) hh.1 hh.2 hne hBp hBs
   rw [hex2] at hd
   refine hd.mono ?_
   rintro e w2 ⟨ev, rfl, he, h2, h3, h4⟩
   exact ⟨_, rfl, h2, StepR.bad he (fun _ => rfl) (fun _ => ⟨(fun h => by cases h), h3, h4⟩)⟩
  | true =>
   refine (dl_inf_badT (L := ⟨(lnInf true wd).toArray⟩) (rest := wd ++ [44]) (ix := 8 + wd.length) w hG hz hasc htr hrest hix (by omega) (by rw [hsz]; omega) (by rw [hsz]; omega) (fun w hG => by rw [hex]; exact parseFloat_bad _ hw.noNum w hG) hh.1 hh.2 hne hBp hBs).mono ?_
   rintro e w2 ⟨ev, rfl, he, h2, h3, h4⟩
   exact ⟨_, rfl, h2, StepR.bad he (fun _ => rfl) (fun h => by cases h)⟩
theorem lineHd {B : Nat} {G : Ge} {gp gs : Nat} (st : Bool) {tgt seq disc ver cap tail count lt dur : Nat} {m3 : Bool} {title : ByteArray} {sv : Value} (w : World) (hG : Env B G w) (hh : Hh gp gs (pcs tgt seq disc ver sv cap tail count) (dst lt m3 false dur title) w) (hne : gp ≠ gs) (hBp : B ≤ gp) (hBs : B ≤ gs) : Calls Tryz.prog 47 #[pt gp 0, pt gs 0, .string ⟨(lnHd ++ [10]).toArray⟩, .bool st] w (Ln st false gp gs w (pcs tgt seq disc ver sv cap tail count) (dst lt true false dur title)) := by
 refine (dl_m3u (L := ⟨lnHd.toArray⟩) w hG (by decide) (asc_line (l := lnHd) (sgn_of (by decide))) (trimA_line (l := lnHd) (sgn_of (by decide)) (by decide)) rfl hh.1 hh.2 hne hBp hBs).mono ?_
 rintro e w2 ⟨rfl, h2, h3, h4⟩
 exact ⟨_, rfl, h2, StepR.ok ⟨fun _ => rfl, h3, h4⟩⟩
theorem lineNil {B : Nat} {G : Ge} {gp gs : Nat} (st : Bool) {tgt seq disc ver cap tail count lt dur : Nat} {m3 : Bool} {title : ByteArray} {sv : Value} (w : World) (hG : Env B G w) (hh : Hh gp gs (pcs tgt seq disc ver sv cap tail count) (dst lt m3 false dur title) w) (hne : gp ≠ gs) (hBp : B ≤ gp) (hBs : B ≤ gs) : Calls Tryz.prog 47 #[pt gp 0, pt gs 0, .string ⟨([] : List UInt8).toArray⟩, .bool st] w (Ln st false gp gs w (pcs tgt seq disc ver sv cap tail count) (dst lt m3 false dur title)) := by
 refine (dl_nil (L := ⟨#[]⟩) w hG (by decide) (asc_of (by intro x hx; cases hx)) rfl rfl hh.1 hh.2 hne hBp hBs).mono ?_
 rintro e w2 ⟨rfl, h2, h3, h4⟩
 exact ⟨_, rfl, h2, StepR.ok ⟨fun _ => rfl, h3, h4⟩⟩
/-- The target behind a segment. -/
def tgt2 (tgt dur : Nat) : Nat := if FloatKind.f64.format.order tgt dur == some .lt then dur else tgt
theorem run_ceil8 (w : World) : (callFunc 122 #[.float .f64 4620693217682128896]).run Tryz.prog w = .ok (.value (.float .f64 4620693217682128896)) w := by
 rw [run_callFunc_extern Tryz.func122 (by kernel_rfl) (by kernel_rfl) (by kernel_rfl) (e := Go.Extern.MathFloor.toIntegral "math.archCeil" .up) (by kernel_rfl)]
 have hr : (Go.Extern.MathFloor.toIntegral "math.archCeil" .up #[.float .f64 4620693217682128896]).run Tryz.prog w = .ok (.float .f64 4620693217682128896) w := by kernel_rfl
 simp [hr, Result.andThen]
theorem ceil8 (w : World) : Calls Tryz.prog 109 #[.float .f64 4620693217682128896] w (fun e w' => e = .returned (.float .f64 4620693217682128896) ∧ w' = w) := by
 have hc := fun w => run_ceil8 w
 generalize (4620693217682128896 : Nat) = X at hc ⊢
 go_enter Tryz.func109, Tryz.ntmps109
 go_wp2
 go_ret
 exact ⟨rfl, rfl⟩
theorem lineUri {B : Nat} {G : Ge} {gp gs gr : Nat} (st : Bool) {tgt seq disc ver cap lt dur : Nat} {m3 : Bool} {title : ByteArray} (hk : 0 < cap) (hcap : cap ≤ 100000) (hseq : seq < 18446744073709551615) (hd : dur = 4620693217682128896 ∨ (FloatKind.f64.format.order tgt dur == some .lt) = false) (w : World) (hG : Env B G w) (hh : Hh gp gs (pcs tgt seq disc ver (.slice (some ⟨gr, 0, none⟩) cap cap) cap 0 0) (dst lt m3 true dur title) w) (hr : w.heap[gr]? = some (.cells (List.replicate cap (Value.pointer none)).toArray 125 (0, 0))) (hne : gp ≠ gs) (hBp : B ≤ gp) (hBs : B ≤ gs) (hBr : B ≤ gr) (hrp : gr ≠ gp) (hrs : gr ≠ gs) : Calls Tryz.prog 47 #[pt gp 0, pt gs 0, .string ⟨(lnUri ++ [10]).toArray⟩, .bool st] w fun e w2 => e = .returned .nilIface ∧ Only (XX gp gr gs) w w2 ∧ Hh gp gs (pcs (tgt2 tgt dur) seq disc ver (.slice (some ⟨gr, 0, none⟩) cap cap) cap (1 % cap) 1) (dst lt m3 false dur title) w2 ∧ ∃ sg, w.heap.size ≤ sg ∧ w2.heap[gr]? = some (.cells ((List.replicate cap (Value.pointer none)).set 0 (pt sg 0)).toArray 125 (0, 0)) ∧ w2.heap[sg]? = some (.cells (scs seq title ⟨lnUri.toArray⟩ dur) 127 (0, 0)) := by
 have hu := dl_uri (st := st) (L := ⟨lnUri.toArray⟩) (gr := gr) (dur := dur) (title := title) (Rc := (List.replicate cap (Value.pointer none)).toArray) (Sc := scs seq title ⟨lnUri.toArray⟩ dur) (Rf := fun sg => ((List.replicate cap (Value.pointer none)).set 0 (pt sg 0)).toArray) w hG (by decide) (asc_line (l := lnUri) (sgn_of (by decide))) (trimA_line (l := lnUri) (sgn_of (by decide)) (by decide)) rfl hh.1 hh.2 hne hBp hBs hBr hrp hrs hr (Q0 := .float .f64 (tgt2 tgt dur)) (Q1 := .int .u64 (seq : Int)) (Q2 := .slice (some ⟨gr, 0, none⟩) cap cap) (Q3 := .string ⟨#[]⟩) (Q4 := .bool false) (Q5 := .bool false) (Q6 := .int .u64 0) (Q7 := .int .u64 (disc : Int)) (Q8 := .float .f64 0) (Q9 := .bool false) (Q10 := .bool false) (Q11 := .int .i64 0) (Q12 := .int .u64 0) (Q13 := .int .u64 (cap : Int)) (Q14 := .int .u64 0) (Q15 := .int .u64 ((1 % cap : Nat) : Int)) (Q16 := .int .u64 ((1 : Nat) : Int)) (Q17 := .slice none 0 0) (Q18 := .int .i64 0) (Q19 := .int .i8 0) (Q20 := .int .u8 (ver : Int)) (Q21 := .pointer none) (Q22 := .pointer none) ?_
 ·exact hu.mono fun e w2 ⟨h1, h2, h3, h4, h5⟩ => ⟨h1, h2, ⟨h3, h4⟩, h5⟩
 ·intro w hG hgp hgr
  cases hfl : (FloatKind.f64.format.order tgt dur == some .lt) with
  | false =>
   have h2 : tgt2 tgt dur = tgt := by unfold tgt2; rw [hfl]; rfl
   rw [h2]
   exact append0 gp gr hk hcap hseq hfl w hgp hgr
  | true =>
   have h2 : tgt2 tgt dur = dur := by unfold tgt2; rw [hfl]; rfl
   rw [h2]
   have h8 : dur = 4620693217682128896 := hd.resolve_right (by rw [hfl]; decide)
   exact append0C gp gr hk hcap hseq hfl (c := dur) (by rw [h8]; exact ceil8) w hgp hgr
end Go.Proofs.YtflppablgdegcaaGreatDoor
/- FnNoNumber's text through DecodeFrom. -/
set_option maxRecDepth 100000
namespace Go.Proofs.YtflppablgdegcaaGreatDoor
open Go.RowKit
/-- The lines; the word stands at the kk-th number (at none where kk is 5). -/
def lnsOf (kk : Nat) (wd : List UInt8) : List (List UInt8) := [lnHd, lnVer (kk == 0) wd, lnTgt (kk == 1) wd, lnSeq (kk == 2) wd, lnDsq (kk == 3) wd, lnInf (kk == 4) wd, lnUri]
def tgN (kk : Nat) : Nat := if kk == 1 then 0 else 4621256167635550208
def sqN (kk : Nat) : Nat := if kk == 2 then 0 else 4
def dqN (kk : Nat) : Nat := if kk == 3 then 0 else 2
def duN (kk : Nat) : Nat := if kk == 4 then 0 else 4620693217682128896
def R0 (gr : Nat) (w : World) : Prop := w.heap[gr]? = some (.cells (List.replicate 4 (Value.pointer none)).toArray 125 (0, 0))
def R1 (kk gr gs : Nat) (w : World) : Prop := ∃ sg, gs < sg ∧ w.heap[gr]? = some (.cells ((List.replicate 4 (Value.pointer none)).set 0 (pt sg 0)).toArray 125 (0, 0)) ∧ w.heap[sg]? = some (.cells (scs (sqN kk) ⟨#[]⟩ ⟨lnUri.toArray⟩ (duN kk)) 127 (0, 0))
/-- What lies in memory when so many lines are read. -/
def StJ (kk gp gr gs : Nat) : Nat → World → Prop
 | 0, w => Hh gp gs (pcs 0 0 0 3 (.slice (some ⟨gr, 0, none⟩) 4 4) 4 0 0) (dst 0 false false 0 ⟨#[]⟩) w ∧ R0 gr w
 | 1, w => Hh gp gs (pcs 0 0 0 3 (.slice (some ⟨gr, 0, none⟩) 4 4) 4 0 0) (dst 0 true false 0 ⟨#[]⟩) w ∧ R0 gr w
 | 2, w => Hh gp gs (pcs 0 0 0 3 (.slice (some ⟨gr, 0, none⟩) 4 4) 4 0 0) (dst 2 true false 0 ⟨#[]⟩) w ∧ R0 gr w
 | 3, w => Hh gp gs (pcs (tgN kk) 0 0 3 (.slice (some ⟨gr, 0, none⟩) 4 4) 4 0 0) (dst 2 true false 0 ⟨#[]⟩) w ∧ R0 gr w
 | 4, w => Hh gp gs (pcs (tgN kk) (sqN kk) 0 3 (.slice (some ⟨gr, 0, none⟩) 4 4) 4 0 0) (dst 2 true false 0 ⟨#[]⟩) w ∧ R0 gr w
 | 5, w => Hh gp gs (pcs (tgN kk) (sqN kk) (dqN kk) 3 (.slice (some ⟨gr, 0, none⟩) 4 4) 4 0 0) (dst 2 true false 0 ⟨#[]⟩) w ∧ R0 gr w
 | 6, w => Hh gp gs (pcs (tgN kk) (sqN kk) (dqN kk) 3 (.slice (some ⟨gr, 0, none⟩) 4 4) 4 0 0) (dst 2 true true (duN kk) ⟨#[]⟩) w ∧ R0 gr w
 | _, w => Hh gp gs (pcs (tgt2 (tgN kk) (duN kk)) (sqN kk) (dqN kk) 3 (.slice (some ⟨gr, 0, none⟩) 4 4) 4 1 1) (dst 2 true false (duN kk) ⟨#[]⟩) w ∧ R1 kk gr gs w
theorem Hh.keep {gp gs : Nat} {P S : Array Value} {w w' : World} {X : Nat → Prop} (h : Hh gp gs P S w) (ho : Only X w w') (hp : ¬ X gp) (hs : ¬ X gs) : Hh gp gs P S w' :=
 ⟨(ho.block gp (Array.getElem?_eq_some_iff.1 h.1).1 hp).trans h.1, (ho.block gs (Array.getElem?_eq_some_iff.1 h.2).1 hs).trans h.2⟩
theorem blk_keep {g : Nat} {ob : Obj} {w w' : World} {X : Nat → Prop} (h : w.heap[g]? = some ob) (ho : Only X w w') (hg : ¬ X g) : w'.heap[g]? = some ob := (ho.block g (Array.getElem?_eq_some_iff.1 h).1 hg).trans h
theorem R1.keep {kk gr gs : Nat} {w w' : World} {X : Nat → Prop} (h : R1 kk gr gs w) (ho : Only X w w') (hr : ¬ X gr) (hx : ∀ q, gs < q → ¬ X q) : R1 kk gr gs w' := by
 obtain ⟨sg, h1, h2, h3⟩ := h
 exact ⟨sg, h1, blk_keep h2 ho hr, blk_keep h3 ho (hx _ h1)⟩
theorem StJ.keep {kk gp gr gs : Nat} {w w' : World} {X : Nat → Prop} : ∀ (j : Nat), StJ kk gp gr gs j w → Only X w w' → ¬ X gp → ¬ X gr → ¬ X gs → (∀ q, gs < q → ¬ X q) → StJ kk gp gr gs j w'
 | 0, h, ho, hp, hr, hs, _ => ⟨h.1.keep ho hp hs, blk_keep h.2 ho hr⟩
 | 1, h, ho, hp, hr, hs, _ => ⟨h.1.keep ho hp hs, blk_keep h.2 ho hr⟩
 | 2, h, ho, hp, hr, hs, _ => ⟨h.1.keep ho hp hs, blk_keep h.2 ho hr⟩
 | 3, h, ho, hp, hr, hs, _ => ⟨h.1.keep ho hp hs, blk_keep h.2 ho hr⟩
 | 4, h, ho, hp, hr, hs, _ => ⟨h.1.keep ho hp hs, blk_keep h.2 ho hr⟩
 | 5, h, ho, hp, hr, hs, _ => ⟨h.1.keep ho hp hs, blk_keep h.2 ho hr⟩
 | 6, h, ho, hp, hr, hs, _ => ⟨h.1.keep ho hp hs, blk_keep h.2 ho hr⟩
 | _ + 7, h, ho, hp, hr, hs, hx => ⟨h.1.keep ho hp hs, h.2.keep ho hr hx⟩
theorem step_to {st b : Bool} {gp gs gr : Nat} {w' w2 : World} {P' S' : Array Value} {e : Ending} {Bad K : Prop} (h : Ln st b gp gs w' P' S' e w2) (hb : st = true → b = true → Bad) (hK : Only (fun q => q = gp ∨ q = gs) w' w2 → (st = true → b = false) → Hh gp gs P' S' w2 → K) : ∃ ev, e = .returned ev ∧ Only (XX gp gr gs) w' w2 ∧ StepR st ev Bad K := by
 obtain ⟨ev, h1, h2, h3⟩ := h
 exact ⟨ev, h1, h2.mono fun q _ hq => .inl hq, h3.mono hb fun h4 => hK h2 h4.1 h4.2⟩
def In (kk gp gr : Nat) (wd : List UInt8) (st : Bool) (gs : Nat) (rem : List (List UInt8)) (w : World) : Prop := ∃ j, j ≤ 7 ∧ rem = (lnsOf kk wd).drop j ∧ (st = true → kk < 5 → j ≤ kk + 1) ∧ StJ kk gp gr gs j w
def Jn (kk gp gr : Nat) (st : Bool) (gs : Nat) (w : World) : Prop := ¬ (st = true ∧ kk < 5) ∧ StJ kk gp gr gs 7 w
theorem stepNN {kk gp gr gs B : Nat} {G : Ge} {wd : List UInt8} (hw : Wd wd) (st : Bool) (ln : List UInt8) (rem : List (List UInt8)) (w : World) (hG : Env B G w) (hI : In kk gp gr wd st gs (ln :: rem) w) (hps : gp < gs) (hrs : gr < gs) (hpr : gp ≠ gr) (hBp : B ≤ gp) (hBr : B ≤ gr) : Calls Tryz.prog 47 #[pt gp 0, pt gs 0, .string ⟨(ln ++ [10]).toArray⟩, .bool st] w fun e w2 => ∃ ev, e = .returned ev ∧ Only (XX gp gr gs) w w2 ∧ StepR st ev (st = true ∧ kk < 5) (In kk gp gr wd st gs rem w2) := by
 have hBs : B ≤ gs := by omega
 have hne : gp ≠ gs := by omega
 have hgslt : ∀ (P S : Array Value), Hh gp gs P S w → gs < w.heap.size := fun P S h => (Array.getElem?_eq_some_iff.1 h.2).1
 obtain ⟨j, hj, hrem, hok, hst⟩ := hI
 have hr0 : ∀ w2, Only (fun q => q = gp ∨ q = gs) w w2 → R0 gr w → R0 gr w2 := fun w2 ho h => blk_keep h ho (by rintro (h | h); (· exact hpr h.symm); (· omega))
 rcases j with _ | _ | _ | _ | _ | _ | _ | j
 ·obtain ⟨rfl, rfl⟩ := List.cons.inj hrem
  refine (lineHd st w hG hst.1 hne hBp hBs).mono fun e w2 h => step_to h (fun _ h => by cases h) fun ho hb hh => ⟨1, by omega, rfl, (fun hs hk => by omega), hh, hr0 _ ho hst.2⟩
 ·obtain ⟨rfl, rfl⟩ := List.cons.inj hrem
  refine (lineVer hw (kk == 0) st w hG hst.1 hne hBp hBs).mono fun e w2 h => step_to h (fun hs h => ⟨hs, by have := eq_of_beq h; omega⟩) fun ho hb hh => ⟨2, by omega, rfl, (fun hs hk => by have h1 := hok hs hk; have h2 : kk ≠ 0 := (by simpa using hb hs); omega), hh, hr0 _ ho hst.2⟩
 ·obtain ⟨rfl, rfl⟩ := List.cons.inj hrem
  refine (lineTgt hw (kk == 1) st w hG hst.1 hne hBp hBs).mono fun e w2 h => step_to h (fun hs h => ⟨hs, by have := eq_of_beq h; omega⟩) fun ho hb hh => ⟨3, by omega, rfl, (fun hs hk => by have h1 := hok hs hk; have h2 : kk ≠ 1 := (by simpa using hb hs); omega), hh, hr0 _ ho hst.2⟩
 ·obtain ⟨rfl, rfl⟩ := List.cons.inj hrem
  refine (lineSeq hw (kk == 2) st w hG hst.1 hne hBp hBs).mono fun e w2 h => step_to h (fun hs h => ⟨hs, by have := eq_of_beq h; omega⟩) fun ho hb hh => ⟨4, by omega, rfl, (fun hs hk => by have h1 := hok hs hk; have h2 : kk ≠ 2 := (by simpa using hb hs); omega), hh, hr0 _ ho hst.2⟩
 ·obtain ⟨rfl, rfl⟩ := List.cons.inj hrem
  refine (lineDsq hw (kk == 3) st w hG hst.1 hne hBp hBs).mono fun e w2 h => step_to h (fun hs h => ⟨hs, by have := eq_of_beq h; omega⟩) fun ho hb hh => ⟨5, by omega, rfl, (fun hs hk => by have h1 := hok hs hk; have h2 : kk ≠ 3 := (by simpa using hb hs); omega), hh, hr0 _ ho hst.2⟩
 ·obtain ⟨rfl, rfl⟩ := List.cons.inj hrem
  refine (lineInf hw (kk == 4) st w hG hst.1 hne hBp hBs).mono fun e w2 h => step_to h (fun hs h => ⟨hs, by have := eq_of_beq h; omega⟩) fun ho hb hh => ⟨6, by omega, rfl, (fun hs hk => by have h1 := hok hs hk; have h2 : kk ≠ 4 := (by simpa using hb hs); omega), hh, hr0 _ ho hst.2⟩
 ·obtain ⟨rfl, rfl⟩ := List.cons.inj hrem
  refine (lineUri (cap := 4) st (by decide) (by decide) (by unfold sqN; split <;> decide) (by by_cases h : kk = 4; (· right; subst h; decide +kernel); (· left; unfold duN; rw [if_neg (by simpa using h)])) w hG hst.1 hst.2 hne hBp hBs hBr hpr.symm (by omega)).mono ?_
  rintro e w2 ⟨rfl, ho, hh, sg, h1, h2, h3⟩
  have := hgslt _ _ hst.1
  exact ⟨_, rfl, ho, StepR.ok ⟨7, by omega, rfl, (fun hs hk => by have h1 := hok hs hk; omega), hh, sg, by omega, h2, h3⟩⟩
 ·have h7 : j = 0 := by omega
  subst h7
  cases hrem
theorem lastNN {kk gp gr gs B : Nat} {G : Ge} {wd : List UInt8} (st : Bool) (w : World) (hG : Env B G w) (hI : In kk gp gr wd st gs [] w) (hps : gp < gs) (hrs : gr < gs) (hpr : gp ≠ gr) (hBp : B ≤ gp) : Calls Tryz.prog 47 #[pt gp 0, pt gs 0, .string ⟨([] : List UInt8).toArray⟩, .bool st] w fun e w2 => ∃ ev, e = .returned ev ∧ Only (XX gp gr gs) w w2 ∧ StepR st ev (st = true ∧ kk < 5) (Jn kk gp gr st gs w2) := by
 obtain ⟨j, hj, hrem, hok, hst⟩ := hI
 have h7 : j = 7 := by
  have h1 := congrArg List.length hrem
  rw [List.length_drop] at h1
  have h2 : (lnsOf kk wd).length = 7 := rfl
  rw [h2] at h1
  simp at h1
  omega
 subst h7
 refine (lineNil st w hG hst.1 (by omega) hBp (by omega)).mono fun e w2 h => step_to h (fun _ h => by cases h) fun ho _ hh => ⟨(fun ⟨hs, hk⟩ => by have := hok hs hk; omega), hh, hst.2.keep ho (by rintro (h | h); (· exact hpr h.symm); (· omega)) (fun q hq => by omega)⟩
theorem decodeNN (kk : Nat) {wd : List UInt8} (hw : Wd wd) (st : Bool) {B : Nat} {G : Ge} {r g n cc gp gr : Nat} {s : ByteArray} (w : World) (hG : Env B G w) (hr : w.heap[r]? = some (.cells #[.slice (some ⟨g, 0, none⟩) n cc, .int .i64 ((0 : Nat) : Int), .int .i64 (-1)] 97 (0, 0))) (hD : Lib.Bytes w g 0 s) (hsn : s.size = n) (hc : n ≤ cc) (hn : n ≤ 100000000) (hgr0 : g ≠ r) (hgl : g < w.heap.size) (hs : s.data.toList = flatLn (lnsOf kk wd) [])
  (hBr0 : B ≤ r) (hBp : B ≤ gp) (hBr : B ≤ gr) (hgp : w.heap[gp]? = some (.cells (pcs 0 0 0 3 (.slice (some ⟨gr, 0, none⟩) 4 4) 4 0 0) 88 (0, 0))) (hgr : R0 gr w) (hpr : gp ≠ gr) (hrp : r ≠ gp) (hrr : r ≠ gr) :
  Calls Tryz.prog 18 #[pt gp 0, .iface 62 (pt r 0), .bool st] w fun e w' => ∃ ev, e = .returned ev ∧ Only (fun q => q = r ∨ q = gp ∨ q = gr) w w' ∧ (((st = true ∧ kk < 5) ∧ IsErr ev) ∨ (¬ (st = true ∧ kk < 5) ∧ ev = .nilIface ∧ ∃ gs, gp < gs ∧ StJ kk gp gr gs 7 w')) := by
 have hpl : gp < w.heap.size := (Array.getElem?_eq_some_iff.1 hgp).1
 have hrl : gr < w.heap.size := (Array.getElem?_eq_some_iff.1 hgr).1
 have hS : ∀ ln ∈ lnsOf kk wd, Sgn ln := by
  intro ln hl
  simp only [lnsOf, List.mem_cons, List.not_mem_nil, or_false] at hl
  rcases hl with rfl | rfl | rfl | rfl | rfl | rfl | rfl
  ·exact sgn_of (by decide)
  ·exact sgnVer hw
  ·exact sgnTgt hw
  ·exact sgnSeq hw
  ·exact sgnDsq hw
  ·exact sgnInf hw
  ·exact sgn_of (by decide)
 refine (decodeFrom_any (Bad := st = true ∧ kk < 5) (lnsOf kk wd) [] (fun gs rem w' => In kk gp gr wd st gs rem w') (fun gs w' => w.heap.size ≤ gs ∧ Jn kk gp gr st gs w') w hG hr hD hsn hc hn hgr0 hgl hs (fun ln hl => (hS ln hl).ne10) (by intro x hx; cases hx) hBr0 hBp hBr hpl hrl ?_ ?_ ?_ ?_ ?_).mono ?_
 ·intro gs w' hgs ho hz
  exact ⟨0, by omega, rfl, (fun _ _ => by omega), ⟨blk_keep hgp ho (fun h => hrp h.symm), hz⟩, blk_keep hgr ho (fun h => hrr h.symm)⟩
 ·rintro b gs rem w1 w2 hb hbg ⟨j, hj, hrem, hok, hst⟩ ho
  exact ⟨j, hj, hrem, hok, StJ.keep j hst ho (by omega) (by omega) (by omega) (fun q hq => by omega)⟩
 ·intro gs ln rem w' hgs hI hG'
  exact stepNN hw st ln rem w' hG' hI (by omega) (by omega) hpr hBp hBr
 ·intro gs w' hgs hI hG'
  refine (lastNN st w' hG' hI (by omega) (by omega) hpr hBp).mono ?_
  rintro e w2 ⟨ev, h1, h2, h3⟩
  exact ⟨ev, h1, h2, h3.mono (fun _ h => h) fun h => ⟨hgs, h⟩⟩
 ·rintro gs w' ⟨_, _, hh, _⟩
  exact cell_of_heap (v := .bool true) hh.2 rfl
 ·rintro e w' ⟨ev, h1, h2, h3⟩
  refine ⟨ev, h1, h2, ?_⟩
  rcases h3 with ⟨h3, gs, h4, h5, h6⟩ | ⟨h3, h4⟩
  ·exact .inr ⟨h5, h3, gs, by omega, h6⟩
  ·exact .inl ⟨h3, h4⟩
end Go.Proofs.YtflppablgdegcaaGreatDoor
