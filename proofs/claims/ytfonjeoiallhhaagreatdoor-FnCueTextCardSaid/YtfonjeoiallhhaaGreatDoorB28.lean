/- Joined: Ctext, CtextCard. -/
import Derived.Test.YtfonjeoiallhhaaGreatDoorRows
import Derived.Test.YtfonjeoiallhhaaGreatDoorB24
import Derived.Test.YtfonjeoiallhhaaGreatDoorB27
import Derived.WalkKit
import Derived.WalkSmall
import Derived.ProofKit
import Derived.LaidMore
import Derived.Lay
import Derived.MakeChecks
import Derived.OpenShut
import Derived.ShutString
import Derived.ChangeOld
import Derived.ChangeVars
import Derived.Below
import Derived.Stop.Joined
import Derived.Test.YtfonjeoiallhhaaGreatDoorCards
import Derived.Test.YtfonjeoiallhhaaGreatDoorTie
import Derived.SevenTiedAt
/- 'laws.FnCueText' returns true, for every input. Condition: the listed package-level variables hold what the program's text lays (tied by the card). The frame of the proof was written by the kit's proof-skeleton. -/
set_option maxRecDepth 100000
namespace Go.Proofs.YtfonjeoiallhhaaGreatDoor.fnCueText
open Go.ChangeShapes Go.WideShapes Go.ChangeAt Go.RowKit
open Go.ChangeMaps (open_string shut_string)
set_option linter.unusedVariables false

theorem own : ownKnob Tryz.prog.godebug = none := by kernel_rfl
theorem gFull : Tryz.prog.globalNamed "loop.example/pub-g03455/pub/m3u8.ErrPlaylistFull" = some 0 := by kernel_rfl
theorem tFull : (Tryz.prog.globals[0]?).map (·.type) = some 60 := by kernel_rfl
theorem laidOut : laidOutB Tryz.prog = true := by kernel_rfl

/-- WHAT THE WALK IS TOLD OF A SLICE OF INTEGERS THAT CAME IN: it is nil; or it leads to a row of 'cap' cells, the numbers 'zs' (the first 'len' are its elements, the rest its spare room), each fitting its kind. -/
def IsRow (k : IntKind) (w : World) (a : Option Addr) (len cap : Nat) (zs : List Int) : Prop :=
 (a = none ∧ len = 0 ∧ cap = 0 ∧ zs = []) ∨
 ∃ x, a = some x ∧ len ≤ cap ∧ cap ≤ maxLen ∧ zs.length = cap ∧ (∀ i, i < zs.length → w.cell? (x.add i) = some (.int k (zs.getD i 0))) ∧ ∀ n ∈ zs, (Lit.int k n).wf = true

theorem u32_nat {x : Int} (h : (Lit.int .u32 x).wf = true) : ∃ n : Nat, x = n ∧ n < 4294967296 := by
 simp only [Lit.wf, Bool.and_eq_true, decide_eq_true_eq] at h
 have h0 : IntKind.u32.min = 0 := by decide
 have h1 : IntKind.u32.max = 4294967295 := by decide
 rw [h0, h1] at h
 exact ⟨x.toNat, by omega, by omega⟩

theorem cell_next {w w' : World} {p : Addr} {v : Value} (hb : Below w.heap.size w w') (h : w.cell? p = some v) : w'.cell? p = some v := by
 rw [World.cell?_of_block (w := w)]
 ·exact h
 ·exact hb.block _ (World.block_lt_of_cell? w _ h)
theorem ff2_next {w w' : World} (h : FfTab2 w) (hb : Below w.heap.size w w') : FfTab2 w' :=
 ⟨h.ff.next hb, ⟨cell_next hb h.pm.h15, cell_next hb h.pm.l15, cell_next hb h.pm.h16, cell_next hb h.pm.l16, cell_next hb h.pm.h17, cell_next hb h.pm.l17⟩⟩
theorem walk (a0 : Option Addr) (len0 cap0 : Nat) (z0 : List Int) (a1 : Int) (w : World) (w0 : IsRow .u32 w a0 len0 cap0 z0) (w1 : (Lit.int .u32 a1).wf = true) (hT : laidMetH Tryz.prog laid8 w) :
  Calls Tryz.prog 4 #[.slice a0 len0 cap0, .int .u32 a1] w fun e w' => e = .returned (.bool true) ∧ Below w.heap.size w w' := by
 have hU : U32s w a0 len0 := by
  rcases w0 with ⟨rfl, rfl, _, _⟩ | ⟨x, rfl, hl, _, hz, hc, hw⟩
  ·intro j hj; omega
  ·intro j hj
   have hjz : j < z0.length := by omega
   have h1 := hc j hjz
   have h2 := hw _ (List.getElem_mem hjz)
   rw [List.getD_eq_getElem?_getD, List.getElem?_eq_getElem hjz, Option.getD_some] at h1
   obtain ⟨y, hy, hy2⟩ := u32_nat h2
   exact ⟨x, y, rfl, by rw [h1, hy], hy2⟩
 have hle : len0 ≤ cap0 := by
  rcases w0 with ⟨_, rfl, rfl, _⟩ | ⟨x, _, hl, hm, _⟩
  ·omega
  ·exact hl
 obtain ⟨n, rfl, hn⟩ := u32_nat w1
 have hF := ff2_of_laid hT
 exact fnCueText_any wc_law a0 len0 cap0 n hn hle w hU (fun w' hb => (ff2_next hF hb).ff.pow) (fun x hx w' hb => formatShort_any x hx w' (fun w'' hb' => ff2_next (ff2_next hF hb) hb')) (fun x hx w' hb => formatSecs_all x hx w' (ff2_next hF hb).ff)

/-! ### THE ROW's STEP -/
theorem lifted (os : Go.Os) (started : os.Started) (H : Type) (enc : TypeId × Value → H) :
  ReturnsInHanded {} Tryz.checked os 4 .any (fun w args => (Rows.fnCueTextSpec.pre enc Tryz.prog Tryz.f4 [] false w args ∧ laidMetH Tryz.prog laid8 w) ∧ sizedMet enc Tryz.prog Tryz.f4 (OpenSpec.ofChange Rows.fnCueTextSpec) false w args)
   (Rows.fnCueTextSpec.post enc Tryz.prog Tryz.f4 false true false false) := by
 refine returnsInHanded_of_change_and (C := Tryz.checked) (X := fun w _ => laidMetH Tryz.prog laid8 w) (fun _ _ _ hh h => h.of_heap hh) own started (by kernel_rfl) Tryz.func4
  (ChangeSpec.witness_shaped (enc := enc) (C := Tryz.checked) (os := os) (X := fun w _ => laidMetH Tryz.prog laid8 w) false (World.laidAll Tryz.prog os laid8) #[.slice none 0 0, .int .u32 0] 8 (World.laidAll_os _ _ _)
   (World.shaped_of_ZipB (by kernel_rfl) (by kernel_rfl)) (by kernel_rfl) (by kernel_rfl) (by kernel_rfl)
   (by rw [MakeChecks.laidMetH_plain _ _ _ (by kernel_rfl)]; exact laidMet_laidAll _ (by kernel_rfl) (by kernel_rfl))) ?_
 intro W base args ds gs before hval0 hW _ _ hL _
 have hval : ∀ (j : Nat) t v, Tryz.f4.params[j]? = some t → args[j]? = some v → Value.okWide Tryz.prog W .any base t v := hval0
 have hW' := hW
 obtain ⟨p, q, hA0, hV0, rfl, hfz, hnd⟩ := hW
 have hA : DataW.TrodAll enc Tryz.prog W 0 (fun _ => true) true Tryz.f4.params.toList args.toList ds p := hA0
 have hV : DataW.TrodVars enc Tryz.prog W (fun _ => true) ["loop.example/pub-g03455/pub/m3u8.ErrPlaylistFull"] gs q := hV0
 rw [Tryz.params4] at hA hval
 obtain ⟨v0, vs0, d0, ds0, p0, q0, hargs, rfl, rfl, h0, r0⟩ := trodAll_cons hA
 obtain ⟨v1, vs1, d1, ds1, p1, q1, rfl, rfl, rfl, h1, r1⟩ := trodAll_cons r0
 obtain ⟨rfl, rfl, rfl⟩ := trodAll_nil r1
 obtain rfl : args = #[v0, v1] := by cases args; simp_all
 obtain ⟨g, t, cs, fuel, d, p', rfl, hg, ht, hvar, hd, rfl⟩ := trodVars_one hV
 obtain rfl := Option.some.inj (gFull.symm.trans hg)
 obtain rfl := Option.some.inj (tFull.symm.trans ht)
 obtain ⟨old, hcs, ho, hx⟩ := held_of_trod_list Tryz.underlying60 hd
 simp only [Prod.mk.injEq] at hx
 obtain ⟨rfl, rfl⟩ := hx
 have hcs' : cs = #[old] := by
  cases cs
  simp_all
 subst hcs'
 obtain ⟨a0, len0, cap0, rfl⟩ := okWide_slice Tryz.underlying22 (hval 0 22 v0 rfl rfl)
 have k0 := h0
 have lt0 : ∀ x ∈ p0, x.block < W.heap.size := by obtain ⟨m, hm⟩ := k0; exact DataW.trod_lt m _ _ _ hm
 obtain ⟨z0, w0⟩ : ∃ zs, IsRow .u32 W a0 len0 cap0 zs := by
  obtain ⟨fuel, hf⟩ := h0
  rcases open_ints Tryz.underlying22 Tryz.underlying23 (by kernel_rfl) hf with ⟨hcs, _⟩ | ⟨x, l, c, zs, hcs, _, hl, hm, hz, _, hcell, hwz⟩
  ·simp [Value.cells] at hcs
   obtain ⟨rfl, rfl, rfl⟩ := hcs
   exact ⟨[], .inl ⟨rfl, rfl, rfl, rfl⟩⟩
  ·simp [Value.cells] at hcs
   obtain ⟨rfl, rfl, rfl⟩ := hcs
   exact ⟨zs, .inr ⟨_, rfl, hl, hm, by simpa using hz, hcell, hwz⟩⟩
 obtain ⟨a1, rfl, rfl, rfl, w1⟩ := open_int Tryz.underlying23 (hval 1 23 v1 rfl rfl) h1
 have hlt : 0 < W.heap.size := by
  rcases Nat.eq_zero_or_pos W.heap.size with h | h
  ·simp [World.var?, gFull, Array.getElem?_eq_none (show W.heap.size ≤ 0 by omega)] at hvar
  ·exact h
 clear hA0 hval0
 refine (walk a0 len0 cap0 z0 a1 W w0 w1 hL).mono fun e W' ⟨he, bel⟩ => ?_
 subst he
 have hvar' := var?_below bel hg hlt hvar
 exact ⟨_, rfl, _, _, _, [], _, _, hW', trodAll_mk1 (shut_bool Tryz.underlying4 _), (trodAll_cons_mk (Below.trod laidOut (by kernel_rfl) (of_decide_eq_true (by kernel_rfl)) k0 bel lt0) (trodAll_cons_mk (shut_int Tryz.underlying23 w1) trodAll_mk0)),
  trodVars_mk1 (enc := enc) (fuel := 1) (d := tok enc old) (p := []) hg ht hvar' (trod_held Tryz.underlying60 ho 0), bel.frame _, fun h => by cases h⟩

theorem over : Rows.fnCueTextRow.holds Tryz.pinned (OpenSpec.ofChange Rows.fnCueTextSpec) :=
 OpenClaim.holds_of_wide 4 Tryz.f4 rfl rfl rfl rfl rfl rfl rfl ⟨rfl, rfl, rfl, rfl, rfl⟩ rfl rfl rfl rfl rfl (by kernel_rfl) Tryz.func4 (by kernel_rfl)
  (of_decide_eq_true (by kernel_rfl)) (by unfold Func.isWrapper; first | (rw [if_pos (by decide +kernel)]; kernel_rfl) | (rw [if_neg (by decide +kernel)]; exact ⟨rfl, rfl⟩))
  (fun os started H enc _ => lifted os started H enc)

theorem proved : Rows.FnCueTextSaid := over
end Go.Proofs.YtfonjeoiallhhaaGreatDoor.fnCueText
namespace Go.Proofs.YtfonjeoiallhhaaGreatDoor
theorem fnCueText_holds : Rows.FnCueTextSaid := fnCueText.proved
#print axioms fnCueText_holds
end Go.Proofs.YtfonjeoiallhhaaGreatDoor
/- THE TIED CARD of 'laws.FnCueText': the row holds and what it lists of package-level variables is tied to the program's text. No further condition. -/
namespace Go.Proofs.YtfonjeoiallhhaaGreatDoor
open Go

theorem fnCueText_card : Rows.FnCueTextCardSaid :=
 Claim7.holds_tied_plain_at .later [] [.data, .data, .data, .data, .sentinel, .sentinel, .pinned, .pinned] true (true, "114864beb26c37fdc888932894c52f18c8d382e6e34cd83a3ecfc6e03f49b97f") false
  fnCueText_holds (fun _ h => by cases h) (by kernel_rfl) (fun _ h => by cases h) fnCueText_row_tie rfl ⟨rfl, rfl⟩ (by kernel_rfl) rfl
  (fun f fn hf hfn => by
   obtain rfl : f = 4 := Option.some.inj ((show Tryz.prog.funcNamed "loop.example/pub-g03455/laws.FnCueText" = some 4 by kernel_rfl).symm.trans hf) |>.symm
   obtain rfl : fn = Tryz.f4 := (Option.some.inj (Tryz.func4.symm.trans hfn)).symm
   exact ⟨by kernel_rfl, fun j t ht => by
    rw [Tryz.params4] at ht
    have hm : t ∈ [22, 23] := by simpa using Array.mem_of_getElem? ht
    have hall : ([22, 23].all fun u => !Tryz.prog.wantsStandIn u) = true := by kernel_rfl
    exact (show Tryz.prog.wantsStandIn t = false by simpa using List.all_eq_true.1 hall t hm)⟩)
  (by kernel_rfl)
#print axioms fnCueText_card
end Go.Proofs.YtfonjeoiallhhaaGreatDoor
