/- 'laws.FnStepCue' returns true, for every input, and reads ErrPlaylistFull as it read. Condition: the two listed package-level variables hold what the program's text lays (tied by the card). The frame of the proof was written by the kit's proof-skeleton; the laid condition is not used by the walk. -/
import Derived.Test.YtbehijhpichniaaDoorRows
import Derived.Test.YtbehijhpichniaaDoorSc
import Derived.WalkKit
import Derived.WalkSmall
import Derived.ProofKit
import Derived.LaidMore
import Derived.OpenShut
import Derived.ShutString
import Derived.ChangeOld
import Derived.ChangeVars
import Derived.Below
import Derived.Stop.Joined
namespace Go.Proofs.YtbehijhpichniaaDoor.fnStepCue
open Go.ChangeShapes Go.WideShapes Go.ChangeAt Go.RowKit
open Go.ChangeMaps (open_string shut_string)
set_option linter.unusedVariables false

theorem own : ownKnob Tryd.prog.godebug = none := by kernel_rfl
theorem gFull : Tryd.prog.globalNamed "loop.example/pub-g03455/pub/m3u8.ErrPlaylistFull" = some 0 := by kernel_rfl
theorem tFull : (Tryd.prog.globals[0]?).map (·.type) = some 53 := by kernel_rfl
abbrev laid2 : List (String × DataW Unit) := [("bytes.ErrTooLarge", Rows.laid_bytes_ErrTooLarge), ("loop.example/pub-g03455/pub/m3u8.ErrPlaylistFull", Rows.laid_loop_example_pub_g03455_pub_m3u8_ErrPlaylistFull)]

/-- The door's own heap meets the condition: closed facts. -/
theorem door_met (os : Go.Os) (args : Array Value) : laidMetH Tryd.prog laid2 ((World.doorLaid Tryd.prog 400 os).forCall (fun _ _ => 0) ⟨#[], args, []⟩).memory :=
  laidMetH_of_parts3 (fuel := 8) (laidMet_of_run' 8 (by kernel_rfl) (by kernel_rfl)) (by kernel_rfl) (by kernel_rfl)

theorem u8_nat {x : Int} (h : (Lit.int .u8 x).wf = true) : ∃ n : Nat, x = n ∧ n < 256 := by
  simp only [Lit.wf, Bool.and_eq_true, decide_eq_true_eq] at h
  have h0 : IntKind.u8.min = 0 := by decide
  have h1 : IntKind.u8.max = 255 := by decide
  rw [h0, h1] at h
  exact ⟨x.toNat, by omega, by omega⟩
theorem u32_nat {x : Int} (h : (Lit.int .u32 x).wf = true) : ∃ n : Nat, x = n ∧ n < 4294967296 := by
  simp only [Lit.wf, Bool.and_eq_true, decide_eq_true_eq] at h
  have h0 : IntKind.u32.min = 0 := by decide
  have h1 : IntKind.u32.max = 4294967295 := by decide
  rw [h0, h1] at h
  exact ⟨x.toNat, by omega, by omega⟩

/-! ### STEP 1: THE WALK -/
theorem walk (a0 a1 : Int) (w : World) (w0 : (Lit.int .u8 a0).wf = true) (w1 : (Lit.int .u32 a1).wf = true) :
    Calls Tryd.prog 3 #[.int .u8 a0, .int .u32 a1] w fun e w' => e = .returned (.bool true) ∧ Below w.heap.size w w' := by
  obtain ⟨m, rfl, hm⟩ := u8_nat w0
  obtain ⟨n, rfl, hn⟩ := u32_nat w1
  exact stepCue_any m n w hm hn

/-! ### THE ROW's STEP -/
set_option maxRecDepth 100000 in
theorem lifted (os : Go.Os) (started : os.Started) (H : Type) (enc : TypeId × Value → H) :
    ReturnsInHanded {} Tryd.checked os 3 .any (fun w args => (Rows.fnStepCueSpec.pre enc Tryd.prog Tryd.f3 [] false w args ∧ laidMetH Tryd.prog laid2 w) ∧ sizedMet enc Tryd.prog Tryd.f3 (OpenSpec.ofChange Rows.fnStepCueSpec) false w args)
      (Rows.fnStepCueSpec.post enc Tryd.prog Tryd.f3 false true false false) := by
  refine returnsInHanded_of_change_and (C := Tryd.checked) (X := fun w _ => laidMetH Tryd.prog laid2 w) (fun _ _ _ hh h => h.of_heap hh) own started (by kernel_rfl) Tryd.func3
    (ChangeSpec.witness_shaped (enc := enc) (C := Tryd.checked) (os := os) (X := fun w _ => laidMetH Tryd.prog laid2 w) false (World.doorLaid Tryd.prog 400 os) #[.int .u8 0, .int .u32 0] 8 rfl (World.shaped_of_RefB (by kernel_rfl) (by kernel_rfl)) (by kernel_rfl) (by kernel_rfl) (by kernel_rfl) (door_met os _)) ?_
  intro W base args ds gs before hval0 hW _ _ hL _
  have hval : ∀ (j : Nat) t v, Tryd.f3.params[j]? = some t → args[j]? = some v → Value.okWide Tryd.prog W .any base t v := hval0
  have hW' := hW
  obtain ⟨p, q, hA0, hV0, rfl, hfz, hnd⟩ := hW
  have hA : DataW.TrodAll enc Tryd.prog W 0 (fun _ => true) true Tryd.f3.params.toList args.toList ds p := hA0
  have hV : DataW.TrodVars enc Tryd.prog W (fun _ => true) ["loop.example/pub-g03455/pub/m3u8.ErrPlaylistFull"] gs q := hV0
  rw [Tryd.params3] at hA hval
  obtain ⟨v0, vs0, d0, ds0, p0, q0, hargs, rfl, rfl, h0, r0⟩ := trodAll_cons hA
  obtain ⟨v1, vs1, d1, ds1, p1, q1, rfl, rfl, rfl, h1, r1⟩ := trodAll_cons r0
  obtain ⟨rfl, rfl, rfl⟩ := trodAll_nil r1
  obtain rfl : args = #[v0, v1] := by cases args; simp_all
  obtain ⟨g, t, cs, fuel, d, p', rfl, hg, ht, hvar, hd, rfl⟩ := trodVars_one hV
  obtain rfl := Option.some.inj (gFull.symm.trans hg)
  obtain rfl := Option.some.inj (tFull.symm.trans ht)
  obtain ⟨old, hcs, ho, hx⟩ := held_of_trod_list Tryd.underlying53 hd
  simp only [Prod.mk.injEq] at hx
  obtain ⟨rfl, rfl⟩ := hx
  have hcs' : cs = #[old] := by
    cases cs
    simp_all
  subst hcs'
  obtain ⟨a0, rfl, rfl, rfl, w0⟩ := open_int Tryd.underlying5 (hval 0 5 v0 rfl rfl) h0
  obtain ⟨a1, rfl, rfl, rfl, w1⟩ := open_int Tryd.underlying22 (hval 1 22 v1 rfl rfl) h1
  have hc : W.cell? ⟨0, 0, none⟩ = some old := by simpa using World.var?_cell hg hvar 0
  have hlt : 0 < W.heap.size := by
    rcases Nat.eq_zero_or_pos W.heap.size with h | h
    · simp [World.var?, gFull, Array.getElem?_eq_none (show W.heap.size ≤ 0 by omega)] at hvar
    · exact h
  clear hA0 hval0 hV0
  refine (walk a0 a1 W w0 w1).mono fun e W' ⟨he, bel⟩ => ?_
  subst he
  have hvar' := var?_below bel hg hlt hvar
  exact ⟨_, rfl, _, _, _, [], _, _, hW', trodAll_mk1 (shut_bool Tryd.underlying4 _), (trodAll_cons_mk (shut_int Tryd.underlying5 w0) (trodAll_cons_mk (shut_int Tryd.underlying22 w1) trodAll_mk0)),
    trodVars_mk1 (enc := enc) (fuel := 1) (d := tok enc old) (p := []) hg ht hvar' (trod_held Tryd.underlying53 ho 0), bel.frame _, fun h => by cases h⟩

theorem over : Rows.fnStepCueRow.holds Tryd.pinned (OpenSpec.ofChange Rows.fnStepCueSpec) :=
  OpenClaim.holds_of_wide 3 Tryd.f3 rfl rfl rfl rfl rfl rfl rfl ⟨rfl, rfl, rfl, rfl, rfl⟩ rfl rfl rfl rfl rfl (by kernel_rfl) Tryd.func3 (by kernel_rfl)
    (of_decide_eq_true (by kernel_rfl)) (by unfold Func.isWrapper; first | (rw [if_pos (by decide +kernel)]; kernel_rfl) | (rw [if_neg (by decide +kernel)]; exact ⟨rfl, rfl⟩))
    (fun os started H enc _ => lifted os started H enc)

theorem proved : Rows.FnStepCueSaid := over
end Go.Proofs.YtbehijhpichniaaDoor.fnStepCue
namespace Go.Proofs.YtbehijhpichniaaDoor
theorem fnStepCue_holds : Rows.FnStepCueSaid := fnStepCue.proved
#print axioms fnStepCue_holds
end Go.Proofs.YtbehijhpichniaaDoor
