/- Joined: Lft, MasterText, MasterTextCard. -/
import Derived.Test.YtkddkmiomhadaaaDoorRows
import Derived.Test.YtkddkmiomhadaaaDoorPlz
import Derived.ProofKit
import Derived.LaidMore
import Derived.MakeChecks
import Derived.Lib.LaidTab
import Derived.ChangeArms
import Derived.WalkKit
import Derived.WalkSmall
import Derived.Lay
import Derived.OpenShut
import Derived.ShutString
import Derived.ChangeOld
import Derived.ChangeVars
import Derived.Below
import Derived.Stop.Joined
import Derived.Test.YtkddkmiomhadaaaDoorCards
import Derived.Test.YtkddkmiomhadaaaDoorTie
import Derived.SevenTiedAt
/-! The laid tables, off the row's condition. -/
namespace Go.Proofs.YtkddkmiomhadaaaDoor
open Go.Shelf Go.RowKit Go.Sort Go.Lib
abbrev laid7 : List (String × DataW Unit) := [("math/bits.deBruijn32tab", Rows.laid_math_bits_deBruijn32tab), ("math/bits.deBruijn64tab", Rows.laid_math_bits_deBruijn64tab), ("internal/strconv.optimize", Rows.laid_internal_strconv_optimize), ("internal/strconv.uint64pow10", Rows.laid_internal_strconv_uint64pow10), ("bytes.ErrTooLarge", Rows.laid_bytes_ErrTooLarge), ("internal/strconv.leftcheats", Rows.laid_internal_strconv_leftcheats), ("internal/strconv.pow10Tab", Rows.laid_internal_strconv_pow10Tab)]
theorem pm_struct : ∃ fs : Array Field, Tryd.prog.underlying 157 = some (.struct fs) ∧ fs.size = 2 ∧ (fs[0]?).map (fun f => (f.type, f.offset)) = some (36, 0) ∧ (fs[1]?).map (fun f => (f.type, f.offset)) = some (36, 1) := ⟨_, Tryd.underlying157, rfl, rfl, rfl⟩
theorem c64 : Tryd.prog.cellsOf 36 = 1 := by kernel_rfl
theorem cpm : Tryd.prog.cellsOf 157 = 2 := by kernel_rfl
theorem ctab : Tryd.prog.cellsOf 158 = 1392 := by kernel_rfl
/-- One row of the table. -/
theorem row_at {w : World} {base fuel i : Nat} {sp : Nat → Bool} {cs : List Value} {hi lo : Int} {p : List MemPlace} {rows : List (Nat × Nat)} {x : Nat × Nat}
    (h : DataW.trod (fun _ => ()) Tryd.prog w base sp false fuel 158 cs = some (.agg (rows.map fun x => .agg [.lit (.int .u64 x.1), .lit (.int .u64 x.2)]), p)) (hx : rows[i]? = some x) (hi696 : i < 696) :
    cs[i * 2]? = some (.int .u64 x.1) ∧ cs[i * 2 + 1]? = some (.int .u64 x.2) := by
  obtain ⟨fs, hst, hsz, hf0, hf1⟩ := pm_struct
  cases fuel with
  | zero => simp [DataW.trod] at h
  | succ fuel =>
    simp only [DataW.trod, Tryd.underlying158, cpm, ctab] at h
    split at h
    · obtain ⟨xs, hm, he⟩ := Option.map_eq_some_iff.1 h
      have hxs := congrArg Prod.fst he
      simp only [DataW.agg.injEq] at hxs
      obtain ⟨b, hb, hf⟩ := mapM_at hm i i (by simp [hi696])
      have h2 : (xs.map (·.1))[i]? = some b.1 := by rw [List.getElem?_map, hb]; rfl
      rw [hxs, List.getElem?_map, hx] at h2
      have hb1 := Option.some.inj h2
      cases fuel with
      | zero => simp [DataW.trod] at hf
      | succ fuel =>
        simp only [DataW.trod, hst, cpm] at hf
        split at hf
        · obtain ⟨ys, hm2, he2⟩ := Option.map_eq_some_iff.1 hf
          have hys : (DataW.agg (ys.map (·.1)) : DataW Unit) = b.1 := congrArg Prod.fst he2
          rw [← hb1, DataW.agg.injEq] at hys
          have hfl : fs.toList.length = 2 := by rw [Array.length_toList, hsz]
          obtain ⟨f0, e0⟩ : ∃ f, fs.toList[0]? = some f := ⟨_, List.getElem?_eq_getElem (by omega)⟩
          obtain ⟨f1, e1⟩ : ∃ f, fs.toList[1]? = some f := ⟨_, List.getElem?_eq_getElem (by omega)⟩
          have g0 : fs[0]? = some f0 := by simpa using e0
          have g1 : fs[1]? = some f1 := by simpa using e1
          rw [g0] at hf0
          rw [g1] at hf1
          have t0 := Option.some.inj hf0
          have t1 := Option.some.inj hf1
          simp only [Prod.mk.injEq] at t0 t1
          obtain ⟨y0, hy0, q0⟩ := mapM_at hm2 0 f0 e0
          obtain ⟨y1, hy1, q1⟩ := mapM_at hm2 1 f1 e1
          rw [t0.1, t0.2, c64] at q0
          rw [t1.1, t1.2, c64] at q1
          obtain ⟨z0, hc0, rfl, _⟩ := DataW.trod_int Tryd.underlying36 q0
          obtain ⟨z1, hc1, rfl, _⟩ := DataW.trod_int Tryd.underlying36 q1
          have r0 : (ys.map (·.1))[0]? = some (DataW.lit (.int .u64 z0) : DataW Unit) := by rw [List.getElem?_map, hy0]; rfl
          have r1 : (ys.map (·.1))[1]? = some (DataW.lit (.int .u64 z1) : DataW Unit) := by rw [List.getElem?_map, hy1]; rfl
          rw [hys] at r0 r1
          simp only [List.getElem?_cons_zero, List.getElem?_cons_succ, Option.some.injEq, DataW.lit.injEq, Lit.int.injEq, true_and] at r0 r1
          have k0 := congrArg (·[0]?) hc0
          have k1 := congrArg (·[0]?) hc1
          simp [List.getElem?_take, List.getElem?_drop] at k0 k1
          rw [r0, r1]
          exact ⟨by simpa using k0, by simpa using k1⟩
        · cases hf
    · cases h
theorem row351 : Pinned.pow10Rows[351]? = some (18014398509481984000, 0) := by kernel_rfl
theorem row352 : Pinned.pow10Rows[352]? = some (11258999068426240000, 0) := by kernel_rfl
theorem ff_of_laid {W : World} (h : laidMetH Tryd.prog laid7 W) : FfTab W := by
  rw [Go.MakeChecks.laidMetH_plain _ _ _ (by kernel_rfl)] at h
  obtain ⟨ps, h, _⟩ := h
  obtain ⟨_, _, _, _, _, _, _, _, _, _, h, _⟩ := h
  obtain ⟨_, _, _, _, _, _, _, _, _, _, h, _⟩ := h
  obtain ⟨g3, t3, cs3, fuel3, p3, q3, hg3, ht3, hv3, hd3, h, _⟩ := h
  obtain ⟨g4, t4, cs4, fuel4, p4, q4, hg4, ht4, hv4, hd4, h, _⟩ := h
  obtain ⟨_, _, _, _, _, _, _, _, _, _, h, _⟩ := h
  obtain ⟨_, _, _, _, _, _, _, _, _, _, h, _⟩ := h
  obtain ⟨g7, t7, cs7, fuel7, p7, q7, hg7, ht7, hv7, hd7, h, _⟩ := h
  have n3 : Tryd.prog.globalNamed "internal/strconv.optimize" = some 2 := by kernel_rfl
  have n4 : Tryd.prog.globalNamed "internal/strconv.uint64pow10" = some 1 := by kernel_rfl
  have n7 : Tryd.prog.globalNamed "internal/strconv.pow10Tab" = some 5 := by kernel_rfl
  obtain rfl := Option.some.inj (n3.symm.trans hg3)
  obtain rfl := Option.some.inj (n4.symm.trans hg4)
  obtain rfl := Option.some.inj (n7.symm.trans hg7)
  obtain rfl := Option.some.inj ((show (Tryd.prog.globals[2]?).map (·.type) = some 4 by kernel_rfl).symm.trans ht3)
  obtain rfl := Option.some.inj ((show (Tryd.prog.globals[1]?).map (·.type) = some 118 by kernel_rfl).symm.trans ht4)
  obtain rfl := Option.some.inj ((show (Tryd.prog.globals[5]?).map (·.type) = some 158 by kernel_rfl).symm.trans ht7)
  have hpow : PowTab W := by
    show W.var? Tryd.prog "internal/strconv.uint64pow10" = some (pow10Tab.map fun z => Value.int .u64 z).toArray
    rw [hv4, ← cells_of_tab (zs := pow10Tab) Tryd.underlying118 Tryd.underlying36 c64 (by kernel_rfl) hd4]
  obtain ⟨b, hb, hx⟩ := DataW.trod_bool Tryd.underlying4 hd3
  have hbt : b = true := by
    have h5 : (DataW.lit (.bool true) : DataW Unit) = .lit (.bool b) := congrArg Prod.fst hx
    simp only [DataW.lit.injEq, Lit.bool.injEq] at h5
    exact h5.symm
  have hopt : W.cell? ⟨2, 0, none⟩ = some (.bool true) := by
    rw [World.var?_cell n3 hv3 0]
    have : cs3[0]? = cs3.toList[0]? := by simp
    rw [this, hb, hbt]
    rfl
  have hrow : ∀ (i : Nat) (x : Nat × Nat), Pinned.pow10Rows[i]? = some x → i < 696 → W.cell? ⟨5, i * 2, none⟩ = some (.int .u64 x.1) ∧ W.cell? ⟨5, i * 2 + 1, none⟩ = some (.int .u64 x.2) := by
    intro i x hx hi
    obtain ⟨h1, h2⟩ := row_at (hi := 0) (lo := 0) hd7 hx hi
    rw [World.var?_cell n7 hv7, World.var?_cell n7 hv7]
    exact ⟨by simpa using h1, by simpa using h2⟩
  obtain ⟨a1, a2⟩ := hrow 351 _ row351 (by decide)
  obtain ⟨a3, a4⟩ := hrow 352 _ row352 (by decide)
  exact ⟨hpow, ⟨a1, a2, a3, a4⟩, hopt⟩
end Go.Proofs.YtkddkmiomhadaaaDoor
/-! 'laws.FnMasterText' returns true, for every input. Condition: the listed package-level variables hold what the program's text lays (tied by the card). The frame of the proof was written by the kit's proof-skeleton. -/
namespace Go.Proofs.YtkddkmiomhadaaaDoor.fnMasterText
open Go.ChangeShapes Go.WideShapes Go.ChangeAt Go.RowKit
open Go.ChangeMaps (open_string shut_string)
set_option linter.unusedVariables false

theorem own : ownKnob Tryd.prog.godebug = none := by kernel_rfl
theorem laidOut : laidOutB Tryd.prog = true := by kernel_rfl

/-- WHAT THE WALK IS TOLD OF A SLICE OF INTEGERS THAT CAME IN: it is nil; or it leads to a row of 'cap' cells, the numbers 'zs' (the first 'len' are its elements, the rest its spare room), each fitting its kind. -/
def IsRow (k : IntKind) (w : World) (a : Option Addr) (len cap : Nat) (zs : List Int) : Prop :=
  (a = none ∧ len = 0 ∧ cap = 0 ∧ zs = []) ∨
  ∃ x, a = some x ∧ len ≤ cap ∧ cap ≤ maxLen ∧ zs.length = cap ∧ (∀ i, i < zs.length → w.cell? (x.add i) = some (.int k (zs.getD i 0))) ∧ ∀ n ∈ zs, (Lit.int k n).wf = true

theorem u32_nat {x : Int} (h : (Lit.int .u32 x).wf = true) : ∃ n : Nat, x = n ∧ n < 4294967296 := by
  simp only [Lit.wf, Bool.and_eq_true, decide_eq_true_eq] at h
  have h0 : IntKind.u32.min = 0 := by decide
  have h1 : IntKind.u32.max = 4294967295 := by decide
  rw [h0, h1] at h
  exact ⟨x.toNat, by omega, by omega⟩

theorem walk (a0 : Option Addr) (len0 cap0 : Nat) (z0 : List Int) (a1 : Int) (b2 : Bool) (w : World) (w0 : IsRow .u32 w a0 len0 cap0 z0) (w1 : (Lit.int .u32 a1).wf = true) (hT : laidMetH Tryd.prog laid7 w) :
    Calls Tryd.prog 3 #[.slice a0 len0 cap0, .int .u32 a1, .bool b2] w fun e w' => e = .returned (.bool true) ∧ Below w.heap.size w w' := by
  have hU : U32s w a0 len0 := by
    rcases w0 with ⟨rfl, rfl, _, _⟩ | ⟨x, rfl, hl, _, hz, hc, hw⟩
    · intro j hj; omega
    · intro j hj
      have hjz : j < z0.length := by omega
      have h1 := hc j hjz
      have h2 := hw _ (List.getElem_mem hjz)
      rw [List.getD_eq_getElem?_getD, List.getElem?_eq_getElem hjz, Option.getD_some] at h1
      obtain ⟨y, hy, hy2⟩ := u32_nat h2
      exact ⟨x, y, rfl, by rw [h1, hy], hy2⟩
  have hlen : len0 ≤ 9223372036854775807 := by
    rcases w0 with ⟨_, rfl, _, _⟩ | ⟨x, _, hl, hm, _⟩
    · omega
    · exact Nat.le_trans hl (Nat.le_trans hm (by decide))
  obtain ⟨n, rfl, hn⟩ := u32_nat w1
  exact masterText_any n hn a0 len0 cap0 b2 w (fun _ => hU) hlen (ff_of_laid hT)

/-! ### THE ROW's STEP -/
set_option maxRecDepth 100000 in
theorem lifted (os : Go.Os) (started : os.Started) (H : Type) (enc : TypeId × Value → H) :
    ReturnsInHanded {} Tryd.checked os 3 .any (fun w args => (Rows.fnMasterTextSpec.pre enc Tryd.prog Tryd.f3 [] false w args ∧ laidMetH Tryd.prog laid7 w) ∧ sizedMet enc Tryd.prog Tryd.f3 (OpenSpec.ofChange Rows.fnMasterTextSpec) false w args)
      (Rows.fnMasterTextSpec.post enc Tryd.prog Tryd.f3 false true false false) := by
  refine returnsInHanded_of_change_and (C := Tryd.checked) (X := fun w _ => laidMetH Tryd.prog laid7 w) (fun _ _ _ hh h => h.of_heap hh) own started (by kernel_rfl) Tryd.func3
    (ChangeSpec.witness_shaped (enc := enc) (C := Tryd.checked) (os := os) (X := fun w _ => laidMetH Tryd.prog laid7 w) false (World.laidAll Tryd.prog os laid7) #[.slice none 0 0, .int .u32 0, .bool false] 8 (World.laidAll_os _ _ _)
      (World.shaped_of_ZipB (by kernel_rfl) (by kernel_rfl)) (by kernel_rfl) (by kernel_rfl) (by kernel_rfl)
      (by rw [MakeChecks.laidMetH_plain _ _ _ (by kernel_rfl)]; exact laidMet_laidAll _ (by kernel_rfl) (by kernel_rfl))) ?_
  intro W base args ds gs before hval0 hW _ _ hL _
  have hval : ∀ (j : Nat) t v, Tryd.f3.params[j]? = some t → args[j]? = some v → Value.okWide Tryd.prog W .any base t v := hval0
  have hW' := hW
  obtain ⟨p, q, hA0, hV, rfl, hfz, hnd⟩ := hW
  have hA : DataW.TrodAll enc Tryd.prog W 0 (fun _ => true) true Tryd.f3.params.toList args.toList ds p := hA0
  rw [Tryd.params3] at hA hval
  obtain ⟨v0, vs0, d0, ds0, p0, q0, hargs, rfl, rfl, h0, r0⟩ := trodAll_cons hA
  obtain ⟨v1, vs1, d1, ds1, p1, q1, rfl, rfl, rfl, h1, r1⟩ := trodAll_cons r0
  obtain ⟨v2, vs2, d2, ds2, p2, q2, rfl, rfl, rfl, h2, r2⟩ := trodAll_cons r1
  obtain ⟨rfl, rfl, rfl⟩ := trodAll_nil r2
  obtain rfl : args = #[v0, v1, v2] := by cases args; simp_all
  obtain ⟨rfl, rfl⟩ := trodVars_none hV
  obtain ⟨a0, len0, cap0, rfl⟩ := okWide_slice Tryd.underlying22 (hval 0 22 v0 rfl rfl)
  have k0 := h0
  have lt0 : ∀ x ∈ p0, x.block < W.heap.size := by obtain ⟨m, hm⟩ := k0; exact DataW.trod_lt m _ _ _ hm
  obtain ⟨z0, w0⟩ : ∃ zs, IsRow .u32 W a0 len0 cap0 zs := by
    obtain ⟨fuel, hf⟩ := h0
    rcases open_ints Tryd.underlying22 Tryd.underlying23 (by kernel_rfl) hf with ⟨hcs, _⟩ | ⟨x, l, c, zs, hcs, _, hl, hm, hz, _, hcell, hwz⟩
    · simp [Value.cells] at hcs
      obtain ⟨rfl, rfl, rfl⟩ := hcs
      exact ⟨[], .inl ⟨rfl, rfl, rfl, rfl⟩⟩
    · simp [Value.cells] at hcs
      obtain ⟨rfl, rfl, rfl⟩ := hcs
      exact ⟨zs, .inr ⟨_, rfl, hl, hm, by simpa using hz, hcell, hwz⟩⟩
  obtain ⟨a1, rfl, rfl, rfl, w1⟩ := open_int Tryd.underlying23 (hval 1 23 v1 rfl rfl) h1
  obtain ⟨b2, rfl, rfl, rfl⟩ := open_bool Tryd.underlying4 (hval 2 4 v2 rfl rfl) h2
  clear hA0 hval0
  refine (walk a0 len0 cap0 z0 a1 b2 W w0 w1 hL).mono fun e W' ⟨he, bel⟩ => ?_
  subst he
  exact ⟨_, rfl, _, _, _, [], _, [], hW', trodAll_mk1 (shut_bool Tryd.underlying4 _), (trodAll_cons_mk (Below.trod laidOut (by kernel_rfl) (of_decide_eq_true (by kernel_rfl)) k0 bel lt0) (trodAll_cons_mk (shut_int Tryd.underlying23 w1) (trodAll_cons_mk (shut_bool Tryd.underlying4 _) trodAll_mk0))), rfl, bel.frame _, fun h => by cases h⟩

theorem over : Rows.fnMasterTextRow.holds Tryd.pinned (OpenSpec.ofChange Rows.fnMasterTextSpec) :=
  OpenClaim.holds_of_wide 3 Tryd.f3 rfl rfl rfl rfl rfl rfl rfl ⟨rfl, rfl, rfl, rfl, rfl⟩ rfl rfl rfl rfl rfl (by kernel_rfl) Tryd.func3 (by kernel_rfl)
    (of_decide_eq_true (by kernel_rfl)) (by unfold Func.isWrapper; first | (rw [if_pos (by decide +kernel)]; kernel_rfl) | (rw [if_neg (by decide +kernel)]; exact ⟨rfl, rfl⟩))
    (fun os started H enc _ => lifted os started H enc)

theorem proved : Rows.FnMasterTextSaid := over
end Go.Proofs.YtkddkmiomhadaaaDoor.fnMasterText
namespace Go.Proofs.YtkddkmiomhadaaaDoor
theorem fnMasterText_holds : Rows.FnMasterTextSaid := fnMasterText.proved
#print axioms fnMasterText_holds
end Go.Proofs.YtkddkmiomhadaaaDoor
/-! THE TIED CARD of 'laws.FnMasterText': the row holds and what it lists of package-level variables is tied to the program's text. No further condition. -/
namespace Go.Proofs.YtkddkmiomhadaaaDoor
open Go

theorem fnMasterText_card : Rows.FnMasterTextCardSaid :=
  Claim7.holds_tied_plain_at .later [] [.data, .data, .data, .data, .sentinel, .pinned, .pinned] true (true, "c9e3b89a9e286f036de21f38441850e4983d5fcecbeb34985d5ca08953f55817") false
    fnMasterText_holds (fun _ h => by cases h) (by kernel_rfl) (fun _ h => by cases h) fnMasterText_row_tie rfl ⟨rfl, rfl⟩ (by kernel_rfl) rfl
    (fun f fn hf hfn => by
      obtain rfl : f = 3 := Option.some.inj ((show Tryd.prog.funcNamed "loop.example/pub-g03455/laws.FnMasterText" = some 3 by kernel_rfl).symm.trans hf) |>.symm
      obtain rfl : fn = Tryd.f3 := (Option.some.inj (Tryd.func3.symm.trans hfn)).symm
      exact ⟨by kernel_rfl, fun j t ht => by
        rw [Tryd.params3] at ht
        have hm : t ∈ [22, 23, 4] := by simpa using Array.mem_of_getElem? ht
        have hall : ([22, 23, 4].all fun u => !Tryd.prog.wantsStandIn u) = true := by kernel_rfl
        exact (show Tryd.prog.wantsStandIn t = false by simpa using List.all_eq_true.1 hall t hm)⟩)
    (by kernel_rfl)
#print axioms fnMasterText_card
end Go.Proofs.YtkddkmiomhadaaaDoor
