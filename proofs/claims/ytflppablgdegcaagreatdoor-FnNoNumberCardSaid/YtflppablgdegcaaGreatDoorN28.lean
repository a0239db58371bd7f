/- Joined: Eo, Nonum, NonumCard. -/
import Derived.Test.YtflppablgdegcaaGreatDoorRows
import Derived.Test.YtflppablgdegcaaGreatDoorN06
import Derived.ProofKit
import Derived.LaidMore
import Derived.MakeChecks
import Derived.Lib.LaidTab
import Derived.Lib.Space
import Derived.ChangeArms
import Derived.OpenShut
import Derived.WideShapes
import Derived.Test.YtflppablgdegcaaGreatDoorN27
import Derived.Clock
import Derived.WalkKit
import Derived.WalkSmall
import Derived.Lay
import Derived.ShutString
import Derived.ChangeOld
import Derived.ChangeVars
import Derived.Below
import Derived.Stop.Joined
import Derived.Test.YtflppablgdegcaaGreatDoorCards
import Derived.Test.YtflppablgdegcaaGreatDoorTie
import Derived.SevenTiedAt
/- The variables' words, off the row's laid condition. -/
set_option maxRecDepth 100000
namespace Go.Proofs.YtflppablgdegcaaGreatDoor
open Go.Shelf Go.RowKit Go.Sort Go.Lib Go.WideShapes
abbrev laid10 : List (String × DataW Unit) := [("math/bits.deBruijn32tab", Rows.laid_math_bits_deBruijn32tab), ("math/bits.deBruijn64tab", Rows.laid_math_bits_deBruijn64tab), ("internal/strconv.float64info", Rows.laid_internal_strconv_float64info), ("internal/strconv.optimize", Rows.laid_internal_strconv_optimize), ("internal/strconv.float64pow10", Rows.laid_internal_strconv_float64pow10), ("strconv.ErrSyntax", Rows.laid_strconv_ErrSyntax), ("io.EOF", Rows.laid_io_EOF), ("bytes.asciiSpace", Rows.laid_bytes_asciiSpace), ("strings.asciiSpace", Rows.laid_strings_asciiSpace), ("loop.example/pub-g03455/pub/m3u8.ErrPlaylistFull", Rows.laid_loop_example_pub_g03455_pub_m3u8_ErrPlaylistFull)]
theorem trod_float {H : Type} {enc : TypeId × Value → H} {P : Program} {w : World} {base : Nat} {sp : Nat → Bool} {held : Bool} {fuel : Nat} {t : TypeId} {cs : List Value} {x : DataW H × List MemPlace} {k : FloatKind} (ht : P.underlying t = some (.float k)) (h : DataW.trod enc P w base sp held fuel t cs = some x) : ∃ b, cs = [.float k b] ∧ x = (.lit (.float k b), []) := by
 cases fuel with
 | zero => simp [DataW.trod] at h
 | succ n =>
  unfold DataW.trod at h
  rw [ht] at h
  split at h <;> simp_all
/-- An error that is told by its type's name lies in a box. -/
theorem trod_err {P : Program} {w : World} {base : Nat} {sp : Nat → Bool} {fuel : Nat} {t : TypeId} {ms : Array (String × TypeId)} {cs : List Value} {name : String} {d : DataW Unit} {p : List MemPlace} (ht : P.underlying t = some (.interface ms)) (h : DataW.trod (fun _ => ()) P w base sp false fuel t cs = some (.iface name d, p)) : ∃ u v n q, cs = [.iface u v] ∧ P.typeName? 3 u = some name ∧ DataW.trod (fun _ => ()) P w base sp false n u v.cells.toList = some (d, q) := by
 cases fuel with
 | zero => simp [DataW.trod] at h
 | succ n =>
  rcases cs with _ | ⟨c, _ | ⟨c2, r⟩⟩
  ·simp [DataW.trod, ht] at h
  ·cases c
   case iface u v =>
    simp only [DataW.trod, ht] at h
    cases hn : P.typeName? 3 u with
    | none => rw [hn] at h; cases h
    | some nm =>
     rw [hn] at h
     obtain ⟨x, hx, he⟩ := Option.map_eq_some_iff.1 h
     simp only [Prod.mk.injEq, DataW.iface.injEq] at he
     obtain ⟨⟨h1, h2⟩, _⟩ := he
     exact ⟨u, v, n, x.2, rfl, by rw [hn, h1], by rw [hx, ← h2]⟩
   all_goals (simp [DataW.trod, ht] at h)
  ·simp [DataW.trod, ht] at h
def esName : String := "*errors.errorString"
theorem star : ("*" ++ "errors.errorString" : String) = esName := by decide
theorem es_of {u : TypeId} (h : Tryz.prog.typeName? 3 u = some esName) : u = 137 :=
 typeName_ptr_named (nm := "errors.errorString") (by rw [star]; kernel_rfl) (by kernel_rfl) (by decide) u (by rw [star]; exact h)
/-- A listed error: a pointer in a box. -/
theorem err_cell {W : World} {fuel : Nat} {cs : Array Value} {d : DataW Unit} {p : List MemPlace} {g : Nat} (hc : ∀ i, W.cell? ⟨g, i, none⟩ = cs[i]?) (hw : ∀ u v, W.cell? ⟨g, 0, none⟩ = some (.iface u v) → Value.okWide Tryz.prog W .any 0 u v) (h : DataW.trod (fun _ => ()) Tryz.prog W 0 (fun _ => true) false fuel 58 cs.toList = some (.iface esName (.ptr d), p)) : ∃ a : Addr, W.cell? ⟨g, 0, none⟩ = some (.iface 137 (.pointer (some a))) := by
 obtain ⟨u, v, n, q, h1, h2, h3⟩ := trod_err Tryz.underlying58 h
 obtain rfl := es_of h2
 have h4 : W.cell? ⟨g, 0, none⟩ = some (.iface 137 v) := by
  rw [hc, show cs[0]? = cs.toList[0]? by simp, h1]
  rfl
 obtain ⟨a, rfl⟩ := okWide_pointer Tryz.underlying137 (hw _ _ h4)
 rcases DataW.trod_pointer Tryz.underlying137 h3 with ⟨_, h5⟩ | ⟨b, _, _, _, _, h5, _⟩
 ·simp at h5
 ·have h6 : a = some b := by simpa [Value.cells] using h5
  exact ⟨b, by rw [h4, h6]⟩
theorem fl_struct : ∃ fs : Array Field, Tryz.prog.underlying 234 = some (.struct fs) ∧ (fs[0]?).map (fun f => (f.type, f.offset)) = some (48, 0) := ⟨_, Tryz.underlying234, rfl⟩
theorem cu : Tryz.prog.cellsOf 48 = 1 := by kernel_rfl
theorem cf64 : Tryz.prog.cellsOf 35 = 1 := by kernel_rfl
theorem cu8 : Tryz.prog.cellsOf 5 = 1 := by kernel_rfl
theorem c256 : Tryz.prog.cellsOf 136 = 256 := by kernel_rfl
theorem spB : (Rows.laid_bytes_asciiSpace : DataW Unit) = tabData .u8 asciiSpaceTab := by kernel_rfl
theorem spS : (Rows.laid_strings_asciiSpace : DataW Unit) = tabData .u8 asciiSpaceTab := by kernel_rfl
theorem mem_row {b n : Nat} (h : 0 < n) : MemPlace.cell b 0 ∈ MemPlace.row ⟨b, 0, none⟩ n := by
 unfold MemPlace.row
 exact List.mem_map.2 ⟨0, List.mem_range.2 h, rfl⟩
theorem tab_of {W : World} {fuel : Nat} {cs : Array Value} {p : List MemPlace} {name : String} (hv : W.var? Tryz.prog name = some cs) (h : DataW.trod (fun _ => ()) Tryz.prog W 0 (fun _ => true) false fuel 136 cs.toList = some (tabData .u8 asciiSpaceTab, p)) : Lib.TabIs Tryz.prog W name .u8 asciiSpaceTab := by
 show W.var? Tryz.prog name = some _
 rw [hv, ← cells_of_tab (zs := asciiSpaceTab) Tryz.underlying136 Tryz.underlying5 cu8 c256 h]
theorem env_of_laid {W : World} (h : laidMetH Tryz.prog laid10 W) : ∃ G : Ge, Env W.heap.size G W := by
 rw [Go.MakeChecks.laidMetH_plain _ _ _ (by kernel_rfl)] at h
 obtain ⟨ps, h, _, hok⟩ := h
 obtain ⟨_, _, _, _, _, q0, _, _, _, _, h, hp0⟩ := h
 obtain ⟨g1, _, cs1, _, _, q1, hg1, _, hv1, _, h, hp1⟩ := h
 obtain ⟨g2, t2, cs2, fuel2, p2, q2, hg2, ht2, hv2, hd2, h, hp2⟩ := h
 obtain ⟨g3, t3, cs3, fuel3, p3, q3, hg3, ht3, hv3, hd3, h, hp3⟩ := h
 obtain ⟨g4, t4, cs4, fuel4, p4, q4, hg4, ht4, hv4, hd4, h, hp4⟩ := h
 obtain ⟨g5, t5, cs5, fuel5, p5, q5, hg5, ht5, hv5, hd5, h, hp5⟩ := h
 obtain ⟨g6, t6, cs6, fuel6, p6, q6, hg6, ht6, hv6, hd6, h, hp6⟩ := h
 obtain ⟨g7, t7, cs7, fuel7, p7, q7, hg7, ht7, hv7, hd7, h, hp7⟩ := h
 obtain ⟨g8, t8, cs8, fuel8, p8, q8, hg8, ht8, hv8, hd8, h, hp8⟩ := h
 obtain ⟨g9, t9, cs9, fuel9, p9, q9, hg9, ht9, hv9, hd9, h, hp9⟩ := h
 have n1 : Tryz.prog.globalNamed "math/bits.deBruijn64tab" = some 23 := by kernel_rfl
 obtain rfl := Option.some.inj (n1.symm.trans hg1)
 have n2 : Tryz.prog.globalNamed "internal/strconv.float64info" = some 15 := by kernel_rfl
 obtain rfl := Option.some.inj (n2.symm.trans hg2)
 obtain rfl := Option.some.inj ((show (Tryz.prog.globals[15]?).map (·.type) = some 234 by kernel_rfl).symm.trans ht2)
 have n3 : Tryz.prog.globalNamed "internal/strconv.optimize" = some 14 := by kernel_rfl
 obtain rfl := Option.some.inj (n3.symm.trans hg3)
 obtain rfl := Option.some.inj ((show (Tryz.prog.globals[14]?).map (·.type) = some 4 by kernel_rfl).symm.trans ht3)
 have n4 : Tryz.prog.globalNamed "internal/strconv.float64pow10" = some 18 := by kernel_rfl
 obtain rfl := Option.some.inj (n4.symm.trans hg4)
 obtain rfl := Option.some.inj ((show (Tryz.prog.globals[18]?).map (·.type) = some 268 by kernel_rfl).symm.trans ht4)
 have n5 : Tryz.prog.globalNamed "strconv.ErrSyntax" = some 8 := by kernel_rfl
 obtain rfl := Option.some.inj (n5.symm.trans hg5)
 obtain rfl := Option.some.inj ((show (Tryz.prog.globals[8]?).map (·.type) = some 58 by kernel_rfl).symm.trans ht5)
 have n6 : Tryz.prog.globalNamed "io.EOF" = some 1 := by kernel_rfl
 obtain rfl := Option.some.inj (n6.symm.trans hg6)
 obtain rfl := Option.some.inj ((show (Tryz.prog.globals[1]?).map (·.type) = some 58 by kernel_rfl).symm.trans ht6)
 have n7 : Tryz.prog.globalNamed "bytes.asciiSpace" = some 2 := by kernel_rfl
 obtain rfl := Option.some.inj (n7.symm.trans hg7)
 obtain rfl := Option.some.inj ((show (Tryz.prog.globals[2]?).map (·.type) = some 136 by kernel_rfl).symm.trans ht7)
 have n8 : Tryz.prog.globalNamed "strings.asciiSpace" = some 6 := by kernel_rfl
 obtain rfl := Option.some.inj (n8.symm.trans hg8)
 obtain rfl := Option.some.inj ((show (Tryz.prog.globals[6]?).map (·.type) = some 136 by kernel_rfl).symm.trans ht8)
 have n9 : Tryz.prog.globalNamed "loop.example/pub-g03455/pub/m3u8.ErrPlaylistFull" = some 4 := by kernel_rfl
 obtain rfl := Option.some.inj (n9.symm.trans hg9)
 obtain rfl := Option.some.inj ((show (Tryz.prog.globals[4]?).map (·.type) = some 58 by kernel_rfl).symm.trans ht9)
 have hB : 24 ≤ W.heap.size := by
  simp only [World.var?, n1, Option.bind_some] at hv1
  rcases Nat.lt_or_ge 23 W.heap.size with hl | hl
  ·exact hl
  ·rw [Array.getElem?_eq_none hl] at hv1; cases hv1
 have hps : ∀ x, x ∈ ps ↔ x ∈ ps := fun _ => Iff.rfl
 have hin : ∀ x, (x ∈ q4 → x ∈ ps) := fun x hx => by rw [hp0, hp1, hp2, hp3, hp4]; simp only [List.mem_append]; exact .inr (.inr (.inr (.inr (.inr hx))))
 have hw5 : ∀ u v, W.cell? ⟨8, 0, none⟩ = some (.iface u v) → Value.okWide Tryz.prog W .any 0 u v := by
  refine (hok 8 0 (hin _ ?_)).2
  rw [hp5]
  refine List.mem_append_left _ (List.mem_append_left _ (mem_row ?_))
  rcases Nat.eq_zero_or_pos cs5.size with hz | hz
  ·have e : cs5.toList = [] := by simpa using Array.eq_empty_of_size_eq_zero hz
   rw [e] at hd5
   cases fuel5 <;> simp [DataW.trod, Tryz.underlying58] at hd5
  ·exact hz
 have hw6 : ∀ u v, W.cell? ⟨1, 0, none⟩ = some (.iface u v) → Value.okWide Tryz.prog W .any 0 u v := by
  refine (hok 1 0 (hin _ ?_)).2
  rw [hp5, hp6]
  refine List.mem_append_right _ (List.mem_append_left _ (List.mem_append_left _ (mem_row ?_)))
  rcases Nat.eq_zero_or_pos cs6.size with hz | hz
  ·have e : cs6.toList = [] := by simpa using Array.eq_empty_of_size_eq_zero hz
   rw [e] at hd6
   cases fuel6 <;> simp [DataW.trod, Tryz.underlying58] at hd6
  ·exact hz
 have hw9 : ∀ u v, W.cell? ⟨4, 0, none⟩ = some (.iface u v) → Value.okWide Tryz.prog W .any 0 u v := by
  refine (hok 4 0 (hin _ ?_)).2
  rw [hp5, hp6, hp7, hp8, hp9]
  simp only [List.mem_append]
  refine .inr (.inr (.inr (.inr (.inl (.inl (mem_row ?_))))))
  rcases Nat.eq_zero_or_pos cs9.size with hz | hz
  ·have e : cs9.toList = [] := by simpa using Array.eq_empty_of_size_eq_zero hz
   rw [e] at hd9
   cases fuel9 <;> simp [DataW.trod, Tryz.underlying58] at hd9
  ·exact hz
 obtain ⟨aS, hS⟩ := err_cell (World.var?_cell n5 hv5) hw5 hd5
 obtain ⟨aE, hE⟩ := err_cell (World.var?_cell n6 hv6) hw6 hd6
 obtain ⟨aF, hF⟩ := err_cell (World.var?_cell n9 hv9) hw9 hd9
 have hopt : W.cell? ⟨14, 0, none⟩ = some (.bool true) := by
  obtain ⟨b, hb, hx⟩ := DataW.trod_bool Tryz.underlying4 hd3
  have hbt : b = true := by
   have h5 : (DataW.lit (.bool true) : DataW Unit) = .lit (.bool b) := congrArg Prod.fst hx
   simp only [DataW.lit.injEq, Lit.bool.injEq] at h5
   exact h5.symm
  rw [World.var?_cell n3 hv3 0]
  have : cs3[0]? = cs3.toList[0]? := by simp
  rw [this, hb, hbt]
  rfl
 have hbits : W.cell? ⟨15, 0, none⟩ = some (.int .u64 52) := by
  obtain ⟨fs, hst, hf0⟩ := fl_struct
  obtain ⟨xs, n, _, hx, hlen, hxl, hat⟩ := DataW.trod_struct hst hd2
  cases e0 : fs[0]? with
  | none => rw [e0] at hf0; cases hf0
  | some f0 =>
   rw [e0] at hf0
   have t0 := Option.some.inj hf0
   simp only [Prod.mk.injEq] at t0
   have hy := hat 0 f0 e0
   rw [t0.1, t0.2, cu] at hy
   have hx1 : (Rows.laid_internal_strconv_float64info : DataW Unit) = .agg (xs.map (·.1)) := congrArg Prod.fst hx
   unfold Rows.laid_internal_strconv_float64info at hx1
   rw [DataW.agg.injEq] at hx1
   cases hx0 : xs[0]? with
   | none =>
    have h0 := congrArg (·[0]?) hx1
    simp [hx0] at h0
   | some x0 =>
    rw [hx0] at hy
    obtain ⟨z, hc, hz, _⟩ := DataW.trod_int Tryz.underlying48 hy
    have h0 := congrArg (·[0]?) hx1
    simp [hx0, hz] at h0
    have k0 := congrArg (·[0]?) hc
    simp [List.getElem?_take, List.getElem?_drop] at k0
    rw [World.var?_cell n2 hv2 0]
    rw [← h0] at k0
    simpa using k0
 obtain ⟨ap, cp, hcs4, hlc, hat4⟩ := open_row (ds := p10bits.map fun x => .lit (.float .f64 x)) Tryz.underlying268 cf64 hd4
 have hpw : W.cell? ⟨18, 0, none⟩ = some (.slice (some ap) 23 cp) := by
  rw [World.var?_cell n4 hv4 0]
  have : cs4[0]? = cs4.toList[0]? := by simp
  rw [this, hcs4]
  rfl
 have hpows : ∀ i x, p10bits[i]? = some x → W.cell? (ap.add i) = some (.float .f64 x) := by
  intro i x hx
  obtain ⟨v, n, q, h1, h2⟩ := hat4 i (.lit (.float .f64 x)) (by rw [List.getElem?_map, hx]; rfl)
  obtain ⟨b, hb, hy⟩ := trod_float Tryz.underlying35 h2
  simp only [Prod.mk.injEq, DataW.lit.injEq, Lit.float.injEq, true_and] at hy
  rw [h1, List.cons.inj hb |>.1, hy.1]
 have hpB : ap.block < W.heap.size := by
  have h1 := World.block_lt_of_cell? W _ (hpows 0 _ rfl)
  have hb : (ap.add 0).block = ap.block := by unfold Addr.add; split <;> rfl
  rw [hb] at h1; exact h1
 exact ⟨⟨aE, aF, _, _, ap, 23, cp⟩, hB, Nat.le_refl _, tab_of hv7 (spB ▸ hd7), tab_of hv8 (spS ▸ hd8), hE, hF, hS, hopt, hbits, hpw, hpB, by show 23 ≤ 23; omega, hpows⟩
end Go.Proofs.YtflppablgdegcaaGreatDoor
/- 'laws.FnNoNumber' returns true, for every input. Condition: the listed package-level variables hold what the program's text lays (tied by the card); where the row says besides 'calm', and that the clock may pass, the proof uses neither. The frame of the proof was written by the kit's proof-skeleton. -/
set_option maxRecDepth 100000
namespace Go.Proofs.YtflppablgdegcaaGreatDoor.fnNoNumber
open Go.ChangeShapes Go.WideShapes Go.ChangeAt Go.RowKit Go.Clock
open Go.ChangeMaps (open_string shut_string)
set_option linter.unusedVariables false

theorem own : ownKnob Tryz.prog.godebug = none := by kernel_rfl
theorem gFull : Tryz.prog.globalNamed "loop.example/pub-g03455/pub/m3u8.ErrPlaylistFull" = some 4 := by kernel_rfl
theorem tFull : (Tryz.prog.globals[4]?).map (·.type) = some 58 := by kernel_rfl
theorem laidOut : laidOutB Tryz.prog = true := by kernel_rfl

/-- WHAT THE WALK IS TOLD OF A SLICE OF INTEGERS THAT CAME IN: it is nil; or it leads to a row of 'cap' cells, the numbers 'zs' (the first 'len' are its elements, the rest its spare room), each fitting its kind. -/
def IsRow (k : IntKind) (w : World) (a : Option Addr) (len cap : Nat) (zs : List Int) : Prop :=
 (a = none ∧ len = 0 ∧ cap = 0 ∧ zs = []) ∨
 ∃ x, a = some x ∧ len ≤ cap ∧ cap ≤ maxLen ∧ zs.length = cap ∧ (∀ i, i < zs.length → w.cell? (x.add i) = some (.int k (zs.getD i 0))) ∧ ∀ n ∈ zs, (Lit.int k n).wf = true

theorem u8_nat {x : Int} (h : (Lit.int .u8 x).wf = true) : ∃ n : Nat, x = n ∧ n < 256 := by
 simp only [Lit.wf, Bool.and_eq_true, decide_eq_true_eq] at h
 have h0 : IntKind.u8.min = 0 := by decide
 have h1 : IntKind.u8.max = 255 := by decide
 rw [h0, h1] at h
 exact ⟨x.toNat, by omega, by omega⟩
theorem walk (a0 : Int) (a1 : Option Addr) (len1 cap1 : Nat) (z1 : List Int) (w : World) (w0 : (Lit.int .u8 a0).wf = true) (w1 : IsRow .u8 w a1 len1 cap1 z1) (hT : laidMetH Tryz.prog laid10 w) :
  Calls Tryz.prog 4 #[.int .u8 a0, .slice a1 len1 cap1] w fun e w' => e = .returned (.bool true) ∧ Below w.heap.size w w' := by
 have hU : U8s w a1 len1 := by
  rcases w1 with ⟨rfl, rfl, _, _⟩ | ⟨x, rfl, hl, _, hz, hc, hw⟩
  ·intro j hj; omega
  ·intro j hj
   have hjz : j < z1.length := by omega
   have h1 := hc j hjz
   have h2 := hw _ (List.getElem_mem hjz)
   rw [List.getD_eq_getElem?_getD, List.getElem?_eq_getElem hjz, Option.getD_some] at h1
   obtain ⟨y, hy, hy2⟩ := u8_nat h2
   exact ⟨x, y, rfl, by rw [h1, hy], hy2⟩
 obtain ⟨n, rfl, hn⟩ := u8_nat w0
 obtain ⟨G, hG⟩ := env_of_laid hT
 exact fnNoNumber_any n hn a1 len1 cap1 w hG hU

/-! ### THE ROW's STEP -/
theorem lifted (os : Go.Os) (started : os.Started) (H : Type) (enc : TypeId × Value → H) (F : Stop.Interp) :
  ReturnsInHanded { calm := true } Tryz.checked os 4 .any (fun w args => (Rows.fnNoNumberSpec.pre enc Tryz.prog Tryz.f4 [] false w args ∧ laidMetH Tryz.prog laid10 w) ∧ sizedMet enc Tryz.prog Tryz.f4 (OpenSpec.ofChange Rows.fnNoNumberSpec) false w args)
   ((OpenSpec.ofChange Rows.fnNoNumberSpec).postWith enc Tryz.prog Tryz.f4 F (outsideKept [.timePasses]) false true false) := by
 refine returns_of_change (C := Tryz.checked) (X := fun w _ => laidMetH Tryz.prog laid10 w) (fun _ _ _ hh h => h.of_heap hh) own started (by kernel_rfl) Tryz.func4
  (witness_at (enc := enc) (C := Tryz.checked) (X := fun w _ => laidMetH Tryz.prog laid10 w) (World.laidAll Tryz.prog os laid10) #[.int .u8 0, .slice none 0 0] 8 (World.laidAll_os _ _ _)
   (World.shaped_of_ZipB (by kernel_rfl) (by kernel_rfl)) (by kernel_rfl) (by kernel_rfl) (by kernel_rfl)
   (by rw [MakeChecks.laidMetH_plain _ _ _ (by kernel_rfl)]; exact laidMet_laidAll _ (by kernel_rfl) (by kernel_rfl))) ?_
 intro W base args ds gs before hval0 hW _ _ hL _
 have hval : ∀ (j : Nat) t v, Tryz.f4.params[j]? = some t → args[j]? = some v → Value.okWide Tryz.prog W .any base t v := hval0
 have hW' := hW
 obtain ⟨p, q, hA0, hV0, rfl, hfz, hnd⟩ := hW
 have hA : DataW.TrodAll enc Tryz.prog W 0 (fun _ => true) true Tryz.f4.params.toList args.toList ds p := hA0
 have hV : DataW.TrodVars enc Tryz.prog W (fun _ => true) ["loop.example/pub-g03455/pub/m3u8.ErrPlaylistFull"] gs q := hV0
 rw [Tryz.params4] at hA hval
 obtain ⟨v0, vs0, d0, ds0, p0, q0, hargs, rfl, rfl, h0, r0⟩ := trodAll_cons hA
 obtain ⟨v1, vs1, d1, ds1, p1, q1, rfl, rfl, rfl, h1, r1⟩ := trodAll_cons r0
 obtain ⟨rfl, rfl, rfl⟩ := trodAll_nil r1
 obtain rfl : args = #[v0, v1] := by cases args; simp_all
 obtain ⟨g, t, cs, fuel, d, p', rfl, hg, ht, hvar, hd, rfl⟩ := trodVars_one hV
 obtain rfl := Option.some.inj (gFull.symm.trans hg)
 obtain rfl := Option.some.inj (tFull.symm.trans ht)
 obtain ⟨old, hcs, ho, hx⟩ := held_of_trod_list Tryz.underlying58 hd
 simp only [Prod.mk.injEq] at hx
 obtain ⟨rfl, rfl⟩ := hx
 have hcs' : cs = #[old] := by
  cases cs
  simp_all
 subst hcs'
 obtain ⟨a0, rfl, rfl, rfl, w0⟩ := open_int Tryz.underlying5 (hval 0 5 v0 rfl rfl) h0
 obtain ⟨a1, len1, cap1, rfl⟩ := okWide_slice Tryz.underlying45 (hval 1 45 v1 rfl rfl)
 have k1 := h1
 have lt1 : ∀ x ∈ p1, x.block < W.heap.size := by obtain ⟨m, hm⟩ := k1; exact DataW.trod_lt m _ _ _ hm
 obtain ⟨z1, w1⟩ : ∃ zs, IsRow .u8 W a1 len1 cap1 zs := by
  obtain ⟨fuel, hf⟩ := h1
  rcases open_ints Tryz.underlying45 Tryz.underlying5 (by kernel_rfl) hf with ⟨hcs, _⟩ | ⟨x, l, c, zs, hcs, _, hl, hm, hz, _, hcell, hwz⟩
  ·simp [Value.cells] at hcs
   obtain ⟨rfl, rfl, rfl⟩ := hcs
   exact ⟨[], .inl ⟨rfl, rfl, rfl, rfl⟩⟩
  ·simp [Value.cells] at hcs
   obtain ⟨rfl, rfl, rfl⟩ := hcs
   exact ⟨zs, .inr ⟨_, rfl, hl, hm, by simpa using hz, hcell, hwz⟩⟩
 have hlt : 4 < W.heap.size := by
  rcases Nat.lt_or_ge 4 W.heap.size with h | h
  ·exact h
  ·simp [World.var?, gFull, Array.getElem?_eq_none h] at hvar
 clear hA0 hval0
 refine (walk a0 a1 len1 cap1 z1 W w0 w1 hL).mono fun e W' ⟨he, bel⟩ => ?_
 subst he
 have hvar' := var?_below bel hg hlt hvar
 have hos : W'.os = W.os := bel.os
 have e2 : ({ W' with os := W.os } : World) = W' := by rw [← hos]
 refine ⟨_, rfl, ?_, by rw [hos]; exact Later.refl _⟩
 rw [e2]
 exact ⟨_, _, _, [], _, _, hW', trodAll_mk1 (shut_bool Tryz.underlying4 _), (trodAll_cons_mk (shut_int Tryz.underlying5 w0) (trodAll_cons_mk (Below.trod laidOut (by kernel_rfl) (of_decide_eq_true (by kernel_rfl)) k1 bel lt1) trodAll_mk0)),
  trodVars_mk1 (enc := enc) (fuel := 1) (d := tok enc old) (p := []) hg ht hvar' (trod_held Tryz.underlying58 ho 0), bel.frame _, fun h => by cases h⟩

theorem lifted0 (os : Go.Os) (started : os.Started) (H : Type) (enc : TypeId × Value → H) :
  ReturnsInHanded {} Tryz.checked os 4 .any (fun w args => (Rows.fnNoNumberSpec.pre enc Tryz.prog Tryz.f4 [] false w args ∧ laidMetH Tryz.prog laid10 w) ∧ sizedMet enc Tryz.prog Tryz.f4 (OpenSpec.ofChange Rows.fnNoNumberSpec) false w args)
   (Rows.fnNoNumberSpec.post enc Tryz.prog Tryz.f4 false true false false) := by
 refine returnsInHanded_of_change_and (C := Tryz.checked) (X := fun w _ => laidMetH Tryz.prog laid10 w) (fun _ _ _ hh h => h.of_heap hh) own started (by kernel_rfl) Tryz.func4
  (ChangeSpec.witness_shaped (enc := enc) (C := Tryz.checked) (os := os) (X := fun w _ => laidMetH Tryz.prog laid10 w) false (World.laidAll Tryz.prog os laid10) #[.int .u8 0, .slice none 0 0] 8 (World.laidAll_os _ _ _)
   (World.shaped_of_ZipB (by kernel_rfl) (by kernel_rfl)) (by kernel_rfl) (by kernel_rfl) (by kernel_rfl)
   (by rw [MakeChecks.laidMetH_plain _ _ _ (by kernel_rfl)]; exact laidMet_laidAll _ (by kernel_rfl) (by kernel_rfl))) ?_
 intro W base args ds gs before hval0 hW _ _ hL _
 have hval : ∀ (j : Nat) t v, Tryz.f4.params[j]? = some t → args[j]? = some v → Value.okWide Tryz.prog W .any base t v := hval0
 have hW' := hW
 obtain ⟨p, q, hA0, hV0, rfl, hfz, hnd⟩ := hW
 have hA : DataW.TrodAll enc Tryz.prog W 0 (fun _ => true) true Tryz.f4.params.toList args.toList ds p := hA0
 have hV : DataW.TrodVars enc Tryz.prog W (fun _ => true) ["loop.example/pub-g03455/pub/m3u8.ErrPlaylistFull"] gs q := hV0
 rw [Tryz.params4] at hA hval
 obtain ⟨v0, vs0, d0, ds0, p0, q0, hargs, rfl, rfl, h0, r0⟩ := trodAll_cons hA
 obtain ⟨v1, vs1, d1, ds1, p1, q1, rfl, rfl, rfl, h1, r1⟩ := trodAll_cons r0
 obtain ⟨rfl, rfl, rfl⟩ := trodAll_nil r1
 obtain rfl : args = #[v0, v1] := by cases args; simp_all
 obtain ⟨g, t, cs, fuel, d, p', rfl, hg, ht, hvar, hd, rfl⟩ := trodVars_one hV
 obtain rfl := Option.some.inj (gFull.symm.trans hg)
 obtain rfl := Option.some.inj (tFull.symm.trans ht)
 obtain ⟨old, hcs, ho, hx⟩ := held_of_trod_list Tryz.underlying58 hd
 simp only [Prod.mk.injEq] at hx
 obtain ⟨rfl, rfl⟩ := hx
 have hcs' : cs = #[old] := by
  cases cs
  simp_all
 subst hcs'
 obtain ⟨a0, rfl, rfl, rfl, w0⟩ := open_int Tryz.underlying5 (hval 0 5 v0 rfl rfl) h0
 obtain ⟨a1, len1, cap1, rfl⟩ := okWide_slice Tryz.underlying45 (hval 1 45 v1 rfl rfl)
 have k1 := h1
 have lt1 : ∀ x ∈ p1, x.block < W.heap.size := by obtain ⟨m, hm⟩ := k1; exact DataW.trod_lt m _ _ _ hm
 obtain ⟨z1, w1⟩ : ∃ zs, IsRow .u8 W a1 len1 cap1 zs := by
  obtain ⟨fuel, hf⟩ := h1
  rcases open_ints Tryz.underlying45 Tryz.underlying5 (by kernel_rfl) hf with ⟨hcs, _⟩ | ⟨x, l, c, zs, hcs, _, hl, hm, hz, _, hcell, hwz⟩
  ·simp [Value.cells] at hcs
   obtain ⟨rfl, rfl, rfl⟩ := hcs
   exact ⟨[], .inl ⟨rfl, rfl, rfl, rfl⟩⟩
  ·simp [Value.cells] at hcs
   obtain ⟨rfl, rfl, rfl⟩ := hcs
   exact ⟨zs, .inr ⟨_, rfl, hl, hm, by simpa using hz, hcell, hwz⟩⟩
 have hlt : 4 < W.heap.size := by
  rcases Nat.lt_or_ge 4 W.heap.size with h | h
  ·exact h
  ·simp [World.var?, gFull, Array.getElem?_eq_none h] at hvar
 clear hA0 hval0
 refine (walk a0 a1 len1 cap1 z1 W w0 w1 hL).mono fun e W' ⟨he, bel⟩ => ?_
 subst he
 have hvar' := var?_below bel hg hlt hvar
 exact ⟨_, rfl, _, _, _, [], _, _, hW', trodAll_mk1 (shut_bool Tryz.underlying4 _), (trodAll_cons_mk (shut_int Tryz.underlying5 w0) (trodAll_cons_mk (Below.trod laidOut (by kernel_rfl) (of_decide_eq_true (by kernel_rfl)) k1 bel lt1) trodAll_mk0)),
  trodVars_mk1 (enc := enc) (fuel := 1) (d := tok enc old) (p := []) hg ht hvar' (trod_held Tryz.underlying58 ho 0), bel.frame _, fun h => by cases h⟩

theorem over : Rows.fnNoNumberRow.holds Tryz.pinned (OpenSpec.ofChange Rows.fnNoNumberSpec) := by
 first
 | exact OpenClaim.holds_of_wide 4 Tryz.f4 rfl rfl rfl rfl rfl rfl rfl ⟨rfl, rfl, rfl, rfl, rfl⟩ rfl rfl rfl rfl rfl (by kernel_rfl) Tryz.func4 (by kernel_rfl)
     (of_decide_eq_true (by kernel_rfl)) (by unfold Func.isWrapper; first | (rw [if_pos (by decide +kernel)]; kernel_rfl) | (rw [if_neg (by decide +kernel)]; exact ⟨rfl, rfl⟩))
     (fun os started H enc _ => lifted0 os started H enc)
 | exact holds_of_wide_time 4 Tryz.f4 rfl rfl rfl rfl rfl rfl rfl ⟨rfl, rfl, rfl, rfl, rfl⟩ rfl rfl rfl rfl rfl (by kernel_rfl) Tryz.func4 (by kernel_rfl)
     (of_decide_eq_true (by kernel_rfl)) (by unfold Func.isWrapper; first | (rw [if_pos (by decide +kernel)]; kernel_rfl) | (rw [if_neg (by decide +kernel)]; exact ⟨rfl, rfl⟩))
     (fun os started H enc _ F => lifted os started H enc F)

theorem proved : Rows.FnNoNumberSaid := over
end Go.Proofs.YtflppablgdegcaaGreatDoor.fnNoNumber
namespace Go.Proofs.YtflppablgdegcaaGreatDoor
theorem fnNoNumber_holds : Rows.FnNoNumberSaid := fnNoNumber.proved
#print axioms fnNoNumber_holds
end Go.Proofs.YtflppablgdegcaaGreatDoor
/- THE TIED CARD of 'laws.FnNoNumber': the row holds and what it lists of package-level variables is tied to the program's text. No further condition. -/
namespace Go.Proofs.YtflppablgdegcaaGreatDoor
open Go

theorem fnNoNumber_card : Rows.FnNoNumberCardSaid :=
 Claim7.holds_tied_plain_at .later [] [.data, .data, .widerDeep, .data, .data, .sentinel, .sentinel, .data, .data, .sentinel] true (true, "76e6d52907818d44a82d0a77e429536a23b46cf9dac0955b57e62d5c07fb55a1") true
  fnNoNumber_holds (fun _ h => by cases h) (by kernel_rfl) (fun _ h => by cases h) fnNoNumber_row_tie rfl ⟨rfl, rfl⟩ (by kernel_rfl) rfl
  (fun f fn hf hfn => by
   obtain rfl : f = 4 := Option.some.inj ((show Tryz.prog.funcNamed "loop.example/pub-g03455/laws.FnNoNumber" = some 4 by kernel_rfl).symm.trans hf) |>.symm
   obtain rfl : fn = Tryz.f4 := (Option.some.inj (Tryz.func4.symm.trans hfn)).symm
   exact ⟨by kernel_rfl, fun j t ht => by
    rw [Tryz.params4] at ht
    have hm : t ∈ [5, 45] := by simpa using Array.mem_of_getElem? ht
    have hall : ([5, 45].all fun u => !Tryz.prog.wantsStandIn u) = true := by kernel_rfl
    exact (show Tryz.prog.wantsStandIn t = false by simpa using List.all_eq_true.1 hall t hm)⟩)
  (by kernel_rfl)
#print axioms fnNoNumber_card
end Go.Proofs.YtflppablgdegcaaGreatDoor
