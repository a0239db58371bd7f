/- The walks of laws.uriOf and spec.Variant.Resolution; what a variant is. -/
import Derived.Test.YtkddkmiomhadaaaDoorWord
import Derived.Test.YtkddkmiomhadaaaDoorOgA
import Derived.Deep.DeepCutAuto
import Derived.Deep.QuietTactic
import Derived.BigQuiet
namespace Go.Proofs.YtkddkmiomhadaaaDoor
open Go.RowKit
/-- A URI of laws.uriOf. -/
def IsUri (u : ByteArray) : Prop := ∃ s, Word 20 s ∧ u = ⟨#[117]⟩ ++ s ++ ⟨#[46, 116, 115]⟩
theorem IsUri.size {u : ByteArray} (h : IsUri u) : u.size ≤ 24 := by
  obtain ⟨s, hs, rfl⟩ := h
  have := hs.size
  simp only [ByteArray.size_append', ByteArray.size_mk', List.size_toArray, List.length_cons, List.length_nil]; omega
def SomeUri (w : World) (e : Ending) (w' : World) : Prop := ∃ u, IsUri u ∧ e = .returned (.string u) ∧ w = w'
set_option maxRecDepth 100000 in
set_option maxHeartbeats 400000 in
theorem uriOf_any (n : Nat) (w : World) (hn : n < 4294967296) :
    Calls Tryd.prog 11 #[.int .u32 n] w (SomeUri w) := by
  go_enter Tryd.func11, Tryd.ntmps11
  go_wp2_with fail
  refine (wordOf_any n 1 _ hn (by omega)).mono ?_
  rintro e w' ⟨s, hs, rfl, rfl⟩
  have hz := hs.size
  go_wp2_with (first | (refine arm_add 9 Tryd.underlying9 rfl rfl ?_ ?_; (· (simp only [ByteArray.size_append', ByteArray.size_mk', List.size_toArray, List.length_cons, List.length_nil]; omega))))
  go_ret
  exact ⟨_, ⟨s, hs, rfl⟩, rfl, rfl⟩
/-- A variant of a master playlist, as the reference has it. -/
structure Vt where
  uri : ByteArray
  program : Nat
  bandwidth : Nat
  average : Nat
  codecs : ByteArray
  width : Nat
  height : Nat
  audio : ByteArray
  video : ByteArray
  subtitles : ByteArray
  captions : ByteArray
  name : ByteArray
  rate : Nat
def Vt.cells (v : Vt) : Array Value := #[.string v.uri, .int .u32 v.program, .int .u32 v.bandwidth, .int .u32 v.average, .string v.codecs, .int .u32 v.width, .int .u32 v.height, .string v.audio, .string v.video, .string v.subtitles, .string v.captions, .string v.name, .int .i64 v.rate]
/-- Its numbers fit, its texts are short. -/
structure Vt.Ok (v : Vt) : Prop where
  program : v.program < 4294967296
  bandwidth : v.bandwidth < 4294967296
  average : v.average < 4294967296
  width : v.width < 4294967296
  height : v.height < 4294967296
  uri : v.uri.size ≤ 100
  codecs : v.codecs.size ≤ 100
  audio : v.audio.size ≤ 100
  video : v.video.size ≤ 100
  subtitles : v.subtitles.size ≤ 100
  captions : v.captions.size ≤ 100
  name : v.name.size ≤ 100
  rate : v.rate < 100000
def Vt.resolution (v : Vt) : ByteArray := if v.width = 0 then ⟨#[]⟩ else dec v.width ++ ⟨#[120]⟩ ++ dec v.height
theorem dec_u32 {n : Nat} (h : n < 4294967296) : (dec n).size ≤ 10 := dec_size 9 n (by omega)
theorem Vt.resolution_size {v : Vt} (h : v.Ok) : v.resolution.size ≤ 30 := by
  unfold Vt.resolution
  have := dec_u32 h.width
  have := dec_u32 h.height
  split
  · simp [ByteArray.size]
  · simp only [ByteArray.size_append', ByteArray.size_mk', List.size_toArray, List.length_cons, List.length_nil]; omega
set_option maxRecDepth 100000 in
set_option maxHeartbeats 1000000 in
theorem resolution_any (v : Vt) (hv : v.Ok) (w : World) :
    Calls Tryd.prog 12 #[.agg v.cells] w fun e w' => e = .returned (.string v.resolution) ∧ Below w.heap.size w w' := by
  have h1 := hv.width
  have h2 := hv.height
  have s1 := dec_u32 h1
  have s2 := dec_u32 h2
  obtain ⟨uri, program, bandwidth, average, codecs, width, height, audio, video, subtitles, captions, name, rate⟩ := v
  clear hv
  simp only at h1 h2 s1 s2
  simp only [Vt.cells]
  by_cases h0 : width = 0
  · subst h0
    go_enter Tryd.func12, Tryd.ntmps12
    go_wp2_with fail
    go_ret
    exact ⟨rfl, (Below.refl _ _).alloc (Nat.le_refl _) _⟩
  · go_enter Tryd.func12, Tryd.ntmps12
    go_wp2_with fail
    go_cut [2] (fun s2 wx => s2 = .string (dec width ++ ⟨#[120]⟩ ++ dec height) ∧ Below w.heap.size w wx)
    case first =>
      rename_i hJ hK
      refine wp_region_og0 (n := 16) [Asr.eq (.pointer (some ⟨w.heap.size, 5, none⟩)), Asr.eq (.int .u32 width), Asr.eq (.int .u64 width), Asr.eq (.string (dec width)), Asr.eq (.string (dec width ++ ⟨#[120]⟩)), Asr.eq (.pointer (some ⟨w.heap.size, 6, none⟩)), Asr.eq (.int .u32 height), Asr.eq (.int .u64 height), Asr.eq (.string (dec height)), Asr.eq (.string (dec width ++ ⟨#[120]⟩ ++ dec height)), Asr.eq (.string (dec width ++ ⟨#[120]⟩ ++ dec height))] (by kernel_rfl) (by kernel_rfl) (by kernel_rfl) rfl trivial ⟨?_, ?_, ?_, ?_, ?_, ?_, ?_, ?_, ?_, ?_, ?_, trivial⟩ ?_
      · intro a wx c
        have e1 : a.eval (.tmp 1) = .pointer (some ⟨w.heap.size, 0, none⟩) := c.outE (by decide +kernel) rfl
        clear c
        show Oper.wp _ _ _ _ _ _
        unfold Oper.wp
        simp only [execOp, resolve, e1]
        go_simp; try go_bits
        exact ⟨_, rfl, Only.refl _ _, rfl⟩
      · intro a wx c
        have e6 : a.eval (.tmp 6) = .pointer (some ⟨w.heap.size, 5, none⟩) := c.slot 0 _ (by decide +kernel) rfl
        have hc := c.cell (p := ⟨w.heap.size, 5, none⟩) (v := .int .u32 width) (by go_simp) (fun _ h => h.elim)
        clear c
        show Oper.wp _ _ _ _ _ _
        unfold Oper.wp
        simp only [execOp, resolve, e6]
        go_simp; try go_bits
        exact ⟨_, rfl, Only.refl _ _, rfl⟩
      · intro a wx c
        have e7 : a.eval (.tmp 7) = .int .u32 width := c.slot 1 _ (by decide +kernel) rfl
        clear c
        show Oper.wp _ _ _ _ _ _
        unfold Oper.wp
        simp only [execOp, resolve, e7]
        go_simp; try go_bits
        exact ⟨_, rfl, Only.refl _ _, rfl⟩
      · intro a wx c
        have e8 : a.eval (.tmp 8) = .int .u64 width := c.slot 2 _ (by decide +kernel) rfl
        clear c
        show Oper.wp _ _ _ _ _ _
        unfold Oper.wp
        simp only [execOp, resolve, List.map_toArray, List.map_cons, List.map_nil, e8]
        go_simp
        refine (decimal_of width _ _ (by omega) (by omega)).mono ?_
        rintro e w' ⟨rfl, rfl⟩
        exact ⟨_, rfl, Only.refl _ _, rfl⟩
      · intro a wx c
        have e9 : a.eval (.tmp 9) = .string (dec width) := c.slot 3 _ (by decide +kernel) rfl
        clear c
        show Oper.wp _ _ _ _ _ _
        exact og_add Tryd.underlying9 e9 rfl (by simp only [ByteArray.size_append', ByteArray.size_mk', List.size_toArray, List.length_cons, List.length_nil]; omega) rfl
      · intro a wx c
        have e1 : a.eval (.tmp 1) = .pointer (some ⟨w.heap.size, 0, none⟩) := c.outE (by decide +kernel) rfl
        clear c
        show Oper.wp _ _ _ _ _ _
        unfold Oper.wp
        simp only [execOp, resolve, e1]
        go_simp; try go_bits
        exact ⟨_, rfl, Only.refl _ _, rfl⟩
      · intro a wx c
        have e11 : a.eval (.tmp 11) = .pointer (some ⟨w.heap.size, 6, none⟩) := c.slot 5 _ (by decide +kernel) rfl
        have hc := c.cell (p := ⟨w.heap.size, 6, none⟩) (v := .int .u32 height) (by go_simp) (fun _ h => h.elim)
        clear c
        show Oper.wp _ _ _ _ _ _
        unfold Oper.wp
        simp only [execOp, resolve, e11]
        go_simp; try go_bits
        exact ⟨_, rfl, Only.refl _ _, rfl⟩
      · intro a wx c
        have e12 : a.eval (.tmp 12) = .int .u32 height := c.slot 6 _ (by decide +kernel) rfl
        clear c
        show Oper.wp _ _ _ _ _ _
        unfold Oper.wp
        simp only [execOp, resolve, e12]
        go_simp; try go_bits
        exact ⟨_, rfl, Only.refl _ _, rfl⟩
      · intro a wx c
        have e13 : a.eval (.tmp 13) = .int .u64 height := c.slot 7 _ (by decide +kernel) rfl
        clear c
        show Oper.wp _ _ _ _ _ _
        unfold Oper.wp
        simp only [execOp, resolve, List.map_toArray, List.map_cons, List.map_nil, e13]
        go_simp
        refine (decimal_of height _ _ (by omega) (by omega)).mono ?_
        rintro e w' ⟨rfl, rfl⟩
        exact ⟨_, rfl, Only.refl _ _, rfl⟩
      · intro a wx c
        have e10 : a.eval (.tmp 10) = .string (dec width ++ ⟨#[120]⟩) := c.slot 4 _ (by decide +kernel) rfl
        have e14 : a.eval (.tmp 14) = .string (dec height) := c.slot 8 _ (by decide +kernel) rfl
        clear c
        show Oper.wp _ _ _ _ _ _
        exact og_add Tryd.underlying9 e10 e14 (by simp only [ByteArray.size_append', ByteArray.size_mk', List.size_toArray, List.length_cons, List.length_nil]; omega) rfl
      · intro a wx c
        have e15 : a.eval (.tmp 15) = .string (dec width ++ ⟨#[120]⟩ ++ dec height) := c.slot 9 _ (by decide +kernel) rfl
        clear c
        show Oper.wp _ _ _ _ _ _
        unfold Oper.wp
        simp only [execOp, resolve, e15]
        go_simp; try go_bits
        exact ⟨_, rfl, Only.refl _ _, rfl⟩
      · intro a1 w1 c hb
        refine hK _ _ (Met.intro (hJ _ _ ?_))
        have r2 := c.slot 10 _ rfl
        repeat apply Exists.intro
        refine ⟨?rel, frame_patch c [2, 6, 7, 8, 9, 10, 11, 12, 13, 14, 15] (by kernel_rfl)⟩
        case rel => exact ⟨r2, ((Below.refl _ _).alloc (Nat.le_refl _) _).trans (hb.mono (by simp))⟩
    case rest =>
      obtain ⟨rfl, hb⟩ := hcut
      go_wp2_with fail
      go_ret
      exact ⟨ret_string (by simp [Vt.resolution, h0]), hb⟩
end Go.Proofs.YtkddkmiomhadaaaDoor
