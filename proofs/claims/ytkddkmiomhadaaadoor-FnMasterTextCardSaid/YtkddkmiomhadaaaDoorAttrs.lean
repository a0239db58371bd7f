/- The walk of spec.Variant.attributes: the attributes of a variant, in their order. Conditions: the variant's numbers fit, its texts are short. -/
import Derived.Test.YtkddkmiomhadaaaDoorStrs
import Derived.Deep.DeepCutAuto
import Derived.Lib.Hide
namespace Go.Proofs.YtkddkmiomhadaaaDoor
open Go.RowKit
def opt (c : Bool) (x : ByteArray) : List ByteArray := if c then [x] else []
theorem opt_len (c : Bool) (x : ByteArray) : (opt c x).length ≤ 1 := by cases c <;> simp [opt]
def Vt.at0 (v : Vt) : List ByteArray := [attr ⟨#[80, 82, 79, 71, 82, 65, 77, 45, 73, 68]⟩ (dec v.program) false, attr ⟨#[66, 65, 78, 68, 87, 73, 68, 84, 72]⟩ (dec v.bandwidth) false]
def Vt.at1 (v : Vt) : List ByteArray := v.at0 ++ opt (decide (0 < v.average)) (attr ⟨#[65, 86, 69, 82, 65, 71, 69, 45, 66, 65, 78, 68, 87, 73, 68, 84, 72]⟩ (dec v.average) false)
def Vt.at2 (v : Vt) : List ByteArray := v.at1 ++ opt (!v.codecs.toList.isEmpty) (attr ⟨#[67, 79, 68, 69, 67, 83]⟩ v.codecs true)
def Vt.at3 (v : Vt) : List ByteArray := v.at2 ++ opt (decide (0 < v.width)) (attr ⟨#[82, 69, 83, 79, 76, 85, 84, 73, 79, 78]⟩ v.resolution false)
def Vt.at4 (v : Vt) : List ByteArray := v.at3 ++ opt (!v.audio.toList.isEmpty) (attr ⟨#[65, 85, 68, 73, 79]⟩ v.audio true)
def Vt.at5 (v : Vt) : List ByteArray := v.at4 ++ opt (!v.video.toList.isEmpty) (attr ⟨#[86, 73, 68, 69, 79]⟩ v.video true)
def Vt.at6 (v : Vt) : List ByteArray := v.at5 ++ opt (!v.captions.toList.isEmpty) (attr ⟨#[67, 76, 79, 83, 69, 68, 45, 67, 65, 80, 84, 73, 79, 78, 83]⟩ v.captions (!(v.captions.toList == [78, 79, 78, 69])))
def Vt.at7 (v : Vt) : List ByteArray := v.at6 ++ opt (!v.subtitles.toList.isEmpty) (attr ⟨#[83, 85, 66, 84, 73, 84, 76, 69, 83]⟩ v.subtitles true)
def Vt.at8 (v : Vt) : List ByteArray := v.at7 ++ opt (!v.name.toList.isEmpty) (attr ⟨#[78, 65, 77, 69]⟩ v.name true)
def Vt.at9 (v : Vt) : List ByteArray := v.at8 ++ opt (decide (0 < v.rate)) (attr ⟨#[70, 82, 65, 77, 69, 45, 82, 65, 84, 69]⟩ (secs v.rate) false)
/-- The attributes of a variant. -/
def Vt.attrs (v : Vt) : List ByteArray := v.at9
theorem Vt.at0_len (v : Vt) : v.at0.length ≤ 2 := by simp [Vt.at0]
theorem Vt.at1_len (v : Vt) : v.at1.length ≤ 3 := by have := v.at0_len; have := opt_len (decide (0 < v.average)) (attr ⟨#[65, 86, 69, 82, 65, 71, 69, 45, 66, 65, 78, 68, 87, 73, 68, 84, 72]⟩ (dec v.average) false); simp only [Vt.at1, List.length_append]; omega
theorem Vt.at2_len (v : Vt) : v.at2.length ≤ 4 := by have := v.at1_len; have := opt_len (!v.codecs.toList.isEmpty) (attr ⟨#[67, 79, 68, 69, 67, 83]⟩ v.codecs true); simp only [Vt.at2, List.length_append]; omega
theorem Vt.at3_len (v : Vt) : v.at3.length ≤ 5 := by have := v.at2_len; have := opt_len (decide (0 < v.width)) (attr ⟨#[82, 69, 83, 79, 76, 85, 84, 73, 79, 78]⟩ v.resolution false); simp only [Vt.at3, List.length_append]; omega
theorem Vt.at4_len (v : Vt) : v.at4.length ≤ 6 := by have := v.at3_len; have := opt_len (!v.audio.toList.isEmpty) (attr ⟨#[65, 85, 68, 73, 79]⟩ v.audio true); simp only [Vt.at4, List.length_append]; omega
theorem Vt.at5_len (v : Vt) : v.at5.length ≤ 7 := by have := v.at4_len; have := opt_len (!v.video.toList.isEmpty) (attr ⟨#[86, 73, 68, 69, 79]⟩ v.video true); simp only [Vt.at5, List.length_append]; omega
theorem Vt.at6_len (v : Vt) : v.at6.length ≤ 8 := by have := v.at5_len; have := opt_len (!v.captions.toList.isEmpty) (attr ⟨#[67, 76, 79, 83, 69, 68, 45, 67, 65, 80, 84, 73, 79, 78, 83]⟩ v.captions (!(v.captions.toList == [78, 79, 78, 69]))); simp only [Vt.at6, List.length_append]; omega
theorem Vt.at7_len (v : Vt) : v.at7.length ≤ 9 := by have := v.at6_len; have := opt_len (!v.subtitles.toList.isEmpty) (attr ⟨#[83, 85, 66, 84, 73, 84, 76, 69, 83]⟩ v.subtitles true); simp only [Vt.at7, List.length_append]; omega
theorem Vt.at8_len (v : Vt) : v.at8.length ≤ 10 := by have := v.at7_len; have := opt_len (!v.name.toList.isEmpty) (attr ⟨#[78, 65, 77, 69]⟩ v.name true); simp only [Vt.at8, List.length_append]; omega
theorem Vt.at9_len (v : Vt) : v.at9.length ≤ 11 := by have := v.at8_len; have := opt_len (decide (0 < v.rate)) (attr ⟨#[70, 82, 65, 77, 69, 45, 82, 65, 84, 69]⟩ (secs v.rate) false); simp only [Vt.at9, List.length_append]; omega
abbrev strOwn (w : World) (B : Nat) (s : Value) (L : List ByteArray) : Prop := Own (fun x => [Value.string x]) 9 1 w B s L
theorem info_string : (Tryd.prog.info? 9).map (fun i => (i.zero, i.size, i.bytes)) = some (some (.string ⟨#[]⟩), 1, 16) := by kernel_rfl
/-- What a cut in the walk of attributes holds: the slice so far, the variant's box, nothing else turned. -/
def AtCut (v : Vt) (w : World) (L : List ByteArray) (s : Value) (wx : World) : Prop := strOwn wx (w.heap.size + 1) s L ∧ Below w.heap.size w wx ∧ wx.heap[w.heap.size]? = some (.cells v.cells 48 (0, 0))
theorem AtCut.cell {v : Vt} {w wx : World} {L : List ByteArray} {s : Value} (h : AtCut v w L s wx) (i : Nat) : wx.cell? ⟨w.heap.size, i, none⟩ = v.cells[i]? := by simp [World.cell?, h.2.2]
theorem AtCut.push {v : Vt} {w wx w1 wy : World} {L : List ByteArray} {s s' : Value} {x : ByteArray} (h : AtCut v w L s wx) (hb : Below wx.heap.size wx w1) (ho : strOwn wy (w.heap.size + 1) s' (L ++ [x])) (hon : Only (fun g => s.ownBlock = some g) w1 wy) : AtCut v w (L ++ [x]) s' wy := by
  have hlt : w.heap.size < wx.heap.size := by
    have := (Array.getElem?_eq_some_iff.1 h.2.2).1
    exact this
  have hlt1 : w.heap.size < w1.heap.size := Nat.lt_of_lt_of_le hlt hb.size
  have hne : ∀ g, g < w.heap.size + 1 → ¬ s.ownBlock = some g := fun g hg e => by have := (h.1.block_lt g e).1; omega
  refine ⟨ho, (h.2.1.trans (hb.mono (by omega))).trans (hon.below (by omega) fun g hg => hne g (by omega)), ?_⟩
  rw [hon.block _ hlt1 (hne _ (by omega)), hb.block _ hlt]
  exact h.2.2
def AttrsPost (v : Vt) (w : World) (e : Ending) (w' : World) : Prop := ∃ s, e = .returned s ∧ strOwn w' w.heap.size s v.attrs ∧ Below w.heap.size w w'
theorem Vt.attrs_post {v : Vt} {w wx : World} {s : Value} (h : AtCut v w v.at9 s wx) : AttrsPost v w (.returned s) wx := by
  refine ⟨s, rfl, ⟨h.1.1, ?_⟩, h.2.1⟩
  rcases h.1.2 with h2 | ⟨g, cap, cur, hv, hb, r⟩
  · exact .inl h2
  · exact .inr ⟨g, cap, cur, hv, by omega, r⟩
set_option maxRecDepth 100000 in
set_option maxHeartbeats 20000000 in
theorem attributes_any (v : Vt) (hv : v.Ok) (w : World) : Calls Tryd.prog 23 #[.agg v.cells] w (AttrsPost v w) := by
  have hres := Vt.resolution_size hv
  have hresc := fun w => resolution_any v hv w
  have HV := Lib.hid hv
  obtain ⟨i0, hi, hz0, hz1, hz2⟩ := info_parts info_string
  have L0 := v.at0_len
  have L1 := v.at1_len
  have L2 := v.at2_len
  have L3 := v.at3_len
  have L4 := v.at4_len
  have L5 := v.at5_len
  have L6 := v.at6_len
  have L7 := v.at7_len
  have L8 := v.at8_len
  have L9 := v.at9_len
  have q1 := hv.program
  have q2 := hv.bandwidth
  have q3 := hv.average
  have q4 := hv.codecs
  have q5 := hv.audio
  have q6 := hv.video
  have q7 := hv.subtitles
  have q8 := hv.captions
  have q9 := hv.name
  have q10 := hv.rate
  have s1 := dec_u32 q1
  have s2 := dec_u32 q2
  have s3 := dec_u32 q3
  have s4 := secs_size (n := v.rate) (by omega)
  clear hv
  have hcs : v.cells = #[.string v.uri, .int .u32 v.program, .int .u32 v.bandwidth, .int .u32 v.average, .string v.codecs, .int .u32 v.width, .int .u32 v.height, .string v.audio, .string v.video, .string v.subtitles, .string v.captions, .string v.name, .int .i64 v.rate] := rfl
  have HCS := Lib.hid hcs
  rw [hcs]
  clear hcs
  go_enter Tryd.func23, Tryd.ntmps23
  go_wp2_with fail
  go_cut [3] (AtCut v w v.at0)
  case first =>
    rename_i hJ hK
    refine wp_region_og0 (n := 103) [Asr.eq (.pointer (some ⟨w.heap.size, 1, none⟩)), Asr.eq (.int .u32 v.program), Asr.eq (.int .u64 v.program), Asr.eq (.string (dec v.program)), Asr.eq (.string (attr ⟨#[80, 82, 79, 71, 82, 65, 77, 45, 73, 68]⟩ (dec v.program) false)), Asr.eq (.pointer (some ⟨w.heap.size, 2, none⟩)), Asr.eq (.int .u32 v.bandwidth), Asr.eq (.int .u64 v.bandwidth), Asr.eq (.string (dec v.bandwidth)), Asr.eq (.string (attr ⟨#[66, 65, 78, 68, 87, 73, 68, 84, 72]⟩ (dec v.bandwidth) false)), Asr.blk (fun g => .slice (some ⟨g, 0, none⟩) 2 2) 9 #[.string (attr ⟨#[80, 82, 79, 71, 82, 65, 77, 45, 73, 68]⟩ (dec v.program) false), .string (attr ⟨#[66, 65, 78, 68, 87, 73, 68, 84, 72]⟩ (dec v.bandwidth) false)], Asr.blk (fun g => .slice (some ⟨g, 0, none⟩) 2 2) 9 #[.string (attr ⟨#[80, 82, 79, 71, 82, 65, 77, 45, 73, 68]⟩ (dec v.program) false), .string (attr ⟨#[66, 65, 78, 68, 87, 73, 68, 84, 72]⟩ (dec v.bandwidth) false)]] (by kernel_rfl) (by kernel_rfl) (by kernel_rfl) rfl trivial ⟨?_, ?_, ?_, ?_, ?_, ?_, ?_, ?_, ?_, ?_, ?_, ?_, trivial⟩ ?_
    · intro a wx c
      have e1 : a.eval (.tmp 1) = .pointer (some ⟨w.heap.size, 0, none⟩) := c.outE (by decide +kernel) rfl
      clear c
      show Oper.wp _ _ _ _ _ _
      unfold Oper.wp
      simp only [execOp, resolve, e1]
      go_simp; try go_bits
      exact ⟨_, rfl, Only.refl _ _, rfl⟩
    · intro a wx c
      have e4 : a.eval (.tmp 4) = .pointer (some ⟨w.heap.size, 1, none⟩) := c.slot 0 _ (by decide +kernel) rfl
      have hc := c.cell (p := ⟨w.heap.size, 1, none⟩) (v := .int .u32 v.program) (by go_simp) (fun _ h => h.elim)
      clear c
      show Oper.wp _ _ _ _ _ _
      unfold Oper.wp
      simp only [execOp, resolve, e4]
      go_simp; try go_bits
      exact ⟨_, rfl, Only.refl _ _, rfl⟩
    · intro a wx c
      have e5 : a.eval (.tmp 5) = .int .u32 v.program := c.slot 1 _ (by decide +kernel) rfl
      clear c
      show Oper.wp _ _ _ _ _ _
      unfold Oper.wp
      simp only [execOp, resolve, e5]
      go_simp; try go_bits
      exact ⟨_, rfl, Only.refl _ _, rfl⟩
    · intro a wx c
      have e6 : a.eval (.tmp 6) = .int .u64 v.program := c.slot 2 _ (by decide +kernel) rfl
      clear c
      show Oper.wp _ _ _ _ _ _
      unfold Oper.wp
      simp only [execOp, resolve, List.map_toArray, List.map_cons, List.map_nil, e6]
      go_simp
      refine (decimal_of v.program _ _ (by omega) (by omega)).mono ?_
      rintro e w' ⟨rfl, rfl⟩
      exact ⟨_, rfl, Only.refl _ _, rfl⟩
    · intro a wx c
      have e7 : a.eval (.tmp 7) = .string (dec v.program) := c.slot 3 _ (by decide +kernel) rfl
      clear c
      show Oper.wp _ _ _ _ _ _
      unfold Oper.wp
      simp only [execOp, resolve, List.map_toArray, List.map_cons, List.map_nil, e7]
      go_simp
      refine (line_any _ _ _ _ (by simp [ByteArray.size]) (by omega)).mono ?_
      rintro e w' ⟨rfl, rfl⟩
      exact ⟨_, rfl, Only.refl _ _, rfl⟩
    · intro a wx c
      have e1 : a.eval (.tmp 1) = .pointer (some ⟨w.heap.size, 0, none⟩) := c.outE (by decide +kernel) rfl
      clear c
      show Oper.wp _ _ _ _ _ _
      unfold Oper.wp
      simp only [execOp, resolve, e1]
      go_simp; try go_bits
      exact ⟨_, rfl, Only.refl _ _, rfl⟩
    · intro a wx c
      have e9 : a.eval (.tmp 9) = .pointer (some ⟨w.heap.size, 2, none⟩) := c.slot 5 _ (by decide +kernel) rfl
      have hc := c.cell (p := ⟨w.heap.size, 2, none⟩) (v := .int .u32 v.bandwidth) (by go_simp) (fun _ h => h.elim)
      clear c
      show Oper.wp _ _ _ _ _ _
      unfold Oper.wp
      simp only [execOp, resolve, e9]
      go_simp; try go_bits
      exact ⟨_, rfl, Only.refl _ _, rfl⟩
    · intro a wx c
      have e10 : a.eval (.tmp 10) = .int .u32 v.bandwidth := c.slot 6 _ (by decide +kernel) rfl
      clear c
      show Oper.wp _ _ _ _ _ _
      unfold Oper.wp
      simp only [execOp, resolve, e10]
      go_simp; try go_bits
      exact ⟨_, rfl, Only.refl _ _, rfl⟩
    · intro a wx c
      have e11 : a.eval (.tmp 11) = .int .u64 v.bandwidth := c.slot 7 _ (by decide +kernel) rfl
      clear c
      show Oper.wp _ _ _ _ _ _
      unfold Oper.wp
      simp only [execOp, resolve, List.map_toArray, List.map_cons, List.map_nil, e11]
      go_simp
      refine (decimal_of v.bandwidth _ _ (by omega) (by omega)).mono ?_
      rintro e w' ⟨rfl, rfl⟩
      exact ⟨_, rfl, Only.refl _ _, rfl⟩
    · intro a wx c
      have e12 : a.eval (.tmp 12) = .string (dec v.bandwidth) := c.slot 8 _ (by decide +kernel) rfl
      clear c
      show Oper.wp _ _ _ _ _ _
      unfold Oper.wp
      simp only [execOp, resolve, List.map_toArray, List.map_cons, List.map_nil, e12]
      go_simp
      refine (line_any _ _ _ _ (by simp [ByteArray.size]) (by omega)).mono ?_
      rintro e w' ⟨rfl, rfl⟩
      exact ⟨_, rfl, Only.refl _ _, rfl⟩
    · intro a wx c
      have e8 : a.eval (.tmp 8) = .string (attr ⟨#[80, 82, 79, 71, 82, 65, 77, 45, 73, 68]⟩ (dec v.program) false) := c.slot 4 _ (by decide +kernel) rfl
      have e13 : a.eval (.tmp 13) = .string (attr ⟨#[66, 65, 78, 68, 87, 73, 68, 84, 72]⟩ (dec v.bandwidth) false) := c.slot 9 _ (by decide +kernel) rfl
      have hsz := c.only.size
      clear c
      show Oper.wp _ _ _ _ _ _
      unfold Oper.wp
      simp only [execOp, e8, e13, List.map_toArray, List.map_cons, List.map_nil]
      go_simp
      exact ⟨_, rfl, Only.of_below ((Below.refl _ _).alloc (Nat.le_refl _) _), _, by simpa using hsz, rfl, heap_alloc_new _ _⟩
    · intro a wx c
      obtain ⟨g14, k14, e14, h14⟩ : Asr.holds _ (Asr.blk (fun g => .slice (some ⟨g, 0, none⟩) 2 2) 9 #[.string (attr ⟨#[80, 82, 79, 71, 82, 65, 77, 45, 73, 68]⟩ (dec v.program) false), .string (attr ⟨#[66, 65, 78, 68, 87, 73, 68, 84, 72]⟩ (dec v.bandwidth) false)]) (a.eval (.tmp 14)) wx := c.slot 10 _ (by decide +kernel) rfl
      clear c
      show Oper.wp _ _ _ _ _ _
      unfold Oper.wp
      simp only [execOp, resolve, e14]
      go_simp; try go_bits
      exact ⟨_, rfl, Only.refl _ _, g14, by simpa using k14, rfl, h14⟩
    · intro a1 w1 c hb
      refine hK _ _ (Met.intro (hJ _ _ ?_))
      obtain ⟨g, hg, e3, hh⟩ : Asr.holds _ (Asr.blk (fun g => .slice (some ⟨g, 0, none⟩) 2 2) 9 #[.string (attr ⟨#[80, 82, 79, 71, 82, 65, 77, 45, 73, 68]⟩ (dec v.program) false), .string (attr ⟨#[66, 65, 78, 68, 87, 73, 68, 84, 72]⟩ (dec v.bandwidth) false)]) (a1.tmps.getD 3 undef) w1 := c.slot 11 _ rfl
      repeat apply Exists.intro
      refine ⟨?rel, frame_patch c [3, 4, 5, 6, 7, 8, 9, 10, 11, 12, 13, 14] (by kernel_rfl)⟩
      case rel =>
        refine ⟨?_, ((Below.refl _ _).alloc (Nat.le_refl _) _).trans (hb.mono (by simp)), ?_⟩
        · show strOwn w1 (w.heap.size + 1) (a1.tmps.getD 3 undef) v.at0
          rw [e3]
          refine Own.fresh (cs := [_, _]) (fun _ => rfl) hh (by simpa using hg) ?_ ?_ (by decide)
          · rfl
          · rfl
        · rw [hb.block _ (by simp), HCS.out]
          exact heap_alloc_new _ _
  have hcell : wc.cell? ⟨w.heap.size, 3, none⟩ = some (.int .u32 v.average) := (hcut.cell 3).trans rfl
  go_upto_if 17 with fail
  go_cut [3] (AtCut v w v.at1)
  case first =>
    by_cases ht : 0 < v.average
    · obtain hsz : w.heap.size + 1 ≤ wc.heap.size := (Array.getElem?_eq_some_iff.1 hcut.2.2).1
      go_wp2_with (first | (go_at_call 6; refine (decimal_of v.average _ _ ?_ ?_).mono ?_; (· rfl); (· omega); rintro e w' ⟨rfl, rfl⟩) | (go_at_call 30; refine (line_any _ _ _ _ ?_ ?_).mono ?_; (· simp [ByteArray.size]); (· omega); rintro e w' ⟨rfl, rfl⟩) | (refine arm_push 43 Tryd.underlying43 i0 _ 16 hi hz0 hz1 hz2 (by rfl) (by decide) (fun _ => rfl) (by simp [Value.oneCell']) (attr ⟨#[65, 86, 69, 82, 65, 71, 69, 45, 66, 65, 78, 68, 87, 73, 68, 84, 72]⟩ (dec v.average) false) ?_ rfl ?_ ?_ hcut.1 ?_ ?_ ?_ ?_; (· go_simp); (· simp); (· simp); (· exact hsz); (· omega); (· omega); intro v' w2 hown2 hon2 _))
      go_meet
      case rel => exact (show v.at1 = v.at0 ++ [attr ⟨#[65, 86, 69, 82, 65, 71, 69, 45, 66, 65, 78, 68, 87, 73, 68, 84, 72]⟩ (dec v.average) false] from by simp [Vt.at1, opt, ht]) ▸ hcut.push (Below.refl _ _) hown2 hon2
    · go_wp2_with fail
      go_meet
      case rel => exact (show v.at1 = v.at0 from by simp [Vt.at1, opt, ht]) ▸ hcut
  clear hcell
  have hcell : wc.cell? ⟨w.heap.size, 4, none⟩ = some (.string v.codecs) := (hcut.cell 4).trans rfl
  go_upto_if 28 with fail
  go_cut [3] (AtCut v w v.at2)
  case first =>
    cases ht : v.codecs.toList.isEmpty
    · obtain hsz : w.heap.size + 1 ≤ wc.heap.size := (Array.getElem?_eq_some_iff.1 hcut.2.2).1
      go_wp2_with (first | (go_at_call 30; refine (line_any _ _ _ _ ?_ ?_).mono ?_; (· simp [ByteArray.size]); (· omega); rintro e w' ⟨rfl, rfl⟩) | (refine arm_push 43 Tryd.underlying43 i0 _ 16 hi hz0 hz1 hz2 (by rfl) (by decide) (fun _ => rfl) (by simp [Value.oneCell']) (attr ⟨#[67, 79, 68, 69, 67, 83]⟩ v.codecs true) ?_ rfl ?_ ?_ hcut.1 ?_ ?_ ?_ ?_; (· go_simp); (· simp); (· simp); (· exact hsz); (· omega); (· omega); intro v' w2 hown2 hon2 _))
      go_meet
      case rel => exact (show v.at2 = v.at1 ++ [attr ⟨#[67, 79, 68, 69, 67, 83]⟩ v.codecs true] from by simp [Vt.at2, opt, ht]) ▸ hcut.push (Below.refl _ _) hown2 hon2
    · go_wp2_with fail
      go_meet
      case rel => exact (show v.at2 = v.at1 from by simp [Vt.at2, opt, ht]) ▸ hcut
  clear hcell
  have hcell : wc.cell? ⟨w.heap.size, 5, none⟩ = some (.int .u32 v.width) := (hcut.cell 5).trans rfl
  have hcell0 : wc.cell? ⟨w.heap.size, 0, none⟩ = some (.string v.uri) := (hcut.cell 0).trans rfl
  have hcell1 : wc.cell? ⟨w.heap.size, 1, none⟩ = some (.int .u32 v.program) := (hcut.cell 1).trans rfl
  have hcell2 : wc.cell? ⟨w.heap.size, 2, none⟩ = some (.int .u32 v.bandwidth) := (hcut.cell 2).trans rfl
  have hcell3 : wc.cell? ⟨w.heap.size, 3, none⟩ = some (.int .u32 v.average) := (hcut.cell 3).trans rfl
  have hcell4 : wc.cell? ⟨w.heap.size, 4, none⟩ = some (.string v.codecs) := (hcut.cell 4).trans rfl
  have hcell6 : wc.cell? ⟨w.heap.size, 6, none⟩ = some (.int .u32 v.height) := (hcut.cell 6).trans rfl
  have hcell7 : wc.cell? ⟨w.heap.size, 7, none⟩ = some (.string v.audio) := (hcut.cell 7).trans rfl
  have hcell8 : wc.cell? ⟨w.heap.size, 8, none⟩ = some (.string v.video) := (hcut.cell 8).trans rfl
  have hcell9 : wc.cell? ⟨w.heap.size, 9, none⟩ = some (.string v.subtitles) := (hcut.cell 9).trans rfl
  have hcell10 : wc.cell? ⟨w.heap.size, 10, none⟩ = some (.string v.captions) := (hcut.cell 10).trans rfl
  have hcell11 : wc.cell? ⟨w.heap.size, 11, none⟩ = some (.string v.name) := (hcut.cell 11).trans rfl
  have hcell12 : wc.cell? ⟨w.heap.size, 12, none⟩ = some (.int .i64 v.rate) := (hcut.cell 12).trans rfl
  go_upto_if 37 with fail
  go_cut [3] (AtCut v w v.at3)
  case first =>
    by_cases ht : 0 < v.width
    · obtain hsz : w.heap.size + 1 ≤ wc.heap.size := (Array.getElem?_eq_some_iff.1 hcut.2.2).1
      go_wp2_with (first | (go_at_call 12; refine (hresc _).mono ?_; rintro e w1 ⟨rfl, hb1⟩) | (go_at_call 30; refine (line_any _ _ _ _ ?_ ?_).mono ?_; (· simp [ByteArray.size]); (· omega); rintro e w' ⟨rfl, rfl⟩) | (refine arm_push 43 Tryd.underlying43 i0 _ 16 hi hz0 hz1 hz2 (by rfl) (by decide) (fun _ => rfl) (by simp [Value.oneCell']) (attr ⟨#[82, 69, 83, 79, 76, 85, 84, 73, 79, 78]⟩ v.resolution false) ?_ rfl ?_ ?_ (Own.below hcut.1 hb1) ?_ ?_ ?_ ?_; (· go_simp); (· simp); (· simp); (· exact Nat.le_trans hsz hb1.size); (· omega); (· omega); intro v' w2 hown2 hon2 _))
      go_meet
      case rel => exact (show v.at3 = v.at2 ++ [attr ⟨#[82, 69, 83, 79, 76, 85, 84, 73, 79, 78]⟩ v.resolution false] from by simp [Vt.at3, opt, ht]) ▸ hcut.push hb1 hown2 hon2
    · go_wp2_with fail
      go_meet
      case rel => exact (show v.at3 = v.at2 from by simp [Vt.at3, opt, ht]) ▸ hcut
  clear hcell
  have hcell : wc.cell? ⟨w.heap.size, 7, none⟩ = some (.string v.audio) := (hcut.cell 7).trans rfl
  go_upto_if 46 with fail
  go_cut [3] (AtCut v w v.at4)
  case first =>
    cases ht : v.audio.toList.isEmpty
    · obtain hsz : w.heap.size + 1 ≤ wc.heap.size := (Array.getElem?_eq_some_iff.1 hcut.2.2).1
      go_wp2_with (first | (go_at_call 30; refine (line_any _ _ _ _ ?_ ?_).mono ?_; (· simp [ByteArray.size]); (· omega); rintro e w' ⟨rfl, rfl⟩) | (refine arm_push 43 Tryd.underlying43 i0 _ 16 hi hz0 hz1 hz2 (by rfl) (by decide) (fun _ => rfl) (by simp [Value.oneCell']) (attr ⟨#[65, 85, 68, 73, 79]⟩ v.audio true) ?_ rfl ?_ ?_ hcut.1 ?_ ?_ ?_ ?_; (· go_simp); (· simp); (· simp); (· exact hsz); (· omega); (· omega); intro v' w2 hown2 hon2 _))
      go_meet
      case rel => exact (show v.at4 = v.at3 ++ [attr ⟨#[65, 85, 68, 73, 79]⟩ v.audio true] from by simp [Vt.at4, opt, ht]) ▸ hcut.push (Below.refl _ _) hown2 hon2
    · go_wp2_with fail
      go_meet
      case rel => exact (show v.at4 = v.at3 from by simp [Vt.at4, opt, ht]) ▸ hcut
  clear hcell
  have hcell : wc.cell? ⟨w.heap.size, 8, none⟩ = some (.string v.video) := (hcut.cell 8).trans rfl
  go_upto_if 55 with fail
  go_cut [3] (AtCut v w v.at5)
  case first =>
    cases ht : v.video.toList.isEmpty
    · obtain hsz : w.heap.size + 1 ≤ wc.heap.size := (Array.getElem?_eq_some_iff.1 hcut.2.2).1
      go_wp2_with (first | (go_at_call 30; refine (line_any _ _ _ _ ?_ ?_).mono ?_; (· simp [ByteArray.size]); (· omega); rintro e w' ⟨rfl, rfl⟩) | (refine arm_push 43 Tryd.underlying43 i0 _ 16 hi hz0 hz1 hz2 (by rfl) (by decide) (fun _ => rfl) (by simp [Value.oneCell']) (attr ⟨#[86, 73, 68, 69, 79]⟩ v.video true) ?_ rfl ?_ ?_ hcut.1 ?_ ?_ ?_ ?_; (· go_simp); (· simp); (· simp); (· exact hsz); (· omega); (· omega); intro v' w2 hown2 hon2 _))
      go_meet
      case rel => exact (show v.at5 = v.at4 ++ [attr ⟨#[86, 73, 68, 69, 79]⟩ v.video true] from by simp [Vt.at5, opt, ht]) ▸ hcut.push (Below.refl _ _) hown2 hon2
    · go_wp2_with fail
      go_meet
      case rel => exact (show v.at5 = v.at4 from by simp [Vt.at5, opt, ht]) ▸ hcut
  clear hcell
  have hcell : wc.cell? ⟨w.heap.size, 10, none⟩ = some (.string v.captions) := (hcut.cell 10).trans rfl
  go_upto_if 64 with fail
  go_cut [3] (AtCut v w v.at6)
  case first =>
    cases ht : v.captions.toList.isEmpty
    · obtain hsz : w.heap.size + 1 ≤ wc.heap.size := (Array.getElem?_eq_some_iff.1 hcut.2.2).1
      go_wp2_with (first | (go_at_call 30; refine (line_any _ _ _ _ ?_ ?_).mono ?_; (· simp [ByteArray.size]); (· omega); rintro e w' ⟨rfl, rfl⟩) | (refine arm_push 43 Tryd.underlying43 i0 _ 16 hi hz0 hz1 hz2 (by rfl) (by decide) (fun _ => rfl) (by simp [Value.oneCell']) (attr ⟨#[67, 76, 79, 83, 69, 68, 45, 67, 65, 80, 84, 73, 79, 78, 83]⟩ v.captions (!(v.captions.toList == [78, 79, 78, 69]))) ?_ rfl ?_ ?_ hcut.1 ?_ ?_ ?_ ?_; (· go_simp); (· simp); (· simp); (· exact hsz); (· omega); (· omega); intro v' w2 hown2 hon2 _))
      go_meet
      case rel => exact (show v.at6 = v.at5 ++ [attr ⟨#[67, 76, 79, 83, 69, 68, 45, 67, 65, 80, 84, 73, 79, 78, 83]⟩ v.captions (!(v.captions.toList == [78, 79, 78, 69]))] from by simp [Vt.at6, opt, ht]) ▸ hcut.push (Below.refl _ _) hown2 hon2
    · go_wp2_with fail
      go_meet
      case rel => exact (show v.at6 = v.at5 from by simp [Vt.at6, opt, ht]) ▸ hcut
  clear hcell
  have hcell : wc.cell? ⟨w.heap.size, 9, none⟩ = some (.string v.subtitles) := (hcut.cell 9).trans rfl
  go_upto_if 76 with fail
  go_cut [3] (AtCut v w v.at7)
  case first =>
    cases ht : v.subtitles.toList.isEmpty
    · obtain hsz : w.heap.size + 1 ≤ wc.heap.size := (Array.getElem?_eq_some_iff.1 hcut.2.2).1
      go_wp2_with (first | (go_at_call 30; refine (line_any _ _ _ _ ?_ ?_).mono ?_; (· simp [ByteArray.size]); (· omega); rintro e w' ⟨rfl, rfl⟩) | (refine arm_push 43 Tryd.underlying43 i0 _ 16 hi hz0 hz1 hz2 (by rfl) (by decide) (fun _ => rfl) (by simp [Value.oneCell']) (attr ⟨#[83, 85, 66, 84, 73, 84, 76, 69, 83]⟩ v.subtitles true) ?_ rfl ?_ ?_ hcut.1 ?_ ?_ ?_ ?_; (· go_simp); (· simp); (· simp); (· exact hsz); (· omega); (· omega); intro v' w2 hown2 hon2 _))
      go_meet
      case rel => exact (show v.at7 = v.at6 ++ [attr ⟨#[83, 85, 66, 84, 73, 84, 76, 69, 83]⟩ v.subtitles true] from by simp [Vt.at7, opt, ht]) ▸ hcut.push (Below.refl _ _) hown2 hon2
    · go_wp2_with fail
      go_meet
      case rel => exact (show v.at7 = v.at6 from by simp [Vt.at7, opt, ht]) ▸ hcut
  clear hcell
  have hcell : wc.cell? ⟨w.heap.size, 11, none⟩ = some (.string v.name) := (hcut.cell 11).trans rfl
  go_upto_if 85 with fail
  go_cut [3] (AtCut v w v.at8)
  case first =>
    cases ht : v.name.toList.isEmpty
    · obtain hsz : w.heap.size + 1 ≤ wc.heap.size := (Array.getElem?_eq_some_iff.1 hcut.2.2).1
      go_wp2_with (first | (go_at_call 30; refine (line_any _ _ _ _ ?_ ?_).mono ?_; (· simp [ByteArray.size]); (· omega); rintro e w' ⟨rfl, rfl⟩) | (refine arm_push 43 Tryd.underlying43 i0 _ 16 hi hz0 hz1 hz2 (by rfl) (by decide) (fun _ => rfl) (by simp [Value.oneCell']) (attr ⟨#[78, 65, 77, 69]⟩ v.name true) ?_ rfl ?_ ?_ hcut.1 ?_ ?_ ?_ ?_; (· go_simp); (· simp); (· simp); (· exact hsz); (· omega); (· omega); intro v' w2 hown2 hon2 _))
      go_meet
      case rel => exact (show v.at8 = v.at7 ++ [attr ⟨#[78, 65, 77, 69]⟩ v.name true] from by simp [Vt.at8, opt, ht]) ▸ hcut.push (Below.refl _ _) hown2 hon2
    · go_wp2_with fail
      go_meet
      case rel => exact (show v.at8 = v.at7 from by simp [Vt.at8, opt, ht]) ▸ hcut
  clear hcell
  have hcell : wc.cell? ⟨w.heap.size, 12, none⟩ = some (.int .i64 v.rate) := (hcut.cell 12).trans rfl
  go_upto_if 94 with fail
  go_cut [3] (AtCut v w v.at9)
  case first =>
    by_cases ht : 0 < v.rate
    · obtain hsz : w.heap.size + 1 ≤ wc.heap.size := (Array.getElem?_eq_some_iff.1 hcut.2.2).1
      go_wp2_with (first | (go_at_call 31; refine (seconds_any v.rate _ ?_).mono ?_; (· omega); rintro e w' ⟨rfl, rfl⟩) | (go_at_call 30; refine (line_any _ _ _ _ ?_ ?_).mono ?_; (· simp [ByteArray.size]); (· omega); rintro e w' ⟨rfl, rfl⟩) | (refine arm_push 43 Tryd.underlying43 i0 _ 16 hi hz0 hz1 hz2 (by rfl) (by decide) (fun _ => rfl) (by simp [Value.oneCell']) (attr ⟨#[70, 82, 65, 77, 69, 45, 82, 65, 84, 69]⟩ (secs v.rate) false) ?_ rfl ?_ ?_ hcut.1 ?_ ?_ ?_ ?_; (· go_simp); (· simp); (· simp); (· exact hsz); (· omega); (· omega); intro v' w2 hown2 hon2 _))
      go_meet
      case rel => exact (show v.at9 = v.at8 ++ [attr ⟨#[70, 82, 65, 77, 69, 45, 82, 65, 84, 69]⟩ (secs v.rate) false] from by simp [Vt.at9, opt, ht]) ▸ hcut.push (Below.refl _ _) hown2 hon2
    · go_wp2_with fail
      go_meet
      case rel => exact (show v.at9 = v.at8 from by simp [Vt.at9, opt, ht]) ▸ hcut
  clear hcell
  go_wp2_with fail
  go_ret
  exact Vt.attrs_post hcut
end Go.Proofs.YtkddkmiomhadaaaDoor
