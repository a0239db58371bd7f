/- The walk of laws.masterOf. -/
import Derived.Test.YtkddkmiomhadaaaDoorStp
import Derived.Test.YtkddkmiomhadaaaDoorOgT
import Derived.Deep.DeepCutAuto
namespace Go.Proofs.YtkddkmiomhadaaaDoor
open Go.RowKit
theorem info_alt : (Tryd.prog.info? 46).map (fun i => (i.zero, i.size, i.bytes)) = some (some (.agg #[.string ⟨#[]⟩, .string ⟨#[]⟩, .string ⟨#[]⟩, .bool false, .string ⟨#[]⟩, .string ⟨#[]⟩, .string ⟨#[]⟩]), 7, 104) := by kernel_rfl
theorem AtsOk.snoc {As : List At} {k : Nat} {y : At} (h : AtsOk As) (hl : As.length = k) (hy : AtOk k y) : AtsOk (As ++ [y]) := by
  intro j z hz
  rw [List.getElem?_append] at hz
  split at hz
  · exact h j z hz
  · rename_i hj
    have : j = k := by
      have := (List.getElem?_eq_some_iff.1 hz).1
      simp at this
      omega
    subst this
    simp [hl] at hz
    subst hz
    exact hy
set_option maxRecDepth 100000 in
set_option maxHeartbeats 20000000 in
theorem masterOf_any (n : Nat) (A : Option Addr) (len cap : Nat) (w : World) (hn : n < 4294967296) (hlen : len ≤ 1000) (hA : U32s w A len) :
    Calls Tryd.prog 4 #[.slice A len cap, .int .u32 n] w (MasterPost w) := by
  obtain ⟨iV, hiV, hzV, hsV, hbV⟩ := info_parts info_vt
  obtain ⟨iF, hiF, hzF, hsF, hbF⟩ := info_parts info_bool
  have hver8 : 0 ≤ (n : Int) % 8 ∧ (n : Int) % 8 < 8 := by omega
  obtain ⟨iA, hiA, hzA, hsA, hbA⟩ := info_parts info_alt
  go_enter Tryd.func4, Tryd.ntmps4
  go_wp2_with fail
  generalize hver : ((n : Int) % 8) = ver
  generalize hind : (bits BinOp.and IntKind.u32 ((n : Int) / 8) 1 == 1) = ind
  go_loopg [30] (n / 32 % 5) (fun g i wx => ∃ (k : Nat) (sA : Value) (As : List At), k ≤ n / 32 % 5 ∧ g = n / 32 % 5 - k ∧ i = .int .i64 k ∧ Ms w A len cap ver ind sA (.slice none 0 0) (.slice (some ⟨w.heap.size + 1 + 1 + 1, 0, none⟩) 0 0) As [] [] wx ∧ As.length = k ∧ AtsOk As)
  case atStart =>
    have e1 : ∀ (a b c d : Obj), (((((w.alloc a).alloc b).alloc c).alloc d).heap[w.heap.size]? = some a ∧ ((((w.alloc a).alloc b).alloc c).alloc d).heap[w.heap.size + 1]? = some b) ∧ ((((w.alloc a).alloc b).alloc c).alloc d).heap[w.heap.size + 2]? = some c ∧ ((((w.alloc a).alloc b).alloc c).alloc d).heap[w.heap.size + 3]? = some d := by
      intro a b c d
      show (((((w.heap.push a).push b).push c).push d)[w.heap.size]? = _ ∧ ((((w.heap.push a).push b).push c).push d)[w.heap.size + 1]? = _) ∧ ((((w.heap.push a).push b).push c).push d)[w.heap.size + 2]? = _ ∧ ((((w.heap.push a).push b).push c).push d)[w.heap.size + 3]? = _
      simp only [Array.getElem?_push, Array.size_push]
      refine ⟨⟨?_, ?_⟩, ?_, ?_⟩
      · rw [if_neg (by omega), if_neg (by omega), if_neg (by omega), if_pos trivial]
      · rw [if_neg (by omega), if_neg (by omega), if_pos trivial]
      · rw [if_neg (by omega), if_pos trivial]
      · rw [if_pos trivial]
    obtain ⟨⟨b0, b1⟩, b2, b3⟩ := e1 _ _ _ _
    refine ⟨0, _, [], Nat.zero_le _, rfl, rfl, ⟨b0, b1, b2, Own.nil _ _ _ _ _, Own.nil _ _ _ _ _, Own.fresh (cs := []) (fun _ => rfl) b3 (Nat.le_refl _) rfl rfl (Nat.zero_le _), ?_⟩, rfl, fun j y h => by simp at h⟩
    exact ((((Below.refl _ _).alloc (Nat.le_refl _) _).alloc (by simp) _).alloc (by simp; omega) _).alloc (by simp; omega) _
  case round =>
    obtain ⟨k, sA, As, hk, rfl, rfl, hM, hAl, hAok⟩ := hrel
    by_cases hlt : k < n / 32 % 5
    · have hbox : wr.cell? ⟨w.heap.size, 0, none⟩ = some (.slice A len cap) := by simp [World.cell?, hM.box]
      have hU : U32s wr A len := hA.below hM.below
      go_wp2_with (go_at_call 9; refine (at_any k _ A len cap _ (by omega) hlen hbox hU).mono ?_; rintro e w' ⟨h, n', hh, rfl, rfl⟩)
      clear hbox hU
      have hMq : Ms w A len cap ver ind sA (.slice none 0 0) (.slice (some ⟨w.heap.size + 1 + 1 + 1, 0, none⟩) 0 0) As [] [] (wr.drewN n') := ⟨hM.box, hM.res, hM.mst, hM.alts, hM.vars, hM.frs, ⟨hM.below.os, hM.below.tape, hM.below.output, hM.below.size, hM.below.block⟩⟩
      clear hM
      generalize wr.drewN n' = wq at *
      have hM := hMq
      clear hMq
      have hB3 := hM.size
      have hAne : ¬ sA.ownBlock = some (w.heap.size + 2) := hM.alts.ne_blk hM.mst (by decide)
      refine wp_region_ogE (n := 202) [Asr.eq (.pointer (some ⟨w.heap.size + 2, 2, none⟩)), Asr.eq (sA), Asr.blk (fun g => .slice (some ⟨g, 0, none⟩) 3 3) 9 #[.string ⟨#[65, 85, 68, 73, 79]⟩, .string ⟨#[86, 73, 68, 69, 79]⟩, .string ⟨#[83, 85, 66, 84, 73, 84, 76, 69, 83]⟩], Asr.eq (.int .u32 h), Asr.pure (NumLt 3), Asr.blki 3 (fun g i => .pointer (some ⟨g, i, none⟩)) 9 #[.string ⟨#[65, 85, 68, 73, 79]⟩, .string ⟨#[86, 73, 68, 69, 79]⟩, .string ⟨#[83, 85, 66, 84, 73, 84, 76, 69, 83]⟩], Asr.pure (PickOf [⟨#[65, 85, 68, 73, 79]⟩, ⟨#[86, 73, 68, 69, 79]⟩, ⟨#[83, 85, 66, 84, 73, 84, 76, 69, 83]⟩]), Asr.blk (fun g => .slice (some ⟨g, 0, none⟩) 2 2) 9 #[.string ⟨#[103]⟩, .string ⟨#[104]⟩], Asr.eq (.int .u32 h), Asr.eq (.int .u32 ((h : Int) / 4)), Asr.pure (NumLt 2), Asr.blki 2 (fun g i => .pointer (some ⟨g, i, none⟩)) 9 #[.string ⟨#[103]⟩, .string ⟨#[104]⟩], Asr.pure (PickOf [⟨#[103]⟩, ⟨#[104]⟩]), Asr.eq (.int .i64 k), Asr.eq (.int .u64 k), Asr.eq (.string (dec k)), Asr.eq (.string (⟨#[110]⟩ ++ dec k)), Asr.eq (.int .u32 h), Asr.eq (.int .u32 ((h : Int) / 8)), Asr.pure (AnyU32), Asr.pure (AnyBool), Asr.blk (fun g => .slice (some ⟨g, 0, none⟩) 3 3) 9 #[.string ⟨#[]⟩, .string ⟨#[89, 69, 83]⟩, .string ⟨#[78, 79]⟩], Asr.eq (.int .u32 h), Asr.eq (.int .u32 ((h : Int) / 16)), Asr.pure (NumLt 3), Asr.blki 3 (fun g i => .pointer (some ⟨g, i, none⟩)) 9 #[.string ⟨#[]⟩, .string ⟨#[89, 69, 83]⟩, .string ⟨#[78, 79]⟩], Asr.pure (PickOf [⟨#[]⟩, ⟨#[89, 69, 83]⟩, ⟨#[78, 79]⟩]), Asr.blk (fun g => .slice (some ⟨g, 0, none⟩) 3 3) 9 #[.string ⟨#[]⟩, .string ⟨#[101, 110]⟩, .string ⟨#[100, 101]⟩], Asr.eq (.int .u32 h), Asr.eq (.int .u32 ((h : Int) / 64)), Asr.pure (NumLt 3), Asr.blki 3 (fun g i => .pointer (some ⟨g, i, none⟩)) 9 #[.string ⟨#[]⟩, .string ⟨#[101, 110]⟩, .string ⟨#[100, 101]⟩], Asr.pure (PickOf [⟨#[]⟩, ⟨#[101, 110]⟩, ⟨#[100, 101]⟩]), Asr.blk (fun g => .slice (some ⟨g, 0, none⟩) 3 3) 9 #[.string ⟨#[]⟩, .string ⟨#[97, 32, 98, 46, 109, 51, 117, 56]⟩, .string ⟨#[99, 44, 100, 46, 109, 51, 117, 56]⟩], Asr.eq (.int .u32 h), Asr.eq (.int .u32 ((h : Int) / 256)), Asr.pure (NumLt 3), Asr.blki 3 (fun g i => .pointer (some ⟨g, i, none⟩)) 9 #[.string ⟨#[]⟩, .string ⟨#[97, 32, 98, 46, 109, 51, 117, 56]⟩, .string ⟨#[99, 44, 100, 46, 109, 51, 117, 56]⟩], Asr.pure (PickOf [⟨#[]⟩, ⟨#[97, 32, 98, 46, 109, 51, 117, 56]⟩, ⟨#[99, 44, 100, 46, 109, 51, 117, 56]⟩]), Asr.pure (AtBuilt k), Asr.any (AtLaid k wq.heap.size), Asr.any (AtPut k (w.heap.size + 3) wq.heap.size sA As), Asr.eq (.pointer (some ⟨w.heap.size + 2, 2, none⟩)), Asr.wld (AtDone k (w.heap.size + 3) (w.heap.size + 2) ver ind As)] (fun e g => (e = 41 ∧ sA.ownBlock = some g) ∨ (e = 43 ∧ g = w.heap.size + 2)) (by kernel_rfl) (by kernel_rfl) (by kernel_rfl) rfl ?_ ⟨?_, ?_, ?_, trivial⟩ ⟨?_, ?_, ?_, ?_, ?_, ?_, ?_, ?_, ?_, ?_, ?_, ?_, ?_, ?_, ?_, ?_, ?_, ?_, ?_, ?_, ?_, ?_, ?_, ?_, ?_, ?_, ?_, ?_, ?_, ?_, ?_, ?_, ?_, ?_, ?_, ?_, ?_, ?_, ?_, ?_, ?_, ?_, ?_, ?_, trivial⟩ ?_
      · rintro e g (⟨rfl, h⟩ | ⟨rfl, rfl⟩)
        · exact (hM.alts.block_lt g h).2
        · omega
      · rintro i _ _ v w1 w2 hsz1 ho ⟨g, y, hg, hy, hv, hh⟩
        refine ⟨g, y, hg, hy, hv, ?_⟩
        rw [ho.block g (Array.getElem?_eq_some_iff.1 hh).1 (fun h => by rcases h with ⟨_, h⟩ | ⟨_, h⟩; have := (hM.alts.block_lt g h).2; omega; omega)]
        exact hh
      · rintro i hai hji v w1 w2 hsz1 ho ⟨y, hy, h1, h2⟩
        refine ⟨y, hy, h1.only ho ?_, h2⟩
        rintro g hg (⟨rfl, h⟩ | ⟨rfl, rfl⟩)
        · exact hji rfl
        · have := (h1.block_lt _ hg).1; omega
      · rintro i hai hji w1 w2 hsz1 ho ⟨y, v, hy, h1, h2⟩
        rcases (show i = 41 ∨ i ≠ 41 from by omega) with rfl | hi
        · exact absurd hai (by decide +kernel)
        · have hno : ∀ g, ¬ ((i = 41 ∧ sA.ownBlock = some g) ∨ (i = 43 ∧ g = w.heap.size + 2)) := by
            rintro g (⟨rfl, _⟩ | ⟨rfl, _⟩)
            · exact hi rfl
            · exact hji rfl
          have hb := ho.below (Nat.le_refl _) fun g _ => hno g
          exact ⟨y, v, hy, h1.below hb, by rw [hb.block _ (Array.getElem?_eq_some_iff.1 h2).1]; exact h2⟩
      · intro a wx c
        have e6 : a.eval (.tmp 6) = .pointer (some ⟨w.heap.size + 2, 0, none⟩) := c.outE (by decide +kernel) rfl
        clear c
        show Oper.wp _ _ _ _ _ _
        unfold Oper.wp
        simp only [execOp, resolve, e6]
        go_simp; try go_bits
        exact ⟨_, rfl, Only.refl _ _, rfl⟩
      · intro a wx c
        have e36 : a.eval (.tmp 36) = .pointer (some ⟨w.heap.size + 2, 2, none⟩) := c.slot 0 _ (by decide +kernel) rfl
        have hc : wx.cell? ⟨w.heap.size + 2, 2, none⟩ = some sA := cell_of_heap (i := 2) (c.heap hM.mst (fun e h => by rcases h with ⟨rfl, h⟩ | ⟨rfl, h⟩; exact absurd h hAne; exact .inr (by decide +kernel))) rfl
        clear c
        show Oper.wp _ _ _ _ _ _
        unfold Oper.wp
        simp only [execOp, resolve, e36]
        go_simp; try go_bits
        exact ⟨_, rfl, Only.refl _ _, rfl⟩
      · intro a wx c
        have hsz := c.only.size
        clear c
        show Oper.wp _ _ _ _ _ _
        unfold Oper.wp
        simp only [execOp]
        go_simp
        exact ⟨_, rfl, Only.of_below ((Below.refl _ _).alloc (Nat.le_refl _) _), _, by simpa using hsz, rfl, heap_alloc_new _ _⟩
      · intro a wx c
        have e11 : a.eval (.tmp 11) = .int .u32 h := c.outE (by decide +kernel) rfl
        clear c
        show Oper.wp _ _ _ _ _ _
        unfold Oper.wp
        simp only [execOp, resolve, e11]
        go_simp; try go_bits
        exact ⟨_, rfl, Only.refl _ _, rfl⟩
      · intro a wx c
        have e39 : a.eval (.tmp 39) = .int .u32 h := c.slot 3 _ (by decide +kernel) rfl
        clear c
        show Oper.wp _ _ _ _ _ _
        unfold Oper.wp
        simp only [execOp, e39]
        go_simp; try go_bits
        exact ⟨_, rfl, Only.refl _ _, small_int (by omega) (by omega)⟩
      · intro a wx c
        obtain ⟨g38, k38, e38, h38⟩ : Asr.holds _ (Asr.blk (fun g => .slice (some ⟨g, 0, none⟩) 3 3) 9 #[.string ⟨#[65, 85, 68, 73, 79]⟩, .string ⟨#[86, 73, 68, 69, 79]⟩, .string ⟨#[83, 85, 66, 84, 73, 84, 76, 69, 83]⟩]) (a.eval (.tmp 38)) wx := c.slot 2 _ (by decide +kernel) rfl
        obtain ⟨i40, k40, e40⟩ : (NumLt 3) (a.eval (.tmp 40)) := c.slot 4 _ (by decide +kernel) rfl
        clear c
        show Oper.wp _ _ _ _ _ _
        have hlt : (i40 : Int) < 3 := by omega
        unfold Oper.wp
        simp only [execOp, e38, e40]
        go_simp; try go_bits
        exact ⟨_, rfl, Only.refl _ _, g38, i40, by simpa using k38, k40, rfl, h38⟩
      · intro a wx c
        obtain ⟨g41, i41, k41, n41, e41, h41⟩ : Asr.holds _ (Asr.blki 3 (fun g i => .pointer (some ⟨g, i, none⟩)) 9 #[.string ⟨#[65, 85, 68, 73, 79]⟩, .string ⟨#[86, 73, 68, 69, 79]⟩, .string ⟨#[83, 85, 66, 84, 73, 84, 76, 69, 83]⟩]) (a.eval (.tmp 41)) wx := c.slot 5 _ (by decide +kernel) rfl
        clear c
        show Oper.wp _ _ _ _ _ _
        obtain rfl | rfl | rfl : i41 = 0 ∨ i41 = 1 ∨ i41 = 2 := by omega
        · have hc : wx.cell? ⟨g41, 0, none⟩ = some (.string ⟨#[65, 85, 68, 73, 79]⟩) := by simp [World.cell?, h41]
          unfold Oper.wp
          simp only [execOp, e41]
          go_simp
          exact ⟨_, rfl, Only.refl _ _, _, by simp, rfl⟩
        · have hc : wx.cell? ⟨g41, 1, none⟩ = some (.string ⟨#[86, 73, 68, 69, 79]⟩) := by simp [World.cell?, h41]
          unfold Oper.wp
          simp only [execOp, e41]
          go_simp
          exact ⟨_, rfl, Only.refl _ _, _, by simp, rfl⟩
        · have hc : wx.cell? ⟨g41, 2, none⟩ = some (.string ⟨#[83, 85, 66, 84, 73, 84, 76, 69, 83]⟩) := by simp [World.cell?, h41]
          unfold Oper.wp
          simp only [execOp, e41]
          go_simp
          exact ⟨_, rfl, Only.refl _ _, _, by simp, rfl⟩
      · intro a wx c
        have hsz := c.only.size
        clear c
        show Oper.wp _ _ _ _ _ _
        unfold Oper.wp
        simp only [execOp]
        go_simp
        exact ⟨_, rfl, Only.of_below ((Below.refl _ _).alloc (Nat.le_refl _) _), _, by simpa using hsz, rfl, heap_alloc_new _ _⟩
      · intro a wx c
        have e11 : a.eval (.tmp 11) = .int .u32 h := c.outE (by decide +kernel) rfl
        clear c
        show Oper.wp _ _ _ _ _ _
        unfold Oper.wp
        simp only [execOp, resolve, e11]
        go_simp; try go_bits
        exact ⟨_, rfl, Only.refl _ _, rfl⟩
      · intro a wx c
        have e44 : a.eval (.tmp 44) = .int .u32 h := c.slot 8 _ (by decide +kernel) rfl
        clear c
        show Oper.wp _ _ _ _ _ _
        unfold Oper.wp
        simp only [execOp, resolve, e44]
        go_simp; try go_bits
        exact ⟨_, rfl, Only.refl _ _, rfl⟩
      · intro a wx c
        have e45 : a.eval (.tmp 45) = .int .u32 ((h : Int) / 4) := c.slot 9 _ (by decide +kernel) rfl
        have hb := u32_and1 (x := (h : Int) / 4) (by omega) (by omega)
        clear c
        show Oper.wp _ _ _ _ _ _
        unfold Oper.wp
        simp only [execOp, e45]
        go_simp; try go_bits
        exact ⟨_, rfl, Only.refl _ _, small_int (by omega) (by omega)⟩
      · intro a wx c
        obtain ⟨g43, k43, e43, h43⟩ : Asr.holds _ (Asr.blk (fun g => .slice (some ⟨g, 0, none⟩) 2 2) 9 #[.string ⟨#[103]⟩, .string ⟨#[104]⟩]) (a.eval (.tmp 43)) wx := c.slot 7 _ (by decide +kernel) rfl
        obtain ⟨i46, k46, e46⟩ : (NumLt 2) (a.eval (.tmp 46)) := c.slot 10 _ (by decide +kernel) rfl
        clear c
        show Oper.wp _ _ _ _ _ _
        have hlt : (i46 : Int) < 2 := by omega
        unfold Oper.wp
        simp only [execOp, e43, e46]
        go_simp; try go_bits
        exact ⟨_, rfl, Only.refl _ _, g43, i46, by simpa using k43, k46, rfl, h43⟩
      · intro a wx c
        obtain ⟨g47, i47, k47, n47, e47, h47⟩ : Asr.holds _ (Asr.blki 2 (fun g i => .pointer (some ⟨g, i, none⟩)) 9 #[.string ⟨#[103]⟩, .string ⟨#[104]⟩]) (a.eval (.tmp 47)) wx := c.slot 11 _ (by decide +kernel) rfl
        clear c
        show Oper.wp _ _ _ _ _ _
        obtain rfl | rfl : i47 = 0 ∨ i47 = 1 := by omega
        · have hc : wx.cell? ⟨g47, 0, none⟩ = some (.string ⟨#[103]⟩) := by simp [World.cell?, h47]
          unfold Oper.wp
          simp only [execOp, e47]
          go_simp
          exact ⟨_, rfl, Only.refl _ _, _, by simp, rfl⟩
        · have hc : wx.cell? ⟨g47, 1, none⟩ = some (.string ⟨#[104]⟩) := by simp [World.cell?, h47]
          unfold Oper.wp
          simp only [execOp, e47]
          go_simp
          exact ⟨_, rfl, Only.refl _ _, _, by simp, rfl⟩
      · intro a wx c
        have e10 : a.eval (.tmp 10) = .int .i64 k := c.outE (by decide +kernel) rfl
        clear c
        show Oper.wp _ _ _ _ _ _
        unfold Oper.wp
        simp only [execOp, resolve, e10]
        go_simp; try go_bits
        exact ⟨_, rfl, Only.refl _ _, rfl⟩
      · intro a wx c
        have e49 : a.eval (.tmp 49) = .int .i64 k := c.slot 13 _ (by decide +kernel) rfl
        clear c
        show Oper.wp _ _ _ _ _ _
        unfold Oper.wp
        simp only [execOp, resolve, e49]
        go_simp; try go_bits
        exact ⟨_, rfl, Only.refl _ _, rfl⟩
      · intro a wx c
        have e50 : a.eval (.tmp 50) = .int .u64 k := c.slot 14 _ (by decide +kernel) rfl
        clear c
        show Oper.wp _ _ _ _ _ _
        unfold Oper.wp
        simp only [execOp, resolve, List.map_toArray, List.map_cons, List.map_nil, e50]
        go_simp
        refine (decimal_of k _ _ (by omega) (by omega)).mono ?_
        rintro e w' ⟨rfl, rfl⟩
        exact ⟨_, rfl, Only.refl _ _, rfl⟩
      · intro a wx c
        have e51 : a.eval (.tmp 51) = .string (dec k) := c.slot 15 _ (by decide +kernel) rfl
        clear c
        show Oper.wp _ _ _ _ _ _
        exact og_add Tryd.underlying9 rfl e51 (by have := dec_one (n := k) (by omega); simp only [ByteArray.size_mk', List.size_toArray, List.length_cons, List.length_nil]; omega) rfl
      · intro a wx c
        have e11 : a.eval (.tmp 11) = .int .u32 h := c.outE (by decide +kernel) rfl
        clear c
        show Oper.wp _ _ _ _ _ _
        unfold Oper.wp
        simp only [execOp, resolve, e11]
        go_simp; try go_bits
        exact ⟨_, rfl, Only.refl _ _, rfl⟩
      · intro a wx c
        have e53 : a.eval (.tmp 53) = .int .u32 h := c.slot 17 _ (by decide +kernel) rfl
        clear c
        show Oper.wp _ _ _ _ _ _
        unfold Oper.wp
        simp only [execOp, resolve, e53]
        go_simp; try go_bits
        exact ⟨_, rfl, Only.refl _ _, rfl⟩
      · intro a wx c
        have e54 : a.eval (.tmp 54) = .int .u32 ((h : Int) / 8) := c.slot 18 _ (by decide +kernel) rfl
        clear c
        show Oper.wp _ _ _ _ _ _
        unfold Oper.wp
        simp only [execOp, e54]
        go_simp; try go_bits
        exact ⟨_, rfl, Only.refl _ _, _, rfl⟩
      · intro a wx c
        obtain ⟨i55, e55⟩ : (AnyU32) (a.eval (.tmp 55)) := c.slot 19 _ (by decide +kernel) rfl
        clear c
        show Oper.wp _ _ _ _ _ _
        unfold Oper.wp
        simp only [execOp, e55]
        go_simp; try go_bits
        exact ⟨_, rfl, Only.refl _ _, _, rfl⟩
      · intro a wx c
        have hsz := c.only.size
        clear c
        show Oper.wp _ _ _ _ _ _
        unfold Oper.wp
        simp only [execOp]
        go_simp
        exact ⟨_, rfl, Only.of_below ((Below.refl _ _).alloc (Nat.le_refl _) _), _, by simpa using hsz, rfl, heap_alloc_new _ _⟩
      · intro a wx c
        have e11 : a.eval (.tmp 11) = .int .u32 h := c.outE (by decide +kernel) rfl
        clear c
        show Oper.wp _ _ _ _ _ _
        unfold Oper.wp
        simp only [execOp, resolve, e11]
        go_simp; try go_bits
        exact ⟨_, rfl, Only.refl _ _, rfl⟩
      · intro a wx c
        have e58 : a.eval (.tmp 58) = .int .u32 h := c.slot 22 _ (by decide +kernel) rfl
        clear c
        show Oper.wp _ _ _ _ _ _
        unfold Oper.wp
        simp only [execOp, resolve, e58]
        go_simp; try go_bits
        exact ⟨_, rfl, Only.refl _ _, rfl⟩
      · intro a wx c
        have e59 : a.eval (.tmp 59) = .int .u32 ((h : Int) / 16) := c.slot 23 _ (by decide +kernel) rfl
        clear c
        show Oper.wp _ _ _ _ _ _
        unfold Oper.wp
        simp only [execOp, e59]
        go_simp; try go_bits
        exact ⟨_, rfl, Only.refl _ _, small_int (by omega) (by omega)⟩
      · intro a wx c
        obtain ⟨g57, k57, e57, h57⟩ : Asr.holds _ (Asr.blk (fun g => .slice (some ⟨g, 0, none⟩) 3 3) 9 #[.string ⟨#[]⟩, .string ⟨#[89, 69, 83]⟩, .string ⟨#[78, 79]⟩]) (a.eval (.tmp 57)) wx := c.slot 21 _ (by decide +kernel) rfl
        obtain ⟨i60, k60, e60⟩ : (NumLt 3) (a.eval (.tmp 60)) := c.slot 24 _ (by decide +kernel) rfl
        clear c
        show Oper.wp _ _ _ _ _ _
        have hlt : (i60 : Int) < 3 := by omega
        unfold Oper.wp
        simp only [execOp, e57, e60]
        go_simp; try go_bits
        exact ⟨_, rfl, Only.refl _ _, g57, i60, by simpa using k57, k60, rfl, h57⟩
      · intro a wx c
        obtain ⟨g61, i61, k61, n61, e61, h61⟩ : Asr.holds _ (Asr.blki 3 (fun g i => .pointer (some ⟨g, i, none⟩)) 9 #[.string ⟨#[]⟩, .string ⟨#[89, 69, 83]⟩, .string ⟨#[78, 79]⟩]) (a.eval (.tmp 61)) wx := c.slot 25 _ (by decide +kernel) rfl
        clear c
        show Oper.wp _ _ _ _ _ _
        obtain rfl | rfl | rfl : i61 = 0 ∨ i61 = 1 ∨ i61 = 2 := by omega
        · have hc : wx.cell? ⟨g61, 0, none⟩ = some (.string ⟨#[]⟩) := by simp [World.cell?, h61]
          unfold Oper.wp
          simp only [execOp, e61]
          go_simp
          exact ⟨_, rfl, Only.refl _ _, _, by simp, rfl⟩
        · have hc : wx.cell? ⟨g61, 1, none⟩ = some (.string ⟨#[89, 69, 83]⟩) := by simp [World.cell?, h61]
          unfold Oper.wp
          simp only [execOp, e61]
          go_simp
          exact ⟨_, rfl, Only.refl _ _, _, by simp, rfl⟩
        · have hc : wx.cell? ⟨g61, 2, none⟩ = some (.string ⟨#[78, 79]⟩) := by simp [World.cell?, h61]
          unfold Oper.wp
          simp only [execOp, e61]
          go_simp
          exact ⟨_, rfl, Only.refl _ _, _, by simp, rfl⟩
      · intro a wx c
        have hsz := c.only.size
        clear c
        show Oper.wp _ _ _ _ _ _
        unfold Oper.wp
        simp only [execOp]
        go_simp
        exact ⟨_, rfl, Only.of_below ((Below.refl _ _).alloc (Nat.le_refl _) _), _, by simpa using hsz, rfl, heap_alloc_new _ _⟩
      · intro a wx c
        have e11 : a.eval (.tmp 11) = .int .u32 h := c.outE (by decide +kernel) rfl
        clear c
        show Oper.wp _ _ _ _ _ _
        unfold Oper.wp
        simp only [execOp, resolve, e11]
        go_simp; try go_bits
        exact ⟨_, rfl, Only.refl _ _, rfl⟩
      · intro a wx c
        have e64 : a.eval (.tmp 64) = .int .u32 h := c.slot 28 _ (by decide +kernel) rfl
        clear c
        show Oper.wp _ _ _ _ _ _
        unfold Oper.wp
        simp only [execOp, resolve, e64]
        go_simp; try go_bits
        exact ⟨_, rfl, Only.refl _ _, rfl⟩
      · intro a wx c
        have e65 : a.eval (.tmp 65) = .int .u32 ((h : Int) / 64) := c.slot 29 _ (by decide +kernel) rfl
        clear c
        show Oper.wp _ _ _ _ _ _
        unfold Oper.wp
        simp only [execOp, e65]
        go_simp; try go_bits
        exact ⟨_, rfl, Only.refl _ _, small_int (by omega) (by omega)⟩
      · intro a wx c
        obtain ⟨g63, k63, e63, h63⟩ : Asr.holds _ (Asr.blk (fun g => .slice (some ⟨g, 0, none⟩) 3 3) 9 #[.string ⟨#[]⟩, .string ⟨#[101, 110]⟩, .string ⟨#[100, 101]⟩]) (a.eval (.tmp 63)) wx := c.slot 27 _ (by decide +kernel) rfl
        obtain ⟨i66, k66, e66⟩ : (NumLt 3) (a.eval (.tmp 66)) := c.slot 30 _ (by decide +kernel) rfl
        clear c
        show Oper.wp _ _ _ _ _ _
        have hlt : (i66 : Int) < 3 := by omega
        unfold Oper.wp
        simp only [execOp, e63, e66]
        go_simp; try go_bits
        exact ⟨_, rfl, Only.refl _ _, g63, i66, by simpa using k63, k66, rfl, h63⟩
      · intro a wx c
        obtain ⟨g67, i67, k67, n67, e67, h67⟩ : Asr.holds _ (Asr.blki 3 (fun g i => .pointer (some ⟨g, i, none⟩)) 9 #[.string ⟨#[]⟩, .string ⟨#[101, 110]⟩, .string ⟨#[100, 101]⟩]) (a.eval (.tmp 67)) wx := c.slot 31 _ (by decide +kernel) rfl
        clear c
        show Oper.wp _ _ _ _ _ _
        obtain rfl | rfl | rfl : i67 = 0 ∨ i67 = 1 ∨ i67 = 2 := by omega
        · have hc : wx.cell? ⟨g67, 0, none⟩ = some (.string ⟨#[]⟩) := by simp [World.cell?, h67]
          unfold Oper.wp
          simp only [execOp, e67]
          go_simp
          exact ⟨_, rfl, Only.refl _ _, _, by simp, rfl⟩
        · have hc : wx.cell? ⟨g67, 1, none⟩ = some (.string ⟨#[101, 110]⟩) := by simp [World.cell?, h67]
          unfold Oper.wp
          simp only [execOp, e67]
          go_simp
          exact ⟨_, rfl, Only.refl _ _, _, by simp, rfl⟩
        · have hc : wx.cell? ⟨g67, 2, none⟩ = some (.string ⟨#[100, 101]⟩) := by simp [World.cell?, h67]
          unfold Oper.wp
          simp only [execOp, e67]
          go_simp
          exact ⟨_, rfl, Only.refl _ _, _, by simp, rfl⟩
      · intro a wx c
        have hsz := c.only.size
        clear c
        show Oper.wp _ _ _ _ _ _
        unfold Oper.wp
        simp only [execOp]
        go_simp
        exact ⟨_, rfl, Only.of_below ((Below.refl _ _).alloc (Nat.le_refl _) _), _, by simpa using hsz, rfl, heap_alloc_new _ _⟩
      · intro a wx c
        have e11 : a.eval (.tmp 11) = .int .u32 h := c.outE (by decide +kernel) rfl
        clear c
        show Oper.wp _ _ _ _ _ _
        unfold Oper.wp
        simp only [execOp, resolve, e11]
        go_simp; try go_bits
        exact ⟨_, rfl, Only.refl _ _, rfl⟩
      · intro a wx c
        have e70 : a.eval (.tmp 70) = .int .u32 h := c.slot 34 _ (by decide +kernel) rfl
        clear c
        show Oper.wp _ _ _ _ _ _
        unfold Oper.wp
        simp only [execOp, resolve, e70]
        go_simp; try go_bits
        exact ⟨_, rfl, Only.refl _ _, rfl⟩
      · intro a wx c
        have e71 : a.eval (.tmp 71) = .int .u32 ((h : Int) / 256) := c.slot 35 _ (by decide +kernel) rfl
        clear c
        show Oper.wp _ _ _ _ _ _
        unfold Oper.wp
        simp only [execOp, e71]
        go_simp; try go_bits
        exact ⟨_, rfl, Only.refl _ _, small_int (by omega) (by omega)⟩
      · intro a wx c
        obtain ⟨g69, k69, e69, h69⟩ : Asr.holds _ (Asr.blk (fun g => .slice (some ⟨g, 0, none⟩) 3 3) 9 #[.string ⟨#[]⟩, .string ⟨#[97, 32, 98, 46, 109, 51, 117, 56]⟩, .string ⟨#[99, 44, 100, 46, 109, 51, 117, 56]⟩]) (a.eval (.tmp 69)) wx := c.slot 33 _ (by decide +kernel) rfl
        obtain ⟨i72, k72, e72⟩ : (NumLt 3) (a.eval (.tmp 72)) := c.slot 36 _ (by decide +kernel) rfl
        clear c
        show Oper.wp _ _ _ _ _ _
        have hlt : (i72 : Int) < 3 := by omega
        unfold Oper.wp
        simp only [execOp, e69, e72]
        go_simp; try go_bits
        exact ⟨_, rfl, Only.refl _ _, g69, i72, by simpa using k69, k72, rfl, h69⟩
      · intro a wx c
        obtain ⟨g73, i73, k73, n73, e73, h73⟩ : Asr.holds _ (Asr.blki 3 (fun g i => .pointer (some ⟨g, i, none⟩)) 9 #[.string ⟨#[]⟩, .string ⟨#[97, 32, 98, 46, 109, 51, 117, 56]⟩, .string ⟨#[99, 44, 100, 46, 109, 51, 117, 56]⟩]) (a.eval (.tmp 73)) wx := c.slot 37 _ (by decide +kernel) rfl
        clear c
        show Oper.wp _ _ _ _ _ _
        obtain rfl | rfl | rfl : i73 = 0 ∨ i73 = 1 ∨ i73 = 2 := by omega
        · have hc : wx.cell? ⟨g73, 0, none⟩ = some (.string ⟨#[]⟩) := by simp [World.cell?, h73]
          unfold Oper.wp
          simp only [execOp, e73]
          go_simp
          exact ⟨_, rfl, Only.refl _ _, _, by simp, rfl⟩
        · have hc : wx.cell? ⟨g73, 1, none⟩ = some (.string ⟨#[97, 32, 98, 46, 109, 51, 117, 56]⟩) := by simp [World.cell?, h73]
          unfold Oper.wp
          simp only [execOp, e73]
          go_simp
          exact ⟨_, rfl, Only.refl _ _, _, by simp, rfl⟩
        · have hc : wx.cell? ⟨g73, 2, none⟩ = some (.string ⟨#[99, 44, 100, 46, 109, 51, 117, 56]⟩) := by simp [World.cell?, h73]
          unfold Oper.wp
          simp only [execOp, e73]
          go_simp
          exact ⟨_, rfl, Only.refl _ _, _, by simp, rfl⟩
      · intro a wx c
        obtain ⟨s42, k42, e42⟩ : (PickOf [⟨#[65, 85, 68, 73, 79]⟩, ⟨#[86, 73, 68, 69, 79]⟩, ⟨#[83, 85, 66, 84, 73, 84, 76, 69, 83]⟩]) (a.eval (.tmp 42)) := c.slot 6 _ (by decide +kernel) rfl
        obtain ⟨s48, k48, e48⟩ : (PickOf [⟨#[103]⟩, ⟨#[104]⟩]) (a.eval (.tmp 48)) := c.slot 12 _ (by decide +kernel) rfl
        have e52 : a.eval (.tmp 52) = .string (⟨#[110]⟩ ++ dec k) := c.slot 16 _ (by decide +kernel) rfl
        obtain ⟨b56, e56⟩ : (AnyBool) (a.eval (.tmp 56)) := c.slot 20 _ (by decide +kernel) rfl
        obtain ⟨s62, k62, e62⟩ : (PickOf [⟨#[]⟩, ⟨#[89, 69, 83]⟩, ⟨#[78, 79]⟩]) (a.eval (.tmp 62)) := c.slot 26 _ (by decide +kernel) rfl
        obtain ⟨s68, k68, e68⟩ : (PickOf [⟨#[]⟩, ⟨#[101, 110]⟩, ⟨#[100, 101]⟩]) (a.eval (.tmp 68)) := c.slot 32 _ (by decide +kernel) rfl
        obtain ⟨s74, k74, e74⟩ : (PickOf [⟨#[]⟩, ⟨#[97, 32, 98, 46, 109, 51, 117, 56]⟩, ⟨#[99, 44, 100, 46, 109, 51, 117, 56]⟩]) (a.eval (.tmp 74)) := c.slot 38 _ (by decide +kernel) rfl
        clear c
        show Oper.wp _ _ _ _ _ _
        unfold Oper.wp
        simp only [execOp, e42, e48, e52, e56, e62, e68, e74, List.map_toArray, List.map_cons, List.map_nil]
        go_simp
        exact ⟨_, rfl, Only.refl _ _, ⟨s42, s48, ⟨#[110]⟩ ++ dec k, b56, s62, s68, s74⟩, ⟨k42, k48, rfl, k62, k68, k74⟩, rfl⟩
      · intro a wx c
        obtain ⟨y75, k75, e75⟩ : (AtBuilt k) (a.eval (.tmp 75)) := c.slot 39 _ (by decide +kernel) rfl
        have hsz := c.only.size
        clear c
        show Oper.wp _ _ _ _ _ _
        unfold Oper.wp
        simp only [execOp, e75, List.map_toArray, List.map_cons, List.map_nil]
        simp only [At.cells]
        go_simp
        exact ⟨_, rfl, Only.of_below ((Below.refl _ _).alloc (Nat.le_refl _) _), _, y75, by simpa using hsz, k75, rfl, heap_alloc_new _ _⟩
      · intro a wx c
        have e37 : a.eval (.tmp 37) = sA := c.slot 1 _ (by decide +kernel) rfl
        obtain ⟨g76, y76, k76, o76, e76, h76⟩ : (AtLaid k wq.heap.size) (a.eval (.tmp 76)) wx := c.slot 40 _ (by decide +kernel) rfl
        show Oper.wp _ _ _ _ _ _
        have hsz := c.only.size
        have hownx : Own At.list 46 7 wx (w.heap.size + 3) sA As := hM.alts.at_heap fun g hg => c.block g (hM.alts.block_lt g hg).2 (fun e h => by rcases h with ⟨rfl, _⟩ | ⟨rfl, _⟩; exact .inl rfl; exact .inr (by decide +kernel))
        exact og_append Tryd.underlying24 hiA hzA hsA hbA rfl (by decide) (fun _ => rfl) at_one y76 e37 e76 h76 hownx (Nat.le_trans hB3 hsz) (by omega) (by omega) (fun g hg => .inl ⟨rfl, hg⟩) (fun v' w' h1 h2 h3 => ⟨y76, o76, h1, by rcases h3 with h3 | h3; exact .inl h3; exact .inr ⟨_, hsz, h3⟩⟩)
      · intro a wx c
        have e6 : a.eval (.tmp 6) = .pointer (some ⟨w.heap.size + 2, 0, none⟩) := c.outE (by decide +kernel) rfl
        clear c
        show Oper.wp _ _ _ _ _ _
        unfold Oper.wp
        simp only [execOp, resolve, e6]
        go_simp; try go_bits
        exact ⟨_, rfl, Only.refl _ _, rfl⟩
      · intro a wx c
        have e78 : a.eval (.tmp 78) = .pointer (some ⟨w.heap.size + 2, 2, none⟩) := c.slot 42 _ (by decide +kernel) rfl
        obtain ⟨y77, k77, o77, l77⟩ : (AtPut k (w.heap.size + 3) wq.heap.size sA As) (a.eval (.tmp 77)) wx := c.slot 41 _ (by decide +kernel) rfl
        show Oper.wp _ _ _ _ _ _
        have hblk : wx.heap[w.heap.size + 2]? = some (.cells #[.int .i64 ver, .bool ind, sA, .slice none 0 0] 27 (0, 0)) := c.heap hM.mst (fun e h => by rcases h with ⟨rfl, h⟩ | ⟨rfl, _⟩; exact absurd h hAne; exact .inl rfl)
        have hc : wx.cell? ⟨w.heap.size + 2, 2, none⟩ = some sA := by simp [World.cell?, hblk]
        have hf : wx.frozen? ⟨w.heap.size + 2, 2, none⟩ = false := by simp [World.frozen?, hblk]
        have hne77 : ¬ (a.eval (.tmp 77)).ownBlock = some (w.heap.size + 2) := o77.ne_blk hblk (by decide)
        obtain ⟨p, l, cc, hvv⟩ := o77.slice
        rw [hvv] at o77 hne77
        clear c
        unfold Oper.wp
        simp only [execOp, e78, hvv]
        go_simp
        exact ⟨undef, rfl, (Only.of_setCell wx _ _).mono (fun g _ hg => .inr ⟨rfl, hg⟩), y77, _, k77, o77.only (Only.of_setCell wx _ _) (fun g hg h => hne77 (by rw [hg, h])), by rw [heap_setCell_same hblk]; rfl⟩
      · intro a1 w1 c hon
        rw [frame_puts c [36, 37, 38, 39, 40, 41, 42, 43, 44, 45, 46, 47, 48, 49, 50, 51, 52, 53, 54, 55, 56, 57, 58, 59, 60, 61, 62, 63, 64, 65, 66, 67, 68, 69, 70, 71, 72, 73, 74, 75, 76, 77, 78] (by kernel_rfl)]
        simp only [List.foldl_cons, List.foldl_nil]
        go_frame
        obtain ⟨y, v, hy, h1, h2⟩ : AtDone k (w.heap.size + 3) (w.heap.size + 2) ver ind As w1 := c.slot 43 _ rfl
        have hM1 : Ms w A len cap ver ind v (.slice none 0 0) (.slice (some ⟨w.heap.size + 1 + 1 + 1, 0, none⟩) 0 0) (As ++ [y]) [] [] w1 := by
          have hkeep : ∀ g, g < w.heap.size + 2 → w1.heap[g]? = wq.heap[g]? := fun g hg => hon.block g (by omega) (by
            rintro ⟨e, ⟨rfl, h⟩ | ⟨rfl, h⟩⟩
            · have := (hM.alts.block_lt g h).1; omega
            · omega)
          refine ⟨(hkeep _ (by omega)).trans hM.box, (hkeep _ (by omega)).trans hM.res, h2, h1, hM.vars.only hon ?_, hM.frs.only hon ?_, hM.below.trans (hon.below (by omega) ?_)⟩
          · intro g hg; simp [Value.ownBlock] at hg
          · rintro g hg ⟨e, ⟨rfl, h⟩ | ⟨rfl, h⟩⟩
            · exact hM.frs.ne_ hM.alts (by decide) g hg h
            · have := (hM.frs.block_lt g hg).1; omega
          · rintro g hg ⟨e, ⟨rfl, h⟩ | ⟨rfl, h⟩⟩
            · have := (hM.alts.block_lt g h).1; omega
            · omega
        clear c hon h1 h2 hM hAne
        generalize (fun t => a1.tmps.getD t undef) = fr
        go_wp2_with fail
        go_roundg (n / 32 % 5 - (k + 1))
        case measure => omega
        case rel => exact ⟨k + 1, v, As ++ [y], by omega, rfl, by go_num, hM1, by simp [hAl], hAok.snoc hAl hy⟩
    · have hkk : k = n / 32 % 5 := by omega
      go_wp2_with fail
      clear hkk
      go_loopg [7, 84] (n / 256 % 5) (fun g sF i wx => ∃ (k2 : Nat) (sV : Value) (Vs : List Vt) (Fs : List Bool), k2 ≤ n / 256 % 5 ∧ g = n / 256 % 5 - k2 ∧ i = .int .i64 k2 ∧ Ms w A len cap ver ind sA sV sF As Vs Fs wx ∧ Vs.length = k2 ∧ Fs.length = k2 ∧ ∀ v ∈ Vs, VOk v)
      case atStart => exact ⟨0, _, [], [], Nat.zero_le _, rfl, rfl, hM, rfl, rfl, by simp⟩
      case round =>
        obtain ⟨k2, sV, Vs, Fs, hk2, rfl, rfl, hM, hVl, hFl, hVok⟩ := hrel
        by_cases hlt2 : k2 < n / 256 % 5
        · have hbox : wr.cell? ⟨w.heap.size, 0, none⟩ = some (.slice A len cap) := by simp [World.cell?, hM.box]
          have hU : U32s wr A len := hA.below hM.below
          go_wp2_with (go_at_call 9; refine (at_of (k2 + 7) _ ?_ _ A len cap _ ?_ hlen hbox hU).mono ?_; (· go_num); (· omega); rintro e w' ⟨h, n', hh, rfl, rfl⟩)
          clear hbox hU
          have hMq : Ms w A len cap ver ind sA sV u7 As Vs Fs (wr.drewN n') := ⟨hM.box, hM.res, hM.mst, hM.alts, hM.vars, hM.frs, ⟨hM.below.os, hM.below.tape, hM.below.output, hM.below.size, hM.below.block⟩⟩
          clear hM
          generalize wr.drewN n' = wq at *
          have hB3 := hMq.size
          go_cut [14] (fun s14 wx => ∃ (g : Nat) (y : Vt), wq.heap.size ≤ g ∧ s14 = .pointer (some ⟨g, 0, none⟩) ∧ (VOk y ∧ IsUri y.uri) ∧ wx.heap[g]? = some (.cells y.cells 48 (0, 0)) ∧ Below wq.heap.size wq wx)
          case first =>
            rename_i hJ hK
            refine wp_region_og1 (n := 202) 37 [Asr.eq (.int .u32 h), Asr.pure (UriV), Asr.eq (.int .u32 h), Asr.eq (.int .u32 ((h : Int) / 512)), Asr.eq (.int .u32 h), Asr.eq (.func (.func 10) #[] #[]), Asr.eq (.int .u32 h), Asr.eq (.int .u32 ((h : Int) / 8)), Asr.pure (GroupV), Asr.eq (.func (.func 10) #[] #[]), Asr.eq (.int .u32 h), Asr.eq (.int .u32 ((h : Int) / 32)), Asr.pure (GroupV), Asr.eq (.func (.func 10) #[] #[]), Asr.eq (.int .u32 h), Asr.eq (.int .u32 ((h : Int) / 128)), Asr.pure (GroupV), Asr.blk (fun g => .slice (some ⟨g, 0, none⟩) 3 3) 9 #[.string ⟨#[]⟩, .string ⟨#[99, 99]⟩, .string ⟨#[78, 79, 78, 69]⟩], Asr.eq (.int .u32 h), Asr.eq (.int .u32 ((h : Int) / 1024)), Asr.pure (NumLt 3), Asr.blki 3 (fun g i => .pointer (some ⟨g, i, none⟩)) 9 #[.string ⟨#[]⟩, .string ⟨#[99, 99]⟩, .string ⟨#[78, 79, 78, 69]⟩], Asr.pure (PickOf [⟨#[]⟩, ⟨#[99, 99]⟩, ⟨#[78, 79, 78, 69]⟩]), Asr.blk (fun g => .slice (some ⟨g, 0, none⟩) 3 3) 9 #[.string ⟨#[]⟩, .string ⟨#[120]⟩, .string ⟨#[97, 44, 32, 98, 61, 99]⟩], Asr.eq (.int .u32 h), Asr.eq (.int .u32 ((h : Int) / 2048)), Asr.pure (NumLt 3), Asr.blki 3 (fun g i => .pointer (some ⟨g, i, none⟩)) 9 #[.string ⟨#[]⟩, .string ⟨#[120]⟩, .string ⟨#[97, 44, 32, 98, 61, 99]⟩], Asr.pure (PickOf [⟨#[]⟩, ⟨#[120]⟩, ⟨#[97, 44, 32, 98, 61, 99]⟩]), Asr.blk (fun g => .slice (some ⟨g, 0, none⟩) 3 3) 9 #[.string ⟨#[]⟩, .string ⟨#[97, 118, 99, 49, 46, 52, 50, 99, 48, 48, 100]⟩, .string ⟨#[97, 118, 99, 49, 46, 52, 50, 99, 48, 48, 100, 44, 109, 112, 52, 97, 46, 52, 48, 46, 50]⟩], Asr.eq (.int .u32 h), Asr.eq (.int .u32 ((h : Int) / 8192)), Asr.pure (NumLt 3), Asr.blki 3 (fun g i => .pointer (some ⟨g, i, none⟩)) 9 #[.string ⟨#[]⟩, .string ⟨#[97, 118, 99, 49, 46, 52, 50, 99, 48, 48, 100]⟩, .string ⟨#[97, 118, 99, 49, 46, 52, 50, 99, 48, 48, 100, 44, 109, 112, 52, 97, 46, 52, 48, 46, 50]⟩], Asr.pure (PickOf [⟨#[]⟩, ⟨#[97, 118, 99, 49, 46, 52, 50, 99, 48, 48, 100]⟩, ⟨#[97, 118, 99, 49, 46, 52, 50, 99, 48, 48, 100, 44, 109, 112, 52, 97, 46, 52, 48, 46, 50]⟩]), Asr.pure (VtBuilt), Asr.blk (fun g => .pointer (some ⟨g, 0, none⟩)) 48 #[.string ⟨#[]⟩, .int .u32 0, .int .u32 0, .int .u32 0, .string ⟨#[]⟩, .int .u32 0, .int .u32 0, .string ⟨#[]⟩, .string ⟨#[]⟩, .string ⟨#[]⟩, .string ⟨#[]⟩, .string ⟨#[]⟩, .int .i64 0], Asr.wld (fun _ => True)] (by kernel_rfl) (by kernel_rfl) (by kernel_rfl) (by decide) (by kernel_rfl) rfl ⟨fun _ _ _ _ _ _ _ h => h, trivial⟩ ?_ ?_
            · simp only [List.take_succ_cons, List.take_zero]
              refine ⟨?_, ?_, ?_, ?_, ?_, ?_, ?_, ?_, ?_, ?_, ?_, ?_, ?_, ?_, ?_, ?_, ?_, ?_, ?_, ?_, ?_, ?_, ?_, ?_, ?_, ?_, ?_, ?_, ?_, ?_, ?_, ?_, ?_, ?_, ?_, ?_, ?_, trivial⟩
              · intro a wx c
                have e13 : a.eval (.tmp 13) = .int .u32 h := c.outE (by decide +kernel) rfl
                clear c
                show Oper.wp _ _ _ _ _ _
                unfold Oper.wp
                simp only [execOp, resolve, e13]
                go_simp; try go_bits
                exact ⟨_, rfl, Only.refl _ _, rfl⟩
              · intro a wx c
                have e91 : a.eval (.tmp 91) = .int .u32 h := c.slot 0 _ (by decide +kernel) rfl
                clear c
                show Oper.wp _ _ _ _ _ _
                unfold Oper.wp
                simp only [execOp, resolve, List.map_toArray, List.map_cons, List.map_nil, e91]
                go_simp
                refine Calls.mono (uriOf_any h _ hh) ?_
                rintro e w' ⟨s, hs, rfl, rfl⟩
                exact ⟨_, rfl, Only.refl _ _, s, hs, rfl⟩
              · intro a wx c
                have e13 : a.eval (.tmp 13) = .int .u32 h := c.outE (by decide +kernel) rfl
                clear c
                show Oper.wp _ _ _ _ _ _
                unfold Oper.wp
                simp only [execOp, resolve, e13]
                go_simp; try go_bits
                exact ⟨_, rfl, Only.refl _ _, rfl⟩
              · intro a wx c
                have e93 : a.eval (.tmp 93) = .int .u32 h := c.slot 2 _ (by decide +kernel) rfl
                clear c
                show Oper.wp _ _ _ _ _ _
                unfold Oper.wp
                simp only [execOp, resolve, e93]
                go_simp; try go_bits
                exact ⟨_, rfl, Only.refl _ _, rfl⟩
              · intro a wx c
                have e13 : a.eval (.tmp 13) = .int .u32 h := c.outE (by decide +kernel) rfl
                clear c
                show Oper.wp _ _ _ _ _ _
                unfold Oper.wp
                simp only [execOp, resolve, e13]
                go_simp; try go_bits
                exact ⟨_, rfl, Only.refl _ _, rfl⟩
              · intro a wx c
                have e9 : a.eval (.tmp 9) = .func (.func 10) #[] #[] := c.outE (by decide +kernel) rfl
                clear c
                show Oper.wp _ _ _ _ _ _
                unfold Oper.wp
                simp only [execOp, resolve, e9]
                go_simp; try go_bits
                exact ⟨_, rfl, Only.refl _ _, rfl⟩
              · intro a wx c
                have e13 : a.eval (.tmp 13) = .int .u32 h := c.outE (by decide +kernel) rfl
                clear c
                show Oper.wp _ _ _ _ _ _
                unfold Oper.wp
                simp only [execOp, resolve, e13]
                go_simp; try go_bits
                exact ⟨_, rfl, Only.refl _ _, rfl⟩
              · intro a wx c
                have e97 : a.eval (.tmp 97) = .int .u32 h := c.slot 6 _ (by decide +kernel) rfl
                clear c
                show Oper.wp _ _ _ _ _ _
                unfold Oper.wp
                simp only [execOp, resolve, e97]
                go_simp; try go_bits
                exact ⟨_, rfl, Only.refl _ _, rfl⟩
              · intro a wx c
                have e96 : a.eval (.tmp 96) = .func (.func 10) #[] #[] := c.slot 5 _ (by decide +kernel) rfl
                have e98 : a.eval (.tmp 98) = .int .u32 ((h : Int) / 8) := c.slot 7 _ (by decide +kernel) rfl
                clear c
                show Oper.wp _ _ _ _ _ _
                unfold Oper.wp
                simp only [execOp, resolve, List.map_toArray, List.map_cons, List.map_nil, e96, e98]
                go_simp
                refine Calls.mono (group_of (h / 8) _ (by omega) _ (by omega)) ?_
                rintro e w' ⟨s, hs, rfl, hb⟩
                exact ⟨_, rfl, Only.of_below hb, s, hs, rfl⟩
              · intro a wx c
                have e9 : a.eval (.tmp 9) = .func (.func 10) #[] #[] := c.outE (by decide +kernel) rfl
                clear c
                show Oper.wp _ _ _ _ _ _
                unfold Oper.wp
                simp only [execOp, resolve, e9]
                go_simp; try go_bits
                exact ⟨_, rfl, Only.refl _ _, rfl⟩
              · intro a wx c
                have e13 : a.eval (.tmp 13) = .int .u32 h := c.outE (by decide +kernel) rfl
                clear c
                show Oper.wp _ _ _ _ _ _
                unfold Oper.wp
                simp only [execOp, resolve, e13]
                go_simp; try go_bits
                exact ⟨_, rfl, Only.refl _ _, rfl⟩
              · intro a wx c
                have e101 : a.eval (.tmp 101) = .int .u32 h := c.slot 10 _ (by decide +kernel) rfl
                clear c
                show Oper.wp _ _ _ _ _ _
                unfold Oper.wp
                simp only [execOp, resolve, e101]
                go_simp; try go_bits
                exact ⟨_, rfl, Only.refl _ _, rfl⟩
              · intro a wx c
                have e100 : a.eval (.tmp 100) = .func (.func 10) #[] #[] := c.slot 9 _ (by decide +kernel) rfl
                have e102 : a.eval (.tmp 102) = .int .u32 ((h : Int) / 32) := c.slot 11 _ (by decide +kernel) rfl
                clear c
                show Oper.wp _ _ _ _ _ _
                unfold Oper.wp
                simp only [execOp, resolve, List.map_toArray, List.map_cons, List.map_nil, e100, e102]
                go_simp
                refine Calls.mono (group_of (h / 32) _ (by omega) _ (by omega)) ?_
                rintro e w' ⟨s, hs, rfl, hb⟩
                exact ⟨_, rfl, Only.of_below hb, s, hs, rfl⟩
              · intro a wx c
                have e9 : a.eval (.tmp 9) = .func (.func 10) #[] #[] := c.outE (by decide +kernel) rfl
                clear c
                show Oper.wp _ _ _ _ _ _
                unfold Oper.wp
                simp only [execOp, resolve, e9]
                go_simp; try go_bits
                exact ⟨_, rfl, Only.refl _ _, rfl⟩
              · intro a wx c
                have e13 : a.eval (.tmp 13) = .int .u32 h := c.outE (by decide +kernel) rfl
                clear c
                show Oper.wp _ _ _ _ _ _
                unfold Oper.wp
                simp only [execOp, resolve, e13]
                go_simp; try go_bits
                exact ⟨_, rfl, Only.refl _ _, rfl⟩
              · intro a wx c
                have e105 : a.eval (.tmp 105) = .int .u32 h := c.slot 14 _ (by decide +kernel) rfl
                clear c
                show Oper.wp _ _ _ _ _ _
                unfold Oper.wp
                simp only [execOp, resolve, e105]
                go_simp; try go_bits
                exact ⟨_, rfl, Only.refl _ _, rfl⟩
              · intro a wx c
                have e104 : a.eval (.tmp 104) = .func (.func 10) #[] #[] := c.slot 13 _ (by decide +kernel) rfl
                have e106 : a.eval (.tmp 106) = .int .u32 ((h : Int) / 128) := c.slot 15 _ (by decide +kernel) rfl
                clear c
                show Oper.wp _ _ _ _ _ _
                unfold Oper.wp
                simp only [execOp, resolve, List.map_toArray, List.map_cons, List.map_nil, e104, e106]
                go_simp
                refine Calls.mono (group_of (h / 128) _ (by omega) _ (by omega)) ?_
                rintro e w' ⟨s, hs, rfl, hb⟩
                exact ⟨_, rfl, Only.of_below hb, s, hs, rfl⟩
              · intro a wx c
                have hsz := c.only.size
                clear c
                show Oper.wp _ _ _ _ _ _
                unfold Oper.wp
                simp only [execOp]
                go_simp
                exact ⟨_, rfl, Only.of_below ((Below.refl _ _).alloc (Nat.le_refl _) _), _, by simpa using hsz, rfl, heap_alloc_new _ _⟩
              · intro a wx c
                have e13 : a.eval (.tmp 13) = .int .u32 h := c.outE (by decide +kernel) rfl
                clear c
                show Oper.wp _ _ _ _ _ _
                unfold Oper.wp
                simp only [execOp, resolve, e13]
                go_simp; try go_bits
                exact ⟨_, rfl, Only.refl _ _, rfl⟩
              · intro a wx c
                have e109 : a.eval (.tmp 109) = .int .u32 h := c.slot 18 _ (by decide +kernel) rfl
                clear c
                show Oper.wp _ _ _ _ _ _
                unfold Oper.wp
                simp only [execOp, resolve, e109]
                go_simp; try go_bits
                exact ⟨_, rfl, Only.refl _ _, rfl⟩
              · intro a wx c
                have e110 : a.eval (.tmp 110) = .int .u32 ((h : Int) / 1024) := c.slot 19 _ (by decide +kernel) rfl
                clear c
                show Oper.wp _ _ _ _ _ _
                unfold Oper.wp
                simp only [execOp, e110]
                go_simp; try go_bits
                exact ⟨_, rfl, Only.refl _ _, small_int (by omega) (by omega)⟩
              · intro a wx c
                obtain ⟨g108, k108, e108, h108⟩ : Asr.holds _ (Asr.blk (fun g => .slice (some ⟨g, 0, none⟩) 3 3) 9 #[.string ⟨#[]⟩, .string ⟨#[99, 99]⟩, .string ⟨#[78, 79, 78, 69]⟩]) (a.eval (.tmp 108)) wx := c.slot 17 _ (by decide +kernel) rfl
                obtain ⟨i111, k111, e111⟩ : (NumLt 3) (a.eval (.tmp 111)) := c.slot 20 _ (by decide +kernel) rfl
                clear c
                show Oper.wp _ _ _ _ _ _
                have hlt : (i111 : Int) < 3 := by omega
                unfold Oper.wp
                simp only [execOp, e108, e111]
                go_simp; try go_bits
                exact ⟨_, rfl, Only.refl _ _, g108, i111, by simpa using k108, k111, rfl, h108⟩
              · intro a wx c
                obtain ⟨g112, i112, k112, n112, e112, h112⟩ : Asr.holds _ (Asr.blki 3 (fun g i => .pointer (some ⟨g, i, none⟩)) 9 #[.string ⟨#[]⟩, .string ⟨#[99, 99]⟩, .string ⟨#[78, 79, 78, 69]⟩]) (a.eval (.tmp 112)) wx := c.slot 21 _ (by decide +kernel) rfl
                clear c
                show Oper.wp _ _ _ _ _ _
                obtain rfl | rfl | rfl : i112 = 0 ∨ i112 = 1 ∨ i112 = 2 := by omega
                · have hc : wx.cell? ⟨g112, 0, none⟩ = some (.string ⟨#[]⟩) := by simp [World.cell?, h112]
                  unfold Oper.wp
                  simp only [execOp, e112]
                  go_simp
                  exact ⟨_, rfl, Only.refl _ _, _, by simp, rfl⟩
                · have hc : wx.cell? ⟨g112, 1, none⟩ = some (.string ⟨#[99, 99]⟩) := by simp [World.cell?, h112]
                  unfold Oper.wp
                  simp only [execOp, e112]
                  go_simp
                  exact ⟨_, rfl, Only.refl _ _, _, by simp, rfl⟩
                · have hc : wx.cell? ⟨g112, 2, none⟩ = some (.string ⟨#[78, 79, 78, 69]⟩) := by simp [World.cell?, h112]
                  unfold Oper.wp
                  simp only [execOp, e112]
                  go_simp
                  exact ⟨_, rfl, Only.refl _ _, _, by simp, rfl⟩
              · intro a wx c
                have hsz := c.only.size
                clear c
                show Oper.wp _ _ _ _ _ _
                unfold Oper.wp
                simp only [execOp]
                go_simp
                exact ⟨_, rfl, Only.of_below ((Below.refl _ _).alloc (Nat.le_refl _) _), _, by simpa using hsz, rfl, heap_alloc_new _ _⟩
              · intro a wx c
                have e13 : a.eval (.tmp 13) = .int .u32 h := c.outE (by decide +kernel) rfl
                clear c
                show Oper.wp _ _ _ _ _ _
                unfold Oper.wp
                simp only [execOp, resolve, e13]
                go_simp; try go_bits
                exact ⟨_, rfl, Only.refl _ _, rfl⟩
              · intro a wx c
                have e115 : a.eval (.tmp 115) = .int .u32 h := c.slot 24 _ (by decide +kernel) rfl
                clear c
                show Oper.wp _ _ _ _ _ _
                unfold Oper.wp
                simp only [execOp, resolve, e115]
                go_simp; try go_bits
                exact ⟨_, rfl, Only.refl _ _, rfl⟩
              · intro a wx c
                have e116 : a.eval (.tmp 116) = .int .u32 ((h : Int) / 2048) := c.slot 25 _ (by decide +kernel) rfl
                clear c
                show Oper.wp _ _ _ _ _ _
                unfold Oper.wp
                simp only [execOp, e116]
                go_simp; try go_bits
                exact ⟨_, rfl, Only.refl _ _, small_int (by omega) (by omega)⟩
              · intro a wx c
                obtain ⟨g114, k114, e114, h114⟩ : Asr.holds _ (Asr.blk (fun g => .slice (some ⟨g, 0, none⟩) 3 3) 9 #[.string ⟨#[]⟩, .string ⟨#[120]⟩, .string ⟨#[97, 44, 32, 98, 61, 99]⟩]) (a.eval (.tmp 114)) wx := c.slot 23 _ (by decide +kernel) rfl
                obtain ⟨i117, k117, e117⟩ : (NumLt 3) (a.eval (.tmp 117)) := c.slot 26 _ (by decide +kernel) rfl
                clear c
                show Oper.wp _ _ _ _ _ _
                have hlt : (i117 : Int) < 3 := by omega
                unfold Oper.wp
                simp only [execOp, e114, e117]
                go_simp; try go_bits
                exact ⟨_, rfl, Only.refl _ _, g114, i117, by simpa using k114, k117, rfl, h114⟩
              · intro a wx c
                obtain ⟨g118, i118, k118, n118, e118, h118⟩ : Asr.holds _ (Asr.blki 3 (fun g i => .pointer (some ⟨g, i, none⟩)) 9 #[.string ⟨#[]⟩, .string ⟨#[120]⟩, .string ⟨#[97, 44, 32, 98, 61, 99]⟩]) (a.eval (.tmp 118)) wx := c.slot 27 _ (by decide +kernel) rfl
                clear c
                show Oper.wp _ _ _ _ _ _
                obtain rfl | rfl | rfl : i118 = 0 ∨ i118 = 1 ∨ i118 = 2 := by omega
                · have hc : wx.cell? ⟨g118, 0, none⟩ = some (.string ⟨#[]⟩) := by simp [World.cell?, h118]
                  unfold Oper.wp
                  simp only [execOp, e118]
                  go_simp
                  exact ⟨_, rfl, Only.refl _ _, _, by simp, rfl⟩
                · have hc : wx.cell? ⟨g118, 1, none⟩ = some (.string ⟨#[120]⟩) := by simp [World.cell?, h118]
                  unfold Oper.wp
                  simp only [execOp, e118]
                  go_simp
                  exact ⟨_, rfl, Only.refl _ _, _, by simp, rfl⟩
                · have hc : wx.cell? ⟨g118, 2, none⟩ = some (.string ⟨#[97, 44, 32, 98, 61, 99]⟩) := by simp [World.cell?, h118]
                  unfold Oper.wp
                  simp only [execOp, e118]
                  go_simp
                  exact ⟨_, rfl, Only.refl _ _, _, by simp, rfl⟩
              · intro a wx c
                have hsz := c.only.size
                clear c
                show Oper.wp _ _ _ _ _ _
                unfold Oper.wp
                simp only [execOp]
                go_simp
                exact ⟨_, rfl, Only.of_below ((Below.refl _ _).alloc (Nat.le_refl _) _), _, by simpa using hsz, rfl, heap_alloc_new _ _⟩
              · intro a wx c
                have e13 : a.eval (.tmp 13) = .int .u32 h := c.outE (by decide +kernel) rfl
                clear c
                show Oper.wp _ _ _ _ _ _
                unfold Oper.wp
                simp only [execOp, resolve, e13]
                go_simp; try go_bits
                exact ⟨_, rfl, Only.refl _ _, rfl⟩
              · intro a wx c
                have e121 : a.eval (.tmp 121) = .int .u32 h := c.slot 30 _ (by decide +kernel) rfl
                clear c
                show Oper.wp _ _ _ _ _ _
                unfold Oper.wp
                simp only [execOp, resolve, e121]
                go_simp; try go_bits
                exact ⟨_, rfl, Only.refl _ _, rfl⟩
              · intro a wx c
                have e122 : a.eval (.tmp 122) = .int .u32 ((h : Int) / 8192) := c.slot 31 _ (by decide +kernel) rfl
                clear c
                show Oper.wp _ _ _ _ _ _
                unfold Oper.wp
                simp only [execOp, e122]
                go_simp; try go_bits
                exact ⟨_, rfl, Only.refl _ _, small_int (by omega) (by omega)⟩
              · intro a wx c
                obtain ⟨g120, k120, e120, h120⟩ : Asr.holds _ (Asr.blk (fun g => .slice (some ⟨g, 0, none⟩) 3 3) 9 #[.string ⟨#[]⟩, .string ⟨#[97, 118, 99, 49, 46, 52, 50, 99, 48, 48, 100]⟩, .string ⟨#[97, 118, 99, 49, 46, 52, 50, 99, 48, 48, 100, 44, 109, 112, 52, 97, 46, 52, 48, 46, 50]⟩]) (a.eval (.tmp 120)) wx := c.slot 29 _ (by decide +kernel) rfl
                obtain ⟨i123, k123, e123⟩ : (NumLt 3) (a.eval (.tmp 123)) := c.slot 32 _ (by decide +kernel) rfl
                clear c
                show Oper.wp _ _ _ _ _ _
                have hlt : (i123 : Int) < 3 := by omega
                unfold Oper.wp
                simp only [execOp, e120, e123]
                go_simp; try go_bits
                exact ⟨_, rfl, Only.refl _ _, g120, i123, by simpa using k120, k123, rfl, h120⟩
              · intro a wx c
                obtain ⟨g124, i124, k124, n124, e124, h124⟩ : Asr.holds _ (Asr.blki 3 (fun g i => .pointer (some ⟨g, i, none⟩)) 9 #[.string ⟨#[]⟩, .string ⟨#[97, 118, 99, 49, 46, 52, 50, 99, 48, 48, 100]⟩, .string ⟨#[97, 118, 99, 49, 46, 52, 50, 99, 48, 48, 100, 44, 109, 112, 52, 97, 46, 52, 48, 46, 50]⟩]) (a.eval (.tmp 124)) wx := c.slot 33 _ (by decide +kernel) rfl
                clear c
                show Oper.wp _ _ _ _ _ _
                obtain rfl | rfl | rfl : i124 = 0 ∨ i124 = 1 ∨ i124 = 2 := by omega
                · have hc : wx.cell? ⟨g124, 0, none⟩ = some (.string ⟨#[]⟩) := by simp [World.cell?, h124]
                  unfold Oper.wp
                  simp only [execOp, e124]
                  go_simp
                  exact ⟨_, rfl, Only.refl _ _, _, by simp, rfl⟩
                · have hc : wx.cell? ⟨g124, 1, none⟩ = some (.string ⟨#[97, 118, 99, 49, 46, 52, 50, 99, 48, 48, 100]⟩) := by simp [World.cell?, h124]
                  unfold Oper.wp
                  simp only [execOp, e124]
                  go_simp
                  exact ⟨_, rfl, Only.refl _ _, _, by simp, rfl⟩
                · have hc : wx.cell? ⟨g124, 2, none⟩ = some (.string ⟨#[97, 118, 99, 49, 46, 52, 50, 99, 48, 48, 100, 44, 109, 112, 52, 97, 46, 52, 48, 46, 50]⟩) := by simp [World.cell?, h124]
                  unfold Oper.wp
                  simp only [execOp, e124]
                  go_simp
                  exact ⟨_, rfl, Only.refl _ _, _, by simp, rfl⟩
              · intro a wx c
                obtain ⟨s92, k92, e92⟩ : (UriV) (a.eval (.tmp 92)) := c.slot 1 _ (by decide +kernel) rfl
                have e94 : a.eval (.tmp 94) = .int .u32 ((h : Int) / 512) := c.slot 3 _ (by decide +kernel) rfl
                have e95 : a.eval (.tmp 95) = .int .u32 h := c.slot 4 _ (by decide +kernel) rfl
                obtain ⟨s99, k99, e99⟩ : (GroupV) (a.eval (.tmp 99)) := c.slot 8 _ (by decide +kernel) rfl
                obtain ⟨s103, k103, e103⟩ : (GroupV) (a.eval (.tmp 103)) := c.slot 12 _ (by decide +kernel) rfl
                obtain ⟨s107, k107, e107⟩ : (GroupV) (a.eval (.tmp 107)) := c.slot 16 _ (by decide +kernel) rfl
                obtain ⟨s113, k113, e113⟩ : (PickOf [⟨#[]⟩, ⟨#[99, 99]⟩, ⟨#[78, 79, 78, 69]⟩]) (a.eval (.tmp 113)) := c.slot 22 _ (by decide +kernel) rfl
                obtain ⟨s119, k119, e119⟩ : (PickOf [⟨#[]⟩, ⟨#[120]⟩, ⟨#[97, 44, 32, 98, 61, 99]⟩]) (a.eval (.tmp 119)) := c.slot 28 _ (by decide +kernel) rfl
                obtain ⟨s125, k125, e125⟩ : (PickOf [⟨#[]⟩, ⟨#[97, 118, 99, 49, 46, 52, 50, 99, 48, 48, 100]⟩, ⟨#[97, 118, 99, 49, 46, 52, 50, 99, 48, 48, 100, 44, 109, 112, 52, 97, 46, 52, 48, 46, 50]⟩]) (a.eval (.tmp 125)) := c.slot 34 _ (by decide +kernel) rfl
                clear c
                show Oper.wp _ _ _ _ _ _
                unfold Oper.wp
                simp only [execOp, e92, e94, e95, e99, e103, e107, e113, e119, e125, List.map_toArray, List.map_cons, List.map_nil]
                go_simp
                exact ⟨_, rfl, Only.refl _ _, ⟨s92, h / 512, h, 0, s125, 0, 0, s99, s103, s107, s113, s119, 0⟩, vt_first hh k92 k99 k103 k107 k113 k119 k125, by simp [Vt.cells]⟩
              · intro a wx c
                have hsz := c.only.size
                clear c
                show Oper.wp _ _ _ _ _ _
                unfold Oper.wp
                simp only [execOp]
                go_simp
                exact ⟨_, rfl, Only.of_below ((Below.refl _ _).alloc (Nat.le_refl _) _), _, by simpa using hsz, rfl, heap_alloc_new _ _⟩
            · intro a1 w1 c hb
              simp only [List.drop_succ_cons, List.drop_zero]
              obtain ⟨g, hg, e14, hh14⟩ : Asr.holds _ (Asr.blk (fun g => .pointer (some ⟨g, 0, none⟩)) 48 #[.string ⟨#[]⟩, .int .u32 0, .int .u32 0, .int .u32 0, .string ⟨#[]⟩, .int .u32 0, .int .u32 0, .string ⟨#[]⟩, .string ⟨#[]⟩, .string ⟨#[]⟩, .string ⟨#[]⟩, .string ⟨#[]⟩, .int .i64 0]) (a1.tmps.getD 14 undef) w1 := c.slot 36 _ (by decide) rfl
              obtain ⟨y, ⟨hy1, hy2⟩, e126⟩ : VtBuilt (a1.tmps.getD 126 undef) := c.slot 35 _ (by decide) rfl
              refine arm_store_blk 48 Tryd.isAgg48 Tryd.sizeOf48 (g := g) (cs := y.cells) e14 e126 hh14 rfl rfl (fun u hu => vt_one y u (by simpa [Vt.cells, Vt.list] using hu)) ?_
              intro w2 h2 ho2
              refine wpList_nil ?_
              refine hK _ _ (Met.intro (hJ _ _ ?_))
              rw [frame_head c [14, 91, 92, 93, 94, 95, 96, 97, 98, 99, 100, 101, 102, 103, 104, 105, 106, 107, 108, 109, 110, 111, 112, 113, 114, 115, 116, 117, 118, 119, 120, 121, 122, 123, 124, 125, 126] (by kernel_rfl)]
              simp only [List.foldl_cons, List.foldl_nil]
              go_frame
              have hM1 : Below wq.heap.size wq w2 := hb.trans (ho2.below hb.size (fun j hj => by show ¬ j = g; omega))
              repeat apply Exists.intro
              refine ⟨?rel, rfl⟩
              case rel => exact ⟨g, y, hg, e14, ⟨hy1, hy2⟩, h2, hM1⟩
          case rest =>
            obtain ⟨g, y, hg, rfl, ⟨hy1, hyu'⟩, hh, hb⟩ := hcut
            have hyu : true = true → IsUri y.uri := fun _ => hyu'
            have hbit := u32_and1 (x := (h : Int) / 16384) (by omega) (by omega)
            go_upto_if 130 with fail
            go_cut [] (fun wx => VtAt true g wq wx)
            case first =>
              have hc3 : wc.cell? ⟨g, 3, none⟩ = some (.int .u32 y.average) := cell_of_heap hh rfl
              have hf3 : wc.frozen? ⟨g, 3, none⟩ = false := frozen_of_heap hh (v := .int .u32 y.average) rfl
              rcases (show (h : Int) / 16384 % 2 = 1 ∨ (h : Int) / 16384 % 2 ≠ 1 by omega) with hp | hp
              · go_wp2_with fail
                go_meet
                case rel => exact VtAt.put hh hb hg 3 _ ({ y with average := 1 + h / 8 }) ({ hy1 with average := (by show 1 + h / 8 < 4294967296; omega) }) (fun _ => hyu (by simp)) (by simp [Vt.cells])
              · go_wp2_with fail
                go_meet
                case rel => exact ⟨y, hy1, fun _ => hyu (by simp), hh, hb⟩
            try clear hbit
            clear hh hb hy1 hyu
            obtain ⟨y, hy1, hyu, hh, hb⟩ := hcut
            have hbit := u32_and1 (x := (h : Int) / 32768) (by omega) (by omega)
            go_upto_if 138 with fail
            go_cut [] (fun wx => VtAt true g wq wx)
            case first =>
              have hc5 : wc.cell? ⟨g, 5, none⟩ = some (.int .u32 y.width) := cell_of_heap hh rfl
              have hc6 : wc.cell? ⟨g, 6, none⟩ = some (.int .u32 y.height) := cell_of_heap hh rfl
              have hf5 : wc.frozen? ⟨g, 5, none⟩ = false := frozen_of_heap hh (v := .int .u32 y.width) rfl
              have hf6 : wc.frozen? ⟨g, 6, none⟩ = false := frozen_of_heap hh (v := .int .u32 y.height) rfl
              rcases (show (h : Int) / 32768 % 2 = 1 ∨ (h : Int) / 32768 % 2 ≠ 1 by omega) with hp | hp
              · go_wp2_with fail
                go_meet
                case rel => exact VtAt.put2 hh hb hg 5 6 _ _ ({ y with width := 1 + h / 65536 % 4000, height := 1 + h / 1048576 % 3000 }) ({ hy1 with width := (by show 1 + h / 65536 % 4000 ≤ 4000; omega), height := (by show 1 + h / 1048576 % 3000 ≤ 3000; omega) }) (fun _ => hyu (by simp)) (by simp [Vt.cells])
              · go_wp2_with fail
                go_meet
                case rel => exact ⟨y, hy1, fun _ => hyu (by simp), hh, hb⟩
            try clear hbit
            clear hh hb hy1 hyu
            obtain ⟨y, hy1, hyu, hh, hb⟩ := hcut
            have hbit := u32_and1 (x := (h : Int) / 131072) (by omega) (by omega)
            go_upto_if 152 with fail
            go_cut [] (fun wx => VtAt true g wq wx)
            case first =>
              have hc12 : wc.cell? ⟨g, 12, none⟩ = some (.int .i64 y.rate) := cell_of_heap hh rfl
              have hf12 : wc.frozen? ⟨g, 12, none⟩ = false := frozen_of_heap hh (v := .int .i64 y.rate) rfl
              rcases (show (h : Int) / 131072 % 2 = 1 ∨ (h : Int) / 131072 % 2 ≠ 1 by omega) with hp | hp
              · go_wp2_with fail
                go_meet
                case rel => exact VtAt.put hh hb hg 12 _ ({ y with rate := 1 + h / 262144 % 1000 }) ({ hy1 with rate := (by show 1 + h / 262144 % 1000 ≤ 1000; omega) }) (fun _ => hyu (by simp)) (by simp [Vt.cells])
              · go_wp2_with fail
                go_meet
                case rel => exact ⟨y, hy1, fun _ => hyu (by simp), hh, hb⟩
            try clear hbit
            clear hh hb hy1 hyu
            obtain ⟨y, hy1, hyu, hh, hb⟩ := hcut
            have hus := (hyu (by simp)).size
            have hbit := u32_and3 (x := (h : Int) / 524288) (by omega) (by omega)
            go_upto_if 162 with fail
            go_cut [] (fun wx => VtAt false g wq wx)
            case first =>
              have hc0 : wc.cell? ⟨g, 0, none⟩ = some (.string y.uri) := cell_of_heap hh rfl
              have hf0 : wc.frozen? ⟨g, 0, none⟩ = false := frozen_of_heap hh (v := .string y.uri) rfl
              rcases (show (h : Int) / 524288 % 4 = 1 ∨ (h : Int) / 524288 % 4 ≠ 1 by omega) with hp | hp
              · go_wp2_with fail
                go_meet
                case rel => exact VtAt.put hh hb hg 0 _ ({ y with uri := y.uri ++ ⟨#[63, 120, 61, 49]⟩ }) ({ hy1 with uri := (.inr ⟨y.uri, hyu (by simp), rfl⟩) }) (fun h => nomatch h) (by simp [Vt.cells])
              · go_wp2_with fail
                go_meet
                case rel => exact ⟨y, hy1, (fun h => nomatch h), hh, hb⟩
            try clear hbit
            clear hh hb hy1 hyu
            obtain ⟨y, hy1, hyu, hh, hb⟩ := hcut
            have hbit := u32_and3 (x := (h : Int) / 2097152) (by omega) (by omega)
            go_upto_if 171 with fail
            clear hbit
            generalize hbb : ((h : Int) / 2097152 % 4 == 1) = bb
            go_cut [] (fun wx => VtAt false g wq wx)
            case first =>
              have hc0 : wc.cell? ⟨g, 0, none⟩ = some (.string y.uri) := cell_of_heap hh rfl
              have hc1 : wc.cell? ⟨g, 1, none⟩ = some (.int .u32 y.program) := cell_of_heap hh rfl
              have hc2 : wc.cell? ⟨g, 2, none⟩ = some (.int .u32 y.bandwidth) := cell_of_heap hh rfl
              have hc3 : wc.cell? ⟨g, 3, none⟩ = some (.int .u32 y.average) := cell_of_heap hh rfl
              have hc4 : wc.cell? ⟨g, 4, none⟩ = some (.string y.codecs) := cell_of_heap hh rfl
              have hc5 : wc.cell? ⟨g, 5, none⟩ = some (.int .u32 y.width) := cell_of_heap hh rfl
              have hc6 : wc.cell? ⟨g, 6, none⟩ = some (.int .u32 y.height) := cell_of_heap hh rfl
              have hc7 : wc.cell? ⟨g, 7, none⟩ = some (.string y.audio) := cell_of_heap hh rfl
              have hc8 : wc.cell? ⟨g, 8, none⟩ = some (.string y.video) := cell_of_heap hh rfl
              have hc9 : wc.cell? ⟨g, 9, none⟩ = some (.string y.subtitles) := cell_of_heap hh rfl
              have hc10 : wc.cell? ⟨g, 10, none⟩ = some (.string y.captions) := cell_of_heap hh rfl
              have hc11 : wc.cell? ⟨g, 11, none⟩ = some (.string y.name) := cell_of_heap hh rfl
              have hc12 : wc.cell? ⟨g, 12, none⟩ = some (.int .i64 y.rate) := cell_of_heap hh rfl
              have hf0 : wc.frozen? ⟨g, 0, none⟩ = false := frozen_of_heap hh (v := .string y.uri) rfl
              have hf1 : wc.frozen? ⟨g, 1, none⟩ = false := frozen_of_heap hh (v := .int .u32 y.program) rfl
              have hf2 : wc.frozen? ⟨g, 2, none⟩ = false := frozen_of_heap hh (v := .int .u32 y.bandwidth) rfl
              have hf3 : wc.frozen? ⟨g, 3, none⟩ = false := frozen_of_heap hh (v := .int .u32 y.average) rfl
              have hf4 : wc.frozen? ⟨g, 4, none⟩ = false := frozen_of_heap hh (v := .string y.codecs) rfl
              have hf5 : wc.frozen? ⟨g, 5, none⟩ = false := frozen_of_heap hh (v := .int .u32 y.width) rfl
              have hf6 : wc.frozen? ⟨g, 6, none⟩ = false := frozen_of_heap hh (v := .int .u32 y.height) rfl
              have hf7 : wc.frozen? ⟨g, 7, none⟩ = false := frozen_of_heap hh (v := .string y.audio) rfl
              have hf8 : wc.frozen? ⟨g, 8, none⟩ = false := frozen_of_heap hh (v := .string y.video) rfl
              have hf9 : wc.frozen? ⟨g, 9, none⟩ = false := frozen_of_heap hh (v := .string y.subtitles) rfl
              have hf10 : wc.frozen? ⟨g, 10, none⟩ = false := frozen_of_heap hh (v := .string y.captions) rfl
              have hf11 : wc.frozen? ⟨g, 11, none⟩ = false := frozen_of_heap hh (v := .string y.name) rfl
              have hf12 : wc.frozen? ⟨g, 12, none⟩ = false := frozen_of_heap hh (v := .int .i64 y.rate) rfl
              cases bb
              · go_wp2_with fail
                go_meet
                case rel => exact ⟨y, hy1, (fun h => nomatch h), hh, hb⟩
              · go_wp2_with fail
                go_meet
                case rel =>
                  refine ⟨⟨y.uri, y.program, y.bandwidth, y.average, y.codecs, y.width, y.height, ⟨#[]⟩, y.video, ⟨#[]⟩, ⟨#[]⟩, ⟨#[]⟩, 0⟩, hy1.bare', (fun h => nomatch h), ?_⟩
                  show CellsAt g wq _ _
                  refine CellsAt.cast ((CellsAt.put (CellsAt.put (CellsAt.put (CellsAt.put (CellsAt.put (CellsAt.put (CellsAt.put (CellsAt.put (CellsAt.put (CellsAt.put (CellsAt.put (CellsAt.put (CellsAt.put ((show CellsAt g wq wc y.cells from ⟨hh, hb⟩)) hg 0 _) hg 1 _) hg 2 _) hg 3 _) hg 4 _) hg 5 _) hg 6 _) hg 7 _) hg 8 _) hg 9 _) hg 10 _) hg 11 _) hg 12 _)) (by simp [Vt.cells])
            clear hh hb hy1 hyu
            obtain ⟨y, hy1, hyu, hh, hb⟩ := hcut
            have hM := hMq.below' hb
            have hsz := hM.size
            have hVl4 : Vs.length ≤ 4 := by omega
            have hFl4 : Fs.length ≤ 4 := by omega
            go_upto_region 27 with fail
            go_step
            refine round27 (w := w) (g := g) (y := y) (bb := bb) ?_ ?_ ?_ ?_ ?_ hM hh hVl4 hFl4 ?_
            · rfl
            · rfl
            · rfl
            · rfl
            · rfl
            intro w2 v2 v3 w3 hM3
            clear hM hh hb
            go_frame
            go_wp2_with fail
            go_roundg (n / 256 % 5 - (k2 + 1))
            case measure => omega
            case rel => exact ⟨k2 + 1, _, Vs ++ [y], Fs ++ [bb], by omega, rfl, by go_num, hM3, by simp [hVl], by simp [hFl], fun v hv => by rcases List.mem_append.1 hv with hv | hv; exact hVok v hv; rw [List.mem_singleton.1 hv]; exact hy1⟩
        · have hs := hM.size
          have e1 : w.heap.size + 1 < wr.heap.size := by omega
          have hkk2 : k2 = n / 256 % 5 := by omega
          go_upto_region 29 with fail
          go_step
          refine last29 (w := w) ?_ ?_ ?_ ?_ hM ?_
          · rfl
          · rfl
          · rfl
          · rfl
          intro w3 h3 o3
          go_frame
          go_wp2_with fail
          exact bodyPost_ret (ret_master Tryd.isAgg27 Tryd.sizeOf27 rfl rfl rfl h3 rfl) rfl (hM.done hver hAok (by omega) hVok (by omega) (by omega) o3)
end Go.Proofs.YtkddkmiomhadaaaDoor
