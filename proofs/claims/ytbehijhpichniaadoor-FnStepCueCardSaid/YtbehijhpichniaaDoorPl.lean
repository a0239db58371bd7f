/- A media playlist of twelve places that segments are appended to: its blocks. -/
import Derived.Test.YtbehijhpichniaaDoorRows
import Derived.Test.YtbehijhpichniaaDoorGen
namespace Go.Proofs.YtbehijhpichniaaDoor
open Go.RowKit
/-- A cue. -/
structure Cu where
  syn : Nat
  typ : Nat
  cue : ByteArray
  id : ByteArray
  tm : Nat
  el : Nat
/-- A segment's block; its URI, its range, its cue's block and what it holds. -/
structure Sg where
  g : Nat
  uri : ByteArray
  lim : Int
  off : Int
  sc : Option (Nat × Cu)
def Cu.scte (c : Cu) : Array Value := #[.int .u64 c.syn, .int .u64 c.typ, .string c.cue, .string c.id, .float .f64 c.tm, .float .f64 c.el]
def Cu.list (c : Cu) : List Value := [.int .i64 c.syn, .int .i64 c.typ, .string c.cue, .string c.id, .float .f64 c.tm, .float .f64 c.el]
def Sg.ptr (s : Sg) : Value := .pointer (s.sc.map fun p => ⟨p.1, 0, none⟩)
def Sg.cells (s : Sg) (j : Nat) : Array Value := #[.int .u64 j, .string ⟨#[]⟩, .string s.uri, .float .f64 4607182418800017408, .int .i64 s.lim, .int .i64 s.off, .pointer none, .pointer none, .bool false, s.ptr, .string ⟨#[]⟩]
/-- The places: these segments, then none. -/
def slots (L : List Nat) : Array Value := (L.map (fun g => Value.pointer (some ⟨g, 0, none⟩)) ++ List.replicate (12 - L.length) (Value.pointer none)).toArray
/-- A playlist: its block, its places' block. -/
structure Pl where
  P : Nat
  SB : Nat
  tgt : Nat
  ifr : Bool
  ver : Nat
  segs : List Sg
def plc (tgt SB : Nat) (ifr : Bool) (tail count ver : Nat) : Array Value := #[.float .f64 tgt, .int .u64 0, .slice (some ⟨SB, 0, none⟩) 12 12, .string ⟨#[]⟩, .bool ifr, .bool false, .int .u64 0, .int .u64 0, .float .f64 0, .bool false, .bool false, .int .i64 0, .int .u64 0, .int .u64 12, .int .u64 0, .int .u64 tail, .int .u64 count, .slice none 0 0, .int .i64 0, .int .i8 0, .int .u8 ver, .pointer none, .pointer none]
def Pl.cells (s : Pl) : Array Value := plc s.tgt s.SB s.ifr s.segs.length s.segs.length s.ver
structure PlAt (B : Nat) (s : Pl) (w : World) : Prop where
  pl : w.heap[s.P]? = some (.cells s.cells 74 (0, 0))
  sb : w.heap[s.SB]? = some (.cells (slots (s.segs.map Sg.g)) 60 (0, 0))
  seg : ∀ (j : Nat) (h : j < s.segs.length), w.heap[(s.segs[j]'h).g]? = some (.cells ((s.segs[j]'h).cells j) 65 (0, 0))
  sct : ∀ x ∈ s.segs, ∀ g c, x.sc = some (g, c) → B ≤ g ∧ w.heap[g]? = some (.cells c.scte 120 (0, 0))
  nodup : (s.segs.map Sg.g).Nodup
  low : B ≤ s.P ∧ B ≤ s.SB ∧ ∀ x ∈ s.segs, B ≤ x.g
  len : s.segs.length ≤ 11
theorem info_seg : (Tryd.prog.info? 60).map (fun i => (i.zero, i.size, i.bytes)) = some (some (.pointer none), 1, 8) := by kernel_rfl
theorem make12 (w : World) : (Instr.makeSlice 58 (.int .u64 12) (.int .u64 12)).run Tryd.prog w = .ok (.slice (some ⟨w.heap.size, 0, none⟩) 12 12) (w.alloc (.cells (slots []) 60 (0, 0))) := by
  obtain ⟨i, hi, hz, hs, hb⟩ := info_parts info_seg
  have h := run_makeSlice (P := Tryd.prog) w 58 60 i _ Tryd.underlying58 hi hz
    .u64 .u64 12 12 (by decide) (by decide) (by rw [hs]; decide) (by rw [hb]; decide) (by decide)
  rw [h, hs, show Int.toNat 12 * 1 = 12 from rfl, show madeCells (Value.pointer none).cells 12 = slots [] by kernel_rfl]
  rfl
/-- A store of a float (the walk's set lacks it). -/
theorem store_f (a : Addr) (n : Nat) (w : World) : (store a (.float .f64 n)).run Tryd.prog w = stored Tryd.prog w a (.float .f64 n) .plain := run_store Tryd.prog w a _ _ rfl
theorem setWin_any (w : World) (g : Nat) (hc : w.cell? ⟨g, 13, none⟩ = some (.int .u64 12)) (h0 : w.cell? ⟨g, 12, none⟩ = some (.int .u64 0)) (hf : w.frozen? ⟨g, 12, none⟩ = false) : Calls Tryd.prog 13 #[.pointer (some ⟨g, 0, none⟩), .int .u64 0] w (fun e w' => e = .returned .nilIface ∧ w' = w.setCell ⟨g, 12, none⟩ (.int .u64 0)) := by
  go_enter Tryd.func13, Tryd.ntmps13
  go_wp2
  go_ret
  exact ⟨rfl, rfl⟩
def newPl (w : World) : Pl := ⟨w.heap.size, w.heap.size + 1, 0, false, 3, []⟩
set_option maxRecDepth 100000 in
set_option maxHeartbeats 4000000 in
theorem new_any (w : World) : Calls Tryd.prog 9 #[.int .u64 0, .int .u64 12] w (fun e w' => e = .returned (.tuple #[.pointer (some ⟨w.heap.size, 0, none⟩), .nilIface]) ∧ PlAt w.heap.size (newPl w) w' ∧ Below w.heap.size w w') := by
  have hmk := make12
  go_enter Tryd.func9, Tryd.ntmps9
  go_wp2_with (go_at_call 13; refine (setWin_any _ _ ?_ ?_ ?_).mono ?_; (· go_simp); (· go_simp); (· go_simp); rintro e w1 ⟨rfl, rfl⟩)
  refine bodyPost_ret (ret_two rfl rfl rfl) rfl ?_
  refine ⟨rfl, ?_, ((Below.refl _ _).alloc (Nat.le_refl _) _).alloc (by simp) _⟩
  refine ⟨?_, ?_, ?_, ?_, ?_, ?_, ?_⟩
  · exact (Below.heap_alloc _ _ _ (by simp [newPl])).trans (heap_alloc_new _ _)
  · exact (congrArg (fun n => (World.alloc _ _).heap[n]?) (by simp [newPl])).trans (heap_alloc_new _ _)
  · intro j h; simp [newPl] at h
  · intro x hx; simp [newPl] at hx
  · simp [newPl]
  · exact ⟨Nat.le_refl _, Nat.le_succ _, by simp [newPl]⟩
  · simp [newPl]
theorem run_ceil (w : World) : (callFunc 49 #[.float .f64 4607182418800017408]).run Tryd.prog w = .ok (.value (.float .f64 4607182418800017408)) w := by
  rw [run_callFunc_extern Tryd.func49 (by kernel_rfl) (by kernel_rfl) (by kernel_rfl) (e := Go.Extern.MathFloor.toIntegral "math.archCeil" .up) (by kernel_rfl)]
  kernel_rfl
set_option maxRecDepth 100000 in
theorem ceil_one (w : World) : Calls Tryd.prog 40 #[.float .f64 4607182418800017408] w (fun e w' => e = .returned (.float .f64 4607182418800017408) ∧ w' = w) := by
  have hc := run_ceil
  go_enter Tryd.func40, Tryd.ntmps40
  go_wp2
  go_ret
  exact ⟨rfl, rfl⟩
theorem version_any (w : World) (g ver : Nat) (hv : ver < 256) (hc : w.cell? ⟨g, 20, none⟩ = some (.int .u8 ver)) (hf : w.frozen? ⟨g, 20, none⟩ = false) :
    Calls Tryd.prog 45 #[.pointer (some ⟨g, 20, none⟩), .int .u8 4] w (fun e w' => e = .returned (.tuple #[]) ∧ w' = if ver < 4 then w.setCell ⟨g, 20, none⟩ (.int .u8 4) else w) := by
  by_cases h : ver < 4
  · rw [if_pos h]
    go_enter Tryd.func45, Tryd.ntmps45
    go_wp2
    go_end0
    exact ⟨rfl, rfl⟩
  · rw [if_neg h]
    go_enter Tryd.func45, Tryd.ntmps45
    go_wp2
    go_end0
    exact ⟨rfl, rfl⟩
theorem last_any (w : World) (g c : Nat) (hc0 : c < 13) (hcap : w.cell? ⟨g, 13, none⟩ = some (.int .u64 12)) (hc : w.cell? ⟨g, 15, none⟩ = some (.int .u64 ((c + 1 : Nat) : Int))) :
    Calls Tryd.prog 46 #[.pointer (some ⟨g, 0, none⟩)] w (fun e w' => e = .returned (.int .u64 c) ∧ w' = w) := by
  go_enter Tryd.func46, Tryd.ntmps46
  go_wp2
  go_ret
  exact ⟨rfl, rfl⟩
theorem reset_any (w : World) (g : Nat) (h0 : w.cell? ⟨g, 17, none⟩ = some (.slice none 0 0)) (h1 : w.cell? ⟨g, 18, none⟩ = some (.int .i64 0)) (h2 : w.cell? ⟨g, 19, none⟩ = some (.int .i8 0)) (f0 : w.frozen? ⟨g, 17, none⟩ = false) (f1 : w.frozen? ⟨g, 18, none⟩ = false) (f2 : w.frozen? ⟨g, 19, none⟩ = false) :
    Calls Tryd.prog 41 #[.pointer (some ⟨g, 17, none⟩)] w (fun e w' => e = .returned (.tuple #[]) ∧ w' = ((w.setCell ⟨g, 17, none⟩ (.slice none 0 0)).setCell ⟨g, 18, none⟩ (.int .i64 0)).setCell ⟨g, 19, none⟩ (.int .i8 0)) := by
  go_enter Tryd.func41, Tryd.ntmps41
  go_wp2
  go_end0
  exact ⟨rfl, rfl⟩
end Go.Proofs.YtbehijhpichniaaDoor
