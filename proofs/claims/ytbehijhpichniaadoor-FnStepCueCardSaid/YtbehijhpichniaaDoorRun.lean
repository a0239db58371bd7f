/- What the steps of laws.FnStepCue come to, in plain Lean. -/
import Derived.Test.YtbehijhpichniaaDoorStps
import Derived.Test.YtbehijhpichniaaDoorCuo
namespace Go.Proofs.YtbehijhpichniaaDoor
open Go.RowKit
theorem Run.last {cu : Cu} {s0 s' : Pl} {l : List Sp} {t : Sp} {rs' : List Bool} (h : Run cu s0 (l ++ [t]) s' rs') : ∃ s rs r, Run cu s0 l s rs ∧ t.rel cu s s' r ∧ rs' = rs ++ [r] := by
  generalize hl : l ++ [t] = l' at h
  cases h with
  | nil => simp at hl
  | snoc h hr =>
    obtain ⟨h1, h2⟩ := List.append_inj' hl rfl
    subst h1
    cases h2
    exact ⟨_, _, _, h, hr, rfl⟩
theorem Run.empty {cu : Cu} {s0 s : Pl} {rs : List Bool} (h : Run cu s0 [] s rs) : s = s0 ∧ rs = [] := by
  generalize hl : ([] : List Sp) = l' at h
  cases h with
  | nil => exact ⟨rfl, rfl⟩
  | snoc h hr => simp at hl
/-- The steps that append. -/
def apps (k : Nat) : List Sp := (List.range k).map fun j => Sp.app (⟨#[97]⟩ ++ dec j)
theorem apps_succ (k : Nat) : apps (k + 1) = apps k ++ [Sp.app (⟨#[97]⟩ ++ dec k)] := by simp [apps, List.range_succ]
theorem apps_len (k : Nat) : (apps k).length = k := by simp [apps]
theorem apps_run {cu : Cu} {s0 : Pl} (h0 : s0.segs = []) : ∀ (k : Nat) {s : Pl} {rs : List Bool}, Run cu s0 (apps k) s rs → s.segs.length = k ∧ (∀ x ∈ s.segs, x.sc = none) ∧ s.ver = s0.ver ∧ rs = List.replicate k true
  | 0, s, rs, h => by
    obtain ⟨rfl, rfl⟩ := h.empty
    exact ⟨by rw [h0]; rfl, by rw [h0]; simp, rfl, rfl⟩
  | k + 1, s, rs, h => by
    rw [apps_succ] at h
    obtain ⟨s1, rs1, r, h1, h2, rfl⟩ := h.last
    obtain ⟨e1, e2, e3, rfl⟩ := apps_run h0 k h1
    obtain ⟨rfl, g, rfl⟩ := h2
    refine ⟨by simp [e1], fun x hx => ?_, e3, by rw [List.replicate_succ']⟩
    rcases List.mem_append.1 hx with hx | hx
    · exact e2 x hx
    · rw [List.mem_singleton.1 hx]
/-- All the steps. -/
def allSteps (k : Nat) (o : Int) : List Sp := apps k ++ [Sp.cue] ++ [Sp.rng 5 o]
theorem all_len (k : Nat) (o : Int) : (allSteps k o).length = k + 2 := by simp [allSteps, apps_len]
theorem all_apps (k : Nat) (o : Int) : (allSteps k o).countP Sp.isApp = k := by
  have : ∀ k, (apps k).countP Sp.isApp = k := by
    intro k
    induction k with
    | zero => rfl
    | succ k ih => rw [apps_succ, List.countP_append, ih]; rfl
  simp [allSteps, List.countP_append, this, Sp.isApp]
theorem all_run0 {cu : Cu} {s0 s : Pl} {o : Int} {rs : List Bool} (h0 : s0.segs = []) (h : Run cu s0 (allSteps 0 o) s rs) : s.segs = [] ∧ rs = [false, false] := by
  obtain ⟨s2, rs2, r2, h2, hr2, rfl⟩ := h.last
  obtain ⟨s1, rs1, r1, h1, hr1, rfl⟩ := h2.last
  obtain ⟨e1, _, _, rfl⟩ := apps_run h0 0 h1
  have e1 : s1.segs = [] := List.eq_nil_of_length_eq_zero e1
  obtain ⟨rfl, ⟨_, rfl⟩ | ⟨L, x, k, hs, _⟩⟩ := hr1
  · obtain ⟨rfl, ⟨_, rfl⟩ | ⟨L, x, hs, _⟩⟩ := hr2
    · exact ⟨e1, by rw [e1]; rfl⟩
    · rw [e1] at hs; simp at hs
  · rw [e1] at hs; simp at hs
theorem all_run1 {cu : Cu} {s0 s : Pl} {o : Int} {rs : List Bool} {d : Nat} (h0 : s0.segs = []) (hv : s0.ver = 3) (h : Run cu s0 (allSteps (d + 1) o) s rs) : s.segs.length = d + 1 ∧ rs = List.replicate (d + 1) true ++ [true, true] ∧ s.ver = 4 ∧ ∃ L x k, s.segs = L ++ [x] ∧ L.length = d ∧ (∀ y ∈ L, y.sc = none) ∧ x.lim = 5 ∧ x.off = o ∧ x.sc = some (k, cu) := by
  obtain ⟨s2, rs2, r2, h2, hr2, rfl⟩ := h.last
  obtain ⟨s1, rs1, r1, h1, hr1, rfl⟩ := h2.last
  obtain ⟨e1, e2, e3, rfl⟩ := apps_run h0 (d + 1) h1
  obtain ⟨rfl, ⟨hs, _⟩ | ⟨L, x, k, hs, rfl⟩⟩ := hr1
  · rw [hs] at e1; simp at e1
  · have hL : L.length = d := by rw [hs] at e1; simpa using e1
    obtain ⟨rfl, ⟨hs2, _⟩ | ⟨L2, x2, hs2, rfl⟩⟩ := hr2
    · simp at hs2
    · dsimp only at hs2 ⊢
      obtain ⟨h5, h6⟩ := List.append_inj' hs2 rfl
      subst h5
      obtain rfl := (List.cons.inj h6).1
      refine ⟨by simp [hL], ?_, by rw [e3, hv]; rfl, L, _, k, rfl, hL, fun y hy => e2 y (by rw [hs]; simp [hy]), rfl, rfl, rfl⟩
      rw [hs]
      simp
theorem ifr_run {cu : Cu} {s0 s : Pl} {rs : List Bool} (h0 : s0.segs = []) (hv : s0.ver = 3) (h : Run cu s0 [Sp.ifr] s rs) : s.segs = [] ∧ s.ifr = true ∧ s.ver = 4 := by
  obtain ⟨s1, rs1, r1, h1, hr1, rfl⟩ := Run.last (l := []) h
  obtain ⟨rfl, rfl⟩ := h1.empty
  obtain ⟨rfl, rfl⟩ := hr1
  exact ⟨h0, rfl, by dsimp only; rw [hv]; rfl⟩
theorem Own.congr {α : Type} {f f' : α → List Value} {e : TypeId} {k : Nat} {w : World} {B : Nat} {v : Value} {L : List α} (h : Own f e k w B v L) (hf : ∀ x ∈ L, f x = f' x) : Own f' e k w B v L := by
  unfold Own at h ⊢
  have : flat f L = flat f' L := by unfold flat; rw [List.map_congr_left hf]
  rw [← this]
  exact h
theorem Bools.cell {w : World} {B g cap i : Nat} {L : List Bool} {b : Bool} (h : Bools w B (.slice (some ⟨g, 0, none⟩) L.length cap) L) (hb : L[i]? = some b) : w.cell? ⟨g, i, none⟩ = some (.bool b) := by
  obtain ⟨hi, rfl⟩ := List.getElem?_eq_some_iff.1 hb
  have := Own.cells_at (k := 1) (fun _ => rfl) (by decide) (i := i) (j := 0) h hi (by decide)
  simpa using this
theorem rep_at (d i : Nat) (h : i < 2) : (List.replicate (d + 1) true ++ [true, true])[d + 1 + i]? = some true := by
  rw [List.getElem?_append_right (by simp)]
  have : i = 0 ∨ i = 1 := by omega
  rcases this with rfl | rfl <;> simp
theorem info_step : (Tryd.prog.info? 33).map (fun i => (i.zero, i.size, i.bytes)) = some (some (.agg #[.int .i64 0, .int .u64 0, .string ⟨#[]⟩, .string ⟨#[]⟩, .float .f64 0, .int .i64 0, .int .i64 0, .slice none 0 0, .slice none 0 0, .slice none 0 0, .bool false, .string ⟨#[]⟩, .int .i64 0]), 13, 176) := by kernel_rfl
end Go.Proofs.YtbehijhpichniaaDoor
