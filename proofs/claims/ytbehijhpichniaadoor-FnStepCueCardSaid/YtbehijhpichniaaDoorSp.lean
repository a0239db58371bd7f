/- A step, whichever of the four kinds. -/
import Derived.Test.YtbehijhpichniaaDoorStep
namespace Go.Proofs.YtbehijhpichniaaDoor
open Go.RowKit
inductive Sp where
  | app (uri : ByteArray)
  | cue
  | rng (l o : Int)
  | ifr
def Sp.isApp : Sp → Bool
  | .app _ => true
  | _ => false
/-- A step's cells; q: the cue's block. -/
def Sp.cells (q : Nat) : Sp → Array Value
  | .app uri => stepv 0 one uri 0 0 (.slice none 0 0)
  | .cue => stepv 8 0 ⟨#[]⟩ 0 0 (.slice (some ⟨q, 0, none⟩) 1 1)
  | .rng l o => stepv 7 0 ⟨#[]⟩ l o (.slice none 0 0)
  | .ifr => stepv 13 0 ⟨#[]⟩ 0 0 (.slice none 0 0)
def Sp.list (q : Nat) (t : Sp) : List Value := (t.cells q).toList
theorem sp_len (q : Nat) (t : Sp) : (t.list q).length = 13 := by cases t <;> rfl
theorem sp_one (q : Nat) : ∀ (t : Sp), ∀ u ∈ t.list q, u.oneCell' = true := by
  intro t u hu
  cases t <;>
  · simp only [Sp.list, Sp.cells, stepv, List.mem_cons, List.not_mem_nil, or_false] at hu
    rcases hu with rfl | rfl | rfl | rfl | rfl | rfl | rfl | rfl | rfl | rfl | rfl | rfl | rfl <;> rfl
/-- What a step does to a playlist, and whether it told no error. -/
def Sp.rel (cu : Cu) : Sp → Pl → Pl → Bool → Prop
  | .app uri, s, s', r => r = true ∧ ∃ g, s' = ⟨s.P, s.SB, one, s.ifr, s.ver, s.segs ++ [⟨g, uri, 0, 0, none⟩]⟩
  | .cue, s, s', r => r = !s.segs.isEmpty ∧ ((s.segs = [] ∧ s' = s) ∨ ∃ L x k, s.segs = L ++ [x] ∧ s' = ⟨s.P, s.SB, s.tgt, s.ifr, s.ver, L ++ [⟨x.g, x.uri, x.lim, x.off, some (k, cu)⟩]⟩)
  | .rng l o, s, s', r => r = !s.segs.isEmpty ∧ ((s.segs = [] ∧ s' = s) ∨ ∃ L x, s.segs = L ++ [x] ∧ s' = ⟨s.P, s.SB, s.tgt, s.ifr, max s.ver 4, L ++ [⟨x.g, x.uri, l, o, x.sc⟩]⟩)
  | .ifr, s, s', r => r = true ∧ s' = ⟨s.P, s.SB, s.tgt, true, max s.ver 4, s.segs⟩
structure PlInv (cu : Cu) (n : Nat) (s : Pl) : Prop where
  tgt : s.tgt = 0 ∨ s.tgt = one
  ver : s.ver < 256
  len : s.segs.length = n
  sc : ∀ x ∈ s.segs, ∀ k c, x.sc = some (k, c) → c = cu
theorem PlInv.step {cu : Cu} {n : Nat} {s s' : Pl} {r : Bool} {t : Sp} (h : PlInv cu n s) (hr : t.rel cu s s' r) : PlInv cu (if t.isApp then n + 1 else n) s' := by
  cases t with
  | app uri =>
    obtain ⟨_, g, rfl⟩ := hr
    refine ⟨.inr rfl, h.ver, by simp [Sp.isApp, h.len], fun x hx k c e => ?_⟩
    rcases List.mem_append.1 hx with hx | hx
    · exact h.sc x hx k c e
    · rw [List.mem_singleton.1 hx] at e; cases e
  | cue =>
    obtain ⟨_, ⟨_, rfl⟩ | ⟨L, x, k, hs, rfl⟩⟩ := hr
    · exact h
    · have hl := h.len
      rw [hs] at hl
      refine ⟨h.tgt, h.ver, by simpa [Sp.isApp] using hl, fun y hy k' c e => ?_⟩
      rcases List.mem_append.1 hy with hy | hy
      · exact h.sc y (by rw [hs]; simp [hy]) k' c e
      · rw [List.mem_singleton.1 hy] at e; cases e; rfl
  | rng l o =>
    obtain ⟨_, ⟨_, rfl⟩ | ⟨L, x, hs, rfl⟩⟩ := hr
    · exact h
    · have hl := h.len
      have hv := h.ver
      rw [hs] at hl
      refine ⟨h.tgt, by dsimp only; omega, by simpa [Sp.isApp] using hl, fun y hy k' c e => ?_⟩
      rcases List.mem_append.1 hy with hy | hy
      · exact h.sc y (by rw [hs]; simp [hy]) k' c e
      · rw [List.mem_singleton.1 hy] at e; exact h.sc x (by rw [hs]; simp) k' c e
  | ifr =>
    obtain ⟨_, rfl⟩ := hr
    have hv := h.ver
    exact ⟨h.tgt, by dsimp only; omega, h.len, h.sc⟩
theorem step_any (B : Nat) (s : Pl) (t : Sp) (cu : Cu) (q : Nat) (w : World) (n : Nat) (h : PlAt B s w) (hB : B ≤ w.heap.size) (hi : PlInv cu n s) (hn : t.isApp = true → n ≤ 10) (hq : w.heap[q]? = some (.cells cu.list.toArray 46 (0, 0))) (hs : cu.syn < 100 ∧ cu.typ < 100) :
    Calls Tryd.prog 10 #[.pointer (some ⟨s.P, 0, none⟩), .agg (t.cells q)] w (fun e w' => ∃ r s', e = .returned (.tuple #[.bool r, .bool true]) ∧ t.rel cu s s' r ∧ PlAt B s' w' ∧ Only (InPl s) w w') := by
  cases t with
  | app uri =>
    refine (step0 B s uri w h hB (by rw [hi.len]; exact hn rfl) hi.tgt).mono ?_
    rintro e w' ⟨rfl, s', h1, h2, h3⟩
    exact ⟨_, s', rfl, ⟨rfl, h2⟩, h1, h3⟩
  | cue =>
    refine (step8 B s cu q w h hB hq hs).mono ?_
    rintro e w' ⟨rfl, s', h1, h2, h3⟩
    exact ⟨_, s', rfl, ⟨rfl, h2⟩, h1, h3⟩
  | rng l o =>
    refine (step7 B s l o w h hB hi.ver).mono ?_
    rintro e w' ⟨rfl, s', h1, h2, h3⟩
    exact ⟨_, s', rfl, ⟨rfl, h2⟩, h1, h3⟩
  | ifr =>
    refine (step13 B s w h hB hi.ver).mono ?_
    rintro e w' ⟨rfl, s', h1, h2, h3⟩
    exact ⟨_, s', rfl, ⟨rfl, h2⟩, h1, h3⟩
/-- Steps, one behind the other. -/
inductive Run (cu : Cu) (s0 : Pl) : List Sp → Pl → List Bool → Prop
  | nil : Run cu s0 [] s0 []
  | snoc {l : List Sp} {s s' : Pl} {rs : List Bool} {t : Sp} {r : Bool} (h : Run cu s0 l s rs) (hr : t.rel cu s s' r) : Run cu s0 (l ++ [t]) s' (rs ++ [r])
theorem Run.inv {cu : Cu} {s0 : Pl} (h0 : PlInv cu 0 s0) {l : List Sp} {s : Pl} {rs : List Bool} (h : Run cu s0 l s rs) : PlInv cu (l.countP Sp.isApp) s := by
  induction h with
  | nil => exact h0
  | snoc h hr ih =>
    rw [List.countP_append]
    have := ih.step hr
    rename_i t r
    cases ht : t.isApp <;> simp [ht] at this ⊢ <;> exact this
theorem Run.len {cu : Cu} {s0 : Pl} {l : List Sp} {s : Pl} {rs : List Bool} (h : Run cu s0 l s rs) : rs.length = l.length := by
  induction h with
  | nil => rfl
  | snoc h hr ih => simp [ih]
end Go.Proofs.YtbehijhpichniaaDoor
