/- A whole struct loaded from a slice of the call's own. -/
import Derived.Test.YtbehijhpichniaaDcd
import Derived.Test.YtbehijhpichniaaBlk
namespace Go.Proofs.Ytbehijhpichniaa
open Go.RowKit
section
variable {P : Program} {ops : Array Oper} {rest : List Oper} {a : Act} {w : World} {Q : Exit → Act → World → Prop} {dst : Option Tmp} {ty : TypeId} {pos : String} {after : Array Edge}
theorem run_load_at (t : TypeId) (hagg : ∀ w, (isAgg t).run P w = .ok true w) {k : Nat} (hk : ∀ w, (sizeOf t).run P w = .ok k w) {g o : Nat} {cs : List Value} (hc : ∀ j v, cs[j]? = some v → w.cell? ⟨g, o + j, none⟩ = some v) (hsz : cs.length = k) :
    (loadVar t ⟨g, o, none⟩).run P w = .ok (.agg cs.toArray) w := by
  have := run_loadCells_list (P := P) (w := w) ⟨g, o, none⟩ cs (fun j v hj => by
    have : (⟨g, o, none⟩ : Addr).add j = ⟨g, o + j, none⟩ := by unfold Addr.add; split <;> simp_all
    rw [this]
    exact hc j v hj)
  simp only [hsz] at this
  simp [loadVar, hagg, hk, this]
/-- 's[i]', a struct: the slice is the call's own. -/
theorem arm_load_own {α : Type} {f : α → List Value} (t : TypeId) (hagg : ∀ w, (isAgg t).run P w = .ok true w) {k : Nat} (hk : ∀ w, (sizeOf t).run P w = .ok k w) (hf : ∀ x, (f x).length = k) (hk0 : 0 < k) {x : Operand} {e : TypeId} {B g cap i : Nat} {L : List α} (h : Own f e k w B (.slice (some ⟨g, 0, none⟩) L.length cap) L) (hi : i < L.length)
    (hx : a.eval x = .pointer (some ⟨g, i * k, none⟩)) (hK : wpList P ops Q rest (a.put dst (.agg (f (L[i]'hi)).toArray)) w) : wpList P ops Q ({ dst := dst, op := Op.load t x, type := ty, pos := pos, after := after, guard := none } :: rest) a w := by
  refine wpList_plain rfl fun K hK' => ?_
  have hr := run_load_at (P := P) (w := w) t hagg hk (g := g) (o := i * k) (cs := f (L[i]'hi)) (fun j v hj => by
    have hjk : j < k := by
      have := (List.getElem?_eq_some_iff.1 hj).1
      rw [hf] at this
      exact this
    rw [h.cells_at hf hk0 hi hjk, hj]) (hf _)
  unfold Oper.wp
  simp [execOp, hx, Instr.loadAt, Instr.sureAddr, hr]
  exact hK' _ _ hK
end
theorem Own.shape {α : Type} {f : α → List Value} {e : TypeId} {k : Nat} {w : World} {B : Nat} {v : Value} {L : List α} (h : Own f e k w B v L) : ∃ (A : Option Addr) (cap : Nat), v = .slice A L.length cap ∧ (L ≠ [] → ∃ g, A = some ⟨g, 0, none⟩) := by
  rcases h.2 with ⟨rfl, h0⟩ | ⟨g, cap, cur, rfl, _⟩
  · refine ⟨none, 0, by rw [h0], fun hne => absurd (List.eq_nil_of_length_eq_zero h0) hne⟩
  · exact ⟨_, cap, rfl, fun _ => ⟨g, rfl⟩⟩
end Go.Proofs.Ytbehijhpichniaa
