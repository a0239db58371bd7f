/- Arms for the walk: a whole struct loaded from a block that is known, or stored into it. -/
import Derived.Test.YtkddkmiomhadaaaDoorM2
namespace Go.Proofs.YtkddkmiomhadaaaDoor
open Go.RowKit
section
variable {P : Program} {ops : Array Oper} {rest : List Oper} {a : Act} {w : World} {Q : Exit → Act → World → Prop} {dst : Option Tmp} {ty : TypeId} {pos : String} {after : Array Edge}
theorem run_load_blk (t : TypeId) (hagg : ∀ w, (isAgg t).run P w = .ok true w) {k : Nat} (hk : ∀ w, (sizeOf t).run P w = .ok k w) {g : Nat} {cs : Array Value} {e : TypeId} {fr : Nat × Nat} (hg : w.heap[g]? = some (.cells cs e fr)) (hsz : cs.size = k) :
    (loadVar t ⟨g, 0, none⟩).run P w = .ok (.agg cs) w := by
  have := run_loadCells_list (P := P) (w := w) ⟨g, 0, none⟩ cs.toList (fun j v hj => by
    have : (⟨g, 0, none⟩ : Addr).add j = ⟨g, j, none⟩ := by unfold Addr.add; split <;> simp_all
    rw [this]
    simp only [World.cell?, hg]
    simpa using hj)
  simp only [Array.length_toList, hsz] at this
  simp [loadVar, hagg, hk, this]
theorem arm_load_blk (t : TypeId) (hagg : ∀ w, (isAgg t).run P w = .ok true w) {k : Nat} (hk : ∀ w, (sizeOf t).run P w = .ok k w) {x : Operand} {g : Nat} {cs : Array Value} {e : TypeId} {fr : Nat × Nat} (hx : a.eval x = .pointer (some ⟨g, 0, none⟩)) (hg : w.heap[g]? = some (.cells cs e fr)) (hsz : cs.size = k)
    (hK : wpList P ops Q rest (a.put dst (.agg cs)) w) : wpList P ops Q ({ dst := dst, op := Op.load t x, type := ty, pos := pos, after := after, guard := none } :: rest) a w := by
  refine wpList_plain rfl fun K hK' => ?_
  have hr := run_load_blk (P := P) (w := w) t hagg hk hg hsz
  unfold Oper.wp
  simp [execOp, hx, Instr.loadAt, Instr.sureAddr, hr]
  exact hK' _ _ hK
theorem run_store_blk (t : TypeId) (hagg : ∀ w, (isAgg t).run P w = .ok true w) {k : Nat} (hk : ∀ w, (sizeOf t).run P w = .ok k w) {g : Nat} {old cs : Array Value} {e : TypeId} (hg : w.heap[g]? = some (.cells old e (0, 0))) (hsz : cs.size = k) (hso : old.size = k) (h1 : ∀ u ∈ cs.toList, u.oneCell' = true) :
    (storeVar t ⟨g, 0, none⟩ (.agg cs)).run P w = .ok () (w.setRow g cs) := by
  have := run_storeCells_at (P := P) g 0 e cs.toList 0 old w hg (by simp; omega) h1
  have h2 : (old.toList.take (0 + 0) ++ cs.toList ++ old.toList.drop (0 + 0 + cs.toList.length)).toArray = cs := by
    rw [List.drop_eq_nil_of_le (by simp; omega)]
    simp
  rw [h2] at this
  simp [storeVar, hk, Value.cells, hsz, this]
theorem arm_store_blk (t : TypeId) (hagg : ∀ w, (isAgg t).run P w = .ok true w) {k : Nat} (hk : ∀ w, (sizeOf t).run P w = .ok k w) {x y : Operand} {g : Nat} {old cs : Array Value} {e : TypeId} (hx : a.eval x = .pointer (some ⟨g, 0, none⟩)) (hy : a.eval y = .agg cs) (hg : w.heap[g]? = some (.cells old e (0, 0))) (hsz : cs.size = k) (hso : old.size = k) (h1 : ∀ u ∈ cs.toList, u.oneCell' = true)
    (hK : ∀ w', w'.heap[g]? = some (.cells cs e (0, 0)) → Only (fun g' => g' = g) w w' → wpList P ops Q rest a w') : wpList P ops Q ({ dst := none, op := Op.store t x y, type := ty, pos := pos, after := after, guard := none } :: rest) a w := by
  refine wpList_plain rfl fun K hK' => ?_
  have hr := run_store_blk (P := P) (w := w) t hagg hk hg hsz hso h1
  unfold Oper.wp
  simp [execOp, hx, hy, Instr.storeAt, Instr.sureAddr, hr]
  refine hK' _ _ (hK _ (setRow_heap w g old cs e (0, 0) hg) ⟨rfl, rfl, rfl, by simp [World.setRow], fun g' hg' hne => ?_⟩)
  simp only [World.setRow, Array.getElem?_modify]
  rw [if_neg (fun h => hne h.symm)]
end
end Go.Proofs.YtkddkmiomhadaaaDoor
