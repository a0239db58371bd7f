/- Two pairs compared. -/
import Derived.Test.YtbehijhpichniaaDcd
namespace Go.Proofs.Ytbehijhpichniaa
open Go.RowKit
theorem equal_two (a b c d : ByteArray) (w : World) : (Op.equalIn 10000 37 (.agg #[.string a, .string b]) (.agg #[.string c, .string d])).run Try.prog w = .ok (a.toList == c.toList && b.toList == d.toList) w := by
  have hs : Try.prog.underlying 37 = some (.array 2 9) := by kernel_rfl
  have h0 := run_equalIn_string (P := Try.prog) w 9998 9 a c Try.underlying9
  have h1 := run_equalIn_string (P := Try.prog) w 9998 9 b d Try.underlying9
  have hz : ∀ w, (sizeOf 9).run Try.prog w = .ok 1 w := Try.sizeOf9
  rw [show (10000 : Nat) = 9999 + 1 from rfl]
  unfold Op.equalIn
  simp only [Sem.run_bind, run_underlying hs, Result.andThen_ok, hz, Std.Legacy.Range.forIn_eq_forIn_range', Std.Legacy.Range.size]
  rw [show List.range' 0 ((2 - 0 + 1 - 1) / 1) = [0, 1] from rfl]
  have p0 : ∀ x y w, (part 9 #[.string x, .string y] (0 * 1)).run Try.prog w = .ok (.string x) w := by intro x y w; simp [part, go_sem]
  have p1 : ∀ x y w, (part 9 #[.string x, .string y] (1 * 1)).run Try.prog w = .ok (.string y) w := by intro x y w; simp [part, go_sem]
  simp only [List.forIn_cons, List.forIn_nil, Sem.run_bind, Sem.run_ite, p0, p1, Result.andThen_ok, h0, h1]
  cases a.toList == c.toList
  · rfl
  · simp only [Bool.not_true, Bool.false_eq_true, if_false, Sem.run_pure, Result.andThen_ok, Sem.run_bind, Sem.run_ite, p1, h1]
    cases b.toList == d.toList <;> rfl
theorem eql_two (a b c d : ByteArray) (w : World) : (binOp .eql 37 (.agg #[.string a, .string b]) (.agg #[.string c, .string d])).run Try.prog w = .ok (.bool (a.toList == c.toList && b.toList == d.toList)) w := by
  rw [run_eql_struct, equal_two]; rfl
end Go.Proofs.Ytbehijhpichniaa
