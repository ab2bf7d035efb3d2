/-
  The contract of (Span).End (5).
-/
import Derived.Test.Qxb6604505aRows
import Derived.WalkKit
import Derived.ProofKit
import Derived.OpenShut
import Derived.Below
namespace Go.Proofs.Qxb6604505a
open Go.ChangeShapes Go.WideShapes Go.ChangeAt Go.RowKit

theorem end_any (x y e : Int) (he : wrap64 (x + y) = e) (w : World) :
    Calls Try.prog 5 #[.agg #[.int .i64 x, .int .i64 y]] w fun r w' => r = .returned (.int .i64 e) ∧ w' = w.alloc (.cells #[.int .i64 x, .int .i64 y] 23) := by
  subst he
  go_enter Try.func5, Try.ntmps5
  go_wp2
  go_ret
  exact ⟨rfl, rfl⟩

theorem wf_range {a : Int} (h : (Lit.int .i64 a).wf = true) : -9223372036854775808 ≤ a ∧ a ≤ 9223372036854775807 := by
  have h2 : decide (IntKind.i64.min ≤ a) = true ∧ decide (a ≤ IntKind.i64.max) = true := by simpa [Lit.wf] using h
  have e1 : IntKind.i64.min = -9223372036854775808 := by decide +kernel
  have e2 : IntKind.i64.max = 9223372036854775807 := by decide +kernel
  rw [e1, e2] at h2
  exact ⟨of_decide_eq_true h2.1, of_decide_eq_true h2.2⟩

theorem back (x y e : Int) (h : wrap64 (x + y) = e) (hx : -9223372036854775808 ≤ x ∧ x ≤ 9223372036854775807) : wrap64 (e - y) = x := by
  subst h
  unfold wrap64
  omega

theorem join (x a c f : Int) (h : wrap64 (x + a) = f) : wrap64 (x + wrap64 (a + c)) = wrap64 (f + c) := by
  subst h
  unfold wrap64
  omega
end Go.Proofs.Qxb6604505a
