/-
  Contracts of the callees of FnUpToFreshSymmetric: ZZNewReissueRule (5), (*reissueRule).upTo (10), ZZUpTo (6).
-/
import Derived.Test.Qxb6604434aRows
import Derived.WalkKit
import Derived.ProofKit
import Derived.OpenShut
import Derived.Below
namespace Go.Proofs.Qxb6604434a
open Go.ChangeShapes Go.WideShapes Go.ChangeAt Go.RowKit

theorem up_yes (b : Nat) (x y m : Int) (hm : m ≤ x ∧ m ≤ y ∧ (m = x ∨ m = y)) (w : World) (hc : w.cell? ⟨b, 5, none⟩ = some (.bool true)) :
    Calls Try.prog 10 #[.pointer (some ⟨b, 0, none⟩), .int .i64 x, .int .i64 y] w fun e w' =>
      e = .returned (.pointer (some ⟨w.heap.size, 0, none⟩)) ∧ w' = w.alloc (.cells #[.int .i64 m] 26) := by
  by_cases h : y < x
  · obtain rfl : m = y := by omega
    clear hm
    go_enter Try.func10, Try.ntmps10
    go_wp2
    go_ret
    exact ⟨rfl, rfl⟩
  · obtain rfl : m = x := by omega
    clear hm
    go_enter Try.func10, Try.ntmps10
    go_wp2
    go_ret
    exact ⟨rfl, rfl⟩

theorem up_no (b : Nat) (x y : Int) (w : World) (hc : w.cell? ⟨b, 5, none⟩ = some (.bool false)) :
    Calls Try.prog 10 #[.pointer (some ⟨b, 0, none⟩), .int .i64 x, .int .i64 y] w fun e w' =>
      e = .returned (.pointer none) ∧ w' = w := by
  go_enter Try.func10, Try.ntmps10
  go_wp2
  go_ret
  exact ⟨rfl, rfl⟩

theorem zup_yes (b : Nat) (x y m : Int) (hm : m ≤ x ∧ m ≤ y ∧ (m = x ∨ m = y)) (w : World) (hc : w.cell? ⟨b, 5, none⟩ = some (.bool true)) :
    Calls Try.prog 6 #[.pointer (some ⟨b, 0, none⟩), .int .i64 x, .int .i64 y] w fun e w' =>
      e = .returned (.pointer (some ⟨w.heap.size, 0, none⟩)) ∧ w' = w.alloc (.cells #[.int .i64 m] 26) := by
  have hup := up_yes b x y m hm w hc
  have Hup : Hid (Calls Try.prog 10 #[.pointer (some ⟨b, 0, none⟩), .int .i64 x, .int .i64 y] w fun e w' =>
      e = .returned (.pointer (some ⟨w.heap.size, 0, none⟩)) ∧ w' = w.alloc (.cells #[.int .i64 m] 26)) := hup
  clear hup hm
  go_enter Try.func6, Try.ntmps6
  go_wp2_with (go_at_call 10; refine Hup.out.mono ?_; rintro e w' ⟨rfl, rfl⟩)
  go_ret
  exact ⟨rfl, rfl⟩

theorem zup_no (b : Nat) (x y : Int) (w : World) (hc : w.cell? ⟨b, 5, none⟩ = some (.bool false)) :
    Calls Try.prog 6 #[.pointer (some ⟨b, 0, none⟩), .int .i64 x, .int .i64 y] w fun e w' =>
      e = .returned (.pointer none) ∧ w' = w := by
  go_enter Try.func6, Try.ntmps6
  go_wp2_with (go_at_call 10; refine (up_no b x y _ hc).mono ?_; rintro e w' ⟨rfl, rfl⟩)
  go_ret
  exact ⟨rfl, rfl⟩

theorem rule_new (u : Bool) (w : World) :
    Calls Try.prog 5 #[.slice none 0 0, .bool false, .bool u, .int .i64 0, .string ⟨#[]⟩] w fun e w' =>
      e = .returned (.pointer (some ⟨w.heap.size, 0, none⟩)) ∧ ∃ c : Array Value, c[5]? = some (.bool u) ∧ w' = w.alloc (.cells c 40) := by
  go_enter Try.func5, Try.ntmps5
  go_wp2
  go_ret
  exact ⟨rfl, _, rfl, rfl⟩
end Go.Proofs.Qxb6604434a
