/-
  The contract of zzSameOpsB1 (8): two slices that hold the same operations are found the same.
-/
import Derived.Test.Qxb6603542aTo
namespace Go.Proofs.Qxb6603542a
open Go.ChangeShapes Go.WideShapes Go.ChangeAt Go.RowKit

set_option maxRecDepth 100000 in
set_option maxHeartbeats 1000000 in
theorem sameops_at (b off cap b' off' cap' : Nat) (l : List OpD) (w : World) (hl : l.length ≤ 100000) (h : At w b off l) (h' : At w b' off' l) :
    Calls Try.prog 8 #[.slice (some ⟨b, off, none⟩) l.length cap, .slice (some ⟨b', off', none⟩) l.length cap'] w fun e w' => e = .returned (.bool true) ∧ Below w.heap.size w w' := by
  go_enter Try.func8, Try.ntmps8
  go_wp2_with fail
  go_loopw [5] (fun i wr => ∃ k : Nat, k ≤ l.length ∧ i = .int .i64 k ∧ Below w.heap.size w wr) (fun i _ => l.length - (intOf i).toNat)
  case atStart => exact ⟨0, Nat.zero_le _, rfl, Below.refl _ _⟩
  case round =>
    obtain ⟨k, hk, rfl, hb⟩ := hrel
    by_cases hlt : k < l.length
    · obtain ⟨c0, c1, c2, c3⟩ := (h.below hb (fun h0 => h.lt h0)) k hlt
      obtain ⟨d0, d1, d2, d3⟩ := (h'.below hb (fun h0 => h'.lt h0)) k hlt
      have hbb := Nat.lt_of_lt_of_le (h.lt (by omega)) hb.size
      have hbb' := Nat.lt_of_lt_of_le (h'.lt (by omega)) hb.size
      go_wp2_with fail
      go_roundw
      case rel => exact ⟨k + 1, by omega, by go_num, (hb.alloc hb.size _).alloc (by have := hb.size; simp; omega) _⟩
      case measure => simp [intOf]; omega
    · go_wp2
      go_ret
      exact ⟨rfl, hb⟩

set_option maxRecDepth 100000 in
theorem sameops_none (a a' : Option Addr) (cap cap' : Nat) (w : World) :
    Calls Try.prog 8 #[.slice a 0 cap, .slice a' 0 cap'] w fun e w' => e = .returned (.bool true) ∧ Below w.heap.size w w' := by
  go_enter Try.func8, Try.ntmps8
  go_wp2_with fail
  refine wp_loop_rounds 1 ?_
  rw [rounds_succ]
  go_wp2
  go_ret
  exact ⟨rfl, Below.refl _ _⟩

theorem sameops_any {base base' : Nat} {v v' : Value} {l : List OpD} (w : World) (h : Own w base 36 v l) (h' : Own w base' 31 v' l) (hl : l.length ≤ 100000) :
    Calls Try.prog 8 #[v, v'] w fun e w' => e = .returned (.bool true) ∧ Below w.heap.size w w' := by
  rcases h.form with ⟨rfl, rfl⟩ | ⟨g, cap, rfl, _, _, hat⟩
  · rcases h'.form with ⟨rfl, _⟩ | ⟨g', cap', rfl, _, _, hat'⟩
    · exact sameops_none _ _ _ _ w
    · exact sameops_none _ _ _ _ w
  · rcases h'.form with ⟨rfl, rfl⟩ | ⟨g', cap', rfl, _, _, hat'⟩
    · exact sameops_none _ _ _ _ w
    · exact sameops_at g 0 cap g' 0 cap' l w hl hat hat'
end Go.Proofs.Qxb6603542a
