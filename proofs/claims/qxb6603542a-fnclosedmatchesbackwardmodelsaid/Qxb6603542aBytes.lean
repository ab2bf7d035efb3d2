/-
  Contracts of zzBytes (5, 12) and zzClosedSizeOKB1 (6): they read, and answer some bool.
-/
import Derived.Test.Qxb6603542aBase
import Derived.LoopTactic
namespace Go.Proofs.Qxb6603542a
open Go.ChangeShapes Go.WideShapes Go.ChangeAt Go.RowKit

set_option maxRecDepth 100000 in
theorem bytes5_at (b off cap : Nat) (l : List OpD) (w : World) (hl : l.length ≤ 1048576) (h : At w b off l) (hw : ∀ o ∈ l, Wf o) :
    Calls Try.prog 5 #[.slice (some ⟨b, off, none⟩) l.length cap] w fun e w' => IsBool e ∧ w' = w := by
  go_enter Try.func5, Try.ntmps5
  go_wp2
  go_loop [3, 4] (fun z i => ∃ k : Nat, ∃ y : Int, k ≤ l.length ∧ 0 ≤ y ∧ y ≤ 1048576 ∧ i = .int .i64 k ∧ z = .int .i64 y) (fun _ i => l.length - (intOf i).toNat)
  case atStart => exact ⟨0, _, Nat.zero_le _, by omega, by omega, rfl, rfl⟩
  case round =>
    obtain ⟨k, y, hk, hy0, hy1, rfl, rfl⟩ := hrel
    by_cases hlt : k < l.length
    · obtain ⟨c0, c1, c2, c3⟩ := h k hlt
      have hwk := (hw l[k] (List.getElem_mem hlt)).2.2.2
      unfold maxLen at hwk
      go_wp2
      all_goals first
        | (go_ret; exact ⟨isBool _, rfl⟩)
        | (go_round
           case rel => exact ⟨k + 1, _, by omega, by omega, by omega, by go_num, rfl⟩
           case measure => simp [intOf]; omega)
    · go_wp2
      go_ret
      exact ⟨isBool _, rfl⟩

set_option maxRecDepth 100000 in
theorem bytes5_long (a : Option Addr) (len cap : Nat) (w : World) (hl : 1048576 < len) :
    Calls Try.prog 5 #[.slice a len cap] w fun e w' => IsBool e ∧ w' = w := by
  have hl' : (1048576 : Int) < len := by omega
  go_enter Try.func5, Try.ntmps5
  go_wp2
  go_ret
  exact ⟨isBool _, rfl⟩

set_option maxRecDepth 100000 in
theorem bytes5_none (a : Option Addr) (cap : Nat) (w : World) :
    Calls Try.prog 5 #[.slice a 0 cap] w fun e w' => IsBool e ∧ w' = w := by
  go_enter Try.func5, Try.ntmps5
  go_wp2
  refine wp_loop_rounds 1 ?_
  rw [rounds_succ]
  go_wp2
  go_ret
  exact ⟨isBool _, rfl⟩

theorem bytes5_any {a : Option Addr} {len cap : Nat} {l : List OpD} (w : World) (h : IsOps w a len cap l) :
    Calls Try.prog 5 #[.slice a len cap] w fun e w' => IsBool e ∧ w' = w := by
  obtain rfl := h.len
  by_cases hl : l.length ≤ 1048576
  · rcases h.view with h0 | ⟨b, off, rfl, hat⟩
    · rw [h0]; exact bytes5_none a cap w
    · exact bytes5_at b off cap l w hl hat h.wf
  · exact bytes5_long a l.length cap w (by omega)

set_option maxRecDepth 100000 in
theorem bytes12_at (b off cap : Nat) (l : List OpD) (w : World) (hl : l.length ≤ 1048576) (h : At w b off l) (hw : ∀ o ∈ l, Wf o) :
    Calls Try.prog 12 #[.slice (some ⟨b, off, none⟩) l.length cap] w fun e w' => IsBool e ∧ w' = w := by
  go_enter Try.func12, Try.ntmps12
  go_wp2
  go_loop [3, 4] (fun z i => ∃ k : Nat, ∃ y : Int, k ≤ l.length ∧ 0 ≤ y ∧ y ≤ 1048576 ∧ i = .int .i64 k ∧ z = .int .i64 y) (fun _ i => l.length - (intOf i).toNat)
  case atStart => exact ⟨0, _, Nat.zero_le _, by omega, by omega, rfl, rfl⟩
  case round =>
    obtain ⟨k, y, hk, hy0, hy1, rfl, rfl⟩ := hrel
    by_cases hlt : k < l.length
    · obtain ⟨c0, c1, c2, c3⟩ := h k hlt
      have hwk := (hw l[k] (List.getElem_mem hlt)).2.2.2
      unfold maxLen at hwk
      go_wp2
      all_goals first
        | (go_ret; exact ⟨isBool _, rfl⟩)
        | (go_round
           case rel => exact ⟨k + 1, _, by omega, by omega, by omega, by go_num, rfl⟩
           case measure => simp [intOf]; omega)
    · go_wp2
      go_ret
      exact ⟨isBool _, rfl⟩

set_option maxRecDepth 100000 in
theorem bytes12_long (a : Option Addr) (len cap : Nat) (w : World) (hl : 1048576 < len) :
    Calls Try.prog 12 #[.slice a len cap] w fun e w' => IsBool e ∧ w' = w := by
  have hl' : (1048576 : Int) < len := by omega
  go_enter Try.func12, Try.ntmps12
  go_wp2
  go_ret
  exact ⟨isBool _, rfl⟩

set_option maxRecDepth 100000 in
theorem bytes12_none (a : Option Addr) (cap : Nat) (w : World) :
    Calls Try.prog 12 #[.slice a 0 cap] w fun e w' => IsBool e ∧ w' = w := by
  go_enter Try.func12, Try.ntmps12
  go_wp2
  refine wp_loop_rounds 1 ?_
  rw [rounds_succ]
  go_wp2
  go_ret
  exact ⟨isBool _, rfl⟩

theorem bytes12_any {a : Option Addr} {len cap : Nat} {l : List OpD} (w : World) (h : IsOps w a len cap l) :
    Calls Try.prog 12 #[.slice a len cap] w fun e w' => IsBool e ∧ w' = w := by
  obtain rfl := h.len
  by_cases hl : l.length ≤ 1048576
  · rcases h.view with h0 | ⟨b, off, rfl, hat⟩
    · rw [h0]; exact bytes12_none a cap w
    · exact bytes12_at b off cap l w hl hat h.wf
  · exact bytes12_long a l.length cap w (by omega)

set_option maxRecDepth 100000 in
theorem size_at (b off cap : Nat) (l : List OpD) (w : World) (hl : l.length ≤ 4096) (h : At w b off l) :
    Calls Try.prog 6 #[.slice (some ⟨b, off, none⟩) l.length cap] w fun e w' => IsSmall l.length e ∧ w' = w := by
  go_enter Try.func6, Try.ntmps6
  go_wp2
  go_loop [3, 4] (fun z i => ∃ k : Nat, ∃ y : Int, k ≤ l.length ∧ i = .int .i64 k ∧ z = .int .i64 y) (fun _ i => l.length - (intOf i).toNat)
  case atStart => exact ⟨0, _, Nat.zero_le _, rfl, rfl⟩
  case round =>
    obtain ⟨k, y, hk, rfl, rfl⟩ := hrel
    by_cases hlt : k < l.length
    · obtain ⟨c0, c1, c2, c3⟩ := h k hlt
      go_wp2
      go_round
      case rel => exact ⟨k + 1, _, by omega, by go_num, rfl⟩
      case measure => simp [intOf]; omega
    · go_wp2
      go_ret
      exact ⟨isSmall _ (fun _ => hl), rfl⟩

set_option maxRecDepth 100000 in
theorem size_long (a : Option Addr) (len cap : Nat) (w : World) (hl : 4096 < len) :
    Calls Try.prog 6 #[.slice a len cap] w fun e w' => IsSmall len e ∧ w' = w := by
  have hl' : (4096 : Int) < len := by omega
  go_enter Try.func6, Try.ntmps6
  go_wp2
  go_ret
  exact ⟨isSmall _ (fun h => by cases h), rfl⟩

set_option maxRecDepth 100000 in
theorem size_none (a : Option Addr) (cap : Nat) (w : World) :
    Calls Try.prog 6 #[.slice a 0 cap] w fun e w' => IsSmall 0 e ∧ w' = w := by
  go_enter Try.func6, Try.ntmps6
  go_wp2
  refine wp_loop_rounds 1 ?_
  rw [rounds_succ]
  go_wp2
  go_ret
  exact ⟨isSmall _ (fun _ => by omega), rfl⟩

theorem size_any {a : Option Addr} {len cap : Nat} {l : List OpD} (w : World) (h : IsOps w a len cap l) :
    Calls Try.prog 6 #[.slice a len cap] w fun e w' => IsSmall len e ∧ w' = w := by
  obtain rfl := h.len
  by_cases hl : l.length ≤ 4096
  · rcases h.view with h0 | ⟨b, off, rfl, hat⟩
    · rw [h0]; exact size_none a cap w
    · exact size_at b off cap l w hl hat
  · exact size_long a l.length cap w (by omega)
end Go.Proofs.Qxb6603542a
