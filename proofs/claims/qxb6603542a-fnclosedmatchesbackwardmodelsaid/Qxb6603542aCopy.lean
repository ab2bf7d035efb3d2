/-
  The contract of zzCopyOpsB1 (7): a fresh copy.
-/
import Derived.Test.Qxb6603542aBytes
import Derived.WalkSpells
namespace Go.Proofs.Qxb6603542a
open Go.ChangeShapes Go.WideShapes Go.ChangeAt Go.RowKit

theorem info31 : (Try.prog.info? 31).map (fun i => (i.zero, i.size, i.bytes)) = some (some (.agg #[.int .i64 0, .int .i64 0, .int .i64 0, .string ⟨#[]⟩]), 4, 40) := by kernel_rfl
theorem info36 : (Try.prog.info? 36).map (fun i => (i.zero, i.size, i.bytes)) = some (some (.agg #[.int .i64 0, .int .i64 0, .int .i64 0, .string ⟨#[]⟩]), 4, 40) := by kernel_rfl

set_option maxRecDepth 100000 in
theorem copy_at (b off cap : Nat) (l : List OpD) (w : World) (hl : l.length ≤ 4096) (h : At w b off l) :
    Calls Try.prog 7 #[.slice (some ⟨b, off, none⟩) l.length cap] w fun e w' => e = .returned (.slice (some ⟨w.heap.size, 0, none⟩) l.length l.length) ∧
      w'.ownsRow w.heap.size 31 4 (.slice (some ⟨w.heap.size, 0, none⟩) l.length l.length) l.length (row l) ∧ Below w.heap.size w w' := by
  obtain ⟨i0, hi, hz0, hz1, hz2⟩ := info_parts info31
  have hnil := fun (w : World) (a : Option Addr) (n c : Nat) => Lib.run_eql_slice_nil (P := Try.prog) w 22 31 a n c 0 0 Try.underlying22
  go_enter Try.func7, Try.ntmps7
  go_wp2_with (at_make; refine wpList_make_full _ rfl _ _ 22 rfl w.heap.size 31 i0 _ 4 Try.underlying22 hi hz0 hz1 _ _ _ _ l.length rfl rfl rfl rfl (by rw [hz2]; omega) (by unfold maxLen; omega) (Nat.le_refl _) ?_)
  intro w1 hown1 hg1
  have hb1 := (Below.refl w.heap.size w).grown hg1 (Nat.le_refl _) (fun k e => by cases e)
  clear hg1
  go_wp2_with fail
  go_loopw [4] (fun i wr => ∃ k : Nat, ∃ xs : List Value, k ≤ l.length ∧ i = .int .i64 k ∧ wr.ownsRow w.heap.size 31 4 (.slice (some ⟨w.heap.size, 0, none⟩) l.length l.length) l.length xs ∧ xs.take (k * 4) = row (l.take k) ∧ Below w.heap.size w wr) (fun i _ => l.length - (intOf i).toNat)
  case atStart => exact ⟨0, _, Nat.zero_le _, rfl, hown1, by simp [row], hb1⟩
  case round =>
    obtain ⟨k, xs, hk, rfl, hown, hxs, hb⟩ := hrel
    have HX : Hid (xs.take (k * 4) = row (l.take k)) := hxs
    clear hxs
    by_cases hlt : k < l.length
    · obtain ⟨c0, c1, c2, c3⟩ := (h.below hb (fun h0 => h.lt h0)) k hlt
      obtain ⟨⟨v0, d0⟩, ⟨v1, d1⟩, ⟨v2, d2⟩, ⟨v3, d3⟩⟩ := own_cells hown hlt
      have f0 := hown.frozenAt (k * 4)
      have f1 := hown.frozenAt (k * 4 + 1)
      have f2 := hown.frozenAt (k * 4 + 2)
      have f3 := hown.frozenAt (k * 4 + 3)
      obtain ⟨xs', hown', hxs'⟩ := own_store hown k hlt l[k] (l.take k) HX.out
      have hb' := below_store hb (Nat.le_refl _) k l[k]
      have HX' : Hid (xs'.take ((k + 1) * 4) = row (l.take k ++ [l[k]])) := hxs'
      clear hxs'
      go_wp2_with fail
      go_roundw
      case rel => exact ⟨k + 1, xs', by omega, by go_num, hown', by rw [HX'.out, List.take_succ_eq_append_getElem hlt], hb'⟩
      case measure => simp [intOf]; omega
    · have hx : xs = row l := by
        have h1 := HX.out
        rw [List.take_of_length_le (by have := hown.1; omega), List.take_of_length_le (by omega)] at h1
        exact h1
      subst hx
      go_wp2
      go_ret
      exact ⟨rfl, hown, hb⟩

set_option maxRecDepth 100000 in
theorem copy_none (x : Addr) (cap : Nat) (w : World) :
    Calls Try.prog 7 #[.slice (some x) 0 cap] w fun e w' => e = .returned (.slice (some ⟨w.heap.size, 0, none⟩) 0 0) ∧
      w'.ownsRow w.heap.size 31 4 (.slice (some ⟨w.heap.size, 0, none⟩) 0 0) 0 [] ∧ Below w.heap.size w w' := by
  obtain ⟨i0, hi, hz0, hz1, hz2⟩ := info_parts info31
  have hnil := fun (w : World) (a : Option Addr) (n c : Nat) => Lib.run_eql_slice_nil (P := Try.prog) w 22 31 a n c 0 0 Try.underlying22
  go_enter Try.func7, Try.ntmps7
  go_wp2_with (at_make; refine wpList_make_full _ rfl _ _ 22 rfl w.heap.size 31 i0 _ 4 Try.underlying22 hi hz0 hz1 _ _ _ _ 0 rfl rfl rfl rfl (by omega) (by unfold maxLen; omega) (Nat.le_refl _) ?_)
  intro w1 hown1 hg1
  have hb1 := (Below.refl w.heap.size w).grown hg1 (Nat.le_refl _) (fun k e => by cases e)
  clear hg1
  have ho : w1.ownsRow w.heap.size 31 4 (.slice (some ⟨w.heap.size, 0, none⟩) 0 0) 0 [] := by
    have e0 := List.eq_nil_of_length_eq_zero (hown1.1.trans (Nat.zero_mul _))
    rwa [e0] at hown1
  clear hown1
  go_wp2_with fail
  refine wp_loop_rounds 1 ?_
  rw [rounds_succ]
  go_wp2
  go_ret
  exact ⟨rfl, ho, hb1⟩

set_option maxRecDepth 100000 in
theorem copy_nil (w : World) :
    Calls Try.prog 7 #[.slice none 0 0] w fun e w' => e = .returned (.slice none 0 0) ∧ w' = w := by
  have hnil := fun (w : World) (a : Option Addr) (n c : Nat) => Lib.run_eql_slice_nil (P := Try.prog) w 22 31 a n c 0 0 Try.underlying22
  go_enter Try.func7, Try.ntmps7
  go_wp2
  go_ret
  exact ⟨rfl, rfl⟩

theorem copy_any {a : Option Addr} {len cap : Nat} {l : List OpD} (w : World) (h : IsOps w a len cap l) (hl : len ≤ 4096) :
    Calls Try.prog 7 #[.slice a len cap] w fun e w' => ∃ v, e = .returned v ∧ Own w' w.heap.size 31 v l ∧ Below w.heap.size w w' := by
  rcases h with ⟨rfl, rfl, rfl, rfl⟩ | ⟨⟨b, off, sp⟩, rfl, rfl, hc, _⟩
  · refine (copy_nil w).mono ?_
    rintro e w' ⟨rfl, rfl⟩
    exact ⟨_, rfl, own_nil _ _ _, Below.refl _ _⟩
  · by_cases h0 : l.length = 0
    · obtain rfl := List.eq_nil_of_length_eq_zero h0
      refine (copy_none _ cap w).mono ?_
      rintro e w' ⟨rfl, ho, hb⟩
      exact ⟨_, rfl, ho, hb⟩
    · obtain ⟨hs, hat⟩ := hc (by omega)
      obtain rfl : sp = none := hs
      refine (copy_at b off cap l w hl hat).mono ?_
      rintro e w' ⟨rfl, ho, hb⟩
      exact ⟨_, rfl, ho, hb⟩
end Go.Proofs.Qxb6603542a
