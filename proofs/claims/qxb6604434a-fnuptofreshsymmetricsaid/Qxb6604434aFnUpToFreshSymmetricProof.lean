/-
  The law FnUpToFreshSymmetric: the walk by the contracts of its callees (Qxb6604434aUpTo); the frame is the given shell's.
-/
import Derived.Test.Qxb6604434aUpTo
import Derived.WalkKit
import Derived.ProofKit
import Derived.OpenShut
import Derived.LaidEqlPtr
import Derived.ShutString
namespace Go.Proofs.Qxb6604434a.fnUpToFreshSymmetric
open Go.ChangeShapes Go.WideShapes Go.ChangeAt Go.RowKit
open Go.ChangeMaps (open_string shut_string)
set_option linter.unusedVariables false      -- a walk need not use every 'w<i>' (that an integer argument fits its kind)

theorem own : ownKnob Try.prog.godebug = none := by kernel_rfl

/-! ### The walk: the Go text returns true; the world has at most new blocks. -/
theorem cell_rule {w : World} {c : Array Value} {u : Bool} (h : c[5]? = some (.bool u)) : (w.alloc (.cells c 40)).cell? ⟨w.heap.size, 5, none⟩ = some (.bool u) := by
  rw [World.cell?_alloc_new]; exact h

theorem cell_up {w : World} {a : Addr} {v : Value} (o : Obj) (h : w.cell? a = some v) : (w.alloc o).cell? a = some v := by
  rw [World.cell?_alloc_old]
  · exact h
  · intro e; simp [World.cell?, e] at h

theorem size26 : (Try.prog.info? 26).map (fun j => decide (j.size ≠ 0)) = some true := by kernel_rfl

theorem eql_two (W : World) (c1 c2 : Array Value) (n : Nat) (hn : n = W.heap.size) :
    (binOp .eql 24 (.pointer (some ⟨n, 0, none⟩)) (.pointer (some ⟨n + 1, 0, none⟩))).run Try.prog ((W.alloc (.cells c1 26)).alloc (.cells c2 26)) = .ok (.bool false) ((W.alloc (.cells c1 26)).alloc (.cells c2 26)) := by
  subst hn
  obtain ⟨j, hj, hz⟩ := Option.map_eq_some_iff.1 size26
  refine run_eql_ptr_other (ca := c1) (cb := c2) (ta := 26) (tb := 26) _ Try.underlying24 hj (of_decide_eq_true hz) (by simp) ?_ ?_
  · rw [Below.heap_alloc _ _ _ (by simp)]; exact (MapKept.heap_alloc W _).1
  · have := (MapKept.heap_alloc (W.alloc (.cells c1 26)) (.cells c2 26)).1
    simpa using this

theorem walk_no (a1 : Int) (a2 : Int) (w : World) :
    Calls Try.prog 3 #[.bool false, .int .i64 a1, .int .i64 a2] w fun e w' => e = .returned (.bool true) ∧ Grown w w' := by
  go_enter Try.func3, Try.ntmps3
  go_wp2_with fail
  refine (rule_new false _).mono ?_
  rintro e w1 ⟨rfl, c, hc, rfl⟩
  have hc1 := cell_rule (w := w) hc
  have HC : Hid (c[5]? = some (.bool false)) := hc
  clear hc
  go_wp2_with (go_at_call 6; refine (zup_no _ _ _ _ hc1).mono ?_; rintro e w' ⟨rfl, rfl⟩)
  go_ret
  exact ⟨rfl, (Grown.refl _).alloc _ _⟩

set_option maxRecDepth 100000 in
theorem walk_yes (a1 a2 l : Int) (hl1 : l ≤ a1) (hl2 : l ≤ a2) (hl : l = a1 ∨ l = a2) (w : World) :
    Calls Try.prog 3 #[.bool true, .int .i64 a1, .int .i64 a2] w fun e w' => e = .returned (.bool true) ∧ Grown w w' := by
  have HL : Hid (l = a1 ∨ l = a2) := hl
  clear hl
  go_enter Try.func3, Try.ntmps3
  go_wp2_with fail
  refine (rule_new true _).mono ?_
  rintro e w1 ⟨rfl, c, hc, rfl⟩
  have hc1 := cell_rule (w := w) hc
  have HC : Hid (c[5]? = some (.bool true)) := hc
  clear hc
  go_wp2_with fail
  refine (zup_yes _ _ _ l ⟨by omega, by omega, HL.out⟩ _ hc1).mono ?_
  rintro e w2 ⟨rfl, rfl⟩
  go_wp2_with fail
  have hc2 := cell_up (.cells #[.int .i64 l] 26) hc1
  refine (zup_yes _ _ _ l ⟨by omega, by omega, HL.out.symm⟩ _ hc2).mono ?_
  rintro e w3 ⟨rfl, rfl⟩
  have he := eql_two (w.alloc (.cells c 40)) #[.int .i64 l] #[.int .i64 l] (w.heap.size + 1) (by simp)
  go_wp2_with fail
  have hc3 := cell_up (.cells #[.int .i64 l] 26) hc2
  refine (zup_yes _ _ _ l ⟨Int.le_refl _, by omega, .inl rfl⟩ _ hc3).mono ?_
  rintro e w4 ⟨rfl, rfl⟩
  go_wp2_with fail
  have hc4 := cell_up (.cells #[.int .i64 l] 26) (cell_up (.cells #[.int .i64 l] 26) (cell_up (.cells #[.int .i64 (wrap64 (l + 1))] 26) hc1))
  refine (zup_yes _ _ _ l ⟨by omega, by omega, HL.out⟩ _ hc4).mono ?_
  rintro e w5 ⟨rfl, rfl⟩
  go_wp2_with fail
  have hc5 := cell_up (.cells #[.int .i64 l] 26) hc4
  refine (zup_yes _ _ _ a1 ⟨Int.le_refl _, Int.le_refl _, .inl rfl⟩ _ hc5).mono ?_
  rintro e w6 ⟨rfl, rfl⟩
  go_wp2_with fail
  go_ret
  exact ⟨rfl, (((((((Grown.refl _).alloc _ _).alloc _ _).alloc _ _).alloc _ _).alloc _ _).alloc _ _)⟩


theorem walk (a0 : Bool) (a1 : Int) (a2 : Int) (w1 : (Lit.int .i64 a1).wf = true) (w2 : (Lit.int .i64 a2).wf = true) (w : World) :
    Calls Try.prog 3 #[.bool a0, .int .i64 a1, .int .i64 a2] w fun e w' => e = .returned (.bool true) ∧ Grown w w' := by
  cases a0
  · exact walk_no a1 a2 w
  · by_cases h : a1 ≤ a2
    · exact walk_yes a1 a2 a1 (Int.le_refl _) h (.inl rfl) w
    · exact walk_yes a1 a2 a2 (by omega) (Int.le_refl _) (.inr rfl) w

/-! ### The row's step, as the given shell has it. -/
set_option maxRecDepth 100000 in
theorem lifted (os : Os) (started : os.Started) (H : Type) (enc : TypeId × Value → H) :
    ReturnsInHanded {} Try.checked os 3 .any (Rows.fnUpToFreshSymmetricSpec.pre6 enc Try.prog Try.f3 Rows.fnUpToFreshSymmetricRow.domain false) (Rows.fnUpToFreshSymmetricSpec.post enc Try.prog Try.f3 false true false false) := by
  refine returnsInHanded_of_change (C := Try.checked) own started (by kernel_rfl) Try.func3
    (ChangeSpec.witness6 (enc := enc) (C := Try.checked) false ⟨#[], #[.bool false, .int .i64 0, .int .i64 0], []⟩ 8 (by kernel_rfl) (by kernel_rfl) (by kernel_rfl) (by kernel_rfl)) ?_
  intro W base args ds gs before hval0 hW hcnd _
  have hval : ∀ (j : Nat) t v, Try.f3.params[j]? = some t → args[j]? = some v → Value.okWide Try.prog W .any base t v := hval0
  have hW' := hW
  obtain ⟨p, q, hA0, hV, rfl, hfz, hnd⟩ := hW
  have hA : DataW.TrodAll enc Try.prog W 0 (fun _ => true) true Try.f3.params.toList args.toList ds p := hA0
  rw [Try.params3] at hA hval
  obtain ⟨v0, vs0, d0, ds0, p0, q0, hargs, rfl, rfl, h0, r0⟩ := trodAll_cons hA
  obtain ⟨v1, vs1, d1, ds1, p1, q1, rfl, rfl, rfl, h1, r1⟩ := trodAll_cons r0
  obtain ⟨v2, vs2, d2, ds2, p2, q2, rfl, rfl, rfl, h2, r2⟩ := trodAll_cons r1
  obtain ⟨rfl, rfl, rfl⟩ := trodAll_nil r2
  obtain rfl : args = #[v0, v1, v2] := by cases args; simp_all
  obtain ⟨rfl, rfl⟩ := trodVars_none hV
  obtain ⟨a0, rfl, rfl, rfl⟩ := open_bool Try.underlying4 (hval 0 4 v0 rfl rfl) h0
  obtain ⟨a1, rfl, rfl, rfl, w1⟩ := open_int Try.underlying2 (hval 1 2 v1 rfl rfl) h1
  obtain ⟨a2, rfl, rfl, rfl, w2⟩ := open_int Try.underlying2 (hval 2 2 v2 rfl rfl) h2
  clear hA0 hval0
  simp only [List.append_nil] at hW'
  refine (walk a0 a1 a2 w1 w2 W).mono fun e W' ⟨he, hg⟩ => ?_
  subst he
  exact ⟨_, rfl, post_of_same (pa := []) (pv := []) hW' (fun _ _ _ => (trodAll_cons_mk (shut_bool Try.underlying4 _) trodAll_mk0)) (fun sp _ => (trodAll_cons_mk (shut_bool Try.underlying4 _) (trodAll_cons_mk (shut_int Try.underlying2 w1) (trodAll_cons_mk (shut_int Try.underlying2 w2) trodAll_mk0)))) (fun _ _ => rfl) rfl
    (hg.frame _) hg.2.1 (ok_one (by kernel_rfl) rfl (okWide_bool_mk Try.underlying4 _))⟩

theorem over : Rows.fnUpToFreshSymmetricRow.holds Try.pinned (OpenSpec.ofChange Rows.fnUpToFreshSymmetricSpec) :=
  OpenClaim.holds_of_wide 3 Try.f3 rfl rfl rfl rfl rfl rfl rfl ⟨rfl, rfl, rfl, rfl, rfl⟩ rfl rfl rfl rfl rfl (by kernel_rfl) Try.func3 (by kernel_rfl)
    (of_decide_eq_true (by kernel_rfl)) (by unfold Func.isWrapper; first | (rw [if_pos (by decide +kernel)]; kernel_rfl) | (rw [if_neg (by decide +kernel)]; exact ⟨rfl, rfl⟩))
    (fun os started H enc _ => lifted os started H enc)

/-- The statement. -/
theorem proved : Rows.FnUpToFreshSymmetricSaid :=
  over
end Go.Proofs.Qxb6604434a.fnUpToFreshSymmetric

namespace Go.Proofs.Qxb6604434a
theorem fnUpToFreshSymmetric_proved : Rows.FnUpToFreshSymmetricSaid := fnUpToFreshSymmetric.proved
end Go.Proofs.Qxb6604434a
