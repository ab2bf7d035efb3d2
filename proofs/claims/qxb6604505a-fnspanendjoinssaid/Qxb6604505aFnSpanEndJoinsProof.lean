/-
  The law FnSpanEndJoins: the walk by the contract of its callee (Qxb6604505aEnd); the frame is the given shell's.
-/
import Derived.Test.Qxb6604505aEnd
import Derived.WalkKit
import Derived.ProofKit
import Derived.OpenShut
import Derived.ShutString
namespace Go.Proofs.Qxb6604505a.fnSpanEndJoins
open Go.ChangeShapes Go.WideShapes Go.ChangeAt Go.RowKit
open Go.ChangeMaps (open_string shut_string)
set_option linter.unusedVariables false      -- a walk need not use every 'w<i>' (that an integer argument fits its kind)

theorem own : ownKnob Try.prog.godebug = none := by kernel_rfl

/-! ### The walk: the Go text returns true; the world has at most new blocks. -/
/-- The tests of the law's last lines, decided ahead. -/
def Way (x a f : Int) : Prop := x < 0 ∨ (0 ≤ x ∧ a < 0) ∨ (0 ≤ x ∧ 0 ≤ a ∧ wrap64 (9223372036854775807 - a) < x) ∨ (0 ≤ x ∧ 0 ≤ a ∧ x ≤ wrap64 (9223372036854775807 - a) ∧ x ≤ f ∧ a ≤ f)

theorem walk_at (x a c f j : Int) (hf : Hid (wrap64 (x + a) = f)) (hj : Hid (wrap64 (f + c) = j)) (hk : Hid (wrap64 (x + wrap64 (a + c)) = j)) (hx : Hid (wrap64 (x + 0) = x)) (hw : Way x a f) (w : World) :
    Calls Try.prog 4 #[.int .i64 x, .int .i64 a, .int .i64 c] w fun e w' => e = .returned (.bool true) ∧ Grown w w' := by
  rcases hw with h0 | ⟨h0, h1⟩ | ⟨h0, h1, h2⟩ | ⟨h0, h1, h2, h3, h4⟩
  all_goals
    go_enter Try.func4, Try.ntmps4
    go_wp2_with fail
    refine (end_any x a f hf.out _).mono ?_
    rintro r w1 ⟨rfl, rfl⟩
    go_wp2_with fail
    refine (end_any f c j hj.out _).mono ?_
    rintro r w2 ⟨rfl, rfl⟩
    go_wp2_with fail
    refine (end_any x _ j hk.out _).mono ?_
    rintro r w3 ⟨rfl, rfl⟩
    go_wp2_with fail
    refine (end_any x _ x hx.out _).mono ?_
    rintro r w4 ⟨rfl, rfl⟩
    go_wp2
    go_ret
    exact ⟨rfl, ((((Grown.refl _).alloc _ _).alloc _ _).alloc _ _).alloc _ _⟩

theorem way (x a f : Int) (hx : -9223372036854775808 ≤ x ∧ x ≤ 9223372036854775807) (ha : -9223372036854775808 ≤ a ∧ a ≤ 9223372036854775807) (hf : wrap64 (x + a) = f) : Way x a f := by
  subst hf
  unfold Way wrap64
  omega

theorem zero (x : Int) (hx : -9223372036854775808 ≤ x ∧ x ≤ 9223372036854775807) : wrap64 (x + 0) = x := by
  unfold wrap64
  omega

theorem walk (a0 : Int) (a1 : Int) (a2 : Int) (w0 : (Lit.int .i64 a0).wf = true) (w1 : (Lit.int .i64 a1).wf = true) (w2 : (Lit.int .i64 a2).wf = true) (w : World) :
    Calls Try.prog 4 #[.int .i64 a0, .int .i64 a1, .int .i64 a2] w fun e w' => e = .returned (.bool true) ∧ Grown w w' :=
  walk_at a0 a1 a2 (wrap64 (a0 + a1)) _ rfl rfl (join a0 a1 a2 _ rfl) (zero a0 (wf_range w0)) (way a0 a1 _ (wf_range w0) (wf_range w1) rfl) w

/-! ### The row's step, as the given shell has it. -/
set_option maxRecDepth 100000 in
theorem lifted (os : Os) (started : os.Started) (H : Type) (enc : TypeId × Value → H) :
    ReturnsInHanded {} Try.checked os 4 .any (Rows.fnSpanEndJoinsSpec.pre6 enc Try.prog Try.f4 Rows.fnSpanEndJoinsRow.domain false) (Rows.fnSpanEndJoinsSpec.post enc Try.prog Try.f4 false true false false) := by
  refine returnsInHanded_of_change (C := Try.checked) own started (by kernel_rfl) Try.func4
    (ChangeSpec.witness6 (enc := enc) (C := Try.checked) false ⟨#[], #[.int .i64 0, .int .i64 0, .int .i64 0], []⟩ 8 (by kernel_rfl) (by kernel_rfl) (by kernel_rfl) (by kernel_rfl)) ?_
  intro W base args ds gs before hval0 hW hcnd _
  have hval : ∀ (j : Nat) t v, Try.f4.params[j]? = some t → args[j]? = some v → Value.okWide Try.prog W .any base t v := hval0
  have hW' := hW
  obtain ⟨p, q, hA0, hV, rfl, hfz, hnd⟩ := hW
  have hA : DataW.TrodAll enc Try.prog W 0 (fun _ => true) true Try.f4.params.toList args.toList ds p := hA0
  rw [Try.params4] at hA hval
  obtain ⟨v0, vs0, d0, ds0, p0, q0, hargs, rfl, rfl, h0, r0⟩ := trodAll_cons hA
  obtain ⟨v1, vs1, d1, ds1, p1, q1, rfl, rfl, rfl, h1, r1⟩ := trodAll_cons r0
  obtain ⟨v2, vs2, d2, ds2, p2, q2, rfl, rfl, rfl, h2, r2⟩ := trodAll_cons r1
  obtain ⟨rfl, rfl, rfl⟩ := trodAll_nil r2
  obtain rfl : args = #[v0, v1, v2] := by cases args; simp_all
  obtain ⟨rfl, rfl⟩ := trodVars_none hV
  obtain ⟨a0, rfl, rfl, rfl, w0⟩ := open_int Try.underlying3 (hval 0 3 v0 rfl rfl) h0
  obtain ⟨a1, rfl, rfl, rfl, w1⟩ := open_int Try.underlying3 (hval 1 3 v1 rfl rfl) h1
  obtain ⟨a2, rfl, rfl, rfl, w2⟩ := open_int Try.underlying3 (hval 2 3 v2 rfl rfl) h2
  clear hA0 hval0
  simp only [List.append_nil] at hW'
  refine (walk a0 a1 a2 w0 w1 w2 W).mono fun e W' ⟨he, hg⟩ => ?_
  subst he
  exact ⟨_, rfl, post_of_same (pa := []) (pv := []) hW' (fun _ _ _ => (trodAll_cons_mk (shut_bool Try.underlying4 _) trodAll_mk0)) (fun sp _ => (trodAll_cons_mk (shut_int Try.underlying3 w0) (trodAll_cons_mk (shut_int Try.underlying3 w1) (trodAll_cons_mk (shut_int Try.underlying3 w2) trodAll_mk0)))) (fun _ _ => rfl) rfl
    (hg.frame _) hg.2.1 (ok_one (by kernel_rfl) rfl (okWide_bool_mk Try.underlying4 _))⟩

theorem over : Rows.fnSpanEndJoinsRow.holds Try.pinned (OpenSpec.ofChange Rows.fnSpanEndJoinsSpec) :=
  OpenClaim.holds_of_wide 4 Try.f4 rfl rfl rfl rfl rfl rfl rfl ⟨rfl, rfl, rfl, rfl, rfl⟩ rfl rfl rfl rfl rfl (by kernel_rfl) Try.func4 (by kernel_rfl)
    (of_decide_eq_true (by kernel_rfl)) (by unfold Func.isWrapper; first | (rw [if_pos (by decide +kernel)]; kernel_rfl) | (rw [if_neg (by decide +kernel)]; exact ⟨rfl, rfl⟩))
    (fun os started H enc _ => lifted os started H enc)

/-- The statement. -/
theorem proved : Rows.FnSpanEndJoinsSaid :=
  over
end Go.Proofs.Qxb6604505a.fnSpanEndJoins

namespace Go.Proofs.Qxb6604505a
theorem fnSpanEndJoins_proved : Rows.FnSpanEndJoinsSaid := fnSpanEndJoins.proved
end Go.Proofs.Qxb6604505a
