/-
  The law FnSameInsurerEquivalence: the walk by the contracts of its callees (Qxb6604434aSame); the frame is the given shell's.
-/
import Derived.Test.Qxb6604434aSame
import Derived.WalkKit
import Derived.ProofKit
import Derived.OpenShut
import Derived.ShutString
namespace Go.Proofs.Qxb6604434a.fnSameInsurerEquivalence
open Go.ChangeShapes Go.WideShapes Go.ChangeAt Go.RowKit
open Go.ChangeMaps (open_string shut_string)
set_option linter.unusedVariables false      -- a walk need not use every 'w<i>' (that an integer argument fits its kind)

theorem own : ownKnob Try.prog.godebug = none := by kernel_rfl

/-! ### The walk: the Go text returns true; the world has at most new blocks. -/
theorem sB_comm (a b : ByteArray) : sB a b = sB b a := by
  unfold sB
  by_cases h : a.toList = b.toList
  · rw [h]
  · have h1 : (a.toList == b.toList) = false := by simpa using h
    have h2 : (b.toList == a.toList) = false := by simpa using fun e => h (Eq.symm e)
    rw [h1, h2, Bool.and_false, Bool.and_false]

theorem sB_true {a b : ByteArray} (h : sB a b = true) : a.toList.isEmpty = false ∧ a.toList = b.toList := by
  unfold sB at h
  simpa using h

theorem sB_mk {a b : ByteArray} (h0 : a.toList.isEmpty = false) (h : a.toList = b.toList) : sB a b = true := by
  unfold sB
  rw [h] at h0 ⊢
  simp [h0]

theorem sB_trans {a b c : ByteArray} (h : sB a b = true) (k : sB b c = true) : sB a c = true := by
  obtain ⟨h0, h1⟩ := sB_true h
  obtain ⟨_, k1⟩ := sB_true k
  exact sB_mk h0 (h1.trans k1)

theorem sB_self (a : ByteArray) : sB a a = decide (0 < a.size) := by
  unfold sB
  have e : a.toList.length = a.size := by rw [ByteArray.toList_eq]; rfl
  cases h : a.toList with
  | nil => rw [h] at e; simp at e; simp [← e]
  | cons x l => rw [h] at e; simp at e; simp; omega

theorem walk_long (a0 a1 a2 : ByteArray) (w0 : a0.size ≤ maxLen) (w1 : a1.size ≤ maxLen) (w2 : a2.size ≤ maxLen) (w : World) (h : ¬ a0.size + a1.size + a2.size ≤ 1048576) :
    Calls Try.prog 4 #[.string a0, .string a1, .string a2] w fun e w' => e = .returned (.bool true) ∧ Grown w w' := by
  have hb := bytes_any a0 a1 a2 w0 w1 w2 false (decide_eq_false h) w
  have H : Hid (Calls Try.prog 7 #[.string a0, .string a1, .string a2] w fun e w' => e = .returned (.bool false) ∧ w' = w) := hb
  clear hb
  go_enter Try.func4, Try.ntmps4
  go_wp2_with fail
  refine H.out.mono ?_
  rintro e w' ⟨rfl, rfl⟩
  go_wp2
  go_ret
  exact ⟨rfl, Grown.refl _⟩

set_option maxRecDepth 100000 in
theorem walk_short (a b c : ByteArray) (p q r s : Bool) (hp : sB a b = p) (hq : sB b c = q) (hr : sB a c = r) (hs : decide (0 < a.size) = s)
    (t1 : p = true → q = true → r = true) (t2 : p = true → r = true → q = true) (t3 : r = true → q = true → p = true)
    (w0 : a.size ≤ maxLen) (w1 : b.size ≤ maxLen) (w2 : c.size ≤ maxLen) (w : World) (h : a.size + b.size + c.size ≤ 1048576) :
    Calls Try.prog 4 #[.string a, .string b, .string c] w fun e w' => e = .returned (.bool true) ∧ Grown w w' := by
  have hb := bytes_any a b c w0 w1 w2 true (decide_eq_true h) w
  have H : Hid (Calls Try.prog 7 #[.string a, .string b, .string c] w fun e w' => e = .returned (.bool true) ∧ w' = w) := hb
  have hp' : Hid (sB b a = p) := (sB_comm b a).trans hp
  have hq' : Hid (sB c b = q) := (sB_comm c b).trans hq
  have hr' : Hid (sB c a = r) := (sB_comm c a).trans hr
  have hs' : Hid (sB a a = s) := (sB_self a).trans hs
  have hp0 : Hid (sB a b = p) := hp
  have hq0 : Hid (sB b c = q) := hq
  have hr0 : Hid (sB a c = r) := hr
  clear hb hp hq hr
  have HS : Hid (decide (0 < a.size) = s) := hs
  clear hs
  go_enter Try.func4, Try.ntmps4
  go_wp2_with fail
  refine H.out.mono ?_
  rintro e w' ⟨rfl, rfl⟩
  go_wp2_with fail
  refine (man_new a _).mono ?_
  rintro e u1 ⟨rfl, g1, ma, z1⟩
  go_wp2_with fail
  refine (man_new b _).mono ?_
  rintro e u2 ⟨rfl, g2, mb, z2⟩
  replace ma := ma.up g2
  replace g2 := g1.trans g2
  go_wp2_with fail
  refine (man_new c _).mono ?_
  rintro e u3 ⟨rfl, g3, mc, z3⟩
  replace ma := ma.up g3
  replace mb := mb.up g3
  replace g3 := g2.trans g3
  clear g1 g2
  go_wp2_with fail
  refine (zsame_any _ _ a b p _ (by omega) ma mb hp0.out).mono ?_
  rintro e u4 ⟨rfl, g4⟩
  replace ma := ma.up g4
  replace mb := mb.up g4
  replace mc := mc.up g4
  replace g4 := g3.trans g4
  clear g3
  go_wp2_with fail
  refine (zsame_any _ _ b a p _ (by omega) mb ma hp'.out).mono ?_
  rintro e u5 ⟨rfl, g5⟩
  replace ma := ma.up g5
  replace mb := mb.up g5
  replace mc := mc.up g5
  replace g5 := g4.trans g5
  clear g4
  go_wp2_with fail
  refine (zsame_any _ _ b c q _ (by omega) mb mc hq0.out).mono ?_
  rintro e u6 ⟨rfl, g6⟩
  replace ma := ma.up g6
  replace mb := mb.up g6
  replace mc := mc.up g6
  replace g6 := g5.trans g6
  clear g5
  go_wp2_with fail
  refine (zsame_any _ _ c b q _ (by omega) mc mb hq'.out).mono ?_
  rintro e u7 ⟨rfl, g7⟩
  replace ma := ma.up g7
  replace mb := mb.up g7
  replace mc := mc.up g7
  replace g7 := g6.trans g7
  clear g6
  go_wp2_with fail
  refine (zsame_any _ _ a c r _ (by omega) ma mc hr0.out).mono ?_
  rintro e u8 ⟨rfl, g8⟩
  replace ma := ma.up g8
  replace mb := mb.up g8
  replace mc := mc.up g8
  replace g8 := g7.trans g8
  clear g7
  go_wp2_with fail
  refine (zsame_any _ _ c a r _ (by omega) mc ma hr'.out).mono ?_
  rintro e u9 ⟨rfl, g9⟩
  replace ma := ma.up g9
  replace mb := mb.up g9
  replace mc := mc.up g9
  replace g9 := g8.trans g9
  clear g8
  cases p <;> cases q <;> cases r
  all_goals (try (exact absurd (t1 rfl rfl) Bool.false_ne_true)) <;> (try (exact absurd (t2 rfl rfl) Bool.false_ne_true)) <;> (try (exact absurd (t3 rfl rfl) Bool.false_ne_true))
  all_goals
    clear t1 t2 t3
    go_wp2_with fail
    refine (man_new a _).mono ?_
    rintro e v1 ⟨rfl, k1, na, y1⟩
    replace ma := ma.up k1
    replace k1 := g9.trans k1
    clear g9
    go_wp2_with fail
    refine (man_new b _).mono ?_
    rintro e v2 ⟨rfl, k2, nb, y2⟩
    replace ma := ma.up k2
    replace na := na.up k2
    replace k2 := k1.trans k2
    clear k1
    go_wp2_with fail
    refine (zsame_any _ _ a b _ _ (Nat.ne_of_lt y1) na nb hp0.out).mono ?_
    rintro e v3 ⟨rfl, k3⟩
    replace ma := ma.up k3
    replace k3 := k2.trans k3
    clear k2 na nb
    go_wp2_with fail
    refine (zsame_self _ _).mono ?_
    rintro e v4 ⟨rfl, k4⟩
    replace ma := ma.up k4
    replace k4 := k3.trans k4
    clear k3
    go_wp2_with fail
    refine (man_new a _).mono ?_
    rintro e v5 ⟨rfl, k5, nc, y5⟩
    have hl := ma.lt
    replace ma := ma.up k5
    replace k5 := k4.trans k5
    clear k4
    go_wp2_with fail
    refine (zsame_any _ _ a a s _ (Nat.ne_of_lt hl) ma nc hs'.out).mono ?_
    rintro e v6 ⟨rfl, k6⟩
    replace k6 := k5.trans k6
    clear k5
    by_cases h0 : 0 < a.size
    · obtain rfl : s = true := by rw [← HS.out]; exact decide_eq_true h0
      go_wp2
      go_ret
      exact ⟨rfl, k6.1⟩
    · obtain rfl : s = false := by rw [← HS.out]; exact decide_eq_false h0
      have h1 : decide (0 < a.size) = false := decide_eq_false h0
      clear h0
      go_wp2
      go_ret
      exact ⟨rfl, k6.1⟩

theorem walk (a0 : ByteArray) (a1 : ByteArray) (a2 : ByteArray) (w0 : a0.size ≤ maxLen) (w1 : a1.size ≤ maxLen) (w2 : a2.size ≤ maxLen) (w : World) :
    Calls Try.prog 4 #[.string a0, .string a1, .string a2] w fun e w' => e = .returned (.bool true) ∧ Grown w w' := by
  by_cases h : a0.size + a1.size + a2.size ≤ 1048576
  · exact walk_short a0 a1 a2 _ _ _ _ rfl rfl rfl rfl sB_trans (fun x y => sB_trans ((sB_comm a1 a0).trans x) y) (fun x y => sB_trans x ((sB_comm a2 a1).trans y)) w0 w1 w2 w h
  · exact walk_long a0 a1 a2 w0 w1 w2 w h

/-! ### The row's step, as the given shell has it. -/
set_option maxRecDepth 100000 in
theorem lifted (os : Os) (started : os.Started) (H : Type) (enc : TypeId × Value → H) :
    ReturnsInHanded {} Try.checked os 4 .any (Rows.fnSameInsurerEquivalenceSpec.pre6 enc Try.prog Try.f4 Rows.fnSameInsurerEquivalenceRow.domain false) (Rows.fnSameInsurerEquivalenceSpec.post enc Try.prog Try.f4 false true false false) := by
  refine returnsInHanded_of_change (C := Try.checked) own started (by kernel_rfl) Try.func4
    (ChangeSpec.witness6 (enc := enc) (C := Try.checked) false ⟨#[], #[.string ByteArray.empty, .string ByteArray.empty, .string ByteArray.empty], []⟩ 8 (by kernel_rfl) (by kernel_rfl) (by kernel_rfl) (by kernel_rfl)) ?_
  intro W base args ds gs before hval0 hW hcnd _
  have hval : ∀ (j : Nat) t v, Try.f4.params[j]? = some t → args[j]? = some v → Value.okWide Try.prog W .any base t v := hval0
  have hW' := hW
  obtain ⟨p, q, hA0, hV, rfl, hfz, hnd⟩ := hW
  have hA : DataW.TrodAll enc Try.prog W 0 (fun _ => true) true Try.f4.params.toList args.toList ds p := hA0
  rw [Try.params4] at hA hval
  obtain ⟨v0, vs0, d0, ds0, p0, q0, hargs, rfl, rfl, h0, r0⟩ := trodAll_cons hA
  obtain ⟨v1, vs1, d1, ds1, p1, q1, rfl, rfl, rfl, h1, r1⟩ := trodAll_cons r0
  obtain ⟨v2, vs2, d2, ds2, p2, q2, rfl, rfl, rfl, h2, r2⟩ := trodAll_cons r1
  obtain ⟨rfl, rfl, rfl⟩ := trodAll_nil r2
  obtain rfl : args = #[v0, v1, v2] := by cases args; simp_all
  obtain ⟨rfl, rfl⟩ := trodVars_none hV
  obtain ⟨a0, rfl, rfl, rfl, w0⟩ := open_string Try.underlying9 (hval 0 9 v0 rfl rfl) h0
  obtain ⟨a1, rfl, rfl, rfl, w1⟩ := open_string Try.underlying9 (hval 1 9 v1 rfl rfl) h1
  obtain ⟨a2, rfl, rfl, rfl, w2⟩ := open_string Try.underlying9 (hval 2 9 v2 rfl rfl) h2
  clear hA0 hval0
  simp only [List.append_nil] at hW'
  refine (walk a0 a1 a2 w0 w1 w2 W).mono fun e W' ⟨he, hg⟩ => ?_
  subst he
  exact ⟨_, rfl, post_of_same (pa := []) (pv := []) hW' (fun _ _ _ => (trodAll_cons_mk (shut_bool Try.underlying4 _) trodAll_mk0)) (fun sp _ => (trodAll_cons_mk (shut_string Try.underlying9 w0) (trodAll_cons_mk (shut_string Try.underlying9 w1) (trodAll_cons_mk (shut_string Try.underlying9 w2) trodAll_mk0)))) (fun _ _ => rfl) rfl
    (hg.frame _) hg.2.1 (ok_one (by kernel_rfl) rfl (okWide_bool_mk Try.underlying4 _))⟩

theorem over : Rows.fnSameInsurerEquivalenceRow.holds Try.pinned (OpenSpec.ofChange Rows.fnSameInsurerEquivalenceSpec) :=
  OpenClaim.holds_of_wide 4 Try.f4 rfl rfl rfl rfl rfl rfl rfl ⟨rfl, rfl, rfl, rfl, rfl⟩ rfl rfl rfl rfl rfl (by kernel_rfl) Try.func4 (by kernel_rfl)
    (of_decide_eq_true (by kernel_rfl)) (by unfold Func.isWrapper; first | (rw [if_pos (by decide +kernel)]; kernel_rfl) | (rw [if_neg (by decide +kernel)]; exact ⟨rfl, rfl⟩))
    (fun os started H enc _ => lifted os started H enc)

/-- The statement. -/
theorem proved : Rows.FnSameInsurerEquivalenceSaid :=
  over
end Go.Proofs.Qxb6604434a.fnSameInsurerEquivalence

namespace Go.Proofs.Qxb6604434a
theorem fnSameInsurerEquivalence_proved : Rows.FnSameInsurerEquivalenceSaid := fnSameInsurerEquivalence.proved
end Go.Proofs.Qxb6604434a
