/-
  The law FnRoomWaitPerRoom: the walk by the contracts of its callees (Qxb6604607aRoom); the frame is the given shell's.
-/
import Derived.Test.Qxb6604607aRoom
import Derived.LoopTactic
import Derived.WalkKit
import Derived.ProofKit
import Derived.OpenShut
import Derived.ShutString
namespace Go.Proofs.Qxb6604607a.fnRoomWaitPerRoom
open Go.ChangeShapes Go.WideShapes Go.ChangeAt Go.RowKit
open Go.ChangeMaps (open_string shut_string)
set_option linter.unusedVariables false      -- a walk need not use every 'w<i>' (that an integer argument fits its kind)

theorem own : ownKnob Try.prog.godebug = none := by kernel_rfl

/-! ### The walk: the Go text returns true; the world has at most new blocks. -/
theorem walk_out (a0 : Int) (h : a0 < 1 ∨ (1 ≤ a0 ∧ 65536 < a0)) (w : World) :
    Calls Try.prog 4 #[.int .i64 a0] w fun e w' => e = .returned (.bool true) ∧ Grown w w' := by
  rcases h with h | ⟨h, h'⟩
  all_goals
    go_enter Try.func4, Try.ntmps4
    go_wp2
    go_ret
    exact ⟨rfl, Grown.refl _⟩

theorem room_laid (w : World) : Room (w.alloc (.cells #[.int .i32 0, .int .u32 0, .chan none, .int .u32 0] 40)) w.heap.size none 0 := (MapKept.heap_alloc w _).1

/-- Two rooms laid one behind the other. -/
theorem two_laid (w : World) : ∃ u : World, u = (w.alloc (.cells #[.int .i32 0, .int .u32 0, .chan none, .int .u32 0] 40)).alloc (.cells #[.int .i32 0, .int .u32 0, .chan none, .int .u32 0] 40) ∧
    Room u w.heap.size none 0 ∧ Room u (w.heap.size + 1) none 0 ∧ Grown w u ∧ u.heap.size = w.heap.size + 2 := by
  refine ⟨_, rfl, ?_, ?_, ((Grown.refl w).alloc _ _).alloc _ _, by simp⟩
  · exact (Below.heap_alloc _ _ _ (by simp)).trans (room_laid w)
  · have := room_laid (w.alloc (.cells #[.int .i32 0, .int .u32 0, .chan none, .int .u32 0] 40))
    simpa using this

set_option maxRecDepth 100000 in
set_option maxHeartbeats 800000 in
theorem walk_in (n : Nat) (h1 : 1 ≤ n) (h2 : n ≤ 65536) (w : World) :
    Calls Try.prog 4 #[.int .i64 n] w fun e w' => e = .returned (.bool true) ∧ Grown w w' := by
  have g1 : (1 : Int) ≤ n := by omega
  have g2 : (n : Int) ≤ 65536 := by omega
  have hmk := eql_chan
  have hnk := neq_chan
  go_enter Try.func4, Try.ntmps4
  go_wp2_with fail
  refine (room_new _).mono ?_
  rintro e u1 ⟨rfl, rfl⟩
  go_wp2_with fail
  refine (room_new _).mono ?_
  rintro e u2 ⟨rfl, rfl⟩
  go_wp2_with fail
  obtain ⟨u, hu, ra, rb, G, z⟩ := two_laid w
  rw [← hu]
  clear hu
  refine (zwait_first _ 0 _ ra).mono ?_
  rintro e u3 ⟨rfl, W3⟩
  have G3 := W3.only.grown G (Nat.le_refl _)
  have R3' := rb.up W3.only (by omega)
  obtain ⟨R3, C3, _⟩ := W3
  have hcb : u.heap.size ≠ w.heap.size := by omega
  have hcd : u.heap.size ≠ w.heap.size + 1 := by omega
  have hbd : w.heap.size ≠ w.heap.size + 1 := by omega
  have hbl : w.heap.size ≤ w.heap.size := Nat.le_refl _
  have hdl : w.heap.size ≤ w.heap.size + 1 := by omega
  clear ra rb G z
  generalize hd : w.heap.size + 1 = d at *
  generalize hb : w.heap.size = b at *
  generalize hc : u.heap.size = c at *
  have HB : Hid (w.heap.size = b) := hb
  clear hb hc hd
  go_wp2_with fail
  go_loopw [5, 6] (fun x i wr => ∃ k : Nat, 1 ≤ k ∧ k ≤ n ∧ x = .chan (some c) ∧ i = .int .i64 k ∧ Room wr b (some c) 1 ∧ Chan wr c ∧ Room wr d none 0 ∧ Grown w wr) (fun _ i _ => n - (intOf i).toNat)
  case atStart => exact ⟨1, Nat.le_refl _, h1, rfl, rfl, R3, C3, R3', G3⟩
  case round =>
    obtain ⟨k, hk1, hk2, rfl, rfl, R, C, R', G⟩ := hrel
    by_cases hlt : k < n
    · go_wp2_with fail
      refine (zwait_again b c 1 _ R C hcb).mono ?_
      rintro e w4 ⟨rfl, W4⟩
      have G4 := W4.only.grown G (Nat.le_of_eq HB.out)
      have R4' := R'.up W4.only (Ne.symm hbd)
      obtain ⟨R4, C4, _⟩ := W4
      go_wp2
      go_roundw
      case rel => exact ⟨k + 1, by omega, by omega, rfl, by go_num, R4, C4, R4', G4⟩
      case measure => simp [intOf]; omega
    · go_wp2_with fail
      refine (zwait_first _ 0 _ R').mono ?_
      rintro e w5 ⟨rfl, W5⟩
      have G5 := W5.only.grown G (by rw [HB.out]; exact hdl)
      have R5 := R.up W5.only hbd
      have C5 := C.up W5.only hcd
      obtain ⟨R5', C5', _⟩ := W5
      have hcc : (c == wr.heap.size) = false := by have := C.lt; simp; omega
      generalize wr.heap.size = c2 at *
      go_wp2_with fail
      refine (armed_any _ 1 true rfl _ R5.c3).mono ?_
      rintro e w6 ⟨rfl, rfl⟩
      go_wp2_with fail
      refine (armed_any _ 1 true rfl _ R5'.c3).mono ?_
      rintro e w7 ⟨rfl, rfl⟩
      go_wp2_with fail
      refine (freed_any _ (some c) _ R5.c2).mono ?_
      rintro e w8 ⟨rfl, rfl⟩
      go_wp2_with fail
      refine (freed_any _ (some c2) _ R5'.c2).mono ?_
      rintro e w9 ⟨rfl, rfl⟩
      go_wp2_with fail
      refine (zwait_again b c 1 _ R5 C5 hcb).mono ?_
      rintro e w10 ⟨rfl, W10⟩
      have G10 := W10.only.grown G5 (Nat.le_of_eq HB.out)
      go_wp2
      go_ret
      exact ⟨rfl, G10⟩

theorem walk (a0 : Int) (w0 : (Lit.int .i64 a0).wf = true) (w : World) :
    Calls Try.prog 4 #[.int .i64 a0] w fun e w' => e = .returned (.bool true) ∧ Grown w w' := by
  by_cases h : 1 ≤ a0 ∧ a0 ≤ 65536
  · obtain ⟨n, rfl⟩ := Int.eq_ofNat_of_zero_le (show 0 ≤ a0 by omega)
    exact walk_in n (by omega) (by omega) w
  · exact walk_out a0 (by omega) w

/-! ### The row's step, as the given shell has it. -/
set_option maxRecDepth 100000 in
theorem lifted (os : Os) (started : os.Started) (H : Type) (enc : TypeId × Value → H) :
    ReturnsInHanded {} Try.checked os 4 .any (Rows.fnRoomWaitPerRoomSpec.pre6 enc Try.prog Try.f4 Rows.fnRoomWaitPerRoomRow.domain false) (Rows.fnRoomWaitPerRoomSpec.post enc Try.prog Try.f4 false true false false) := by
  refine returnsInHanded_of_change (C := Try.checked) own started (by kernel_rfl) Try.func4
    (ChangeSpec.witness6 (enc := enc) (C := Try.checked) false ⟨#[], #[.int .i64 0], []⟩ 8 (by kernel_rfl) (by kernel_rfl) (by kernel_rfl) (by kernel_rfl)) ?_
  intro W base args ds gs before hval0 hW hcnd _
  have hval : ∀ (j : Nat) t v, Try.f4.params[j]? = some t → args[j]? = some v → Value.okWide Try.prog W .any base t v := hval0
  have hW' := hW
  obtain ⟨p, q, hA0, hV, rfl, hfz, hnd⟩ := hW
  have hA : DataW.TrodAll enc Try.prog W 0 (fun _ => true) true Try.f4.params.toList args.toList ds p := hA0
  rw [Try.params4] at hA hval
  obtain ⟨v0, vs0, d0, ds0, p0, q0, hargs, rfl, rfl, h0, r0⟩ := trodAll_cons hA
  obtain ⟨rfl, rfl, rfl⟩ := trodAll_nil r0
  obtain rfl : args = #[v0] := by cases args; simp_all
  obtain ⟨rfl, rfl⟩ := trodVars_none hV
  obtain ⟨a0, rfl, rfl, rfl, w0⟩ := open_int Try.underlying3 (hval 0 3 v0 rfl rfl) h0
  clear hA0 hval0
  simp only [List.append_nil] at hW'
  refine (walk a0 w0 W).mono fun e W' ⟨he, hg⟩ => ?_
  subst he
  exact ⟨_, rfl, post_of_same (pa := []) (pv := []) hW' (fun _ _ _ => (trodAll_cons_mk (shut_bool Try.underlying4 _) trodAll_mk0)) (fun sp _ => (trodAll_cons_mk (shut_int Try.underlying3 w0) trodAll_mk0)) (fun _ _ => rfl) rfl
    (hg.frame _) hg.2.1 (ok_one (by kernel_rfl) rfl (okWide_bool_mk Try.underlying4 _))⟩

theorem over : Rows.fnRoomWaitPerRoomRow.holds Try.pinned (OpenSpec.ofChange Rows.fnRoomWaitPerRoomSpec) :=
  OpenClaim.holds_of_wide 4 Try.f4 rfl rfl rfl rfl rfl rfl rfl ⟨rfl, rfl, rfl, rfl, rfl⟩ rfl rfl rfl rfl rfl (by kernel_rfl) Try.func4 (by kernel_rfl)
    (of_decide_eq_true (by kernel_rfl)) (by unfold Func.isWrapper; first | (rw [if_pos (by decide +kernel)]; kernel_rfl) | (rw [if_neg (by decide +kernel)]; exact ⟨rfl, rfl⟩))
    (fun os started H enc _ => lifted os started H enc)

/-- The statement. -/
theorem proved : Rows.FnRoomWaitPerRoomSaid :=
  over
end Go.Proofs.Qxb6604607a.fnRoomWaitPerRoom

namespace Go.Proofs.Qxb6604607a
theorem fnRoomWaitPerRoom_proved : Rows.FnRoomWaitPerRoomSaid := fnRoomWaitPerRoom.proved
end Go.Proofs.Qxb6604607a
