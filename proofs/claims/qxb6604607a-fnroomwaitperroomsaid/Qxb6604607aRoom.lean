/-
  Contracts of the callees of the two room laws: ZZnewRoom (5), ZZroomArmed (6), ZZroomFreed (8), (*atomic.Bool).Load (9), Store (14), (*room).wait (10), ZZroomWait (7).
-/
import Derived.Test.Qxb6604607aLocks
import Derived.Conc.SmallLaws
import Derived.WalkKit
import Derived.ProofKit
import Derived.OpenShut
import Derived.Below
import Derived.Defers
import Derived.Laws.LoneSync
import Derived.Laws.EntriesVeiled
import Derived.RegionTactic
import Derived.RegionCalls
namespace Go.Proofs.Qxb6604607a
open Go.ChangeShapes Go.WideShapes Go.ChangeAt Go.RowKit Go.MuLone

theorem room_new (w : World) :
    Calls Try.prog 5 #[] w fun e w' => e = .returned (.pointer (some ⟨w.heap.size, 0, none⟩)) ∧ w' = w.alloc (.cells #[.int .i32 0, .int .u32 0, .chan none, .int .u32 0] 40) := by
  go_enter Try.func5, Try.ntmps5
  go_wp2
  go_ret
  exact ⟨rfl, rfl⟩

theorem load_any (a : Addr) (n : Int) (r : Bool) (hr : (n != 0) = r) (w : World) (hc : w.cell? a = some (.int .u32 n)) :
    Calls Try.prog 9 #[.pointer (some a)] w fun e w' => e = .returned (.bool r) ∧ w' = w := by
  have hld := run_call_load (P := Try.prog) Try.func11 (by kernel_rfl) (by kernel_rfl) (by kernel_rfl) .u32 (by kernel_rfl) hc
  go_enter Try.func9, Try.ntmps9
  go_wp2
  go_ret
  exact ⟨rfl, rfl⟩

theorem armed_any (b : Nat) (n : Int) (r : Bool) (hr : (n != 0) = r) (w : World) (hc : w.cell? ⟨b, 3, none⟩ = some (.int .u32 n)) :
    Calls Try.prog 6 #[.pointer (some ⟨b, 0, none⟩)] w fun e w' => e = .returned (.bool r) ∧ w' = w := by
  go_enter Try.func6, Try.ntmps6
  go_wp2_with fail
  refine (load_any _ n r hr _ hc).mono ?_
  rintro e w' ⟨rfl, rfl⟩
  go_wp2
  go_ret
  exact ⟨rfl, rfl⟩

theorem freed_any (b : Nat) (c : Option Nat) (w : World) (hc : w.cell? ⟨b, 2, none⟩ = some (.chan c)) :
    Calls Try.prog 8 #[.pointer (some ⟨b, 0, none⟩)] w fun e w' => e = .returned (.chan c) ∧ w' = w := by
  go_enter Try.func8, Try.ntmps8
  go_wp2
  go_ret
  exact ⟨rfl, rfl⟩

theorem store_true (a : Addr) (x : Value) (w : World) (hc : w.cell? a = some x) (hz : w.frozen? a = false) :
    Calls Try.prog 14 #[.pointer (some a), .bool true] w fun e w' => e = .returned (.tuple #[]) ∧ w' = w.drew.setCell a (.int .u32 1) := by
  have hc' : w.drew.cell? a = some x := by go_simp
  have hz' : w.drew.frozen? a = false := by go_simp
  have hst := run_call_store (P := Try.prog) Try.func17 (by kernel_rfl) (by kernel_rfl) (by kernel_rfl) (by kernel_rfl) (k := .u32) (y := 1) hc' hz'
  go_enter Try.func14, Try.ntmps14
  go_wp2
  go_region_calls
  all_goals (go_end0; exact ⟨rfl, rfl⟩)

/-- A room lies at block b: unlocked, its channel c, its flag n. -/
def Room (w : World) (b : Nat) (c : Option Nat) (n : Int) : Prop := w.heap[b]? = some (.cells #[.int .i32 0, .int .u32 0, .chan c, .int .u32 n] 40 (0, 0))

theorem Room.c0 {w : World} {b : Nat} {c : Option Nat} {n : Int} (h : Room w b c n) : w.cell? ⟨b, 0, none⟩ = some (.int .i32 0) := by
  unfold Room at h; simp [World.cell?, h]
theorem Room.c2 {w : World} {b : Nat} {c : Option Nat} {n : Int} (h : Room w b c n) : w.cell? ⟨b, 2, none⟩ = some (.chan c) := by
  unfold Room at h; simp [World.cell?, h]
theorem Room.c3 {w : World} {b : Nat} {c : Option Nat} {n : Int} (h : Room w b c n) : w.cell? ⟨b, 3, none⟩ = some (.int .u32 n) := by
  unfold Room at h; simp [World.cell?, h]
theorem Room.fz {w : World} {b : Nat} {c : Option Nat} {n : Int} (h : Room w b c n) (i : Nat) : w.frozen? ⟨b, i, none⟩ = false := by
  unfold Room at h; simp [World.frozen?, h]

theorem Room.lt {w : World} {b : Nat} {c : Option Nat} {n : Int} (h : Room w b c n) : b < w.heap.size := by
  unfold Room at h
  by_cases hx : b < w.heap.size
  · exact hx
  · simp [hx] at h

theorem mk_chan (w : World) : (Instr.makeChan 35 (.int .i64 0)).run Try.prog w = .ok (.chan (some w.heap.size)) (w.alloc (.chan 0 #[] false 0 0 false)) := by
  have h : (Try.prog.info? 28).map (·.bytes) = some 0 := by kernel_rfl
  obtain ⟨i, hi, hb⟩ := Option.map_eq_some_iff.1 h
  simpa using Go.Conc.run_makeChan (P := Try.prog) (w := w) Try.underlying35 hi .i64 0 (by omega) (by rw [hb]; omega)

theorem eql_chan_nil (c : Nat) (w : World) : (binOp .eql 35 (.chan (some c)) (.chan none)).run Try.prog w = .ok (.bool false) w := by
  simp only [binOp]
  have h : ∀ d : Nat, (Op.equalIn (d + 1) 35 (.chan (some c)) (.chan none)).run Try.prog w = .ok false w := fun d => by
    simp [Op.equalIn, run_underlying Try.underlying35]
  simp [Op.equal, Op.maxDepth, h 9999]

theorem eql_nil_nil (w : World) : (binOp .eql 35 (.chan none) (.chan none)).run Try.prog w = .ok (.bool true) w := by
  simp only [binOp]
  have h : ∀ d : Nat, (Op.equalIn (d + 1) 35 (.chan none) (.chan none)).run Try.prog w = .ok true w := fun d => by
    simp [Op.equalIn, run_underlying Try.underlying35]
  simp [Op.equal, Op.maxDepth, h 9999]

theorem heap_set {w : World} {b i : Nat} {v : Value} {c : Array Value} {t : TypeId} {fr : Nat × Nat} (h : w.heap[b]? = some (.cells c t fr)) : (w.setCell ⟨b, i, none⟩ v).heap[b]? = some (.cells (c.setIfInBounds i v) t fr) := by
  simp [World.setCell, Array.getElem?_modify, h]

theorem heap_drew {w : World} {b : Nat} {o : Option Obj} (h : w.heap[b]? = o) : w.drew.heap[b]? = o := h

/-- At most the block b has turned; there may be new blocks. -/
structure Only (b : Nat) (w w' : World) : Prop where
  os : w'.os = w.os
  output : w'.output = w.output
  size : w.heap.size ≤ w'.heap.size
  frozen : ∀ a, w'.frozen? a = w.frozen? a
  block : ∀ k, k < w.heap.size → k ≠ b → w'.heap[k]? = w.heap[k]?

theorem Only.refl (b : Nat) (w : World) : Only b w w := ⟨rfl, rfl, Nat.le_refl _, fun _ => rfl, fun _ _ _ => rfl⟩
theorem Only.set {b : Nat} {w w' : World} (h : Only b w w') (i : Nat) (v : Value) : Only b w (w'.setCell ⟨b, i, none⟩ v) :=
  ⟨h.os, h.output, by simpa [World.setCell] using h.size, fun a => (World.frozen?_setCell _ _ _ _).trans (h.frozen a), fun k hk hb => (Below.heap_setCell _ _ _ _ hb).trans (h.block k hk hb)⟩
theorem Only.chan {b : Nat} {w w' : World} (h : Only b w w') (n : Nat) : Only b w (w'.alloc (.chan n #[] false 0 0 false)) := by
  refine ⟨h.os, h.output, by have := h.size; simp; omega, fun a => ?_, fun k hk hb => (Below.heap_alloc _ _ _ (by have := h.size; omega)).trans (h.block k hk hb)⟩
  refine Eq.trans ?_ (h.frozen a)
  by_cases e : a.block = w'.heap.size
  · have e1 : (w'.alloc (.chan n #[] false 0 0 false)).heap[a.block]? = some (.chan n #[] false 0 0 false) := by rw [e]; exact (MapKept.heap_alloc w' _).1
    have e2 : w'.heap[a.block]? = none := by rw [e]; simp
    simp [World.frozen?, e1, e2]
  · exact World.frozen?_alloc_old _ _ _ e
theorem Only.drew {b : Nat} {w w' : World} (h : Only b w w') : Only b w w'.drew := ⟨h.os, h.output, h.size, h.frozen, h.block⟩
theorem Only.grown {b : Nat} {w0 w w' : World} (h : Only b w w') (g : Grown w0 w) (hb : w0.heap.size ≤ b) : Grown w0 w' := by
  obtain ⟨⟨h1, h2, h3⟩, hf, hs⟩ := g
  refine ⟨⟨h.os.trans h1, h.output.trans h2, fun i hi => ?_⟩, fun a => (h.frozen a).trans (hf a), Nat.le_trans hs h.size⟩
  rw [h.block i (by omega) (by omega)]
  exact h3 i hi

/-- A channel that is open, unbuffered and at rest. -/
def Chan (w : World) (c : Nat) : Prop := w.heap[c]? = some (.chan 0 #[] false 0 0 false)

theorem Room.up {w w' : World} {b d : Nat} {c : Option Nat} {n : Int} (h : Room w b c n) (g : Only d w w') (hd : b ≠ d) : Room w' b c n := (g.block b h.lt hd).trans h
theorem Chan.lt {w : World} {c : Nat} (h : Chan w c) : c < w.heap.size := by
  unfold Chan at h
  by_cases hx : c < w.heap.size
  · exact hx
  · simp [hx] at h
theorem Chan.up {w w' : World} {c d : Nat} (h : Chan w c) (g : Only d w w') (hd : c ≠ d) : Chan w' c := (g.block c h.lt hd).trans h

/-- What a wait leaves. -/
structure Waited (w : World) (b c : Nat) (w' : World) : Prop where
  room : Room w' b (some c) 1
  chan : Chan w' c
  only : Only b w w'

theorem waited_first {w : World} {b : Nat} {n : Int} (h : Room w b none n) :
    Waited w b w.heap.size (((((w.setCell ⟨b, 0, none⟩ (.int .i32 1)).setCell ⟨b, 2, none⟩ (.chan (some w.heap.size))).setCell ⟨b, 3, none⟩ (.int .u32 1)).alloc (.chan 0 #[] false 0 0 false)).drew.setCell ⟨b, 0, none⟩ (.int .i32 0)) := by
  have hb := h.lt
  refine ⟨?_, ?_, ?_⟩
  · have h1 := heap_set (i := 3) (v := .int .u32 1) (heap_set (i := 2) (v := .chan (some w.heap.size)) (heap_set (i := 0) (v := .int .i32 1) h))
    have h2 := (Below.heap_alloc _ (.chan 0 #[] false 0 0 false) b (by simpa [World.setCell] using hb)).trans h1
    have h3 := heap_set (i := 0) (v := .int .i32 0) (heap_drew h2)
    unfold Room
    rw [h3]
    simp
  · unfold Chan
    rw [Below.heap_setCell _ _ _ _ (show w.heap.size ≠ b by omega)]
    refine heap_drew ?_
    have := (MapKept.heap_alloc (((w.setCell ⟨b, 0, none⟩ (.int .i32 1)).setCell ⟨b, 2, none⟩ (.chan (some w.heap.size))).setCell ⟨b, 3, none⟩ (.int .u32 1)) (.chan 0 #[] false 0 0 false)).1
    simpa [World.setCell] using this
  · exact (((((Only.refl b w).set _ _).set _ _).set _ _).chan 0).drew.set _ _

theorem waited_again {w : World} {b c : Nat} {n : Int} (h : Room w b (some c) n) (hc : Chan w c) (hne : c ≠ b) :
    Waited w b c (((w.setCell ⟨b, 0, none⟩ (.int .i32 1)).setCell ⟨b, 3, none⟩ (.int .u32 1)).drew.setCell ⟨b, 0, none⟩ (.int .i32 0)) := by
  have ho : Only b w (((w.setCell ⟨b, 0, none⟩ (.int .i32 1)).setCell ⟨b, 3, none⟩ (.int .u32 1)).drew.setCell ⟨b, 0, none⟩ (.int .i32 0)) := (((Only.refl b w).set _ _).set _ _).drew.set _ _
  refine ⟨?_, hc.up ho hne, ho⟩
  have h1 := heap_set (i := 3) (v := .int .u32 1) (heap_set (i := 0) (v := .int .i32 1) h)
  have h3 := heap_set (i := 0) (v := .int .i32 0) (heap_drew h1)
  unfold Room
  rw [h3]
  simp

set_option maxRecDepth 100000 in
theorem wait_first (b : Nat) (n : Int) (w : World) (h : Room w b none n) :
    Calls Try.prog 10 #[.pointer (some ⟨b, 0, none⟩)] w fun e w' => e = .returned (.chan (some w.heap.size)) ∧ Waited w b w.heap.size w' := by
  have c0 := h.c0
  have c2 := h.c2
  have c3 := h.c3
  have f0 := h.fz 0
  have f2 := h.fz 2
  have f3 := h.fz 3
  have hb := h.lt
  have hmk := mk_chan
  have he := eql_nil_nil
  go_enter_defers Try.func10, Try.ntmps10
  go_wp2_with (go_at_call 12; refine (lock_free muLib ⟨b, 0, none⟩ _ c0 f0).mono ?_; rintro e w' ⟨rfl, rfl⟩)
  refine (store_true ⟨b, 3, none⟩ (.int .u32 n) _ ?_ ?_).mono ?_
  · simp [World.cell?_alloc_past, hb, World.cell?_setCell_other, c3]
  · go_simp
  rintro e w' ⟨rfl, rfl⟩
  go_wp2_with fail
  refine leaves_cons (f := 13) (args := #[.pointer (some ⟨b, 0, none⟩)]) (by simp) (by simp [go_sem]) ?_
  refine (unlock_deferred muLib ⟨b, 0, none⟩ .returning _ ?_ ?_).mono ?_
  · go_simp
  · go_simp
  rintro e u' w'' ⟨rfl, rfl, rfl⟩
  exact ⟨_, results_tmp rfl _ _ _, rfl, waited_first h⟩

set_option maxRecDepth 100000 in
theorem wait_again (b c : Nat) (n : Int) (w : World) (h : Room w b (some c) n) (hc : Chan w c) (hne : c ≠ b) :
    Calls Try.prog 10 #[.pointer (some ⟨b, 0, none⟩)] w fun e w' => e = .returned (.chan (some c)) ∧ Waited w b c w' := by
  have c0 := h.c0
  have c2 := h.c2
  have c3 := h.c3
  have f0 := h.fz 0
  have f2 := h.fz 2
  have f3 := h.fz 3
  have he := eql_chan_nil c
  go_enter_defers Try.func10, Try.ntmps10
  go_wp2_with (go_at_call 12; refine (lock_free muLib ⟨b, 0, none⟩ _ c0 f0).mono ?_; rintro e w' ⟨rfl, rfl⟩)
  refine (store_true ⟨b, 3, none⟩ (.int .u32 n) _ ?_ ?_).mono ?_
  · simp [World.cell?_setCell_other, c3]
  · go_simp
  rintro e w' ⟨rfl, rfl⟩
  go_wp2_with fail
  refine leaves_cons (f := 13) (args := #[.pointer (some ⟨b, 0, none⟩)]) (by simp) (by simp [go_sem]) ?_
  refine (unlock_deferred muLib ⟨b, 0, none⟩ .returning _ ?_ ?_).mono ?_
  · go_simp
  · go_simp
  rintro e u' w'' ⟨rfl, rfl, rfl⟩
  exact ⟨_, results_tmp rfl _ _ _, rfl, waited_again h hc hne⟩

theorem zwait_first (b : Nat) (n : Int) (w : World) (h : Room w b none n) :
    Calls Try.prog 7 #[.pointer (some ⟨b, 0, none⟩)] w fun e w' => e = .returned (.chan (some w.heap.size)) ∧ Waited w b w.heap.size w' := by
  go_enter Try.func7, Try.ntmps7
  go_wp2_with fail
  refine (wait_first b n _ h).mono ?_
  rintro e w' ⟨rfl, hw⟩
  go_wp2
  go_ret
  exact ⟨rfl, hw⟩

theorem zwait_again (b c : Nat) (n : Int) (w : World) (h : Room w b (some c) n) (hc : Chan w c) (hne : c ≠ b) :
    Calls Try.prog 7 #[.pointer (some ⟨b, 0, none⟩)] w fun e w' => e = .returned (.chan (some c)) ∧ Waited w b c w' := by
  have hcall := wait_again b c n w h hc hne
  have H : Hid (Calls Try.prog 10 #[.pointer (some ⟨b, 0, none⟩)] w fun e w' => e = .returned (.chan (some c)) ∧ Waited w b c w') := hcall
  clear hcall hne
  go_enter Try.func7, Try.ntmps7
  go_wp2_with fail
  refine H.out.mono ?_
  rintro e w' ⟨rfl, hw⟩
  go_wp2
  go_ret
  exact ⟨rfl, hw⟩

theorem eql_chan (c d : Option Nat) (w : World) : (binOp .eql 25 (.chan c) (.chan d)).run Try.prog w = .ok (.bool (c == d)) w := by
  simp only [binOp]
  have h : ∀ k : Nat, (Op.equalIn (k + 1) 25 (.chan c) (.chan d)).run Try.prog w = .ok (c == d) w := fun k => by
    simp [Op.equalIn, run_underlying Try.underlying25]
  simp [Op.equal, Op.maxDepth, h 9999]

theorem neq_chan (c d : Option Nat) (w : World) : (binOp .neq 25 (.chan c) (.chan d)).run Try.prog w = .ok (.bool (!(c == d))) w := by
  simp only [binOp]
  have h : ∀ k : Nat, (Op.equalIn (k + 1) 25 (.chan c) (.chan d)).run Try.prog w = .ok (c == d) w := fun k => by
    simp [Op.equalIn, run_underlying Try.underlying25]
  simp [Op.equal, Op.maxDepth, h 9999]

theorem run_get {w : World} {c : Nat} (h : Chan w c) : (getObj c).run Try.prog w = .ok (.chan 0 #[] false 0 0 false) w := by
  unfold Chan at h
  simp [getObj, Sem.run, h]

theorem len_chan {w : World} {c : Nat} (h : Chan w c) (t : TypeId) : (Builtin.len_ #[25] t #[.chan (some c)]).run Try.prog w = .ok (.int .i64 0) w := by
  simp [Builtin.len_, run_underlying Try.underlying25, run_get h, goInt]

theorem cap_chan {w : World} {c : Nat} (h : Chan w c) (t : TypeId) : (Builtin.cap_ #[25] t #[.chan (some c)]).run Try.prog w = .ok (.int .i64 0) w := by
  simp [Builtin.cap_, run_underlying Try.underlying25, run_get h, goInt]
end Go.Proofs.Qxb6604607a
