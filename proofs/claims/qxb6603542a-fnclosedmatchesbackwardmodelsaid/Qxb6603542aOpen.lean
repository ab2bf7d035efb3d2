/-
  The argument, opened: a []OpInB1 that can be read is a list of operations in memory.
-/
import Derived.Test.Qxb6603542aBase
import Derived.Deep.Slices
namespace Go.Proofs.Qxb6603542a
open Go.ChangeShapes Go.WideShapes Go.ChangeAt Go.RowKit

theorem cellsOf31 : Try.prog.cellsOf 31 = 4 := by kernel_rfl
theorem cellsOf3 : Try.prog.cellsOf 3 = 1 := by kernel_rfl
theorem cellsOf9 : Try.prog.cellsOf 9 = 1 := by kernel_rfl

section
variable {H : Type} {enc : TypeId × Value → H} {w : World} {base : Nat} {spare : Nat → Bool} {held : Bool}

theorem elem_op {n : Nat} {cs : List Value} {x : DataW H × List MemPlace} (h : DataW.trod enc Try.prog w base spare held n 31 cs = some x) : ∃ o : OpD, cs = o.cells ∧ Wf o := by
  obtain ⟨xs, m, _, _, hl, hx, hf⟩ := DataW.trod_struct Try.underlying31 h
  rw [cellsOf31] at hl
  match cs, hl with
  | [c0, c1, c2, c3], _ =>
    have f0 := hf 0 _ rfl
    have f1 := hf 1 _ rfl
    have f2 := hf 2 _ rfl
    have f3 := hf 3 _ rfl
    simp [cellsOf3, cellsOf9] at f0 f1 f2 f3
    rw [List.getElem?_eq_getElem (by rw [hx]; decide)] at f0 f1 f2 f3
    obtain ⟨k, e0, _, w0⟩ := DataW.trod_int Try.underlying3 f0
    obtain ⟨t, e1, _, w1⟩ := DataW.trod_int Try.underlying3 f1
    obtain ⟨n, e2, _, w2⟩ := DataW.trod_int Try.underlying3 f2
    obtain ⟨s, e3, _, w3⟩ := DataW.trod_string Try.underlying9 f3
    simp at e0 e1 e2 e3
    subst e0 e1 e2 e3
    exact ⟨⟨k, t, n, s⟩, rfl, w0, w1, w2, w3⟩

theorem four_cells {a : Addr} {c0 c1 c2 c3 : Value} (h : w.cells? base a 4 = some [c0, c1, c2, c3]) :
    w.cell? (a.add 0) = some c0 ∧ w.cell? (a.add 1) = some c1 ∧ w.cell? (a.add 2) = some c2 ∧ w.cell? (a.add 3) = some c3 := by
  unfold World.cells? at h
  split at h
  · have e : List.range 4 = [0, 1, 2, 3] := rfl
    rw [e] at h
    simp [List.mapM_cons, Option.bind_eq_some_iff] at h
    exact h
  · cases h

theorem open_ops {a : Option Addr} {len cap : Nat} {d : DataW H} {p : List MemPlace} (h : DataW.Trod enc Try.prog w base spare held 22 (.slice a len cap) d p) : ∃ l, IsOps w a len cap l := by
  obtain ⟨fuel, hf⟩ := h
  rcases Deep.open_slice Try.underlying22 hf with ⟨hcs, _⟩ | ⟨x, len', cap', m, n, D, Pl, hcs, hb, hl, hm, hmm, _, hx⟩
  · simp [Value.cells] at hcs
    obtain ⟨rfl, rfl, rfl⟩ := hcs
    exact ⟨[], .inl ⟨rfl, rfl, rfl, rfl⟩⟩
  · simp [Value.cells] at hcs
    obtain ⟨rfl, rfl, rfl⟩ := hcs
    have hle : len ≤ m := by rw [hmm]; split <;> omega
    rw [cellsOf31] at hx
    obtain ⟨f, hfx⟩ := @Deep.choose_lt OpD ⟨zeroOp⟩ len (fun i o => w.cells? base (x.add (i * 4)) 4 = some o.cells ∧ Wf o) (fun i hi => by
      obtain ⟨cs', h1, h2⟩ := hx i (by omega)
      obtain ⟨o, rfl, ho⟩ := elem_op h2
      exact ⟨o, h1, ho⟩)
    refine ⟨(List.range len).map f, .inr ⟨x, rfl, by simp, fun h0 => ?_, ?_⟩⟩
    · obtain ⟨b, off, sp⟩ := x
      have hsp : sp = none := by
        have h1 := (four_cells (hfx 0 h0).1).1
        simpa [Addr.add] using World.cell?_spot h1
      subst hsp
      refine ⟨rfl, fun i hi => ?_⟩
      have hil : i < len := by simpa using hi
      have h1 := four_cells (hfx i hil).1
      simp only [add_plain, Nat.add_zero] at h1
      simpa using h1
    · intro o ho
      simp at ho
      obtain ⟨i, hi, rfl⟩ := ho
      exact (hfx i hi).2
end
end Go.Proofs.Qxb6603542a
