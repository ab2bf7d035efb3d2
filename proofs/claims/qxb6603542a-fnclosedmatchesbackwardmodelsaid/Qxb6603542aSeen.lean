/-
  The two lists of attempts that zzClosedModelB1 keeps, and its list of operations: what each append does to the others.
-/
import Derived.Test.Qxb6603542aSame
import Derived.Maps.AppendAt
namespace Go.Proofs.Qxb6603542a
open Go.ChangeShapes Go.WideShapes Go.ChangeAt Go.RowKit

theorem info3 : (Try.prog.info? 3).map (fun i => (i.zero, i.size, i.bytes)) = some (some (.int .i64 0), 1, 8) := by kernel_rfl

/-- Two slices of ints, in rows of their own, that hold the attempts S. -/
structure Seen (w : World) (base : Nat) (v4 v5 : Value) (S : List (Int × Int)) : Prop where
  o4 : w.ownsRow base 3 1 v4 S.length (S.map fun p => Value.int .i64 p.1)
  o5 : w.ownsRow base 3 1 v5 S.length (S.map fun p => Value.int .i64 p.2)
  apart : ∀ g, v4.ownBlock = some g → v5.ownBlock ≠ some g

theorem seen_nil (w : World) (base : Nat) : Seen w base (.slice none 0 0) (.slice none 0 0) [] :=
  ⟨World.ownsRow_nil _ _ _ _, World.ownsRow_nil _ _ _ _, fun g h => by simp [Value.ownBlock] at h⟩

theorem row_shape {w : World} {base : Nat} {v : Value} {n : Nat} {xs : List Value} (h : w.ownsRow base 3 1 v n xs) :
    ∃ a cap, v = .slice a n cap ∧ (0 < n → ∃ g, a = some ⟨g, 0, none⟩ ∧ g < w.heap.size ∧ ∀ j, j < n → w.cell? ⟨g, j, none⟩ = xs[j]?) := by
  have h0 := h
  rcases h.2 with ⟨rfl, rfl⟩ | ⟨g, cap, cur, rfl, _, hg, _⟩
  · exact ⟨none, 0, rfl, fun h0 => absurd h0 (Nat.lt_irrefl _)⟩
  · exact ⟨_, cap, rfl, fun _ => ⟨g, rfl, (Array.getElem?_eq_some_iff.1 hg).1, fun j hj => h0.cellAt j (by omega)⟩⟩

/-- Rows of two element types lie in two blocks. -/
theorem other_type {w : World} {base base' : Nat} {e e' : TypeId} {s s' : Nat} {v v' : Value} {n n' : Nat} {xs xs' : List Value} (h : w.ownsRow base e s v n xs) (h' : w.ownsRow base' e' s' v' n' xs') (hne : e ≠ e') :
    v.ownBlock = none ∨ v.ownBlock ≠ v'.ownBlock := by
  rcases h.2 with ⟨rfl, _⟩ | ⟨g, cap, cur, rfl, _, hg, _⟩
  · exact .inl rfl
  · right
    rcases h'.2 with ⟨rfl, _⟩ | ⟨g', cap', cur', rfl, _, hg', _⟩
    · simp [Value.ownBlock]
    · simp only [Value.ownBlock, ne_eq, Option.some.injEq]
      intro e2
      subst e2
      rw [hg] at hg'
      simp at hg'
      exact hne hg'.2

/-- The box of one operation. -/
def Box (w : World) (bx : Nat) (o : OpD) : Prop := w.heap[bx]? = some (.cells #[.int .i64 o.k, .int .i64 o.t, .int .i64 o.n, .string o.s] 31 (0, 0))

theorem Box.cells {w : World} {bx : Nat} {o : OpD} (h : Box w bx o) :
    w.cell? ⟨bx, 0, none⟩ = some (.int .i64 o.k) ∧ w.cell? ⟨bx, 1, none⟩ = some (.int .i64 o.t) ∧ w.cell? ⟨bx, 2, none⟩ = some (.int .i64 o.n) ∧ w.cell? ⟨bx, 3, none⟩ = some (.string o.s) := by
  unfold Box at h
  simp [World.cell?, h]
theorem Box.lt {w : World} {bx : Nat} {o : OpD} (h : Box w bx o) : bx < w.heap.size := (Array.getElem?_eq_some_iff.1 h).1
theorem box_made (w : World) (o : OpD) : Box (w.alloc (.cells #[.int .i64 o.k, .int .i64 o.t, .int .i64 o.n, .string o.s] 31)) w.heap.size o := (MapKept.heap_alloc w _).1
theorem Box.kept {w w' : World} {bx : Nat} {o : OpD} {ob : Obj} {r : Option Nat} (h : Box w bx o) (hg : (w.alloc ob).grownBy w' r) (hne : some bx ≠ r) : Box w' bx o := by
  have hl := h.lt
  exact (hg.block bx (by simp; omega) hne).trans ((Below.heap_alloc _ _ _ hl).trans h)
theorem Box.ne_row {w : World} {bx : Nat} {o : OpD} {base : Nat} {v : Value} {n : Nat} {xs : List Value} (h : Box w bx o) (hr : w.ownsRow base 3 1 v n xs) : some bx ≠ v.ownBlock := by
  unfold Box at h
  rcases hr.2 with ⟨rfl, _⟩ | ⟨g, cap, cur, rfl, _, hg, _⟩
  · simp [Value.ownBlock]
  · simp only [Value.ownBlock, ne_eq, Option.some.injEq]
    intro e
    subst e
    rw [h] at hg
    simp at hg

theorem own_drewN {w : World} {base : Nat} {e : TypeId} {s n : Nat} {v : Value} {xs : List Value} (h : w.ownsRow base e s v n xs) (q : Nat) : (w.drewN q).ownsRow base e s v n xs := h
theorem Seen.drewN {w : World} {base : Nat} {v4 v5 : Value} {S : List (Int × Int)} (h : Seen w base v4 v5 S) (q : Nat) : Seen (w.drewN q) base v4 v5 S := ⟨h.o4, h.o5, h.apart⟩
theorem Seen.alloc {w : World} {base : Nat} {v4 v5 : Value} {S : List (Int × Int)} (h : Seen w base v4 v5 S) (o : Obj) : Seen (w.alloc o) base v4 v5 S := ⟨h.o4.alloc o, h.o5.alloc o, h.apart⟩
theorem Box.drewN {w : World} {bx : Nat} {o : OpD} (h : Box w bx o) (q : Nat) : Box (w.drewN q) bx o := h
theorem Seen.get {w : World} {base g4 g5 p4 p5 : Nat} {S : List (Int × Int)} (h : Seen w base (.slice (some ⟨g4, 0, none⟩) S.length p4) (.slice (some ⟨g5, 0, none⟩) S.length p5) S) {j : Nat} (hj : j < S.length) :
    w.cell? ⟨g4, j, none⟩ = some (.int .i64 S[j].1) ∧ w.cell? ⟨g5, j, none⟩ = some (.int .i64 S[j].2) := by
  rw [h.o4.cellAt j (by omega), h.o5.cellAt j (by omega)]
  simp [hj]

theorem row_snoc31 {W : World} {base : Nat} {v' : Value} {o : OpD} {c : List OpD} (h : W.ownsRow base 31 4 v' (c.length + 1) (row c ++ o.cells)) : W.ownsRow base 31 4 v' (c ++ [o]).length (row (c ++ [o])) := by
  rw [row_append, row_one, List.length_append]
  exact h

section
variable {w W w1 : World} {base : Nat} {v3 v3' v4 v5 v4' v5' : Value} {R : List OpD} {S : List (Int × Int)}

/-- Behind an append to the operations. -/
theorem rev_push (Y : Array Value) (h3 : W.ownsRow base 31 4 v3 R.length (row R)) (hS : Seen W base v4 v5 S) (hb : Below base w W) (hB : base ≤ W.heap.size) (hg : (W.alloc (.cells Y 31)).grownBy w1 v3.ownBlock) :
    Seen w1 base v4 v5 S ∧ Below base w w1 ∧ W.heap.size < w1.heap.size := by
  refine ⟨⟨(hS.o4.alloc _).kept hg (other_type hS.o4 h3 (by decide)), (hS.o5.alloc _).kept hg (other_type hS.o5 h3 (by decide)), hS.apart⟩, ?_, ?_⟩
  · exact (hb.alloc hB _).grown hg (by simp; omega) (fun k e => (h3.lt k e).1)
  · have := hg.size
    simp at this
    omega

/-- Behind an append of a number to one of the two lists: the operations stay. -/
theorem int_push (y : Array Value) {v : Value} {n : Nat} {xs : List Value} (h3 : W.ownsRow base 31 4 v3 R.length (row R)) (hv : W.ownsRow base 3 1 v n xs) (hb : Below base w W) (hB : base ≤ W.heap.size) (hg : (W.alloc (.cells y 3)).grownBy w1 v.ownBlock) :
    w1.ownsRow base 31 4 v3 R.length (row R) ∧ Below base w w1 ∧ W.heap.size < w1.heap.size := by
  refine ⟨(h3.alloc _).kept hg (other_type h3 hv (by decide)), ?_, ?_⟩
  · exact (hb.alloc hB _).grown hg (by simp; omega) (fun k e => (hv.lt k e).1)
  · have := hg.size
    simp at this
    omega

theorem block_of {n : Nat} {xs : List Value} (h : W.ownsRow base 3 1 v4 n xs) (hne : v4 ≠ .slice none 0 0) : ∃ g, v4.ownBlock = some g := by
  rcases h.2 with ⟨rfl, _⟩ | ⟨g, cap, cur, rfl, _⟩
  · exact absurd rfl hne
  · exact ⟨g, rfl⟩

/-- Behind the two appends, the attempt (t, n) is on the lists. -/
theorem seen_push {w2 : World} {t n : Int} (hS : Seen W base v4 v5 S) (y4 y5 : Array Value)
    (ha : w1.ownsRow base 3 1 v4' (S.length + 1) ((S.map fun p => Value.int .i64 p.1) ++ [.int .i64 t])) (hg1 : (W.alloc (.cells y4 3)).grownBy w1 v4.ownBlock) (hn4 : ¬ v4' = .slice none 0 0)
    (hl4 : v4'.ownBlock = v4.ownBlock ∨ v4'.ownBlock = some (W.alloc (.cells y4 3)).heap.size)
    (hb : w2.ownsRow base 3 1 v5' (S.length + 1) ((S.map fun p => Value.int .i64 p.2) ++ [.int .i64 n])) (hg2 : (w1.alloc (.cells y5 3)).grownBy w2 v5.ownBlock)
    (hl5 : v5'.ownBlock = v5.ownBlock ∨ v5'.ownBlock = some (w1.alloc (.cells y5 3)).heap.size) :
    Seen w2 base v4' v5' (S ++ [(t, n)]) := by
  obtain ⟨g, hg⟩ := block_of ha hn4
  have hlt := (ha.lt g hg).2
  have hs1 := hg1.size
  simp at hs1
  have hne5 : ∀ g5, v5.ownBlock = some g5 → g ≠ g5 := fun g5 h5 e => by
    subst e
    have h5l := (hS.o5.lt g h5).2
    rcases hl4 with hl | hl
    · exact hS.apart g (hl ▸ hg) h5
    · rw [hg] at hl
      simp at hl
      omega
  refine ⟨?_, ?_, fun g' hg' e' => ?_⟩
  · rw [List.length_append, List.map_append]
    refine (ha.alloc _).kept hg2 (.inr fun e => ?_)
    rw [hg] at e
    exact hne5 g e.symm rfl
  · rw [List.length_append, List.map_append]
    exact hb
  · rw [hg] at hg'
    obtain rfl := Option.some.inj hg'
    rcases hl5 with hl | hl
    · exact hne5 g (hl ▸ e') rfl
    · rw [e'] at hl
      simp at hl
      omega

/-- Behind the first of the two appends the other list stays. -/
theorem other_list (y : Array Value) (hS : Seen W base v4 v5 S) (hg : (W.alloc (.cells y 3)).grownBy w1 v4.ownBlock) : w1.ownsRow base 3 1 v5 S.length (S.map fun p => Value.int .i64 p.2) := by
  refine (hS.o5.alloc _).kept hg ?_
  cases h5 : v5.ownBlock with
  | none => exact .inl rfl
  | some g => exact .inr fun e => hS.apart g e.symm h5
end
end Go.Proofs.Qxb6603542a
