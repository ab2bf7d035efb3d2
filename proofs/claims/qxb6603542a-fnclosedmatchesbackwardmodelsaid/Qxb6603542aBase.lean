/-
  Operations in memory: four cells each, in a []OpInB1 (element type 31) and in a Schedule (element type 36) alike.
-/
import Derived.Test.Qxb6603542aRows
import Derived.Test.Qxb6603542aPlain
import Derived.WalkKit
import Derived.ProofKit
import Derived.OpenShut
import Derived.Below
import Derived.Laws.AppendOwn
import Derived.Laws.OwnMore
import Derived.OwnWalk
import Derived.Deep.Quiet
namespace Go.Proofs.Qxb6603542a
open Go.ChangeShapes Go.WideShapes Go.ChangeAt Go.RowKit

def OpD.cells (o : OpD) : List Value := [.int .i64 o.k, .int .i64 o.t, .int .i64 o.n, .string o.s]
def row (l : List OpD) : List Value := l.flatMap OpD.cells
def zeroOp : OpD := ⟨0, 0, 0, ⟨#[]⟩⟩

theorem row_nil : row [] = [] := rfl
theorem row_append (a b : List OpD) : row (a ++ b) = row a ++ row b := by simp [row]
theorem row_cons (o : OpD) (b : List OpD) : row (o :: b) = o.cells ++ row b := by simp [row]
theorem row_one (o : OpD) : row [o] = o.cells := by simp [row]
theorem row_length : ∀ l : List OpD, (row l).length = l.length * 4
  | [] => rfl
  | o :: r => by rw [row_cons, List.length_append, row_length r]; simp [OpD.cells]; omega

theorem row_get : ∀ (l : List OpD) (i f : Nat) (h : i < l.length), f < 4 → (row l)[i * 4 + f]? = l[i].cells[f]?
  | o :: r, 0, f, _, hf => by
    rw [row_cons, List.getElem?_append_left (by simp [OpD.cells]; omega)]
    simp
  | o :: r, i + 1, f, h, hf => by
    rw [row_cons, List.getElem?_append_right (by simp [OpD.cells]; omega)]
    have := row_get r i f (by simpa using h) hf
    simp only [List.getElem_cons_succ]
    rw [← this]
    congr 1
    simp [OpD.cells]
    omega

/-- The four fields fit their kinds. -/
def Wf (o : OpD) : Prop := (Lit.int .i64 o.k).wf = true ∧ (Lit.int .i64 o.t).wf = true ∧ (Lit.int .i64 o.n).wf = true ∧ o.s.size ≤ maxLen

/-- The cells of a row of operations lie from (b, off) on. -/
def At (w : World) (b off : Nat) (l : List OpD) : Prop := ∀ i (h : i < l.length),
  w.cell? ⟨b, off + i * 4, none⟩ = some (.int .i64 l[i].k) ∧ w.cell? ⟨b, off + i * 4 + 1, none⟩ = some (.int .i64 l[i].t) ∧
  w.cell? ⟨b, off + i * 4 + 2, none⟩ = some (.int .i64 l[i].n) ∧ w.cell? ⟨b, off + i * 4 + 3, none⟩ = some (.string l[i].s)

/-- WHAT THE WALK IS TOLD OF THE ARGUMENT: it is nil; or its elements' cells lie where it leads. -/
def IsOps (w : World) (a : Option Addr) (len cap : Nat) (l : List OpD) : Prop :=
  (a = none ∧ len = 0 ∧ cap = 0 ∧ l = []) ∨
  ∃ x, a = some x ∧ l.length = len ∧ (0 < len → x.spot = none ∧ At w x.block x.off l) ∧ ∀ o ∈ l, Wf o

theorem IsOps.len {w : World} {a : Option Addr} {len cap : Nat} {l : List OpD} (h : IsOps w a len cap l) : l.length = len := by
  rcases h with ⟨_, rfl, _, rfl⟩ | ⟨_, _, h, _⟩
  · rfl
  · exact h
theorem IsOps.wf {w : World} {a : Option Addr} {len cap : Nat} {l : List OpD} (h : IsOps w a len cap l) : ∀ o ∈ l, Wf o := by
  rcases h with ⟨_, _, _, rfl⟩ | ⟨_, _, _, _, h⟩
  · simp
  · exact h
/-- Empty; or at a known place. -/
theorem IsOps.view {w : World} {a : Option Addr} {len cap : Nat} {l : List OpD} (h : IsOps w a len cap l) : len = 0 ∨ ∃ b off, a = some ⟨b, off, none⟩ ∧ At w b off l := by
  rcases h with ⟨_, rfl, _, _⟩ | ⟨x, rfl, hl, hc, _⟩
  · exact .inl rfl
  · by_cases h0 : len = 0
    · exact .inl h0
    · obtain ⟨hs, hat⟩ := hc (by omega)
      obtain ⟨b, off, sp⟩ := x
      obtain rfl : sp = none := hs
      exact .inr ⟨b, off, rfl, hat⟩

theorem At.lt {w : World} {b off : Nat} {l : List OpD} (h : At w b off l) (h0 : 0 < l.length) : b < w.heap.size := by
  have hc := (h 0 h0).1
  by_cases hb : b < w.heap.size
  · exact hb
  · simp [World.cell?, hb] at hc
theorem At.below {B : Nat} {w w' : World} {b off : Nat} {l : List OpD} (h : At w b off l) (hb : Below B w w') (hlt : 0 < l.length → b < B) : At w' b off l := by
  intro i hi
  obtain ⟨c0, c1, c2, c3⟩ := h i hi
  have hB := hlt (by omega)
  exact ⟨(hb.cell (p := ⟨b, _, none⟩) hB).trans c0, (hb.cell (p := ⟨b, _, none⟩) hB).trans c1, (hb.cell (p := ⟨b, _, none⟩) hB).trans c2, (hb.cell (p := ⟨b, _, none⟩) hB).trans c3⟩

section
variable {w : World} {base : Nat} {e : TypeId} {g n cap : Nat} {xs : List Value}

/-- An element's four cells in a row of the call's own. -/
theorem own_cells (h : w.ownsRow base e 4 (.slice (some ⟨g, 0, none⟩) n cap) n xs) {k : Nat} (hk : k < n) :
    (∃ v, w.cell? ⟨g, k * 4, none⟩ = some v) ∧ (∃ v, w.cell? ⟨g, k * 4 + 1, none⟩ = some v) ∧ (∃ v, w.cell? ⟨g, k * 4 + 2, none⟩ = some v) ∧ (∃ v, w.cell? ⟨g, k * 4 + 3, none⟩ = some v) := by
  have hx : xs.length = n * 4 := h.1
  have key : ∀ j, j < n * 4 → ∃ v, w.cell? ⟨g, j, none⟩ = some v := fun j hj => ⟨xs[j]'(by omega), by rw [h.cellAt j hj]; exact List.getElem?_eq_getElem (by omega)⟩
  exact ⟨key _ (by omega), key _ (by omega), key _ (by omega), key _ (by omega)⟩

/-- A row of the call's own that holds operations. -/
theorem own_at {l : List OpD} (h : w.ownsRow base e 4 (.slice (some ⟨g, 0, none⟩) l.length cap) l.length (row l)) : At w g 0 l := by
  intro i hi
  have key : ∀ f, f < 4 → w.cell? ⟨g, i * 4 + f, none⟩ = l[i].cells[f]? := fun f hf => by rw [h.cellAt (i * 4 + f) (by omega), row_get l i f hi hf]
  refine ⟨?_, ?_, ?_, ?_⟩
  · rw [Nat.zero_add]; exact key 0 (by omega)
  · rw [Nat.zero_add]; exact key 1 (by omega)
  · rw [Nat.zero_add]; exact key 2 (by omega)
  · rw [Nat.zero_add]; exact key 3 (by omega)

/-- Four stores: an element is written. -/
theorem own_store (h : w.ownsRow base e 4 (.slice (some ⟨g, 0, none⟩) n cap) n xs) (k : Nat) (hk : k < n) (o : OpD) (r : List OpD) (hr : xs.take (k * 4) = row r) :
    ∃ xs', ((((w.setCell ⟨g, k * 4, none⟩ (.int .i64 o.k)).setCell ⟨g, k * 4 + 1, none⟩ (.int .i64 o.t)).setCell ⟨g, k * 4 + 2, none⟩ (.int .i64 o.n)).setCell ⟨g, k * 4 + 3, none⟩ (.string o.s)).ownsRow base e 4 (.slice (some ⟨g, 0, none⟩) n cap) n xs' ∧
      xs'.take ((k + 1) * 4) = row (r ++ [o]) := by
  have hx : xs.length = n * 4 := h.1
  have h1 := (h.stored (k * 4) (.int .i64 o.k)).1
  have h2 := (h1.stored (k * 4 + 1) (.int .i64 o.t)).1
  have h3 := (h2.stored (k * 4 + 2) (.int .i64 o.n)).1
  have h4 := (h3.stored (k * 4 + 3) (.string o.s)).1
  refine ⟨_, h4, ?_⟩
  rw [row_append, row_one, ← hr]
  apply List.ext_getElem?
  intro j
  rw [List.getElem?_take]
  by_cases hj : j < k * 4
  · rw [if_pos (by omega), List.getElem?_append_left (by simp; omega), List.getElem?_take, if_pos hj]
    simp only [List.getElem?_set]
    rw [if_neg (by omega), if_neg (by omega), if_neg (by omega), if_neg (by omega)]
  · rw [List.getElem?_append_right (by simp; omega)]
    have hl : (xs.take (k * 4)).length = k * 4 := by simp; omega
    rw [hl]
    obtain ⟨f, rfl⟩ : ∃ f, j = k * 4 + f := ⟨j - k * 4, by omega⟩
    rw [show k * 4 + f - k * 4 = f by omega]
    match f with
    | 0 => simp [OpD.cells, List.getElem?_set, hx]; omega
    | 1 => simp [OpD.cells, List.getElem?_set, hx]; omega
    | 2 => simp [OpD.cells, List.getElem?_set, hx]; omega
    | 3 => simp [OpD.cells, List.getElem?_set, hx]; omega
    | f + 4 => rw [if_neg (by omega)]; simp [OpD.cells]

theorem below_store {B : Nat} {w0 : World} (h : Below B w0 w) (hB : B ≤ g) (k : Nat) (o : OpD) :
    Below B w0 ((((w.setCell ⟨g, k * 4, none⟩ (.int .i64 o.k)).setCell ⟨g, k * 4 + 1, none⟩ (.int .i64 o.t)).setCell ⟨g, k * 4 + 2, none⟩ (.int .i64 o.n)).setCell ⟨g, k * 4 + 3, none⟩ (.string o.s)) :=
  (((h.setCell hB _).setCell hB _).setCell hB _).setCell hB _
end

/-- The slice value v, of elements of type e, is nil or a row of the call's own, and holds the operations l. -/
def Own (w : World) (base : Nat) (e : TypeId) (v : Value) (l : List OpD) : Prop := w.ownsRow base e 4 v l.length (row l)

theorem Own.form {w : World} {base : Nat} {e : TypeId} {v : Value} {l : List OpD} (h : Own w base e v l) :
    (v = .slice none 0 0 ∧ l = []) ∨ ∃ g cap, v = .slice (some ⟨g, 0, none⟩) l.length cap ∧ base ≤ g ∧ g < w.heap.size ∧ At w g 0 l := by
  have h0 := h
  rcases h.2 with ⟨rfl, hn⟩ | ⟨g, cap, cur, rfl, hb, hg, _⟩
  · exact .inl ⟨rfl, List.eq_nil_of_length_eq_zero hn⟩
  · exact .inr ⟨g, cap, rfl, hb, (Array.getElem?_eq_some_iff.1 hg).1, own_at h0⟩

theorem Own.up {w w' : World} {base : Nat} {e : TypeId} {v : Value} {l : List OpD} (h : Own w base e v l) (hb : Below w.heap.size w w') : Own w' base e v l := by
  refine ⟨h.1, ?_⟩
  rcases h.2 with h2 | ⟨g, cap, cur, rfl, hbg, hg, r⟩
  · exact .inl h2
  · exact .inr ⟨g, cap, cur, rfl, hbg, (hb.block g (Array.getElem?_eq_some_iff.1 hg).1).trans hg, r⟩

theorem Own.mono {w : World} {base base' : Nat} {e : TypeId} {v : Value} {l : List OpD} (h : Own w base e v l) (hb : base' ≤ base) : Own w base' e v l := by
  refine ⟨h.1, ?_⟩
  rcases h.2 with h2 | ⟨g, cap, cur, rfl, hbg, hg, r⟩
  · exact .inl h2
  · exact .inr ⟨g, cap, cur, rfl, Nat.le_trans hb hbg, hg, r⟩

theorem own_nil (w : World) (base : Nat) (e : TypeId) : Own w base e (.slice none 0 0) [] := World.ownsRow_nil _ _ _ _

/-- A new block that holds one operation. -/
theorem one_cells (W : World) (o : OpD) (t : TypeId) (n : Nat) (hn : n = W.heap.size) : ∀ j u, o.cells[j]? = some u → (W.alloc (.cells #[.int .i64 o.k, .int .i64 o.t, .int .i64 o.n, .string o.s] t)).cell? ((⟨n, 0, none⟩ : Addr).add j) = some u := by
  intro j u hu
  subst hn
  have hadd : (⟨W.heap.size, 0, none⟩ : Addr).add j = ⟨W.heap.size, j, none⟩ := by unfold Addr.add; split <;> simp_all
  rw [hadd, World.cell?_alloc_new]
  simpa [OpD.cells] using hu

theorem cells_one (o : OpD) : ∀ u ∈ o.cells, u.oneCell' = true := by
  intro u hu
  simp [OpD.cells] at hu
  rcases hu with rfl | rfl | rfl | rfl <;> rfl

theorem below_drewN {B : Nat} {a w : World} (h : Below B a w) (n : Nat) : Below B a (w.drewN n) := ⟨h.os, h.tape, h.output, h.size, h.block⟩

/-- The value's shape: a slice of just so many elements; at an element it leads somewhere. -/
theorem Own.shape {w : World} {base : Nat} {e : TypeId} {v : Value} {l : List OpD} (h : Own w base e v l) :
    ∃ a cap, v = .slice a l.length cap ∧ (0 < l.length → ∃ g, a = some ⟨g, 0, none⟩ ∧ g < w.heap.size ∧ At w g 0 l) := by
  rcases h.form with ⟨rfl, rfl⟩ | ⟨g, cap, rfl, _, hg, hat⟩
  · exact ⟨none, 0, rfl, fun h0 => absurd h0 (Nat.lt_irrefl _)⟩
  · exact ⟨_, cap, rfl, fun _ => ⟨g, rfl, hg, hat⟩⟩

/-- Some bool. -/
def IsBool (e : Ending) : Prop := ∃ r : Bool, e = .returned (.bool r)
theorem isBool (r : Bool) : IsBool (.returned (.bool r)) := ⟨r, rfl⟩
/-- Some bool; true only where the length is small. -/
def IsSmall (len : Nat) (e : Ending) : Prop := ∃ r : Bool, e = .returned (.bool r) ∧ (r = true → len ≤ 4096)
theorem isSmall {len : Nat} (r : Bool) (h : r = true → len ≤ 4096) : IsSmall len (.returned (.bool r)) := ⟨r, rfl, h⟩
end Go.Proofs.Qxb6603542a
