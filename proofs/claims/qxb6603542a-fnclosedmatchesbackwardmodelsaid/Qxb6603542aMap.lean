/-
  The map last : map[Attempt]int of Closed: its keys, and what it holds after k rounds.
-/
import Derived.Test.Qxb6603542aBase
import Derived.Maps.OwnSet
import Derived.DeepKeys4
import Derived.Lib.SmallJoins
import Derived.MapViews
namespace Go.Proofs.Qxb6603542a
open Go.ChangeShapes Go.WideShapes Go.ChangeAt Go.RowKit
open Go.Maps (Keyed)

theorem laidOut : laidOutB Try.prog = true := by kernel_rfl
theorem keyed : Keyed Try.prog 34 := Keyed.of_law (deep_law_laid laidOut (m := 3) (by omega) (of_decide_eq_true (by kernel_rfl)) (by kernel_rfl) (by kernel_rfl))
theorem zero3 (w : World) : (zeroValue 3).run Try.prog w = .ok (.int .i64 0) w := Try.zeroValue3 w

/-- The key of an attempt. -/
def keyV (t n : Int) : Value := .agg #[.int .i64 t, .int .i64 n]

theorem cells34 : Try.prog.cellsOf 34 = 2 := by kernel_rfl
theorem cells3 : Try.prog.cellsOf 3 = 1 := by kernel_rfl

theorem formed34 (t n : Int) : (keyV t n).formed Try.prog 34 = true := by
  simp [keyV, Value.formed, Try.underlying34, cells34]
theorem deep34 : Try.prog.keyTypeAt (Try.prog.types.size + 1) 34 = true := by kernel_rfl

theorem key_some (t n : Int) (ht : (Lit.int .i64 t).wf = true) (hn : (Lit.int .i64 n).wf = true) : ∃ kl, keyOf Try.prog 34 (keyV t n) = some kl := by
  have hd : DataW.Trod (H := Unit) (fun _ => ()) Try.prog default 0 (fun _ => true) true 34 (keyV t n) (.agg [.lit (.int .i64 t), .lit (.int .i64 n)]) ([] ++ []) :=
    Joins.shut_agg2 (y0 := (.lit (.int .i64 t), [])) (y1 := (.lit (.int .i64 n), [])) Try.underlying34 (by kernel_rfl) cells34
      ⟨1, by simp [DataW.trod, Try.underlying3, ht]⟩ ⟨1, by simp [DataW.trod, Try.underlying3, hn]⟩
  exact ⟨_, (keyOf_asKey deep34 (by rw [Try.underlying34]) (formed34 t n) hd).1⟩

theorem key_inj {t n t' n' : Int} {kl : Lit} (h : keyOf Try.prog 34 (keyV t n) = some kl) (h' : keyOf Try.prog 34 (keyV t' n') = some kl) : t' = t ∧ n' = n := by
  have := keyed.inj h h'
  simp [keyV] at this
  exact ⟨this.1.symm, this.2.symm⟩

/-- Block B is a map of at most k entries that holds, at each attempt of l, its last place. -/
def MapIs (w : World) (B k : Nat) (l : List OpD) : Prop := ∃ D : DataW Unit, w.ownsMap Try.prog 34 (plainElem Try.prog 3) B k D ∧
  ∀ t n kl, keyOf Try.prog 34 (keyV t n) = some kl → ∃ c, D.atKey kl (.lit (.int .i64 0)) = .lit (.int .i64 c) ∧ IsLast l t n c

theorem mapIs_made (w : World) : MapIs (w.alloc (.map #[] 0)) w.heap.size 0 [] :=
  ⟨.map [], World.ownsMap_made _ _ _ _, fun t n _ _ => ⟨0, rfl, isLast_nil t n⟩⟩

theorem MapIs.kept {w w' : World} {B k : Nat} {l : List OpD} {r : Option Nat} (h : MapIs w B k l) (hg : w.grownBy w' r) (hne : some B ≠ r) : MapIs w' B k l := by
  obtain ⟨D, ho, hD⟩ := h
  exact ⟨D, ho.kept hg hne, hD⟩
theorem MapIs.alloc {w : World} {B k : Nat} {l : List OpD} (h : MapIs w B k l) (o : Obj) : MapIs (w.alloc o) B k l := by
  obtain ⟨D, ho, hD⟩ := h
  exact ⟨D, ho.alloc o, hD⟩
theorem MapIs.lt {w : World} {B k : Nat} {l : List OpD} (h : MapIs w B k l) : B < w.heap.size := by
  obtain ⟨D, ho, _⟩ := h
  exact ho.lt

theorem put_last {D : DataW Unit} {l : List OpD} {o : OpD} {kl : Lit} (hm : Maps.IsMap D) (hk : keyOf Try.prog 34 (keyV o.t o.n) = some kl)
    (hD : ∀ t n kl, keyOf Try.prog 34 (keyV t n) = some kl → ∃ c, D.atKey kl (.lit (.int .i64 0)) = .lit (.int .i64 c) ∧ IsLast l t n c) :
    ∀ t n kl', keyOf Try.prog 34 (keyV t n) = some kl' → ∃ c, (D.put kl (.lit (.int .i64 (l.length : Int)))).atKey kl' (.lit (.int .i64 0)) = .lit (.int .i64 c) ∧ IsLast (l ++ [o]) t n c := by
  intro t n kl' h'
  by_cases e : o.t = t ∧ o.n = n
  · obtain ⟨rfl, rfl⟩ := e
    have : kl' = kl := by rw [hk] at h'; exact (Option.some.inj h').symm
    subst this
    exact ⟨_, Maps.atKey_put_same hm (keyed.key hk) _ _, isLast_hit l o⟩
  · have hne : kl' ≠ kl := fun e' => by
      subst e'
      have := key_inj h' hk
      exact e this
    obtain ⟨c, h1, h2⟩ := hD t n kl' h'
    exact ⟨c, by rw [Maps.atKey_put_other hne]; exact h1, isLast_miss h2 e⟩

theorem size_le {w : World} {B k : Nat} {D : DataW Unit} (h : w.ownsMap Try.prog 34 (plainElem Try.prog 3) B k D) : Maps.size D ≤ k := by
  obtain ⟨es, clock, hb, F, hs, rfl⟩ := h
  simp [Maps.size, length_sorted]
  exact hs
end Go.Proofs.Qxb6603542a
