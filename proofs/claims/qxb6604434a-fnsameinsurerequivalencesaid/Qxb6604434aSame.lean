/-
  Contracts of the callees of FnSameInsurerEquivalence: zzBytes (7), ZZNewManual (8), (*Manual).sameInsurer (11), ZZSameInsurer (9).
-/
import Derived.Test.Qxb6604434aRows
import Derived.WalkKit
import Derived.ProofKit
import Derived.OpenShut
import Derived.Below
import Derived.LaidEqlPtr
import Derived.Deep.QuietTactic
import Derived.BigQuiet
namespace Go.Proofs.Qxb6604434a
open Go.ChangeShapes Go.WideShapes Go.ChangeAt Go.RowKit

/-- A manual of the insurer 'a' lies at block x. -/
def Man (w : World) (x : Nat) (a : ByteArray) : Prop := ∃ c : Array Value, w.heap[x]? = some (.cells c 60 (0, 0)) ∧ c[1]? = some (.string a)

/-- At most new blocks; the old ones as they were. -/
def Gr (w w' : World) : Prop := Grown w w' ∧ ∀ k, k < w.heap.size → w'.heap[k]? = w.heap[k]?

theorem Gr.refl (w : World) : Gr w w := ⟨Grown.refl w, fun _ _ => rfl⟩
theorem Gr.trans {a b c : World} (h : Gr a b) (k : Gr b c) : Gr a c :=
  ⟨⟨World.keptBut_trans h.1.1 (World.keptBut_mono (fun _ f => f) k.1.1), fun x => (k.1.2.1 x).trans (h.1.2.1 x), Nat.le_trans h.1.2.2 k.1.2.2⟩,
   fun i hi => (k.2 i (Nat.lt_of_lt_of_le hi h.1.2.2)).trans (h.2 i hi)⟩
theorem Gr.alloc {a b : World} (h : Gr a b) (c : Array Value) (t : TypeId) : Gr a (b.alloc (.cells c t)) :=
  ⟨h.1.alloc c t, fun k hk => (Below.heap_alloc _ _ _ (Nat.lt_of_lt_of_le hk h.1.2.2)).trans (h.2 k hk)⟩
theorem Gr.drewN {a b : World} (h : Gr a b) (n : Nat) : Gr a (b.drewN n) := h
theorem Man.lt {w : World} {x : Nat} {a : ByteArray} (h : Man w x a) : x < w.heap.size := by
  obtain ⟨c, hc, _⟩ := h
  by_cases hx : x < w.heap.size
  · exact hx
  · simp [hx] at hc
theorem Man.up {w w' : World} {x : Nat} {a : ByteArray} (h : Man w x a) (g : Gr w w') : Man w' x a := by
  have hx := h.lt
  obtain ⟨c, hc, h1⟩ := h
  exact ⟨c, (g.2 x hx).trans hc, h1⟩
theorem Man.cell {w : World} {x : Nat} {a : ByteArray} (h : Man w x a) : w.cell? ⟨x, 1, none⟩ = some (.string a) := by
  obtain ⟨c, hc, h1⟩ := h
  simp [World.cell?, hc, h1]

set_option maxRecDepth 100000 in
theorem man_new (a : ByteArray) (w : World) :
    Calls Try.prog 8 #[.string a] w fun e w' => e = .returned (.pointer (some ⟨w.heap.size, 0, none⟩)) ∧ Gr w w' ∧ Man w' w.heap.size a ∧ w.heap.size < w'.heap.size := by
  go_enter Try.func8, Try.ntmps8
  go_wp2
  go_ret
  exact ⟨rfl, (Gr.refl _).alloc _ _, ⟨_, (MapKept.heap_alloc _ _).1, rfl⟩, by simp⟩

theorem size60 : (Try.prog.info? 60).map (fun j => decide (j.size ≠ 0)) = some true := by kernel_rfl

theorem eql_man {W : World} {x y : Nat} {a b : ByteArray} (hne : x ≠ y) (hx : Man W x a) (hy : Man W y b) :
    (binOp .eql 29 (.pointer (some ⟨x, 0, none⟩)) (.pointer (some ⟨y, 0, none⟩))).run Try.prog W = .ok (.bool false) W := by
  obtain ⟨j, hj, hz⟩ := Option.map_eq_some_iff.1 size60
  obtain ⟨c, hc, _⟩ := hx
  obtain ⟨d, hd, _⟩ := hy
  exact run_eql_ptr_other (ca := c) (cb := d) (ta := 60) (tb := 60) _ Try.underlying29 hj (of_decide_eq_true hz) (fun h => hne (congrArg Addr.block h)) hc hd

theorem eql_self (W : World) (x : Nat) :
    (binOp .eql 29 (.pointer (some ⟨x, 0, none⟩)) (.pointer (some ⟨x, 0, none⟩))).run Try.prog W = .ok (.bool true) W := by
  obtain ⟨j, hj, _⟩ := Option.map_eq_some_iff.1 size60
  exact run_eql_ptr_same _ _ Try.underlying29 hj

theorem same_self (x : Nat) (w : World) :
    Calls Try.prog 11 #[.pointer (some ⟨x, 0, none⟩), .pointer (some ⟨x, 0, none⟩)] w fun e w' => e = .returned (.bool true) ∧ Gr w w' := by
  have he := fun n => eql_self (w.drewN n) x
  go_enter Try.func11, Try.ntmps11
  go_wp2
  go_quiet (fail)
  go_wp2
  go_ret
  exact ⟨rfl, (Gr.refl _).drewN _⟩

theorem same_empty (x y : Nat) (a b : ByteArray) (w : World) (hne : x ≠ y) (hx : Man w x a) (hy : Man w y b) (ha : a.toList.isEmpty = true) :
    Calls Try.prog 11 #[.pointer (some ⟨x, 0, none⟩), .pointer (some ⟨y, 0, none⟩)] w fun e w' => e = .returned (.bool false) ∧ Gr w w' := by
  have hc := hx.cell
  have he := fun n => eql_man (W := w.drewN n) hne hx hy
  clear hx hy hne
  go_enter Try.func11, Try.ntmps11
  go_wp2
  go_quiet (fail)
  go_wp2
  go_ret
  exact ⟨rfl, (Gr.refl _).drewN _⟩

theorem same_two (x y : Nat) (a b : ByteArray) (r : Bool) (w : World) (hne : x ≠ y) (hx : Man w x a) (hy : Man w y b) (ha : a.toList.isEmpty = false) (hr : (a.toList == b.toList) = r) :
    Calls Try.prog 11 #[.pointer (some ⟨x, 0, none⟩), .pointer (some ⟨y, 0, none⟩)] w fun e w' => e = .returned (.bool r) ∧ Gr w w' := by
  have hc := hx.cell
  have hd := hy.cell
  have he := fun n => eql_man (W := w.drewN n) hne hx hy
  clear hx hy hne
  cases r
  all_goals
    go_enter Try.func11, Try.ntmps11
    go_wp2
    go_quiet (fail)
    go_wp2
    go_ret
    exact ⟨rfl, (Gr.refl _).drewN _⟩

/-- What the relation is between two manuals that are not one. -/
def sB (a b : ByteArray) : Bool := !(a.toList.isEmpty) && (a.toList == b.toList)

theorem zsame_self (x : Nat) (w : World) :
    Calls Try.prog 9 #[.pointer (some ⟨x, 0, none⟩), .pointer (some ⟨x, 0, none⟩)] w fun e w' => e = .returned (.bool true) ∧ Gr w w' := by
  go_enter Try.func9, Try.ntmps9
  go_wp2_with fail
  refine (same_self x _).mono ?_
  rintro e w' ⟨rfl, hg⟩
  go_wp2
  go_ret
  exact ⟨rfl, hg⟩

theorem same_any (x y : Nat) (a b : ByteArray) (r : Bool) (w : World) (hne : x ≠ y) (hx : Man w x a) (hy : Man w y b) (hr : sB a b = r) :
    Calls Try.prog 11 #[.pointer (some ⟨x, 0, none⟩), .pointer (some ⟨y, 0, none⟩)] w fun e w' => e = .returned (.bool r) ∧ Gr w w' := by
  cases he : a.toList.isEmpty
  · exact same_two x y a b r w hne hx hy he (by simpa [sB, he] using hr)
  · obtain rfl : r = false := by simpa [sB, he] using hr.symm
    exact same_empty x y a b w hne hx hy he

theorem zsame_any (x y : Nat) (a b : ByteArray) (r : Bool) (w : World) (hne : x ≠ y) (hx : Man w x a) (hy : Man w y b) (hr : sB a b = r) :
    Calls Try.prog 9 #[.pointer (some ⟨x, 0, none⟩), .pointer (some ⟨y, 0, none⟩)] w fun e w' => e = .returned (.bool r) ∧ Gr w w' := by
  have hcall := same_any x y a b r w hne hx hy hr
  have H : Hid (Calls Try.prog 11 #[.pointer (some ⟨x, 0, none⟩), .pointer (some ⟨y, 0, none⟩)] w fun e w' => e = .returned (.bool r) ∧ Gr w w') := hcall
  clear hcall hne hx hy hr
  go_enter Try.func9, Try.ntmps9
  go_wp2_with fail
  refine H.out.mono ?_
  rintro e w' ⟨rfl, hg⟩
  go_wp2
  go_ret
  exact ⟨rfl, hg⟩

theorem bytes_any (a b c : ByteArray) (ha : a.size ≤ maxLen) (hb : b.size ≤ maxLen) (hc : c.size ≤ maxLen) (r : Bool) (hr : decide (a.size + b.size + c.size ≤ 1048576) = r) (w : World) :
    Calls Try.prog 7 #[.string a, .string b, .string c] w fun e w' => e = .returned (.bool r) ∧ w' = w := by
  unfold maxLen at ha hb hc
  cases r
  · have hs : 1048576 < (a.size : Int) + b.size + c.size := by have := of_decide_eq_false hr; omega
    clear hr
    go_enter Try.func7, Try.ntmps7
    go_wp2
    all_goals
      go_ret
      exact ⟨rfl, rfl⟩
  · have hs : (a.size : Int) + b.size + c.size ≤ 1048576 := by have := of_decide_eq_true hr; omega
    clear hr
    go_enter Try.func7, Try.ntmps7
    go_wp2
    go_ret
    exact ⟨rfl, rfl⟩
end Go.Proofs.Qxb6604434a
