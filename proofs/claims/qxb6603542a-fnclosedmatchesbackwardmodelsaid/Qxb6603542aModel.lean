/-
  The walk of FnClosedMatchesBackwardModel (3).
-/
import Derived.Test.Qxb6603542aClosed
import Derived.Test.Qxb6603542aBack
namespace Go.Proofs.Qxb6603542a
open Go.ChangeShapes Go.WideShapes Go.ChangeAt Go.RowKit

set_option maxRecDepth 100000 in
theorem model_law {a : Option Addr} {len cap : Nat} {l : List OpD} (w : World) (h : IsOps w a len cap l) :
    Calls Try.prog 3 #[.slice a len cap] w fun e w' => e = .returned (.bool true) ∧ Below w.heap.size w w' := by
  have hwf := h.wf
  have hlen := h.len
  have HL : Hid (l.length = len) := hlen
  clear hlen
  go_enter Try.func3, Try.ntmps3
  go_wp2_with fail
  refine (bytes5_any _ h).mono ?_
  rintro e w1 ⟨⟨r, rfl⟩, rfl⟩
  cases r
  · go_wp2
    go_ret
    exact ⟨rfl, Below.refl _ _⟩
  go_wp2_with fail
  refine (size_any _ h).mono ?_
  rintro e w1 ⟨⟨r, rfl, hr⟩, rfl⟩
  cases r
  · go_wp2
    go_ret
    exact ⟨rfl, Below.refl _ _⟩
  have hsm := hr rfl
  clear hr
  go_wp2_with fail
  refine (copy_any _ h hsm).mono ?_
  rintro e w2 ⟨v0, rfl, ho2, hb2⟩
  obtain rfl := HL.out
  go_wp2_with fail
  refine (to_any _ ho2 hsm).mono ?_
  rintro e w3 ⟨v3, rfl, ho3, hb3⟩
  go_wp2_with fail
  refine (closed_any _ ho3 (by omega) hwf).mono ?_
  rintro e w4 ⟨v4, rfl, ho4, hb4⟩
  have o2 := (ho2.up hb3).up hb4
  go_wp2_with fail
  refine (back_any _ o2 hsm).mono ?_
  rintro e w5 ⟨v5, rfl, ho5, hb5⟩
  have o4 := ho4.up hb5
  have hcl : (closedL l).length ≤ 100000 := by
    have h1 := closed_length l
    have h2 := openN_le l
    omega
  go_wp2_with fail
  refine (sameops_any _ o4 ho5 hcl).mono ?_
  rintro e w6 ⟨rfl, hb6⟩
  have s2 := hb2.size
  have s3 := hb3.size
  have s4 := hb4.size
  have s5 := hb5.size
  have hB : Below w1.heap.size w1 w6 := (((hb2.trans (hb3.mono s2)).trans (hb4.mono (Nat.le_trans s2 s3))).trans (hb5.mono (Nat.le_trans (Nat.le_trans s2 s3) s4))).trans (hb6.mono (Nat.le_trans (Nat.le_trans (Nat.le_trans s2 s3) s4) s5))
  clear s2 s3 s4 s5 hb2 hb3 hb4 hb5 hb6 o2 o4 ho2 ho3 ho4 ho5
  go_wp2
  go_ret
  exact ⟨rfl, hB⟩
end Go.Proofs.Qxb6603542a
