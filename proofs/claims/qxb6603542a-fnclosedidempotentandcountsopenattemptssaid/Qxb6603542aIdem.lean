/-
  The walk of FnClosedIdempotentAndCountsOpenAttempts (4).
-/
import Derived.Test.Qxb6603542aClosed
import Derived.Laws.StructEq
import Derived.Deep.QuietTactic
import Derived.BigQuiet
namespace Go.Proofs.Qxb6603542a
open Go.ChangeShapes Go.WideShapes Go.ChangeAt Go.RowKit

set_option maxRecDepth 100000 in
theorem neq_same (a b c : Int) (s : ByteArray) (w : World) :
    (binOp .neq 36 (.agg #[.int .i64 a, .int .i64 b, .int .i64 c, .string s]) (.agg #[.int .i64 a, .int .i64 b, .int .i64 c, .string s])).run Try.prog w = .ok (.bool false) w := by
  rw [run_neq_struct]
  simp [go_sem]

/-- Nothing of l[k]'s attempt lies between k and j. -/
def NoMatch (l : List OpD) (k j : Nat) : Prop := ∀ i (hi : i < l.length) (hk : k < l.length), k < i → i < j → ¬ (l[i].t = l[k].t ∧ l[i].n = l[k].n)

theorem noMatch_start (l : List OpD) (k : Nat) : NoMatch l k (k + 1) := fun i _ _ h1 h2 => by omega
theorem noMatch_step {l : List OpD} {k j : Nat} (h : NoMatch l k j) (hj : j < l.length) (hk : k < l.length) (hne : ¬ (l[j].t = l[k].t ∧ l[j].n = l[k].n)) : NoMatch l k (j + 1) := by
  intro i hi hk' h1 h2
  by_cases e : i = j
  · subst e; exact hne
  · exact h i hi hk' h1 (by omega)
theorem noMatch_later {l : List OpD} {k j : Nat} (hk : k < l.length) (h : NoMatch l k j) (hla : later l[k] (l.drop (k + 1)) = true) (hj : j ≤ l.length) : j < l.length := by
  obtain ⟨i, hi, hki, h1, h2⟩ := (later_iff l l[k] (k + 1)).1 hla
  by_cases e : i < j
  · exact absurd ⟨h1, h2⟩ (h i hi hk (by omega) e)
  · omega
theorem match_cases (o p : OpD) : ((o.t == p.t) = true ∧ (o.n == p.n) = true) ∨ ((o.t == p.t) = true ∧ (o.n == p.n) = false) ∨ (o.t == p.t) = false := by
  cases o.t == p.t <;> cases o.n == p.n <;> simp

theorem no_n {o p : OpD} (h : (o.n == p.n) = false) : ¬ (o.t = p.t ∧ o.n = p.n) := fun e => by simp [e.2] at h
theorem no_t {o p : OpD} (h : (o.t == p.t) = false) : ¬ (o.t = p.t ∧ o.n = p.n) := fun e => by simp [e.1] at h
theorem later_of {l : List OpD} {k j : Nat} (hk : k < l.length) (hj : j < l.length) (hkj : k < j) (m1 : (l[j].t == l[k].t) = true) (m2 : (l[j].n == l[k].n) = true) : later l[k] (l.drop (k + 1)) = true :=
  (later_iff l l[k] (k + 1)).2 ⟨j, hj, by omega, by simpa using m1, by simpa using m2⟩
theorem open_skip {l : List OpD} {k c : Nat} (hlt : k < l.length) (h : c + openN (l.drop k) = openN l) (hp : (!(later l[k] (l.drop (k + 1))) && opn l[k]) = false) : c + openN (l.drop (k + 1)) = openN l := by
  rw [openN_at hlt, hp] at h
  simp only [Bool.false_eq_true, if_false] at h
  omega
theorem open_count {l : List OpD} {k c : Nat} (hlt : k < l.length) (h : c + openN (l.drop k) = openN l) (hp : (!(later l[k] (l.drop (k + 1))) && opn l[k]) = true) : (c + 1) + openN (l.drop (k + 1)) = openN l := by
  rw [openN_at hlt, hp] at h
  simp only [if_true] at h
  omega

set_option maxRecDepth 100000 in
set_option maxHeartbeats 1600000 in
theorem idem_small {a : Option Addr} {len cap : Nat} {l : List OpD} (w : World) (h : IsOps w a len cap l) :
    Calls Try.prog 4 #[.slice a len cap] w fun e w' => e = .returned (.bool true) ∧ Below w.heap.size w w' := by
  have hwf := h.wf
  have hne := neq_same
  have hlen := h.len
  have HL : Hid (l.length = len) := hlen
  clear hlen
  go_enter Try.func4, Try.ntmps4
  go_wp2_with fail
  refine (bytes12_any _ h).mono ?_
  rintro e w1 ⟨⟨r, rfl⟩, rfl⟩
  cases r
  · go_wp2
    go_ret
    exact ⟨rfl, Below.refl _ _⟩
  go_wp2_with fail
  refine (size_any _ h).mono ?_
  rintro e w1 ⟨⟨r, rfl, hr⟩, rfl⟩
  cases r
  · go_wp2
    go_ret
    exact ⟨rfl, Below.refl _ _⟩
  have hsm := hr rfl
  clear hr
  go_wp2_with fail
  refine (copy_any _ h hsm).mono ?_
  rintro e w2 ⟨v0, rfl, ho2, hb2⟩
  obtain rfl := HL.out
  obtain ⟨a0, cap0, rfl, hs0⟩ := ho2.shape
  go_wp2_with fail
  refine (to_any _ ho2 hsm).mono ?_
  rintro e w3 ⟨v3, rfl, ho3, hb3⟩
  go_wp2_with fail
  refine (closed_any _ ho3 (by omega) hwf).mono ?_
  rintro e w4 ⟨v4, rfl, ho4, hb4⟩
  have hcl := closed_length l
  have hon := openN_le l
  go_wp2_with fail
  refine (closed_any _ ho4 (by omega) (wf_closed l hwf)).mono ?_
  rintro e w5 ⟨v5, rfl, ho5, hb5⟩
  rw [closed_closed] at ho5
  have o2 := ((ho2.up hb3).up hb4).up hb5
  have o4 := ho4.up hb5
  have s2 := hb2.size
  have s3 := hb3.size
  have s4 := hb4.size
  have s5 := hb5.size
  have hB : Below w1.heap.size w1 w5 := ((hb2.trans (hb3.mono s2)).trans (hb4.mono (Nat.le_trans s2 s3))).trans (hb5.mono (Nat.le_trans (Nat.le_trans s2 s3) s4))
  have hs5 : w1.heap.size ≤ w5.heap.size := by omega
  obtain ⟨a4, cap4, rfl, hs4⟩ := o4.shape
  obtain ⟨a5, cap5, rfl, hs5'⟩ := ho5.shape
  obtain ⟨a0', cap0', e0, hs0'⟩ := o2.shape
  obtain ⟨rfl, rfl⟩ : a0 = a0' ∧ cap0 = cap0' := by simpa using e0
  have HC : Hid ((closedL l).length = l.length + openN l) := hcl
  clear hs0 ho2 ho3 ho4 ho5 hb2 hb3 hb4 hb5 o2 o4 s2 s3 s4 s5 e0 hcl h
  go_wp2_with fail
  go_loopw [6, 7] (fun o i wr => ∃ k c : Nat, k ≤ l.length ∧ i = .int .i64 k ∧ o = .int .i64 c ∧ c ≤ k ∧ c + openN (l.drop k) = openN l ∧ Below w5.heap.size w5 wr) (fun _ i _ => l.length - (intOf i).toNat)
  case atStart => exact ⟨0, 0, Nat.zero_le _, rfl, rfl, Nat.le_refl _, by simp, Below.refl _ _⟩
  case round =>
    obtain ⟨k, c, hk, rfl, rfl, hck, hc, hb⟩ := hrel
    have HO : Hid (c + openN (l.drop k) = openN l) := hc
    clear hc
    by_cases hlt : k < l.length
    · obtain ⟨g, rfl, hg, hat⟩ := hs0' (by omega)
      cases hla : later l[k] (l.drop (k + 1)) with
      | true =>
        have HO1 : Hid (c + openN (l.drop (k + 1)) = openN l) := open_skip hlt HO.out (by rw [hla]; rfl)
        clear HO
        go_wp2_with fail
        go_loopw [8, 9] (fun la i wx => ∃ j : Nat, k < j ∧ j ≤ l.length ∧ i = .int .i64 j ∧ la = .bool true ∧ NoMatch l k j ∧ Below w5.heap.size w5 wx) (fun _ i _ => l.length - (intOf i).toNat)
        case atStart => exact ⟨k + 1, by omega, by omega, by go_num, rfl, noMatch_start l k, hb⟩
        case round =>
          obtain ⟨j, hkj, hj, rfl, rfl, hno, hbx⟩ := hrel
          have hjl : j < l.length := noMatch_later hlt hno hla hj
          have HN : Hid (NoMatch l k j) := hno
          clear hno hla
          obtain ⟨_, c1, c2, _⟩ := (hat.below hbx (fun _ => hg)) j hjl
          obtain ⟨_, d1, d2, _⟩ := (hat.below hbx (fun _ => hg)) k hlt
          simp only [Nat.zero_add] at c1 c2 d1 d2
          have q1 : (j : Int) < (l.length : Int) := by omega
          have q2 : (k : Int) < (l.length : Int) := by omega
          rcases match_cases l[j] l[k] with ⟨m1, m2⟩ | ⟨m1, m2⟩ | m1
          · go_wp2_with fail
            go_quiet (fail)
            go_wp2_with fail
            go_roundw
            case rel => exact ⟨k + 1, c, by omega, by go_num, rfl, by omega, HO1.out, below_drewN hbx _⟩
            case measure => simp [intOf]; omega
          · go_wp2_with fail
            go_quiet (fail)
            go_wp2_with fail
            go_roundw
            case rel => exact ⟨j + 1, by omega, by omega, by go_num, rfl, noMatch_step HN.out hjl hlt (no_n m2), below_drewN hbx _⟩
            case measure => simp [intOf]; omega
          · go_wp2_with fail
            go_quiet (fail)
            go_wp2_with fail
            go_roundw
            case rel => exact ⟨j + 1, by omega, by omega, by go_num, rfl, noMatch_step HN.out hjl hlt (no_t m1), below_drewN hbx _⟩
            case measure => simp [intOf]; omega
      | false =>
        go_wp2_with fail
        go_loopw [8, 9] (fun la i wx => ∃ j : Nat, k < j ∧ j ≤ l.length ∧ i = .int .i64 j ∧ la = .bool true ∧ NoMatch l k j ∧ Below w5.heap.size w5 wx) (fun _ i _ => l.length - (intOf i).toNat)
        case atStart => exact ⟨k + 1, by omega, by omega, by go_num, rfl, noMatch_start l k, hb⟩
        case round =>
          obtain ⟨j, hkj, hj, rfl, rfl, hno, hbx⟩ := hrel
          have HN : Hid (NoMatch l k j) := hno
          have HL' : Hid (later l[k] (l.drop (k + 1)) = false) := hla
          clear hno hla
          obtain ⟨d0, d1, d2, _⟩ := (hat.below hbx (fun _ => hg)) k hlt
          have q2 : (k : Int) < (l.length : Int) := by omega
          by_cases hjl : j < l.length
          · obtain ⟨_, c1, c2, _⟩ := (hat.below hbx (fun _ => hg)) j hjl
            simp only [Nat.zero_add] at c1 c2 d0 d1 d2
            have q1 : (j : Int) < (l.length : Int) := by omega
            rcases match_cases l[j] l[k] with ⟨m1, m2⟩ | ⟨m1, m2⟩ | m1
            · exact absurd (later_of hlt hjl hkj m1 m2) (by rw [HL'.out]; exact Bool.false_ne_true)
            · go_wp2_with fail
              go_quiet (fail)
              go_wp2_with fail
              go_roundw
              case rel => exact ⟨j + 1, by omega, by omega, by go_num, rfl, noMatch_step HN.out hjl hlt (no_n m2), below_drewN hbx _⟩
              case measure => simp [intOf]; omega
            · go_wp2_with fail
              go_quiet (fail)
              go_wp2_with fail
              go_roundw
              case rel => exact ⟨j + 1, by omega, by omega, by go_num, rfl, noMatch_step HN.out hjl hlt (no_t m1), below_drewN hbx _⟩
              case measure => simp [intOf]; omega
          · simp only [Nat.zero_add] at d0 d1 d2
            cases hop : opn l[k] with
            | false =>
              have HO1 : Hid (c + openN (l.drop (k + 1)) = openN l) := open_skip hlt HO.out (by rw [hop, Bool.and_false])
              have hor := opn_false hop
              clear hop HO
              rcases hor with h2 | ⟨h2, h3⟩
              all_goals
                go_wp2_with fail
                go_roundw
                case rel => exact ⟨k + 1, c, by omega, by go_num, rfl, by omega, HO1.out, hbx⟩
                case measure => simp [intOf]; omega
            | true =>
              have HO1 : Hid ((c + 1) + openN (l.drop (k + 1)) = openN l) := open_count hlt HO.out (by rw [hop, HL'.out]; rfl)
              obtain ⟨h2, h3⟩ := opn_true hop
              clear hop HO
              go_wp2_with fail
              go_roundw
              case rel => exact ⟨k + 1, c + 1, by omega, by go_num, by go_num, by omega, HO1.out, hbx⟩
              case measure => simp [intOf]; omega
    · have hc : c = openN l := by
        have h1 := HO.out
        rw [List.drop_of_length_le (by omega)] at h1
        simpa [openN] using h1
      have hq : ((closedL l).length : Int) = (l.length : Int) + (c : Int) := by have := HC.out; omega
      clear HO hc HC
      have hN : (closedL l).length ≤ 8192 := by omega
      go_wp2_with fail
      clear hq
      go_loopw [10] (fun i wx => ∃ j : Nat, j ≤ (closedL l).length ∧ i = .int .i64 j ∧ Below w5.heap.size w5 wx) (fun i _ => (closedL l).length - (intOf i).toNat)
      case atStart => exact ⟨0, Nat.zero_le _, rfl, hb⟩
      case round =>
        obtain ⟨j, hj, rfl, hbx⟩ := hrel
        by_cases hjl : j < (closedL l).length
        · obtain ⟨g4, rfl, hg4, hat4⟩ := hs4 (by omega)
          obtain ⟨g5, rfl, hg5, hat5⟩ := hs5' (by omega)
          obtain ⟨c0, c1, c2, c3⟩ := (hat4.below hbx (fun _ => hg4)) j hjl
          obtain ⟨d0, d1, d2, d3⟩ := (hat5.below hbx (fun _ => hg5)) j hjl
          simp only [Nat.zero_add] at c0 c1 c2 c3 d0 d1 d2 d3
          have q1 : (j : Int) < ((closedL l).length : Int) := by omega
          generalize (closedL l)[j] = o at *
          go_wp2_with fail
          go_quiet (fail)
          go_wp2_with fail
          go_roundw
          case rel => exact ⟨j + 1, by omega, by go_num, below_drewN hbx _⟩
          case measure => simp [intOf]; omega
        · go_wp2
          go_ret
          exact ⟨rfl, hB.trans (hbx.mono hs5)⟩
end Go.Proofs.Qxb6603542a
