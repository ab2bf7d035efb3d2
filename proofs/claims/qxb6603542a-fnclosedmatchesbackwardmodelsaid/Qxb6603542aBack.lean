/-
  The contract of zzClosedModelB1 (11): the backward model computes closedL.
-/
import Derived.Test.Qxb6603542aSeen
import Derived.Deep.QuietTactic
import Derived.BigQuiet
namespace Go.Proofs.Qxb6603542a
open Go.ChangeShapes Go.WideShapes Go.ChangeAt Go.RowKit

/-- None of the first j attempts is that of o. -/
def NoS (S : List (Int × Int)) (o : OpD) (j : Nat) : Prop := ∀ i (hi : i < S.length), i < j → ¬ (S[i].1 = o.t ∧ S[i].2 = o.n)
theorem noS_zero (S : List (Int × Int)) (o : OpD) : NoS S o 0 := fun i _ h => by omega
theorem noS_step {S : List (Int × Int)} {o : OpD} {j : Nat} (h : NoS S o j) (hj : j < S.length) (hne : ¬ (S[j].1 = o.t ∧ S[j].2 = o.n)) : NoS S o (j + 1) := by
  intro i hi hlt
  by_cases e : i = j
  · subst e; exact hne
  · exact h i hi (by omega)
theorem noS_all {S : List (Int × Int)} {o : OpD} {j : Nat} (h : NoS S o j) (hm : (o.t, o.n) ∈ S) (hj : j ≤ S.length) : j < S.length := by
  obtain ⟨i, hi, e⟩ := List.mem_iff_getElem.1 hm
  by_cases hij : i < j
  · exact absurd ⟨by rw [e], by rw [e]⟩ (h i hi hij)
  · omega
theorem pair_cases (p : Int × Int) (o : OpD) : ((p.1 == o.t) = true ∧ (p.2 == o.n) = true) ∨ ((p.1 == o.t) = true ∧ (p.2 == o.n) = false) ∨ (p.1 == o.t) = false := by
  cases p.1 == o.t <;> cases p.2 == o.n <;> simp

theorem opn_yes {o : OpD} (h : opn o = true) : (o.k != 2) = true ∧ (o.k != 3) = true := by
  simpa [opn] using h
theorem opn_no {o : OpD} (h : opn o = false) : (o.k != 2) = false ∨ ((o.k != 2) = true ∧ (o.k != 3) = false) := by
  by_cases h2 : o.k = 2
  · exact .inl (by simp [h2])
  · exact .inr ⟨by simp [h2], by simpa [opn, h2] using h⟩

theorem own_of {w : World} {base : Nat} {e : TypeId} {v : Value} {n : Nat} {l : List OpD} (h : w.ownsRow base e 4 v n (row l)) (hn : n = l.length) : Own w base e v l := by
  subst hn
  exact h

theorem mem_of {S : List (Int × Int)} {o : OpD} {j : Nat} (hj : j < S.length) (m1 : (S[j].1 == o.t) = true) (m2 : (S[j].2 == o.n) = true) : (o.t, o.n) ∈ S := by
  have e : S[j] = (o.t, o.n) := Prod.ext (by simpa using m1) (by simpa using m2)
  rw [← e]
  exact List.getElem_mem hj

theorem rev_one {D C r : List OpD} {o : OpD} (h : D = part o r ++ C) (hp : (!(later o r) && opn o) = false) : D.reverse = C.reverse ++ [o] := by
  subst h
  unfold part
  rw [hp]
  simp
theorem rev_two {D C r : List OpD} {o : OpD} (h : D = part o r ++ C) (hp : (!(later o r) && opn o) = true) : D.reverse = (C.reverse ++ [commit o]) ++ [o] := by
  subst h
  unfold part
  rw [hp]
  simp

set_option maxRecDepth 100000 in
set_option maxHeartbeats 1600000 in
theorem back_at (b off cap : Nat) (l : List OpD) (w : World) (hl : l.length ≤ 4096) (h : At w b off l) :
    Calls Try.prog 11 #[.slice (some ⟨b, off, none⟩) l.length cap] w fun e w' => ∃ v, e = .returned v ∧ Own w' w.heap.size 31 v (closedL l) ∧ Below w.heap.size w w' := by
  obtain ⟨i0, hi, hz0, hz1, hz2⟩ := info_parts info31
  obtain ⟨i3, hi3, hy0, hy1, hy2⟩ := info_parts info3
  go_enter Try.func11, Try.ntmps11
  go_wp2_with (at_make; refine wpList_make_own _ rfl _ _ 22 rfl w.heap.size 31 i0 _ 4 Try.underlying22 hi hz0 hz1 _ _ _ (2 * l.length) rfl rfl (by omega) (by rw [hz2]; omega) (by unfold maxLen; omega) (Nat.le_refl _) ?_)
  intro w1 hrow1 hg1
  have hb1 := (Below.refl w.heap.size w).grown hg1 (Nat.le_refl _) (fun k e => by cases e)
  clear hg1
  go_wp2_with fail
  go_loopw [3, 4, 5, 6] (fun v3 v4 v5 i wr => ∃ k : Nat, k ≤ l.length ∧ i = .int .i64 ((k : Int) - 1) ∧ Own wr w.heap.size 31 v3 (closedL (l.drop k)).reverse ∧ Seen wr w.heap.size v4 v5 (seenL (l.drop k)) ∧ Below w.heap.size w wr) (fun _ _ _ i _ => (intOf i + 1).toNat)
  case atStart => exact ⟨l.length, Nat.le_refl _, rfl, by rw [List.drop_of_length_le (Nat.le_refl _)]; exact hrow1, by rw [List.drop_of_length_le (Nat.le_refl _)]; exact seen_nil _ _, hb1⟩
  case round =>
    clear hrow1 hb1
    obtain ⟨k, hk, hu, h3, hS, hb⟩ := hrel
    rcases k with _ | m
    · have e : u6 = .int .i64 (-1) := by rw [hu]; rfl
      subst e
      clear hu hS
      rw [List.drop_zero] at h3
      have hN : (closedL l).reverse.length ≤ 8192 := by
        have h1 := closed_length l
        have h2 := openN_le l
        simp
        omega
      have HE : Hid ((closedL l).reverse.reverse = closedL l) := List.reverse_reverse _
      generalize (closedL l).reverse = R at *
      obtain ⟨a3, p3, rfl, s3⟩ := h3.shape
      go_wp2_with (at_make; refine wpList_make_full _ rfl _ _ 22 rfl w.heap.size 31 i0 _ 4 Try.underlying22 hi hz0 hz1 _ _ _ _ R.length rfl rfl rfl rfl (by rw [hz2]; omega) (by unfold maxLen; omega) hb.size ?_)
      intro w2 hrow2 hg2
      have hb2 := (Below.refl wr.heap.size wr).grown hg2 (Nat.le_refl _) (fun k e => by cases e)
      clear hg2
      have hs2 := hb.size
      go_wp2_with fail
      go_loopw [11] (fun i wx => ∃ k : Nat, ∃ xs : List Value, k ≤ R.length ∧ i = .int .i64 k ∧ wx.ownsRow w.heap.size 31 4 (.slice (some ⟨wr.heap.size, 0, none⟩) R.length R.length) R.length xs ∧ xs.take (k * 4) = row (R.reverse.take k) ∧ Below wr.heap.size wr wx) (fun i _ => R.length - (intOf i).toNat)
      case atStart => exact ⟨0, _, Nat.zero_le _, rfl, hrow2, by simp [row], hb2⟩
      case round =>
        clear hrow2 hb2
        obtain ⟨k, xs, hk, rfl, hown, hxs, hbx⟩ := hrel
        have HX : Hid (xs.take (k * 4) = row (R.reverse.take k)) := hxs
        clear hxs
        by_cases hlt : k < R.length
        · obtain ⟨g3, rfl, hg3, hat3⟩ := s3 (by omega)
          obtain ⟨c0, c1, c2, c3⟩ := (hat3.below hbx (fun _ => hg3)) (R.length - 1 - k) (by omega)
          simp only [Nat.zero_add] at c0 c1 c2 c3
          obtain ⟨⟨v0, d0⟩, ⟨v1, d1⟩, ⟨v2, d2⟩, ⟨v3, d3⟩⟩ := own_cells hown hlt
          have f0 := hown.frozenAt (k * 4)
          have f1 := hown.frozenAt (k * 4 + 1)
          have f2 := hown.frozenAt (k * 4 + 2)
          have f3 := hown.frozenAt (k * 4 + 3)
          have q1 : 0 ≤ (R.length : Int) - 1 - (k : Int) := by omega
          have q2 : (R.length : Int) - 1 - (k : Int) < (R.length : Int) := by omega
          obtain ⟨xs', hown', hxs'⟩ := own_store hown k hlt R[R.length - 1 - k] (R.reverse.take k) HX.out
          have hb' := below_store hbx (Nat.le_refl _) k R[R.length - 1 - k]
          have HX' : Hid (xs'.take ((k + 1) * 4) = row (R.reverse.take (k + 1))) := by
            rw [List.take_succ_eq_append_getElem (by simpa using hlt), List.getElem_reverse]
            exact hxs'
          clear hxs'
          go_wp2_with fail
          go_roundw
          case rel => exact ⟨k + 1, xs', by omega, by go_num, hown', HX'.out, hb'⟩
          case measure => simp [intOf]; omega
        · have hx : xs = row (closedL l) := by
            have h1 := HX.out
            rw [List.take_of_length_le (by have := hown.1; omega), List.take_of_length_le (by simp; omega), HE.out] at h1
            exact h1
          have hlen : R.length = (closedL l).length := by rw [← HE.out]; simp
          rw [hx] at hown
          have hfin := own_of hown hlen
          clear hlen hx
          go_wp2
          go_ret
          exact ⟨_, rfl, hfin, hb.trans (hbx.mono hs2)⟩
    · have e : u6 = .int .i64 (m : Int) := by rw [hu]; congr 1; omega
      subst e
      clear hu
      have hlt : m < l.length := by omega
      obtain ⟨c0, c1, c2, c3⟩ := (h.below hb (fun h0 => h.lt h0)) m hlt
      have hbb := Nat.lt_of_lt_of_le (h.lt (by omega)) hb.size
      obtain ⟨a4, p4, rfl, s4⟩ := row_shape hS.o4
      obtain ⟨a5, p5, rfl, s5⟩ := row_shape hS.o5
      have hn3 : some wr.heap.size ≠ u3.ownBlock := fun e => by have := (World.ownsRow.lt h3 _ e.symm).2; omega
      have hS1 := hS.alloc (.cells #[.int .i64 l[m].k, .int .i64 l[m].t, .int .i64 l[m].n, .string l[m].s] 31)
      have h31 := World.ownsRow.alloc h3 (.cells #[.int .i64 l[m].k, .int .i64 l[m].t, .int .i64 l[m].n, .string l[m].s] 31)
      have hb1 := hb.alloc hb.size (.cells #[.int .i64 l[m].k, .int .i64 l[m].t, .int .i64 l[m].n, .string l[m].s] 31)
      have hx1 := box_made wr l[m]
      have hz1' : w.heap.size ≤ (wr.alloc (.cells #[.int .i64 l[m].k, .int .i64 l[m].t, .int .i64 l[m].n, .string l[m].s] 31)).heap.size := by have := hb.size; simp; omega
      have HP := closed_at hlt
      have HQ : seenL (l.drop m) = if later l[m] (l.drop (m + 1)) then seenL (l.drop (m + 1)) else seenL (l.drop (m + 1)) ++ [(l[m].t, l[m].n)] := by rw [drop_at hlt]; rfl
      have hRl : (closedL (l.drop (m + 1))).length ≤ 8192 := by
        have h1 := closed_length (l.drop (m + 1))
        have h2 := openN_le (l.drop (m + 1))
        simp at h1 h2
        omega
      have hSl : (seenL (l.drop (m + 1))).length ≤ 4096 := by
        have h1 := seen_length (l.drop (m + 1))
        simp at h1
        omega
      have hSi := seen_iff l[m] (l.drop (m + 1))
      have HP' : Hid (closedL (l.drop m) = part l[m] (l.drop (m + 1)) ++ closedL (l.drop (m + 1))) := HP
      have HQ' : Hid (seenL (l.drop m) = if later l[m] (l.drop (m + 1)) then seenL (l.drop (m + 1)) else seenL (l.drop (m + 1)) ++ [(l[m].t, l[m].n)]) := HQ
      have HI : Hid ((l[m].t, l[m].n) ∈ seenL (l.drop (m + 1)) ↔ later l[m] (l.drop (m + 1)) = true) := hSi
      clear HP HQ hSi hS h3 hb
      go_wp2_with fail
      clear c0 c1 c2 c3 hbb
      generalize wr.alloc (.cells #[.int .i64 l[m].k, .int .i64 l[m].t, .int .i64 l[m].n, .string l[m].s] 31) = W at *
      generalize wr.heap.size = bx at *
      generalize l[m] = o at *
      generalize l.drop (m + 1) = r at *
      generalize seenL r = S at *
      generalize closedL r = C at *
      cases hla : later o r with
      | true =>
        have HRev : Hid ((closedL (l.drop m)).reverse = C.reverse ++ [o]) := rev_one HP'.out (by rw [hla]; rfl)
        have HSn : Hid (seenL (l.drop m) = S) := by have h1 := HQ'.out; rw [hla] at h1; exact h1
        have HM : Hid ((o.t, o.n) ∈ S) := HI.out.2 hla
        have hRl' : C.reverse.length ≤ 8192 := by simpa using hRl
        clear HP' HQ' HI hla hRl
        generalize C.reverse = R at *
        go_loopw [8, 9] (fun se jv wx => ∃ j q : Nat, j ≤ S.length ∧ jv = .int .i64 j ∧ se = .bool false ∧ NoS S o j ∧ wx = W.drewN q) (fun _ jv _ => S.length - (intOf jv).toNat)
        case atStart => exact ⟨0, 0, Nat.zero_le _, rfl, rfl, noS_zero S o, rfl⟩
        case round =>
          obtain ⟨j, q, hj, rfl, rfl, hno, rfl⟩ := hrel
          have hjl := noS_all hno HM.out hj
          have HN : Hid (NoS S o j) := hno
          clear hno
          obtain ⟨g4, rfl, _, _⟩ := s4 (by omega)
          obtain ⟨g5, rfl, _, _⟩ := s5 (by omega)
          obtain ⟨t4, t5⟩ := hS1.get hjl
          obtain ⟨x0, x1, x2, x3⟩ := hx1.cells
          have q1 : (j : Int) < (S.length : Int) := by omega
          rcases pair_cases S[j] o with ⟨m1, m2⟩ | ⟨m1, m2⟩ | m1
          · go_wp2_with fail
            go_quiet (fail)
            go_wp2_with (at_builtin; refine wpList_append_own _ rfl (.tmp 77) (.tmp 79) 22 rfl w.heap.size 31 i0 _ 4 40 Try.underlying22 hi hz0 hz1 hz2 rfl (by decide) _ _ _ rfl (by exact World.ownsRow.alloc (own_drewN (own_drewN h31 q) nq) _) ⟨W.heap.size, 0, none⟩ 1 1 o.cells rfl rfl (one_cells _ _ _ _ rfl) (cells_one _) (by unfold maxLen; omega) (by omega) (by simp; omega) ?_)
            intro v6 w6 hrow6 hg6 _
            obtain ⟨hS6, hb6, _⟩ := rev_push _ (own_drewN h31 _) (hS1.drewN _) (below_drewN hb1 _) hz1' hg6
            replace hrow6 := row_snoc31 hrow6
            clear hg6 t4 t5 x0 x1 x2 x3 hx1 h31 hS1 hb1
            go_wp2_with fail
            go_roundw
            case rel => exact ⟨m, by omega, rfl, by rw [HRev.out]; exact hrow6, by rw [HSn.out]; exact hS6, hb6⟩
            case measure => simp [intOf]
          · go_wp2_with fail
            go_quiet (fail)
            go_wp2_with fail
            go_roundw
            case rel => exact ⟨j + 1, q + nq, by omega, by go_num, rfl, noS_step HN.out hjl (fun e => by simp [e.2] at m2), rfl⟩
            case measure => simp [intOf]; omega
          · go_wp2_with fail
            go_quiet (fail)
            go_wp2_with fail
            go_roundw
            case rel => exact ⟨j + 1, q + nq, by omega, by go_num, rfl, noS_step HN.out hjl (fun e => by simp [e.1] at m1), rfl⟩
            case measure => simp [intOf]; omega
      | false =>
        have HSn : Hid (seenL (l.drop m) = S ++ [(o.t, o.n)]) := by have h1 := HQ'.out; rw [hla] at h1; exact h1
        have HM : Hid (¬ (o.t, o.n) ∈ S) := fun hm => by have h1 := HI.out.1 hm; rw [hla] at h1; cases h1
        have hRl' : C.reverse.length ≤ 8192 := by simpa using hRl
        have HL : Hid (later o r = false) := hla
        clear HQ' HI hla hRl
        go_loopw [8, 9] (fun se jv wx => ∃ j q : Nat, j ≤ S.length ∧ jv = .int .i64 j ∧ se = .bool false ∧ wx = W.drewN q) (fun _ jv _ => S.length - (intOf jv).toNat)
        case atStart => exact ⟨0, 0, Nat.zero_le _, rfl, rfl, rfl⟩
        case round =>
          obtain ⟨j, q, hj, rfl, rfl, rfl⟩ := hrel
          obtain ⟨x0, x1, x2, x3⟩ := hx1.cells
          by_cases hjl : j < S.length
          · obtain ⟨g4, rfl, _, _⟩ := s4 (by omega)
            obtain ⟨g5, rfl, _, _⟩ := s5 (by omega)
            obtain ⟨t4, t5⟩ := hS1.get hjl
            have q1 : (j : Int) < (S.length : Int) := by omega
            rcases pair_cases S[j] o with ⟨m1, m2⟩ | ⟨m1, m2⟩ | m1
            · exact absurd (mem_of hjl m1 m2) HM.out
            · go_wp2_with fail
              go_quiet (fail)
              go_wp2_with fail
              go_roundw
              case rel => exact ⟨j + 1, q + nq, by omega, by go_num, rfl, rfl⟩
              case measure => simp [intOf]; omega
            · go_wp2_with fail
              go_quiet (fail)
              go_wp2_with fail
              go_roundw
              case rel => exact ⟨j + 1, q + nq, by omega, by go_num, rfl, rfl⟩
              case measure => simp [intOf]; omega
          · have hS2 := hS1.drewN q
            have h32 := own_drewN h31 q
            have hb2 := below_drewN hb1 q
            have hx2 := hx1.drewN q
            have hz2' : w.heap.size ≤ (W.drewN q).heap.size := hz1'
            have hne4 := hx2.ne_row hS2.o4
            clear hS1 h31 hb1 hx1 x0 x1 x2 x3 hz1' s4 s5
            generalize W.drewN q = W2 at *
            obtain ⟨x0, x1, x2, x3⟩ := hx2.cells
            have hjn : ¬ (j : Int) < (S.length : Int) := by omega
            go_wp2_with (at_builtin; refine wpList_append_own_at _ rfl (.tmp 51) (.tmp 54) 38 rfl w.heap.size 3 i3 _ 1 8 Try.underlying38 hi3 hy0 hy1 hy2 rfl (by decide) _ _ _ rfl (by exact World.ownsRow.alloc hS2.o4 _) ⟨W2.heap.size, 0, none⟩ 1 1 [.int .i64 o.t] rfl rfl (cell_one_new _ _ _) (ints_oneCell .i64 [o.t]) (by unfold maxLen; omega) (by omega) (by simp; omega) ?_)
            intro v6 w6 ha hg6 hn6 hl6
            obtain ⟨h36, hb6, hz6⟩ := int_push _ h32 hS2.o4 hb2 hz2' hg6
            have hx6 := hx2.kept hg6 hne4
            have o56 := other_list _ hS2 hg6
            have HA : Hid (w6.ownsRow w.heap.size 3 1 v6 (S.length + 1) ((S.map fun p => Value.int .i64 p.1) ++ [.int .i64 o.t])) := ha
            have HG6 : Hid ((W2.alloc (.cells #[.int .i64 o.t] 3)).grownBy w6 (Value.slice a4 S.length p4).ownBlock) := hg6
            have HN6 : Hid (¬ v6 = .slice none 0 0) := hn6
            have hl6' : v6.ownBlock = (Value.slice a4 S.length p4).ownBlock ∨ v6.ownBlock = some (W2.alloc (.cells #[.int .i64 o.t] 3)).heap.size := by simpa using hl6
            have HL6 : Hid (v6.ownBlock = (Value.slice a4 S.length p4).ownBlock ∨ v6.ownBlock = some (W2.alloc (.cells #[.int .i64 o.t] 3)).heap.size) := hl6'
            clear x0 x1 x2 x3 ha hg6 hn6 hl6 hl6' hb2 h32 hx2 hne4
            obtain ⟨x0, x1, x2, x3⟩ := hx6.cells
            go_wp2_with (at_builtin; refine wpList_append_own_at _ rfl (.tmp 56) (.tmp 59) 38 rfl w.heap.size 3 i3 _ 1 8 Try.underlying38 hi3 hy0 hy1 hy2 rfl (by decide) _ _ _ rfl (by exact World.ownsRow.alloc o56 _) ⟨w6.heap.size, 0, none⟩ 1 1 [.int .i64 o.n] rfl rfl (cell_one_new _ _ _) (ints_oneCell .i64 [o.n]) (by unfold maxLen; omega) (by omega) (by simp; omega) ?_)
            intro v7 w7 hc hg7 _ hl7
            have hS7 := seen_push hS2 _ _ HA.out HG6.out HN6.out HL6.out hc hg7 (by simpa using hl7)
            obtain ⟨h37, hb7, hz7⟩ := int_push _ h36 o56 hb6 (by omega) hg7
            have hx7 := hx6.kept hg7 (hx6.ne_row o56)
            have hz7' : w.heap.size ≤ w7.heap.size := by omega
            clear x0 x1 x2 x3 hc hg7 hl7 HA HG6 HN6 HL6 hS2 o56 h36 hb6 hx6 hz6 hz7 hz2'
            obtain ⟨x0, x1, x2, x3⟩ := hx7.cells
            cases hop : opn o with
            | false =>
              have HRev : Hid ((closedL (l.drop m)).reverse = C.reverse ++ [o]) := rev_one HP'.out (by rw [hop, Bool.and_false])
              have hor := opn_no hop
              clear hop HP' HL
              generalize C.reverse = R at *
              rcases hor with h2 | ⟨h2, h3⟩
              all_goals
                go_wp2_with (at_builtin; refine wpList_append_own _ rfl (.tmp 77) (.tmp 79) 22 rfl w.heap.size 31 i0 _ 4 40 Try.underlying22 hi hz0 hz1 hz2 rfl (by decide) _ _ _ rfl (by exact World.ownsRow.alloc h37 _) ⟨w7.heap.size, 0, none⟩ 1 1 o.cells rfl rfl (one_cells _ o _ _ rfl) (cells_one _) (by unfold maxLen; omega) (by omega) (by simp; omega) ?_)
                intro v8 w8 hrow8 hg8 _
                obtain ⟨hS8, hb8, _⟩ := rev_push _ h37 hS7 hb7 hz7' hg8
                replace hrow8 := row_snoc31 hrow8
                clear hg8 x0 x1 x2 x3 hx7 h37 hS7 hb7
                go_wp2_with fail
                go_roundw
                case rel => exact ⟨m, by omega, rfl, by rw [HRev.out]; exact hrow8, by rw [HSn.out]; exact hS8, hb8⟩
                case measure => simp [intOf]
            | true =>
              have HRev : Hid ((closedL (l.drop m)).reverse = (C.reverse ++ [commit o]) ++ [o]) := rev_two HP'.out (by rw [hop, HL.out]; rfl)
              obtain ⟨h2, h3⟩ := opn_yes hop
              clear hop HP' HL
              generalize C.reverse = R at *
              go_wp2_with (at_builtin; refine wpList_append_own _ rfl (.tmp 69) (.tmp 75) 22 rfl w.heap.size 31 i0 _ 4 40 Try.underlying22 hi hz0 hz1 hz2 rfl (by decide) _ _ _ rfl (by exact World.ownsRow.alloc h37 _) ⟨w7.heap.size, 0, none⟩ 1 1 (commit o).cells rfl rfl (one_cells _ (commit o) _ _ rfl) (cells_one _) (by unfold maxLen; omega) (by omega) (by simp; omega) ?_)
              intro v8 w8 hrow8 hg8 _
              obtain ⟨hS8, hb8, hz8⟩ := rev_push _ h37 hS7 hb7 hz7' hg8
              have hx8 := hx7.kept hg8 hn3
              replace hrow8 := row_snoc31 hrow8
              have hz8' : w.heap.size ≤ w8.heap.size := by omega
              have hRl8 : (R ++ [commit o]).length ≤ 8193 := by simp; omega
              clear hg8 x0 x1 x2 x3 hx7 h37 hS7 hb7 hz8
              obtain ⟨x0, x1, x2, x3⟩ := hx8.cells
              generalize R ++ [commit o] = R8 at *
              go_wp2_with (at_builtin; refine wpList_append_own _ rfl (.tmp 77) (.tmp 79) 22 rfl w.heap.size 31 i0 _ 4 40 Try.underlying22 hi hz0 hz1 hz2 rfl (by decide) _ _ _ rfl (by exact World.ownsRow.alloc hrow8 _) ⟨w8.heap.size, 0, none⟩ 1 1 o.cells rfl rfl (one_cells _ o _ _ rfl) (cells_one _) (by unfold maxLen; omega) (by omega) (by simp; omega) ?_)
              intro v9 w9 hrow9 hg9 _
              obtain ⟨hS9, hb9, _⟩ := rev_push _ hrow8 hS8 hb8 hz8' hg9
              replace hrow9 := row_snoc31 hrow9
              clear hg9 x0 x1 x2 x3 hx8 hrow8 hS8 hb8
              go_wp2_with fail
              go_roundw
              case rel => exact ⟨m, by omega, rfl, by rw [HRev.out]; exact hrow9, by rw [HSn.out]; exact hS9, hb9⟩
              case measure => simp [intOf]

set_option maxRecDepth 100000 in
theorem back_nil (w : World) :
    Calls Try.prog 11 #[.slice none 0 0] w fun e w' => ∃ v, e = .returned v ∧ Own w' w.heap.size 31 v [] ∧ Below w.heap.size w w' := by
  obtain ⟨i0, hi, hz0, hz1, hz2⟩ := info_parts info31
  go_enter Try.func11, Try.ntmps11
  go_wp2_with (at_make; refine wpList_make_own _ rfl _ _ 22 rfl w.heap.size 31 i0 _ 4 Try.underlying22 hi hz0 hz1 _ _ _ 0 rfl rfl rfl (by omega) (by unfold maxLen; omega) (Nat.le_refl _) ?_)
  intro w1 hrow1 hg1
  have hb1 := (Below.refl w.heap.size w).grown hg1 (Nat.le_refl _) (fun k e => by cases e)
  clear hg1 hrow1
  go_wp2_with fail
  refine wp_loop_rounds 1 ?_
  rw [rounds_succ]
  go_wp2_with (at_make; refine wpList_make_full _ rfl _ _ 22 rfl w.heap.size 31 i0 _ 4 Try.underlying22 hi hz0 hz1 _ _ _ _ 0 rfl rfl rfl rfl (by omega) (by unfold maxLen; omega) hb1.size ?_)
  intro w2 hrow2 hg2
  have hb2 := hb1.grown hg2 hb1.size (fun k e => by cases e)
  have hfin : Own w2 w.heap.size 31 (.slice (some ⟨w1.heap.size, 0, none⟩) 0 0) [] := by
    have e0 := List.eq_nil_of_length_eq_zero (hrow2.1.trans (Nat.zero_mul _))
    rw [e0] at hrow2
    exact hrow2
  clear hg2 hrow2 hb1
  go_wp2_with fail
  refine wp_loop_rounds 1 ?_
  rw [rounds_succ]
  go_wp2
  go_ret
  exact ⟨_, rfl, hfin, hb2⟩

theorem back_any {base : Nat} {v : Value} {l : List OpD} (w : World) (h : Own w base 31 v l) (hl : l.length ≤ 4096) :
    Calls Try.prog 11 #[v] w fun e w' => ∃ v', e = .returned v' ∧ Own w' w.heap.size 31 v' (closedL l) ∧ Below w.heap.size w w' := by
  rcases h.form with ⟨rfl, rfl⟩ | ⟨g, cap, rfl, _, _, hat⟩
  · exact back_nil w
  · exact back_at g 0 cap l w hl hat
end Go.Proofs.Qxb6603542a
