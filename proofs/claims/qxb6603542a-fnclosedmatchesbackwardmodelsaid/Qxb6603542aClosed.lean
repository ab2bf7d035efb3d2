/-
  The contract of (Schedule).Closed (10).
-/
import Derived.Test.Qxb6603542aSame
import Derived.Test.Qxb6603542aMap
import Derived.Maps.OwnOps
namespace Go.Proofs.Qxb6603542a
open Go.ChangeShapes Go.WideShapes Go.ChangeAt Go.RowKit
open Go.Maps (Keyed)

theorem map_put {w' : World} {B k : Nat} {l : List OpD} {D : DataW Unit} {kl : Lit} (hlt : k < l.length) (hm : Maps.IsMap D) (hk : keyOf Try.prog 34 (keyV l[k].t l[k].n) = some kl)
    (hD : ∀ t n kl, keyOf Try.prog 34 (keyV t n) = some kl → ∃ c, D.atKey kl (.lit (.int .i64 0)) = .lit (.int .i64 c) ∧ IsLast (l.take k) t n c)
    (ho : w'.ownsMap Try.prog 34 (plainElem Try.prog 3) B (k + 1) (D.put kl (.lit (.int .i64 (k : Int))))) : MapIs w' B (k + 1) (l.take (k + 1)) := by
  refine ⟨_, ho, ?_⟩
  have := put_last (o := l[k]) hm hk hD
  rw [List.length_take, Nat.min_eq_left (by omega)] at this
  rw [List.take_succ_eq_append_getElem hlt]
  exact this

theorem look_is {D : DataW Unit} {l : List OpD} {k : Nat} {kl : Lit} {p : Int} (hlt : k < l.length)
    (hD : ∀ t n kl, keyOf Try.prog 34 (keyV t n) = some kl → ∃ c, D.atKey kl (.lit (.int .i64 0)) = .lit (.int .i64 c) ∧ IsLast l t n c)
    (hk : keyOf Try.prog 34 (keyV l[k].t l[k].n) = some kl) (hat : D.atKey kl (.lit (.int .i64 0)) = .lit (.int .i64 p)) : (p == (k : Int)) = !(later l[k] (l.drop (k + 1))) := by
  obtain ⟨c, h1, h2⟩ := hD _ _ _ hk
  rw [hat] at h1
  have e : p = c := by simpa using h1
  subst e
  exact last_is hlt h2

theorem step_one {l c : List OpD} {k : Nat} (hlt : k < l.length) (h : c ++ closedL (l.drop k) = closedL l) (hp : (!(later l[k] (l.drop (k + 1))) && opn l[k]) = false) :
    (c ++ [l[k]]) ++ closedL (l.drop (k + 1)) = closedL l := by
  rw [← h, closed_at hlt]
  unfold part
  rw [hp]
  simp

theorem step_two {l c : List OpD} {k : Nat} (hlt : k < l.length) (h : c ++ closedL (l.drop k) = closedL l) (hp : (!(later l[k] (l.drop (k + 1))) && opn l[k]) = true) :
    ((c ++ [l[k]]) ++ [commit l[k]]) ++ closedL (l.drop (k + 1)) = closedL l := by
  rw [← h, closed_at hlt]
  unfold part
  rw [hp]
  simp

theorem opn_true {o : OpD} (h : opn o = true) : (o.k != 2) = true ∧ (o.k != 3) = true := by
  simpa [opn] using h
theorem opn_false {o : OpD} (h : opn o = false) : (o.k != 2) = false ∨ ((o.k != 2) = true ∧ (o.k != 3) = false) := by
  by_cases h2 : o.k = 2
  · exact .inl (by simp [h2])
  · exact .inr ⟨by simp [h2], by simpa [opn, h2] using h⟩

section
variable {w wr w1 : World} {D : DataW Unit} {n : Nat} {v : Value} {c : List OpD}
/-- Behind 'closed = append(closed, op)', op in a box of its own. -/
theorem pushed (X Y : Array Value) (hrow : wr.ownsRow (w.heap.size + 1) 36 4 v c.length (row c)) (hown : wr.ownsMap Try.prog 34 (plainElem Try.prog 3) w.heap.size n D) (hb : Below w.heap.size w wr)
    (hg : ((wr.alloc (.cells X 36)).alloc (.cells Y 36)).grownBy w1 v.ownBlock) :
    w1.ownsMap Try.prog 34 (plainElem Try.prog 3) w.heap.size n D ∧ Below w.heap.size w w1 ∧ wr.heap.size + 2 ≤ w1.heap.size ∧ ∀ j, w1.cell? ⟨wr.heap.size, j, none⟩ = X[j]? := by
  have hs := hb.size
  refine ⟨((hown.alloc _).alloc _).kept hg (fun e => by have := hrow.lt _ e.symm; omega), ?_, ?_, fun j => ?_⟩
  · exact ((hb.alloc hs _).alloc (by simp; omega) _).grown hg (by simp; omega) (fun k e => by have := hrow.lt k e; omega)
  · have := hg.size
    simp at this
    omega
  · have h1 := hg.block wr.heap.size (by simp; omega) (fun e => by have := hrow.lt _ e.symm; omega)
    rw [World.cell?_of_block (a := ⟨wr.heap.size, j, none⟩) h1, World.cell?_alloc_old _ _ _ (by simp), World.cell?_alloc_new]

/-- Behind the append of the commit. -/
theorem pushed2 (Y : Array Value) (hrow : wr.ownsRow (w.heap.size + 1) 36 4 v c.length (row c)) (hown : wr.ownsMap Try.prog 34 (plainElem Try.prog 3) w.heap.size n D) (hb : Below w.heap.size w wr)
    (hg : (wr.alloc (.cells Y 36)).grownBy w1 v.ownBlock) :
    w1.ownsMap Try.prog 34 (plainElem Try.prog 3) w.heap.size n D ∧ Below w.heap.size w w1 ∧ wr.heap.size + 1 ≤ w1.heap.size := by
  have hs := hb.size
  refine ⟨(hown.alloc _).kept hg (fun e => by have := hrow.lt _ e.symm; omega), ?_, ?_⟩
  · exact (hb.alloc hs _).grown hg (by simp; omega) (fun k e => by have := hrow.lt k e; omega)
  · have := hg.size
    simp at this
    omega

theorem row_snoc {W : World} {base : Nat} {v' : Value} {o : OpD} (h : W.ownsRow base 36 4 v' (c.length + 1) (row c ++ o.cells)) : W.ownsRow base 36 4 v' (c ++ [o]).length (row (c ++ [o])) := by
  rw [row_append, row_one, List.length_append]
  exact h
end

set_option maxRecDepth 100000 in
set_option maxHeartbeats 1600000 in
theorem closed_at_ (b off cap : Nat) (l : List OpD) (w : World) (hl : l.length ≤ 10000) (h : At w b off l) (hw : ∀ o ∈ l, Wf o) :
    Calls Try.prog 10 #[.slice (some ⟨b, off, none⟩) l.length cap] w fun e w' => ∃ v, e = .returned v ∧ Own w' w.heap.size 36 v (closedL l) ∧ Below w.heap.size w w' := by
  obtain ⟨i0, hi, hz0, hz1, hz2⟩ := info_parts info36
  have hmm := @run_makeMap Try.prog
  go_enter Try.func10, Try.ntmps10
  go_wp2_with fail
  have hm0 := mapIs_made w
  have hb0 := (Below.refl w.heap.size w).alloc (Nat.le_refl _) (.map #[] 0)
  go_loopw [12] (fun i wr => ∃ k : Nat, k ≤ l.length ∧ i = .int .i64 k ∧ MapIs wr w.heap.size k (l.take k) ∧ Below w.heap.size w wr) (fun i _ => l.length - (intOf i).toNat)
  case atStart => exact ⟨0, Nat.zero_le _, rfl, hm0, hb0⟩
  case round =>
    clear hm0 hb0
    obtain ⟨k, hk, rfl, hm, hb⟩ := hrel
    by_cases hlt : k < l.length
    · obtain ⟨c0, c1, c2, c3⟩ := (h.below hb (fun h0 => h.lt h0)) k hlt
      have hbb := Nat.lt_of_lt_of_le (h.lt (by omega)) hb.size
      obtain ⟨D, hown, hD⟩ := hm
      have hwk := hw l[k] (List.getElem_mem hlt)
      obtain ⟨kl, hkl⟩ := key_some l[k].t l[k].n hwk.2.1 hwk.2.2.1
      have HK : Hid (keyOf Try.prog 34 (keyV l[k].t l[k].n) = some kl) := hkl
      have HD : Hid (∀ t n kl, keyOf Try.prog 34 (keyV t n) = some kl → ∃ c, D.atKey kl (.lit (.int .i64 0)) = .lit (.int .i64 c) ∧ IsLast (l.take k) t n c) := hD
      clear hkl hD hwk
      go_wp2_with (at_mapUpdate; refine wpList_mapUpdate_own _ rfl _ _ _ 37 rfl 34 3 keyed Try.underlying37 _ w.heap.size k D rfl (hown.alloc _) (by unfold maxLen; omega) _ _ kl rfl rfl HK.out (.lit (.int .i64 (k : Int))) [] (plainElem_int Try.underlying3 (WalkArith.wf_i64 (by omega))) ?_)
      intro w1 hown1 hg1
      have hm1 := map_put hlt hown.isMap HK.out HD.out hown1
      have hb1 := (hb.alloc hb.size (.cells #[.int .i64 l[k].k, .int .i64 l[k].t, .int .i64 l[k].n, .string l[k].s] 36)).grown hg1 (by have := hb.size; simp; omega) (fun j e => by cases e; exact Nat.le_refl _)
      clear hown1 hg1 hown HK HD
      go_wp2_with fail
      go_roundw
      case rel => exact ⟨k + 1, by omega, by go_num, hm1, hb1⟩
      case measure => simp [intOf]; omega
    · obtain rfl : k = l.length := by omega
      rw [List.take_of_length_le (Nat.le_refl _)] at hm
      have hBl := hm.lt
      obtain ⟨D, hown, hD⟩ := hm
      have hlen := hown.len Try.underlying37 3
      have hsz := hown.size_le
      generalize Maps.size D = z at *
      have HD : Hid (∀ t n kl, keyOf Try.prog 34 (keyV t n) = some kl → ∃ c, D.atKey kl (.lit (.int .i64 0)) = .lit (.int .i64 c) ∧ IsLast l t n c) := hD
      clear hD
      go_wp2_with (at_make; refine wpList_make_own _ rfl _ _ 27 rfl (w.heap.size + 1) 36 i0 _ 4 Try.underlying27 hi hz0 hz1 _ _ _ (l.length + z) rfl rfl (by omega) (by rw [hz2]; omega) (by unfold maxLen; omega) (by omega) ?_)
      intro w2 hrow2 hg2
      have hb2 := hb.grown hg2 hb.size (fun j e => by cases e)
      have hown2 := hown.kept hg2 (by simp)
      have hs2 : w.heap.size + 1 ≤ w2.heap.size := Nat.le_trans (by omega) hg2.size
      clear hown hb hg2 hlen
      go_wp2_with fail
      go_loopw [6, 30] (fun v i wx => ∃ k : Nat, ∃ c : List OpD, k ≤ l.length ∧ i = .int .i64 k ∧ wx.ownsRow (w.heap.size + 1) 36 4 v c.length (row c) ∧ c ++ closedL (l.drop k) = closedL l ∧
          wx.ownsMap Try.prog 34 (plainElem Try.prog 3) w.heap.size l.length D ∧ Below w.heap.size w wx ∧ w.heap.size + 1 ≤ wx.heap.size) (fun _ i _ => l.length - (intOf i).toNat)
      case atStart => exact ⟨0, [], Nat.zero_le _, rfl, hrow2, rfl, hown2, hb2, hs2⟩
      case round =>
        clear hrow2 hown2 hb2 hs2
        obtain ⟨k, c, hk', rfl, hrow, hcl, hown, hbx, hsx⟩ := hrel
        have HC : Hid (c ++ closedL (l.drop k) = closedL l) := hcl
        clear hcl
        by_cases hlt' : k < l.length
        · obtain ⟨c0, c1, c2, c3⟩ := (h.below hbx (fun h0 => h.lt h0)) k hlt'
          have hbb := Nat.lt_of_lt_of_le (h.lt (by omega)) hbx.size
          have hwk := hw l[k] (List.getElem_mem hlt')
          obtain ⟨kl, hkl⟩ := key_some l[k].t l[k].n hwk.2.1 hwk.2.2.1
          have HK : Hid (keyOf Try.prog 34 (keyV l[k].t l[k].n) = some kl) := hkl
          clear hkl hwk
          have hcl : c.length ≤ 20000 := by
            have h1 := congrArg List.length HC.out
            have h2 := closed_length l
            have h3 := openN_le l
            simp at h1
            omega
          go_wp2_with (at_builtin; refine wpList_append_own _ rfl (.tmp 35) (.tmp 37) 27 rfl (w.heap.size + 1) 36 i0 _ 4 40 Try.underlying27 hi hz0 hz1 hz2 rfl (by decide) _ _ _ rfl ((hrow.alloc _).alloc _) ⟨wr.heap.size + 1, 0, none⟩ 1 1 l[k].cells rfl rfl (one_cells _ _ _ _ (by simp)) (cells_one _) (by unfold maxLen; omega) (by omega) (by simp; omega) ?_)
          intro v1 w1 hrow1 hg1 _
          obtain ⟨hown1, hb1, hs1, hbox⟩ := pushed _ _ hrow hown hbx hg1
          replace hrow1 := row_snoc hrow1
          clear hg1 hrow hown hbx c0 c1 c2 c3 hbb
          have e0 := hbox 0
          have e1 := hbox 1
          have e2 := hbox 2
          have e3 := hbox 3
          clear hbox
          simp only [List.getElem?_toArray, List.getElem?_cons_zero, List.getElem?_cons_succ] at e0 e1 e2 e3
          go_wp2_with (at_lookup; refine wpList_lookup_own_int _ rfl _ _ 37 rfl 34 3 .i64 keyed Try.underlying37 Try.underlying3 (zero3 _) w.heap.size l.length D rfl hown1 _ kl rfl HK.out ?_)
          intro p hat hwp
          have hp : (p == (k : Int)) = !(later l[k] (l.drop (k + 1))) := look_is hlt' HD.out HK.out hat
          clear hat hwp HK
          cases hla : later l[k] (l.drop (k + 1)) with
          | true =>
            have HC1 : Hid ((c ++ [l[k]]) ++ closedL (l.drop (k + 1)) = closedL l) := step_one hlt' HC.out (by rw [hla]; rfl)
            rw [hla] at hp
            replace hp : (p == (k : Int)) = false := hp
            clear hla HC
            go_wp2_with fail
            go_roundw
            case rel => exact ⟨k + 1, c ++ [l[k]], by omega, by go_num, hrow1, HC1.out, hown1, hb1, by omega⟩
            case measure => simp [intOf]; omega
          | false =>
            obtain rfl : p = (k : Int) := by rw [hla] at hp; simpa using hp
            clear hp
            cases hop : opn l[k] with
            | false =>
              have HC1 : Hid ((c ++ [l[k]]) ++ closedL (l.drop (k + 1)) = closedL l) := step_one hlt' HC.out (by rw [hop, Bool.and_false])
              have hor := opn_false hop
              clear hla hop HC
              rcases hor with h2 | ⟨h2, h3⟩
              all_goals
                go_wp2_with fail
                go_roundw
                case rel => exact ⟨k + 1, c ++ [l[k]], by omega, by go_num, hrow1, HC1.out, hown1, hb1, by omega⟩
                case measure => simp [intOf]; omega
            | true =>
              have HC1 : Hid (((c ++ [l[k]]) ++ [commit l[k]]) ++ closedL (l.drop (k + 1)) = closedL l) := step_two hlt' HC.out (by rw [hla, hop]; rfl)
              obtain ⟨h2, h3⟩ := opn_true hop
              have hc1 : (c ++ [l[k]]).length ≤ 20001 := by simp; omega
              clear hla hop HC
              generalize c ++ [l[k]] = c1 at *
              go_wp2_with (at_builtin; refine wpList_append_own _ rfl (.tmp 55) (.tmp 59) 27 rfl (w.heap.size + 1) 36 i0 _ 4 40 Try.underlying27 hi hz0 hz1 hz2 rfl (by decide) _ _ _ rfl (hrow1.alloc _) ⟨w1.heap.size, 0, none⟩ 1 1 (commit l[k]).cells rfl rfl (one_cells _ (commit l[k]) _ _ rfl) (cells_one _) (by unfold maxLen; omega) (by omega) (by simp; omega) ?_)
              intro v3 w3 hrow3 hg3 _
              obtain ⟨hown3, hb3, hs3⟩ := pushed2 _ hrow1 hown1 hb1 hg3
              replace hrow3 := row_snoc hrow3
              clear hg3 hrow1 hown1 hb1
              go_wp2_with fail
              go_roundw
              case rel => exact ⟨k + 1, c1 ++ [commit l[k]], by omega, by go_num, hrow3, HC1.out, hown3, hb3, by omega⟩
              case measure => simp [intOf]; omega
        · have e : c = closedL l := by
            have h1 := HC.out
            rw [List.drop_of_length_le (by omega)] at h1
            simpa [closedL] using h1
          go_wp2
          go_ret
          exact ⟨_, rfl, (by rw [← e]; exact Own.mono hrow (Nat.le_succ _)), hbx⟩

set_option maxRecDepth 100000 in
theorem closed_nil (w : World) :
    Calls Try.prog 10 #[.slice none 0 0] w fun e w' => ∃ v, e = .returned v ∧ Own w' w.heap.size 36 v [] ∧ Below w.heap.size w w' := by
  obtain ⟨i0, hi, hz0, hz1, hz2⟩ := info_parts info36
  have hmm := @run_makeMap Try.prog
  have hm0 := World.ownsMap_made (H := Unit) w Try.prog 34 (plainElem Try.prog 3)
  have hb0 := (Below.refl w.heap.size w).alloc (Nat.le_refl _) (.map #[] 0)
  have hlen := hm0.len Try.underlying37 3
  have hz : Maps.size (H := Unit) (.map []) = 0 := rfl
  rw [hz] at hlen
  clear hz hm0
  go_enter Try.func10, Try.ntmps10
  go_wp2_with fail
  refine wp_loop_rounds 1 ?_
  rw [rounds_succ]
  go_wp2_with (at_make; refine wpList_make_own _ rfl _ _ 27 rfl (w.heap.size + 1) 36 i0 _ 4 Try.underlying27 hi hz0 hz1 _ _ _ 0 rfl rfl rfl (by omega) (by unfold maxLen; omega) (by simp) ?_)
  intro w2 hrow2 hg2
  have hb2 := hb0.grown hg2 (by simp) (fun j e => by cases e)
  clear hg2 hlen hb0
  go_wp2_with fail
  refine wp_loop_rounds 1 ?_
  rw [rounds_succ]
  go_wp2
  go_ret
  exact ⟨_, rfl, Own.mono hrow2 (Nat.le_succ _), hb2⟩

theorem closed_any {base : Nat} {v : Value} {l : List OpD} (w : World) (h : Own w base 36 v l) (hl : l.length ≤ 10000) (hw : ∀ o ∈ l, Wf o) :
    Calls Try.prog 10 #[v] w fun e w' => ∃ v', e = .returned v' ∧ Own w' w.heap.size 36 v' (closedL l) ∧ Below w.heap.size w w' := by
  rcases h.form with ⟨rfl, rfl⟩ | ⟨g, cap, rfl, _, _, hat⟩
  · exact closed_nil w
  · exact closed_at_ g 0 cap l w hl hat hw

theorem wf_part {o : OpD} (h : Wf o) (r : List OpD) : ∀ p ∈ part o r, Wf p := by
  intro p hp
  have hc : Wf (commit o) := ⟨(by decide +kernel : (Lit.int .i64 2).wf = true), h.2.1, h.2.2.1, Nat.zero_le _⟩
  unfold part at hp
  split at hp
  · simp at hp
    rcases hp with rfl | rfl
    · exact h
    · exact hc
  · simp at hp
    subst hp
    exact h

theorem wf_closed : ∀ l : List OpD, (∀ o ∈ l, Wf o) → ∀ p ∈ closedL l, Wf p
  | [], _ => by simp [closedL]
  | o :: r, h => by
    intro p hp
    rw [closedL, List.mem_append] at hp
    rcases hp with hp | hp
    · exact wf_part (h o (by simp)) r p hp
    · exact wf_closed r (fun q hq => h q (by simp [hq])) p hp
end Go.Proofs.Qxb6603542a
