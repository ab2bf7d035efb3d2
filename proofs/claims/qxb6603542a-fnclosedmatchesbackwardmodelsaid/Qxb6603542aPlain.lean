/-
  The plain mathematics of the two laws on Schedule.Closed: no Go in sight.
-/
import Derived.KernelRfl
namespace Go.Proofs.Qxb6603542a

/-- One operation: kind, transaction, attempt number, item. -/
structure OpD where
  k : Int
  t : Int
  n : Int
  s : ByteArray

/-- Do the two belong to one attempt? -/
def same (o p : OpD) : Bool := decide (p.t = o.t) && decide (p.n = o.n)
/-- Neither a commit nor an abort. -/
def opn (o : OpD) : Bool := !decide (o.k = 2) && !decide (o.k = 3)
def later (o : OpD) (r : List OpD) : Bool := r.any (same o)
def commit (o : OpD) : OpD := ⟨2, o.t, o.n, ⟨#[]⟩⟩
/-- What the operation o becomes, with r behind it. -/
def part (o : OpD) (r : List OpD) : List OpD := if !(later o r) && opn o then [o, commit o] else [o]
def closedL : List OpD → List OpD
  | [] => []
  | o :: r => part o r ++ closedL r
def openN : List OpD → Nat
  | [] => 0
  | o :: r => (if !(later o r) && opn o then 1 else 0) + openN r

theorem same_commit (p o : OpD) : same p (commit o) = same p o := rfl
theorem same_self (o : OpD) : same o o = true := by simp [same]
theorem opn_commit (o : OpD) : opn (commit o) = false := by simp [opn, commit]

theorem later_part (p o : OpD) (r : List OpD) : later p (part o r) = same p o := by
  unfold part later
  split <;> simp [same_commit]

theorem later_append (p : OpD) (a b : List OpD) : later p (a ++ b) = (later p a || later p b) := by simp [later]

theorem later_closed (p : OpD) : ∀ l : List OpD, later p (closedL l) = later p l
  | [] => rfl
  | o :: r => by
    rw [closedL, later_append, later_part, later_closed p r]
    rfl

theorem closed_length : ∀ l : List OpD, (closedL l).length = l.length + openN l
  | [] => rfl
  | o :: r => by
    have := closed_length r
    unfold closedL openN part
    split <;> simp [this] <;> omega

theorem openN_le : ∀ l : List OpD, openN l ≤ l.length
  | [] => Nat.le_refl _
  | o :: r => by
    have := openN_le r
    unfold openN
    simp only [List.length_cons]
    split <;> omega

theorem closed_closed : ∀ l : List OpD, closedL (closedL l) = closedL l
  | [] => rfl
  | o :: r => by
    have ih := closed_closed r
    by_cases h : (!(later o r) && opn o) = true
    · have e : part o r = [o, commit o] := by unfold part; rw [if_pos h]
      have e1 : part o (commit o :: closedL r) = [o] := by
        unfold part
        rw [if_neg]
        simp [later, same_commit, same_self]
      have e2 : part (commit o) (closedL r) = [commit o] := by
        unfold part
        rw [if_neg]
        simp [opn_commit]
      show closedL (part o r ++ closedL r) = part o r ++ closedL r
      rw [e]
      show part o (commit o :: closedL r) ++ (part (commit o) (closedL r) ++ closedL (closedL r)) = _
      rw [e1, e2, ih]
      rfl
    · have e : part o r = [o] := by unfold part; rw [if_neg h]
      have e1 : part o (closedL r) = [o] := by
        unfold part
        rw [later_closed, if_neg h]
      show closedL (part o r ++ closedL r) = part o r ++ closedL r
      rw [e]
      show part o (closedL r) ++ closedL (closedL r) = _
      rw [e1, ih]

/-- Cut at k. -/
theorem drop_at {l : List OpD} {k : Nat} (h : k < l.length) : l.drop k = l[k] :: l.drop (k + 1) := List.drop_eq_getElem_cons h

theorem closed_at {l : List OpD} {k : Nat} (h : k < l.length) : closedL (l.drop k) = part l[k] (l.drop (k + 1)) ++ closedL (l.drop (k + 1)) := by
  rw [drop_at h]; rfl

theorem openN_at {l : List OpD} {k : Nat} (h : k < l.length) : openN (l.drop k) = (if !(later l[k] (l.drop (k + 1))) && opn l[k] then 1 else 0) + openN (l.drop (k + 1)) := by
  rw [drop_at h]; rfl

/-- The last place of the attempt (t, n) in l; 0 where it has none. -/
def IsLast (l : List OpD) (t n c : Int) : Prop :=
  ((∀ j (h : j < l.length), ¬ (l[j].t = t ∧ l[j].n = n)) ∧ c = 0) ∨
  ∃ i, ∃ h : i < l.length, c = (i : Int) ∧ l[i].t = t ∧ l[i].n = n ∧ ∀ j (hj : j < l.length), i < j → ¬ (l[j].t = t ∧ l[j].n = n)

theorem isLast_nil (t n : Int) : IsLast [] t n 0 := .inl ⟨fun j h => by simp at h, rfl⟩

theorem isLast_hit (l : List OpD) (o : OpD) : IsLast (l ++ [o]) o.t o.n (l.length : Int) := by
  refine .inr ⟨l.length, by simp, rfl, by simp, by simp, fun j hj hlt => ?_⟩
  simp at hj
  omega

theorem isLast_miss {l : List OpD} {o : OpD} {t n c : Int} (h : IsLast l t n c) (hne : ¬ (o.t = t ∧ o.n = n)) : IsLast (l ++ [o]) t n c := by
  rcases h with ⟨h, rfl⟩ | ⟨i, hi, rfl, h1, h2, h3⟩
  · refine .inl ⟨fun j hj => ?_, rfl⟩
    by_cases hjl : j < l.length
    · rw [List.getElem_append_left hjl]; exact h j hjl
    · have : j = l.length := by simp at hj; omega
      subst this
      simpa using hne
  · refine .inr ⟨i, by simp; omega, rfl, by rw [List.getElem_append_left hi]; exact h1, by rw [List.getElem_append_left hi]; exact h2, fun j hj hlt => ?_⟩
    by_cases hjl : j < l.length
    · rw [List.getElem_append_left hjl]; exact h3 j hjl hlt
    · have : j = l.length := by simp at hj; omega
      subst this
      simpa using hne

theorem later_iff (l : List OpD) (o : OpD) (k : Nat) : later o (l.drop k) = true ↔ ∃ j, ∃ h : j < l.length, k ≤ j ∧ l[j].t = o.t ∧ l[j].n = o.n := by
  unfold later
  rw [List.any_eq_true]
  constructor
  · rintro ⟨p, hp, hs⟩
    obtain ⟨i, hi, rfl⟩ := List.mem_iff_getElem.1 hp
    simp at hi
    refine ⟨k + i, by omega, by omega, ?_⟩
    simpa [same] using hs
  · rintro ⟨j, hj, hkj, h1, h2⟩
    refine ⟨l[j], ?_, by simp [same, h1, h2]⟩
    rw [List.mem_iff_getElem]
    refine ⟨j - k, by simp; omega, ?_⟩
    simp [show k + (j - k) = j by omega]

/-- The look-up of the place: it is i just where nothing of the attempt comes behind. -/
theorem last_is {l : List OpD} {i : Nat} (hi : i < l.length) {c : Int} (h : IsLast l l[i].t l[i].n c) : (c == (i : Int)) = !(later l[i] (l.drop (i + 1))) := by
  rcases h with ⟨h, _⟩ | ⟨i', hi', rfl, h1, h2, h3⟩
  · exact absurd ⟨rfl, rfl⟩ (h i hi)
  · have hle : ¬ i' < i := fun hlt => h3 i hi hlt ⟨rfl, rfl⟩
    cases hl : later l[i] (l.drop (i + 1))
    · have hno : ¬ i < i' := fun hlt => by
        have := (later_iff l l[i] (i + 1)).2 ⟨i', hi', by omega, h1, h2⟩
        rw [hl] at this; cases this
      have : i' = i := by omega
      simp [this]
    · obtain ⟨j, hj, hkj, e1, e2⟩ := (later_iff l l[i] (i + 1)).1 hl
      have : ¬ i' < j := fun hlt => h3 j hj hlt ⟨e1, e2⟩
      simp
      omega

/-- The attempts of a list, each once, the last first. -/
def seenL : List OpD → List (Int × Int)
  | [] => []
  | o :: r => if later o r then seenL r else seenL r ++ [(o.t, o.n)]

theorem seen_iff (o : OpD) : ∀ l : List OpD, (o.t, o.n) ∈ seenL l ↔ later o l = true
  | [] => by simp [seenL, later]
  | p :: r => by
    have ih := seen_iff o r
    have e : later o (p :: r) = (same o p || later o r) := rfl
    rw [e]
    unfold seenL
    by_cases h : later p r = true
    · rw [if_pos h, ih]
      simp only [Bool.or_eq_true]
      refine ⟨.inr, fun h' => ?_⟩
      rcases h' with h' | h'
      · have h1 : p.t = o.t ∧ p.n = o.n := by simpa [same] using h'
        have : later o r = later p r := by unfold later same; rw [h1.1, h1.2]
        rw [this]; exact h
      · exact h'
    · rw [if_neg h]
      simp only [List.mem_append, ih, List.mem_singleton, Prod.mk.injEq, Bool.or_eq_true]
      constructor
      · rintro (h' | ⟨h1, h2⟩)
        · exact .inr h'
        · exact .inl (by simp [same, h1, h2])
      · rintro (h' | h')
        · have h1 : p.t = o.t ∧ p.n = o.n := by simpa [same] using h'
          exact .inr ⟨h1.1.symm, h1.2.symm⟩
        · exact .inl h'

theorem seen_length : ∀ l : List OpD, (seenL l).length ≤ l.length
  | [] => Nat.le_refl _
  | o :: r => by
    have := seen_length r
    unfold seenL
    split <;> simp <;> omega
end Go.Proofs.Qxb6603542a
