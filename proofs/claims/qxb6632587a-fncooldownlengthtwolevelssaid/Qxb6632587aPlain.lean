/-
  Plain lists of integers: a ladder's answer at a level, and its laws. No Go in sight.
-/
import Derived.RowKit
namespace Go.Proofs.Qxb6632587a

/-- Is one of the first k entries nought? -/
def perm (xs : List Int) (k : Int) : Bool := (xs.take k.toNat).any (fun x => x == 0)
/-- The answer at a level. -/
def cool (xs : List Int) (level : Int) : Int :=
  if level ≤ 0 ∨ xs = [] ∨ perm xs level = true then 0 else xs.getD (min level.toNat xs.length - 1) 0

theorem getD_at (xs : List Int) (j : Nat) (h : j < xs.length) : xs.getD j 0 = xs[j] := by simp [List.getD, h]
theorem perm_of {xs : List Int} {k : Int} {j : Nat} (h1 : (j : Int) < k) (h2 : j < xs.length) (h3 : xs.getD j 0 = 0) : perm xs k = true := by
  refine List.any_eq_true.2 ⟨xs[j], ?_, ?_⟩
  · have hl : j < (xs.take k.toNat).length := by rw [List.length_take]; omega
    have e : (xs.take k.toNat)[j]'hl = xs[j] := List.getElem_take
    rw [← e]; exact List.getElem_mem hl
  · rw [← getD_at xs j h2, h3]; rfl
theorem perm_at {xs : List Int} {k : Int} (h : perm xs k = true) : ∃ j : Nat, (j : Int) < k ∧ j < xs.length ∧ xs.getD j 0 = 0 := by
  obtain ⟨x, hx, h0⟩ := List.any_eq_true.1 h
  obtain ⟨j, hj, e⟩ := List.mem_iff_getElem.1 hx
  have hj2 := hj
  rw [List.length_take] at hj2
  rw [List.getElem_take] at e
  refine ⟨j, by omega, by omega, ?_⟩
  rw [getD_at xs j (by omega), e]
  simpa using h0
theorem perm_no {xs : List Int} {k : Int} (h : ∀ j : Nat, (j : Int) < k → j < xs.length → xs.getD j 0 ≠ 0) : perm xs k = false := by
  cases e : perm xs k
  · rfl
  · obtain ⟨j, h1, h2, h3⟩ := perm_at e
    exact absurd h3 (h j h1 h2)
theorem not_perm {xs : List Int} {k : Int} (h : perm xs k = false) (j : Nat) (h1 : (j : Int) < k) (h2 : j < xs.length) : xs.getD j 0 ≠ 0 := by
  intro e
  rw [perm_of h1 h2 e] at h
  cases h

theorem cool_low {xs : List Int} {level : Int} (h : level ≤ 0) : cool xs level = 0 := if_pos (Or.inl h)
theorem cool_nil (level : Int) : cool [] level = 0 := if_pos (Or.inr (Or.inl rfl))
theorem cool_perm {xs : List Int} {level : Int} (h : perm xs level = true) : cool xs level = 0 := if_pos (Or.inr (Or.inr h))
theorem cool_else {xs : List Int} {level : Int} (h1 : 1 ≤ level) (h2 : 0 < xs.length) (h3 : perm xs level = false) : cool xs level = xs.getD (min level.toNat xs.length - 1) 0 := by
  refine if_neg ?_
  rintro (h | h | h)
  · omega
  · rw [h] at h2; exact absurd h2 (by decide)
  · rw [h3] at h; cases h

/-- The loop's end. -/
theorem cool_end {xs : List Int} {level v : Int} {i : Nat} (hi : i ≤ xs.length) (hl : (i : Int) ≤ level ∨ i = 0) (hx : ¬ ((i : Int) < level ∧ i < xs.length))
    (hn : ∀ j, j < i → xs.getD j 0 ≠ 0) (hv : v = if i = 0 then 0 else xs.getD (i - 1) 0) : v = cool xs level := by
  by_cases h0 : i = 0
  · rw [hv, if_pos h0]
    by_cases h1 : level ≤ 0
    · exact (cool_low h1).symm
    · have : xs = [] := List.eq_nil_of_length_eq_zero (by omega)
      rw [this]; exact (cool_nil _).symm
  · rw [hv, if_neg h0, cool_else (by omega) (by omega) (perm_no (fun j h1 h2 => hn j (by omega)))]
    have e : min level.toNat xs.length = i := by omega
    rw [e]
/-- The loop's break. -/
theorem cool_zero {xs : List Int} {level : Int} {i : Nat} (h1 : (i : Int) < level) (h2 : i < xs.length) (h3 : xs.getD i 0 = 0) : cool xs level = 0 :=
  cool_perm (perm_of h1 h2 h3)

/-! Two levels. -/
theorem cool_stays {xs : List Int} {lo hi : Int} (h1 : 1 ≤ lo) (h2 : lo ≤ hi) (h : cool xs lo = 0) : cool xs hi = 0 := by
  by_cases hx : 0 < xs.length
  · cases hp : perm xs lo
    · rw [cool_else h1 hx hp] at h
      exact cool_zero (i := min lo.toNat xs.length - 1) (by omega) (by omega) h
    · obtain ⟨j, a, b, c⟩ := perm_at hp
      exact cool_zero (i := j) (by omega) b c
  · have : xs = [] := List.eq_nil_of_length_eq_zero (by omega)
    rw [this]; exact cool_nil _
theorem cool_past {xs : List Int} {lo hi : Int} (h1 : (xs.length : Int) ≤ lo) (h2 : lo ≤ hi) : cool xs lo = cool xs hi := by
  by_cases hx : 0 < xs.length
  · cases hp : perm xs lo
    · have hp2 : perm xs hi = false := perm_no (fun j _ b => not_perm hp j (by omega) b)
      rw [cool_else (by omega) hx hp, cool_else (by omega) hx hp2]
      congr 1; omega
    · obtain ⟨j, a, b, c⟩ := perm_at hp
      rw [cool_perm hp, cool_zero (i := j) (by omega) b c]
  · have : xs = [] := List.eq_nil_of_length_eq_zero (by omega)
    rw [this, cool_nil, cool_nil]

/-! The joined ladder. -/
theorem getD_left (xs ys : List Int) (j : Nat) (h : j < xs.length) : (xs ++ ys).getD j 0 = xs.getD j 0 := by
  simp [List.getD, List.getElem?_append_left h]
theorem getD_right (xs ys : List Int) (j : Nat) (h : xs.length ≤ j) : (xs ++ ys).getD j 0 = ys.getD (j - xs.length) 0 := by
  simp [List.getD, List.getElem?_append_right h]
theorem joined_left {xs ys : List Int} {level : Int} (h : level ≤ xs.length ∨ perm xs xs.length = true ∨ ys.length = 0) : cool (xs ++ ys) level = cool xs level := by
  by_cases hy : ys.length = 0
  · rw [List.eq_nil_of_length_eq_zero hy, List.append_nil]
  by_cases h0 : level ≤ 0
  · rw [cool_low h0, cool_low h0]
  have hl : (xs ++ ys).length = xs.length + ys.length := List.length_append
  by_cases hp : perm xs level = true
  · obtain ⟨j, a, b, c⟩ := perm_at hp
    rw [cool_perm hp, cool_zero (i := j) a (by omega) (by rw [getD_left xs ys j b]; exact c)]
  have hp : perm xs level = false := by simpa using hp
  by_cases h1 : level ≤ xs.length
  · have hq : perm (xs ++ ys) level = false := perm_no (fun j a b => by rw [getD_left xs ys j (by omega)]; exact not_perm hp j a (by omega))
    rw [cool_else (by omega) (by omega) hp, cool_else (by omega) (by omega) hq, getD_left xs ys _ (by omega)]
    congr 1; omega
  · rcases h with h | h | h
    · omega
    · obtain ⟨j, a, b, c⟩ := perm_at h
      exact absurd c (not_perm hp j (by omega) b)
    · omega
theorem joined_right {xs ys : List Int} {level : Int} (h1 : (xs.length : Int) < level) (h2 : perm xs xs.length = false) (h3 : 0 < ys.length) : cool (xs ++ ys) level = cool ys (level - xs.length) := by
  have hl : (xs ++ ys).length = xs.length + ys.length := List.length_append
  cases hp : perm ys (level - xs.length)
  · have hq : perm (xs ++ ys) level = false := perm_no (fun j a b => by
      by_cases hj : j < xs.length
      · rw [getD_left xs ys j hj]; exact not_perm h2 j (by omega) hj
      · rw [getD_right xs ys j (by omega)]; exact not_perm hp _ (by omega) (by omega))
    rw [cool_else (by omega) (by omega) hq, cool_else (by omega) h3 hp, getD_right xs ys _ (by omega)]
    congr 1; omega
  · obtain ⟨j, a, b, c⟩ := perm_at hp
    rw [cool_perm hp, cool_zero (i := xs.length + j) (by omega) (by omega) (by rw [getD_right xs ys _ (by omega)]; rw [show xs.length + j - xs.length = j from by omega]; exact c)]
theorem joined_at {xs ys : List Int} {level : Int} (h0 : 1 ≤ level) (h1 : perm xs xs.length = false) (h2 : perm ys ys.length = false) (h3 : 0 < (xs ++ ys).length) :
    cool (xs ++ ys) level = (xs ++ ys).getD (min level.toNat (xs ++ ys).length - 1) 0 := by
  have hl : (xs ++ ys).length = xs.length + ys.length := List.length_append
  refine cool_else h0 h3 (perm_no (fun j a b => ?_))
  by_cases hj : j < xs.length
  · rw [getD_left xs ys j hj]; exact not_perm h1 j (by omega) hj
  · rw [getD_right xs ys j (by omega)]; exact not_perm h2 _ (by omega) (by omega)
end Go.Proofs.Qxb6632587a
