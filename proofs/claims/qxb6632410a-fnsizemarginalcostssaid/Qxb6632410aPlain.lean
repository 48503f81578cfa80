/-
  Plain arithmetic on the wrap of int: no Go in sight.
-/
import Derived.RowKit
namespace Go.Proofs.Qxb6632410a
open Go.RowKit

/-- Two numbers that differ by a multiple of 2 to the 64 wrap to the same. -/
theorem wrap_of_dvd (a b k : Int) (h : a = b + 18446744073709551616 * k) : wrap64 a = wrap64 b := by
  unfold wrap64; omega
theorem wrap_form (a : Int) : ∃ k : Int, wrap64 a = a + 18446744073709551616 * k :=
  ⟨-((a + 9223372036854775808) / 18446744073709551616), by unfold wrap64; omega⟩
theorem wl (a b : Int) : wrap64 (wrap64 a + b) = wrap64 (a + b) := by
  obtain ⟨k, h⟩ := wrap_form a
  exact wrap_of_dvd _ _ k (by omega)
theorem wr (a b : Int) : wrap64 (a + wrap64 b) = wrap64 (a + b) := by
  obtain ⟨k, h⟩ := wrap_form b
  exact wrap_of_dvd _ _ k (by omega)
theorem wsl (a b : Int) : wrap64 (wrap64 a - b) = wrap64 (a - b) := by
  obtain ⟨k, h⟩ := wrap_form a
  exact wrap_of_dvd _ _ k (by omega)
theorem wsr (a b : Int) : wrap64 (a - wrap64 b) = wrap64 (a - b) := by
  obtain ⟨k, h⟩ := wrap_form b
  exact wrap_of_dvd _ _ (-k) (by omega)
theorem w5 (a : Int) : wrap64 (5 * wrap64 a) = wrap64 (5 * a) := by
  obtain ⟨k, h⟩ := wrap_form a
  exact wrap_of_dvd _ _ (5 * k) (by omega)
theorem w2 (a : Int) : wrap64 (2 * wrap64 a) = wrap64 (2 * a) := by
  obtain ⟨k, h⟩ := wrap_form a
  exact wrap_of_dvd _ _ (2 * k) (by omega)
theorem eqb {a b : Int} (h : a = b) : (a == b) = true := by rw [h]; exact beq_self_eq_true b

theorem adds_subjects (s1 i1 s2 i2 : Int) :
    (wrap64 (wrap64 (wrap64 (wrap64 (s1 + s2) + wrap64 (i1 + i2)) + 1) + 1) == wrap64 (wrap64 (wrap64 (s1 + i1) + 1) + wrap64 (wrap64 (s2 + i2) + 1))) = true := by
  apply eqb
  simp only [wl, wr]
  congr 1; omega
theorem adds_resources (c1 c2 : Int) : (wrap64 (c1 + c2) == wrap64 (c1 + c2)) = true := eqb rfl
theorem adds_relations (s1 i1 s2 i2 : Int) :
    (wrap64 (wrap64 (5 * wrap64 (s1 + s2)) + wrap64 (2 * wrap64 (i1 + i2))) == wrap64 (wrap64 (wrap64 (5 * s1) + wrap64 (2 * i1)) + wrap64 (wrap64 (5 * s2) + wrap64 (2 * i2)))) = true := by
  apply eqb
  simp only [wl, wr, w5, w2]
  congr 1; omega
theorem wrap_num (n : Int) (h : -100 ≤ n ∧ n ≤ 100) : wrap64 n = n := by unfold wrap64; omega
theorem student_subjects (s i : Int) : (wrap64 (wrap64 (wrap64 (wrap64 (s + 1) + i) + 1) - wrap64 (wrap64 (s + i) + 1)) == 1) = true := by
  apply eqb
  simp only [wl, wsl, wsr]
  rw [show s + 1 + i + 1 - (s + i + 1) = 1 from by omega]; exact wrap_num 1 (by omega)
theorem student_relations (s i : Int) : (wrap64 (wrap64 (wrap64 (5 * wrap64 (s + 1)) + wrap64 (2 * i)) - wrap64 (wrap64 (5 * s) + wrap64 (2 * i))) == 5) = true := by
  apply eqb
  simp only [wl, wr, wsl, wsr, w5]
  rw [show 5 * (s + 1) + 2 * i - (5 * s + 2 * i) = 5 from by omega]; exact wrap_num 5 (by omega)
theorem instructor_subjects (s i : Int) : (wrap64 (wrap64 (wrap64 (s + wrap64 (i + 1)) + 1) - wrap64 (wrap64 (s + i) + 1)) == 1) = true := by
  apply eqb
  simp only [wl, wr, wsl, wsr]
  rw [show s + (i + 1) + 1 - (s + i + 1) = 1 from by omega]; exact wrap_num 1 (by omega)
theorem instructor_relations (s i : Int) : (wrap64 (wrap64 (wrap64 (5 * s) + wrap64 (2 * wrap64 (i + 1))) - wrap64 (wrap64 (5 * s) + wrap64 (2 * i))) == 2) = true := by
  apply eqb
  simp only [wl, wr, wsl, wsr, w2]
  rw [show 5 * s + 2 * (i + 1) - (5 * s + 2 * i) = 2 from by omega]; exact wrap_num 2 (by omega)
theorem course_resources (c : Int) : (wrap64 (wrap64 (c + 1) - c) == 1) = true := by
  apply eqb
  simp only [wsl]
  rw [show c + 1 - c = 1 from by omega]; exact wrap_num 1 (by omega)
end Go.Proofs.Qxb6632410a
