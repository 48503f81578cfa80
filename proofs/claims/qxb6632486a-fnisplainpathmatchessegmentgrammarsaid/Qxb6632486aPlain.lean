/-
  Plain lists of bytes: what a plain path is; how it splits. No Go in sight.
-/
import Derived.RowKit
namespace Go.Proofs.Qxb6632486a

/-- The unreserved characters. -/
def unres (c : UInt8) : Bool :=
  decide (97 ≤ c.toNat ∧ c.toNat ≤ 122) || decide (65 ≤ c.toNat ∧ c.toNat ≤ 90) || decide (48 ≤ c.toNat ∧ c.toNat ≤ 57) ||
  decide (c.toNat = 45) || decide (c.toNat = 46) || decide (c.toNat = 95) || decide (c.toNat = 126)
/-- .. or the slash. -/
def ok (c : UInt8) : Bool := decide (c.toNat = 47) || unres c
def slashed : List UInt8 → Bool
  | [] => false
  | c :: _ => decide (c.toNat = 47)
def plain (l : List UInt8) : Bool := slashed l && l.all ok

theorem ok_slash : ok 47 = true := by decide
theorem ok_of_slash {c : UInt8} (h : c.toNat = 47) : ok c = true := by simp [ok, h]
theorem ok_of_unres {c : UInt8} (h : unres c = true) : ok c = true := by simp [ok, h]
theorem unres_of_ok {c : UInt8} (h : ok c = true) (h2 : c.toNat ≠ 47) : unres c = true := by simpa [ok, h2] using h

theorem plain_split (l : List UInt8) (k : Nat) (h0 : l ≠ []) (hk : 1 ≤ k) : plain l = (plain (l.take k) && plain (47 :: l.drop k)) := by
  obtain ⟨c, t, rfl⟩ := List.exists_cons_of_ne_nil h0
  obtain ⟨j, rfl⟩ : ∃ j, k = j + 1 := ⟨k - 1, by omega⟩
  have e : t.all ok = ((t.take j).all ok && (t.drop j).all ok) := by rw [← List.all_append, List.take_append_drop]
  simp only [plain, slashed, List.take_succ_cons, List.drop_succ_cons, List.all_cons, e, ok_slash]
  cases decide (c.toNat = 47) <;> cases ok c <;> cases (t.take j).all ok <;> cases (t.drop j).all ok <;> decide
theorem plain_first (l : List UInt8) (h0 : l ≠ []) : plain (l.take 1) = slashed l := by
  obtain ⟨c, t, rfl⟩ := List.exists_cons_of_ne_nil h0
  by_cases h : c.toNat = 47
  · simp [plain, slashed, h, ok_of_slash h]
  · simp [plain, slashed, h]
theorem plain_nil : plain [] = false := rfl

theorem of256 {p : UInt8 → Prop} (h : ∀ n : Fin 256, p (UInt8.ofNat n.val)) (c : UInt8) : p c := by
  have := h ⟨c.toNat, c.toNat_lt⟩
  simpa using this
end Go.Proofs.Qxb6632486a
