/-
  Plain lists of bytes: the percent encoding, its laws. No Go in sight.
-/
import Derived.RowKit
namespace Go.Proofs.Qxb6632347a

/-- May byte c stand as itself? (The unreserved characters; the slash where slashes are kept: es = false.) -/
def lit (es : Bool) (c : UInt8) : Bool :=
  decide (65 ≤ c.toNat ∧ c.toNat ≤ 90) || decide (97 ≤ c.toNat ∧ c.toNat ≤ 122) || decide (48 ≤ c.toNat ∧ c.toNat ≤ 57) ||
  decide (c.toNat = 45) || decide (c.toNat = 46) || decide (c.toNat = 95) || decide (c.toNat = 126) || (decide (c.toNat = 47) && !es)
/-- The upper-case hex digit of n. -/
def hx (n : Nat) : UInt8 := if n < 10 then UInt8.ofNat (48 + n) else UInt8.ofNat (55 + n)
def encB (es : Bool) (c : UInt8) : List UInt8 := if lit es c then [c] else [37, hx (c.toNat / 16), hx (c.toNat % 16)]
def enc (es : Bool) (l : List UInt8) : List UInt8 := l.flatMap (encB es)
/-- Every byte c put as rep. -/
def repB (c : UInt8) (rep : List UInt8) (x : UInt8) : List UInt8 := if x = c then rep else [x]
def repl (c : UInt8) (rep l : List UInt8) : List UInt8 := l.flatMap (repB c rep)

theorem of256 {p : UInt8 → Prop} (h : ∀ n : Fin 256, p (UInt8.ofNat n.val)) (c : UInt8) : p c := by
  have := h ⟨c.toNat, c.toNat_lt⟩
  simpa using this

theorem enc_nil (es : Bool) : enc es [] = [] := rfl
theorem enc_snoc (es : Bool) (l : List UInt8) (c : UInt8) : enc es (l ++ [c]) = enc es l ++ encB es c := by simp [enc, List.flatMap_append]
theorem enc_append (es : Bool) (l m : List UInt8) : enc es (l ++ m) = enc es l ++ enc es m := by simp [enc, List.flatMap_append]
theorem repl_append (c : UInt8) (rep l m : List UInt8) : repl c rep (l ++ m) = repl c rep l ++ repl c rep m := by simp [repl, List.flatMap_append]
theorem repl_snoc (c : UInt8) (rep l : List UInt8) (x : UInt8) : repl c rep (l ++ [x]) = repl c rep l ++ repB c rep x := by simp [repl, List.flatMap_append]
theorem encB_len (es : Bool) (c : UInt8) : 1 ≤ (encB es c).length ∧ (encB es c).length ≤ 3 := by
  unfold encB; split <;> simp
theorem enc_len (es : Bool) (l : List UInt8) : l.length ≤ (enc es l).length ∧ (enc es l).length ≤ 3 * l.length := by
  induction l with
  | nil => simp [enc]
  | cons c t ih =>
    have h := encB_len es c
    have e : enc es (c :: t) = encB es c ++ enc es t := rfl
    rw [e, List.length_append, List.length_cons]
    omega

/-- Each byte of an encoded byte is printable; it is literal or the percent sign. -/
theorem encB_mem (es : Bool) (c : UInt8) : ∀ x ∈ encB es c, 33 ≤ x.toNat ∧ x.toNat ≤ 126 ∧ (x = 37 ∨ lit es x = true) := by
  cases es
  · revert c; exact of256 (by decide +kernel)
  · revert c; exact of256 (by decide +kernel)
theorem enc_mem (es : Bool) (l : List UInt8) : ∀ x ∈ enc es l, 33 ≤ x.toNat ∧ x.toNat ≤ 126 ∧ (x = 37 ∨ lit es x = true) := by
  intro x hx
  obtain ⟨c, _, h⟩ := List.mem_flatMap.1 hx
  exact encB_mem es c x h

/-- What is literal or a percent sign: encoding it turns the percent sign alone. -/
theorem encB_again (es : Bool) (x : UInt8) (h : x = 37 ∨ lit es x = true) : encB es x = repB 37 [37, 50, 53] x := by
  by_cases e : x = 37
  · subst e; cases es <;> decide
  · rcases h with h | h
    · exact absurd h e
    · simp [encB, repB, e, h]
theorem flatMap_congr_mem {f g : UInt8 → List UInt8} (l : List UInt8) (h : ∀ x ∈ l, f x = g x) : l.flatMap f = l.flatMap g := by
  induction l with
  | nil => rfl
  | cons a t ih =>
    rw [List.flatMap_cons, List.flatMap_cons, h a (by simp), ih (fun x hx => h x (by simp [hx]))]
theorem enc_twice (es : Bool) (l : List UInt8) : enc es (enc es l) = repl 37 [37, 50, 53] (enc es l) :=
  flatMap_congr_mem _ fun x hx => encB_again es x (enc_mem es l x hx).2.2

theorem encB_slash (c : UInt8) : encB true c = repl 47 [37, 50, 70] (encB false c) := by
  revert c; exact of256 (by decide +kernel)
theorem enc_slash (l : List UInt8) : enc true l = repl 47 [37, 50, 70] (enc false l) := by
  induction l with
  | nil => rfl
  | cons c t ih =>
    have e : ∀ es, enc es (c :: t) = encB es c ++ enc es t := fun _ => rfl
    rw [e, e, repl_append, encB_slash, ih]

/-- The value of an upper-case hex digit. -/
theorem hx_val (n : Nat) (h : n < 16) : (n < 10 ∧ (hx n).toNat = 48 + n) ∨ (10 ≤ n ∧ (hx n).toNat = 55 + n) := by
  revert h; revert n; decide
end Go.Proofs.Qxb6632347a
