/-
  zzUnreserved, zzSegmentUnreserved, zzPlainPathModel walked.
-/
import Derived.Test.Qxb6632486aPath
namespace Go.Proofs.Qxb6632486a
open Go.RowKit

theorem letter_all : ∀ c : UInt8, decide ((bits BinOp.or IntKind.u8 (c.toNat : Int) 32 - 97) % 256 < 26) = (decide (97 ≤ c.toNat ∧ c.toNat ≤ 122) || decide (65 ≤ c.toNat ∧ c.toNat ≤ 90)) :=
  of256 (by decide +kernel)
theorem letter_yes {c : UInt8} (h : (bits BinOp.or IntKind.u8 (c.toNat : Int) 32 - 97) % 256 < 26) : true = unres c := by
  have := letter_all c
  rw [decide_eq_true h] at this
  simp only [unres, ← this, Bool.true_or]
theorem digit_yes {c : UInt8} (h : ((c.toNat : Int) - 48) % 256 < 10) : true = unres c := by
  have ht : c.toNat < 256 := c.toNat_lt
  have : decide (48 ≤ c.toNat ∧ c.toNat ≤ 57) = true := decide_eq_true (by omega)
  simp only [unres, this, Bool.or_true, Bool.true_or]
/-- The marks. -/
def marks : ByteArray := ⟨#[45, 46, 95, 126]⟩
theorem marks_fin : ∀ k : Fin 4, (((⟨#[45, 46, 95, 126]⟩ : ByteArray)[k.val]'k.isLt).toNat) = [45, 46, 95, 126][k.val]'(k.isLt) := by decide
theorem mark_yes {c : UInt8} {k : Nat} {hk : k < 4} (h : ((c.toNat : Int) == (((⟨#[45, 46, 95, 126]⟩ : ByteArray)[k]'hk).toNat : Int)) = true) : true = unres c := by
  have e : c.toNat = ((⟨#[45, 46, 95, 126]⟩ : ByteArray)[k]'hk).toNat := by have := beq_iff_eq.1 h; omega
  have e2 := marks_fin ⟨k, hk⟩
  have e3 : c.toNat = 45 ∨ c.toNat = 46 ∨ c.toNat = 95 ∨ c.toNat = 126 := by
    match k, hk, e2 with
    | 0, _, e2 => left; rw [e]; exact e2
    | 1, _, e2 => right; left; rw [e]; exact e2
    | 2, _, e2 => right; right; left; rw [e]; exact e2
    | 3, _, e2 => right; right; right; rw [e]; exact e2
  rcases e3 with h | h | h | h <;> simp [unres, h]
theorem mark_no {c : UInt8} {k : Nat} {hk : k < 4} (h : ((c.toNat : Int) == (((⟨#[45, 46, 95, 126]⟩ : ByteArray)[k]'hk).toNat : Int)) = false) : c.toNat ≠ [45, 46, 95, 126][k]'hk := by
  have e := beq_eq_false_iff_ne.1 h
  have e2 := marks_fin ⟨k, hk⟩
  intro x
  apply e
  rw [x, ← e2]
theorem none_of {c : UInt8} (h1 : ¬ (bits BinOp.or IntKind.u8 (c.toNat : Int) 32 - 97) % 256 < 26) (h2 : ¬ ((c.toNat : Int) - 48) % 256 < 10) (h3 : ∀ j (hj : j < 4), c.toNat ≠ [45, 46, 95, 126][j]'hj) : false = unres c := by
  have ht : c.toNat < 256 := c.toNat_lt
  have e1 := letter_all c
  rw [decide_eq_false h1] at e1
  have e2 : decide (48 ≤ c.toNat ∧ c.toNat ≤ 57) = false := decide_eq_false (by omega)
  have a0 : c.toNat ≠ 45 := h3 0 (by decide)
  have a1 : c.toNat ≠ 46 := h3 1 (by decide)
  have a2 : c.toNat ≠ 95 := h3 2 (by decide)
  have a3 : c.toNat ≠ 126 := h3 3 (by decide)
  simp only [unres, ← e1, e2, a0, a1, a2, a3, decide_false, Bool.or_false]

set_option maxHeartbeats 1000000 in
theorem unres_call (c : UInt8) (w : World) :
    Calls Try.prog 12 #[.int .u8 (c.toNat : Int)] w fun e w' => e = .returned (.bool (unres c)) ∧ w = w' := by
  have ht : c.toNat < 256 := c.toNat_lt
  by_cases hL : (bits BinOp.or IntKind.u8 (c.toNat : Int) 32 - 97) % 256 < 26
  · go_enter Try.func12, Try.ntmps12
    go_wp2
    go_ret
    exact ⟨ret_bool (letter_yes hL), rfl⟩
  · by_cases hD : ((c.toNat : Int) - 48) % 256 < 10
    · go_enter Try.func12, Try.ntmps12
      go_wp2
      go_ret
      exact ⟨ret_bool (digit_yes hD), rfl⟩
    · go_enter Try.func12, Try.ntmps12
      go_wp2
      go_loop [3] (fun i => ∃ k : Nat, k ≤ 4 ∧ i = .int .i64 k ∧ Hid (∀ j (hj : j < 4), j < k → c.toNat ≠ [45, 46, 95, 126][j]'hj)) (fun i => 4 - (intOf i).toNat)
      case atStart => exact ⟨0, Nat.zero_le _, rfl, fun j _ h => absurd h (Nat.not_lt_zero _)⟩
      case round =>
        obtain ⟨k, hk, rfl, hall⟩ := hrel
        by_cases hlt : k < 4
        · go_wp2
          · go_ret
            exact ⟨ret_bool (mark_yes ‹_›), rfl⟩
          · go_round
            case rel =>
              refine ⟨k + 1, by omega, by go_num, fun j hj hjk => ?_⟩
              by_cases e : j = k
              · subst e; exact mark_no ‹_›
              · exact hall.out j hj (by omega)
            case measure => simp [intOf]; omega
        · go_wp2
          go_ret
          exact ⟨ret_bool (none_of (by omega) (by omega) (fun j hj => hall.out j hj (by omega))), rfl⟩

/-- A segment of unreserved characters alone. -/
def segOk (s : ByteArray) : Bool := s.data.toList.all unres
set_option maxHeartbeats 1000000 in
theorem seg_walk (s : ByteArray) (w : World) (hs : s.size ≤ 2000000) :
    Calls Try.prog 10 #[.string s] w fun e w' => e = .returned (.bool (segOk s)) ∧ w = w' := by
  go_enter Try.func10, Try.ntmps10
  go_wp2
  go_loop [3] (fun i => ∃ k : Nat, k ≤ s.size ∧ i = .int .i64 k ∧ Hid ((s.data.toList.take k).all unres = true)) (fun i => s.size - (intOf i).toNat)
  case atStart => exact ⟨0, Nat.zero_le _, rfl, rfl⟩
  case round =>
    obtain ⟨k, hk, rfl, hall⟩ := hrel
    by_cases hlt : k < s.size
    · by_cases hu : unres s[k] = true
      · go_wp2_with (go_at_call 12; refine (unres_call s[k] _).mono ?_; rintro e w' ⟨rfl, rfl⟩)
        go_round
        case rel => exact ⟨k + 1, by omega, by go_num, by show _ = _; rw [take_snoc s k hlt, List.all_append, hall.out]; simp [hu]⟩
        case measure => simp [intOf]; omega
      · have hu2 : unres s[k] = false := by simpa using hu
        clear hu
        go_wp2_with (go_at_call 12; refine (unres_call s[k] _).mono ?_; rintro e w' ⟨rfl, rfl⟩)
        go_ret
        refine ⟨ret_bool ?_, rfl⟩
        symm
        apply List.all_eq_false.2
        exact ⟨s[k], List.getElem_mem (l := s.data.toList) (by simpa using hlt), by simp [hu2]⟩
    · go_wp2
      go_ret
      have h2 := hall.out
      rw [List.take_of_length_le (by rw [← Lib.size_eq]; omega)] at h2
      exact ⟨ret_bool h2.symm, rfl⟩
end Go.Proofs.Qxb6632486a
