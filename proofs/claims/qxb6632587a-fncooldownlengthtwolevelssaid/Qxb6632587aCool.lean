/-
  CooldownLength and cooldownAt walked.
-/
import Derived.Test.Qxb6632587aDur
namespace Go.Proofs.Qxb6632587a
open Go.RowKit

set_option maxHeartbeats 2000000 in
set_option maxRecDepth 100000 in
theorem cool_walk (a : Option Addr) (cap : Nat) (xs : List Int) (level : Int) (w : World) (hn : xs.length ≤ 1000000) (hr : Hid (Rung w a xs)) :
    Calls Try.prog 11 #[.agg #[.int .i64 0, .pointer none, .map none, .slice a xs.length cap, .bool false, .slice none 0 0, .slice none 0 0, .string ⟨#[]⟩, .string ⟨#[]⟩, .string ⟨#[]⟩, .string ⟨#[]⟩], .int .i64 level] w fun e w' =>
      e = .returned (.int .i64 (cool xs level)) ∧ Below w.heap.size w w' := by
  go_enter Try.func11, Try.ntmps11
  go_wp2
  go_loop [5, 6] (fun l s => ∃ (i : Nat) (v : Int), i ≤ xs.length ∧ s = .int .i64 i ∧ l = .int .i64 v ∧ Hid ((i : Int) ≤ level ∨ i = 0) ∧ Hid (v = if i = 0 then 0 else xs.getD (i - 1) 0) ∧ Hid (∀ j, j < i → xs.getD j 0 ≠ 0)) (fun _ s => xs.length - (intOf s).toNat)
  case atStart => exact ⟨0, 0, Nat.zero_le _, rfl, rfl, Or.inr rfl, rfl, fun j h => absurd h (Nat.not_lt_zero _)⟩
  case round =>
    obtain ⟨i, v, hi, rfl, rfl, hil, hv, hno⟩ := hrel
    by_cases h1 : (i : Int) < level
    · by_cases h2 : i < xs.length
      · obtain ⟨b, off, rfl, hbs, hc⟩ := hr.out.at_ h2
        have hci := hc i h2
        rw [getD_at xs i h2] at hci
        clear hc
        by_cases h0 : xs[i] = 0
        · have hz : (xs[i] == 0) = true := by simp [h0]
          have HP : Hid (xs[i] = cool xs level) := by show _ = _; rw [cool_zero h1 h2 (by rw [getD_at xs i h2]; exact h0), h0]
          clear h0
          go_wp2
          go_ret
          exact ⟨ret_int HP.out, (Below.refl _ _).alloc (Nat.le_refl _) _⟩
        · have hz : (xs[i] == 0) = false := by simp [h0]
          have HZ : Hid (xs.getD i 0 ≠ 0) := by show _ ≠ _; rw [getD_at xs i h2]; exact h0
          clear h0
          go_wp2
          go_round
          case rel =>
            refine ⟨i + 1, xs[i], by omega, by go_num, rfl, Or.inl (by omega), by show _ = _; rw [if_neg (by omega), Nat.add_sub_cancel, getD_at xs i h2], fun j hj => ?_⟩
            by_cases e : j = i
            · subst e; exact HZ.out
            · exact hno.out j (by omega)
          case measure => simp [intOf]; omega
      · go_wp2
        go_ret
        exact ⟨ret_int (cool_end hi hil.out (by omega) hno.out hv.out), (Below.refl _ _).alloc (Nat.le_refl _) _⟩
    · go_wp2
      go_ret
      exact ⟨ret_int (cool_end hi hil.out (by omega) hno.out hv.out), (Below.refl _ _).alloc (Nat.le_refl _) _⟩

set_option maxHeartbeats 2000000 in
set_option maxRecDepth 100000 in
theorem at_walk (a : Option Addr) (cap : Nat) (xs : List Int) (level : Int) (w : World) (hn : xs.length ≤ 1000000) (hr : Hid (Rung w a xs)) (hnil : Hid (a = none → xs = [])) :
    Calls Try.prog 6 #[.slice a xs.length cap, .int .i64 level] w fun e w' => e = .returned (.int .i64 (cool xs level)) ∧ Below w.heap.size w w' := by
  go_enter Try.func6, Try.ntmps6
  go_wp2_with (go_at_call 10; refine (dur_walk a cap xs _ hn hr hnil.out).mono ?_)
  rintro e W1 ⟨a1, cap1, rfl, hr1, b1⟩
  have HR : Hid (Rung W1 a1 xs) := hr1
  clear hr1
  have z1 := b1.size
  go_wp2_with fail
  refine (cool_walk a1 cap1 xs level _ hn ?_).mono ?_
  · exact HR.out.kept ((Below.refl _ _).alloc (Nat.le_refl _) _)
  rintro e W2 ⟨rfl, b2⟩
  go_wp2
  go_ret
  exact ⟨rfl, (b1.alloc z1 _).trans (b2.mono (by simp; omega))⟩
end Go.Proofs.Qxb6632587a
