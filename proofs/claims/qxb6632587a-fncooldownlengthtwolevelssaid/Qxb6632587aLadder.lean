/-
  permanentAmong, ladderModel, CooldownLength, toDurations, cooldownAt walked: each by a contract.
-/
import Derived.Test.Qxb6632587aRows
import Derived.Test.Qxb6632587aPlain
import Derived.WalkKit
import Derived.WalkSpells
import Derived.Below
namespace Go.Proofs.Qxb6632587a
open Go.RowKit

theorem ret_bool {a b : Bool} (h : a = b) : Ending.returned (.bool a) = .returned (.bool b) := by rw [h]
theorem ret_int {k : IntKind} {a b : Int} (h : a = b) : Ending.returned (.int k a) = .returned (.int k b) := by rw [h]

/-- The slice at a, of as many elements as xs has, holds xs. (Of an empty one nothing is said.) -/
def Rung (w : World) (a : Option Addr) (xs : List Int) : Prop :=
  xs = [] ∨ ∃ b off, a = some ⟨b, off, none⟩ ∧ b < w.heap.size ∧ ∀ i, i < xs.length → w.cell? ⟨b, off + i, none⟩ = some (.int .i64 (xs.getD i 0))
theorem Rung.kept {w w' : World} {a : Option Addr} {xs : List Int} (h : Rung w a xs) (hb : Below w.heap.size w w') : Rung w' a xs := by
  rcases h with h | ⟨b, off, rfl, hbs, hc⟩
  · exact .inl h
  · exact .inr ⟨b, off, rfl, Nat.lt_of_lt_of_le hbs hb.size, fun i hi => (hb.cell (by exact hbs)).trans (hc i hi)⟩
theorem Rung.at_ {w : World} {a : Option Addr} {xs : List Int} (h : Rung w a xs) {i : Nat} (hi : i < xs.length) :
    ∃ b off, a = some ⟨b, off, none⟩ ∧ b < w.heap.size ∧ ∀ i, i < xs.length → w.cell? ⟨b, off + i, none⟩ = some (.int .i64 (xs.getD i 0)) := by
  rcases h with h | h
  · rw [h] at hi; exact absurd hi (Nat.not_lt_zero _)
  · exact h

set_option maxHeartbeats 1000000 in
theorem perm_walk (a : Option Addr) (cap : Nat) (xs : List Int) (k : Int) (w : World) (hn : xs.length ≤ 1000000) (hr : Hid (Rung w a xs)) :
    Calls Try.prog 9 #[.slice a xs.length cap, .int .i64 k] w fun e w' => e = .returned (.bool (perm xs k)) ∧ w = w' := by
  go_enter Try.func9, Try.ntmps9
  go_wp2
  go_loop [6] (fun s => ∃ i : Nat, i ≤ xs.length ∧ s = .int .i64 i ∧ Hid (∀ j, j < i → xs.getD j 0 ≠ 0)) (fun s => xs.length - (intOf s).toNat)
  case atStart => exact ⟨0, Nat.zero_le _, rfl, fun j h => absurd h (Nat.not_lt_zero _)⟩
  case round =>
    obtain ⟨i, hi, rfl, hno⟩ := hrel
    by_cases h1 : (i : Int) < k
    · by_cases h2 : i < xs.length
      · obtain ⟨b, off, rfl, hbs, hc⟩ := hr.out.at_ h2
        have hci := hc i h2
        rw [getD_at xs i h2] at hci
        clear hc
        by_cases h0 : xs[i] = 0
        · have hz : (xs[i] == 0) = true := by simp [h0]
          have HP : Hid (true = perm xs k) := (perm_of h1 h2 (by rw [getD_at xs i h2]; exact h0)).symm
          clear h0
          go_wp2
          go_ret
          exact ⟨ret_bool HP.out, rfl⟩
        · have hz : (xs[i] == 0) = false := by simp [h0]
          have HZ : Hid (xs.getD i 0 ≠ 0) := by show _ ≠ _; rw [getD_at xs i h2]; exact h0
          clear h0
          go_wp2
          go_round
          case rel =>
            refine ⟨i + 1, by omega, by go_num, fun j hj => ?_⟩
            by_cases e : j = i
            · subst e; exact HZ.out
            · exact hno.out j (by omega)
          case measure => simp [intOf]; omega
      · go_wp2
        go_ret
        exact ⟨ret_bool (perm_no (fun j _ b => hno.out j (by omega))).symm, rfl⟩
    · go_wp2
      go_ret
      exact ⟨ret_bool (perm_no (fun j a _ => hno.out j (by omega))).symm, rfl⟩
end Go.Proofs.Qxb6632587a
