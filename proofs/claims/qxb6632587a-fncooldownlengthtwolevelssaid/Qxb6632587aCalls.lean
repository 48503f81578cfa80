/-
  The contracts in the form in which the laws' walks use them: over a base world, what is asked under a name.
-/
import Derived.Test.Qxb6632587aCool
namespace Go.Proofs.Qxb6632587a
open Go.RowKit

theorem at_call (w0 : World) (a : Option Addr) (cap : Nat) (xs : List Int) (n : Nat) (level v : Int) (hn : n = xs.length) (hx : xs.length ≤ 1000000) (hv : cool xs level = v) (hr : Rung w0 a xs) (hnil : a = none → xs = [])
    (w : World) (hb : Below w0.heap.size w0 w) :
    Calls Try.prog 6 #[.slice a n cap, .int .i64 level] w fun e w' => e = .returned (.int .i64 v) ∧ Below w0.heap.size w0 w' := by
  subst hn hv
  refine (at_walk a cap xs level w hx (hr.kept hb) hnil).mono ?_
  rintro e w' ⟨rfl, b2⟩
  exact ⟨rfl, hb.trans (b2.mono hb.size)⟩
theorem perm_call (w0 : World) (a : Option Addr) (cap : Nat) (xs : List Int) (n : Nat) (k : Int) (v : Bool) (hn : n = xs.length) (hx : xs.length ≤ 1000000) (hv : perm xs k = v) (hr : Rung w0 a xs)
    (w : World) (hb : Below w0.heap.size w0 w) :
    Calls Try.prog 9 #[.slice a n cap, .int .i64 k] w fun e w' => e = .returned (.bool v) ∧ w = w' := by
  subst hn hv
  exact perm_walk a cap xs k w hx (hr.kept hb)

theorem bytes8_yes (a0 a1 : Option Addr) (l0 c0 l1 c1 : Nat) (k : Int) (w : World) (h0 : l0 ≤ 65536) (h1 : l1 ≤ 65536) :
    Calls Try.prog 8 #[.slice a0 l0 c0, .slice a1 l1 c1, .int .i64 k] w fun e w' => e = .returned (.bool true) ∧ w = w' := by
  go_enter Try.func8, Try.ntmps8
  go_wp2
  go_ret
  exact ⟨rfl, rfl⟩
set_option maxHeartbeats 1000000 in
theorem bytes8_any (a0 a1 : Option Addr) (l0 c0 l1 c1 : Nat) (k : Int) (w : World) :
    Calls Try.prog 8 #[.slice a0 l0 c0, .slice a1 l1 c1, .int .i64 k] w fun e w' => ∃ b, e = .returned (.bool b) ∧ w = w' := by
  go_enter Try.func8, Try.ntmps8
  go_wp2
  all_goals
    go_ret
    exact ⟨_, rfl, rfl⟩
theorem bytes5_yes (a0 : Option Addr) (l0 c0 : Nat) (j k : Int) (w : World) (h0 : l0 ≤ 65536) :
    Calls Try.prog 5 #[.slice a0 l0 c0, .int .i64 j, .int .i64 k] w fun e w' => e = .returned (.bool true) ∧ w = w' := by
  go_enter Try.func5, Try.ntmps5
  go_wp2
  go_ret
  exact ⟨rfl, rfl⟩
theorem bytes5_any (a0 : Option Addr) (l0 c0 : Nat) (j k : Int) (w : World) :
    Calls Try.prog 5 #[.slice a0 l0 c0, .int .i64 j, .int .i64 k] w fun e w' => ∃ b, e = .returned (.bool b) ∧ w = w' := by
  go_enter Try.func5, Try.ntmps5
  go_wp2
  all_goals
    go_ret
    exact ⟨_, rfl, rfl⟩
end Go.Proofs.Qxb6632587a
