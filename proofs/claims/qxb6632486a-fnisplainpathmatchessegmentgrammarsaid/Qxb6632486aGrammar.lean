/-
  The walk of FnIsPlainPathMatchesSegmentGrammar.
-/
import Derived.Test.Qxb6632486aModel
namespace Go.Proofs.Qxb6632486a
open Go.RowKit

theorem path_call (s : ByteArray) (b : Bool) (hb : plain s.data.toList = b) (w : World) (hs : s.size ≤ maxLen) :
    Calls Try.prog 6 #[.string s] w fun e w' => e = .returned (.bool b) ∧ w = w' := by
  subst hb
  exact plain_walk s w hs
theorem model_call (s : ByteArray) (b : Bool) (hb : plain s.data.toList = b) (w : World) (hs : s.size ≤ 1048576) :
    Calls Try.prog 7 #[.string s] w fun e w' => e = .returned (.bool b) ∧ w = w' := by
  subst hb
  exact model_walk s w hs
theorem bytes5_yes (s : ByteArray) (w : World) (h : s.size ≤ 1048576) :
    Calls Try.prog 5 #[.string s] w fun e w' => e = .returned (.bool true) ∧ w = w' := by
  go_enter Try.func5, Try.ntmps5
  go_wp2
  go_ret
  exact ⟨rfl, rfl⟩
theorem bytes5_no (s : ByteArray) (w : World) (h : ¬ s.size ≤ 1048576) :
    Calls Try.prog 5 #[.string s] w fun e w' => e = .returned (.bool false) ∧ w = w' := by
  go_enter Try.func5, Try.ntmps5
  go_wp2
  go_ret
  exact ⟨rfl, rfl⟩

set_option maxHeartbeats 1000000 in
theorem grammar_core (s : ByteArray) (b : Bool) (hb : Hid (plain s.data.toList = b)) (w0 : s.size ≤ maxLen) (h20 : s.size ≤ 1048576) (w : World) :
    Calls Try.prog 3 #[.string s] w fun e w' => e = .returned (.bool true) ∧ Grown w w' := by
  cases b
  all_goals
    go_enter Try.func3, Try.ntmps3
    go_wp2_with (first | (go_at_call 5; refine (bytes5_yes _ _ h20).mono ?_; rintro e w' ⟨rfl, rfl⟩) | (go_at_call 6; refine (path_call _ _ hb.out _ w0).mono ?_; rintro e w' ⟨rfl, rfl⟩) | (go_at_call 7; refine (model_call _ _ hb.out _ h20).mono ?_; rintro e w' ⟨rfl, rfl⟩))
    go_ret
    exact ⟨rfl, Grown.refl _⟩
theorem grammar_walk (s : ByteArray) (w0 : s.size ≤ maxLen) (w : World) :
    Calls Try.prog 3 #[.string s] w fun e w' => e = .returned (.bool true) ∧ Grown w w' := by
  have w0' := w0
  unfold maxLen at w0'
  by_cases h20 : s.size ≤ 1048576
  · exact grammar_core s _ rfl w0 h20 w
  · go_enter Try.func3, Try.ntmps3
    go_wp2_with (go_at_call 5; refine (bytes5_no _ _ h20).mono ?_; rintro e w' ⟨rfl, rfl⟩)
    go_ret
    exact ⟨rfl, Grown.refl _⟩
end Go.Proofs.Qxb6632486a
