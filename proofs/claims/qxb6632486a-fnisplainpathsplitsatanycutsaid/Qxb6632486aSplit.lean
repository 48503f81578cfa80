/-
  The walk of FnIsPlainPathSplitsAtAnyCut.
-/
import Derived.Test.Qxb6632486aPath
namespace Go.Proofs.Qxb6632486a
open Go.RowKit

theorem plain_call (s : ByteArray) (b : Bool) (hb : plain s.data.toList = b) (w : World) (hs : s.size ≤ maxLen) :
    Calls Try.prog 6 #[.string s] w fun e w' => e = .returned (.bool b) ∧ w = w' := by
  subst hb
  exact plain_walk s w hs

theorem bytes8_yes (s : ByteArray) (k : Int) (w : World) (h : s.size ≤ 1048576) :
    Calls Try.prog 8 #[.string s, .int .i64 k] w fun e w' => e = .returned (.bool true) ∧ w = w' := by
  go_enter Try.func8, Try.ntmps8
  go_wp2
  go_ret
  exact ⟨rfl, rfl⟩
theorem bytes8_no (s : ByteArray) (k : Int) (w : World) (h : ¬ s.size ≤ 1048576) :
    Calls Try.prog 8 #[.string s, .int .i64 k] w fun e w' => e = .returned (.bool false) ∧ w = w' := by
  go_enter Try.func8, Try.ntmps8
  go_wp2
  go_ret
  exact ⟨rfl, rfl⟩

theorem le_maxLen {n : Nat} (h : n ≤ 2000000) : n ≤ maxLen := by unfold maxLen; omega
theorem tail_data (s : ByteArray) (m : Nat) : ((⟨#[47]⟩ : ByteArray) ++ s.extract m s.size).data.toList = 47 :: s.data.toList.drop m := by
  rw [ByteArray.data_append, Array.toList_append, Lib.extract_to_end]; rfl
theorem tail_size (s : ByteArray) (m : Nat) : ((⟨#[47]⟩ : ByteArray) ++ s.extract m s.size).size ≤ s.size + 1 := by
  rw [Lib.size_eq, tail_data, Lib.size_eq s]; simp
theorem cut_size (s : ByteArray) (a b : Nat) : (s.extract a b).size ≤ s.size := by
  rw [Lib.size_eq, Lib.extract_data, Lib.size_eq s]; simp; omega

set_option maxHeartbeats 2000000 in
theorem split_core (s : ByteArray) (m : Nat) (w : World) (h20 : s.size ≤ 1048576) (h1 : 1 ≤ m) (h2 : m ≤ s.size) (bA bB bF : Bool)
    (hA : Hid (plain (s.data.toList.take m) = bA)) (hB : Hid (plain (47 :: s.data.toList.drop m) = bB)) (hF : Hid (slashed s.data.toList = bF)) :
    Calls Try.prog 4 #[.string s, .int .i64 m] w fun e w' => e = .returned (.bool true) ∧ Grown w w' := by
  have h0 : 0 < s.size := by omega
  have hne : s.data.toList ≠ [] := by intro e; have := Lib.size_eq s; rw [e] at this; rw [this] at h0; exact absurd h0 (by decide)
  have HW : Hid (plain s.data.toList = (bA && bB)) := by
    show _ = _
    rw [plain_split s.data.toList m hne h1, hA.out, hB.out]
  have HF1 : Hid (plain (s.data.toList.take 1) = bF) := by
    show _ = _
    rw [plain_first s.data.toList hne, hF.out]
  have hb0 : ((s[0].toNat : Int) == 47) = bF := by
    rw [← hF.out]
    obtain ⟨t, ht⟩ := data_cons s h0
    rw [ht]
    simp only [slashed]
    by_cases e : s[0].toNat = 47
    · simp [e]
    · simp [e]; omega
  have H1 : Hid (plain (s.extract 0 m).data.toList = bA) := by show _ = _; rw [Lib.extract_data]; exact hA.out
  have H2 : Hid (plain ((⟨#[47]⟩ : ByteArray) ++ s.extract m s.size).data.toList = bB) := by show _ = _; rw [tail_data]; exact hB.out
  have H3 : Hid (plain (s.extract 0 1).data.toList = bF) := by show _ = _; rw [Lib.extract_data]; exact HF1.out
  have z1 : (s.extract 0 m).size ≤ 2000000 := Nat.le_trans (cut_size s 0 m) (by omega)
  have z2 : ((⟨#[47]⟩ : ByteArray) ++ s.extract m s.size).size ≤ 2000000 := Nat.le_trans (tail_size s m) (by omega)
  have z3 : (s.extract 0 1).size ≤ 2000000 := Nat.le_trans (cut_size s 0 1) (by omega)
  clear hne hF hA hB HF1
  go_enter Try.func4, Try.ntmps4
  go_wp2_with (go_at_call 8; refine (bytes8_yes _ _ _ h20).mono ?_; rintro e w' ⟨rfl, rfl⟩)
  refine (plain_call s _ HW.out _ (le_maxLen (by omega))).mono ?_
  rintro e w' ⟨rfl, rfl⟩
  go_wp2_with fail
  refine (plain_call (s.extract 0 m) bA H1.out _ (le_maxLen z1)).mono ?_
  rintro e w' ⟨rfl, rfl⟩
  go_wp2_with fail
  refine (plain_call _ bB H2.out _ (le_maxLen z2)).mono ?_
  rintro e w' ⟨rfl, rfl⟩
  go_wp2_with fail
  refine (plain_call (s.extract 0 1) bF H3.out _ (le_maxLen z3)).mono ?_
  rintro e w' ⟨rfl, rfl⟩
  clear HW H1 H2 H3 z1 z2 z3
  cases bA <;> cases bB <;> cases bF
  all_goals
    go_wp2
    go_ret
    exact ⟨rfl, Grown.refl _⟩

set_option maxHeartbeats 1000000 in
theorem split_walk (s : ByteArray) (k : Int) (w0 : s.size ≤ maxLen) (w : World) :
    Calls Try.prog 4 #[.string s, .int .i64 k] w fun e w' => e = .returned (.bool true) ∧ Grown w w' := by
  have w0' := w0
  unfold maxLen at w0'
  by_cases h20 : s.size ≤ 1048576
  · by_cases h0 : 0 < s.size
    · have hz : ((s.size : Int) == 0) = false := by apply beq_eq_false_iff_ne.2; omega
      by_cases hk1 : k < 1
      · go_enter Try.func4, Try.ntmps4
        go_wp2_with (go_at_call 8; refine (bytes8_yes _ _ _ h20).mono ?_; rintro e w' ⟨rfl, rfl⟩)
        go_ret
        exact ⟨rfl, Grown.refl _⟩
      · by_cases hk2 : (s.size : Int) < k
        · go_enter Try.func4, Try.ntmps4
          go_wp2_with (go_at_call 8; refine (bytes8_yes _ _ _ h20).mono ?_; rintro e w' ⟨rfl, rfl⟩)
          go_ret
          exact ⟨rfl, Grown.refl _⟩
        · obtain ⟨m, rfl⟩ : ∃ m : Nat, k = m := ⟨k.toNat, by omega⟩
          exact split_core s m w h20 (by omega) (by omega) _ _ _ rfl rfl rfl
    · have e : s.data.toList = [] := by
        apply List.eq_nil_of_length_eq_zero; rw [← Lib.size_eq]; omega
      have hz : ((s.size : Int) == 0) = true := by rw [beq_iff_eq]; omega
      have hp : Hid (plain s.data.toList = false) := by show _ = _; rw [e]; rfl
      clear e
      go_enter Try.func4, Try.ntmps4
      go_wp2_with (first | (go_at_call 8; refine (bytes8_yes _ _ _ h20).mono ?_; rintro e w' ⟨rfl, rfl⟩) | (go_at_call 6; refine (plain_call _ false hp.out _ w0).mono ?_; rintro e w' ⟨rfl, rfl⟩))
      go_ret
      exact ⟨rfl, Grown.refl _⟩
  · go_enter Try.func4, Try.ntmps4
    go_wp2_with (go_at_call 8; refine (bytes8_no _ _ _ h20).mono ?_; rintro e w' ⟨rfl, rfl⟩)
    go_ret
    exact ⟨rfl, Grown.refl _⟩
end Go.Proofs.Qxb6632486a
