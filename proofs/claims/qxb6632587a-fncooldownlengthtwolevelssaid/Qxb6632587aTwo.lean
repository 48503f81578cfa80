/-
  ladderModel walked, and the walk of FnCooldownLengthTwoLevels.
-/
import Derived.Test.Qxb6632587aOpen
import Derived.Deep.RegionWith
namespace Go.Proofs.Qxb6632587a
open Go.RowKit

theorem model_perm {xs : List Int} {m : Nat} {k : Nat} (hk : k = min m xs.length) (h : perm xs (k : Int) = true) : cool xs (m : Int) = 0 := by
  obtain ⟨j, a, b, c⟩ := perm_at h
  exact cool_zero (i := j) (by omega) b c
theorem model_else {xs : List Int} {m : Nat} {k : Nat} (hm : 1 ≤ m) (hx : 0 < xs.length) (hk : k = min m xs.length) (h : perm xs (k : Int) = false) : cool xs (m : Int) = xs.getD (k - 1) 0 := by
  rw [cool_else (by omega) hx (perm_no (fun j a b => not_perm h j (by omega) b))]
  congr 1; omega

set_option maxHeartbeats 2000000 in
theorem model_walk (a : Option Addr) (cap : Nat) (xs : List Int) (level : Int) (w : World) (hn : xs.length ≤ 1000000) (hlev : level ≤ 9223372036854775807) (hr : Hid (Rung w a xs)) :
    Calls Try.prog 7 #[.slice a xs.length cap, .int .i64 level] w fun e w' => e = .returned (.int .i64 (cool xs level)) ∧ w = w' := by
  by_cases h0 : level ≤ 0
  · have e : cool xs level = 0 := cool_low h0
    rw [e]
    clear e
    go_enter Try.func7, Try.ntmps7
    go_wp2
    go_ret
    exact ⟨rfl, rfl⟩
  · by_cases hx : 0 < xs.length
    · have hz : ((xs.length : Int) == 0) = false := by apply beq_eq_false_iff_ne.2; omega
      obtain ⟨m, rfl⟩ : ∃ m : Nat, level = m := ⟨level.toNat, by omega⟩
      obtain ⟨b, off, rfl, hbs, hc⟩ := hr.out.at_ hx
      obtain ⟨C, HC⟩ : ∃ C, Hid (cool xs (m : Int) = C) := ⟨_, rfl⟩
      rw [HC.out]
      by_cases hm : m < xs.length
      · cases hp : perm xs (m : Int) with
        | true =>
          have HP : Hid (perm xs (m : Int) = true) := hp
          have H0 : Hid (0 = C) := by show _ = _; rw [← HC.out, model_perm (k := m) (by omega) hp]
          clear hp hc
          go_enter Try.func7, Try.ntmps7
          go_wp2_with (go_at_call 9; refine (perm_call w _ cap xs _ _ true rfl (by omega) HP.out hr.out _ (Below.refl _ _)).mono ?_; rintro e w' ⟨rfl, rfl⟩)
          go_ret
          exact ⟨ret_int H0.out, rfl⟩
        | false =>
          have HP : Hid (perm xs (m : Int) = false) := hp
          have hci : w.cell? ⟨b, off + (m - 1), none⟩ = some (.int .i64 C) := by rw [hc _ (by omega), ← HC.out, model_else (k := m) (by omega) hx (by omega) hp]
          clear hp hc
          go_enter Try.func7, Try.ntmps7
          go_wp2_with (go_at_call 9; refine (perm_call w _ cap xs _ _ false rfl (by omega) HP.out hr.out _ (Below.refl _ _)).mono ?_; rintro e w' ⟨rfl, rfl⟩)
          go_ret
          exact ⟨rfl, rfl⟩
      · cases hp : perm xs (xs.length : Int) with
        | true =>
          have HP : Hid (perm xs (xs.length : Int) = true) := hp
          have H0 : Hid (0 = C) := by show _ = _; rw [← HC.out, model_perm (k := xs.length) (by omega) hp]
          clear hp hc
          go_enter Try.func7, Try.ntmps7
          go_wp2_with (go_at_call 9; refine (perm_call w _ cap xs _ _ true rfl (by omega) HP.out hr.out _ (Below.refl _ _)).mono ?_; rintro e w' ⟨rfl, rfl⟩)
          go_ret
          exact ⟨ret_int H0.out, rfl⟩
        | false =>
          have HP : Hid (perm xs (xs.length : Int) = false) := hp
          have hci : w.cell? ⟨b, off + (xs.length - 1), none⟩ = some (.int .i64 C) := by rw [hc _ (by omega), ← HC.out, model_else (k := xs.length) (by omega) hx (by omega) hp]
          clear hp hc
          go_enter Try.func7, Try.ntmps7
          go_wp2_with (go_at_call 9; refine (perm_call w _ cap xs _ _ false rfl (by omega) HP.out hr.out _ (Below.refl _ _)).mono ?_; rintro e w' ⟨rfl, rfl⟩)
          go_ret
          exact ⟨rfl, rfl⟩
    · have hz : ((xs.length : Int) == 0) = true := by rw [beq_iff_eq]; omega
      have e0 : xs = [] := List.eq_nil_of_length_eq_zero (by omega)
      have e : cool xs level = 0 := by rw [e0]; exact cool_nil _
      rw [e]
      clear e e0
      go_enter Try.func7, Try.ntmps7
      go_wp2
      go_ret
      exact ⟨rfl, rfl⟩

theorem model_call (w0 : World) (a : Option Addr) (cap : Nat) (xs : List Int) (level v : Int) (hx : xs.length ≤ 1000000) (hlev : level ≤ 9223372036854775807) (hv : cool xs level = v) (hr : Rung w0 a xs)
    (w : World) (hb : Below w0.heap.size w0 w) :
    Calls Try.prog 7 #[.slice a xs.length cap, .int .i64 level] w fun e w' => e = .returned (.int .i64 v) ∧ w = w' := by
  subst hv
  exact model_walk a cap xs level w hx hlev (hr.kept hb)

set_option maxHeartbeats 4000000 in
theorem two_core (a : Option Addr) (cap : Nat) (xs : List Int) (p q lo hi A B : Int) (w : World) (hx : xs.length ≤ 65536) (hord : Hid ((p ≤ q ∧ lo = p ∧ hi = q) ∨ (q < p ∧ lo = q ∧ hi = p)))
    (hhi : hi ≤ 9223372036854775807) (hlh : lo ≤ hi) (hA : Hid (cool xs lo = A)) (hB : Hid (cool xs hi = B)) (hr : Hid (Rung w a xs)) (hn : Hid (a = none → xs = [])) :
    Calls Try.prog 3 #[.slice a xs.length cap, .int .i64 p, .int .i64 q] w fun e w' => e = .returned (.bool true) ∧ Below w.heap.size w w' := by
  have hAB : Hid ((xs.length : Int) ≤ lo → (A != B) = false) := fun h => by
    rw [← hA.out, ← hB.out, cool_past h hlh]; exact bne_self_eq_false _
  have hst : Hid (1 ≤ lo → (A == 0) = true → (B != 0) = false) := fun h h2 => by
    have e : A = 0 := by simpa using h2
    have : B = 0 := by rw [← hB.out]; exact cool_stays h hlh (by rw [hA.out]; exact e)
    rw [this]; rfl
  rcases hord.out with ⟨o, rfl, rfl⟩ | ⟨o, rfl, rfl⟩
  all_goals
    clear hord
    go_enter Try.func3, Try.ntmps3
    go_wp2_with (go_at_call 5; refine (bytes5_yes _ _ _ _ _ _ hx).mono ?_; rintro e w' ⟨rfl, rfl⟩)
    refine (at_call w a cap xs _ _ A rfl (by omega) hA.out hr.out hn.out _ (Below.refl _ _)).mono ?_
    rintro e W1 ⟨rfl, b1⟩
    go_wp2_with fail
    refine (at_call w a cap xs _ _ B rfl (by omega) hB.out hr.out hn.out _ b1).mono ?_
    rintro e W2 ⟨rfl, b2⟩
    by_cases c1 : 1 ≤ lo
    · cases hA0 : (A == 0) with
      | true =>
        have hB0 : (B != 0) = false := hst.out c1 hA0
        by_cases c2 : (xs.length : Int) ≤ lo
        · have hne : (A != B) = false := hAB.out c2
          go_wp2_with (first
            | (go_at_call_of 7 lo; refine (model_call w a cap xs _ A (by omega) (by omega) hA.out hr.out _ b2).mono ?_; rintro e w' ⟨rfl, rfl⟩)
            | (go_at_call_of 7 hi; refine (model_call w a cap xs _ B (by omega) (by omega) hB.out hr.out _ b2).mono ?_; rintro e w' ⟨rfl, rfl⟩))
          go_ret
          exact ⟨rfl, b2⟩
        · go_wp2_with (first
            | (go_at_call_of 7 lo; refine (model_call w a cap xs _ A (by omega) (by omega) hA.out hr.out _ b2).mono ?_; rintro e w' ⟨rfl, rfl⟩)
            | (go_at_call_of 7 hi; refine (model_call w a cap xs _ B (by omega) (by omega) hB.out hr.out _ b2).mono ?_; rintro e w' ⟨rfl, rfl⟩))
          go_ret
          exact ⟨rfl, b2⟩
      | false =>
        by_cases c2 : (xs.length : Int) ≤ lo
        · have hne : (A != B) = false := hAB.out c2
          go_wp2_with (first
            | (go_at_call_of 7 lo; refine (model_call w a cap xs _ A (by omega) (by omega) hA.out hr.out _ b2).mono ?_; rintro e w' ⟨rfl, rfl⟩)
            | (go_at_call_of 7 hi; refine (model_call w a cap xs _ B (by omega) (by omega) hB.out hr.out _ b2).mono ?_; rintro e w' ⟨rfl, rfl⟩))
          go_ret
          exact ⟨rfl, b2⟩
        · go_wp2_with (first
            | (go_at_call_of 7 lo; refine (model_call w a cap xs _ A (by omega) (by omega) hA.out hr.out _ b2).mono ?_; rintro e w' ⟨rfl, rfl⟩)
            | (go_at_call_of 7 hi; refine (model_call w a cap xs _ B (by omega) (by omega) hB.out hr.out _ b2).mono ?_; rintro e w' ⟨rfl, rfl⟩))
          go_ret
          exact ⟨rfl, b2⟩
    · by_cases c2 : (xs.length : Int) ≤ lo
      · have hne : (A != B) = false := hAB.out c2
        go_wp2_with (first
          | (go_at_call_of 7 lo; refine (model_call w a cap xs _ A (by omega) (by omega) hA.out hr.out _ b2).mono ?_; rintro e w' ⟨rfl, rfl⟩)
          | (go_at_call_of 7 hi; refine (model_call w a cap xs _ B (by omega) (by omega) hB.out hr.out _ b2).mono ?_; rintro e w' ⟨rfl, rfl⟩))
        go_ret
        exact ⟨rfl, b2⟩
      · go_wp2_with (first
          | (go_at_call_of 7 lo; refine (model_call w a cap xs _ A (by omega) (by omega) hA.out hr.out _ b2).mono ?_; rintro e w' ⟨rfl, rfl⟩)
          | (go_at_call_of 7 hi; refine (model_call w a cap xs _ B (by omega) (by omega) hB.out hr.out _ b2).mono ?_; rintro e w' ⟨rfl, rfl⟩))
        go_ret
        exact ⟨rfl, b2⟩

theorem two_walk (a : Option Addr) (cap : Nat) (xs : List Int) (p q : Int) (w : World) (hp : p ≤ 9223372036854775807) (hq : q ≤ 9223372036854775807) (hr : Hid (Rung w a xs)) (hn : Hid (a = none → xs = [])) :
    Calls Try.prog 3 #[.slice a xs.length cap, .int .i64 p, .int .i64 q] w fun e w' => e = .returned (.bool true) ∧ Below w.heap.size w w' := by
  by_cases hx : xs.length ≤ 65536
  · by_cases o : p ≤ q
    · exact two_core a cap xs p q p q _ _ w hx (.inl ⟨o, rfl, rfl⟩) hq o rfl rfl hr hn
    · exact two_core a cap xs p q q p _ _ w hx (.inr ⟨by omega, rfl, rfl⟩) hp (by omega) rfl rfl hr hn
  · go_enter Try.func3, Try.ntmps3
    go_wp2_with fail
    refine (bytes5_any _ _ _ _ _ _).mono ?_
    rintro e w' ⟨b, rfl, rfl⟩
    cases b
    all_goals
      go_wp2
      go_ret
      exact ⟨rfl, Below.refl _ _⟩
end Go.Proofs.Qxb6632587a
