/-
  The walk of FnURIEncodeDoubleEncodingOnlyEscapesPercent.
-/
import Derived.Test.Qxb6632347aEnc
import Derived.Test.Qxb6632347aEq
namespace Go.Proofs.Qxb6632347a
open Go.RowKit

/-- URIEncode, its answer under a name. -/
theorem enc_call (s : ByteArray) (es : Bool) (w : World) (hs : s.size ≤ 1000000) :
    Calls Try.prog 6 #[.string s, .bool es] w fun e w' => ∃ T : ByteArray, e = .returned (.string T) ∧ Hid (T.data.toList = enc es s.data.toList) ∧ s.size ≤ T.size ∧ T.size ≤ 3 * s.size ∧ Below w.heap.size w w' := by
  refine (enc_walk s es w hs).mono ?_
  rintro e w' ⟨rfl, hb⟩
  have h := enc_len es s.data.toList
  have e1 : s.data.toList.length = s.size := by simp
  have e2 : (⟨(enc es s.data.toList).toArray⟩ : ByteArray).size = (enc es s.data.toList).length := rfl
  exact ⟨_, rfl, rfl, by omega, by omega, hb⟩

theorem bytes9_yes (s : ByteArray) (es : Bool) (w : World) (h : s.size ≤ 1048576) :
    Calls Try.prog 9 #[.string s, .bool es] w fun e w' => e = .returned (.bool true) ∧ w' = w := by
  go_enter Try.func9, Try.ntmps9
  go_wp2
  go_ret
  exact ⟨rfl, rfl⟩
theorem bytes9_no (s : ByteArray) (es : Bool) (w : World) (h : ¬ s.size ≤ 1048576) :
    Calls Try.prog 9 #[.string s, .bool es] w fun e w' => e = .returned (.bool false) ∧ w' = w := by
  go_enter Try.func9, Try.ntmps9
  go_wp2
  go_ret
  exact ⟨rfl, rfl⟩

set_option maxHeartbeats 4000000 in
set_option maxRecDepth 1000000 in
theorem double_walk (s : ByteArray) (es : Bool) (w0 : s.size ≤ maxLen) (w : World) :
    Calls Try.prog 4 #[.string s, .bool es] w fun e w' => e = .returned (.bool true) ∧ Below w.heap.size w w' := by
  unfold maxLen at w0
  by_cases h20 : s.size ≤ 1048576
  · by_cases h16 : s.size ≤ 65536
    · go_enter Try.func4, Try.ntmps4
      go_wp2_with (go_at_call 9; refine (bytes9_yes _ _ _ h20).mono ?_; rintro e w' ⟨rfl, rfl⟩)
      refine (enc_call s es _ (by omega)).mono ?_
      rintro e W1 ⟨T, rfl, hT, hT1, hT2, b1⟩
      go_wp2_with fail
      go_loop [6] (fun i => ∃ k : Nat, k ≤ T.size ∧ i = .int .i64 k) (fun i => T.size - (intOf i).toNat)
      case atStart => exact ⟨0, Nat.zero_le _, rfl⟩
      case round =>
        obtain ⟨k, hk, rfl⟩ := hrel
        by_cases hlt : k < T.size
        · have hm := enc_mem es s.data.toList T[k] (by rw [← hT.out]; exact List.getElem_mem (l := T.data.toList) (by simpa using hlt))
          have h33 : (33 : Int) ≤ (T[k].toNat : Int) := by omega
          have h126 : (T[k].toNat : Int) ≤ 126 := by omega
          clear hm
          go_wp2
          go_round
          case rel => exact ⟨k + 1, by omega, by go_num⟩
          case measure => simp [intOf]; omega
        · go_wp2_with fail
          refine (enc_call T es _ (by omega)).mono ?_
          rintro e W2 ⟨U, rfl, hU, hU1, hU2, b2⟩
          go_wp2_with fail
          refine (eq_walk U T ⟨#[37, 50, 53]⟩ 37 37 rfl _ (by omega) (by omega) (by decide) ?_).mono ?_
          · show _ = _
            rw [hU.out, hT.out]
            exact enc_twice es _
          rintro e W3 ⟨rfl, b3⟩
          go_wp2_with fail
          refine (enc_call s false _ (by omega)).mono ?_
          rintro e W4 ⟨K, rfl, hK, hK1, hK2, b4⟩
          go_wp2_with fail
          refine (enc_call s true _ (by omega)).mono ?_
          rintro e W5 ⟨E, rfl, hE, hE1, hE2, b5⟩
          go_wp2_with fail
          refine (eq_walk E K ⟨#[37, 50, 70]⟩ 47 47 rfl _ (by omega) (by omega) (by decide) ?_).mono ?_
          · show _ = _
            rw [hE.out, hK.out]
            exact enc_slash _
          rintro e W6 ⟨rfl, b6⟩
          go_wp2
          go_ret
          have z1 := b1.size
          have z2 := b2.size
          have z3 := b3.size
          have z4 := b4.size
          have z5 := b5.size
          exact ⟨rfl, ((((b1.trans (b2.mono (by omega))).trans (b3.mono (by omega))).trans (b4.mono (by omega))).trans (b5.mono (by omega))).trans (b6.mono (by omega))⟩
    · go_enter Try.func4, Try.ntmps4
      go_wp2_with (go_at_call 9; refine (bytes9_yes _ _ _ h20).mono ?_; rintro e w' ⟨rfl, rfl⟩)
      go_ret
      exact ⟨rfl, Below.refl _ _⟩
  · go_enter Try.func4, Try.ntmps4
    go_wp2_with (go_at_call 9; refine (bytes9_no _ _ _ h20).mono ?_; rintro e w' ⟨rfl, rfl⟩)
    go_ret
    exact ⟨rfl, Below.refl _ _⟩
end Go.Proofs.Qxb6632347a
