/-
  The walk of FnURIEncodeCanonicalDecodeGivesInput.
-/
import Derived.Test.Qxb6632347aSmall
import Derived.Test.Qxb6632347aDouble
namespace Go.Proofs.Qxb6632347a
open Go.RowKit

theorem lit_callN (n : Int) (c : UInt8) (hn : n = c.toNat) (es : Bool) (b : Bool) (hb : lit es c = b) (w : World) :
    Calls Try.prog 7 #[.int .u8 n, .bool es] w fun e w' => e = .returned (.bool b) ∧ w = w' := by
  subst hn hb
  exact lit_call c es w

theorem Try.info5 : (Try.prog.info? 5).map (fun i => (i.zero, i.size, i.bytes)) = some (some (.int .u8 0), 1, 1) := by kernel_rfl

/-- The encoding of s, split at its k-th byte. -/
theorem enc_split (es : Bool) (s T : ByteArray) (hT : T.data.toList = enc es s.data.toList) (k : Nat) (h : k < s.size) :
    T.data.toList = enc es (s.data.toList.take k) ++ encB es s[k] ++ enc es (s.data.toList.drop (k + 1)) := by
  have h2 := hT
  rw [← List.take_append_drop k s.data.toList, drop_cons' s k h, enc_append] at h2
  rw [h2, List.append_assoc]; rfl

/-- One byte more in the row that the call owns. -/
theorem out_more {s : ByteArray} {k : Nat} {w W1 wr w1 : World} {o : Obj} (h : k < s.size) (z1 : w.heap.size ≤ W1.heap.size) (hsz : W1.heap.size ≤ wr.heap.size) (hbw : Below w.heap.size w wr)
    (hown1 : w1.ownsRow W1.heap.size 5 1 (.slice (some ⟨W1.heap.size, 0, none⟩) (k + 1) s.size) (k + 1) (Lib.byteCells (s.data.toList.take k) ++ [.int .u8 s[k].toNat]))
    (hg : (wr.alloc o).grownBy w1 (some W1.heap.size)) :
    w1.ownsRow W1.heap.size 5 1 (.slice (some ⟨W1.heap.size, 0, none⟩) (k + 1) s.size) (k + 1) (Lib.byteCells (s.data.toList.take (k + 1))) ∧ Below w.heap.size w w1 ∧ W1.heap.size ≤ w1.heap.size := by
  have e : Lib.byteCells (s.data.toList.take (k + 1)) = Lib.byteCells (s.data.toList.take k) ++ [.int .u8 s[k].toNat] := by
    rw [take_snoc s k h, Lib.byteCells_append]; rfl
  have e2 : (wr.alloc o).heap.size = wr.heap.size + 1 := by simp
  have z := hg.size
  refine ⟨by rw [e]; exact hown1, (hbw.alloc (by omega) _).grown hg (by omega) (fun g hgk => by cases hgk; exact z1), by omega⟩

set_option maxHeartbeats 4000000 in
set_option maxRecDepth 1000000 in
theorem canon_walk (s : ByteArray) (es : Bool) (w0 : s.size ≤ maxLen) (w : World) :
    Calls Try.prog 3 #[.string s, .bool es] w fun e w' => e = .returned (.bool true) ∧ Below w.heap.size w w' := by
  unfold maxLen at w0
  obtain ⟨i0, hi, hz0, hz1, hz2⟩ := info_parts Try.info5
  by_cases h20 : s.size ≤ 1048576
  · by_cases h16 : s.size ≤ 65536
    · go_enter Try.func3, Try.ntmps3
      go_wp2_with (go_at_call 5; refine (bytes5_yes _ _ _ h20).mono ?_; rintro e w' ⟨rfl, rfl⟩)
      refine (enc_call s es _ (by omega)).mono ?_
      rintro e W1 ⟨T, rfl, hT, hT1, hT2, b1⟩
      go_wp2_with (at_make; refine wpList_make_own _ rfl _ _ 24 rfl W1.heap.size 5 i0 (.int .u8 0) 1 Try.underlying24 hi hz0 hz1 _ _ _ s.size rfl rfl rfl (by rw [hz2]; omega) (by unfold maxLen; omega) (Nat.le_refl _) ?_)
      intro W2 hown0 hgrow0
      have z1 := b1.size
      have b2 : Below w.heap.size w W2 := b1.grown hgrow0 z1 (fun k h => by cases h)
      have z2 : W1.heap.size ≤ W2.heap.size := hgrow0.size
      clear hgrow0 b1
      go_wp2_with fail
      go_loopw [6, 7] (fun out i wr => ∃ k I : Nat, k ≤ s.size ∧ out = .slice (some ⟨W1.heap.size, 0, none⟩) k s.size ∧ i = .int .i64 I ∧ Hid (I = (enc es (s.data.toList.take k)).length) ∧
          wr.ownsRow W1.heap.size 5 1 (.slice (some ⟨W1.heap.size, 0, none⟩) k s.size) k (Lib.byteCells (s.data.toList.take k)) ∧ Below w.heap.size w wr ∧ W1.heap.size ≤ wr.heap.size)
        (fun _ i _ => T.size - (intOf i).toNat)
      case atStart => exact ⟨0, 0, Nat.zero_le _, rfl, rfl, rfl, hown0, b2, z2⟩
      case round =>
        clear hown0 b2 z2 W2
        obtain ⟨k, I, hk, rfl, rfl, hI, hown, hbw, hsz⟩ := hrel
        by_cases hlt : k < s.size
        · have hsp : Hid (T.data.toList = enc es (s.data.toList.take k) ++ encB es s[k] ++ enc es (s.data.toList.drop (k + 1))) := enc_split es s T hT.out k hlt
          have hstep : Hid ((enc es (s.data.toList.take (k + 1))).length = (enc es (s.data.toList.take k)).length + (encB es s[k]).length) := by
            show _ = _
            rw [take_snoc s k hlt, enc_snoc, List.length_append]
          by_cases hl : lit es s[k] = true
          · obtain ⟨hIT, hge⟩ := at_mid (q := 0) (J := I) hsp.out (by rw [hI.out]; rfl) (by simp [encB, hl])
            have hge2 : T[I] = s[k] := by rw [hge]; simp [encB, hl]
            have HL : Hid (lit es s[k] = true) := hl
            clear hge hl
            go_wp2_with (first
              | (go_at_call 7; refine (lit_callN _ s[k] rfl es true HL.out _).mono ?_; rintro e w' ⟨rfl, rfl⟩)
              | (at_builtin; refine wpList_append_fits _ rfl (.tmp 42) (.tmp 44) 24 rfl W1.heap.size 5 i0 1 Try.underlying24 hi hz1 W1.heap.size k s.size _ rfl (hown.alloc _) ⟨wr.heap.size, 0, none⟩ 1 1 [.int .u8 s[k].toNat] rfl rfl (by intro t u ht; match t, ht with | 0, ht => simp at ht; subst ht; simp [Addr.add]) (by intro u hu; simp at hu; subst hu; rfl) (by omega) ?_; intro w1 hown1 hgrow1))
            have R := out_more hlt z1 hsz hbw hown1 hgrow1
            clear hown1 hgrow1 hown hbw
            go_roundw
            case rel => exact ⟨k + 1, I + 1, by omega, rfl, by go_num, by show _ = _; rw [hstep.out, hI.out]; simp [encB, HL.out], R.1, R.2.1, R.2.2⟩
            case measure => simp [intOf]; omega
          · have hl2 : Hid (lit es s[k] = false) := by show _ = _; simpa using hl
            clear hl
            have e3 : Hid (encB es s[k] = [37, hx (s[k].toNat / 16), hx (s[k].toNat % 16)]) := by show _ = _; simp [encB, hl2.out]
            obtain ⟨hIT0, hg0⟩ := at_mid (q := 0) (J := I) hsp.out (by rw [hI.out]; rfl) (by rw [e3.out]; simp)
            obtain ⟨hIT1, hg1⟩ := at_mid (q := 1) (J := I + 1) hsp.out (by rw [hI.out]) (by rw [e3.out]; simp)
            obtain ⟨hIT2, hg2⟩ := at_mid (q := 2) (J := I + 2) hsp.out (by rw [hI.out]) (by rw [e3.out]; simp)
            have g0 : T[I] = 37 := by rw [hg0]; simp [e3.out]
            have g1 : T[I + 1] = hx (s[k].toNat / 16) := by rw [hg1]; simp [e3.out]
            have g2 : T[I + 2] = hx (s[k].toNat % 16) := by rw [hg2]; simp [e3.out]
            clear hg0 hg1 hg2
            have ht : s[k].toNat < 256 := s[k].toNat_lt
            obtain ⟨v1, hv1⟩ : ∃ v1, Hid (v1 = s[k].toNat / 16) := ⟨s[k].toNat / 16, rfl⟩
            obtain ⟨v2, hv2⟩ : ∃ v2, Hid (v2 = s[k].toNat % 16) := ⟨s[k].toNat % 16, rfl⟩
            have v1l : v1 < 16 := by have := hv1.out; omega
            have v2l : v2 < 16 := by have := hv2.out; omega
            have HG1 : Hid (T[I + 1] = hx v1) := by show _ = _; rw [hv1.out]; exact g1
            have HG2 : Hid (T[I + 2] = hx v2) := by show _ = _; rw [hv2.out]; exact g2
            clear g1 g2
            go_wp2_with fail
            refine (lit_callN _ 37 rfl es false (by cases es <;> decide) _).mono ?_
            rintro e w' ⟨rfl, rfl⟩
            go_wp2_with fail
            refine (hex_call v1 v1l _ (by show _ = _; rw [← HG1.out]) _).mono ?_
            rintro e w' ⟨rfl, rfl⟩
            go_wp2_with fail
            refine (hex_call v2 v2l _ (by show _ = _; rw [← HG2.out]) _).mono ?_
            rintro e w' ⟨rfl, rfl⟩
            go_wp2_with fail
            have hd : ((v1 : Int) * 16 + (v2 : Int)) = (s[k].toNat : Int) := by have := hv1.out; have := hv2.out; omega
            rw [hd]
            refine (lit_callN _ s[k] rfl es false hl2.out _).mono ?_
            rintro e w' ⟨rfl, rfl⟩
            clear hd
            go_wp2_with (at_builtin; refine wpList_append_fits _ rfl (.tmp 81) (.tmp 83) 24 rfl W1.heap.size 5 i0 1 Try.underlying24 hi hz1 W1.heap.size k s.size _ rfl (hown.alloc _) ⟨wr.heap.size, 0, none⟩ 1 1 [.int .u8 s[k].toNat] rfl rfl (by intro t u ht; match t, ht with | 0, ht => simp at ht; subst ht; simp [Addr.add]) (by intro u hu; simp at hu; subst hu; rfl) (by omega) ?_; intro w1 hown1 hgrow1)
            have R := out_more hlt z1 hsz hbw hown1 hgrow1
            clear hown1 hgrow1 hown hbw
            go_roundw
            case rel => exact ⟨k + 1, I + 3, by omega, rfl, by go_num, by show _ = _; rw [hstep.out, hI.out, e3.out]; rfl, R.1, R.2.1, R.2.2⟩
            case measure => simp [intOf]; omega
        · have hTI : T.size ≤ I := by
            have h1 : T.data.toList.length = T.size := by simp
            rw [← h1, hT.out, hI.out, List.take_of_length_le (by simp; omega)]
            exact Nat.le_refl _
          have hks : s.size ≤ k := by omega
          have hcell : ∀ q (h : q < s.size), wr.cell? ⟨W1.heap.size, q, none⟩ = some (.int .u8 s[q].toNat) := by
            intro q h
            have := hown.cells rfl q (.int .u8 s[q].toNat) (by rw [List.take_of_length_le (by simp; omega)]; simp [Lib.byteCells, h]; rfl)
            by_cases q0 : q = 0
            · subst q0; simpa [Addr.add] using this
            · simpa [Addr.add, q0] using this
          have hW : W1.heap.size < wr.heap.size := by
            rcases hown.2 with ⟨hv, _⟩ | ⟨g, cap, cur, hv, _, hg, _⟩
            · cases hv
            · cases hv
              exact (Array.getElem?_eq_some_iff.1 hg).1
          clear hown
          go_wp2_with fail
          go_loopw [12] (fun i wx => ∃ q : Nat, q ≤ s.size ∧ i = .int .i64 q ∧ Below wr.heap.size wr wx) (fun i _ => s.size - (intOf i).toNat)
          case atStart => exact ⟨0, Nat.zero_le _, rfl, Below.refl _ _⟩
          case round =>
            obtain ⟨q, hq, rfl, hbx⟩ := hrel
            by_cases hql : q < s.size
            · have hc : wr.cell? ⟨W1.heap.size, q, none⟩ = some (.int .u8 s[q].toNat) := (hbx.cell (by exact hW)).trans (hcell q hql)
              have hqi : (q : Int) < (s.size : Int) := by omega
              have hqk : (q : Int) < (k : Int) := by omega
              go_wp2_with fail
              go_quiet (fail)
              go_wp2
              go_roundw
              case rel => exact ⟨q + 1, by omega, by go_num, below_drewN hbx _⟩
              case measure => simp [intOf]; omega
            · go_wp2
              go_ret
              exact ⟨rfl, hbw.trans (hbx.mono hbw.size)⟩
    · go_enter Try.func3, Try.ntmps3
      go_wp2_with (go_at_call 5; refine (bytes5_yes _ _ _ h20).mono ?_; rintro e w' ⟨rfl, rfl⟩)
      go_ret
      exact ⟨rfl, Below.refl _ _⟩
  · go_enter Try.func3, Try.ntmps3
    go_wp2_with (go_at_call 5; refine (bytes5_no _ _ _ h20).mono ?_; rintro e w' ⟨rfl, rfl⟩)
    go_ret
    exact ⟨rfl, Below.refl _ _⟩
end Go.Proofs.Qxb6632347a
