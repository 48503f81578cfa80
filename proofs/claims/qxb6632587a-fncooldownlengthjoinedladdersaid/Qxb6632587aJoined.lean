/-
  The walk of FnCooldownLengthJoinedLadder.
-/
import Derived.Test.Qxb6632587aOpen
import Derived.Deep.RegionWith
namespace Go.Proofs.Qxb6632587a
open Go.RowKit

theorem hide {p : Prop} (h : p) : Hid p := h
theorem join_eq {xs ys zs : List Int} (hl : zs.length = xs.length + ys.length) (h1 : ∀ j, j < xs.length → zs.getD j 0 = xs.getD j 0) (h2 : ∀ j, j < ys.length → zs.getD (xs.length + j) 0 = ys.getD j 0) : zs = xs ++ ys := by
  apply list_eq (by rw [List.length_append]; exact hl)
  intro j hj
  rw [List.length_append] at hj
  by_cases e : j < xs.length
  · rw [getD_left xs ys j e]; exact h1 j e
  · rw [getD_right xs ys j (by omega)]
    have := h2 (j - xs.length) (by omega)
    rwa [show xs.length + (j - xs.length) = j from by omega] at this

set_option maxHeartbeats 8000000 in
set_option maxRecDepth 100000 in
theorem joined_core (a0 : Option Addr) (cap0 : Nat) (xs : List Int) (a1 : Option Addr) (cap1 : Nat) (ys : List Int) (level : Int) (w : World) (hlev : level ≤ 9223372036854775807) (hx : xs.length ≤ 65536) (hy : ys.length ≤ 65536)
    (hA : Hid (Rung w a0 xs)) (hB : Hid (Rung w a1 ys)) (nA : Hid (a0 = none → xs = [])) (nB : Hid (a1 = none → ys = [])) :
    Calls Try.prog 4 #[.slice a0 xs.length cap0, .slice a1 ys.length cap1, .int .i64 level] w fun e w' => e = .returned (.bool true) ∧ Below w.heap.size w w' := by
  obtain ⟨i0, hi, hz0, hz1, hz2⟩ := info_parts Try.info2
  go_enter Try.func4, Try.ntmps4
  go_wp2_with (first
    | (go_at_call 8; refine (bytes8_yes _ _ _ _ _ _ _ _ hx hy).mono ?_; rintro e w' ⟨rfl, rfl⟩)
    | (at_make; refine wpList_make_full _ rfl _ _ 22 rfl w.heap.size 2 i0 (.int .i64 0) 1 Try.underlying22 hi hz0 hz1 _ _ _ _ (xs.length + ys.length) rfl rfl (by omega) (by omega) (by rw [hz2]; omega) (by unfold maxLen; omega) (Nat.le_refl _) ?_))
  intro W1 hown0 hgrow0
  rw [made_zero] at hown0
  have b1 : Below w.heap.size w W1 := (Below.refl _ _).grown hgrow0 (Nat.le_refl _) (fun k h => by cases h)
  clear hgrow0 hz0 hz1 hz2 hi
  go_wp2
  go_loopw [9] (fun s wr => ∃ (i : Nat) (zs : List Int), i ≤ xs.length ∧ s = .int .i64 i ∧ Hid (zs.length = xs.length + ys.length) ∧ Hid (∀ j, j < i → zs.getD j 0 = xs.getD j 0) ∧
      wr.ownsRow w.heap.size 2 1 (.slice (some ⟨w.heap.size, 0, none⟩) (xs.length + ys.length) (xs.length + ys.length)) (xs.length + ys.length) (zs.map (Value.int .i64)) ∧ Below w.heap.size w wr) (fun s _ => xs.length - (intOf s).toNat)
  case atStart => exact ⟨0, List.replicate (xs.length + ys.length) 0, Nat.zero_le _, rfl, List.length_replicate, fun j h => absurd h (Nat.not_lt_zero _), hown0, b1⟩
  case round =>
    clear hown0 b1
    obtain ⟨i, zs, hil, rfl, HL, hall, hown, hbw⟩ := hrel
    by_cases h2 : i < xs.length
    · obtain ⟨b, off, rfl, hbs, hc⟩ := hA.out.at_ h2
      have hci := (hbw.cell (p := ⟨b, off + i, none⟩) (by exact hbs)).trans (hc i h2)
      rw [getD_at xs i h2] at hci
      have hco := own_cell hown HL.out (i := i) (by omega)
      have hfo := hown.frozenAt i
      clear hc
      go_wp2
      go_roundw
      case rel =>
        refine ⟨i + 1, zs.set i xs[i], by omega, by go_num, by show _ = _; rw [List.length_set]; exact HL.out, fun j hj => ?_, own_set hown i _, hbw.setCell (by exact Nat.le_refl _) _⟩
        rw [set_getD zs i j _ (by rw [HL.out]; omega)]
        by_cases e : i = j
        · subst e; rw [if_pos rfl, getD_at xs i h2]
        · rw [if_neg e]; exact hall.out j (by omega)
      case measure => simp [intOf]; omega
    · have hall2 : Hid (∀ j, j < xs.length → zs.getD j 0 = xs.getD j 0) := fun j hj => hall.out j (by omega)
      clear hall
      go_wp2_with fail
      go_loopw [10] (fun s wr => ∃ (q : Nat) (us : List Int), q ≤ ys.length ∧ s = .int .i64 q ∧ Hid (us.length = xs.length + ys.length) ∧ Hid (∀ j, j < xs.length → us.getD j 0 = xs.getD j 0) ∧ Hid (∀ j, j < q → us.getD (xs.length + j) 0 = ys.getD j 0) ∧
          wr.ownsRow w.heap.size 2 1 (.slice (some ⟨w.heap.size, 0, none⟩) (xs.length + ys.length) (xs.length + ys.length)) (xs.length + ys.length) (us.map (Value.int .i64)) ∧ Below w.heap.size w wr) (fun s _ => ys.length - (intOf s).toNat)
      case atStart => exact ⟨0, zs, Nat.zero_le _, rfl, HL, hall2, fun j h => absurd h (Nat.not_lt_zero _), hown, hbw⟩
      case round =>
        clear hown hbw HL hall2 zs
        obtain ⟨q, us, hql, rfl, HL, hl1, hl2, hown, hbw⟩ := hrel
        by_cases h3 : q < ys.length
        · obtain ⟨b, off, rfl, hbs, hc⟩ := hB.out.at_ h3
          have hci := (hbw.cell (p := ⟨b, off + q, none⟩) (by exact hbs)).trans (hc q h3)
          rw [getD_at ys q h3] at hci
          have hco := own_cell hown HL.out (i := xs.length + q) (by omega)
          have hfo := hown.frozenAt (xs.length + q)
          clear hc
          go_wp2
          go_roundw
          case rel =>
            refine ⟨q + 1, us.set (xs.length + q) ys[q], by omega, by go_num, by show _ = _; rw [List.length_set]; exact HL.out, fun j hj => ?_, fun j hj => ?_, own_set hown _ _, hbw.setCell (by exact Nat.le_refl _) _⟩
            · rw [set_getD us _ j _ (by rw [HL.out]; omega), if_neg (by omega)]; exact hl1.out j hj
            · rw [set_getD us _ _ _ (by rw [HL.out]; omega)]
              by_cases e : q = j
              · subst e; rw [if_pos rfl, getD_at ys q h3]
              · rw [if_neg (by omega)]; exact hl2.out j (by omega)
          case measure => simp [intOf]; omega
        · have HE : Hid (us = xs ++ ys) := join_eq HL.out hl1.out (fun j hj => hl2.out j (by omega))
          have RJ : Hid (Rung wr (some ⟨w.heap.size, 0, none⟩) us) := own_rung hown HL.out
          have CJ : Hid (∀ i, i < xs.length + ys.length → wr.cell? ⟨w.heap.size, i, none⟩ = some (.int .i64 (us.getD i 0))) := fun i hi => own_cell hown HL.out hi
          have GJ : w.heap.size < wr.heap.size := own_lt hown
          have RA : Hid (Rung wr a0 xs) := hA.out.kept hbw
          have RB : Hid (Rung wr a1 ys) := hB.out.kept hbw
          clear hown hl1 hl2 hA hB
          obtain ⟨C, HC⟩ : ∃ C, Hid (cool us level = C) := ⟨cool us level, rfl⟩
          obtain ⟨PA, hPA⟩ : ∃ PA, Hid (perm xs xs.length = PA) := ⟨perm xs xs.length, rfl⟩
          obtain ⟨PB, hPB⟩ : ∃ PB, Hid (perm ys ys.length = PB) := ⟨perm ys ys.length, rfl⟩
          go_wp2_with fail
          refine (at_call wr _ _ us (xs.length + ys.length) level C HL.out.symm (by rw [HL.out]; omega) HC.out RJ.out (fun h => by cases h) _ (Below.refl _ _)).mono ?_
          rintro e W2 ⟨rfl, b2⟩
          by_cases hl0 : level ≤ 0
          · have HCa : Hid (cool xs level = C) := by show _ = _; rw [← HC.out, HE.out]; exact (joined_left (Or.inl (by omega))).symm
            have hC0 : (C == 0) = true := by rw [← HC.out, cool_low hl0]; rfl
            go_wp2_with (first
              | (go_at_call_of 6 a0; refine (at_call wr a0 cap0 xs _ level C rfl (by omega) HCa.out RA.out nA.out _ (by assumption)).mono ?_; rintro e W3 ⟨rfl, b3⟩))
            go_ret
            exact ⟨rfl, hbw.trans (b3.mono hbw.size)⟩
          · obtain ⟨m, rfl⟩ : ∃ m : Nat, level = m := ⟨level.toNat, by omega⟩
            have hm1 : 1 ≤ m := by omega
            have CJ1 : Hid (PA = false → PB = false → ∀ W, Below wr.heap.size wr W → m < xs.length + ys.length → W.cell? ⟨w.heap.size, m - 1, none⟩ = some (.int .i64 C)) := by
              intro h1 h2 W hW h3
              have hl : (xs ++ ys).length = xs.length + ys.length := List.length_append
              have e : us.getD (m - 1) 0 = C := by
                rw [← HC.out, HE.out, joined_at (by omega) (hPA.out.trans h1) (hPB.out.trans h2) (by omega), hl]
                congr 1; omega
              rw [hW.cell (by exact GJ), CJ.out _ (by omega), e]
            have CJ2 : Hid (PA = false → PB = false → ∀ W, Below wr.heap.size wr W → xs.length + ys.length ≤ m → 0 < xs.length + ys.length → W.cell? ⟨w.heap.size, xs.length + ys.length - 1, none⟩ = some (.int .i64 C)) := by
              intro h1 h2 W hW h3 h4
              have hl : (xs ++ ys).length = xs.length + ys.length := List.length_append
              have e : us.getD (xs.length + ys.length - 1) 0 = C := by
                rw [← HC.out, HE.out, joined_at (by omega) (hPA.out.trans h1) (hPB.out.trans h2) (by omega), hl]
                congr 1; omega
              rw [hW.cell (by exact GJ), CJ.out _ (by omega), e]
            have HCl : Hid (((m : Int) ≤ xs.length ∨ perm xs xs.length = true ∨ ys.length = 0) → cool xs (m : Int) = C) := by
              intro h
              rw [← HC.out, HE.out]
              exact (joined_left h).symm
            have HCr : Hid (PA = false → 0 < ys.length → (xs.length : Int) < m → cool ys ((m : Int) - xs.length) = C) := by
              intro h1 h3 h2
              rw [← HC.out, HE.out]
              exact (joined_right h2 (hPA.out.trans h1) h3).symm
            clear CJ HC HE HL RJ
            by_cases hlb : 0 < ys.length
            · have hzb : ((ys.length : Int) == 0) = false := by apply beq_eq_false_iff_ne.2; omega
              cases PA with
              | true =>
                have HCa : Hid (cool xs (m : Int) = C) := HCl.out (Or.inr (Or.inl hPA.out))
                clear HCl HCr CJ1 CJ2
                go_wp2_with (first
                  | (go_at_call_of 9 a0; refine (perm_call wr a0 cap0 xs _ _ _ rfl (by omega) hPA.out RA.out _ (by assumption)).mono ?_; rintro e w' ⟨rfl, rfl⟩)
                  | (go_at_call_of 6 a0; refine (at_call wr a0 cap0 xs _ _ C rfl (by omega) HCa.out RA.out nA.out _ (by assumption)).mono ?_; rintro e W3 ⟨rfl, b3⟩))
                all_goals
                  go_ret
                  exact ⟨rfl, hbw.trans (Below.mono (by assumption) hbw.size)⟩
              | false =>
                have HCa : Hid ((m : Int) ≤ xs.length → cool xs (m : Int) = C) := fun h => HCl.out (Or.inl h)
                have HCb : Hid ((xs.length : Int) < m → cool ys ((m : Int) - xs.length) = C) := HCr.out rfl hlb
                clear HCl HCr
                cases PB with
                | true =>
                  clear CJ1 CJ2
                  go_wp2_with (first
                    | (go_at_call_of 9 a0; refine (perm_call wr a0 cap0 xs _ _ _ rfl (by omega) hPA.out RA.out _ (by assumption)).mono ?_; rintro e w' ⟨rfl, rfl⟩)
                    | (go_at_call_of 9 a1; refine (perm_call wr a1 cap1 ys _ _ _ rfl (by omega) hPB.out RB.out _ (by assumption)).mono ?_; rintro e w' ⟨rfl, rfl⟩)
                    | (go_at_call_of 6 a0; refine (at_call wr a0 cap0 xs _ _ C rfl (by omega) (HCa.out (by omega)) RA.out nA.out _ (by assumption)).mono ?_; rintro e W3 ⟨rfl, b3⟩)
                    | (go_at_call_of 6 a1; refine (at_call wr a1 cap1 ys _ _ C rfl (by omega) (HCb.out (by omega)) RB.out nB.out _ (by assumption)).mono ?_; rintro e W3 ⟨rfl, b3⟩))
                  all_goals
                    go_ret
                    exact ⟨rfl, hbw.trans (Below.mono (by assumption) hbw.size)⟩
                | false =>
                  by_cases hmn : m < xs.length + ys.length
                  · have KJ := hide (fun W hW => CJ1.out rfl rfl W hW hmn)
                    clear CJ1 CJ2
                    go_wp2_with (first
                      | (go_at_call_of 9 a0; refine (perm_call wr a0 cap0 xs _ _ _ rfl (by omega) hPA.out RA.out _ (by assumption)).mono ?_; rintro e w' ⟨rfl, rfl⟩)
                      | (go_at_call_of 9 a1; refine (perm_call wr a1 cap1 ys _ _ _ rfl (by omega) hPB.out RB.out _ (by assumption)).mono ?_; rintro e w' ⟨rfl, rfl⟩)
                      | (go_at_call_of 6 a0; refine (at_call wr a0 cap0 xs _ _ C rfl (by omega) (HCa.out (by omega)) RA.out nA.out _ (by assumption)).mono ?_; rintro e W3 ⟨rfl, b3⟩; have hc1 := KJ.out W3 b3)
                      | (go_at_call_of 6 a1; refine (at_call wr a1 cap1 ys _ _ C rfl (by omega) (HCb.out (by omega)) RB.out nB.out _ (by assumption)).mono ?_; rintro e W3 ⟨rfl, b3⟩; have hc1 := KJ.out W3 b3))
                    all_goals
                      go_ret
                      exact ⟨rfl, hbw.trans (Below.mono (by assumption) hbw.size)⟩
                  · have KJ := hide (fun W hW => CJ2.out rfl rfl W hW (by omega) (by omega))
                    clear CJ1 CJ2
                    go_wp2_with (first
                      | (go_at_call_of 9 a0; refine (perm_call wr a0 cap0 xs _ _ _ rfl (by omega) hPA.out RA.out _ (by assumption)).mono ?_; rintro e w' ⟨rfl, rfl⟩)
                      | (go_at_call_of 9 a1; refine (perm_call wr a1 cap1 ys _ _ _ rfl (by omega) hPB.out RB.out _ (by assumption)).mono ?_; rintro e w' ⟨rfl, rfl⟩)
                      | (go_at_call_of 6 a0; refine (at_call wr a0 cap0 xs _ _ C rfl (by omega) (HCa.out (by omega)) RA.out nA.out _ (by assumption)).mono ?_; rintro e W3 ⟨rfl, b3⟩; have hc1 := KJ.out W3 b3)
                      | (go_at_call_of 6 a1; refine (at_call wr a1 cap1 ys _ _ C rfl (by omega) (HCb.out (by omega)) RB.out nB.out _ (by assumption)).mono ?_; rintro e W3 ⟨rfl, b3⟩; have hc1 := KJ.out W3 b3))
                    all_goals
                      go_ret
                      exact ⟨rfl, hbw.trans (Below.mono (by assumption) hbw.size)⟩
            · have hzb : ((ys.length : Int) == 0) = true := by rw [beq_iff_eq]; omega
              cases PA with
              | true =>
                have HCa : Hid (cool xs (m : Int) = C) := HCl.out (Or.inr (Or.inl hPA.out))
                clear HCl HCr CJ1 CJ2
                go_wp2_with (first
                  | (go_at_call_of 9 a0; refine (perm_call wr a0 cap0 xs _ _ _ rfl (by omega) hPA.out RA.out _ (by assumption)).mono ?_; rintro e w' ⟨rfl, rfl⟩)
                  | (go_at_call_of 6 a0; refine (at_call wr a0 cap0 xs _ _ C rfl (by omega) HCa.out RA.out nA.out _ (by assumption)).mono ?_; rintro e W3 ⟨rfl, b3⟩))
                all_goals
                  go_ret
                  exact ⟨rfl, hbw.trans (Below.mono (by assumption) hbw.size)⟩
              | false =>
                have HCa : Hid (cool xs (m : Int) = C) := HCl.out (Or.inr (Or.inr (by omega)))
                clear HCl HCr
                cases PB with
                | true =>
                  clear CJ1 CJ2
                  go_wp2_with (first
                    | (go_at_call_of 9 a0; refine (perm_call wr a0 cap0 xs _ _ _ rfl (by omega) hPA.out RA.out _ (by assumption)).mono ?_; rintro e w' ⟨rfl, rfl⟩)
                    | (go_at_call_of 9 a1; refine (perm_call wr a1 cap1 ys _ _ _ rfl (by omega) hPB.out RB.out _ (by assumption)).mono ?_; rintro e w' ⟨rfl, rfl⟩)
                    | (go_at_call_of 6 a0; refine (at_call wr a0 cap0 xs _ _ C rfl (by omega) HCa.out RA.out nA.out _ (by assumption)).mono ?_; rintro e W3 ⟨rfl, b3⟩))
                  all_goals
                    go_ret
                    exact ⟨rfl, hbw.trans (Below.mono (by assumption) hbw.size)⟩
                | false =>
                  by_cases hmn : m < xs.length + ys.length
                  · have KJ := hide (fun W hW => CJ1.out rfl rfl W hW hmn)
                    clear CJ1 CJ2
                    go_wp2_with (first
                      | (go_at_call_of 9 a0; refine (perm_call wr a0 cap0 xs _ _ _ rfl (by omega) hPA.out RA.out _ (by assumption)).mono ?_; rintro e w' ⟨rfl, rfl⟩)
                      | (go_at_call_of 9 a1; refine (perm_call wr a1 cap1 ys _ _ _ rfl (by omega) hPB.out RB.out _ (by assumption)).mono ?_; rintro e w' ⟨rfl, rfl⟩)
                      | (go_at_call_of 6 a0; refine (at_call wr a0 cap0 xs _ _ C rfl (by omega) HCa.out RA.out nA.out _ (by assumption)).mono ?_; rintro e W3 ⟨rfl, b3⟩; have hc1 := KJ.out W3 b3))
                    all_goals
                      go_ret
                      exact ⟨rfl, hbw.trans (Below.mono (by assumption) hbw.size)⟩
                  · by_cases hn0 : 0 < xs.length + ys.length
                    · have KJ := hide (fun W hW => CJ2.out rfl rfl W hW (by omega) hn0)
                      clear CJ1 CJ2
                      go_wp2_with (first
                        | (go_at_call_of 9 a0; refine (perm_call wr a0 cap0 xs _ _ _ rfl (by omega) hPA.out RA.out _ (by assumption)).mono ?_; rintro e w' ⟨rfl, rfl⟩)
                        | (go_at_call_of 9 a1; refine (perm_call wr a1 cap1 ys _ _ _ rfl (by omega) hPB.out RB.out _ (by assumption)).mono ?_; rintro e w' ⟨rfl, rfl⟩)
                        | (go_at_call_of 6 a0; refine (at_call wr a0 cap0 xs _ _ C rfl (by omega) HCa.out RA.out nA.out _ (by assumption)).mono ?_; rintro e W3 ⟨rfl, b3⟩; have hc1 := KJ.out W3 b3))
                      all_goals
                        go_ret
                        exact ⟨rfl, hbw.trans (Below.mono (by assumption) hbw.size)⟩
                    · clear CJ1 CJ2
                      go_wp2_with (first
                        | (go_at_call_of 9 a0; refine (perm_call wr a0 cap0 xs _ _ _ rfl (by omega) hPA.out RA.out _ (by assumption)).mono ?_; rintro e w' ⟨rfl, rfl⟩)
                        | (go_at_call_of 9 a1; refine (perm_call wr a1 cap1 ys _ _ _ rfl (by omega) hPB.out RB.out _ (by assumption)).mono ?_; rintro e w' ⟨rfl, rfl⟩)
                        | (go_at_call_of 6 a0; refine (at_call wr a0 cap0 xs _ _ C rfl (by omega) HCa.out RA.out nA.out _ (by assumption)).mono ?_; rintro e W3 ⟨rfl, b3⟩))
                      all_goals
                        go_ret
                        exact ⟨rfl, hbw.trans (Below.mono (by assumption) hbw.size)⟩

set_option maxHeartbeats 1000000 in
theorem joined_walk (a0 : Option Addr) (cap0 : Nat) (xs : List Int) (a1 : Option Addr) (cap1 : Nat) (ys : List Int) (level : Int) (w : World) (hlev : level ≤ 9223372036854775807)
    (hA : Hid (Rung w a0 xs)) (hB : Hid (Rung w a1 ys)) (nA : Hid (a0 = none → xs = [])) (nB : Hid (a1 = none → ys = [])) :
    Calls Try.prog 4 #[.slice a0 xs.length cap0, .slice a1 ys.length cap1, .int .i64 level] w fun e w' => e = .returned (.bool true) ∧ Below w.heap.size w w' := by
  by_cases hx : xs.length ≤ 65536
  · by_cases hy : ys.length ≤ 65536
    · exact joined_core a0 cap0 xs a1 cap1 ys level w hlev hx hy hA hB nA nB
    · go_enter Try.func4, Try.ntmps4
      go_wp2_with fail
      refine (bytes8_any _ _ _ _ _ _ _ _).mono ?_
      rintro e w' ⟨b, rfl, rfl⟩
      cases b
      all_goals
        go_wp2
        go_ret
        exact ⟨rfl, Below.refl _ _⟩
  · go_enter Try.func4, Try.ntmps4
    go_wp2_with fail
    refine (bytes8_any _ _ _ _ _ _ _ _).mono ?_
    rintro e w' ⟨b, rfl, rfl⟩
    cases b
    all_goals
      go_wp2
      go_ret
      exact ⟨rfl, Below.refl _ _⟩
end Go.Proofs.Qxb6632587a
