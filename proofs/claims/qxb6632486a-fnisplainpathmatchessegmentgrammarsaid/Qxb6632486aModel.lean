/-
  zzPlainPathModel walked: it answers 'plain' of its argument's bytes.
-/
import Derived.Test.Qxb6632486aSeg
namespace Go.Proofs.Qxb6632486a
open Go.RowKit

theorem data_at (s : ByteArray) (j : Nat) (h : j < s.data.toList.length) : s.data.toList[j] = s[j]'(by rw [Lib.size_eq]; exact h) := by
  have := Lib.data_getElem? s j (by rw [Lib.size_eq]; exact h)
  rw [List.getElem?_eq_getElem h] at this
  exact Option.some.inj this
theorem seg_all {s : ByteArray} {a b : Nat} (h : segOk (s.extract a b) = true) : ∀ j (hj : j < s.size), a ≤ j → j < b → unres s[j] = true := by
  intro j hj h1 h2
  unfold segOk at h
  rw [Lib.extract_data] at h
  have hj2 : j < s.data.toList.length := by rw [← Lib.size_eq]; exact hj
  refine List.all_eq_true.1 h _ ?_
  rw [← data_at s j hj2]
  have hl : j - a < ((s.data.toList.drop a).take (b - a)).length := by simp only [List.length_take, List.length_drop]; omega
  have e : ((s.data.toList.drop a).take (b - a))[j - a]'hl = s.data.toList[j] := by
    rw [List.getElem_take, List.getElem_drop]
    congr 1; omega
  rw [← e]
  exact List.getElem_mem hl
theorem seg_none {s : ByteArray} {a b : Nat} (h : segOk (s.extract a b) = false) : ∃ j, ∃ hj : j < s.size, a ≤ j ∧ j < b ∧ unres s[j] = false := by
  unfold segOk at h
  rw [Lib.extract_data] at h
  obtain ⟨x, hx, hu⟩ := List.all_eq_false.1 h
  obtain ⟨i, hi, e⟩ := List.mem_iff_getElem.1 hx
  have hi2 := hi
  simp only [List.length_take, List.length_drop] at hi2
  have hj2 : a + i < s.data.toList.length := by omega
  refine ⟨a + i, by rw [Lib.size_eq]; exact hj2, by omega, by omega, ?_⟩
  rw [← data_at s (a + i) hj2]
  rw [List.getElem_take, List.getElem_drop] at e
  rw [e]
  simpa using hu
theorem plain_of {s : ByteArray} (h0 : slashed s.data.toList = true) (h : ∀ j (hj : j < s.size), ok s[j] = true) : true = plain s.data.toList := by
  have : s.data.toList.all ok = true := by
    apply List.all_eq_true.2
    intro x hx
    obtain ⟨i, hi, e⟩ := List.mem_iff_getElem.1 hx
    rw [← e, data_at s i hi]
    exact h i _
  simp only [plain, h0, this, Bool.and_true]
theorem slashed_at {s : ByteArray} (h : 0 < s.size) : slashed s.data.toList = decide (s[0].toNat = 47) := by
  obtain ⟨t, ht⟩ := data_cons s h
  rw [ht]; rfl
theorem bad_seg {s : ByteArray} {a b : Nat} (h : segOk (s.extract a b) = false) (hn : ∀ j (hj : j < s.size), a ≤ j → j < b → s[j].toNat ≠ 47) : false = plain s.data.toList := by
  obtain ⟨j, hj, h1, h2, hu⟩ := seg_none h
  refine not_plain hj ?_
  have := hn j hj h1 h2
  simp [ok, this, hu]
theorem good_seg {s : ByteArray} {a b : Nat} (h : segOk (s.extract a b) = true) (ha : ∀ j (hj : j < s.size), j < a → ok s[j] = true) (hb : ∀ hb : b < s.size, s[b].toNat = 47) : ∀ j (hj : j < s.size), j < b + 1 → ok s[j] = true := by
  intro j hj h1
  by_cases c1 : j < a
  · exact ha j hj c1
  · by_cases c2 : j < b
    · exact ok_of_unres (seg_all h j hj (by omega) c2)
    · have e : j = b := by omega
      subst e
      exact ok_of_slash (hb hj)

theorem seg_call (s : ByteArray) (b : Bool) (hb : segOk s = b) (w : World) (hs : s.size ≤ 2000000) :
    Calls Try.prog 10 #[.string s] w fun e w' => e = .returned (.bool b) ∧ w = w' := by
  subst hb
  exact seg_walk s w hs
theorem cut_size' (s : ByteArray) (a b : Nat) : (s.extract a b).size ≤ s.size := by
  rw [Lib.size_eq, Lib.extract_data, Lib.size_eq s]; simp; omega

set_option maxHeartbeats 2000000 in
set_option maxRecDepth 100000 in
theorem model_walk (s : ByteArray) (w : World) (hs : s.size ≤ 1048576) :
    Calls Try.prog 7 #[.string s] w fun e w' => e = .returned (.bool (plain s.data.toList)) ∧ w = w' := by
  by_cases h0 : 0 < s.size
  · have hz : ((s.size : Int) == 0) = false := by apply beq_eq_false_iff_ne.2; omega
    by_cases hsl : s[0].toNat = 47
    · have hb0 : ((s[0].toNat : Int) != 47) = false := by rw [hsl]; rfl
      have HS : Hid (slashed s.data.toList = true) := by show _ = _; rw [slashed_at h0]; exact decide_eq_true hsl
      have H0 : Hid (s[0].toNat = 47) := hsl
      clear hsl
      go_enter Try.func7, Try.ntmps7
      go_wp2
      go_loop [3] (fun st => ∃ a : Nat, 1 ≤ a ∧ a ≤ s.size + 1 ∧ st = .int .i64 a ∧ Hid (∀ j (hj : j < s.size), j < a → ok s[j] = true)) (fun st => s.size + 1 - (intOf st).toNat)
      case atStart => exact ⟨1, by omega, by omega, rfl, fun j hj h => by have e : j = 0 := (by omega); subst e; exact ok_of_slash H0.out⟩
      case round =>
        obtain ⟨a, ha1, ha2, rfl, hall⟩ := hrel
        by_cases hla : a ≤ s.size
        · go_wp2_with fail
          go_loop [4] (fun en => ∃ b : Nat, a ≤ b ∧ b ≤ s.size ∧ en = .int .i64 b ∧ Hid (∀ j (hj : j < s.size), a ≤ j → j < b → s[j].toNat ≠ 47)) (fun en => s.size - (intOf en).toNat)
          case atStart => exact ⟨a, Nat.le_refl _, hla, rfl, fun j _ h1 h2 => absurd h2 (by omega)⟩
          case round =>
            obtain ⟨b, hb1, hb2, rfl, hno⟩ := hrel
            by_cases hlb : b < s.size
            · by_cases h47 : s[b].toNat = 47
              · have hb47 : ((s[b].toNat : Int) != 47) = false := by rw [h47]; rfl
                have HB : Hid (∀ hb : b < s.size, s[b].toNat = 47) := fun _ => h47
                clear h47
                go_wp2_with fail
                have hcs := cut_size' s a b
                by_cases hsg : segOk (s.extract a b) = true
                · refine (seg_call (s.extract a b) true hsg _ (by omega)).mono ?_
                  rintro e w' ⟨rfl, rfl⟩
                  have HG : Hid (segOk (s.extract a b) = true) := hsg
                  clear hsg hcs
                  go_wp2
                  go_round
                  case rel => exact ⟨b + 1, by omega, by omega, by go_num, good_seg HG.out hall.out HB.out⟩
                  case measure => simp [intOf]; omega
                · refine (seg_call (s.extract a b) false (by simpa using hsg) _ (by omega)).mono ?_
                  rintro e w' ⟨rfl, rfl⟩
                  have HG : Hid (segOk (s.extract a b) = false) := by show _ = _; simpa using hsg
                  clear hsg hcs
                  go_wp2
                  go_ret
                  exact ⟨ret_bool (bad_seg HG.out hno.out), rfl⟩
              · have hb47 : ((s[b].toNat : Int) != 47) = true := by rw [bne_iff_ne]; omega
                have HB : Hid (s[b].toNat ≠ 47) := h47
                clear h47
                go_wp2
                go_round
                case rel =>
                  refine ⟨b + 1, by omega, by omega, by go_num, fun j hj h1 h2 => ?_⟩
                  by_cases e : j = b
                  · subst e; exact HB.out
                  · exact hno.out j hj h1 (by omega)
                case measure => simp [intOf]; omega
            · have HB : Hid (∀ hb : b < s.size, s[b].toNat = 47) := fun hb => absurd hb hlb
              go_wp2_with fail
              have hcs := cut_size' s a b
              by_cases hsg : segOk (s.extract a b) = true
              · refine (seg_call (s.extract a b) true hsg _ (by omega)).mono ?_
                rintro e w' ⟨rfl, rfl⟩
                have HG : Hid (segOk (s.extract a b) = true) := hsg
                clear hsg hcs
                go_wp2
                go_round
                case rel => exact ⟨b + 1, by omega, by omega, by go_num, good_seg HG.out hall.out HB.out⟩
                case measure => simp [intOf]; omega
              · refine (seg_call (s.extract a b) false (by simpa using hsg) _ (by omega)).mono ?_
                rintro e w' ⟨rfl, rfl⟩
                have HG : Hid (segOk (s.extract a b) = false) := by show _ = _; simpa using hsg
                clear hsg hcs
                go_wp2
                go_ret
                exact ⟨ret_bool (bad_seg HG.out hno.out), rfl⟩
        · go_wp2
          go_ret
          exact ⟨ret_bool (plain_of HS.out (fun j hj => hall.out j hj (by omega))), rfl⟩
    · have hb0 : ((s[0].toNat : Int) != 47) = true := by rw [bne_iff_ne]; omega
      have e : plain s.data.toList = false := by simp [plain, slashed_at h0, hsl]
      rw [e]
      clear e hsl
      go_enter Try.func7, Try.ntmps7
      go_wp2
      go_ret
      exact ⟨rfl, rfl⟩
  · have hz : ((s.size : Int) == 0) = true := by rw [beq_iff_eq]; omega
    have e0 : s.data.toList = [] := by
      apply List.eq_nil_of_length_eq_zero; rw [← Lib.size_eq]; omega
    have e : plain s.data.toList = false := by rw [e0]; rfl
    rw [e]
    clear e e0
    go_enter Try.func7, Try.ntmps7
    go_wp2
    go_ret
    exact ⟨rfl, rfl⟩
end Go.Proofs.Qxb6632486a
