/-
  IsPlainPath walked once: it answers 'plain' of its argument's bytes; the world stands.
-/
import Derived.Test.Qxb6632486aRows
import Derived.Test.Qxb6632486aPlain
import Derived.WalkKit
import Derived.WalkSpells
import Derived.Lib.Strings
import Derived.Lib.IndexBytes
namespace Go.Proofs.Qxb6632486a
open Go.RowKit

theorem ret_bool {a b : Bool} (h : a = b) : Ending.returned (.bool a) = .returned (.bool b) := by rw [h]
theorem take_snoc (s : ByteArray) (k : Nat) (h : k < s.size) : s.data.toList.take (k + 1) = s.data.toList.take k ++ [s[k]] := by
  rw [List.take_succ_eq_append_getElem (by simpa using h)]; rfl
theorem data_cons (s : ByteArray) (h : 0 < s.size) : ∃ t, s.data.toList = s[0] :: t := by
  rw [Lib.size_eq] at h
  match e : s.data.toList, h with
  | c :: t, _ =>
    refine ⟨t, ?_⟩
    have h2 : s.data.toList[0]? = some c := by rw [e]; rfl
    have h3 := Lib.data_getElem? s 0 (by rw [Lib.size_eq, e]; simp)
    rw [h3] at h2
    rw [Option.some.inj h2]

theorem head_slash (s : ByteArray) (h : 0 < s.size) : ((s.extract 0 1).toList == [47]) = slashed s.data.toList := by
  obtain ⟨t, ht⟩ := data_cons s h
  rw [Lib.extract_toList, ht]
  by_cases e : s[0] = 47
  · simp [slashed, e]
  · have e2 : ¬ s[0].toNat = 47 := fun x => e (UInt8.toNat_inj.1 (by simpa using x))
    simp [slashed, e, e2]

set_option maxHeartbeats 1000000 in
theorem prefix_any (s : ByteArray) (w : World) (hs : s.size ≤ maxLen) :
    Calls Try.prog 9 #[.string s, .string ⟨#[47]⟩] w fun e w' => e = .returned (.bool (slashed s.data.toList)) ∧ w = w' := by
  unfold maxLen at hs
  by_cases h0 : 0 < s.size
  · go_enter Try.func9, Try.ntmps9
    go_wp2
    go_ret
    exact ⟨ret_bool (head_slash s h0), rfl⟩
  · have e : s.data.toList = [] := by
      apply List.eq_nil_of_length_eq_zero; rw [← Lib.size_eq]; omega
    rw [e]
    go_enter Try.func9, Try.ntmps9
    go_wp2
    go_ret
    exact ⟨rfl, rfl⟩

/-- One byte more, that is let. -/
theorem all_more {s : ByteArray} {k : Nat} (h : k < s.size) (h1 : (s.data.toList.take k).all ok = true) (h2 : ok s[k] = true) : (s.data.toList.take (k + 1)).all ok = true := by
  rw [take_snoc s k h, List.all_append, h1]; simp [h2]
/-- A byte that is not let. -/
theorem not_plain {s : ByteArray} {k : Nat} (h : k < s.size) (h2 : ok s[k] = false) : false = plain s.data.toList := by
  have : s.data.toList.all ok = false := by
    apply List.all_eq_false.2
    exact ⟨s[k], List.getElem_mem (l := s.data.toList) (by simpa using h), by simp [h2]⟩
  simp [plain, this]

theorem ok_T {c : UInt8} (h : (65 ≤ (c.toNat : Int) ∧ (c.toNat : Int) ≤ 90) ∨ (97 ≤ (c.toNat : Int) ∧ (c.toNat : Int) ≤ 122) ∨ (48 ≤ (c.toNat : Int) ∧ (c.toNat : Int) ≤ 57) ∨ (c.toNat : Int) = 47 ∨ (c.toNat : Int) = 45 ∨ (c.toNat : Int) = 46 ∨ (c.toNat : Int) = 95 ∨ (c.toNat : Int) = 126) : ok c = true := by
  simp only [ok, unres, Bool.or_eq_true, decide_eq_true_eq]; omega
theorem ok_F {c : UInt8} (h : ¬ (65 ≤ (c.toNat : Int) ∧ (c.toNat : Int) ≤ 90) ∧ ¬ (97 ≤ (c.toNat : Int) ∧ (c.toNat : Int) ≤ 122) ∧ ¬ (48 ≤ (c.toNat : Int) ∧ (c.toNat : Int) ≤ 57) ∧ ¬ (c.toNat : Int) = 47 ∧ ¬ (c.toNat : Int) = 45 ∧ ¬ (c.toNat : Int) = 46 ∧ ¬ (c.toNat : Int) = 95 ∧ ¬ (c.toNat : Int) = 126) : ok c = false := by
  simp only [ok, unres, Bool.or_eq_false_iff, decide_eq_false_iff_not]; omega
theorem bT {a b : Int} (h : (a == b) = true) : a = b := by simpa using h
theorem bF {a b : Int} (h : (a == b) = false) : ¬ a = b := by simpa using h

set_option maxHeartbeats 2000000 in
theorem plain_walk (s : ByteArray) (w : World) (hs : s.size ≤ maxLen) :
    Calls Try.prog 6 #[.string s] w fun e w' => e = .returned (.bool (plain s.data.toList)) ∧ w = w' := by
  have hs2 := hs
  unfold maxLen at hs2
  by_cases hsl : slashed s.data.toList = true
  · have HS : Hid (slashed s.data.toList = true) := hsl
    go_enter Try.func6, Try.ntmps6
    go_wp2_with (go_at_call 9; refine (prefix_any s _ hs).mono ?_; rintro e w' ⟨rfl, rfl⟩)
    clear hsl
    go_loop [10] (fun i => ∃ k : Nat, k ≤ s.size ∧ i = .int .i64 k ∧ Hid ((s.data.toList.take k).all ok = true)) (fun i => s.size - (intOf i).toNat)
    case atStart => exact ⟨0, Nat.zero_le _, rfl, rfl⟩
    case round =>
      obtain ⟨k, hk, rfl, hall⟩ := hrel
      by_cases hlt : k < s.size
      · have ht : s[k].toNat < 256 := s[k].toNat_lt
        go_wp2
        all_goals first
          | (have hok : ok s[k] = true := (by first | exact ok_T (by omega) | exact ok_T (by have := bT ‹((s[k].toNat : Int) == 47) = true›; omega) | exact ok_T (by have := bT ‹((s[k].toNat : Int) == 45) = true›; omega) | exact ok_T (by have := bT ‹((s[k].toNat : Int) == 46) = true›; omega) | exact ok_T (by have := bT ‹((s[k].toNat : Int) == 95) = true›; omega) | exact ok_T (by have := bT ‹((s[k].toNat : Int) == 126) = true›; omega))
             go_round
             case rel => exact ⟨k + 1, by omega, by go_num, all_more hlt hall.out hok⟩
             case measure => simp [intOf]; omega)
          | (have hok : ok s[k] = false := ok_F (by have := bF ‹((s[k].toNat : Int) == 47) = false›; have := bF ‹((s[k].toNat : Int) == 45) = false›; have := bF ‹((s[k].toNat : Int) == 46) = false›; have := bF ‹((s[k].toNat : Int) == 95) = false›; have := bF ‹((s[k].toNat : Int) == 126) = false›; omega)
             go_ret
             exact ⟨ret_bool (not_plain hlt hok), rfl⟩)
      · go_wp2
        go_ret
        have e : (s.data.toList.take k) = s.data.toList := List.take_of_length_le (by simp; omega)
        refine ⟨ret_bool ?_, rfl⟩
        have h2 := hall.out
        rw [e] at h2
        simp [plain, HS.out, h2]
  · have hsl2 : slashed s.data.toList = false := by simpa using hsl
    have e : plain s.data.toList = false := by simp [plain, hsl2]
    rw [e]
    clear hsl e
    go_enter Try.func6, Try.ntmps6
    go_wp2_with (go_at_call 9; refine (prefix_any s _ hs).mono ?_; rintro e w' ⟨rfl, rfl⟩)
    go_ret
    exact ⟨rfl, rfl⟩
end Go.Proofs.Qxb6632486a
