/-
  The small functions of the decoder: zzLiteralB1, zzUpperHexB1, the bound on the length.
-/
import Derived.Test.Qxb6632347aEnc
namespace Go.Proofs.Qxb6632347a
open Go.RowKit

theorem ret_bool {a b : Bool} (h : a = b) : Ending.returned (.bool a) = .returned (.bool b) := by rw [h]
theorem ret_int {k : IntKind} {a b : Int} (h : a = b) : Ending.returned (.int k a) = .returned (.int k b) := by rw [h]

theorem bytes5_yes (s : ByteArray) (es : Bool) (w : World) (h : s.size ≤ 1048576) :
    Calls Try.prog 5 #[.string s, .bool es] w fun e w' => e = .returned (.bool true) ∧ w = w' := by
  go_enter Try.func5, Try.ntmps5
  go_wp2
  go_ret
  exact ⟨rfl, rfl⟩
theorem bytes5_no (s : ByteArray) (es : Bool) (w : World) (h : ¬ s.size ≤ 1048576) :
    Calls Try.prog 5 #[.string s, .bool es] w fun e w' => e = .returned (.bool false) ∧ w = w' := by
  go_enter Try.func5, Try.ntmps5
  go_wp2
  go_ret
  exact ⟨rfl, rfl⟩

theorem lit_T {es : Bool} {c : UInt8} (h : (65 ≤ (c.toNat : Int) ∧ (c.toNat : Int) ≤ 90) ∨ (97 ≤ (c.toNat : Int) ∧ (c.toNat : Int) ≤ 122) ∨ (48 ≤ (c.toNat : Int) ∧ (c.toNat : Int) ≤ 57) ∨ (c.toNat : Int) = 45 ∨ (c.toNat : Int) = 46 ∨ (c.toNat : Int) = 95 ∨ (c.toNat : Int) = 126) :
    true = lit es c := by
  rcases h with h | h | h | h | h | h | h
  · exact (lit_upper h.1 h.2).symm
  · exact (lit_lower h.1 h.2).symm
  · exact (lit_digit h.1 h.2).symm
  · exact (lit_45 (by simp [h])).symm
  · exact (lit_46 (by simp [h])).symm
  · exact (lit_95 (by simp [h])).symm
  · exact (lit_126 (by simp [h])).symm
theorem lit_F {es : Bool} {c : UInt8} (h : ¬ (65 ≤ (c.toNat : Int) ∧ (c.toNat : Int) ≤ 90) ∧ ¬ (97 ≤ (c.toNat : Int) ∧ (c.toNat : Int) ≤ 122) ∧ ¬ (48 ≤ (c.toNat : Int) ∧ (c.toNat : Int) ≤ 57) ∧ ¬ (c.toNat : Int) = 45 ∧ ¬ (c.toNat : Int) = 46 ∧ ¬ (c.toNat : Int) = 95 ∧ ¬ (c.toNat : Int) = 126 ∧ ¬ (c.toNat : Int) = 47) :
    false = lit es c := by
  obtain ⟨h1, h2, h3, h4, h5, h6, h7, h8⟩ := h
  exact (lit_no h1 h2 h3 (beq_eq_false_iff_ne.2 h4) (beq_eq_false_iff_ne.2 h5) (beq_eq_false_iff_ne.2 h6) (beq_eq_false_iff_ne.2 h7) (Or.inl h8)).symm
theorem lit_S {es : Bool} {c : UInt8} (h : (c.toNat : Int) = 47) : (!es) = lit es c := by
  cases es
  · exact (lit_47 h rfl).symm
  · refine (lit_no (by omega) (by omega) (by omega) ?_ ?_ ?_ ?_ (Or.inr rfl)).symm <;> (apply beq_eq_false_iff_ne.2; omega)

set_option maxHeartbeats 1000000 in
theorem lit_call (c : UInt8) (es : Bool) (w : World) :
    Calls Try.prog 7 #[.int .u8 (c.toNat : Int), .bool es] w fun e w' => e = .returned (.bool (lit es c)) ∧ w = w' := by
  have ht : c.toNat < 256 := c.toNat_lt
  go_enter Try.func7, Try.ntmps7
  go_wp2
  all_goals
    go_ret
    refine ⟨ret_bool ?_, rfl⟩
    try simp only [beq_iff_eq, beq_eq_false_iff_ne, ne_eq] at *
    first | exact lit_T (by omega) | exact lit_F (by omega) | exact lit_S (by omega)

set_option maxHeartbeats 1000000 in
theorem hex_call (v : Nat) (hv : v < 16) (n : Int) (hn : Hid (n = (hx v).toNat)) (w : World) :
    Calls Try.prog 8 #[.int .u8 n] w fun e w' => e = .returned (.int .i64 v) ∧ w = w' := by
  rcases hx_val v hv with ⟨h1, h2⟩ | ⟨h1, h2⟩
  · have b1 : 48 ≤ n := by have := hn.out; omega
    have b2 : n ≤ 57 := by have := hn.out; omega
    have HV : Hid (n = 48 + v) := by show _ = _; have := hn.out; omega
    clear h1 h2 hn hv
    go_enter Try.func8, Try.ntmps8
    go_wp2
    go_ret
    exact ⟨ret_int (by have := HV.out; omega), rfl⟩
  · have b1 : 65 ≤ n := by have := hn.out; omega
    have b2 : n ≤ 70 := by have := hn.out; omega
    have HV : Hid (n = 55 + v) := by show _ = _; have := hn.out; omega
    clear h1 h2 hn hv
    go_enter Try.func8, Try.ntmps8
    go_wp2
    go_ret
    exact ⟨ret_int (by have := HV.out; omega), rfl⟩
end Go.Proofs.Qxb6632347a
