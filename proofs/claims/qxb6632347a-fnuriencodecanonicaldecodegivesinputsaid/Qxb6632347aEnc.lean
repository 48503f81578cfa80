/-
  URIEncode walked once: it hands back the percent encoding of its argument; nothing that was there turns.
-/
import Derived.Test.Qxb6632347aRows
import Derived.Test.Qxb6632347aShelf
import Derived.Test.Qxb6632347aPlain
import Derived.WalkKit
import Derived.BigCall
namespace Go.Proofs.Qxb6632347a
open Go.RowKit

theorem take_snoc (s : ByteArray) (k : Nat) (h : k < s.size) : s.data.toList.take (k + 1) = s.data.toList.take k ++ [s[k]] := by
  rw [List.take_succ_eq_append_getElem (by simpa using h)]; rfl

theorem lit_upper {es : Bool} {c : UInt8} (h1 : 65 ≤ (c.toNat : Int)) (h2 : (c.toNat : Int) ≤ 90) : lit es c = true := by
  have : decide (65 ≤ c.toNat ∧ c.toNat ≤ 90) = true := decide_eq_true (by omega)
  simp [lit, this]
theorem lit_lower {es : Bool} {c : UInt8} (h1 : 97 ≤ (c.toNat : Int)) (h2 : (c.toNat : Int) ≤ 122) : lit es c = true := by
  have : decide (97 ≤ c.toNat ∧ c.toNat ≤ 122) = true := decide_eq_true (by omega)
  simp [lit, this]
theorem lit_digit {es : Bool} {c : UInt8} (h1 : 48 ≤ (c.toNat : Int)) (h2 : (c.toNat : Int) ≤ 57) : lit es c = true := by
  have : decide (48 ≤ c.toNat ∧ c.toNat ≤ 57) = true := decide_eq_true (by omega)
  simp [lit, this]
theorem lit_45 {es : Bool} {c : UInt8} (h : ((c.toNat : Int) == 45) = true) : lit es c = true := by
  have : c.toNat = 45 := by have := beq_iff_eq.1 h; omega
  simp [lit, this]
theorem lit_46 {es : Bool} {c : UInt8} (h : ((c.toNat : Int) == 46) = true) : lit es c = true := by
  have : c.toNat = 46 := by have := beq_iff_eq.1 h; omega
  simp [lit, this]
theorem lit_95 {es : Bool} {c : UInt8} (h : ((c.toNat : Int) == 95) = true) : lit es c = true := by
  have : c.toNat = 95 := by have := beq_iff_eq.1 h; omega
  simp [lit, this]
theorem lit_126 {es : Bool} {c : UInt8} (h : ((c.toNat : Int) == 126) = true) : lit es c = true := by
  have : c.toNat = 126 := by have := beq_iff_eq.1 h; omega
  simp [lit, this]
theorem lit_47 {es : Bool} {c : UInt8} (h : (c.toNat : Int) = 47) (h2 : (!es) = true) : lit es c = true := by
  have : c.toNat = 47 := by omega
  simp [lit, this]; simpa using h2
theorem lit_no {es : Bool} {c : UInt8} (h1 : ¬ (65 ≤ (c.toNat : Int) ∧ (c.toNat : Int) ≤ 90)) (h2 : ¬ (97 ≤ (c.toNat : Int) ∧ (c.toNat : Int) ≤ 122)) (h3 : ¬ (48 ≤ (c.toNat : Int) ∧ (c.toNat : Int) ≤ 57))
    (h4 : ((c.toNat : Int) == 45) = false) (h5 : ((c.toNat : Int) == 46) = false) (h6 : ((c.toNat : Int) == 95) = false) (h7 : ((c.toNat : Int) == 126) = false) (h8 : ¬ (c.toNat : Int) = 47 ∨ (!es) = false) : lit es c = false := by
  have g1 : decide (65 ≤ c.toNat ∧ c.toNat ≤ 90) = false := decide_eq_false (by omega)
  have g2 : decide (97 ≤ c.toNat ∧ c.toNat ≤ 122) = false := decide_eq_false (by omega)
  have g3 : decide (48 ≤ c.toNat ∧ c.toNat ≤ 57) = false := decide_eq_false (by omega)
  have g4 : decide (c.toNat = 45) = false := decide_eq_false (by have := beq_eq_false_iff_ne.1 h4; omega)
  have g5 : decide (c.toNat = 46) = false := decide_eq_false (by have := beq_eq_false_iff_ne.1 h5; omega)
  have g6 : decide (c.toNat = 95) = false := decide_eq_false (by have := beq_eq_false_iff_ne.1 h6; omega)
  have g7 : decide (c.toNat = 126) = false := decide_eq_false (by have := beq_eq_false_iff_ne.1 h7; omega)
  have g8 : (decide (c.toNat = 47) && !es) = false := by
    rcases h8 with h | h
    · have : decide (c.toNat = 47) = false := decide_eq_false (by omega)
      simp [this]
    · simp [h]
  simp only [lit, g1, g2, g3, g4, g5, g6, g7, g8, Bool.or_false]

/-- A literal byte more. -/
theorem more_lit {es : Bool} {s : ByteArray} {k B : Nat} {W : World} (h : k < s.size) (hl : lit es s[k] = true) (x : Int) (hx0 : x = s[k].toNat)
    (hb : Lib.BuilderAt 30 5 B B (.pointer (some ⟨B, 0, none⟩)) (Lib.byteCells (enc es (s.data.toList.take k)) ++ [.int .u8 x]) W) :
    Lib.IsBuilder 30 5 B B (Lib.byteCells (enc es (s.data.toList.take (k + 1)))) W := by
  have e : Lib.byteCells (enc es (s.data.toList.take (k + 1))) = Lib.byteCells (enc es (s.data.toList.take k)) ++ [.int .u8 x] := by
    rw [take_snoc s k h, enc_snoc, Lib.byteCells_append, hx0]
    simp [encB, hl, Lib.byteCells]
  rw [e]; exact Or.inr hb
/-- An escaped byte more. -/
theorem more_esc {es : Bool} {s : ByteArray} {k B : Nat} {W : World} (h : k < s.size) (hl : lit es s[k] = false) (x y : Int)
    (hx0 : x = (hx (s[k].toNat / 16)).toNat) (hy0 : y = (hx (s[k].toNat % 16)).toNat)
    (hb : Lib.BuilderAt 30 5 B B (.pointer (some ⟨B, 0, none⟩)) (Lib.byteCells (enc es (s.data.toList.take k)) ++ [.int .u8 37] ++ [.int .u8 x] ++ [.int .u8 y]) W) :
    Lib.IsBuilder 30 5 B B (Lib.byteCells (enc es (s.data.toList.take (k + 1)))) W := by
  have e : Lib.byteCells (enc es (s.data.toList.take (k + 1))) = Lib.byteCells (enc es (s.data.toList.take k)) ++ [.int .u8 37] ++ [.int .u8 x] ++ [.int .u8 y] := by
    rw [take_snoc s k h, enc_snoc, Lib.byteCells_append, hx0, hy0]
    simp [encB, hl, Lib.byteCells]
  rw [e]; exact Or.inr hb
theorem hexAt_all : ∀ n : Fin 16, (((⟨#[48, 49, 50, 51, 52, 53, 54, 55, 56, 57, 65, 66, 67, 68, 69, 70]⟩ : ByteArray)[n.val]'n.isLt).toNat : Int) = (hx n.val).toNat := by decide
theorem hexAt (n : Nat) (h : n < 16) : (((⟨#[48, 49, 50, 51, 52, 53, 54, 55, 56, 57, 65, 66, 67, 68, 69, 70]⟩ : ByteArray)[n]'h).toNat : Int) = (hx n).toNat := hexAt_all ⟨n, h⟩

set_option maxHeartbeats 4000000 in
set_option maxRecDepth 1000000 in
theorem enc_walk (s : ByteArray) (es : Bool) (w : World) (hs : s.size ≤ 1000000) :
    Calls Try.prog 6 #[.string s, .bool es] w fun e w' => e = .returned (.string ⟨(enc es s.data.toList).toArray⟩) ∧ Below w.heap.size w w' := by
  go_enter Try.func6, Try.ntmps6
  go_wp2_with (go_at_call 11; refine (Try.Builder_Grow_fresh w.heap.size w.heap.size s.size _ (Nat.le_refl _) ?_ (by simp) (by omega)).mono ?_)
  · exact heap_alloc_new w _
  rintro e W1 ⟨rfl, hB, b1⟩
  have hb0 : Below w.heap.size w W1 := ((Below.refl _ w).alloc (Nat.le_refl _) _).trans b1
  clear b1
  go_wp2_with fail
  go_loopw [6] (fun i wr => ∃ k : Nat, k ≤ s.size ∧ i = .int .i64 k ∧ Lib.IsBuilder 30 5 w.heap.size w.heap.size (Lib.byteCells (enc es (s.data.toList.take k))) wr ∧ Below w.heap.size w wr) (fun i _ => s.size - (intOf i).toNat)
  case atStart => exact ⟨0, Nat.zero_le _, rfl, Or.inr hB, hb0⟩
  case round =>
    clear hB hb0
    obtain ⟨k, hk, rfl, hI, hbw⟩ := hrel
    have hsz := hbw.size
    have hlen : (enc es (s.data.toList.take k)).length ≤ 3 * k := by
      have h1 := (enc_len es (s.data.toList.take k)).2
      have h2 : (s.data.toList.take k).length ≤ k := List.length_take_le _ _
      omega
    by_cases hlt : k < s.size
    · have ht : s[k].toNat < 256 := s[k].toNat_lt
      go_wp2_with fail
      all_goals first
        | (have hl : lit es s[k] = true := (by first | exact lit_upper ‹_› ‹_› | exact lit_lower ‹_› ‹_› | exact lit_digit ‹_› ‹_› | exact lit_45 ‹_› | exact lit_46 ‹_› | exact lit_95 ‹_› | exact lit_126 ‹_› | exact lit_47 ‹_› ‹_›)
           refine (Try.Builder_WriteByte w.heap.size w.heap.size _ _ _ hI (by rw [Lib.byteCells_length]; omega) (by omega)).mono ?_
           rintro e W2 ⟨rfl, h1, b2⟩
           go_wp2
           go_roundw
           case rel => exact ⟨k + 1, by omega, by go_num, more_lit hlt hl _ (by omega) h1, hbw.trans b2⟩
           case measure => simp [intOf]; omega)
        | (have hl : lit es s[k] = false := lit_no (by omega) (by omega) (by omega) ‹_› ‹_› ‹_› ‹_› (by first | exact Or.inl ‹_› | exact Or.inr ‹_›)
           refine (Try.Builder_WriteByte w.heap.size w.heap.size _ _ _ hI (by rw [Lib.byteCells_length]; omega) (by omega)).mono ?_
           rintro e W2 ⟨rfl, h1, b2⟩
           go_wp2_with fail
           refine (Try.Builder_WriteByte w.heap.size w.heap.size _ _ _ (Or.inr h1) (by simp [Lib.byteCells_length]; omega) (by have := b2.size; omega)).mono ?_
           rintro e W3 ⟨rfl, h2, b3⟩
           clear h1
           go_wp2_with fail
           refine (Try.Builder_WriteByte w.heap.size w.heap.size _ _ _ (Or.inr h2) (by simp [Lib.byteCells_length]; omega) (by have := b2.size; have := b3.size; omega)).mono ?_
           rintro e W4 ⟨rfl, h3, b4⟩
           clear h2
           go_wp2
           go_roundw
           case rel => exact ⟨k + 1, by omega, by go_num, more_esc hlt hl _ _ (by first | exact hexAt _ _ | (have e47 : s[k].toNat = 47 := (by omega); rw [e47]; rfl)) (by first | exact hexAt _ _ | (have e47 : s[k].toNat = 47 := (by omega); rw [e47]; rfl)) h3, ((hbw.trans b2).trans b3).trans b4⟩
           case measure => simp [intOf]; omega)
    · go_wp2_with (go_at_call 13; refine (Try.Builder_String_any w.heap.size w.heap.size _ _ hI (by omega)).mono ?_)
      rintro e W2 ⟨rfl, b2⟩
      go_wp2
      go_ret
      rw [List.take_of_length_le (by simp; omega)]
      exact ⟨rfl, hbw.trans b2⟩
end Go.Proofs.Qxb6632347a
