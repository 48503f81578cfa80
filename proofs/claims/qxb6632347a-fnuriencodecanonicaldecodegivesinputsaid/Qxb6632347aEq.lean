/-
  zzEqualsReplacedB1: where got IS src with every byte c put as rep, it answers true.
-/
import Derived.Test.Qxb6632347aRows
import Derived.Test.Qxb6632347aPlain
import Derived.WalkKit
import Derived.BigCall
import Derived.Deep.QuietTactic
import Derived.BigQuiet
import Derived.WalkSmall
namespace Go.Proofs.Qxb6632347a
open Go.RowKit

theorem take_snoc' (s : ByteArray) (k : Nat) (h : k < s.size) : s.data.toList.take (k + 1) = s.data.toList.take k ++ [s[k]] := by
  rw [List.take_succ_eq_append_getElem (by simpa using h)]; rfl
theorem drop_cons' (s : ByteArray) (k : Nat) (h : k < s.size) : s.data.toList.drop k = s[k] :: s.data.toList.drop (k + 1) := by
  rw [List.drop_eq_getElem_cons (by simpa using h)]; rfl

/-- Where the text splits as pre, mid, post: its byte at the place of mid's q-th. -/
theorem at_mid {got : ByteArray} {pre mid post : List UInt8} (h : got.data.toList = pre ++ mid ++ post) {J q : Nat} (hJ : J = pre.length + q) (hq : q < mid.length) :
    ∃ hJ2 : J < got.size, got[J]'hJ2 = mid[q] := by
  have hlen : got.size = pre.length + mid.length + post.length := by
    have : got.data.toList.length = got.size := by simp
    rw [← this, h]; simp; omega
  refine ⟨by omega, ?_⟩
  have e : got[J]'(by omega) = got.data.toList[J]'(by simpa using (by omega : J < got.size)) := rfl
  rw [e]
  have e2 : got.data.toList[J]? = (pre ++ mid ++ post)[J]? := by rw [h]
  have e3 : (pre ++ mid ++ post)[J]? = mid[q]? := by
    rw [List.append_assoc, List.getElem?_append_right (by omega), List.getElem?_append_left (by omega)]
    congr 1; omega
  rw [e3, List.getElem?_eq_getElem hq] at e2
  exact (List.getElem?_eq_some_iff.1 e2).2

set_option maxHeartbeats 4000000 in
set_option maxRecDepth 1000000 in
theorem eq_walk (got src rep : ByteArray) (c : UInt8) (ci : Int) (hci : Hid (ci = c.toNat)) (w : World) (hg : got.size ≤ 10000000) (hsr : src.size ≤ 10000000) (hr : rep.size ≤ 10000000)
    (h : Hid (got.data.toList = repl c rep.data.toList src.data.toList)) :
    Calls Try.prog 10 #[.string got, .string src, .int .u8 ci, .string rep] w fun e w' => e = .returned (.bool true) ∧ Below w.heap.size w w' := by
  go_enter Try.func10, Try.ntmps10
  go_wp2
  go_loopw [9, 10] (fun j i wr => ∃ m J : Nat, m ≤ src.size ∧ i = .int .i64 m ∧ j = .int .i64 J ∧ Hid (J = (repl c rep.data.toList (src.data.toList.take m)).length) ∧ Below w.heap.size w wr) (fun _ i _ => src.size - (intOf i).toNat)
  case atStart => exact ⟨0, 0, Nat.zero_le _, rfl, rfl, rfl, Below.refl _ _⟩
  case round =>
    obtain ⟨m, J, hm, rfl, rfl, hJ, hbw⟩ := hrel
    by_cases hlt : m < src.size
    · have hsplit : Hid (got.data.toList = repl c rep.data.toList (src.data.toList.take m) ++ repB c rep.data.toList src[m] ++ repl c rep.data.toList (src.data.toList.drop (m + 1))) := by
        have h2 := h.out
        rw [← List.take_append_drop m src.data.toList, drop_cons' src m hlt, repl_append] at h2
        show _ = _
        rw [h2, List.append_assoc]; rfl
      have hstep : Hid ((repl c rep.data.toList (src.data.toList.take (m + 1))).length = (repl c rep.data.toList (src.data.toList.take m)).length + (repB c rep.data.toList src[m]).length) := by
        show _ = _
        rw [take_snoc' src m hlt, repl_snoc, List.length_append]
      by_cases hx : src[m] = c
      · have hxb : ((src[m].toNat : Int) == ci) = true := by rw [hci.out, hx]; exact beq_self_eq_true _
        have HX : Hid (src[m] = c) := hx
        clear hx
        go_wp2_with fail
        go_loopw [9, 12] (fun j q wr2 => ∃ p J2 : Nat, p ≤ rep.size ∧ q = .int .i64 p ∧ j = .int .i64 J2 ∧ Hid (J2 = J + p) ∧ Below w.heap.size w wr2) (fun _ q _ => rep.size - (intOf q).toNat)
        case atStart => exact ⟨0, J, Nat.zero_le _, rfl, rfl, rfl, hbw⟩
        case round =>
          obtain ⟨p, J2, hp, rfl, rfl, hJ2, hbw2⟩ := hrel
          by_cases hpl : p < rep.size
          · obtain ⟨hj2, hge⟩ := at_mid (q := p) (J := J2) hsplit.out (by rw [hJ2.out, hJ.out]) (by rw [HX.out]; simpa [repB] using hpl)
            have hge2 : got[J2] = rep[p] := by rw [hge]; simp [repB, HX.out]; rfl
            clear hge
            have hd : decide ((got.size : Int) ≤ (J2 : Int)) = false := decide_eq_false (by omega)
            have hji : (J2 : Int) < (got.size : Int) := by omega
            have hpi : (p : Int) < (rep.size : Int) := by omega
            go_wp2_with fail
            go_quiet (fail)
            go_wp2
            go_roundw
            case rel => exact ⟨p + 1, J2 + 1, by omega, by go_num, by go_num, by have := hJ2.out; show _ = _; omega, below_drewN hbw2 _⟩
            case measure => simp [intOf]; omega
          · go_wp2_with fail
            refine ⟨⟨m + 1, J2, by omega, by go_num, rfl, ?_, hbw2⟩, by simp [intOf]; omega⟩
            show _ = _
            rw [hstep.out, hJ2.out, hJ.out, HX.out]
            simp [repB]; omega
      · have hxb : ((src[m].toNat : Int) == ci) = false := by
          rw [hci.out]; apply beq_eq_false_iff_ne.2; intro e
          exact hx (UInt8.toNat_inj.1 (by omega))
        have HX : Hid (¬ src[m] = c) := hx
        clear hx
        obtain ⟨hj2, hge⟩ := at_mid (q := 0) (J := J) hsplit.out (by rw [hJ.out]; rfl) (by simp [repB, HX.out])
        have hge2 : got[J] = src[m] := by rw [hge]; simp [repB, HX.out]
        clear hge
        go_wp2
        go_roundw
        case rel => 
          refine ⟨m + 1, J + 1, by omega, by go_num, by go_num, ?_, hbw⟩
          show _ = _
          rw [hstep.out, hJ.out]
          simp [repB, HX.out]
        case measure => simp [intOf]; omega
    · have hJg : ((J : Int) == (got.size : Int)) = true := by
        have h1 : got.data.toList.length = got.size := by simp
        rw [← h1, h.out, hJ.out, List.take_of_length_le (by simp; omega)]
        exact beq_self_eq_true _
      go_wp2
      go_ret
      exact ⟨rfl, hbw⟩
end Go.Proofs.Qxb6632347a
