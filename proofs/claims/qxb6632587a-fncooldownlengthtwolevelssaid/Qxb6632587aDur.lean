/-
  toDurations walked: a new row that holds the same numbers.
-/
import Derived.Test.Qxb6632587aLadder
namespace Go.Proofs.Qxb6632587a
open Go.RowKit

theorem Try.info37 : (Try.prog.info? 37).map (fun i => (i.zero, i.size, i.bytes)) = some (some (.int .i64 0), 1, 8) := by kernel_rfl
theorem Try.info2 : (Try.prog.info? 2).map (fun i => (i.zero, i.size, i.bytes)) = some (some (.int .i64 0), 1, 8) := by kernel_rfl

theorem made_zero (n : Nat) : (madeCells #[Value.int .i64 0] n).toList = (List.replicate n (0 : Int)).map (Value.int .i64) := by
  rw [toList_madeCells_one, List.map_replicate]

/-- The cell of an owned row of numbers. -/
theorem own_cell {w : World} {base e g n : Nat} {zs : List Int} (h : w.ownsRow base e 1 (.slice (some ⟨g, 0, none⟩) n n) n (zs.map (Value.int .i64))) (hz : zs.length = n) {i : Nat} (hi : i < n) :
    w.cell? ⟨g, i, none⟩ = some (.int .i64 (zs.getD i 0)) := by
  rw [h.cellAt i (by omega), List.getElem?_map, List.getElem?_eq_getElem (by omega), getD_at zs i (by omega)]
  rfl
theorem own_lt {w : World} {base e g n : Nat} {zs : List Value} (h : w.ownsRow base e 1 (.slice (some ⟨g, 0, none⟩) n n) n zs) : g < w.heap.size := by
  rcases h.2 with ⟨hv, _⟩ | ⟨g', cap, cur, hv, _, hg, _⟩
  · cases hv
  · cases hv
    exact (Array.getElem?_eq_some_iff.1 hg).1
theorem own_set {w : World} {base e g n : Nat} {zs : List Int} (h : w.ownsRow base e 1 (.slice (some ⟨g, 0, none⟩) n n) n (zs.map (Value.int .i64))) (i : Nat) (x : Int) :
    (w.setCell ⟨g, i, none⟩ (.int .i64 x)).ownsRow base e 1 (.slice (some ⟨g, 0, none⟩) n n) n ((zs.set i x).map (Value.int .i64)) := by
  rw [List.map_set]
  exact (h.stored i _).1
theorem own_rung {w : World} {base e g n : Nat} {zs : List Int} (h : w.ownsRow base e 1 (.slice (some ⟨g, 0, none⟩) n n) n (zs.map (Value.int .i64))) (hz : zs.length = n) : Rung w (some ⟨g, 0, none⟩) zs :=
  .inr ⟨g, 0, rfl, own_lt h, fun i hi => by rw [Nat.zero_add]; exact own_cell h hz (by omega)⟩
theorem set_getD (zs : List Int) (i j : Nat) (x : Int) (h : i < zs.length) : (zs.set i x).getD j 0 = if i = j then x else zs.getD j 0 := by
  simp only [List.getD, List.getElem?_set]
  by_cases e : i = j
  · subst e; simp [h]
  · simp [e]
theorem list_eq {xs zs : List Int} (hl : zs.length = xs.length) (h : ∀ j, j < xs.length → zs.getD j 0 = xs.getD j 0) : zs = xs := by
  apply List.ext_getElem hl
  intro j h1 h2
  have := h j h2
  rwa [getD_at zs j h1, getD_at xs j h2] at this

set_option maxHeartbeats 2000000 in
set_option maxRecDepth 100000 in
theorem dur_walk (a : Option Addr) (cap : Nat) (xs : List Int) (w : World) (hn : xs.length ≤ 1000000) (hr : Hid (Rung w a xs)) (hnil : a = none → xs = []) :
    Calls Try.prog 10 #[.slice a xs.length cap] w fun e w' => ∃ a' cap', e = .returned (.slice a' xs.length cap') ∧ Rung w' a' xs ∧ Below w.heap.size w w' := by
  cases a with
  | none =>
    have e := hnil rfl
    subst e
    clear hnil
    have heq : ∀ w, (binOp .eql 22 (.slice none 0 cap) (.slice none 0 0)).run Try.prog w = .ok (.bool true) w := fun w => Lib.run_eql_slice_nil w 22 2 none 0 cap 0 0 Try.underlying22
    go_enter Try.func10, Try.ntmps10
    go_wp2
    go_ret
    exact ⟨none, 0, rfl, .inl rfl, Below.refl _ _⟩
  | some x =>
    clear hnil
    have heq : ∀ w, (binOp .eql 22 (.slice (some x) xs.length cap) (.slice none 0 0)).run Try.prog w = .ok (.bool false) w := fun w => Lib.run_eql_slice_nil w 22 2 (some x) xs.length cap 0 0 Try.underlying22
    obtain ⟨i0, hi, hz0, hz1, hz2⟩ := info_parts Try.info37
    go_enter Try.func10, Try.ntmps10
    go_wp2_with (at_make; refine wpList_make_full _ rfl _ _ 27 rfl w.heap.size 37 i0 (.int .i64 0) 1 Try.underlying27 hi hz0 hz1 _ _ _ _ xs.length rfl rfl rfl rfl (by rw [hz2]; omega) (by unfold maxLen; omega) (Nat.le_refl _) ?_)
    intro W1 hown0 hgrow0
    rw [made_zero] at hown0
    have b1 : Below w.heap.size w W1 := (Below.refl _ _).grown hgrow0 (Nat.le_refl _) (fun k h => by cases h)
    clear hgrow0 heq hz0 hz1 hz2 hi
    go_wp2
    go_loopw [4] (fun s wr => ∃ (i : Nat) (zs : List Int), i ≤ xs.length ∧ s = .int .i64 i ∧ zs.length = xs.length ∧ Hid (∀ j, j < i → zs.getD j 0 = xs.getD j 0) ∧
        wr.ownsRow w.heap.size 37 1 (.slice (some ⟨w.heap.size, 0, none⟩) xs.length xs.length) xs.length (zs.map (Value.int .i64)) ∧ Below w.heap.size w wr) (fun s _ => xs.length - (intOf s).toNat)
    case atStart => exact ⟨0, List.replicate xs.length 0, Nat.zero_le _, rfl, List.length_replicate, fun j h => absurd h (Nat.not_lt_zero _), hown0, b1⟩
    case round =>
      clear hown0 b1
      obtain ⟨i, zs, hil, rfl, hzl, hall, hown, hbw⟩ := hrel
      have HL : Hid (zs.length = xs.length) := hzl
      clear hzl
      by_cases h2 : i < xs.length
      · obtain ⟨b, off, hx, hbs, hc⟩ := hr.out.at_ h2
        cases hx
        have hci := (hbw.cell (p := ⟨b, off + i, none⟩) (by exact hbs)).trans (hc i h2)
        rw [getD_at xs i h2] at hci
        have hco := own_cell hown HL.out h2
        have hfo := hown.frozenAt i
        clear hc
        go_wp2
        go_roundw
        case rel =>
          refine ⟨i + 1, zs.set i xs[i], by omega, by go_num, by rw [List.length_set]; exact HL.out, fun j hj => ?_, own_set hown i _, hbw.setCell (by exact Nat.le_refl _) _⟩
          rw [set_getD zs i j _ (by rw [HL.out]; exact h2)]
          by_cases e : i = j
          · subst e; rw [if_pos rfl, getD_at xs i h2]
          · rw [if_neg e]; exact hall.out j (by omega)
        case measure => simp [intOf]; omega
      · go_wp2
        go_ret
        have e : zs = xs := list_eq HL.out (fun j hj => hall.out j (by omega))
        subst e
        exact ⟨_, _, rfl, own_rung hown rfl, hbw⟩
end Go.Proofs.Qxb6632587a
