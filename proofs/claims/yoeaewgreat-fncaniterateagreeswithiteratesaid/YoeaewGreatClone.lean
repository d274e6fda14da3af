/-
  cloneBytesB3: a slice of its own, or nil; nothing old is written. Own work over the seat's program.
-/
import Derived.Test.YoeaewGreatIters
import Derived.OwnWalk
namespace Go.Proofs.YoeaewGreat.Can
open Go.RowKit
set_option linter.unusedVariables false

theorem info5 : (Eaeg.prog.info? 5).map (fun i => (i.zero, i.size, i.bytes)) = some (some (.int .u8 0), 1, 1) := by kernel_rfl

theorem clone5_nil (w : World) : Calls Eaeg.prog 5 #[.slice none 0 0] w fun e w' => e = .returned (.slice none 0 0) ∧ w' = w := by
  have q22 : ∀ (w : World) (a : Option Addr) (n c n' c' : Nat), (binOp .eql 22 (.slice a n c) (.slice none n' c')).run Eaeg.prog w = .ok (.bool a.isNone) w := fun w a n c n' c' => Lib.run_eql_slice_nil w _ _ a n c n' c' Eaeg.underlying22
  go_enter Eaeg.func5, Eaeg.ntmps5
  go_wp2
  go_ret
  exact ⟨rfl, rfl⟩

/-- One store of the round. -/
theorem clone_round {w wr : World} {len k : Nat} {xs : List Value} (u : Value) (hown : wr.ownsRow w.heap.size 5 1 (.slice (some ⟨w.heap.size, 0, none⟩) len len) len xs) (hb : Below w.heap.size w wr) :
    (∃ ys, (wr.setCell ⟨w.heap.size, k, none⟩ u).ownsRow w.heap.size 5 1 (.slice (some ⟨w.heap.size, 0, none⟩) len len) len ys) ∧ Below w.heap.size w (wr.setCell ⟨w.heap.size, k, none⟩ u) :=
  ⟨⟨_, (hown.stored k u).1⟩, hb.setCell (Nat.le_refl _) u⟩

theorem block_lt {w : World} {a : Addr} {v : Value} (h : w.cell? a = some v) : a.block < w.heap.size := by
  unfold World.cell? at h
  by_cases hlt : a.block < w.heap.size
  · exact hlt
  · rw [Array.getElem?_eq_none (by omega)] at h
    simp at h

theorem clone_cell {w wr : World} {len k : Nat} {xs : List Value} (hk : k < len) (hown : wr.ownsRow w.heap.size 5 1 (.slice (some ⟨w.heap.size, 0, none⟩) len len) len xs) :
    ∃ u, wr.cell? ⟨w.heap.size, k, none⟩ = some u := by
  have h := hown.cellAt k (by omega)
  have hl : xs.length = len * 1 := hown.1
  rw [List.getElem?_eq_getElem (by omega)] at h
  exact ⟨_, h⟩

set_option maxHeartbeats 400000 in
theorem clone5_any (x : Addr) (len cap : Nat) (zs : List Int) (w : World) (hm : len ≤ 1048576)
    (hcell : ∀ i, i < len → w.cell? (x.add i) = some (.int .u8 (zs.getD i 0))) :
    Calls Eaeg.prog 5 #[.slice (some x) len cap] w fun e w' => (∃ a n c, e = .returned (.slice a n c)) ∧ Below w.heap.size w w' := by
  have q22 : ∀ (w : World) (a : Option Addr) (n c n' c' : Nat), (binOp .eql 22 (.slice a n c) (.slice none n' c')).run Eaeg.prog w = .ok (.bool a.isNone) w := fun w a n c n' c' => Lib.run_eql_slice_nil w _ _ a n c n' c' Eaeg.underlying22
  obtain ⟨i0, hi, hz0, hz1, hz2⟩ := info_parts info5
  have hb2 : i0.bytes * len ≤ 281474976710656 := by rw [hz2]; omega
  have hb3 : len ≤ maxLen := by unfold maxLen; omega
  have Hhi : Hid (Eaeg.prog.info? 5 = some i0) := hi
  have Hz0 : Hid (i0.zero = some (.int .u8 0)) := hz0
  have Hz1 : Hid (i0.size = 1) := hz1
  have Hcell : Hid (∀ i, i < len → w.cell? (x.add i) = some (.int .u8 (zs.getD i 0))) := hcell
  clear hi hz0 hz1 hz2 hcell
  go_enter Eaeg.func5, Eaeg.ntmps5
  go_wp2_with (at_make; refine wpList_make_full _ rfl _ _ 22 rfl w.heap.size 5 i0 (.int .u8 0) 1 Eaeg.underlying22 Hhi.out Hz0.out Hz1.out _ _ _ _ len rfl rfl rfl rfl hb2 hb3 (Nat.le_refl _) ?_; intro w1 hown hgrow)
  go_loopw [4] (fun i wr => ∃ k : Nat, k ≤ len ∧ i = .int .i64 k ∧ (∃ xs, wr.ownsRow w.heap.size 5 1 (.slice (some ⟨w.heap.size, 0, none⟩) len len) len xs) ∧ Below w.heap.size w wr)
    (fun i _ => len - (intOf i).toNat)
  case atStart => exact ⟨0, Nat.zero_le _, rfl, ⟨_, hown⟩, (Below.refl _ w).grown hgrow (Nat.le_refl _) (fun k h => by cases h)⟩
  case round =>
    obtain ⟨k, hk, rfl, ⟨xs, ho⟩, hbel⟩ := hrel
    clear hown hgrow w1
    by_cases hlt : k < len
    · have hc := Hcell.out k hlt
      obtain ⟨b, off, spot⟩ := x
      have hspot : spot = none := by
        have h0 := Hcell.out 0 (by omega)
        simpa [Addr.add] using World.cell?_spot h0
      subst hspot
      rw [Addr.add_lit] at hc
      have hbl : b < w.heap.size := block_lt hc
      have hcr : wr.cell? ⟨b, off + k, none⟩ = some (.int .u8 (zs.getD k 0)) := (hbel.cell (p := ⟨b, off + k, none⟩) hbl).trans hc
      obtain ⟨u, hu⟩ := clone_cell hlt ho
      have hf := ho.frozenAt k
      have HO : Hid (wr.ownsRow w.heap.size 5 1 (.slice (some ⟨w.heap.size, 0, none⟩) len len) len xs) := ho
      clear hc ho
      go_wp2
      go_roundw
      case rel =>
        have hr := clone_round (k := k) (.int .u8 (zs.getD k 0)) HO.out hbel
        exact ⟨k + 1, by omega, by go_num, hr.1, hr.2⟩
      case measure => simp [intOf]; omega
    · go_wp2
      go_ret
      exact ⟨⟨_, _, _, rfl⟩, hbel⟩
end Go.Proofs.YoeaewGreat.Can
