/-
  The iterators of ImmutableArray, Bytes, String; the bound on the lengths. Own work over the seat's program.
-/
import Derived.Test.YoeaewGreatLeaves
import Derived.Laws.IdiomStrings
import Derived.Lib.SliceRun
namespace Go.Proofs.YoeaewGreat.Can
open Go.RowKit
set_option linter.unusedVariables false

theorem iter11 (b : Nat) (a : Option Addr) (n c : Nat) (w : World) (hc : w.cell? ⟨b, 0, none⟩ = some (.slice a n c)) :
    Calls Eaeg.prog 11 #[.pointer (some ⟨b, 0, none⟩)] w fun e w' => (∃ p, e = .returned (.iface 63 (.pointer (some p)))) ∧ Below w.heap.size w w' := by
  go_enter Eaeg.func11, Eaeg.ntmps11
  go_wp2
  go_region
  all_goals go_wp2
  all_goals go_ret
  all_goals exact ⟨⟨_, rfl⟩, (Below.refl _ _).drew.alloc (Nat.le_refl _) _⟩

theorem iter13 (b : Nat) (a : Option Addr) (n c : Nat) (w : World) (hc : w.cell? ⟨b, 0, none⟩ = some (.slice a n c)) :
    Calls Eaeg.prog 13 #[.pointer (some ⟨b, 0, none⟩)] w fun e w' => (∃ p, e = .returned (.iface 66 (.pointer (some p)))) ∧ Below w.heap.size w w' := by
  go_enter Eaeg.func13, Eaeg.ntmps13
  go_wp2
  go_region
  all_goals go_wp2
  all_goals go_ret
  all_goals exact ⟨⟨_, rfl⟩, (Below.refl _ _).drew.alloc (Nat.le_refl _) _⟩

/-- What '[]rune(s)' comes to: a slice in a new block, and old memory as it was. -/
theorem runes_of (w : World) (s : ByteArray) (h : s.size ≤ 1048576) :
    ∃ n c o, (convert 9 57 (.string s)).run Eaeg.prog w = .ok (.slice (some ⟨w.heap.size, 0, none⟩) n c) (w.drew.alloc o) := by
  have hr := size_runesFrom s s.size 0 #[]
  simp at hr
  exact ⟨_, _, _, run_runes_of_string w 9 57 21 s Eaeg.underlying9 Eaeg.underlying57 Eaeg.underlying21 (by omega)⟩

/-- (*String).Iterate, the runes not yet laid: a new iterator; the receiver's own second cell may be written, nothing else. -/
theorem iter15 (b B : Nat) (s : ByteArray) (w : World) (hB : B ≤ b) (hb : b < w.heap.size) (hs : s.size ≤ 1048576) (hc0 : w.cell? ⟨b, 0, none⟩ = some (.string s)) (hc1 : w.cell? ⟨b, 1, none⟩ = some (.slice none 0 0)) (hf : w.frozen? ⟨b, 1, none⟩ = false) :
    Calls Eaeg.prog 15 #[.pointer (some ⟨b, 0, none⟩)] w fun e w' => (∃ p, e = .returned (.iface 69 (.pointer (some p)))) ∧ Below B w w' := by
  obtain ⟨n, c, o, hrun⟩ := runes_of w s hs
  have q57 : ∀ (w : World) (a : Option Addr) (n c n' c' : Nat), (binOp .eql 57 (.slice a n c) (.slice none n' c')).run Eaeg.prog w = .ok (.bool a.isNone) w := fun w a n c n' c' => Lib.run_eql_slice_nil w _ _ a n c n' c' Eaeg.underlying57
  go_enter Eaeg.func15, Eaeg.ntmps15
  go_wp2
  go_region
  all_goals go_wp2
  all_goals go_ret
  all_goals exact ⟨⟨_, rfl⟩, (((((Below.refl B w).setCell hB _).alloc (by simp; omega) _).alloc (by simp; omega) _).drew).drew⟩

/-- The bound on the lengths, met. -/
theorem small4 (v : Int) (s : ByteArray) (a : Option Addr) (n c : Nat) (w : World) (h : s.size + n ≤ 1048576) :
    Calls Eaeg.prog 4 #[.int .i64 v, .string s, .slice a n c] w fun e w' => e = .returned (.bool true) ∧ w' = w := by
  go_enter Eaeg.func4, Eaeg.ntmps4
  go_wp2
  go_ret
  exact ⟨rfl, rfl⟩

/-- The bound on the lengths, not met. -/
theorem great4 (v : Int) (s : ByteArray) (a : Option Addr) (n c : Nat) (w : World) (hs : s.size ≤ maxLen) (hn : n ≤ maxLen) (h : ¬ s.size + n ≤ 1048576) :
    Calls Eaeg.prog 4 #[.int .i64 v, .string s, .slice a n c] w fun e w' => e = .returned (.bool false) ∧ w' = w := by
  unfold maxLen at hs hn
  go_enter Eaeg.func4, Eaeg.ntmps4
  go_wp2
  all_goals go_ret
  all_goals exact ⟨rfl, rfl⟩
end Go.Proofs.YoeaewGreat.Can
