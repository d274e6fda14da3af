/-
  The leaves: what each small callee of the law computes. Own work over the seat's program.
-/
import Derived.Test.YoeaewGreatRows
import Derived.WalkKit
import Derived.ProofKit
import Derived.Below
import Derived.RegionTactic
import Derived.ChangeAlike
namespace Go.Proofs.YoeaewGreat.Can
open Go.RowKit
set_option linter.unusedVariables false

/-- (*ObjectImpl).CanIterate: false, whatever the receiver (nil too). -/
theorem can6 (r : Value) (w : World) : Calls Eaeg.prog 6 #[r] w fun e w' => e = .returned (.bool false) ∧ w' = w := by
  go_enter Eaeg.func6, Eaeg.ntmps6
  go_wp2
  go_ret
  exact ⟨rfl, rfl⟩

/-- (*ObjectImpl).Iterate: a nil interface, whatever the receiver. -/
theorem iter7 (r : Value) (w : World) : Calls Eaeg.prog 7 #[r] w fun e w' => e = .returned .nilIface ∧ w' = w := by
  go_enter Eaeg.func7, Eaeg.ntmps7
  go_wp2
  go_ret
  exact ⟨rfl, rfl⟩

theorem can8 (r : Value) (w : World) : Calls Eaeg.prog 8 #[r] w fun e w' => e = .returned (.bool true) ∧ w' = w := by
  go_enter Eaeg.func8, Eaeg.ntmps8
  go_wp2
  go_ret
  exact ⟨rfl, rfl⟩

theorem can10 (r : Value) (w : World) : Calls Eaeg.prog 10 #[r] w fun e w' => e = .returned (.bool true) ∧ w' = w := by
  go_enter Eaeg.func10, Eaeg.ntmps10
  go_wp2
  go_ret
  exact ⟨rfl, rfl⟩

theorem can12 (r : Value) (w : World) : Calls Eaeg.prog 12 #[r] w fun e w' => e = .returned (.bool true) ∧ w' = w := by
  go_enter Eaeg.func12, Eaeg.ntmps12
  go_wp2
  go_ret
  exact ⟨rfl, rfl⟩

theorem can14 (r : Value) (w : World) : Calls Eaeg.prog 14 #[r] w fun e w' => e = .returned (.bool true) ∧ w' = w := by
  go_enter Eaeg.func14, Eaeg.ntmps14
  go_wp2
  go_ret
  exact ⟨rfl, rfl⟩

theorem can16 (r : Value) (w : World) : Calls Eaeg.prog 16 #[r] w fun e w' => e = .returned (.bool true) ∧ w' = w := by
  go_enter Eaeg.func16, Eaeg.ntmps16
  go_wp2
  go_ret
  exact ⟨rfl, rfl⟩

/-- (*Undefined).Iterate: the receiver itself, as an interface value: not nil, a nil pointer too. -/
theorem iter17 (a : Option Addr) (w : World) : Calls Eaeg.prog 17 #[.pointer a] w fun e w' => e = .returned (.iface 60 (.pointer a)) ∧ w' = w := by
  go_enter Eaeg.func17, Eaeg.ntmps17
  go_wp2
  go_ret
  exact ⟨rfl, rfl⟩

/-- (*Array).Iterate: a new iterator. -/
theorem iter9 (b : Nat) (a : Option Addr) (n c : Nat) (w : World) (hc : w.cell? ⟨b, 0, none⟩ = some (.slice a n c)) :
    Calls Eaeg.prog 9 #[.pointer (some ⟨b, 0, none⟩)] w fun e w' => (∃ p, e = .returned (.iface 63 (.pointer (some p)))) ∧ Below w.heap.size w w' := by
  go_enter Eaeg.func9, Eaeg.ntmps9
  go_wp2
  go_region
  all_goals go_wp2
  all_goals go_ret
  all_goals exact ⟨⟨_, rfl⟩, (Below.refl _ _).drew.alloc (Nat.le_refl _) _⟩
end Go.Proofs.YoeaewGreat.Can
