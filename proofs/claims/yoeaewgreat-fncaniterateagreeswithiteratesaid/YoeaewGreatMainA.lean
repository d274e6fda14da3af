/-
  The law itself, walked: where the lengths are too great it returns at once; else case after case. Own work over the seat's program.
-/
import Derived.Test.YoeaewGreatPart
import Derived.Deep.QuietTactic
import Derived.BigQuiet
namespace Go.Proofs.YoeaewGreat.Can
open Go.RowKit
set_option linter.unusedVariables false

/-- What is known of a world stands for the world. -/
theorem wp_abs {P : Program} {code : Code} {Q : Exit → Act → World → Prop} {a : Act} {W : World} (φ : World → Prop) (h : φ W) (k : ∀ W, φ W → code.wp P Q a W) : code.wp P Q a W := k W h

theorem heap_new (W : World) (o : Obj) (k : Nat) (h : k = W.heap.size) : (W.alloc o).heap[k]? = some o := by
  subst h
  show (W.heap.push o)[W.heap.size]? = _
  simp

theorem below_drewN {B : Nat} {a W : World} (h : Below B a W) (n : Nat) : Below B a (W.drewN n) := ⟨h.os, h.tape, h.output, h.size, h.block⟩

/-- The copy, whatever the slice. -/
theorem clone5 (a : Option Addr) (len cap : Nat) (zs : List Int) (w : World) (hm : len ≤ 1048576)
    (ha : (a = none ∧ len = 0 ∧ cap = 0) ∨ ∃ x, a = some x ∧ ∀ i, i < len → w.cell? (x.add i) = some (.int .u8 (zs.getD i 0))) :
    Calls Eaeg.prog 5 #[.slice a len cap] w fun e w' => (∃ a n c, e = .returned (.slice a n c)) ∧ Below w.heap.size w w' := by
  rcases ha with ⟨rfl, rfl, rfl⟩ | ⟨x, rfl, hc⟩
  · refine (clone5_nil w).mono fun e w' h => ?_
    obtain ⟨rfl, rfl⟩ := h
    exact ⟨⟨_, _, _, rfl⟩, Below.refl _ _⟩
  · exact clone5_any x len cap zs w hm hc

set_option maxRecDepth 100000 in
theorem law_great (v : Int) (s : ByteArray) (a : Option Addr) (n c : Nat) (w : World) (hs : s.size ≤ maxLen) (hn : n ≤ maxLen) (h : ¬ s.size + n ≤ 1048576) :
    Calls Eaeg.prog 3 #[.int .i64 v, .string s, .slice a n c] w fun e w' => e = .returned (.bool true) ∧ Below w.heap.size w w' := by
  go_enter Eaeg.func3, Eaeg.ntmps3
  go_wp2_with (go_at_call 4; refine (great4 _ _ _ _ _ _ hs hn h).mono ?_; rintro e w' ⟨rfl, rfl⟩)
  go_ret
  exact ⟨rfl, Below.refl _ _⟩

set_option maxRecDepth 100000 in
set_option maxHeartbeats 1000000 in
theorem law_small (v : Int) (s : ByteArray) (a : Option Addr) (n c : Nat) (zs : List Int) (w : World) (h : s.size + n ≤ 1048576)
    (ha : (a = none ∧ n = 0 ∧ c = 0) ∨ ∃ x, a = some x ∧ ∀ i, i < n → w.cell? (x.add i) = some (.int .u8 (zs.getD i 0))) :
    Calls Eaeg.prog 3 #[.int .i64 v, .string s, .slice a n c] w fun e w' => e = .returned (.bool true) ∧ Below w.heap.size w w' := by
  have nn : ∀ w : World, (binOp .neq 28 .nilIface .nilIface).run Eaeg.prog w = .ok (.bool false) w := fun _ => rfl
  obtain ⟨fv, hfv⟩ := float_of v
  have hclone := clone5 a n c zs w (by omega) ha
  have Hclone : Hid (Calls Eaeg.prog 5 #[.slice a n c] w fun e w' => (∃ a n c, e = .returned (.slice a n c)) ∧ Below w.heap.size w w') := hclone
  clear hclone ha
  go_enter Eaeg.func3, Eaeg.ntmps3
  go_wp2_with (first
    | (go_at_call 4; refine (small4 _ _ _ _ _ _ h).mono ?_; rintro e w' ⟨rfl, hx⟩; obtain rfl := hx.symm)
    | (go_at_call 5; refine Hclone.out.mono ?_; rintro e w1 ⟨⟨a1, n1, c1, rfl⟩, hb1⟩)
    | (go_at_call 6; refine (can6 _ _).mono ?_; rintro e w' ⟨rfl, hx⟩; obtain rfl := hx.symm)
    | (go_at_call 7; refine (iter7 _ _).mono ?_; rintro e w' ⟨rfl, hx⟩; obtain rfl := hx.symm))
  refine wp_abs (fun W => Below w.heap.size w W ∧ W.heap[w1.heap.size + 1]? = some (.cells #[.int .i64 v] 34 (0, 0))) ⟨(hb1.alloc hb1.size _).alloc (by have := hb1.size; simp; omega) _, heap_new (w1.alloc _) _ _ (by simp)⟩ ?_
  rintro W1 ⟨hW1, hI⟩
  have hpa := fun n => partAt_head (W1.drewN n) (w1.heap.size + 1) 34 _ hI cells34 first34
  clear hb1
  go_quiet ((first | (go_at_call 6; exact Calls.quiet_of_same (can6 _ _)) | (go_at_call 7; exact Calls.quiet_of_same (iter7 _ _))))
  clear hpa hI
  go_wp2_with fail
  -- the float
  refine wp_abs (fun W => Below w.heap.size w W ∧ W.heap[W1.heap.size]? = some (.cells #[.float .f64 fv] 38 (0, 0))) ⟨(below_drewN hW1 nq).alloc hW1.size _, heap_new (W1.drewN nq) _ _ rfl⟩ ?_
  rintro W2 ⟨hW2, hI⟩
  have hpa := fun n => partAt_head (W2.drewN n) W1.heap.size 38 _ hI cells38 first38
  go_quiet ((first | (go_at_call 6; exact Calls.quiet_of_same (can6 _ _)) | (go_at_call 7; exact Calls.quiet_of_same (iter7 _ _))))
  clear hpa hI hfv
  go_wp2_with fail
  -- the char
  refine wp_abs (fun W => Below w.heap.size w W ∧ W.heap[W2.heap.size]? = some (.cells #[.int .i32 (wrap32 v)] 41 (0, 0))) ⟨(below_drewN hW2 nq).alloc hW2.size _, heap_new (W2.drewN nq) _ _ rfl⟩ ?_
  rintro W3 ⟨hW3, hI⟩
  have hpa := fun n => partAt_head (W3.drewN n) W2.heap.size 41 _ hI cells41 first41
  go_quiet ((first | (go_at_call 6; exact Calls.quiet_of_same (can6 _ _)) | (go_at_call 7; exact Calls.quiet_of_same (iter7 _ _))))
  clear hpa hI
  go_wp2_with fail
  -- the error
  refine wp_abs (fun W => Below w.heap.size w W ∧ W.heap[W3.heap.size]? = some (.cells #[.iface 32 (.pointer (some ⟨w1.heap.size + 1, 0, none⟩))] 46 (0, 0))) ⟨(below_drewN hW3 nq).alloc hW3.size _, heap_new (W3.drewN nq) _ _ rfl⟩ ?_
  rintro W4 ⟨hW4, hI⟩
  have hpa := fun n => partAt_head (W4.drewN n) W3.heap.size 46 _ hI cells46 first46
  go_quiet ((first | (go_at_call 6; exact Calls.quiet_of_same (can6 _ _)) | (go_at_call 7; exact Calls.quiet_of_same (iter7 _ _))))
  clear hpa hI nn
  have n63 : ∀ (w : World) (p : Option Addr), (binOp .neq 28 (.iface 63 (.pointer p)) .nilIface).run Eaeg.prog w = .ok (.bool true) w := fun _ _ => rfl
  have n66 : ∀ (w : World) (p : Option Addr), (binOp .neq 28 (.iface 66 (.pointer p)) .nilIface).run Eaeg.prog w = .ok (.bool true) w := fun _ _ => rfl
  have n69 : ∀ (w : World) (p : Option Addr), (binOp .neq 28 (.iface 69 (.pointer p)) .nilIface).run Eaeg.prog w = .ok (.bool true) w := fun _ _ => rfl
  have n60 : ∀ (w : World) (p : Option Addr), (binOp .neq 28 (.iface 60 (.pointer p)) .nilIface).run Eaeg.prog w = .ok (.bool true) w := fun _ _ => rfl
  go_wp2_with (first
    | (go_at_call 8; refine (can8 _ _).mono ?_; rintro e w' ⟨rfl, hx⟩; obtain rfl := hx.symm))
  have z4 := hW4.size
  refine (iter9 (W4.heap.size + 1) (some ⟨W4.heap.size, 0, none⟩) 1 1 _ ?_).mono ?_
  · exact (World.cell?_alloc_at _ _ _ _ (by simp)).trans rfl
  rintro e W5 ⟨⟨p5, rfl⟩, hb5⟩
  have hW5 : Below w.heap.size w W5 := (((below_drewN hW4 nq).alloc z4 _).alloc (by simp; omega) _).trans (hb5.mono (by simp; omega))
  have z5 := hW5.size
  clear hb5
  -- the immutable array
  go_wp2_with (first
    | (go_at_call 10; refine (can10 _ _).mono ?_; rintro e w' ⟨rfl, hx⟩; obtain rfl := hx.symm))
  refine (iter11 W5.heap.size none 0 0 _ ?_).mono ?_
  · exact (World.cell?_alloc_at _ _ _ _ rfl).trans rfl
  rintro e W6 ⟨⟨p6, rfl⟩, hb6⟩
  have hW6 : Below w.heap.size w W6 := (hW5.alloc z5 _).trans (hb6.mono (by simp; omega))
  have z6 := hW6.size
  clear hb6
  -- the bytes
  go_wp2_with (first
    | (go_at_call 12; refine (can12 _ _).mono ?_; rintro e w' ⟨rfl, hx⟩; obtain rfl := hx.symm))
  refine (iter13 W6.heap.size a1 n1 c1 _ ?_).mono ?_
  · exact (World.cell?_alloc_at _ _ _ _ rfl).trans rfl
  rintro e W7 ⟨⟨p7, rfl⟩, hb7⟩
  have hW7 : Below w.heap.size w W7 := (hW6.alloc z6 _).trans (hb7.mono (by simp; omega))
  have z7 := hW7.size
  clear hb7
  -- the string
  go_wp2_with (first
    | (go_at_call 14; refine (can14 _ _).mono ?_; rintro e w' ⟨rfl, hx⟩; obtain rfl := hx.symm))
  refine (iter15 W7.heap.size w.heap.size s _ z7 ?_ (by omega) ?_ ?_ ?_).mono ?_
  · simp
  · exact (World.cell?_alloc_at _ _ _ _ rfl).trans rfl
  · exact (World.cell?_alloc_at _ _ _ _ rfl).trans rfl
  · exact World.frozen?_alloc_at _ _ _ _ rfl
  rintro e W8 ⟨⟨p8, rfl⟩, hb8⟩
  have hW8 : Below w.heap.size w W8 := (hW7.alloc z7 _).trans hb8
  have z8 := hW8.size
  clear hb8
  -- the undefined
  go_wp2_with (first
    | (go_at_call 16; refine (can16 _ _).mono ?_; rintro e w' ⟨rfl, hx⟩; obtain rfl := hx.symm)
    | (go_at_call 17; refine (iter17 _ _).mono ?_; rintro e w' ⟨rfl, hx⟩; obtain rfl := hx.symm))
  go_ret
  exact ⟨rfl, hW8.alloc z8 _⟩
end Go.Proofs.YoeaewGreat.Can
