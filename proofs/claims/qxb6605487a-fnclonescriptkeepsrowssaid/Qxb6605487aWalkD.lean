import Derived.Test.Qxb6605487aWalkC
namespace Go.Proofs.Qxb6605487a
open Go.RowKit
set_option linter.unusedVariables false

/-- ZZClone boxes the pair, calls clone on it, and reads the pair. -/
theorem zz8 (a0 ab ao A : Option Addr) (l0 c0 n cb no co lA cA : Nat) (x left : Int) (w : World) (R : World → Prop)
    (hcall : Calls Try.prog 13 #[.pointer (some ⟨w.heap.size, 0, none⟩), .slice ab n cb] (w.alloc (.cells #[.slice a0 l0 c0, .int .i64 x] 42)) fun e w' => e = .returned (.slice ao no co) ∧ Rw w' w.heap.size 42 2 [.slice A lA cA, .int .i64 left] ∧ R w') :
    Calls Try.prog 8 #[.slice a0 l0 c0, .int .i64 x, .slice ab n cb] w fun e w' => e = .returned (.tuple #[.slice ao no co, .slice A lA cA, .int .i64 left]) ∧ ∃ w1 k, R w1 ∧ w' = w1.drewN k := by
  go_enter Try.func8, Try.ntmps8
  go_wp2_with (go_at_call 13; refine hcall.mono ?_; rintro e w2 ⟨rfl, hB2, hR⟩)
  have e0 : w2.cell? ⟨w.heap.size, 0, none⟩ = some (.slice A lA cA) := hB2.cell (i := 0) rfl
  have e1 : w2.cell? ⟨w.heap.size, 1, none⟩ = some (.int .i64 left) := hB2.cell (i := 1) rfl
  have HR : Hid (R w2) := hR
  clear hcall hB2 hR
  go_quiet (fail)
  go_wp2
  go_ret3
  exact ⟨rfl, w2, _, HR.out, rfl⟩
end Go.Proofs.Qxb6605487a
