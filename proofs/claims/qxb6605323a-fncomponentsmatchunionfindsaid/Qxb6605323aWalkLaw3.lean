import Derived.Test.Qxb6605323aWalkPre
import Derived.Test.Qxb6605323aWalkRoots
import Derived.Test.Qxb6605323aPlainUF
namespace Go.Proofs.Qxb6605323a
open Go.RowKit
set_option linter.unusedVariables false

/-! ### the ways that answer true at once -/
set_option maxHeartbeats 1000000 in
set_option maxRecDepth 100000 in
theorem law3_big (a0 a1 a2 : Option Addr) (l0 c0 l1 c1 l2 c2 : Nat) (w : World) (h : 1048576 < l0 + l1 + l2) :
    Calls Try.prog 3 #[.slice a0 l0 c0, .slice a1 l1 c1, .slice a2 l2 c2] w fun e w' => e = .returned (.bool true) ∧ Below w.heap.size w w' := by
  go_enter Try.func3, Try.ntmps3
  go_wp2_with fail
  refine (bytes7_no a0 a1 a2 l0 c0 l1 c1 l2 c2 _ h).mono ?_
  rintro e w' ⟨rfl, rfl⟩
  go_wp2
  go_ret
  exact ⟨rfl, Below.refl _ _⟩

set_option maxHeartbeats 1000000 in
set_option maxRecDepth 100000 in
theorem law3_mid (a0 a1 a2 : Option Addr) (l0 c0 l1 c1 l2 c2 : Nat) (w : World) (h : l0 + l1 + l2 ≤ 1048576) (h2 : 131072 < l0 + l1 + l2) :
    Calls Try.prog 3 #[.slice a0 l0 c0, .slice a1 l1 c1, .slice a2 l2 c2] w fun e w' => e = .returned (.bool true) ∧ Below w.heap.size w w' := by
  rcases (show (131072 < l0) ∨ (l0 ≤ 131072 ∧ 131072 < l1) ∨ (l0 ≤ 131072 ∧ l1 ≤ 131072 ∧ 131072 < l2) ∨ (l0 ≤ 131072 ∧ l1 ≤ 131072 ∧ l2 ≤ 131072) from by omega) with c | c | c | c
  all_goals
    go_enter Try.func3, Try.ntmps3
    go_wp2_with fail
    refine (bytes7_yes a0 a1 a2 l0 c0 l1 c1 l2 c2 _ h).mono ?_
    rintro e w' ⟨rfl, rfl⟩
    go_wp2
    go_ret
    exact ⟨rfl, Below.refl _ _⟩

set_option maxHeartbeats 1000000 in
set_option maxRecDepth 100000 in
theorem law3_zero (a0 a1 a2 : Option Addr) (c0 c1 c2 : Nat) (ids S N : List Int) (w : World) (h : ids.length + S.length + N.length ≤ 131072) (h0 : ids.length = 0) (g0 : Arg w a0 c0 ids) (g1 : Arg w a1 c1 S) (g2 : Arg w a2 c2 N) :
    Calls Try.prog 3 #[.slice a0 0 c0, .slice a1 S.length c1, .slice a2 N.length c2] w fun e w' => e = .returned (.bool true) ∧ Below w.heap.size w w' := by
  have hq := q22
  go_enter Try.func3, Try.ntmps3
  go_wp2_with fail
  refine (bytes7_yes a0 a1 a2 0 c0 S.length c1 N.length c2 _ (by omega)).mono ?_
  rintro e w' ⟨rfl, rfl⟩
  go_wp2_with fail
  have k0 := clone10 a0 c0 ids _ (by omega) g0
  rw [h0] at k0
  refine k0.mono ?_
  clear k0
  rintro e w1 ⟨a0', rfl, g0', hb1⟩
  have g1' := g1.below hb1
  have g2' := g2.below hb1
  go_wp2_with fail
  refine (clone11 a1 c1 S _ (by omega) g1').mono ?_
  rintro e w2 ⟨a1', rfl, g1'', hb2⟩
  have g2'' := g2'.below hb2
  clear g1' g2'
  go_wp2_with fail
  refine (clone11 a2 c2 N _ (by omega) g2'').mono ?_
  rintro e w3 ⟨a2', rfl, g2''', hb3⟩
  go_wp2_with fail
  refine (zz12_zero a0' a1' a2' 0 S.length S.length N.length N.length _).mono ?_
  rintro e w4 ⟨rfl, hb4⟩
  go_wp2
  go_ret
  refine ⟨rfl, ?_⟩
  have z1 := hb1.size
  have z2 := hb2.size
  have z3 := hb3.size
  exact ((hb1.trans (hb2.mono z1)).trans (hb3.mono (by omega))).trans (hb4.mono (by omega))

end Go.Proofs.Qxb6605323a
