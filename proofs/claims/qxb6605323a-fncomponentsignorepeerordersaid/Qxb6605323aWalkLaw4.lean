import Derived.Test.Qxb6605323aWalkPre
import Derived.Test.Qxb6605323aWalkB
import Derived.Test.Qxb6605323aPlainPeer
namespace Go.Proofs.Qxb6605323a
open Go.RowKit
set_option linter.unusedVariables false

/-! ### the ways that answer true at once -/
set_option maxHeartbeats 1000000 in
set_option maxRecDepth 100000 in
theorem law4_big (a0 a1 a2 a3 : Option Addr) (l0 c0 l1 c1 l2 c2 l3 c3 : Nat) (w : World) (h : 1048576 < l0 + l1 + l2 + l3) :
    Calls Try.prog 4 #[.slice a0 l0 c0, .slice a1 l1 c1, .slice a2 l2 c2, .slice a3 l3 c3] w fun e w' => e = .returned (.bool true) ∧ Below w.heap.size w w' := by
  go_enter Try.func4, Try.ntmps4
  go_wp2_with fail
  refine (bytes15_no a0 a1 a2 a3 l0 c0 l1 c1 l2 c2 l3 c3 _ h).mono ?_
  rintro e w' ⟨rfl, rfl⟩
  go_wp2
  go_ret
  exact ⟨rfl, Below.refl _ _⟩

set_option maxHeartbeats 1000000 in
set_option maxRecDepth 100000 in
theorem law4_mid (a0 a1 a2 a3 : Option Addr) (l0 c0 l1 c1 l2 c2 l3 c3 : Nat) (w : World) (h : l0 + l1 + l2 + l3 ≤ 1048576) (h2 : 131072 < l0 + l1 + l2 + l3) :
    Calls Try.prog 4 #[.slice a0 l0 c0, .slice a1 l1 c1, .slice a2 l2 c2, .slice a3 l3 c3] w fun e w' => e = .returned (.bool true) ∧ Below w.heap.size w w' := by
  rcases (show (131072 < l0) ∨ (l0 ≤ 131072 ∧ 131072 < l1) ∨ (l0 ≤ 131072 ∧ l1 ≤ 131072 ∧ 131072 < l2) ∨ (l0 ≤ 131072 ∧ l1 ≤ 131072 ∧ l2 ≤ 131072 ∧ 131072 < l3) ∨ (l0 ≤ 131072 ∧ l1 ≤ 131072 ∧ l2 ≤ 131072 ∧ l3 ≤ 131072) from by omega) with c | c | c | c | c
  all_goals
    go_enter Try.func4, Try.ntmps4
    go_wp2_with fail
    refine (bytes15_yes a0 a1 a2 a3 l0 c0 l1 c1 l2 c2 l3 c3 _ h).mono ?_
    rintro e w' ⟨rfl, rfl⟩
    go_wp2
    go_ret
    exact ⟨rfl, Below.refl _ _⟩

/-- 'make([]int64, 0)' and 'make([]int, 0)': one new block. -/
theorem make_none (t e : TypeId) (ht : Try.prog.underlying t = some (.slice e)) (hi : (Try.prog.info? e).map (fun i => (i.zero, i.size, i.bytes)) = some (some (.int .i64 0), 1, 8)) :
    ∃ cur : Array Value, ∀ w : World, (Instr.makeSlice t (.int .i64 0) (.int .i64 0)).run Try.prog w = .ok (.slice (some ⟨w.heap.size, 0, none⟩) 0 0) (w.alloc (.cells cur e)) := by
  obtain ⟨i0, hi0, hz0, hz1, hz2⟩ := info_parts hi
  refine ⟨madeCells (Value.int .i64 0).cells (0 * 1), fun w => ?_⟩
  have := run_make (P := Try.prog) w t e i0 (.int .i64 0) ht hi0 hz0 .i64 .i64 0 0 (by omega) (by omega) (by omega) (by omega)
  rw [hz1] at this
  simpa using this

set_option maxHeartbeats 2000000 in
set_option maxRecDepth 100000 in
theorem law4_zero (a0 a1 a2 a3 : Option Addr) (c0 c1 c2 c3 : Nat) (ids S N P : List Int) (w : World) (h : ids.length + S.length + N.length + P.length ≤ 131072) (h0 : ids.length = 0) (g0 : Arg w a0 c0 ids) (g1 : Arg w a1 c1 S) (g2 : Arg w a2 c2 N) (g3 : Arg w a3 c3 P) :
    Calls Try.prog 4 #[.slice a0 0 c0, .slice a1 S.length c1, .slice a2 N.length c2, .slice a3 P.length c3] w fun e w' => e = .returned (.bool true) ∧ Below w.heap.size w w' := by
  have hq := q22
  obtain ⟨cu2, hk2⟩ := make_none 22 2 Try.underlying22 Try.info2
  obtain ⟨cu3, hk3⟩ := make_none 23 3 Try.underlying23 Try.info3
  go_enter Try.func4, Try.ntmps4
  go_wp2_with fail
  refine (bytes15_yes a0 a1 a2 a3 0 c0 S.length c1 N.length c2 P.length c3 _ (by omega)).mono ?_
  rintro e w' ⟨rfl, hw⟩
  obtain rfl := hw.symm
  clear hw
  by_cases hP : P.length = 0
  · have HP : Hid (P.length = 0) := hP
    rw [hP]
    have k16 := isPerm16 a3 c3 P w (by omega) g3.cells
    rw [hP] at k16
    clear hP
    go_wp2_with fail
    refine k16.mono ?_
    clear k16
    rintro e w1 ⟨⟨b, rfl, _⟩, hb1⟩
    cases b
    · go_wp2
      go_ret
      exact ⟨rfl, hb1⟩
    go_wp2_with fail
    refine wp_loop_rounds 1 ?_
    rw [rounds_succ]
    go_wp2_with fail
    refine (sort14_short _ 0 0 _ (by omega)).mono ?_
    rintro e w2 ⟨rfl, hw2⟩
    have hb2 : Below w.heap.size w w2 := by rw [hw2]; exact hb1.alloc hb1.size _
    clear hw2 hb1
    go_wp2_with fail
    refine wp_loop_rounds 1 ?_
    rw [rounds_succ]
    go_wp2_with fail
    have k0 := clone10 a0 c0 ids w2 (by omega) (g0.below hb2)
    rw [h0] at k0
    refine k0.mono ?_
    clear k0
    rintro e w3 ⟨a0', rfl, g0', hb3⟩
    have hb3' : Below w.heap.size w w3 := hb2.trans (hb3.mono hb2.size)
    clear g0' hb2 hb3
    go_wp2_with fail
    refine (clone11 a1 c1 S _ (by omega) (g1.below hb3')).mono ?_
    rintro e w4 ⟨a1', rfl, g1', hb4⟩
    have hb4' : Below w.heap.size w w4 := hb3'.trans (hb4.mono hb3'.size)
    clear g1' hb3' hb4
    go_wp2_with fail
    refine (clone11 a2 c2 N _ (by omega) (g2.below hb4')).mono ?_
    rintro e w5 ⟨a2', rfl, g2', hb5⟩
    have hb5' : Below w.heap.size w w5 := hb4'.trans (hb5.mono hb4'.size)
    clear g2' hb4' hb5
    go_wp2_with fail
    have k3 := clone11 a3 c3 P w5 (by omega) (g3.below hb5')
    rw [HP.out] at k3
    refine k3.mono ?_
    clear k3
    rintro e w6 ⟨a3', rfl, g3', hb6⟩
    have hb6' : Below w.heap.size w w6 := hb5'.trans (hb6.mono hb5'.size)
    clear g3' hb5' hb6
    go_wp2_with fail
    refine wp_loop_rounds 1 ?_
    rw [rounds_succ]
    go_wp2_with fail
    have hb7 : Below w.heap.size w ((w6.alloc (.cells cu2 2)).alloc (.cells cu3 3)) := (hb6'.alloc hb6'.size _).alloc (by have := hb6'.size; simp; omega) _
    refine (zz12_zero a0' a1' a2' 0 S.length S.length N.length N.length _).mono ?_
    rintro e w8 ⟨rfl, hb8⟩
    have hb8' : Below w.heap.size w w8 := hb7.trans (hb8.mono hb7.size)
    clear hb7 hb8 hb6'
    go_wp2_with fail
    refine (zz12_zero _ none none 0 0 0 0 0 _).mono ?_
    rintro e w9 ⟨rfl, hb9⟩
    have hb9' : Below w.heap.size w w9 := hb8'.trans (hb9.mono hb8'.size)
    clear hb8' hb9
    go_wp2_with fail
    refine wp_loop_rounds 1 ?_
    rw [rounds_succ]
    go_wp2
    go_ret
    exact ⟨rfl, hb9'⟩
  · have x1 : ((P.length : Int) != 0) = true := by rw [bne_iff_ne]; omega
    go_wp2
    go_ret
    exact ⟨rfl, Below.refl _ _⟩

end Go.Proofs.Qxb6605323a
