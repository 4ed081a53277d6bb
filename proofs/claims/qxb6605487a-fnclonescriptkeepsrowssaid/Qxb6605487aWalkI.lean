import Derived.Test.Qxb6605487aWalkH
namespace Go.Proofs.Qxb6605487a
open Go.RowKit
set_option linter.unusedVariables false

theorem Cells.drewN {w : World} {a : Option Addr} {zs : List Int} (h : Cells w a zs) (k : Nat) : Cells (w.drewN k) a zs := by
  intro i z hz
  obtain ⟨b, o, hx, hc⟩ := h i z hz
  exact ⟨b, o, hx, hc⟩

theorem zz8_zero (a0 a2 : Option Addr) (l c0 : Nat) (left : Int) (w : World) :
    Calls Try.prog 8 #[.slice a0 l c0, .int .i64 left, .slice a2 0 0] w fun e w' => ∃ A : Option Addr, A.isNone = a2.isNone ∧
      e = .returned (.tuple #[.slice A 0 0, .slice a0 l c0, .int .i64 left]) ∧ Below w.heap.size w w' := by
  cases a2 with
  | none => exact zz8_nil a0 l c0 left w
  | some x => exact zz8_empty a0 l c0 x left w

set_option maxRecDepth 100000 in
set_option maxHeartbeats 4000000 in
/-- Nothing is asked for. -/
theorem law3_zero (a0 a2 : Option Addr) (l cap0 cap2 : Nat) (left : Int) (zs : List Int) (w : World) (hl : zs.length = l) (hl1 : l ≤ 524288) (h0 : Arg w a0 cap0 zs) (h2 : Arg w a2 cap2 []) :
    Calls Try.prog 3 #[.slice a0 l cap0, .int .i64 left, .slice a2 0 cap2] w fun e w' => e = .returned (.bool true) ∧ Below w.heap.size w w' := by
  have q1 : decide ((524288 : Int) < (l : Int)) = false := by simp; omega
  have q4 : ((l : Int) != (l : Int)) = false := by simp
  have q5 : (left != left) = false := by simp
  have hq := q22
  go_enter Try.func3, Try.ntmps3
  go_wp2_with fail
  refine (bytes6_yes _ _ _ _ _ _ _ _ (by omega)).mono ?_
  rintro e w' ⟨rfl, hw⟩
  obtain rfl := hw.symm
  go_wp2_with fail
  refine (copy7' a0 cap0 l zs w hl (by omega) h0).mono ?_
  rintro e w1 ⟨A0, rfl, -, r1, b1⟩
  obtain ⟨g0, hg0⟩ : ∃ g, w.heap.size = g := ⟨_, rfl⟩
  go_wp2_with fail
  refine (copy7' a2 cap2 0 [] w1 rfl (by omega) (h2.below b1)).mono ?_
  rintro e w2 ⟨A2, rfl, -, r2, b2⟩
  have s1 := b1.size
  have s2 := b2.size
  go_wp2_with fail
  refine (copy7' A0 l l zs w2 hl (by omega) (r1.below b2)).mono ?_
  rintro e w3 ⟨S0, rfl, -, r3, b3⟩
  have s3 := b3.size
  go_wp2_with fail
  refine (copy7' A2 0 0 [] w3 rfl (by omega) (r2.below b3)).mono ?_
  rintro e w4 ⟨S2, rfl, -, r4, b4⟩
  have s4 := b4.size
  have u0 : Arg w4 A0 l zs := ((r1.below b2).below b3).below b4
  have u3 : Arg w4 S0 l zs := r3.below b4
  have bb : Below g0 w w4 := by
    have c1 : Below g0 w w1 := by rw [← hg0]; exact b1
    exact ((c1.trans (b2.mono (by omega))).trans (b3.mono (by omega))).trans (b4.mono (by omega))
  have z4 : g0 ≤ w4.heap.size := by omega
  clear r1 r2 r3 r4 b1 b2 b3 b4 h0 h2 s1 s2 s3 s4
  go_wp2_with fail
  refine (zz8_zero A0 A2 l l left w4).mono ?_
  rintro e w5 ⟨A, hA, rfl, b5⟩
  obtain ⟨p, hp⟩ : ∃ p, A2.isNone = p := ⟨_, rfl⟩
  obtain ⟨p0, hp0⟩ : ∃ p, A0.isNone = p := ⟨_, rfl⟩
  rw [hp] at hA
  have hpp : (p != p) = false := by simp
  have hpp0 : (p0 != p0) = false := by simp
  have v0 := u0.below b5
  have v3 := u3.cells.below b5
  have bb5 : Below g0 w w5 := bb.trans (b5.mono z4)
  have z5 : g0 ≤ w5.heap.size := Nat.le_trans z4 b5.size
  clear b5 u0 u3 bb z4
  go_wp2_with fail
  refine (eq9 _ _ _ _ 0 [] w5 rfl (by omega) (Cells.nil _ _) (Cells.nil _ _)).mono ?_
  rintro e w6 ⟨rfl, b6⟩
  have bb6 : Below g0 w w6 := bb5.trans (b6.mono z5)
  have z6 : g0 ≤ w6.heap.size := Nat.le_trans z5 b6.size
  have y0 := (v0.cells).below b6
  have y3 := v3.below b6
  have hex := v0.cells.ex
  have HEX : Hid _ := hex
  have Y0 : Hid (Cells w6 A0 zs) := y0
  have Y3 : Hid (Cells w6 S0 zs) := y3
  have BB6 : Hid (Below g0 w w6) := bb6
  have Z6 : Hid (g0 ≤ w6.heap.size) := z6
  have HZ : Hid (zs.length = l) := hl
  have hm' : l ≤ 1048576 := by omega
  clear b6 v0 v3 bb5 z5 hex y0 y3 bb6 z6 hl
  have pn := ptr_nsame
  by_cases hl0 : l = 0
  · obtain rfl : l = 0 := hl0
    go_wp2_with fail
    go_quiet (fail)
    go_wp2_with fail
    refine (eq9 _ _ _ _ _ zs _ HZ.out hm' (Y0.out.drewN _) (Y3.out.drewN _)).mono ?_
    rintro e w7 ⟨rfl, b7⟩
    have bb7 : Below g0 w w7 := (below_drewN BB6.out _).trans (b7.mono Z6.out)
    have z7 : g0 ≤ w7.heap.size := Nat.le_trans Z6.out b7.size
    clear b7
    go_wp2_with fail
    refine (eq9 _ _ _ _ 0 [] w7 rfl (by omega) (Cells.nil _ _) (Cells.nil _ _)).mono ?_
    rintro e w8 ⟨rfl, b8⟩
    have bb8 : Below g0 w w8 := bb7.trans (b8.mono z7)
    rw [← hg0] at bb8
    have BB8 : Hid (Below w.heap.size w w8) := bb8
    clear b8 bb8 bb7
    go_wp2
    go_ret
    exact ⟨rfl, BB8.out⟩
  · obtain ⟨b, o, hx⟩ := HEX.out (by rw [HZ.out]; omega)
    subst hx
    have k1 : (0 : Int) < (l : Int) := by omega
    have k2 : decide (0 < l) = true := by simp; omega
    clear HEX
    go_wp2_with fail
    go_quiet (fail)
    go_wp2_with fail
    refine (eq9 _ _ _ _ _ zs _ HZ.out hm' (Y0.out.drewN _) (Y3.out.drewN _)).mono ?_
    rintro e w7 ⟨rfl, b7⟩
    have bb7 : Below g0 w w7 := (below_drewN BB6.out _).trans (b7.mono Z6.out)
    have z7 : g0 ≤ w7.heap.size := Nat.le_trans Z6.out b7.size
    clear b7
    go_wp2_with fail
    refine (eq9 _ _ _ _ 0 [] w7 rfl (by omega) (Cells.nil _ _) (Cells.nil _ _)).mono ?_
    rintro e w8 ⟨rfl, b8⟩
    have bb8 : Below g0 w w8 := bb7.trans (b8.mono z7)
    rw [← hg0] at bb8
    have BB8 : Hid (Below w.heap.size w w8) := bb8
    clear b8 bb8 bb7
    go_wp2
    go_ret
    exact ⟨rfl, BB8.out⟩
end Go.Proofs.Qxb6605487a
