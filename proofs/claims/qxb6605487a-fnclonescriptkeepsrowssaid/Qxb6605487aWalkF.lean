import Derived.Test.Qxb6605487aWalkE
import Derived.Lib.Builder
namespace Go.Proofs.Qxb6605487a
open Go.RowKit
set_option linter.unusedVariables false

theorem under28 : Try.prog.underlying 28 = some (.pointer 5) := by kernel_rfl
theorem ptr_same : ∀ (w : World) (a : Addr), (binOp .eql 28 (.pointer (some a)) (.pointer (some a))).run Try.prog w = .ok (.bool true) w := by
  intro w a
  obtain ⟨i0, hi, hz0, hz1, hz2⟩ := info_parts Try.info5
  exact run_eql_ptr_same w a under28 hi
theorem ptr_nsame : ∀ (w : World) (a : Addr), (binOp .neq 28 (.pointer (some a)) (.pointer (some a))).run Try.prog w = .ok (.bool false) w := by
  intro w a
  obtain ⟨i0, hi, hz0, hz1, hz2⟩ := info_parts Try.info5
  exact Lib.run_neq_ptr_same w a under28 hi
theorem ptr_other {w : World} {g h i j c d : Nat} {xs ys : List Int} (hx : UR w g 5 c xs) (hy : UR w h 5 d ys) (hne : g ≠ h) : ∀ k, (binOp .eql 28 (.pointer (some ⟨g, i, none⟩)) (.pointer (some ⟨h, j, none⟩))).run Try.prog (w.drewN k) = .ok (.bool false) (w.drewN k) := by
  intro k
  obtain ⟨i0, hi, hz0, hz1, hz2⟩ := info_parts Try.info5
  obtain ⟨ca, h1, _⟩ := hx
  obtain ⟨cb, h2, _⟩ := hy
  exact run_eql_ptr_other _ under28 hi (by omega) (fun e => hne (by cases e; rfl)) (ca := ca) (cb := cb) h1 h2

theorem Cells.front {w : World} {a : Option Addr} {xs ys : List Int} (h : Cells w a (xs ++ ys)) : Cells w a xs := by
  intro i z hz
  exact h i z (by rw [List.getElem?_append_left (List.getElem?_eq_some_iff.1 hz).1]; exact hz)

theorem Cells.back {w : World} {g o : Nat} {xs ys : List Int} (h : Cells w (some ⟨g, o, none⟩) (xs ++ ys)) {n : Nat} (hn : xs.length = n) : Cells w (some ⟨g, o + n, none⟩) ys := by
  intro i z hz
  have := h.at (i := n + i) (z := z) (by rw [List.getElem?_append_right (by omega), ← hz]; congr 1; omega)
  exact ⟨g, o + n, rfl, by rwa [← Nat.add_assoc] at this⟩

theorem front_set {w : World} {g c k n : Nat} {pre tail : List Int} (h : UR w g 5 c (pre ++ tail)) (hp : pre.length = n) (hk : k < n) (x : Int) :
    ∃ pre' : List Int, pre'.length = n ∧ UR (w.setCell ⟨g, k, none⟩ (.int .u8 x)) g 5 c (pre' ++ tail) :=
  ⟨pre.set k x, by simpa using hp, by rw [← List.set_append_left _ _ (by omega)]; exact h.set k x⟩

set_option maxRecDepth 100000 in
set_option maxHeartbeats 4000000 in
/-- The buffer has room: it is cut. -/
theorem law3_reuse (x0 x2 : Addr) (l n cap0 cap2 : Nat) (left : Int) (zs bs : List Int) (w : World) (hl : zs.length = l) (hn : bs.length = n) (hpos : 0 < n) (hnl : n < l) (hl1 : l ≤ 524288)
    (h0 : Cells w (some x0) zs) (h2 : Cells w (some x2) bs) :
    Calls Try.prog 3 #[.slice (some x0) l cap0, .int .i64 left, .slice (some x2) n cap2] w fun e w' => e = .returned (.bool true) ∧ Below w.heap.size w w' := by
  have q1 : decide ((524288 : Int) < (l : Int)) = false := by simp; omega
  have q2 : decide ((524288 : Int) < (n : Int)) = false := by simp; omega
  have q3 : ((n : Int) == 0) = false := by simp; omega
  have q4 : ((n : Int) != (n : Int)) = false := by simp
  have hq := q22
  go_enter Try.func3, Try.ntmps3
  go_wp2_with fail
  refine (bytes6_yes _ _ _ _ _ _ _ _ (by omega)).mono ?_
  rintro e w' ⟨rfl, hw⟩
  obtain rfl := hw.symm
  go_wp2_with fail
  have cc := copy7_some x0 cap0 zs w (by omega) h0
  rw [hl] at cc
  refine cc.mono ?_
  rintro e w1 ⟨rfl, r1, b1⟩
  clear cc
  obtain ⟨g0, hg0⟩ : ∃ g, w.heap.size = g := ⟨_, rfl⟩
  rw [hg0] at r1
  rw [hg0]
  have t1 := r1.lt
  go_wp2_with fail
  have cc := copy7_some x2 cap2 bs w1 (by omega) (h2.below b1)
  rw [hn] at cc
  refine cc.mono ?_
  rintro e w2 ⟨rfl, r2, b2⟩
  clear cc
  obtain ⟨g2, hg2⟩ : ∃ g, w1.heap.size = g := ⟨_, rfl⟩
  rw [hg2] at r2
  rw [hg2]
  have t2 := r2.lt
  go_wp2_with fail
  have cc := copy7_some ⟨g0, 0, none⟩ l zs w2 (by omega) (r1.below b2 t1).cells
  rw [hl] at cc
  refine cc.mono ?_
  rintro e w3 ⟨rfl, r3, b3⟩
  clear cc
  obtain ⟨s0, hs0⟩ : ∃ g, w2.heap.size = g := ⟨_, rfl⟩
  rw [hs0] at r3
  rw [hs0]
  have t3 := r3.lt
  go_wp2_with fail
  have cc := copy7_some ⟨g2, 0, none⟩ n bs w3 (by omega) (r2.below b3 t2).cells
  rw [hn] at cc
  refine cc.mono ?_
  rintro e w4 ⟨rfl, r4, b4⟩
  clear cc
  obtain ⟨s2, hs2⟩ : ∃ g, w3.heap.size = g := ⟨_, rfl⟩
  rw [hs2] at r4
  rw [hs2]
  have t4 := r4.lt
  have z1 : g0 < g2 := by omega
  have z2 : g2 < s0 := by omega
  have z3 : s0 < s2 := by omega
  have u0 : UR w4 g0 5 l zs := ((r1.below b2 (by omega)).below b3 (by omega)).below b4 (by omega)
  have u2 : UR w4 g2 5 n bs := (r2.below b3 (by omega)).below b4 (by omega)
  have u3 : UR w4 s0 5 l zs := r3.below b4 (by omega)
  have bb : Below g0 w w4 := by
    have c1 : Below g0 w w1 := by rw [← hg0]; exact b1
    exact ((c1.trans (b2.mono (by omega))).trans (b3.mono (by omega))).trans (b4.mono (by omega))
  clear r1 r2 r3 b1 b2 b3 b4 t1 t2 t3 h0 h2
  go_wp2_with fail
  refine (zz8_reuse g0 g2 l n left zs bs w4 hl hn hpos (by omega) hl1 u0 u2 (by omega)).mono ?_
  rintro e w5 ⟨rfl, v0, hg⟩
  have v2 := u2.keptP hg (by omega)
  have v3 := u3.keptP hg (by omega)
  have v4 := r4.keptP hg (by omega)
  have bb5 : Below g0 w w5 := bb.trans (hg.below (by omega) (by intro k hk; omega))
  clear u0 u2 u3 r4 hg bb
  have hm : n ≤ 1048576 := by omega
  have hm' : l ≤ 1048576 := by omega
  have V : Hid (s2 < w5.heap.size) := v4.lt
  clear t4
  go_wp2_with fail
  refine (eq9 _ _ _ _ n bs w5 hn hm v0.cells.front v4.cells).mono ?_
  rintro e w6 ⟨rfl, b6⟩
  have bb6 : Below g0 w w6 := bb5.trans (b6.mono (by have := V.out; omega))
  have y0 := v0.below b6 v0.lt
  have y2 := v2.below b6 v2.lt
  have y3 := v3.below b6 v3.lt
  have y4 := v4.below b6 v4.lt
  clear v0 v2 v3 v4 b6 bb5 V
  obtain ⟨A, hA⟩ : ∃ A, restAt g0 0 n l = A := ⟨_, rfl⟩
  rw [hA]
  have hA' : A = some ⟨g0, 0 + n, none⟩ := by
    rw [← hA]
    simp only [restAt]
    rw [if_neg (by omega)]
  subst hA'
  clear hA
  have k1 : (0 : Int) < (n : Int) := by omega
  have k2 : (0 : Int) < (l : Int) := by omega
  have k3 : ¬ g0 = g2 := by omega
  have k4 : decide ((n : Int) ≤ (l : Int)) = true := by simp; omega
  have k5 : decide (n ≤ l) = true := by simp; omega
  obtain ⟨d, hd⟩ : ∃ d, l - n = d := ⟨_, rfl⟩
  rw [hd]
  have k6 : (0 : Int) < (d : Int) := by omega
  have k6' : decide (0 < d) = true := by simp; omega
  have k7 : (n : Int) < (l : Int) := by omega
  have k8 : IntKind.i64.wrap ((l : Int) - (n : Int)) = (d : Int) := by rw [wrapI (by omega)]; omega
  have k9 : wrap64 ((l : Int) - (n : Int)) = (d : Int) := by
    unfold wrap64
    omega
  have HD : Hid (l - n = d) := hd
  clear hd
  have ps := ptr_same
  have pn := ptr_nsame
  have po := ptr_other (i := 0) (j := 0) y0 y2 k3
  have po0 := po 0
  go_wp2_with fail
  go_quiet (fail)
  go_wp2_with fail
  go_quiet (fail)
  go_wp2_with fail
  go_quiet (fail)
  go_wp2_with fail
  have Y0 : Hid (UR w6 g0 5 l (bs ++ zs.drop n)) := y0
  have Y2 : Hid (UR w6 g2 5 n bs) := y2
  have Y3 : Hid (UR w6 s0 5 l zs) := y3
  have Y4 : Hid (UR w6 s2 5 n bs) := y4
  have BB : Hid (Below g0 w w6) := bb6
  have HZ : Hid (zs.length = l ∧ bs.length = n) := ⟨hl, hn⟩
  have ht : (zs.drop n).length = d := by have := HD.out; simp; omega
  have HT : Hid ((zs.drop n).length = d) := ht
  clear y0 y2 y3 y4 bb6 hl hn ht ps pn po po0
  go_loopw [14] (fun i wr => ∃ k : Nat, k ≤ n ∧ i = .int .i64 k ∧ (∃ pre : List Int, pre.length = n ∧ UR wr g0 5 l (pre ++ zs.drop n)) ∧ GrownP (fun k => k = g0) w6 wr) (fun i _ => n - (intOf i).toNat)
  case atStart => exact ⟨0, Nat.zero_le _, rfl, ⟨bs, HZ.out.2, (Y0.out.drewN _).drewN _⟩, ((GrownP.refl _ w6).drewN _).drewN _⟩
  case round =>
    obtain ⟨k, hk, rfl, ⟨pre, hp, hr⟩, hg⟩ := hrel
    by_cases hlt : k < n
    · obtain ⟨z, hz⟩ : ∃ z, pre[k]? = some z := ⟨_, List.getElem?_eq_getElem (by omega)⟩
      have hc : wr.cell? ⟨g0, k, none⟩ = some (.int .u8 z) := hr.cell (by rw [List.getElem?_append_left (by omega)]; exact hz)
      have hf := hr.frozen k
      have hs := fun x => front_set hr hp hlt x
      have HS : Hid _ := hs
      have HG : Hid (GrownP (fun k => k = g0) w6 wr) := hg
      clear hr hs hg hp hz
      go_wp2
      go_roundw
      case rel => exact ⟨k + 1, by omega, by go_num, HS.out _, HG.out.set (.inl rfl) _⟩
      case measure => simp [intOf]; omega
    · obtain rfl : n = k := by omega
      have d2 := Y2.out.keptP hg (by omega)
      have d3 := Y3.out.keptP hg (by omega)
      have d4 := Y4.out.keptP hg (by omega)
      have bb : Below g0 w wr := BB.out.trans (hg.below (by have := Y4.out.lt; omega) (by intro k hk; omega))
      have c1 := d2.cells
      have c2 := d4.cells
      have c3 := hr.cells.back hp
      have c4 : Cells wr (some ⟨s0, 0 + n, none⟩) (zs.drop n) := by
        have := d3.cells
        rw [← List.take_append_drop n zs] at this
        exact this.back (by have := HZ.out.1; simp; omega)
      have e2 := And.intro hr.lt d4.lt
      clear hg hr d2 d3 d4
      rw [Nat.zero_add] at c3 c4
      have p1 : (n : Int) ≤ (l : Int) := by omega
      have p2 : ¬ l = n := by omega
      have p3 : l - n = d := HD.out
      go_wp2_with fail
      refine (eq9 _ _ _ _ n bs wr HZ.out.2 hm c1 c2).mono ?_
      rintro e w8 ⟨rfl, b8⟩
      have c3' := c3.below b8
      have c4' := c4.below b8
      have bb8 : Below g0 w w8 := bb.trans (b8.mono (by have := e2.1; omega))
      have e3 : g0 ≤ w8.heap.size := by have := b8.size; have := e2.1; omega
      clear c1 c2 c3 c4 b8 bb e2
      go_wp2_with fail
      refine (eq9 _ _ _ _ d (zs.drop n) w8 HT.out (by omega) c3' c4').mono ?_
      rintro e w9 ⟨rfl, b9⟩
      have bb9 : Below g0 w w9 := bb8.trans (b9.mono e3)
      rw [← hg0] at bb9
      have BB9 : Hid (Below w.heap.size w w9) := bb9
      clear c3' c4' b9 bb9
      go_wp2
      go_ret
      exact ⟨rfl, BB9.out⟩
end Go.Proofs.Qxb6605487a
