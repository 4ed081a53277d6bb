import Derived.Test.Qxb6605487aWalkF
namespace Go.Proofs.Qxb6605487a
open Go.RowKit
set_option linter.unusedVariables false

set_option maxRecDepth 100000 in
set_option maxHeartbeats 4000000 in
/-- The buffer is used up to its last byte. -/
theorem law3_all (x0 x2 : Addr) (n cap0 cap2 : Nat) (left : Int) (zs bs : List Int) (w : World) (hl : zs.length = n) (hn : bs.length = n) (hpos : 0 < n) (hl1 : n ≤ 524288)
    (h0 : Cells w (some x0) zs) (h2 : Cells w (some x2) bs) :
    Calls Try.prog 3 #[.slice (some x0) n cap0, .int .i64 left, .slice (some x2) n cap2] w fun e w' => e = .returned (.bool true) ∧ Below w.heap.size w w' := by
  have q1 : decide ((524288 : Int) < (n : Int)) = false := by simp; omega
  have q3 : ((n : Int) == 0) = false := by simp; omega
  have q4 : ((n : Int) != (n : Int)) = false := by simp
  have hq := q22
  go_enter Try.func3, Try.ntmps3
  go_wp2_with fail
  refine (bytes6_yes _ _ _ _ _ _ _ _ (by omega)).mono ?_
  rintro e w' ⟨rfl, hw⟩
  obtain rfl := hw.symm
  go_wp2_with fail
  have cc := copy7_some x0 cap0 zs w (by omega) h0
  rw [hl] at cc
  refine cc.mono ?_
  rintro e w1 ⟨rfl, r1, b1⟩
  clear cc
  obtain ⟨g0, hg0⟩ : ∃ g, w.heap.size = g := ⟨_, rfl⟩
  rw [hg0] at r1
  rw [hg0]
  have t1 := r1.lt
  go_wp2_with fail
  have cc := copy7_some x2 cap2 bs w1 (by omega) (h2.below b1)
  rw [hn] at cc
  refine cc.mono ?_
  rintro e w2 ⟨rfl, r2, b2⟩
  clear cc
  obtain ⟨g2, hg2⟩ : ∃ g, w1.heap.size = g := ⟨_, rfl⟩
  rw [hg2] at r2
  rw [hg2]
  have t2 := r2.lt
  go_wp2_with fail
  have cc := copy7_some ⟨g0, 0, none⟩ n zs w2 (by omega) (r1.below b2 t1).cells
  rw [hl] at cc
  refine cc.mono ?_
  rintro e w3 ⟨rfl, r3, b3⟩
  clear cc
  obtain ⟨s0, hs0⟩ : ∃ g, w2.heap.size = g := ⟨_, rfl⟩
  rw [hs0] at r3
  rw [hs0]
  have t3 := r3.lt
  go_wp2_with fail
  have cc := copy7_some ⟨g2, 0, none⟩ n bs w3 (by omega) (r2.below b3 t2).cells
  rw [hn] at cc
  refine cc.mono ?_
  rintro e w4 ⟨rfl, r4, b4⟩
  clear cc
  obtain ⟨s2, hs2⟩ : ∃ g, w3.heap.size = g := ⟨_, rfl⟩
  rw [hs2] at r4
  rw [hs2]
  have t4 := r4.lt
  have z1 : g0 < g2 := by omega
  have z2 : g2 < s0 := by omega
  have z3 : s0 < s2 := by omega
  have u0 : UR w4 g0 5 n zs := ((r1.below b2 (by omega)).below b3 (by omega)).below b4 (by omega)
  have u2 : UR w4 g2 5 n bs := (r2.below b3 (by omega)).below b4 (by omega)
  have u3 : UR w4 s0 5 n zs := r3.below b4 (by omega)
  have bb : Below g0 w w4 := by
    have c1 : Below g0 w w1 := by rw [← hg0]; exact b1
    exact ((c1.trans (b2.mono (by omega))).trans (b3.mono (by omega))).trans (b4.mono (by omega))
  clear r1 r2 r3 b1 b2 b3 b4 t1 t2 t3 h0 h2
  go_wp2_with fail
  refine (zz8_reuse g0 g2 n n left zs bs w4 hl hn hpos (Nat.le_refl _) hl1 u0 u2 (by omega)).mono ?_
  rintro e w5 ⟨rfl, v0, hg⟩
  have v2 := u2.keptP hg (by omega)
  have v3 := u3.keptP hg (by omega)
  have v4 := r4.keptP hg (by omega)
  have bb5 : Below g0 w w5 := bb.trans (hg.below (by omega) (by intro k hk; omega))
  clear u0 u2 u3 r4 hg bb
  have hm : n ≤ 1048576 := by omega
  have hm' : n ≤ 1048576 := by omega
  have V : Hid (s2 < w5.heap.size) := v4.lt
  clear t4
  go_wp2_with fail
  refine (eq9 _ _ _ _ n bs w5 hn hm v0.cells.front v4.cells).mono ?_
  rintro e w6 ⟨rfl, b6⟩
  have bb6 : Below g0 w w6 := bb5.trans (b6.mono (by have := V.out; omega))
  have y0 := v0.below b6 v0.lt
  have y2 := v2.below b6 v2.lt
  have y3 := v3.below b6 v3.lt
  have y4 := v4.below b6 v4.lt
  clear v0 v2 v3 v4 b6 bb5 V
  obtain ⟨A, hA⟩ : ∃ A, restAt g0 0 n n = A := ⟨_, rfl⟩
  rw [hA]
  have hA' : A = some ⟨g0, 0, none⟩ := by
    rw [← hA]
    simp [restAt]
  subst hA'
  clear hA
  have k1 : (0 : Int) < (n : Int) := by omega
  have k2 : (0 : Int) < (n : Int) := by omega
  have k3 : ¬ g0 = g2 := by omega
  have k9 : wrap64 0 = 0 := by unfold wrap64; omega
  have k8 : IntKind.i64.wrap 0 = 0 := wrapI (by omega)
  have ps := ptr_same
  have pn := ptr_nsame
  have po := ptr_other (i := 0) (j := 0) y0 y2 k3
  have po0 := po 0
  go_wp2_with fail
  go_quiet (fail)
  go_wp2_with fail
  go_quiet (fail)
  go_wp2_with fail
  go_quiet (fail)
  go_wp2_with fail
  have Y0 : Hid (UR w6 g0 5 n (bs ++ zs.drop n)) := y0
  have Y2 : Hid (UR w6 g2 5 n bs) := y2
  have Y3 : Hid (UR w6 s0 5 n zs) := y3
  have Y4 : Hid (UR w6 s2 5 n bs) := y4
  have BB : Hid (Below g0 w w6) := bb6
  have HZ : Hid (zs.length = n ∧ bs.length = n) := ⟨hl, hn⟩
  clear y0 y2 y3 y4 bb6 hl hn ps pn po po0
  go_loopw [14] (fun i wr => ∃ k : Nat, k ≤ n ∧ i = .int .i64 k ∧ (∃ pre : List Int, pre.length = n ∧ UR wr g0 5 n (pre ++ zs.drop n)) ∧ GrownP (fun k => k = g0) w6 wr) (fun i _ => n - (intOf i).toNat)
  case atStart => exact ⟨0, Nat.zero_le _, rfl, ⟨bs, HZ.out.2, (Y0.out.drewN _).drewN _⟩, ((GrownP.refl _ w6).drewN _).drewN _⟩
  case round =>
    obtain ⟨k, hk, rfl, ⟨pre, hp, hr⟩, hg⟩ := hrel
    by_cases hlt : k < n
    · obtain ⟨z, hz⟩ : ∃ z, pre[k]? = some z := ⟨_, List.getElem?_eq_getElem (by omega)⟩
      have hc : wr.cell? ⟨g0, k, none⟩ = some (.int .u8 z) := hr.cell (by rw [List.getElem?_append_left (by omega)]; exact hz)
      have hf := hr.frozen k
      have hs := fun x => front_set hr hp hlt x
      have HS : Hid _ := hs
      have HG : Hid (GrownP (fun k => k = g0) w6 wr) := hg
      clear hr hs hg hp hz
      go_wp2
      go_roundw
      case rel => exact ⟨k + 1, by omega, by go_num, HS.out _, HG.out.set (.inl rfl) _⟩
      case measure => simp [intOf]; omega
    · obtain rfl : n = k := by omega
      have d2 := Y2.out.keptP hg (by omega)
      have d3 := Y3.out.keptP hg (by omega)
      have d4 := Y4.out.keptP hg (by omega)
      have bb : Below g0 w wr := BB.out.trans (hg.below (by have := Y4.out.lt; omega) (by intro k hk; omega))
      have c1 := d2.cells
      have c2 := d4.cells
      have e2 := And.intro hr.lt d4.lt
      clear hg hr d2 d3 d4
      go_wp2_with fail
      refine (eq9 _ _ _ _ n bs wr HZ.out.2 hm c1 c2).mono ?_
      rintro e w8 ⟨rfl, b8⟩
      have bb8 : Below g0 w w8 := bb.trans (b8.mono (by have := e2.1; omega))
      have e3 : g0 ≤ w8.heap.size := by have := b8.size; have := e2.1; omega
      clear c1 c2 b8 bb e2
      go_wp2_with fail
      refine (eq9 _ _ _ _ 0 [] w8 rfl (by omega) (Cells.nil _ _) (Cells.nil _ _)).mono ?_
      rintro e w9 ⟨rfl, b9⟩
      have bb9 : Below g0 w w9 := bb8.trans (b9.mono e3)
      rw [← hg0] at bb9
      have BB9 : Hid (Below w.heap.size w w9) := bb9
      clear b9 bb9
      go_wp2
      go_ret
      exact ⟨rfl, BB9.out⟩
end Go.Proofs.Qxb6605487a
