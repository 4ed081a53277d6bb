import Derived.Test.Qxb6605487aWalkG
namespace Go.Proofs.Qxb6605487a
open Go.RowKit
set_option linter.unusedVariables false

/-- zzCopy of whatever argument, in one form. -/
theorem copy7' (a : Option Addr) (cap n : Nat) (zs : List Int) (w : World) (hn : zs.length = n) (hm : n ≤ 1048576) (h : Arg w a cap zs) :
    Calls Try.prog 7 #[.slice a n cap] w fun e w' => ∃ A : Option Addr, e = .returned (.slice A n n) ∧ A.isNone = a.isNone ∧ Arg w' A n zs ∧ Below w.heap.size w w' := by
  subst hn
  cases a with
  | none =>
    obtain ⟨rfl, rfl⟩ := h.nil rfl
    refine (copy7_nil w).mono ?_
    rintro e w' ⟨rfl, rfl⟩
    exact ⟨none, rfl, rfl, ⟨Cells.nil _ _, fun _ => ⟨rfl, rfl⟩, Nat.le_refl _⟩, Below.refl _ _⟩
  | some x =>
    refine (copy7_some x cap zs w hm h.cells).mono ?_
    rintro e w' ⟨rfl, hr, hb⟩
    exact ⟨_, rfl, rfl, ⟨hr.cells, (fun h => by cases h), Nat.le_refl _⟩, hb⟩

theorem rest_cells {w : World} {G n M : Nat} {pre : List Int} (hr : UR w G 5 M (pre ++ List.replicate (M - n) 0)) (hp : pre.length = n) : Cells w (restAt G 0 n M) (List.replicate (M - n) 0) := by
  unfold restAt
  by_cases h : M = n
  · subst h
    simp
    exact Cells.nil _ _
  · rw [if_neg h]
    exact hr.cells.back hp

set_option maxRecDepth 100000 in
set_option maxHeartbeats 4000000 in
/-- The buffer has no room: a new one is made. -/
theorem law3_fresh (a0 : Option Addr) (x2 : Addr) (l n cap0 cap2 : Nat) (left : Int) (zs bs : List Int) (w : World) (hl : zs.length = l) (hn : bs.length = n) (hnl : l < n) (hn1 : n ≤ 524288)
    (h0 : Arg w a0 cap0 zs) (h2 : Cells w (some x2) bs) :
    Calls Try.prog 3 #[.slice a0 l cap0, .int .i64 left, .slice (some x2) n cap2] w fun e w' => e = .returned (.bool true) ∧ Below w.heap.size w w' := by
  have q1 : decide ((524288 : Int) < (l : Int)) = false := by simp; omega
  have q2 : decide ((524288 : Int) < (n : Int)) = false := by simp; omega
  have q3 : ((n : Int) == 0) = false := by simp; omega
  have q4 : ((n : Int) != (n : Int)) = false := by simp
  have hq := q22
  go_enter Try.func3, Try.ntmps3
  go_wp2_with fail
  refine (bytes6_yes _ _ _ _ _ _ _ _ (by omega)).mono ?_
  rintro e w' ⟨rfl, hw⟩
  obtain rfl := hw.symm
  go_wp2_with fail
  refine (copy7' a0 cap0 l zs w hl (by omega) h0).mono ?_
  rintro e w1 ⟨A0, rfl, -, r1, b1⟩
  obtain ⟨g0, hg0⟩ : ∃ g, w.heap.size = g := ⟨_, rfl⟩
  go_wp2_with fail
  have cc := copy7_some x2 cap2 bs w1 (by omega) (h2.below b1)
  rw [hn] at cc
  refine cc.mono ?_
  rintro e w2 ⟨rfl, r2, b2⟩
  clear cc
  obtain ⟨g2, hg2⟩ : ∃ g, w1.heap.size = g := ⟨_, rfl⟩
  rw [hg2] at r2
  rw [hg2]
  have t2 := r2.lt
  have s1 := b1.size
  go_wp2_with fail
  refine (copy7' A0 l l zs w2 hl (by omega) (r1.below b2)).mono ?_
  rintro e w3 ⟨S0, rfl, -, r3, b3⟩
  have s3 := b3.size
  go_wp2_with fail
  have cc := copy7_some ⟨g2, 0, none⟩ n bs w3 (by omega) (r2.below b3 t2).cells
  rw [hn] at cc
  refine cc.mono ?_
  rintro e w4 ⟨rfl, r4, b4⟩
  clear cc
  obtain ⟨s2, hs2⟩ : ∃ g, w3.heap.size = g := ⟨_, rfl⟩
  rw [hs2] at r4
  rw [hs2]
  have t4 := r4.lt
  have u0 : Arg w4 A0 l zs := ((r1.below b2).below b3).below b4
  have u2 : UR w4 g2 5 n bs := (r2.below b3 (by omega)).below b4 (by omega)
  have u3 : Arg w4 S0 l zs := r3.below b4
  have bb : Below g0 w w4 := by
    have c1 : Below g0 w w1 := by rw [← hg0]; exact b1
    exact ((c1.trans (b2.mono (by omega))).trans (b3.mono (by omega))).trans (b4.mono (by omega))
  clear r1 r2 r3 b1 b2 b3 b4 h0 h2
  obtain ⟨M, hM⟩ : ∃ M : Nat, (M : Int) = max (n : Int) (min 8192 left) := ⟨(max (n : Int) (min 8192 left)).toNat, by omega⟩
  go_wp2_with fail
  refine (zz8_fresh A0 g2 l l n M left bs w4 hn hnl hn1 hM u2).mono ?_
  rintro e w5 ⟨G, hG, rfl, v0, b5⟩
  have v2 := u2.below b5 u2.lt
  have U0 : Hid (Cells w4 A0 zs) := u0.cells
  have U3 : Hid (Cells w4 S0 zs) := u3.cells
  have B5 : Hid (Below w4.heap.size w4 w5) := b5
  have v4 := r4.below b5 r4.lt
  have bb5 : Below g0 w w5 := bb.trans (b5.mono (by omega))
  clear u0 u2 u3 r4 bb
  have hm : n ≤ 1048576 := by omega
  have hm' : l ≤ 1048576 := by omega
  have z5 : g0 ≤ w5.heap.size := by have := b5.size; omega
  have hGg : ¬ G = g2 := by omega
  have hgG : g0 ≤ G := by omega
  have hs2G : ¬ s2 = G := by omega
  clear b5
  obtain ⟨A, hA⟩ : ∃ A, restAt G 0 n M = A := ⟨_, rfl⟩
  obtain ⟨d, hd⟩ : ∃ d, M - n = d := ⟨_, rfl⟩
  rw [hA, hd]
  have HA : Hid (restAt G 0 n M = A) := hA
  have HD : Hid (M - n = d) := hd
  have HM : Hid ((M : Int) = max (n : Int) (min 8192 left)) := hM
  clear hA hd hM
  go_wp2_with fail
  refine (eq9 _ _ _ _ n bs w5 hn hm v0.cells.front v4.cells).mono ?_
  rintro e w6 ⟨rfl, b6⟩
  have bb6 : Below g0 w w6 := bb5.trans (b6.mono z5)
  have z6 : g0 ≤ w6.heap.size := by have := b6.size; omega
  have y0 := v0.below b6 v0.lt
  have y2 := v2.below b6 v2.lt
  have B6 : Hid (Below w4.heap.size w4 w6) := B5.out.trans (b6.mono B5.out.size)
  have y4 := v4.below b6 v4.lt
  clear v0 v2 v4 b6 bb5 B5
  have k1 : (0 : Int) < (n : Int) := by omega
  have k4 : decide ((n : Int) ≤ (l : Int)) = false := by simp; omega
  have k5 : decide (n ≤ l) = false := by simp; omega
  have po := ptr_other (i := 0) (j := 0) y0 y2 hGg
  have po0 := po 0
  go_wp2_with fail
  go_quiet (fail)
  go_wp2_with fail
  have Y0 : Hid (UR w6 G 5 M (bs ++ List.replicate (M - n) 0)) := y0
  have Y2 : Hid (UR w6 g2 5 n bs) := y2
  have Y4 : Hid (UR w6 s2 5 n bs) := y4
  have BB : Hid (Below g0 w w6) := bb6
  have HZ : Hid (zs.length = l ∧ bs.length = n) := ⟨hl, hn⟩
  clear y0 y2 y4 bb6 hl hn po po0
  go_loopw [14] (fun i wr => ∃ k : Nat, k ≤ n ∧ i = .int .i64 k ∧ (∃ pre : List Int, pre.length = n ∧ UR wr G 5 M (pre ++ List.replicate (M - n) 0)) ∧ GrownP (fun k => k = G) w6 wr) (fun i _ => n - (intOf i).toNat)
  case atStart => exact ⟨0, Nat.zero_le _, rfl, ⟨bs, HZ.out.2, Y0.out.drewN _⟩, (GrownP.refl _ w6).drewN _⟩
  case round =>
    obtain ⟨k, hk, rfl, ⟨pre, hp, hr⟩, hg⟩ := hrel
    by_cases hlt : k < n
    · obtain ⟨z, hz⟩ : ∃ z, pre[k]? = some z := ⟨_, List.getElem?_eq_getElem (by omega)⟩
      have hc : wr.cell? ⟨G, k, none⟩ = some (.int .u8 z) := hr.cell (by rw [List.getElem?_append_left (by omega)]; exact hz)
      have hf := hr.frozen k
      have hs := fun x => front_set hr hp hlt x
      have HS : Hid _ := hs
      have HG : Hid (GrownP (fun k => k = G) w6 wr) := hg
      clear hr hs hg hp hz
      go_wp2
      go_roundw
      case rel => exact ⟨k + 1, by omega, by go_num, HS.out _, HG.out.set (.inl rfl) _⟩
      case measure => simp [intOf]; omega
    · obtain rfl : n = k := by omega
      have d2 := Y2.out.keptP hg (by omega)
      have d4 := Y4.out.keptP hg hs2G
      have bb : Below g0 w wr := BB.out.trans (hg.below z6 (by intro k hk; omega))
      have hca : Cells wr A (List.replicate d 0) := by
        have := rest_cells hr hp
        rw [HA.out, HD.out] at this
        exact this
      have bw : Below w4.heap.size w4 wr := B6.out.trans (hg.below B6.out.size (by intro k hk; omega))
      have c3 : Cells wr A0 zs := U0.out.below bw
      have c4 : Cells wr S0 zs := U3.out.below bw
      have c1 := d2.cells
      have c2 := d4.cells
      have e2 : g0 ≤ wr.heap.size := by have := hg.size; omega
      clear hg hr d2 d4 bw
      go_wp2_with fail
      refine (eq9 _ _ _ _ n bs wr HZ.out.2 hm c1 c2).mono ?_
      rintro e w8 ⟨rfl, b8⟩
      have c3' := c3.below b8
      have c4' := c4.below b8
      have ca8 := hca.below b8
      have bb8 : Below g0 w w8 := bb.trans (b8.mono e2)
      have e3 : g0 ≤ w8.heap.size := by have := b8.size; omega
      clear c1 c2 c3 c4 b8 bb hca
      go_wp2_with fail
      refine (eq9 _ _ _ _ l zs w8 HZ.out.1 hm' c3' c4').mono ?_
      rintro e w9 ⟨rfl, b9⟩
      have C9 : Hid (Cells w9 A (List.replicate d 0)) := ca8.below b9
      have BB9 : Hid (Below g0 w w9) := bb8.trans (b9.mono e3)
      have E9 : Hid (g0 ≤ w9.heap.size) := by have := b9.size; show g0 ≤ _; omega
      clear c3' c4' b9 ca8 bb8 e3
      have hmm := HM.out
      have hdd := HD.out
      by_cases f1 : (n : Int) < left
      · by_cases f2 : (n : Int) < 8192
        · by_cases f3 : (8192 : Int) < left
          · have f4 : (8192 : Int) - (n : Int) = (d : Int) := by omega
            have f5 : ((d : Int) != (d : Int)) = false := by simp
            have f6 : d ≤ 1048576 := by omega
            clear hmm hdd
            go_wp2_with fail
            go_loopw [17] (fun i wr => ∃ k : Nat, k ≤ d ∧ i = .int .i64 k ∧ Below w9.heap.size w9 wr) (fun i _ => d - (intOf i).toNat)
            case atStart => exact ⟨0, Nat.zero_le _, rfl, Below.refl _ _⟩
            case round =>
              obtain ⟨k, hk, rfl, hb⟩ := hrel
              by_cases hlt : k < d
              · have hz : (List.replicate d (0 : Int))[k]? = some 0 := by rw [List.getElem?_replicate]; simp; omega
                obtain ⟨b, o, hx, hx1⟩ := (C9.out.below hb) k 0 hz
                subst hx
                have HB' : Hid (Below w9.heap.size w9 wr) := hb
                have j1 : ((0 : Int) != 0) = false := rfl
                have j2 : (k : Int) < (d : Int) := by omega
                clear hb hz
                go_wp2
                go_roundw
                case rel => exact ⟨k + 1, by omega, by go_num, HB'.out⟩
                case measure => simp [intOf]; omega
              · have HB' : Hid (Below w.heap.size w wr) := by
                  have := BB9.out.trans (hb.mono E9.out)
                  rw [← hg0] at this
                  exact this
                clear hb
                go_wp2
                go_ret
                exact ⟨rfl, HB'.out⟩
          · have f4 : left - (n : Int) = (d : Int) := by omega
            have f5 : ((d : Int) != (d : Int)) = false := by simp
            have f6 : d ≤ 1048576 := by omega
            have f7 : decide ((8192 : Int) < left) = false := by simp; omega
            clear hmm hdd
            go_wp2_with fail
            go_loopw [17] (fun i wr => ∃ k : Nat, k ≤ d ∧ i = .int .i64 k ∧ Below w9.heap.size w9 wr) (fun i _ => d - (intOf i).toNat)
            case atStart => exact ⟨0, Nat.zero_le _, rfl, Below.refl _ _⟩
            case round =>
              obtain ⟨k, hk, rfl, hb⟩ := hrel
              by_cases hlt : k < d
              · have hz : (List.replicate d (0 : Int))[k]? = some 0 := by rw [List.getElem?_replicate]; simp; omega
                obtain ⟨b, o, hx, hx1⟩ := (C9.out.below hb) k 0 hz
                subst hx
                have HB' : Hid (Below w9.heap.size w9 wr) := hb
                have j1 : ((0 : Int) != 0) = false := rfl
                have j2 : (k : Int) < (d : Int) := by omega
                clear hb hz
                go_wp2
                go_roundw
                case rel => exact ⟨k + 1, by omega, by go_num, HB'.out⟩
                case measure => simp [intOf]; omega
              · have HB' : Hid (Below w.heap.size w wr) := by
                  have := BB9.out.trans (hb.mono E9.out)
                  rw [← hg0] at this
                  exact this
                clear hb
                go_wp2
                go_ret
                exact ⟨rfl, HB'.out⟩
        · obtain rfl : d = 0 := by omega
          have f7 : decide ((n : Int) < 8192) = false := by simp; omega
          clear hmm hdd
          go_wp2_with fail
          go_loopw [17] (fun i wr => ∃ k : Nat, k ≤ 0 ∧ i = .int .i64 k ∧ Below w9.heap.size w9 wr) (fun i _ => 0 - (intOf i).toNat)
          case atStart => exact ⟨0, Nat.zero_le _, rfl, Below.refl _ _⟩
          case round =>
            obtain ⟨k, hk, rfl, hb⟩ := hrel
            by_cases hlt : k < 0
            · have hz : (List.replicate 0 (0 : Int))[k]? = some 0 := by rw [List.getElem?_replicate]; simp; omega
              obtain ⟨b, o, hx, hx1⟩ := (C9.out.below hb) k 0 hz
              subst hx
              have HB' : Hid (Below w9.heap.size w9 wr) := hb
              have j1 : ((0 : Int) != 0) = false := rfl
              have j2 : (k : Int) < (0 : Int) := by omega
              clear hb hz
              go_wp2
              go_roundw
              case rel => exact ⟨k + 1, by omega, by go_num, HB'.out⟩
              case measure => simp [intOf]; omega
            · have HB' : Hid (Below w.heap.size w wr) := by
                have := BB9.out.trans (hb.mono E9.out)
                rw [← hg0] at this
                exact this
              clear hb
              go_wp2
              go_ret
              exact ⟨rfl, HB'.out⟩
      · obtain rfl : d = 0 := by omega
        have f7 : decide ((n : Int) < left) = false := by simp; omega
        clear hmm hdd
        go_wp2_with fail
        go_loopw [17] (fun i wr => ∃ k : Nat, k ≤ 0 ∧ i = .int .i64 k ∧ Below w9.heap.size w9 wr) (fun i _ => 0 - (intOf i).toNat)
        case atStart => exact ⟨0, Nat.zero_le _, rfl, Below.refl _ _⟩
        case round =>
          obtain ⟨k, hk, rfl, hb⟩ := hrel
          by_cases hlt : k < 0
          · have hz : (List.replicate 0 (0 : Int))[k]? = some 0 := by rw [List.getElem?_replicate]; simp; omega
            obtain ⟨b, o, hx, hx1⟩ := (C9.out.below hb) k 0 hz
            subst hx
            have HB' : Hid (Below w9.heap.size w9 wr) := hb
            have j1 : ((0 : Int) != 0) = false := rfl
            have j2 : (k : Int) < (0 : Int) := by omega
            clear hb hz
            go_wp2
            go_roundw
            case rel => exact ⟨k + 1, by omega, by go_num, HB'.out⟩
            case measure => simp [intOf]; omega
          · have HB' : Hid (Below w.heap.size w wr) := by
              have := BB9.out.trans (hb.mono E9.out)
              rw [← hg0] at this
              exact this
            clear hb
            go_wp2
            go_ret
            exact ⟨rfl, HB'.out⟩
end Go.Proofs.Qxb6605487a
