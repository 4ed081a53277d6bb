import Derived.Test.Qxb6605323aWalkLaw4
import Derived.BigRegion
namespace Go.Proofs.Qxb6605323a
open Go.RowKit
set_option linter.unusedVariables false

theorem make0' (q : Nat) (hq : q ≤ 1048576) : ∃ cur : Array Value, cur.size = q ∧ ∀ w : World, (Instr.makeSlice 23 (.int .i64 0) (.int .i64 q)).run Try.prog w = .ok (.slice (some ⟨w.heap.size, 0, none⟩) 0 q) (w.alloc (.cells cur 3)) := by
  obtain ⟨i0, hi, hz0, hz1, hz2⟩ := info_parts Try.info3
  refine ⟨madeCells (Value.int .i64 0).cells (q * 1), by simp [size_madeCells], fun w => ?_⟩
  have := run_make (P := Try.prog) w 23 3 i0 (.int .i64 0) Try.underlying23 hi hz0 .i64 .i64 0 q (by omega) (by omega) (by rw [hz2]; omega) (by omega)
  rw [hz1] at this
  simpa using this

set_option maxHeartbeats 8000000 in
set_option maxRecDepth 100000 in
theorem law4_main (a0 a1 a2 a3 : Option Addr) (c0 c1 c2 c3 n : Nat) (ids S N P : List Int) (w : World) (hids : ids.length = n) (hn1 : 1 ≤ n) (h : n + S.length + N.length + P.length ≤ 131072) (g0 : Arg w a0 c0 ids) (g1 : Arg w a1 c1 S) (g2 : Arg w a2 c2 N) (g3 : Arg w a3 c3 P) :
    Calls Try.prog 4 #[.slice a0 n c0, .slice a1 S.length c1, .slice a2 N.length c2, .slice a3 P.length c3] w fun e w' => e = .returned (.bool true) ∧ Below w.heap.size w w' := by
  obtain ⟨i2, hi2, hx0, hx1, hx2⟩ := info_parts Try.info2
  obtain ⟨i3, hi3, hy0, hy1, hy2⟩ := info_parts Try.info3
  have HI : Hid (ids.length = n) := hids
  have d0 : ((n : Int) == 0) = false := beq_eq_false_iff_ne.2 (by omega)
  have d1 : decide ((131072 : Int) < (n : Int)) = false := decide_eq_false (by omega)
  have d2 : decide ((131072 : Int) < (S.length : Int)) = false := decide_eq_false (by omega)
  have d3 : decide ((131072 : Int) < (N.length : Int)) = false := decide_eq_false (by omega)
  have d4 : decide ((131072 : Int) < (P.length : Int)) = false := decide_eq_false (by omega)
  have d5 : decide ((1048576 : Int) < 8 * (n : Int) + 8 * (S.length : Int) + 8 * (N.length : Int) + 8 * (P.length : Int)) = false := decide_eq_false (by omega)
  clear hids
  go_enter Try.func4, Try.ntmps4
  go_wp2_with fail
  refine (bytes15_yes a0 a1 a2 a3 n c0 S.length c1 N.length c2 P.length c3 _ (by omega)).mono ?_
  rintro e w' ⟨rfl, hw⟩
  obtain rfl := hw.symm
  clear hw
  go_wp2_with fail
  refine (wf8 n a1 a2 S N c1 c2 _ (by omega) (by omega) (by omega) g1 g2).mono ?_
  rintro e w1 ⟨⟨b, rfl, hwf⟩, hb1⟩
  cases b
  · go_wp2
    go_ret
    exact ⟨rfl, hb1⟩
  have HWF : Hid (WF n S N) := hwf rfl
  clear hwf
  have g1' := g1.below hb1
  have g2' := g2.below hb1
  go_wp2_with fail
  refine (sym9' n a1 a2 S N c1 c2 _ hn1 (by omega) (by omega) HWF.out g1' g2').mono ?_
  rintro e w2 ⟨⟨b, rfl, hsy⟩, hb2⟩
  have hb2' : Below w.heap.size w w2 := hb1.trans (hb2.mono hb1.size)
  cases b
  · go_wp2
    go_ret
    exact ⟨rfl, hb2'⟩
  have HSY : Hid (Symm n S N) := hsy rfl
  clear hsy hb2 hb1 g1' g2'
  by_cases hPn : P.length = n
  case neg =>
    have x1 : ((P.length : Int) != (n : Int)) = true := by rw [bne_iff_ne]; omega
    go_wp2
    go_ret
    exact ⟨rfl, hb2'⟩
  have HPN : Hid (P.length = n) := hPn
  have x1 : ((n : Int) != (n : Int)) = false := by simp
  rw [hPn]
  clear hPn d4 d5 d1 d2 d3
  go_wp2_with fail
  have k16 := isPerm16 a3 c3 P w2 (by have := HPN.out; omega) (g3.cells.below hb2')
  rw [HPN.out] at k16
  refine k16.mono ?_
  clear k16
  rintro e w3 ⟨⟨b, rfl, hpm⟩, hb3⟩
  have hb3' : Below w.heap.size w w3 := hb2'.trans (hb3.mono hb2'.size)
  cases b
  · go_wp2
    go_ret
    exact ⟨rfl, hb3'⟩
  have HPM : Hid (IsPerm P) := hpm rfl
  clear hpm hb3 hb2' x1
  go_wp2_with (at_make; refine wpList_make_full _ rfl _ _ 22 rfl w3.heap.size 2 i2 (.int .i64 0) 1 Try.underlying22 hi2 hx0 hx1 _ _ _ _ n rfl rfl rfl rfl (by rw [hx2]; omega) (by unfold maxLen; omega) (Nat.le_refl _) ?_; intro w4 hown4 hgrow4)
  obtain ⟨gD, hgD⟩ : ∃ gD, gD = w3.heap.size := ⟨_, rfl⟩
  have hD0 : IR w4 gD 2 n (List.replicate n 0) := by
    have := madeI hown4
    rwa [← hgD] at this
  have hb4 : Below gD w3 w4 := by rw [hgD]; exact (Below.refl _ _).grown hgrow4 (Nat.le_refl _) (by simp)
  rw [← hgD]
  have HD3 : Hid (gD = w3.heap.size ∧ w.heap.size ≤ gD) := ⟨hgD, by rw [hgD]; exact hb3'.size⟩
  have HC0 : Hid (Cells w3 a0 ids) := g0.cells.below hb3'
  clear hown4 hgrow4 hgD
  go_loopw [11] (fun v wr => ∃ k : Nat, k ≤ n ∧ v = .int .i64 k ∧ IR wr gD 2 n (ids.take k ++ List.replicate (n - k) 0) ∧ Below gD w3 wr) (fun v _ => n - (intOf v).toNat)
  case atStart => exact ⟨0, by omega, rfl, by simpa using hD0, hb4⟩
  case round =>
    clear hD0 hb4
    obtain ⟨k, hk, rfl, hr, hbD⟩ := hrel
    by_cases hlt : k < n
    · obtain ⟨z, hz⟩ : ∃ z, ids[k]? = some z := ⟨_, List.getElem?_eq_getElem (by have := HI.out; omega)⟩
      have hbD3 : Below w3.heap.size w3 wr := by rw [← HD3.out.1]; exact hbD
      obtain ⟨bx, ox, hx, hx1'⟩ := HC0.out.below hbD3 k z hz
      have h0 := fill_at ids k 0 (by have := HI.out; omega)
      have hst := fill_step ids k z 0 hz
      rw [HI.out] at h0 hst
      have gc := hr.cell h0
      have fz := hr.frozen k
      have hs := hr.set k z
      rw [hst] at hs
      have hb' := hbD.setCell (p := ⟨gD, k, none⟩) (Nat.le_refl _) (.int .i64 z)
      subst hx
      clear hz h0 hst hr hbD hbD3
      go_wp2
      go_roundw
      case rel => exact ⟨k + 1, by omega, by go_num, hs, hb'⟩
      case measure => simp [intOf]; omega
    · have hr' : IR wr gD 2 n ids := by
        have e : ids.take k ++ List.replicate (n - k) 0 = ids := by
          have := HI.out
          rw [List.take_of_length_le (by omega), show n - k = 0 by omega]
          simp
        rwa [e] at hr
      clear hr
      have hDlt := hr'.lt
      go_wp2_with fail
      have ks := sort14 gD n n ids wr (by have := HI.out; omega) hr'
      rw [HI.out] at ks
      refine ks.mono ?_
      clear ks
      rintro e w5 ⟨rfl, srt, hsp, hss, hr5, hg5⟩
      have hb5 : Below gD w3 w5 := hbD.grown hg5 (by omega) (by simp)
      have HSR : Hid (srt.Perm ids ∧ srt.Pairwise (· ≤ ·) ∧ srt.length = n) := ⟨hsp, hss, by rw [hsp.length_eq]; exact HI.out⟩
      clear hsp hss hr' hg5 hbD hDlt
      go_wp2
      go_loopw [12] (fun v wr => ∃ k : Nat, 1 ≤ k ∧ (k ≤ n ∨ k = 1) ∧ v = .int .i64 k ∧ Hid (∀ t x y, t + 1 < k → srt[t]? = some x → srt[t + 1]? = some y → x ≠ y) ∧ Below w5.heap.size w5 wr) (fun v _ => n - (intOf v).toNat)
      case atStart => exact ⟨1, by omega, by omega, rfl, fun t x y ht => by omega, Below.refl _ _⟩
      case round =>
        obtain ⟨k, hk1, hk2, rfl, HST, hbk⟩ := hrel
        by_cases hlt : k < n
        · obtain ⟨k', rfl⟩ : ∃ k', k = k' + 1 := ⟨k - 1, by omega⟩
          obtain ⟨x, hx⟩ : ∃ z, srt[k']? = some z := ⟨_, List.getElem?_eq_getElem (by have := HSR.out.2.2; omega)⟩
          obtain ⟨y, hy⟩ : ∃ z, srt[k' + 1]? = some z := ⟨_, List.getElem?_eq_getElem (by have := HSR.out.2.2; omega)⟩
          have gx := (hr5.below hbk hr5.lt).cell hx
          have gy := (hr5.below hbk hr5.lt).cell hy
          have HXY : Hid (srt[k']? = some x ∧ srt[k' + 1]? = some y) := ⟨hx, hy⟩
          have y1 : ((k' : Int) + 1) < (n : Int) := by omega
          have y2 : IntKind.i64.wrap ((k' : Int) + 1 - 1) = (k' : Int) := by rw [wrapI (by omega)]; omega
          have y3 : (k' : Int) < (n : Int) := by omega
          have y4 : ((k' : Int) + 1).toNat = k' + 1 := by omega
          have y5 : (0 : Int) ≤ (k' : Int) + 1 := by omega
          clear hx hy hk2
          rw [show ((k' + 1 : Nat) : Int) = (k' : Int) + 1 from by omega]
          by_cases hxy : y = x
          · have y6 : (y == x) = true := by simp [hxy]
            have HXE : Hid (y = x) := hxy
            clear hxy
            go_wp2_with fail
            go_quiet (fail)
            go_wp2
            go_ret
            refine ⟨rfl, ?_⟩
            have z1 := hb3'.size
            exact (hb3'.trans (hb5.mono HD3.out.2)).trans (below_drewN (hbk.mono (by have := hb5.size; omega)) _)
          · have y6 : (y == x) = false := by simp [hxy]
            have HST' : Hid (∀ t x y, t + 1 < k' + 1 + 1 → srt[t]? = some x → srt[t + 1]? = some y → x ≠ y) := by
              intro t x' y' ht h1 h2
              by_cases e : t = k'
              · subst e
                rw [HXY.out.1] at h1
                rw [HXY.out.2] at h2
                simp at h1 h2
                subst h1
                subst h2
                exact fun e => hxy e.symm
              · exact HST.out t x' y' (by omega) h1 h2
            clear hxy
            go_wp2_with fail
            go_quiet (fail)
            go_wp2
            go_roundw
            case rel => exact ⟨k' + 1 + 1, by omega, by omega, by go_num, HST', below_drewN hbk _⟩
            case measure => simp [intOf]; omega
        · have HND : Hid (ids.Nodup) := by
            have h1 : srt.Nodup := nodup_of_steps HSR.out.2.1 fun t x y hx hy => by
              have h2 := (List.getElem?_eq_some_iff.1 hy).1
              exact HST.out t x y (by have := HSR.out.2.2; omega) hx hy
            exact HSR.out.1.nodup_iff.1 h1
          have hb6 : Below w.heap.size w wr := (hb3'.trans (hb5.mono HD3.out.2)).trans (hbk.mono (by have := hb5.size; have := hb3'.size; omega))
          have hr6 := hr5.below hbk hr5.lt
          obtain ⟨w6, rfl⟩ : ∃ w6 : World, w6 = wr := ⟨_, rfl⟩
          have hgDw : w.heap.size ≤ gD := HD3.out.2
          clear HST hbk hb5 hb3' hr5 HC0 HD3
          go_wp2_with fail
          have k0 := clone10 a0 c0 ids w6 (by have := HI.out; omega) (g0.below hb6)
          rw [HI.out] at k0
          refine k0.mono ?_
          clear k0
          rintro e w7 ⟨a0', rfl, g0', hb7⟩
          have hb7' : Below w.heap.size w w7 := hb6.trans (hb7.mono hb6.size)
          have hr7 := hr6.below hb7 hr6.lt
          obtain ⟨b0, o0, rfl⟩ := g0'.cells.ex (by have := HI.out; omega)
          clear hr6 hb6
          go_wp2_with fail
          refine (clone11 a1 c1 S _ (by omega) (g1.below hb7')).mono ?_
          rintro e w8 ⟨a1', rfl, g1', hb8⟩
          have hb8' : Below w.heap.size w w8 := hb7'.trans (hb8.mono hb7'.size)
          have hr8 := hr7.below hb8 hr7.lt
          have C0' := g0'.cells.below hb8
          obtain ⟨b1, o1, rfl⟩ := g1'.cells.ex (by have := HWF.out.len; omega)
          clear hr7 hb7' g0' hb7
          go_wp2_with fail
          refine (clone11 a2 c2 N _ (by omega) (g2.below hb8')).mono ?_
          rintro e w9 ⟨a2', rfl, g2', hb9⟩
          have hb9' : Below w.heap.size w w9 := hb8'.trans (hb9.mono hb8'.size)
          have hr9 := hr8.below hb9 hr8.lt
          have C0'' := C0'.below hb9
          have C1'' := g1'.cells.below hb9
          clear hr8 hb8' g1' hb8 C0'
          go_wp2_with fail
          have k3 := clone11 a3 c3 P w9 (by omega) (g3.below hb9')
          rw [HPN.out] at k3
          refine k3.mono ?_
          clear k3
          rintro e wA ⟨a3', rfl, g3', hbA⟩
          have hbA' : Below w.heap.size w wA := hb9'.trans (hbA.mono hb9'.size)
          have hrA := hr9.below hbA hr9.lt
          obtain ⟨b3, o3, rfl⟩ := g3'.cells.ex (by have := HPN.out; omega)
          have HCC : Hid (Cells wA (some ⟨b0, o0, none⟩) ids ∧ Cells wA (some ⟨b1, o1, none⟩) S ∧ Cells wA a2' N ∧ Cells wA (some ⟨b3, o3, none⟩) P) := ⟨C0''.below hbA, C1''.below hbA, g2'.cells.below hbA, g3'.cells⟩
          obtain ⟨s, hren0⟩ := ren_of_perm HPM.out
          rw [HPN.out] at hren0
          obtain ⟨p, hp⟩ : ∃ p, p = permF P := ⟨_, rfl⟩
          rw [← hp] at hren0
          have HP : Hid (Ren n p s ∧ ∀ i, i < n → P[i]? = some ((p i : Nat) : Int)) := ⟨hren0, fun i hi => by rw [hp]; exact (permF_get HPM.out (by rw [HPN.out]; exact hi)).1⟩
          obtain ⟨f, hf⟩ : ∃ f : Nat → Int, f = fun v => ids.getD v 0 := ⟨_, rfl⟩
          have HF : Hid (f = fun v => ids.getD v 0) := hf
          clear hr9 hb9' hb9 C0'' C1'' g2' g3' hbA hren0 hp hf g0 g1 g2 g3
          go_wp2_with (first | (at_make; refine wpList_make_full _ rfl _ _ 22 rfl wA.heap.size 2 i2 (.int .i64 0) 1 Try.underlying22 hi2 hx0 hx1 _ _ _ _ n rfl rfl rfl rfl (by rw [hx2]; omega) (by unfold maxLen; omega) (Nat.le_refl _) ?_; intro wB hownB hgrowB) | (at_make; refine wpList_make_full _ rfl _ _ 23 rfl wA.heap.size 3 i3 (.int .i64 0) 1 Try.underlying23 hi3 hy0 hy1 _ _ _ _ n rfl rfl rfl rfl (by rw [hy2]; omega) (by unfold maxLen; omega) hgrowB.size ?_; intro wC hownC hgrowC))
          obtain ⟨gI, hgI⟩ : ∃ gI, gI = wA.heap.size := ⟨_, rfl⟩
          obtain ⟨gV, hgV⟩ : ∃ gV, gV = wB.heap.size := ⟨_, rfl⟩
          have hIV : gI < gV := by
            have := (Rw.of_owns hownB).lt
            omega
          have hIr : IR wC gI 2 n (rowTo n s f 0 0) := by
            have h1 := (madeI hownB).kept hgrowC (by simp)
            rw [← hgI] at h1
            rw [rowTo_zero]
            exact h1
          have hVr : NR wC gV 3 n (rowTo n s id 0 0) := by
            have h1 := madeI hownC
            rw [← hgV] at h1
            rw [rowTo_zero]
            unfold NR
            simpa using h1
          have hbI : Below gI wA wC := by
            rw [hgI]
            exact ((Below.refl _ _).grown hgrowB (Nat.le_refl _) (by simp)).grown hgrowC hgrowB.size (by simp)
          rw [← hgI, ← hgV]
          have HBA : Hid (Below w.heap.size w wA ∧ gI = wA.heap.size ∧ w.heap.size ≤ gI) := ⟨hbA', hgI, by rw [hgI]; exact hbA'.size⟩
          have hgDI : gD < gI := by rw [hgI]; exact hrA.lt
          clear hownB hownC hgrowB hgrowC hgI hgV hbA'
          go_loopw [15] (fun v wr => ∃ i : Nat, i ≤ n ∧ v = .int .i64 i ∧ IR wr gI 2 n (rowTo n s f 0 i) ∧ NR wr gV 3 n (rowTo n s id 0 i) ∧ Below gI wA wr) (fun v _ => n - (intOf v).toNat)
          case atStart => exact ⟨0, by omega, rfl, hIr, hVr, hbI⟩
          case round =>
            clear hIr hVr hbI
            obtain ⟨i, hi, rfl, hIr, hVr, hbI⟩ := hrel
            by_cases hin : i < n
            · have hbIA : Below wA.heap.size wA wr := by rw [← HBA.out.2.1]; exact hbI
              obtain ⟨fi, hfi⟩ : ∃ z, ids[i]? = some z := ⟨_, List.getElem?_eq_getElem (by have := HI.out; omega)⟩
              have gi := (HCC.out.1.below hbIA).at hfi
              have gp := (HCC.out.2.2.2.below hbIA).at (HP.out.2 i hin)
              have hpn := HP.out.1.plt i hin
              have HFI : Hid (f i = fi) := by rw [HF.out]; exact getD_of hfi
              have HST : Hid ((rowTo n s f 0 i).set (p i) fi = rowTo n s f 0 (i + 1) ∧ (rowTo n s id 0 i).set (p i) i = rowTo n s id 0 (i + 1)) := by
                have h1 := rowTo_step (g := f) (d := 0) HP.out.1 hin
                rw [HFI.out] at h1
                exact ⟨h1, rowTo_step (g := id) (d := 0) HP.out.1 hin⟩
              generalize p i = pi at *
              obtain ⟨z1, hz1⟩ : ∃ z, (rowTo n s f 0 i)[pi]? = some z := ⟨_, List.getElem?_eq_getElem (by simpa using hpn)⟩
              obtain ⟨z2, hz2⟩ : ∃ z, (rowTo n s id 0 i)[pi]? = some z := ⟨_, List.getElem?_eq_getElem (by simpa using hpn)⟩
              have g1 := hIr.cell hz1
              have f1 := hIr.frozen pi
              have HZ2 : Hid ((rowTo n s id 0 i)[pi]? = some z2) := hz2
              have y1 : (pi : Int) < (n : Int) := by omega
              have y2 : (i : Int) < (n : Int) := by omega
              clear hz1 hz2 hfi hbIA
              go_wp2_with fail
              go_region
              obtain ⟨wq, hwq⟩ : ∃ wq, wq = (wr.setCell ⟨gI, pi, none⟩ (.int .i64 fi)).drew := ⟨_, rfl⟩
              rw [← hwq]
              have hI' : IR wq gI 2 n (rowTo n s f 0 (i + 1)) := by
                have h1 := hIr.set pi fi
                rw [HST.out.1] at h1
                rw [hwq]
                exact h1
              have hV' : NR wq gV 3 n (rowTo n s id 0 i) := by
                rw [hwq]
                exact hVr.setOther (a := ⟨gI, pi, none⟩) (by simp; omega) _
              have hb' : Below gI wA wq := by
                rw [hwq]
                exact (hbI.setCell (p := ⟨gI, pi, none⟩) (by simp) _).drew
              have hbIA : Below wA.heap.size wA wq := by rw [← HBA.out.2.1]; exact hb'
              have gp' : wq.cell? ⟨b3, o3 + i, none⟩ = some (.int .i64 pi) := by
                rw [hwq]
                have h1 : b3 < gI := by
                  rw [HBA.out.2.1, ← HBA.out.2.1]
                  have := World.block_lt_of_cell? wA _ (HCC.out.2.2.2.at (HP.out.2 i hin))
                  rw [HBA.out.2.1]
                  exact this
                show (wr.setCell ⟨gI, pi, none⟩ (.int .i64 fi)).cell? ⟨b3, o3 + i, none⟩ = _
                rw [World.cell?_of_block (w := wr) (Below.heap_setCell wr _ _ b3 (by simp; omega))]
                exact gp
              have g2 := hV'.cell HZ2.out
              have f2 := hV'.frozen pi
              have hV2 := hV'.set pi i
              rw [HST.out.2] at hV2
              have hI2 := hI'.setOther (a := ⟨gV, pi, none⟩) (by simp; omega) (.int .i64 i)
              have hb2 := hb'.setCell (p := ⟨gV, pi, none⟩) (by simp; omega) (.int .i64 i)
              clear hwq hI' hV' hb' hbIA g1 f1 gi gp hIr hVr hbI
              go_wp2
              go_roundw
              case rel => exact ⟨i + 1, by omega, by go_num, hI2, hV2, hb2⟩
              case measure => simp [intOf]; omega
            · have hin' : n = i := by omega
              subst hin'
              have hI : IR wr gI 2 n ((List.range n).map fun j => f (s j)) := by
                rw [← rowTo_all (g := f) (d := 0) HP.out.1]
                exact hIr
              have hV : NR wr gV 3 n ((List.range n).map s) := by
                have h1 := rowTo_all (g := id) (d := 0) HP.out.1
                rw [h1] at hVr
                exact hVr
              have hbIA : Below wA.heap.size wA wr := by rw [← HBA.out.2.1]; exact hbI
              have HCB : Hid (Cells wr (some ⟨b0, o0, none⟩) ids ∧ Cells wr (some ⟨b1, o1, none⟩) S ∧ Cells wr a2' N ∧ Cells wr (some ⟨b3, o3, none⟩) P) := ⟨HCC.out.1.below hbIA, HCC.out.2.1.below hbIA, HCC.out.2.2.1.below hbIA, HCC.out.2.2.2.below hbIA⟩
              have HBB : Hid (Below w.heap.size w wr) := HBA.out.1.trans (hbI.mono HBA.out.2.2)
              have hD := hrA.below hbI hgDI
              obtain ⟨wB, rfl⟩ : ∃ wB : World, wB = wr := ⟨_, rfl⟩
              clear hIr hVr hbI hbIA hrA HCC HBA
              go_wp2_with (at_make; refine wpList_make_full _ rfl _ _ 23 rfl wB.heap.size 3 i3 (.int .i64 0) 1 Try.underlying23 hi3 hy0 hy1 _ _ _ _ (n + 1) rfl rfl (by omega) (by omega) (by rw [hy2]; omega) (by unfold maxLen; omega) (Nat.le_refl _) ?_; intro wC hownC hgrowC)
              obtain ⟨gA, hgA⟩ : ∃ gA, gA = wB.heap.size := ⟨_, rfl⟩
              have hA0 : IR wC gA 3 (n + 1) (st2To p s n S N 0) := by
                have h1 := madeI hownC
                rw [← hgA] at h1
                rw [st2To_zero]
                exact h1
              have hbC : Below wB.heap.size wB wC := (Below.refl _ _).grown hgrowC (Nat.le_refl _) (by simp)
              have HA : Hid (gA = wB.heap.size) := hgA
              rw [← hgA]
              have hlen := HWF.out.len
              obtain ⟨s0, hs0⟩ : ∃ z, S[0]? = some z := ⟨_, List.getElem?_eq_getElem (by omega)⟩
              obtain ⟨sn, hsn⟩ : ∃ z, S[n]? = some z := ⟨_, List.getElem?_eq_getElem (by omega)⟩
              have cS := HCB.out.2.1.below hbC
              have g0 : wC.cell? ⟨b1, o1, none⟩ = some (.int .i64 s0) := by simpa using cS.at hs0
              have gn := cS.at hsn
              have e0 := HWF.out.st_eq (show 0 ≤ n by omega)
              have e1 := HWF.out.st_eq (show n ≤ n by omega)
              rw [getD_of hs0] at e0
              rw [getD_of hsn] at e1
              have e2 := HWF.out.st_le (show 0 ≤ n by omega) (Nat.le_refl n)
              have e3 := HWF.out.st_len (Nat.le_refl n)
              obtain ⟨u0, hu0⟩ : ∃ u, u = st S 0 := ⟨_, rfl⟩
              obtain ⟨un, hun⟩ : ∃ u, u = st S n := ⟨_, rfl⟩
              rw [← hu0] at e0 e2
              rw [← hun] at e1 e2 e3
              subst e0
              subst e1
              obtain ⟨q, hq1, hq2⟩ : ∃ q : Nat, (un : Int) - (u0 : Int) = (q : Int) ∧ q ≤ N.length := ⟨un - u0, by omega, by omega⟩
              obtain ⟨cur, hcur, hmk⟩ := make0' q (by omega)
              have HQ : Hid (cur.size = q ∧ st S n - st S 0 = q) := ⟨hcur, by rw [← hu0, ← hun]; omega⟩
              have ew : IntKind.i64.wrap ((un : Int) - (u0 : Int)) = (q : Int) := by rw [hq1]; exact wrapI (by omega)
              have y1 : (n : Int) < (S.length : Int) := by omega
              have y2 : (0 : Int) < (S.length : Int) := by omega
              clear hownC hgrowC hgA hs0 hsn cS hcur hu0 hun e2
              go_region
              have hB0 : IR (wC.alloc (.cells cur 3)) wC.heap.size 3 q (nb2To p s S N 0) := by
                have := made_empty wC cur 3
                rw [HQ.out.1] at this
                exact this
              obtain ⟨gB, hgB⟩ : ∃ gB, gB = wC.heap.size := ⟨_, rfl⟩
              have hAB : gA < gB := by rw [hgB]; exact hA0.lt
              obtain ⟨wE, hwE⟩ : ∃ wE, wE = (wC.alloc (.cells cur 3)).drew := ⟨_, rfl⟩
              have hB1 : IR wE gB 3 q (nb2To p s S N 0) := by rw [hwE, hgB]; exact hB0
              have hA1 : IR wE gA 3 (n + 1) (st2To p s n S N 0) := by rw [hwE]; exact hA0.alloc _
              have hbE : Below gA wB wE := by rw [hwE, HA.out]; exact (hbC.alloc hbC.size _).drew
              rw [← hgB, ← hwE]
              clear g0 gn ew hmk hB0 hA0 hbC hgB hwE
              go_wp2
              go_loopw [17, 18] (fun v17 v18 wr => ∃ j m : Nat, j ≤ n ∧ v18 = .int .i64 j ∧ v17 = .slice (some ⟨gB, 0, none⟩) m q ∧ Hid (m = (nb2To p s S N j).length) ∧ IR wr gA 3 (n + 1) (st2To p s n S N j) ∧ IR wr gB 3 q (nb2To p s S N j) ∧ Below gA wB wr) (fun _ v18 _ => n - (intOf v18).toNat)
              case atStart => exact ⟨0, 0, by omega, rfl, rfl, rfl, hA1, hB1, hbE⟩
              case round =>
                clear hA1 hB1 hbE
                obtain ⟨j, m, hj, rfl, rfl, HM, hAr, hBr, hbA⟩ := hrel
                have hmq : m ≤ q := by
                  rw [HM.out, ← HQ.out.2]
                  exact nb2_le HWF.out HP.out.1 hj
                by_cases hjn : j < n
                · have hbW : Below wB.heap.size wB wr := by rw [← HA.out]; exact hbA
                  have gv := (hV.below hbW hV.lt).cell (show ((List.range n).map s)[j]? = some (s j) by simp [hjn])
                  obtain ⟨si, hsi⟩ : ∃ si, si = s j := ⟨_, rfl⟩
                  rw [← hsi] at gv
                  have hsin : si < n := by rw [hsi]; exact HP.out.1.slt j hjn
                  have HSI : Hid (si = s j) := hsi
                  obtain ⟨z1, hz1⟩ : ∃ z, S[si]? = some z := ⟨_, List.getElem?_eq_getElem (by omega)⟩
                  obtain ⟨z2, hz2⟩ : ∃ z, S[si + 1]? = some z := ⟨_, List.getElem?_eq_getElem (by omega)⟩
                  have f1 := HWF.out.st_eq (show si ≤ n by omega)
                  have f2 := HWF.out.st_eq (show si + 1 ≤ n by omega)
                  rw [getD_of hz1] at f1
                  rw [getD_of hz2] at f2
                  obtain ⟨t1, ht1⟩ : ∃ t1, t1 = st S si := ⟨_, rfl⟩
                  obtain ⟨t2, ht2⟩ : ∃ t2, t2 = st S (si + 1) := ⟨_, rfl⟩
                  have f3 := HWF.out.st_le (show si ≤ si + 1 by omega) (by omega)
                  have f4 := HWF.out.st_len (show si + 1 ≤ n by omega)
                  rw [← ht1] at f1 f3
                  rw [← ht2] at f2 f3 f4
                  subst f1
                  subst f2
                  have HT : Hid (t1 = st S si ∧ t2 = st S (si + 1) ∧ S[si]? = some (t1 : Int) ∧ S[si + 1]? = some (t2 : Int)) := ⟨ht1, ht2, hz1, hz2⟩
                  obtain ⟨zj, hzj⟩ : ∃ z, (st2To p s n S N j)[j]? = some z := ⟨_, List.getElem?_eq_getElem (by simp; omega)⟩
                  have ga := hAr.cell hzj
                  have fa := hAr.frozen j
                  have hA' := hAr.set j (m : Int)
                  have hst := st2To_step (p := p) (s := s) (S := S) (N := N) hj
                  rw [← HM.out] at hst
                  rw [hst] at hA'
                  have hB' := hBr.setOther (a := ⟨gA, j, none⟩) (by simp; omega) (.int .i64 (m : Int))
                  have hb' := hbA.setCell (p := ⟨gA, j, none⟩) (by simp) (.int .i64 (m : Int))
                  have hbW' : Below wB.heap.size wB (wr.setCell ⟨gA, j, none⟩ (.int .i64 (m : Int))) := by rw [← HA.out]; exact hb'
                  have gs2 := (HCB.out.2.1.below hbW').at hz2
                  have y3 : (si : Int) + 1 < (S.length : Int) := by omega
                  clear hz1 hz2 ht1 ht2 hzj hst hsi hbW hbW' hAr hBr hbA
                  have hroomT : m + (t2 - t1) ≤ q := by
                    have h1 := nb2_le HWF.out HP.out.1 (show j + 1 ≤ n by omega)
                    rw [nb2To, List.length_append, chunk_length HWF.out HP.out.1 hjn, HQ.out.2, ← HM.out, ← HSI.out] at h1
                    unfold deg at h1
                    rw [← HT.out.1, ← HT.out.2.1] at h1
                    exact h1
                  go_wp2
                  obtain ⟨wo, hwo⟩ : ∃ wo, wo = wr.setCell ⟨gA, j, none⟩ (.int .i64 (m : Int)) := ⟨_, rfl⟩
                  rw [← hwo] at hA' hB' hb' ⊢
                  clear hwo ga fa gv gs2
                  go_loopw [17, 20] (fun v17 v20 wr => ∃ (t mm : Nat) (L : List Int), t1 ≤ t ∧ t ≤ t2 ∧ mm + t ≤ m + t2 ∧ v20 = .int .i64 ((t : Int) - 1) ∧ v17 = .slice (some ⟨gB, 0, none⟩) mm q ∧ Hid (L = nb2To p s S N j ++ (seg N t t2).reverse.map (fun z => ((p z.toNat : Nat) : Int)) ∧ L.length = mm) ∧ IR wr gA 3 (n + 1) (st2To p s n S N (j + 1)) ∧ IR wr gB 3 q L ∧ Below gA wB wr) (fun _ v20 _ => (intOf v20 + 1).toNat)
                  case atStart => exact ⟨t2, m, nb2To p s S N j, f3, Nat.le_refl _, by omega, rfl, rfl, ⟨by rw [seg_nil (Nat.le_refl _)]; simp, HM.out.symm⟩, hA', hB', hb'⟩
                  case round =>
                    clear hA' hB' hb'
                    obtain ⟨t, mm, L, h1, h2, h3, rfl, rfl, HL, hAr, hBr, hbA⟩ := hrel
                    have hbW : Below wB.heap.size wB wr := by rw [← HA.out]; exact hbA
                    have gs1 := (HCB.out.2.1.below hbW).at HT.out.2.2.1
                    have y4 : (si : Int) < (S.length : Int) := by omega
                    by_cases htt : t1 < t
                    · obtain ⟨t', rfl⟩ : ∃ t', t = t' + 1 := ⟨t - 1, by omega⟩
                      obtain ⟨v, hv⟩ : ∃ z, N[t']? = some z := ⟨_, List.getElem?_eq_getElem (by omega)⟩
                      have hvr := HWF.out.val hsin (by rw [← HT.out.1]; omega) (by rw [← HT.out.2.1]; omega) hv
                      obtain ⟨v, rfl⟩ := Int.eq_ofNat_of_zero_le hvr.1
                      have hvn : v < n := by omega
                      obtain ⟨bx, ox, hx, hx1'⟩ := HCB.out.2.2.1.below hbW t' v hv
                      have gp := (HCB.out.2.2.2.below hbW).at (HP.out.2 v hvn)
                      have hroom : mm + 1 ≤ q := by omega
                      have HL' : Hid (L ++ [((p v : Nat) : Int)] = nb2To p s S N j ++ (seg N t' t2).reverse.map (fun z => ((p z.toNat : Nat) : Int)) ∧ (L ++ [((p v : Nat) : Int)]).length = mm + 1) := by
                        refine ⟨?_, by simp [HL.out.2]⟩
                        rw [HL.out.1, seg_cons (by omega) hv]
                        simp
                      have y5 : (v : Int) < (n : Int) := by omega
                      have y6 : (t' : Int) < (N.length : Int) := by omega
                      subst hx
                      generalize p v = pv at *
                      rw [show (((t' + 1 : Nat) : Int) - 1) = (t' : Int) from by omega]
                      clear hv hvr hbW
                      go_wp2_with (at_builtin; refine wpList_push _ rfl _ _ 23 rfl 3 i3 Try.underlying23 hi3 hy1 gB mm q L HL.out.2 rfl (hBr.alloc _) (by unfold maxLen; omega) ⟨wr.heap.size, 0, none⟩ _ (pv : Int) rfl (cell_new _ _ _) hroom ?_; intro wF hF hgrF)
                      have hAF : IR wF gA 3 (n + 1) (st2To p s n S N (j + 1)) := (hAr.alloc _).kept hgrF (by simp; omega)
                      have hbF : Below gA wB wF := (hbA.alloc (by have := hAr.lt; omega) _).grown hgrF (by have := hAr.lt; simp; omega) (fun k hk => by simp at hk; omega)
                      go_roundw
                      case rel => exact ⟨t', mm + 1, L ++ [(pv : Int)], by omega, by omega, by omega, rfl, rfl, HL', hAF, hF, hbF⟩
                      case measure => simp [intOf]
                    · have HMM : Hid (L = nb2To p s S N (j + 1)) := by
                        show _ = _
                        rw [HL.out.1, nb2To, chunk, ← HSI.out, ← HT.out.1, ← HT.out.2.1, show t = t1 by omega]
                      have hB2 : IR wr gB 3 q (nb2To p s S N (j + 1)) := by rw [← HMM.out]; exact hBr
                      have HM2 : Hid (mm = (nb2To p s S N (j + 1)).length) := by rw [← HMM.out]; exact HL.out.2.symm
                      clear hBr hbW
                      go_wp2
                      go_roundw
                      case rel => exact ⟨j + 1, mm, by omega, by go_num, rfl, HM2, hAr, hB2, hbA⟩
                      case measure => simp [intOf]; omega
                · have hjn' : n = j := by omega
                  subst hjn'
                  obtain ⟨zj, hzj⟩ : ∃ z, (st2To p s n S N n)[n]? = some z := ⟨_, List.getElem?_eq_getElem (by simp)⟩
                  have ga := hAr.cell hzj
                  have fa := hAr.frozen n
                  have hA' := hAr.set n (m : Int)
                  have hst := st2To_step (p := p) (s := s) (S := S) (N := N) (Nat.le_refl n)
                  rw [← HM.out] at hst
                  rw [hst] at hA'
                  have hB' := hBr.setOther (a := ⟨gA, n, none⟩) (by simp; omega) (.int .i64 (m : Int))
                  have hb' := hbA.setCell (p := ⟨gA, n, none⟩) (by simp) (.int .i64 (m : Int))
                  have hA9 : Hid (m = (nb2To p s S N n).length) := HM
                  clear hzj hst hAr hBr hbA
                  go_wp2_with fail
                  obtain ⟨wG, hwG⟩ : ∃ wG, wG = wr.setCell ⟨gA, n, none⟩ (.int .i64 (m : Int)) := ⟨_, rfl⟩
                  rw [← hwG] at hA' hB' hb' ⊢
                  have hbW : Below wB.heap.size wB wG := by rw [← HA.out]; exact hb'
                  have hG := gr_of HWF.out HSY.out
                  obtain ⟨rt, hrt⟩ := rt_exists hG
                  have hwf2 := wf_nb2 (p := p) (s := s) HWF.out HP.out.1
                  have hsy2 := symm_nb2 (p := p) (s := s) HWF.out HSY.out HP.out.1
                  have hG2 := gr_of hwf2 hsy2
                  obtain ⟨rt2, hrt2⟩ := rt_exists hG2
                  have hiso := iso_nb2 (p := p) (s := s) HWF.out HP.out.1
                  have HG : Hid (Gr n (adj S N) ∧ IsRt n (adj S N) rt ∧ WF n (st2To p s n S N (n + 1)) (nb2To p s S N n) ∧ Symm n (st2To p s n S N (n + 1)) (nb2To p s S N n) ∧ Gr n (adj (st2To p s n S N (n + 1)) (nb2To p s S N n)) ∧ IsRt n (adj (st2To p s n S N (n + 1)) (nb2To p s S N n)) rt2 ∧ Iso n (adj S N) (adj (st2To p s n S N (n + 1)) (nb2To p s S N n)) p s) := ⟨hG, hrt, hwf2, hsy2, hG2, hrt2, hiso⟩
                  have HBG : Hid (Below w.heap.size w wG) := HBB.out.trans (hbW.mono HBB.out.size)
                  have hIG := hI.below hbW hI.lt
                  have hDG := hD.below hbW hD.lt
                  have c0 := HCB.out.1.below hbW
                  have c1 := HCB.out.2.1.below hbW
                  have c2 := HCB.out.2.2.1.below hbW
                  clear hG hrt hwf2 hsy2 hG2 hrt2 hiso ga fa hwG hb' hbW hI hV hD HCB
                  refine (zz12 n b0 o0 b1 o1 a2' ids S N n S.length N.length _ hn1 (by omega) HI.out (by omega) (by omega) (Nat.le_refl _) HWF.out HSY.out rt HG.out.2.1 c0 c1 c2).mono ?_
                  rintro e wH ⟨g1, L1, bb1, ls1, rfl, hg1, hbest1, hr1, hl1, hp1, hs1, hbH⟩
                  have HBH : Hid (Below w.heap.size w wH) := HBG.out.trans (hbH.mono HBG.out.size)
                  have hIH := hIG.below hbH hIG.lt
                  have hDH := hDG.below hbH hDG.lt
                  have hAH := hA'.below hbH hA'.lt
                  have hBH := hB'.below hbH hB'.lt
                  have H1 : Hid (bestTo n rt f n = some bb1 ∧ ls1.length = L1 ∧ ls1.Perm ((cls n rt bb1).map f) ∧ ls1.Pairwise (· ≤ ·)) := by
                    rw [HF.out]
                    exact ⟨hbest1, hl1, hp1, hs1⟩
                  have hg1' : gB < g1 := by have := hB'.lt; omega
                  clear hbest1 hl1 hp1 hs1 hbH hg1 hIG hDG hA' hB' c0 c1 c2 HBG HBB
                  go_wp2_with fail
                  have hids2 : ((List.range n).map fun j => f (s j)).length = n := by simp
                  have hS2 : (st2To p s n S N (n + 1)).length = n + 1 := by simp
                  have k2 := zz12 n gI 0 gA 0 (some ⟨gB, 0, none⟩) ((List.range n).map fun j => f (s j)) (st2To p s n S N (n + 1)) (nb2To p s S N n) n (n + 1) q wH hn1 (by omega) hids2 (by rw [hS2]; omega) (by rw [← HM.out]; omega) (by rw [← HM.out]; exact hmq) HG.out.2.2.1 HG.out.2.2.2.1 rt2 HG.out.2.2.2.2.2.1 hIH.cells hAH.cells hBH.cells
                  rw [hS2, ← HM.out] at k2
                  refine k2.mono ?_
                  clear k2 hids2 hS2
                  rintro e wJ ⟨g2, L2, bb2, ls2, rfl, hg2, hbest2, hr2, hl2, hp2, hs2, hbJ⟩
                  have HBJ : Hid (Below w.heap.size w wJ) := HBH.out.trans (hbJ.mono HBH.out.size)
                  have hDJ := hDH.below hbJ hDH.lt
                  have hr1J := hr1.below hbJ hr1.lt
                  obtain ⟨f2, hf2⟩ : ∃ f2 : Nat → Int, f2 = fun v => ((List.range n).map fun j => f (s j)).getD v 0 := ⟨_, rfl⟩
                  rw [← hf2] at hbest2 hp2
                  have hff : ∀ i, i < n → f2 (p i) = f i := by
                    intro i hi
                    have hpi := HP.out.1.plt i hi
                    rw [hf2]
                    simp [List.getD, hpi, HP.out.1.sp i hi]
                  have hinj : ∀ i j, i < n → j < n → f i = f j → i = j := by
                    intro i j hi hj e
                    rw [HF.out] at e
                    exact inj_of_nodup HND.out i j (by rw [HI.out]; exact hi) (by rw [HI.out]; exact hj) e
                  have hcnt := HG.out.2.2.2.2.2.2.roots_eq HG.out.1 HG.out.2.2.2.2.1 HG.out.2.1 HG.out.2.2.2.2.2.1
                  have hbp := HG.out.2.2.2.2.2.2.best HG.out.1 HG.out.2.2.2.2.1 HG.out.2.1 HG.out.2.2.2.2.2.1 hff hinj H1.out.1 hbest2
                  obtain rfl : ls1 = ls2 := sorted_unique H1.out.2.2.2 hs2 (H1.out.2.2.1.trans (hbp.symm.trans hp2.symm))
                  obtain rfl : L1 = L2 := by rw [← hl2, ← H1.out.2.1]
                  have hshare := share HG.out.1 HG.out.2.1 H1.out.1
                  have hstrict := strict_of H1.out.2.2.2 (nodup_best hinj H1.out.2.2.1)
                  have hL1 : sz n rt bb1 = L1 := by
                    rw [← H1.out.2.1, H1.out.2.2.1.length_eq]
                    simp [sz]
                  have hbr := best_root H1.out.1
                  have hLpos : 1 ≤ L1 := by rw [← hL1]; exact sz_pos hbr.1 hbr.2
                  have hLn : L1 ≤ n := by rw [← hL1]; exact sz_le _
                  have hmemS : ∀ x, x ∈ ls1 → hasB srt x = true := by
                    intro x hx
                    obtain ⟨v, hv, rfl⟩ := List.mem_map.1 (H1.out.2.2.1.mem_iff.1 hx)
                    refine hasB_true.2 (HSR.out.1.mem_iff.2 ?_)
                    rw [HF.out]
                    exact List.mem_of_getElem? (get_of (by rw [HI.out]; exact (mem_cls.1 hv).1))
                  rw [← hcnt]
                  rw [hL1] at hshare
                  have hcpos : 1 ≤ (rootsTo rt n).length := List.length_pos_of_mem (mem_roots.2 ⟨hbr.1, hbr.2⟩)
                  have hcn : (rootsTo rt n).length ≤ n := by
                    have := List.length_filter_le (fun i => rt i == i) (List.range n)
                    simpa [rootsTo] using this
                  generalize (rootsTo rt n).length = cn at *
                  have HLS : Hid (ls1.length = L1 ∧ ls1.Pairwise (· < ·) ∧ ∀ x, x ∈ ls1 → hasB srt x = true) := ⟨H1.out.2.1, hstrict, hmemS⟩
                  obtain ⟨pr, hpr, hpr1, hpr2⟩ : ∃ pr : Nat, (L1 : Int) * (cn : Int) = (pr : Int) ∧ n ≤ pr ∧ pr ≤ 17179869184 := by
                    refine ⟨L1 * cn, by simp, hshare, ?_⟩
                    have := Nat.mul_le_mul (show L1 ≤ 131072 by omega) (show cn ≤ 131072 by omega)
                    omega
                  clear hf2 hff hinj hcnt hbp hbest2 hl2 hp2 hs2 hbJ hstrict hmemS hL1 hbr hshare H1 hr1 hDH hIH hAH hBH HBH HND HP
                  have x7 : ((cn : Int) != (cn : Int)) = false := by simp
                  have x8 : ((L1 : Int) != (L1 : Int)) = false := by simp
                  have hq := q22
                  go_wp2
                  go_loopw [25] (fun v wr => ∃ k : Nat, k ≤ L1 ∧ v = .int .i64 k ∧ Below wJ.heap.size wJ wr) (fun v _ => L1 - (intOf v).toNat)
                  case atStart => exact ⟨0, by omega, rfl, Below.refl _ _⟩
                  case round =>
                    obtain ⟨kk, hkk, rfl, hbk⟩ := hrel
                    by_cases hkL : kk < L1
                    · obtain ⟨z, hz⟩ : ∃ z, ls1[kk]? = some z := ⟨_, List.getElem?_eq_getElem (by rw [HLS.out.1]; exact hkL)⟩
                      have z1 := (hr1J.below hbk hr1J.lt).cell hz
                      have z2 := (hr2.below hbk hr2.lt).cell hz
                      have z3 : (z != z) = false := by simp
                      have z4 : (kk : Int) < (L1 : Int) := by omega
                      clear hz hpr
                      go_wp2_with fail
                      go_quiet (fail)
                      go_wp2
                      go_roundw
                      case rel => exact ⟨kk + 1, by omega, by go_num, below_drewN hbk _⟩
                      case measure => simp [intOf]; omega
                    · have hr1K := hr1J.below hbk hr1J.lt
                      have hDK := hDJ.below hbk hDJ.lt
                      have HBK : Hid (Below w.heap.size w wr) := HBJ.out.trans (hbk.mono HBJ.out.size)
                      obtain ⟨wK, rfl⟩ : ∃ wK : World, wK = wr := ⟨_, rfl⟩
                      have x9 : decide ((cn : Int) < 1) = false := decide_eq_false (by omega)
                      have x10 : decide ((n : Int) < (cn : Int)) = false := decide_eq_false (by omega)
                      have x11 : decide ((L1 : Int) < 1) = false := decide_eq_false (by omega)
                      have x12 : decide ((pr : Int) < (n : Int)) = false := decide_eq_false (by omega)
                      have x13 : decide (n < cn) = false := decide_eq_false (by omega)
                      have x14 : decide (pr < n) = false := decide_eq_false (by omega)
                      clear hbk HBJ hr1J hDJ hr2
                      go_wp2
                      go_loopw [26] (fun v wr => ∃ k : Nat, k ≤ L1 ∧ v = .int .i64 k ∧ Below wK.heap.size wK wr) (fun v _ => L1 - (intOf v).toNat)
                      case atStart => exact ⟨0, by omega, rfl, Below.refl _ _⟩
                      case round =>
                        clear hpr
                        obtain ⟨kt, hkt, rfl, hbk⟩ := hrel
                        by_cases hkL2 : kt < L1
                        · obtain ⟨z, hz⟩ : ∃ z, ls1[kt]? = some z := ⟨_, List.getElem?_eq_getElem (by rw [HLS.out.1]; exact hkL2)⟩
                          have z1 := (hr1K.below hbk hr1K.lt).cell hz
                          have HB : Hid (hasB srt z = true) := HLS.out.2.2 z (List.mem_of_getElem? hz)
                          have z4 : (kt : Int) < (L1 : Int) := by omega
                          by_cases hk0 : kt = 0
                          · subst hk0
                            clear hz
                            go_wp2_with fail
                            go_quiet (fail)
                            go_wp2_with fail
                            have hDQ := hDK.below (below_drewN hbk nq) hDK.lt
                            refine (has17' gD n n n srt z _ HSR.out.2.2 (by omega) hDQ HSR.out.2.1).mono ?_
                            rintro e w' ⟨rfl, hw'⟩
                            rw [HB.out, hw']
                            clear hw'
                            go_wp2
                            go_roundw
                            case rel => exact ⟨0 + 1, by omega, by go_num, below_drewN hbk _⟩
                            case measure => simp [intOf]; omega
                          · obtain ⟨kp, rfl⟩ : ∃ kp, kt = kp + 1 := ⟨kt - 1, by omega⟩
                            obtain ⟨y, hy⟩ : ∃ z, ls1[kp]? = some z := ⟨_, List.getElem?_eq_getElem (by rw [HLS.out.1]; omega)⟩
                            have z5 := (hr1K.below hbk hr1K.lt).cell hy
                            have hyz : y < z := by
                              obtain ⟨a1, a2⟩ := List.getElem?_eq_some_iff.1 hy
                              obtain ⟨b1, b2⟩ := List.getElem?_eq_some_iff.1 hz
                              have := List.pairwise_iff_getElem.1 HLS.out.2.1 kp (kp + 1) a1 b1 (by omega)
                              omega
                            have z6 : decide (z ≤ y) = false := decide_eq_false (by omega)
                            have z7 : (0 : Int) < (kp : Int) + 1 := by omega
                            have z8 : IntKind.i64.wrap ((kp : Int) + 1 - 1) = (kp : Int) := by rw [wrapI (by omega)]; omega
                            have z9 : (kp : Int) < (L1 : Int) := by omega
                            have z10 : ((kp : Int) + 1).toNat = kp + 1 := by omega
                            have z11 : (0 : Int) ≤ (kp : Int) + 1 := by omega
                            have z12 : (kp : Int) + 1 < (L1 : Int) := by omega
                            rw [show ((kp + 1 : Nat) : Int) = (kp : Int) + 1 from by omega]
                            clear hz hy hk0
                            go_wp2_with fail
                            go_quiet (fail)
                            go_wp2_with fail
                            have hDQ := hDK.below (below_drewN hbk nq) hDK.lt
                            refine (has17' gD n n n srt z _ HSR.out.2.2 (by omega) hDQ HSR.out.2.1).mono ?_
                            rintro e w' ⟨rfl, hw'⟩
                            rw [HB.out, hw']
                            clear hw'
                            go_wp2
                            go_roundw
                            case rel => exact ⟨kp + 1 + 1, by omega, by go_num, below_drewN hbk _⟩
                            case measure => simp [intOf]; omega
                        · go_wp2
                          go_ret
                          exact ⟨rfl, HBK.out.trans (hbk.mono HBK.out.size)⟩

end Go.Proofs.Qxb6605323a
