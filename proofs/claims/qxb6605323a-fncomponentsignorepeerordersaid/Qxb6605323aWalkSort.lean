import Derived.Test.Qxb6605323aWalkA
import Derived.Test.Qxb6605323aPlainSort
import Derived.Handy
namespace Go.Proofs.Qxb6605323a
open Go.RowKit
set_option linter.unusedVariables false

/-! ### zzSortInt64 -/
set_option maxHeartbeats 400000 in
theorem sort14_short (a : Option Addr) (n c' : Nat) (w : World) (h : n < 2) :
    Calls Try.prog 14 #[.slice a n c'] w fun e w' => e = .returned (.tuple #[]) ∧ w' = w := by
  go_enter Try.func14, Try.ntmps14
  go_wp2
  go_returns
  exact ⟨rfl, rfl⟩

/-- One store into the buffer: what the three loops keep. -/
theorem buf_step {D M : List Int} {R : List Int} {k : Nat} {z : Int} (hk : k < D.length) (h : D.take k ++ z :: M = R) : (D.set k z).take (k + 1) ++ M = R := by
  rw [take_set_snoc z hk, List.append_assoc]
  exact h

theorem three (n lo W : Nat) : (lo + 2 * W ≤ n ∧ decide ((n : Int) < (lo : Int) + (W : Int)) = false ∧ decide ((n : Int) < (lo : Int) + 2 * (W : Int)) = false) ∨
    ((lo + W ≤ n ∧ n < lo + 2 * W) ∧ decide ((n : Int) < (lo : Int) + (W : Int)) = false ∧ decide ((n : Int) < (lo : Int) + 2 * (W : Int)) = true) ∨
    (n < lo + W ∧ decide ((n : Int) < (lo : Int) + (W : Int)) = true ∧ decide ((n : Int) < (lo : Int) + 2 * (W : Int)) = true) := by
  rcases (show (lo + 2 * W ≤ n) ∨ (lo + W ≤ n ∧ n < lo + 2 * W) ∨ (n < lo + W) from by omega) with c | c | c
  · exact .inl ⟨c, decide_eq_false (by omega), decide_eq_false (by omega)⟩
  · exact .inr (.inl ⟨c, decide_eq_false (by omega), decide_eq_true (by omega)⟩)
  · exact .inr (.inr ⟨c, decide_eq_true (by omega), decide_eq_true (by omega)⟩)

set_option maxHeartbeats 4000000 in
set_option maxRecDepth 100000 in
theorem sort14_long (g cap c' : Nat) (zs : List Int) (w : World) (hm : zs.length ≤ 1048576) (h2 : 2 ≤ zs.length) (hr : IR w g 2 cap zs) :
    Calls Try.prog 14 #[.slice (some ⟨g, 0, none⟩) zs.length c'] w fun e w' => e = .returned (.tuple #[]) ∧ ∃ zs' : List Int, zs'.Perm zs ∧ zs'.Pairwise (· ≤ ·) ∧ IR w' g 2 cap zs' ∧ w.grownBy w' (some g) := by
  obtain ⟨i0, hi, hz0, hz1, hz2⟩ := info_parts Try.info2
  generalize hn : zs.length = n at *
  have hgB : g < w.heap.size := hr.lt
  have HN : Hid (zs.length = n) := hn
  have d0 : decide ((n : Int) < 2) = false := decide_eq_false (by omega)
  clear hn
  go_enter Try.func14, Try.ntmps14
  go_wp2_with (at_make; refine wpList_make_full _ rfl _ _ 22 rfl w.heap.size 2 i0 (.int .i64 0) 1 Try.underlying22 hi hz0 hz1 _ _ _ _ n rfl rfl rfl rfl (by rw [hz2]; omega) (by unfold maxLen; omega) (Nat.le_refl _) ?_; intro w1 hown hgrow)
  have hrow : IR w1 w.heap.size 2 n (List.replicate n 0) := madeI hown
  have hr1 : IR w1 g 2 cap zs := hr.kept hgrow (by simp)
  have hg1 : w.grownBy w1 (some g) := ⟨hgrow.os, hgrow.tape, hgrow.output, hgrow.size, fun k hk _ => hgrow.block k hk (by simp)⟩
  clear hown hgrow hr hi hz0 hz1 hz2
  go_loopw [4] (fun i wr => ∃ (W : Nat) (A D : List Int), 1 ≤ W ∧ W ≤ 2097152 ∧ i = .int .i64 W ∧ Hid (A.length = n ∧ D.length = n ∧ A.Perm zs ∧ Blk W A) ∧ IR wr g 2 cap A ∧ IR wr w.heap.size 2 n D ∧ w.grownBy wr (some g)) (fun i _ => n - (intOf i).toNat)
  case atStart => exact ⟨1, zs, List.replicate n 0, by omega, by omega, rfl, ⟨HN.out, by simp, List.Perm.refl _, blk_one _⟩, hr1, hrow, hg1⟩
  case round =>
    obtain ⟨W, A, D, hW1, hW2, rfl, HA, hrA, hrD, hgr⟩ := hrel
    clear hr1 hrow hg1
    by_cases hWn : W < n
    · go_wp2
      go_loopw [5] (fun i wr => ∃ (t lo : Nat) (D : List Int), i = .int .i64 lo ∧ lo ≤ n + 2097152 ∧ Hid (lo = t * (2 * W) ∧ D.length = n ∧ D.take (min lo n) = mrg W A t) ∧ IR wr g 2 cap A ∧ IR wr w.heap.size 2 n D ∧ w.grownBy wr (some g)) (fun i _ => n - (intOf i).toNat)
      case atStart => exact ⟨0, 0, D, rfl, by omega, ⟨by omega, HA.out.2.1, by simp [mrg]⟩, hrA, hrD, hgr⟩
      case round =>
        obtain ⟨t, lo, D1, rfl, hlo, HD, hrA, hrD, hgr⟩ := hrel
        by_cases hln : lo < n
        · rcases three n lo W with ⟨c, d1, d2⟩ | ⟨c, d1, d2⟩ | ⟨c, d1, d2⟩
          all_goals
            obtain ⟨mid, hi, hm1, hm2, hm3, hh1, hh2, hh3⟩ : ∃ mid hi : Nat, mid ≤ lo + W ∧ mid ≤ n ∧ (lo + W ≤ mid ∨ n ≤ mid) ∧ hi ≤ lo + 2 * W ∧ hi ≤ n ∧ (lo + 2 * W ≤ hi ∨ n ≤ hi) := ⟨min (lo + W) n, min (lo + 2 * W) n, by omega, by omega, by omega, by omega, by omega, by omega⟩
            have hlm : lo ≤ mid := by omega
            have hmh : mid ≤ hi := by omega
            obtain ⟨R, hR⟩ : ∃ R, mrg W A t ++ mg (seg A lo mid) (seg A mid hi) = R := ⟨_, rfl⟩
            have HR : Hid (R = mrg W A (t + 1)) := by
              rw [← hR, mrg]
              have e1 : (A.drop (t * (2 * W))).take W = seg A lo mid := by
                rw [← HD.out.1]
                exact seg_min hm1 (by have := HA.out.1; omega)
              have e2 : (A.drop (t * (2 * W) + W)).take W = seg A mid hi := by
                rw [← HD.out.1]
                by_cases hmm : mid = lo + W
                · rw [← hmm]
                  exact seg_min (by omega) (by have := HA.out.1; omega)
                · have : hi ≤ mid := by omega
                  rw [seg_nil this, List.drop_of_length_le (by have := HA.out.1; omega), List.take_nil]
              show _ = _ ++ mg _ _
              rw [e1, e2]
            have HI : Hid (D1.length = n ∧ D1.take lo ++ mg (seg A lo mid) (seg A mid hi) = R) := ⟨HD.out.2.1, by rw [← hR, ← HD.out.2.2, show min lo n = lo by omega]⟩
            clear hR
            go_wp2
            obtain ⟨wo, rfl⟩ : ∃ wo : World, wo = wr := ⟨_, rfl⟩
            go_loopw [8, 9, 10] (fun vi vj vk wr => ∃ (i j k : Nat) (D : List Int), lo ≤ i ∧ i ≤ mid ∧ mid ≤ j ∧ j ≤ hi ∧ k + mid ≤ i + j ∧ i + j ≤ k + mid ∧ vi = .int .i64 i ∧ vj = .int .i64 j ∧ vk = .int .i64 k ∧ Hid (D.length = n ∧ D.take k ++ mg (seg A i mid) (seg A j hi) = R) ∧ IR wr g 2 cap A ∧ IR wr w.heap.size 2 n D ∧ w.grownBy wr (some g)) (fun vi vj _ _ => mid + hi - (intOf vi).toNat - (intOf vj).toNat)
            case atStart => exact ⟨lo, mid, lo, D1, by omega, by omega, by omega, by omega, by omega, by omega, rfl, by go_num, rfl, HI, hrA, hrD, hgr⟩
            case round =>
              obtain ⟨i, j, k, D2, hi1, hi2, hj1, hj2, hk1, hk2, rfl, rfl, rfl, HI2, hrA, hrD, hgr⟩ := hrel
              clear HI
              by_cases hboth : i < mid ∧ j < hi
              · try (exfalso; omega)
                all_goals
                  obtain ⟨him, hjh⟩ := hboth
                  obtain ⟨zi, hzi⟩ : ∃ z, A[i]? = some z := ⟨_, List.getElem?_eq_getElem (by have := HA.out.1; omega)⟩
                  obtain ⟨zj, hzj⟩ : ∃ z, A[j]? = some z := ⟨_, List.getElem?_eq_getElem (by have := HA.out.1; omega)⟩
                  obtain ⟨zk, hzk⟩ : ∃ z, D2[k]? = some z := ⟨_, List.getElem?_eq_getElem (by have := HI2.out.1; omega)⟩
                  have gi := hrA.cell hzi
                  have gj := hrA.cell hzj
                  have gk := hrD.cell hzk
                  have fk := hrD.frozen k
                  have HS : Hid (seg A i mid = zi :: seg A (i + 1) mid ∧ seg A j hi = zj :: seg A (j + 1) hi) := ⟨seg_cons him hzi, seg_cons hjh hzj⟩
                  have c1 : (i : Int) < (n : Int) := by omega
                  have c2 : (j : Int) < (n : Int) := by omega
                  have hkD : k < D2.length := by have := HI2.out.1; omega
                  clear hzi hzj hzk
                  by_cases hlt : zj < zi
                  · have hD' := hrD.set k zj
                    have hA' := hrA.setOther (a := ⟨w.heap.size, k, none⟩) (by simp; omega) (.int .i64 zj)
                    have hg' := grown_setNew hgr (p := ⟨w.heap.size, k, none⟩) (Nat.le_refl _) (.int .i64 zj)
                    have HI3 : Hid ((D2.set k zj).length = n ∧ (D2.set k zj).take (k + 1) ++ mg (seg A i mid) (seg A (j + 1) hi) = R) := by
                      refine ⟨by simpa using HI2.out.1, buf_step hkD ?_⟩
                      have := HI2.out.2
                      rw [HS.out.2, HS.out.1, mg_right _ _ hlt, ← HS.out.1] at this
                      exact this
                    clear hrA hrD hgr hkD HI2
                    go_wp2_with fail
                    go_quiet (fail)
                    go_wp2
                    go_roundw
                    case rel => exact ⟨i, j + 1, k + 1, _, hi1, hi2, by omega, by omega, by omega, by omega, rfl, by go_num, by go_num, HI3, hA', hD', grown_drew hg' _⟩
                    case measure => simp [intOf]; omega
                  · have hD' := hrD.set k zi
                    have hA' := hrA.setOther (a := ⟨w.heap.size, k, none⟩) (by simp; omega) (.int .i64 zi)
                    have hg' := grown_setNew hgr (p := ⟨w.heap.size, k, none⟩) (Nat.le_refl _) (.int .i64 zi)
                    have HI3 : Hid ((D2.set k zi).length = n ∧ (D2.set k zi).take (k + 1) ++ mg (seg A (i + 1) mid) (seg A j hi) = R) := by
                      refine ⟨by simpa using HI2.out.1, buf_step hkD ?_⟩
                      have := HI2.out.2
                      rw [HS.out.2, HS.out.1, mg_left _ _ (by omega), ← HS.out.2] at this
                      exact this
                    clear hrA hrD hgr hkD HI2
                    go_wp2_with fail
                    go_quiet (fail)
                    go_wp2
                    go_roundw
                    case rel => exact ⟨i + 1, j, k + 1, _, by omega, by omega, hj1, hj2, by omega, by omega, by go_num, rfl, by go_num, HI3, hA', hD', grown_drew hg' _⟩
                    case measure => simp [intOf]; omega
              · rcases (show (mid ≤ i) ∨ (i < mid ∧ hi ≤ j) from by omega) with cc | cc
                all_goals
                  clear hboth
                  go_wp2
                  obtain ⟨wo2, rfl⟩ : ∃ wo : World, wo = wr := ⟨_, rfl⟩
                  go_loopw [8, 10] (fun vi vk wr => ∃ (i k : Nat) (D : List Int), lo ≤ i ∧ i ≤ mid ∧ (i < mid → hi ≤ j) ∧ k + mid ≤ i + j ∧ i + j ≤ k + mid ∧ vi = .int .i64 i ∧ vk = .int .i64 k ∧ Hid (D.length = n ∧ D.take k ++ mg (seg A i mid) (seg A j hi) = R) ∧ IR wr g 2 cap A ∧ IR wr w.heap.size 2 n D ∧ w.grownBy wr (some g)) (fun vi _ _ => mid - (intOf vi).toNat)
                  case atStart => exact ⟨i, k, D2, by omega, by omega, by omega, by omega, by omega, rfl, rfl, HI2, hrA, hrD, hgr⟩
                  case round =>
                    clear cc hi1 hi2 hk1 hk2 HI2 hrA hrD hgr
                    obtain ⟨i, k, D2, hi1, hi2, hi3, hk1, hk2, rfl, rfl, HI2, hrA, hrD, hgr⟩ := hrel
                    by_cases him : i < mid
                    · have hjh := hi3 him
                      obtain ⟨zi, hzi⟩ : ∃ z, A[i]? = some z := ⟨_, List.getElem?_eq_getElem (by have := HA.out.1; omega)⟩
                      obtain ⟨zk, hzk⟩ : ∃ z, D2[k]? = some z := ⟨_, List.getElem?_eq_getElem (by have := HI2.out.1; omega)⟩
                      have gi := hrA.cell hzi
                      have gk := hrD.cell hzk
                      have fk := hrD.frozen k
                      have c1 : (i : Int) < (n : Int) := by omega
                      have hkD : k < D2.length := by have := HI2.out.1; omega
                      have hD' := hrD.set k zi
                      have hA' := hrA.setOther (a := ⟨w.heap.size, k, none⟩) (by simp; omega) (.int .i64 zi)
                      have hg' := grown_setNew hgr (p := ⟨w.heap.size, k, none⟩) (Nat.le_refl _) (.int .i64 zi)
                      have HI3 : Hid ((D2.set k zi).length = n ∧ (D2.set k zi).take (k + 1) ++ mg (seg A (i + 1) mid) (seg A j hi) = R) := by
                        refine ⟨by simpa using HI2.out.1, buf_step hkD ?_⟩
                        have := HI2.out.2
                        rw [seg_nil hjh, seg_cons him hzi, mg_nil_right] at this
                        rw [seg_nil hjh, mg_nil_right]
                        exact this
                      clear hzi hzk hrA hrD hgr hkD HI2 hi3
                      go_wp2
                      go_roundw
                      case rel => exact ⟨i + 1, k + 1, _, by omega, by omega, by omega, by omega, by omega, by go_num, by go_num, HI3, hA', hD', hg'⟩
                      case measure => simp [intOf]; omega
                    · clear hi3
                      go_wp2
                      obtain ⟨wo3, rfl⟩ : ∃ wo : World, wo = wr := ⟨_, rfl⟩
                      go_loopw [9, 10] (fun vj vk wr => ∃ (j k : Nat) (D : List Int), mid ≤ j ∧ j ≤ hi ∧ k ≤ j ∧ j ≤ k ∧ vj = .int .i64 j ∧ vk = .int .i64 k ∧ Hid (D.length = n ∧ D.take k ++ seg A j hi = R) ∧ IR wr g 2 cap A ∧ IR wr w.heap.size 2 n D ∧ w.grownBy wr (some g)) (fun vj _ _ => hi - (intOf vj).toNat)
                      case atStart =>
                        have e := HI2.out
                        rw [seg_nil (by omega : mid ≤ i), mg_nil_left] at e
                        exact ⟨j, k, D2, by omega, by omega, by omega, by omega, rfl, rfl, e, hrA, hrD, hgr⟩
                      case round =>
                        clear hj1 hj2 hk1 hk2 HI2 hrA hrD hgr
                        obtain ⟨j, k, D2, hj1, hj2, hk1, hk2, rfl, rfl, HI2, hrA, hrD, hgr⟩ := hrel
                        by_cases hjh : j < hi
                        · try (exfalso; omega)
                          all_goals
                            obtain ⟨zj, hzj⟩ : ∃ z, A[j]? = some z := ⟨_, List.getElem?_eq_getElem (by have := HA.out.1; omega)⟩
                            obtain ⟨zk, hzk⟩ : ∃ z, D2[k]? = some z := ⟨_, List.getElem?_eq_getElem (by have := HI2.out.1; omega)⟩
                            have gj := hrA.cell hzj
                            have gk := hrD.cell hzk
                            have fk := hrD.frozen k
                            have c1 : (j : Int) < (n : Int) := by omega
                            have hkD : k < D2.length := by have := HI2.out.1; omega
                            have hD' := hrD.set k zj
                            have hA' := hrA.setOther (a := ⟨w.heap.size, k, none⟩) (by simp; omega) (.int .i64 zj)
                            have hg' := grown_setNew hgr (p := ⟨w.heap.size, k, none⟩) (Nat.le_refl _) (.int .i64 zj)
                            have HI3 : Hid ((D2.set k zj).length = n ∧ (D2.set k zj).take (k + 1) ++ seg A (j + 1) hi = R) := by
                              refine ⟨by simpa using HI2.out.1, buf_step hkD ?_⟩
                              have := HI2.out.2
                              rw [seg_cons hjh hzj] at this
                              exact this
                            clear hzj hzk hrA hrD hgr hkD HI2
                            go_wp2
                            go_roundw
                            case rel => exact ⟨j + 1, k + 1, _, by omega, by omega, by omega, by omega, by go_num, by go_num, HI3, hA', hD', hg'⟩
                            case measure => simp [intOf]; omega
                        · have hrel' : Hid (lo + 2 * W = (t + 1) * (2 * W) ∧ D2.length = n ∧ D2.take (min (lo + 2 * W) n) = mrg W A (t + 1)) := by
                            refine ⟨by rw [Nat.add_mul, Nat.one_mul, ← HD.out.1], HI2.out.1, ?_⟩
                            rw [← HR.out, ← HI2.out.2, seg_nil (by omega), List.append_nil, show min (lo + 2 * W) n = k by omega]
                          go_wp2
                          go_roundw
                          case rel => exact ⟨t + 1, lo + 2 * W, D2, by go_num, by omega, hrel', hrA, hrD, hgr⟩
                          case measure => simp [intOf]; omega
        · have HM : Hid (D1 = mrg W A t ∧ D1.length = n ∧ n ≤ t * (2 * W)) := by
            refine ⟨?_, HD.out.2.1, by rw [← HD.out.1]; omega⟩
            rw [← HD.out.2.2, List.take_of_length_le (by have := HD.out.2.1; omega)]
          clear HD
          go_wp2
          obtain ⟨wo, rfl⟩ : ∃ wo : World, wo = wr := ⟨_, rfl⟩
          go_loopw [11] (fun vt wr => ∃ k : Nat, k ≤ n ∧ vt = .int .i64 k ∧ IR wr g 2 cap (D1.take k ++ A.drop k) ∧ IR wr w.heap.size 2 n D1 ∧ w.grownBy wr (some g)) (fun vt _ => n - (intOf vt).toNat)
          case atStart => exact ⟨0, by omega, rfl, by simpa using hrA, hrD, hgr⟩
          case round =>
            clear hrA hrD hgr
            obtain ⟨k, hk, rfl, hrA, hrD, hgr⟩ := hrel
            by_cases hkn : k < n
            · obtain ⟨z, hz⟩ : ∃ z, D1[k]? = some z := ⟨_, List.getElem?_eq_getElem (by have := HM.out.2.1; omega)⟩
              obtain ⟨y, hy⟩ : ∃ z, (D1.take k ++ A.drop k)[k]? = some z := ⟨_, List.getElem?_eq_getElem (by have := HM.out.2.1; have := HA.out.1; simp; omega)⟩
              have g1 := hrD.cell hz
              have g2 := hrA.cell hy
              have fk := hrA.frozen k
              have hA' := hrA.set k z
              rw [copy_step (by have := HM.out.2.1; have := HA.out.1; omega) hz] at hA'
              have hD' := hrD.setOther (a := ⟨g, k, none⟩) (by simp; omega) (.int .i64 z)
              have hg' := grown_set hgr k (.int .i64 z)
              clear hz hy hrA hrD hgr
              go_wp2
              go_roundw
              case rel => exact ⟨k + 1, by omega, by go_num, hA', hD', hg'⟩
              case measure => simp [intOf]; omega
            · have hA' : IR wr g 2 cap D1 := by
                have e : D1.take k ++ A.drop k = D1 := by
                  have e1 := HM.out.2.1
                  have e2 := HA.out.1
                  rw [List.take_of_length_le (by omega), List.drop_of_length_le (by omega), List.append_nil]
                rwa [e] at hrA
              have HA' : Hid (D1.length = n ∧ D1.length = n ∧ D1.Perm zs ∧ Blk (W * 2) D1) := by
                refine ⟨HM.out.2.1, HM.out.2.1, ?_, ?_⟩
                · rw [HM.out.1]
                  exact (mrg_all W A t (by have := HA.out.1; have := HM.out.2.2; omega)).trans HA.out.2.2.1
                · rw [HM.out.1, Nat.mul_comm]
                  exact mrg_blk HA.out.2.2.2 t
              clear hrA
              go_wp2
              go_roundw
              case rel => exact ⟨W * 2, D1, D1, by omega, by omega, by go_num, HA', hA', hrD, hgr⟩
              case measure => simp [intOf]; omega
    · go_wp2
      go_returns
      exact ⟨rfl, A, HA.out.2.2.1, blk_all HA.out.2.2.2 (by have := HA.out.1; omega), hrA, hgr⟩

theorem sort14 (g cap c' : Nat) (zs : List Int) (w : World) (hm : zs.length ≤ 1048576) (hr : IR w g 2 cap zs) :
    Calls Try.prog 14 #[.slice (some ⟨g, 0, none⟩) zs.length c'] w fun e w' => e = .returned (.tuple #[]) ∧ ∃ zs' : List Int, zs'.Perm zs ∧ zs'.Pairwise (· ≤ ·) ∧ IR w' g 2 cap zs' ∧ w.grownBy w' (some g) := by
  by_cases h2 : zs.length < 2
  · refine (sort14_short _ _ _ _ h2).mono ?_
    rintro e w' ⟨rfl, rfl⟩
    exact ⟨rfl, zs, List.Perm.refl _, short_sorted h2, hr, World.grownBy.refl _ _⟩
  · exact sort14_long g cap c' zs w hm (by omega) hr

end Go.Proofs.Qxb6605323a
