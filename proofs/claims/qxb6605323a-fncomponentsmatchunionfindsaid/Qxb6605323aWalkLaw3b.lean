import Derived.Test.Qxb6605323aWalkLaw3
namespace Go.Proofs.Qxb6605323a
open Go.RowKit
set_option linter.unusedVariables false

/-- What the variable 'best' holds. -/
def BestV (n : Nat) (rt : Nat → Nat) (f : Nat → Int) (i : Nat) (v : Value) : Prop :=
  (bestTo n rt f i = none ∧ v = .int .i64 (-1)) ∨ ∃ c : Nat, bestTo n rt f i = some c ∧ v = .int .i64 c

theorem BestV.skip {n : Nat} {rt : Nat → Nat} {f : Nat → Int} {i : Nat} {v : Value} (h : BestV n rt f i v) (hr : rt i ≠ i) : BestV n rt f (i + 1) v := by
  unfold BestV
  rw [best_skip hr]
  exact h

set_option maxHeartbeats 8000000 in
set_option maxRecDepth 100000 in
theorem law3_main (a0 a1 a2 : Option Addr) (c0 c1 c2 n : Nat) (ids S N : List Int) (w : World) (hids : ids.length = n) (hn1 : 1 ≤ n) (h : n + S.length + N.length ≤ 131072) (g0 : Arg w a0 c0 ids) (g1 : Arg w a1 c1 S) (g2 : Arg w a2 c2 N) :
    Calls Try.prog 3 #[.slice a0 n c0, .slice a1 S.length c1, .slice a2 N.length c2] w fun e w' => e = .returned (.bool true) ∧ Below w.heap.size w w' := by
  obtain ⟨i2, hi2, hx0, hx1, hx2⟩ := info_parts Try.info2
  obtain ⟨i3, hi3, hy0, hy1, hy2⟩ := info_parts Try.info3
  have HI : Hid (ids.length = n) := hids
  have d0 : ((n : Int) == 0) = false := beq_eq_false_iff_ne.2 (by omega)
  have d1 : decide ((131072 : Int) < (n : Int)) = false := decide_eq_false (by omega)
  have d2 : decide ((131072 : Int) < (S.length : Int)) = false := decide_eq_false (by omega)
  have d3 : decide ((131072 : Int) < (N.length : Int)) = false := decide_eq_false (by omega)
  have d4 : decide ((1048576 : Int) < 8 * (n : Int) + 8 * (S.length : Int) + 8 * (N.length : Int)) = false := decide_eq_false (by omega)
  clear hids
  go_enter Try.func3, Try.ntmps3
  go_wp2_with fail
  refine (bytes7_yes a0 a1 a2 n c0 S.length c1 N.length c2 _ (by omega)).mono ?_
  rintro e w' ⟨rfl, hw⟩
  obtain rfl := hw.symm
  clear hw
  go_wp2_with fail
  refine (wf8 n a1 a2 S N c1 c2 _ (by omega) (by omega) (by omega) g1 g2).mono ?_
  rintro e w1 ⟨⟨b, rfl, hwf⟩, hb1⟩
  cases b
  · go_wp2
    go_ret
    exact ⟨rfl, hb1⟩
  have HWF : Hid (WF n S N) := hwf rfl
  clear hwf
  have g1' := g1.below hb1
  have g2' := g2.below hb1
  go_wp2_with fail
  refine (sym9' n a1 a2 S N c1 c2 _ hn1 (by omega) (by omega) HWF.out g1' g2').mono ?_
  rintro e w2 ⟨⟨b, rfl, hsy⟩, hb2⟩
  have hb2' : Below w.heap.size w w2 := hb1.trans (hb2.mono hb1.size)
  cases b
  · go_wp2
    go_ret
    exact ⟨rfl, hb2'⟩
  have HSY : Hid (Symm n S N) := hsy rfl
  clear hsy hb2 hb1 g1' g2'
  obtain ⟨rt, hrt⟩ := rt_exists (gr_of HWF.out HSY.out)
  have HR : Hid (WF n S N ∧ Symm n S N ∧ Gr n (adj S N) ∧ IsRt n (adj S N) rt) := ⟨HWF.out, HSY.out, gr_of HWF.out HSY.out, hrt⟩
  clear HWF HSY hrt
  go_wp2_with fail
  have k0 := clone10 a0 c0 ids w2 (by have := HI.out; omega) (g0.below hb2')
  rw [HI.out] at k0
  refine k0.mono ?_
  clear k0
  rintro e w3 ⟨a0', rfl, g0', hb3⟩
  have hb3' : Below w.heap.size w w3 := hb2'.trans (hb3.mono hb2'.size)
  obtain ⟨b0, o0, rfl⟩ := g0'.cells.ex (by have := HI.out; omega)
  go_wp2_with fail
  refine (clone11 a1 c1 S _ (by omega) (g1.below hb3')).mono ?_
  rintro e w4 ⟨a1', rfl, g1', hb4⟩
  have hb4' : Below w.heap.size w w4 := hb3'.trans (hb4.mono hb3'.size)
  obtain ⟨b1, o1, rfl⟩ := g1'.cells.ex (by have := HR.out.1.len; omega)
  have c0' := g0'.cells.below hb4
  go_wp2_with fail
  refine (clone11 a2 c2 N _ (by omega) (g2.below hb4')).mono ?_
  rintro e w5 ⟨a2', rfl, g2', hb5⟩
  have hb5' : Below w.heap.size w w5 := hb4'.trans (hb5.mono hb4'.size)
  have c0'' := c0'.below hb5
  have c1'' := g1'.cells.below hb5
  have c2'' := g2'.cells
  clear c0' g0' g1' g2' g0 g1 g2 hb2' hb3 hb3' hb4 hb4' hb5
  go_wp2_with fail
  refine (zz12 n b0 o0 b1 o1 a2' ids S N n S.length N.length _ hn1 (by omega) HI.out (by omega) (by omega) (Nat.le_refl _) HR.out.1 HR.out.2.1 rt HR.out.2.2.2 c0'' c1'' c2'').mono ?_
  rintro e w6 ⟨gL, L, b, ls, rfl, hgL, hbest, hrL, hlsL, hperm, hsort, hb6⟩
  have hb6' : Below w.heap.size w w6 := hb5'.trans (hb6.mono hb5'.size)
  generalize hf : (fun v => ids.getD v 0) = f at *
  have HB : Hid ((fun v => ids.getD v 0) = f ∧ bestTo n rt f n = some b ∧ ls.length = L ∧ ls.Perm ((cls n rt b).map f) ∧ ls.Pairwise (· ≤ ·)) := ⟨hf, hbest, hlsL, hperm, hsort⟩
  have C0 := c0''.below hb6
  have C1 := c1''.below hb6
  have C2 := c2''.below hb6
  clear hf hbest hlsL hperm hsort c0'' c1'' c2'' hb5' hb6
  have hcn : (rootsTo rt n).length ≤ n := by
    have := List.length_filter_le (fun i => rt i == i) (List.range n)
    simpa [rootsTo] using this
  go_wp2_with fail
  refine (roots13 n b1 o1 a2' S N S.length N.length _ (by omega) (by omega) (by omega) HR.out.1 HR.out.2.1 rt HR.out.2.2.2 C1 C2).mono ?_
  rintro e w7 ⟨gR, hgR, rfl, hrR, hb7⟩
  have hb7' : Below w.heap.size w w7 := hb6'.trans (hb7.mono hb6'.size)
  have C0' := C0.below hb7
  have hrL' := hrL.below hb7 hrL.lt
  have HC0 : Hid (Cells w7 (some ⟨b0, o0, none⟩) ids) := C0'
  have hgR' := hrR.lt
  have hgL' := hrL'.lt
  clear C0 C1 C2 C0' hb6' hb7 hrL hgL hgR
  go_wp2_with (first | (at_make; refine wpList_make_full _ rfl _ _ 23 rfl w7.heap.size 3 i3 (.int .i64 0) 1 Try.underlying23 hi3 hy0 hy1 _ _ _ _ n rfl rfl rfl rfl (by rw [hy2]; omega) (by unfold maxLen; omega) (Nat.le_refl _) ?_; intro w8 hown8 hgrow8) | (at_make; refine wpList_make_full _ rfl _ _ 22 rfl w7.heap.size 2 i2 (.int .i64 0) 1 Try.underlying22 hi2 hx0 hx1 _ _ _ _ n rfl rfl rfl rfl (by rw [hx2]; omega) (by unfold maxLen; omega) hgrow8.size ?_; intro w9 hown9 hgrow9))
  clear d1 d2 d3 d4
  obtain ⟨gS, hgS⟩ : ∃ gS, gS = w7.heap.size := ⟨_, rfl⟩
  obtain ⟨gT, hgT⟩ : ∃ gT, gT = w8.heap.size := ⟨_, rfl⟩
  have hST : gS < gT := by
    have := (Rw.of_owns hown8).lt
    omega
  have hSr : NR w9 gS 3 n (sizes n rt 0) := by
    have h1 := madeI hown8
    have h2 := h1.kept hgrow9 (by simp)
    rw [← hgS] at h2
    rw [sizes_zero]
    unfold NR
    simpa using h2
  have hTr : IR w9 gT 2 n (leasts n rt f 0) := by
    have h1 := madeI hown9
    rw [← hgT] at h1
    rw [leasts_zero]
    exact h1
  have hbS : Below gS w7 w9 := by
    rw [hgS]
    exact ((Below.refl _ _).grown hgrow8 (Nat.le_refl _) (by simp)).grown hgrow9 hgrow8.size (by simp)
  rw [← hgS, ← hgT]
  have hgR'' : gR < gS := by omega
  have hgL'' : gL < gS := by omega
  have HB7 : Hid (Below w.heap.size w w7 ∧ w.heap.size ≤ gS ∧ gS = w7.heap.size) := ⟨hb7', by rw [hgS]; exact hb7'.size, hgS⟩
  clear hown8 hown9 hgrow8 hgrow9 hgT hgS hb7' hgR' hgL'
  go_loopw [13, 14] (fun v13 v14 wr => ∃ i : Nat, i ≤ n ∧ v14 = .int .i64 i ∧ v13 = .int .i64 (rootsTo rt i).length ∧ NR wr gS 3 n (sizes n rt i) ∧ IR wr gT 2 n (leasts n rt f i) ∧ Below gS w7 wr) (fun _ v14 _ => n - (intOf v14).toNat)
  case atStart => exact ⟨0, by omega, rfl, rfl, hSr, hTr, hbS⟩
  case round =>
    clear hSr hTr hbS
    obtain ⟨i, hi, rfl, rfl, hSr, hTr, hbS⟩ := hrel
    by_cases hin : i < n
    · have gr := (hrR.below hbS hgR'').cell (show ((List.range n).map rt)[i]? = some (rt i) by simp [hin])
      obtain ⟨fi, hfi⟩ : ∃ z, ids[i]? = some z := ⟨_, List.getElem?_eq_getElem (by have := HI.out; omega)⟩
      have hbS7 : Below w7.heap.size w7 wr := by rw [← HB7.out.2.2]; exact hbS
      have gi := (HC0.out.below hbS7).at hfi
      have HFI : Hid (ids[i]? = some fi ∧ f i = fi) := ⟨hfi, by rw [← HB.out.1]; exact getD_of hfi⟩
      have hrn : rt i < n := HR.out.2.2.2.lt hin
      have hri : rt i ≤ i := HR.out.2.2.2.le i hin
      have gs := hSr.cell (sizes_get i hrn)
      have gt := hTr.cell (leasts_get i hrn)
      have fs := hSr.frozen (rt i)
      have ft := hTr.frozen (rt i)
      have hcs : (clsTo rt i (rt i)).length ≤ i := clsTo_bound i (rt i)
      have hss := hSr.set (rt i) ((clsTo rt i (rt i)).length + 1)
      rw [sizes_step] at hss
      have hrl : (rootsTo rt i).length ≤ i := by
        have := List.length_filter_le (fun i => rt i == i) (List.range i)
        simpa [rootsTo] using this
      clear hbS7 hfi
      by_cases hroot : rt i = i
      · have HRN : Hid ((rootsTo rt (i + 1)).length = (rootsTo rt i).length + 1) := by show _ = _; rw [roots_take hroot]; simp
        have hts := hTr.set (rt i) fi
        rw [leasts_step i fi (by rw [← HFI.out.2]; exact least_root HR.out.2.2.2 hin hroot)] at hts
        have HRO : Hid (rt i = i) := hroot
        rw [hroot] at gr gs gt fs ft hss hts hcs
        generalize hcl : (clsTo rt i i).length = cs at *
        generalize hll : lst f (clsTo rt i i) = ll at *
        have hS' : NR ((wr.setCell ⟨gT, i, none⟩ (.int .i64 fi)).setCell ⟨gS, i, none⟩ (.int .i64 ((cs : Int) + 1))) gS 3 n (sizes n rt (i + 1)) := by
          have h1 := (hSr.setOther (a := ⟨gT, i, none⟩) (by simp; omega) (.int .i64 fi)).set i (cs + 1)
          have h2 := sizes_step (n := n) (rt := rt) i
          rw [hroot, hcl] at h2
          rw [h2] at h1
          exact h1
        have hT' : IR ((wr.setCell ⟨gT, i, none⟩ (.int .i64 fi)).setCell ⟨gS, i, none⟩ (.int .i64 ((cs : Int) + 1))) gT 2 n (leasts n rt f (i + 1)) := hts.setOther (by simp; omega) _
        have hb' : Below gS w7 ((wr.setCell ⟨gT, i, none⟩ (.int .i64 fi)).setCell ⟨gS, i, none⟩ (.int .i64 ((cs : Int) + 1))) := (hbS.setCell (by simp; omega) _).setCell (by simp) _
        have hne : ¬ gT = gS := by omega
        clear hroot hcl hll hss hts hSr hTr hbS hri hrn
        go_wp2_with fail
        obtain ⟨wq, hwq⟩ : ∃ wq, wq = (wr.setCell ⟨gT, i, none⟩ (.int .i64 fi)).setCell ⟨gS, i, none⟩ (.int .i64 ((cs : Int) + 1)) := ⟨_, rfl⟩
        rw [← hwq] at hS' hT' hb' ⊢
        have hbq7 : Below w7.heap.size w7 wq := by rw [← HB7.out.2.2]; exact hb'
        have gi' := (HC0.out.below hbq7).at HFI.out.1
        have gt' := hT'.cell (leasts_get (i + 1) hin)
        have HLR : Hid (lst f (clsTo rt (i + 1) i) = fi) := by
          have := least_root (f := f) HR.out.2.2.2 hin HRO.out
          rw [HRO.out, HFI.out.2] at this
          exact this.symm
        rw [HLR.out] at gt'
        clear gr gs gt fs ft gi hwq hbq7
        go_quiet (fail)
        go_wp2
        go_roundw
        case rel => exact ⟨i + 1, by omega, by go_num, by rw [HRN.out]; go_num, hS', hT', below_drewN hb' _⟩
        case measure => simp [intOf]; omega
      · have HRN : Hid (rootsTo rt (i + 1) = rootsTo rt i) := roots_skip hroot
        have HLN : Hid (lst f (clsTo rt (i + 1) (rt i)) = min (lst f (clsTo rt i (rt i))) fi) := by
          rw [← HFI.out.2]
          exact least_next HR.out.2.2.1 HR.out.2.2.2 hin hroot
        have HST : Hid (∀ x, x = lst f (clsTo rt (i + 1) (rt i)) → (leasts n rt f i).set (rt i) x = leasts n rt f (i + 1)) := fun x hx => leasts_step i x hx
        have HSM : Hid (lst f (clsTo rt (i + 1) (rt i)) = lst f (clsTo rt i (rt i)) → leasts n rt f (i + 1) = leasts n rt f i) := fun hx => leasts_same hx
        generalize hcl : (clsTo rt i (rt i)).length = cs at *
        generalize hll : lst f (clsTo rt i (rt i)) = ll at *
        generalize hl2 : lst f (clsTo rt (i + 1) (rt i)) = l2 at *
        generalize hr : rt i = r at *
        have hne : ((r : Int) == (i : Int)) = false := beq_eq_false_iff_ne.2 (by omega)
        have hS' : NR (wr.setCell ⟨gS, r, none⟩ (.int .i64 ((cs : Int) + 1))) gS 3 n (sizes n rt (i + 1)) := hss
        have hT' : IR (wr.setCell ⟨gS, r, none⟩ (.int .i64 ((cs : Int) + 1))) gT 2 n (leasts n rt f i) := hTr.setOther (by simp; omega) _
        have hb' : Below gS w7 (wr.setCell ⟨gS, r, none⟩ (.int .i64 ((cs : Int) + 1))) := hbS.setCell (by simp) _
        have HG : Hid ((leasts n rt f i)[r]? = some ll) := by rw [← hll, ← hr]; exact leasts_get i (by rw [hr]; exact hrn)
        clear hroot hcl hll hl2 hr hss hSr hTr hbS
        go_wp2_with fail
        obtain ⟨wq, hwq⟩ : ∃ wq, wq = wr.setCell ⟨gS, r, none⟩ (.int .i64 ((cs : Int) + 1)) := ⟨_, rfl⟩
        rw [← hwq] at hS' hT' hb' ⊢
        have hbq7 : Below w7.heap.size w7 wq := by rw [← HB7.out.2.2]; exact hb'
        have gi' := (HC0.out.below hbq7).at HFI.out.1
        have gt' := hT'.cell HG.out
        have ft' := hT'.frozen r
        clear gr gs gt fs ft gi hwq hbq7
        by_cases hlt : fi < ll
        · have hT2 := hT'.set r fi
          rw [HST.out fi (by rw [HLN.out]; omega)] at hT2
          have hS2 := hS'.setOther (a := ⟨gT, r, none⟩) (by simp; omega) (.int .i64 fi)
          have hb2 := hb'.setCell (p := ⟨gT, r, none⟩) (by simp; omega) (.int .i64 fi)
          clear hT' hS' hb'
          go_quiet (fail)
          go_wp2
          go_roundw
          case rel => exact ⟨i + 1, by omega, by go_num, by rw [HRN.out], hS2, hT2, below_drewN hb2 _⟩
          case measure => simp [intOf]; omega
        · have hT2 : IR wq gT 2 n (leasts n rt f (i + 1)) := by
            rw [HSM.out (by rw [HLN.out]; omega)]
            exact hT'
          clear hT'
          go_quiet (fail)
          go_wp2
          go_roundw
          case rel => exact ⟨i + 1, by omega, by go_num, by rw [HRN.out], hS', hT2, below_drewN hb' _⟩
          case measure => simp [intOf]; omega
    · have hin' : n = i := by omega
      subst hin'
      obtain ⟨wA, rfl⟩ : ∃ wA : World, wA = wr := ⟨_, rfl⟩
      go_wp2
      go_loopw [16, 17] (fun v16 v17 wr => ∃ i : Nat, i ≤ n ∧ v17 = .int .i64 i ∧ BestV n rt f i v16 ∧ Below wA.heap.size wA wr) (fun _ v17 _ => n - (intOf v17).toNat)
      case atStart => exact ⟨0, by omega, rfl, .inl ⟨by simp [bestTo, rootsTo], rfl⟩, Below.refl _ _⟩
      case round =>
        obtain ⟨i, hi, rfl, hbv, hbA⟩ := hrel
        by_cases hin : i < n
        · have gr := ((hrR.below hbS hgR'').below hbA (hrR.below hbS hgR'').lt).cell (show ((List.range n).map rt)[i]? = some (rt i) by simp [hin])
          by_cases hroot : rt i = i
          · rw [hroot] at gr
            have hne : ((i : Int) != (i : Int)) = false := by simp
            rcases hbv with ⟨hbn, rfl⟩ | ⟨c, hbc, rfl⟩
            · have HBN : Hid (bestTo n rt f (i + 1) = some i) := pick_none hroot hbn
              clear hroot hbn
              go_wp2_with fail
              go_quiet (fail)
              go_wp2
              go_roundw
              case rel => exact ⟨i + 1, by omega, by go_num, .inr ⟨i, HBN.out, rfl⟩, below_drewN hbA _⟩
              case measure => simp [intOf]; omega
            · have hcr := best_root hbc
              have hcn : c < n := by omega
              have gsi := (hSr.below hbA hSr.lt).cell (sizes_get n hin)
              have gsc := (hSr.below hbA hSr.lt).cell (sizes_get n hcn)
              have gti := (hTr.below hbA hTr.lt).cell (leasts_get n hin)
              have gtc := (hTr.below hbA hTr.lt).cell (leasts_get n hcn)
              have HY := fun hb => pick_yes (n := n) (f := f) hroot hbc hb
              have HN := fun hb => pick_no (n := n) (f := f) hroot hbc hb
              rw [clsTo_all] at gsi gsc gti gtc
              have hs1 : (cls n rt i).length ≤ n := sz_le i
              have hs2 : (cls n rt c).length ≤ n := sz_le c
              unfold sz at HY HN
              generalize (cls n rt i).length = si at *
              generalize (cls n rt c).length = sc at *
              generalize lst f (cls n rt i) = li at *
              generalize lst f (cls n rt c) = lc at *
              have HY' : Hid (sc < si ∨ si = sc ∧ li < lc → bestTo n rt f (i + 1) = some i) := HY
              have HN' : Hid (¬ (sc < si ∨ si = sc ∧ li < lc) → bestTo n rt f (i + 1) = some c) := HN
              have x1 : decide ((c : Int) < 0) = false := decide_eq_false (by omega)
              have x2 : (c : Int) < (n : Int) := by omega
              have x3 : (i : Int) < (n : Int) := by omega
              clear hroot hbc HY HN hcr
              by_cases hA : sc < si
              · have x4 : decide ((sc : Int) < (si : Int)) = true := decide_eq_true (by omega)
                go_wp2_with fail
                go_quiet (fail)
                go_wp2
                go_roundw
                case rel => exact ⟨i + 1, by omega, by go_num, .inr ⟨i, HY'.out (.inl hA), rfl⟩, below_drewN hbA _⟩
                case measure => simp [intOf]; omega
              · have x4 : decide ((sc : Int) < (si : Int)) = false := decide_eq_false (by omega)
                by_cases hB : si = sc
                · subst hB
                  have x5 : ((si : Int) == (si : Int)) = true := by simp
                  by_cases hC : li < lc
                  · have x6 : decide (li < lc) = true := decide_eq_true hC
                    go_wp2_with fail
                    go_quiet (fail)
                    go_wp2
                    go_roundw
                    case rel => exact ⟨i + 1, by omega, by go_num, .inr ⟨i, HY'.out (by simp [hC]), rfl⟩, below_drewN hbA _⟩
                    case measure => simp [intOf]; omega
                  · have x6 : decide (li < lc) = false := decide_eq_false hC
                    go_wp2_with fail
                    go_quiet (fail)
                    go_wp2
                    go_roundw
                    case rel => exact ⟨i + 1, by omega, by go_num, .inr ⟨c, HN'.out (by omega), rfl⟩, below_drewN hbA _⟩
                    case measure => simp [intOf]; omega
                · have x5 : ((si : Int) == (sc : Int)) = false := beq_eq_false_iff_ne.2 (by omega)
                  go_wp2_with fail
                  go_quiet (fail)
                  go_wp2
                  go_roundw
                  case rel => exact ⟨i + 1, by omega, by go_num, .inr ⟨c, HN'.out (by omega), rfl⟩, below_drewN hbA _⟩
                  case measure => simp [intOf]; omega
          · have hne : ((rt i : Int) != (i : Int)) = true := by rw [bne_iff_ne]; omega
            have hbv' := hbv.skip hroot
            clear hroot hbv
            go_wp2
            go_roundw
            case rel => exact ⟨i + 1, by omega, by go_num, hbv', hbA⟩
            case measure => simp [intOf]; omega
        · have hin' : n = i := by omega
          subst hin'
          rcases hbv with ⟨hbn, _⟩ | ⟨c, hbc, rfl⟩
          · have := HB.out.2.1
            rw [hbn] at this
            cases this
          obtain rfl : c = b := by
            have := HB.out.2.1
            rw [hbc] at this
            simpa using this
          have hcr := best_root hbc
          have hcn' : c < n := hcr.1
          have gsc := (hSr.below hbA hSr.lt).cell (sizes_get n hcn')
          rw [clsTo_all] at gsc
          have hrRB := (hrR.below hbS hgR'').below hbA (hrR.below hbS hgR'').lt
          have hrLB := (hrL'.below hbS hgL'').below hbA (hrL'.below hbS hgL'').lt
          have hbS7 : Below w7.heap.size w7 wA := by rw [← HB7.out.2.2]; exact hbS
          have HCB : Hid (Cells wr (some ⟨b0, o0, none⟩) ids) := (HC0.out.below hbS7).below hbA
          have HBB : Hid (Below w.heap.size w wr) := by
            have h1 := hbS.size
            exact (HB7.out.1.trans (hbS.mono HB7.out.2.1)).trans (hbA.mono (by have := HB7.out.2.1; have := HB7.out.2.2; omega))
          obtain ⟨sb, hsb⟩ : ∃ sb, sb = (cls n rt c).length := ⟨_, rfl⟩
          rw [← hsb] at gsc
          have hsn : sb ≤ n := by rw [hsb]; exact sz_le c
          have HSB : Hid (sb = (cls n rt c).length) := hsb
          have x2 : (c : Int) < (n : Int) := by omega
          clear hbc hcr hSr hTr hbA hbS hbS7 hsb hrR hrL' hgR'' hgL'' HC0 HB7 hST
          obtain ⟨wB, rfl⟩ : ∃ wB : World, wB = wr := ⟨_, rfl⟩
          go_wp2_with (at_make; refine wpList_make_own _ rfl _ _ 22 rfl wB.heap.size 2 i2 (.int .i64 0) 1 Try.underlying22 hi2 hx0 hx1 _ _ _ sb rfl rfl rfl (by rw [hx2]; omega) (by unfold maxLen; omega) (Nat.le_refl _) ?_; intro wC hownC hgrowC)
          have hW0 : IR wC wB.heap.size 2 sb ((clsTo rt 0 c).map f) := by
            have := made0 hownC
            simpa [clsTo] using this
          have hbC : Below wB.heap.size wB wC := (Below.refl _ _).grown hgrowC (Nat.le_refl _) (by simp)
          clear hownC hgrowC
          go_loopw [18, 19] (fun v18 v19 wr => ∃ i m : Nat, i ≤ n ∧ v19 = .int .i64 i ∧ v18 = .slice (some ⟨wB.heap.size, 0, none⟩) m sb ∧ Hid (m = (clsTo rt i c).length) ∧ IR wr wB.heap.size 2 sb ((clsTo rt i c).map f) ∧ Below wB.heap.size wB wr) (fun _ v19 _ => n - (intOf v19).toNat)
          case atStart => exact ⟨0, 0, by omega, rfl, rfl, by simp [Hid, clsTo], hW0, hbC⟩
          case round =>
            clear hW0 hbC
            obtain ⟨i, m, hi, rfl, rfl, HM, hW, hbB⟩ := hrel
            by_cases hin : i < n
            · have gr := (hrRB.below hbB hrRB.lt).cell (show ((List.range n).map rt)[i]? = some (rt i) by simp [hin])
              obtain ⟨fi, hfi⟩ : ∃ z, ids[i]? = some z := ⟨_, List.getElem?_eq_getElem (by have := HI.out; omega)⟩
              have gi := (HCB.out.below hbB).at hfi
              have HFI : Hid (f i = fi) := by rw [← HB.out.1]; exact getD_of hfi
              have x3 : (i : Int) < (n : Int) := by omega
              clear hfi
              by_cases hrc : rt i = c
              · have HST : Hid (clsTo rt (i + 1) c = clsTo rt i c ++ [i]) := by rw [← hrc]; exact clsTo_same
                have hroom : m + 1 ≤ sb := by
                  have h1 := clsTo_le (n := n) (rt := rt) (i + 1) c (by omega)
                  rw [HST.out] at h1
                  have h2 := HM.out
                  have h3 := HSB.out
                  simp [sz] at h1
                  omega
                rw [hrc] at gr
                have x4 : ((c : Int) == (c : Int)) = true := by simp
                have HML : Hid (((clsTo rt i c).map f).length = m) := by
                  have := HM.out
                  show _ = _
                  simp
                  omega
                clear hrc
                go_wp2_with (at_builtin; refine wpList_push _ rfl _ _ 22 rfl 2 i2 Try.underlying22 hi2 hx1 wB.heap.size m sb _ HML.out rfl (hW.alloc _) (by unfold maxLen; omega) ⟨wr.heap.size, 0, none⟩ _ fi rfl (cell_new _ _ _) hroom ?_; intro wD hWD hgrD)
                have hbD : Below wB.heap.size wB wD := (hbB.alloc hbB.size _).grown hgrD (by have := hbB.size; simp; omega) (by simp)
                have hW' : IR wD wB.heap.size 2 sb ((clsTo rt (i + 1) c).map f) := by
                  rw [HST.out, List.map_append]
                  simpa [HFI.out] using hWD
                go_roundw
                case rel => exact ⟨i + 1, m + 1, by omega, by go_num, rfl, by rw [HST.out]; have := HM.out; simp [Hid]; omega, hW', hbD⟩
                case measure => simp [intOf]; omega
              · have HST : Hid (clsTo rt (i + 1) c = clsTo rt i c) := clsTo_other hrc
                have x4 : ((rt i : Int) == (c : Int)) = false := beq_eq_false_iff_ne.2 (by omega)
                have hW' : IR wr wB.heap.size 2 sb ((clsTo rt (i + 1) c).map f) := by rw [HST.out]; exact hW
                clear hrc hW
                go_wp2
                go_roundw
                case rel => exact ⟨i + 1, m, by omega, by go_num, rfl, by rw [HST.out]; exact HM, hW', hbB⟩
                case measure => simp [intOf]; omega
            · have hin' : n = i := by omega
              subst hin'
              obtain ⟨hmL, hLs⟩ : m = sb ∧ L = sb := by
                have h1 := HM.out
                have h2 := HSB.out
                have h3 := HB.out.2.2.1
                have h4 := HB.out.2.2.2.1.length_eq
                rw [clsTo_all] at h1
                simp at h4
                omega
              subst hmL
              subst hLs
              have hlen : ((clsTo rt n c).map f).length = L := by
                have h1 := HM.out
                simp
                omega
              have HLN : Hid (((clsTo rt n c).map f).length = L) := hlen
              have hrLC := hrLB.below hbB hrLB.lt
              have hgLB : gL < wB.heap.size := hrLB.lt
              have hgBr : wB.heap.size < wr.heap.size := hW.lt
              clear hlen
              go_wp2_with fail
              have ks := sort14 wB.heap.size L L ((clsTo rt n c).map f) wr (by rw [HLN.out]; omega) hW
              rw [HLN.out] at ks
              refine ks.mono ?_
              clear ks
              rintro e wE ⟨rfl, ws, hwp, hws, hrW, hgrE⟩
              obtain rfl : ls = ws := by
                refine sorted_unique HB.out.2.2.2.2 hws (HB.out.2.2.2.1.trans ?_)
                rw [← clsTo_all]
                exact hwp.symm
              have hrLE := hrLC.kept hgrE (by simp; omega)
              have hbE : Below w.heap.size w wE := by
                have h1 := HBB.out.size
                exact (HBB.out.trans (hbB.mono h1)).grown hgrE (by have := hbB.size; omega) (fun k hk => by simp at hk; omega)
              have HLE : Hid (ls.length = L) := HB.out.2.2.1
              have x5 : (((rootsTo rt n).length : Int) != ((rootsTo rt n).length : Int)) = false := by simp
              have x6 : ((L : Int) != (L : Int)) = false := by simp
              clear hwp hws hgrE hrLC hW hbB HBB hgLB hgBr HCB hrRB hrLB gsc HM HLN
              go_wp2
              go_loopw [20] (fun v wr => ∃ k : Nat, k ≤ L ∧ v = .int .i64 k ∧ Below wE.heap.size wE wr) (fun v _ => L - (intOf v).toNat)
              case atStart => exact ⟨0, by omega, rfl, Below.refl _ _⟩
              case round =>
                obtain ⟨k, hk, rfl, hbk⟩ := hrel
                by_cases hkm : k < L
                · obtain ⟨z, hz⟩ : ∃ z, ls[k]? = some z := ⟨_, List.getElem?_eq_getElem (by rw [HLE.out]; exact hkm)⟩
                  have z1 := (hrLE.below hbk hrLE.lt).cell hz
                  have z2 := (hrW.below hbk hrW.lt).cell hz
                  have z3 : (z != z) = false := by simp
                  have z4 : (k : Int) < (L : Int) := by omega
                  clear hz
                  go_wp2_with fail
                  go_quiet (fail)
                  go_wp2
                  go_roundw
                  case rel => exact ⟨k + 1, by omega, by go_num, below_drewN hbk _⟩
                  case measure => simp [intOf]; omega
                · go_wp2
                  go_ret
                  exact ⟨rfl, hbE.trans (hbk.mono hbE.size)⟩

end Go.Proofs.Qxb6605323a
