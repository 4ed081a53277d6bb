import Derived.Test.Qxb6605323aWalkNb
import Derived.Test.Qxb6605323aKitComp
import Derived.Deep.RegionHeld3
namespace Go.Proofs.Qxb6605323a
open Go.RowKit
set_option linter.unusedVariables false

set_option maxHeartbeats 4000000 in
set_option maxRecDepth 100000 in
theorem comp21 (n b0 o0 b1 o1 : Nat) (a2 : Option Addr) (ids S N : List Int) (cap0 cap1 cap2 : Nat) (w : World) (hn1 : 1 ≤ n) (hn : n ≤ 131072) (hids : ids.length = n) (hS : S.length ≤ 131072) (hN : N.length ≤ 131072) (hcap2 : N.length ≤ cap2)
    (hwf : WF n S N) (hsy : Symm n S N) (rt : Nat → Nat) (hrt : IsRt n (adj S N) rt)
    (hc0 : Cells w (some ⟨b0, o0, none⟩) ids) (hc1 : Cells w (some ⟨b1, o1, none⟩) S) (hc2 : Cells w a2 N) :
    Calls Try.prog 21 #[.agg #[.slice (some ⟨b0, o0, none⟩) n cap0, .slice (some ⟨b1, o1, none⟩) S.length cap1, .slice a2 N.length cap2]] w fun e w' =>
      ∃ (g L b : Nat) (ls : List Int), e = .returned (.tuple #[.int .i64 (rootsTo rt n).length, .slice (some ⟨g, 0, none⟩) L L]) ∧ w.heap.size ≤ g ∧
        bestTo n rt (fun v => ids.getD v 0) n = some b ∧ IR w' g 2 L ls ∧ ls.length = L ∧ ls.Perm ((cls n rt b).map fun v => ids.getD v 0) ∧ ls.Pairwise (· ≤ ·) ∧ Below w.heap.size w w' := by
  obtain ⟨i0, hi0, hz0, hz1, hz2⟩ := info_parts Try.info4
  obtain ⟨i3, hi3, hy0, hy1, hy2⟩ := info_parts Try.info3
  obtain ⟨i2, hi2, hx0, hx1, hx2⟩ := info_parts Try.info2
  have HW : Hid (WF n S N ∧ Gr n (adj S N) ∧ IsRt n (adj S N) rt ∧ ids.length = n) := ⟨hwf, gr_of hwf hsy, hrt, hids⟩
  have hlen := hwf.len
  have HC : Hid (Cells w (some ⟨b0, o0, none⟩) ids ∧ Cells w (some ⟨b1, o1, none⟩) S ∧ Cells w a2 N) := ⟨hc0, hc1, hc2⟩
  clear hwf hsy hrt hc0 hc1 hc2 hids
  generalize hf : (fun v => ids.getD v 0) = f at *
  have HF : Hid ((fun v => ids.getD v 0) = f) := hf
  clear hf
  have k1 : ∀ v, (w.alloc (.cells #[.slice (some ⟨b0, o0, none⟩) n cap0, .slice (some ⟨b1, o1, none⟩) S.length cap1, .slice a2 N.length cap2] 42)).cell? ⟨w.heap.size, v, none⟩ = #[Value.slice (some ⟨b0, o0, none⟩) n cap0, .slice (some ⟨b1, o1, none⟩) S.length cap1, .slice a2 N.length cap2][v]? := fun v => cell_of_row _ _ v _ 42 (0, 0) (heap_alloc_new w _)
  go_enter Try.func21, Try.ntmps21
  go_wp2_with (first | (at_make; refine wpList_make_full _ rfl _ _ 45 rfl w.heap.size 4 i0 (.bool false) 1 Try.underlying45 hi0 hz0 hz1 _ _ _ _ n rfl rfl rfl rfl (by rw [hz2]; omega) (by unfold maxLen; omega) (by simp) ?_; intro w1 hown hgrow; have k2 : w1.cell? ⟨w.heap.size, 0, none⟩ = some (.slice (some ⟨b0, o0, none⟩) n cap0) := (World.cell?_of_block (hgrow.block w.heap.size (by simp) (by simp))).trans (k1 0)) | (at_make; refine wpList_make_own _ rfl _ _ 23 rfl w.heap.size 3 i3 (.int .i64 0) 1 Try.underlying23 hi3 hy0 hy1 _ _ _ n rfl rfl rfl (by rw [hy2]; omega) (by unfold maxLen; omega) (by have := hgrow.size; simp at this; omega) ?_; intro w2 hown2 hgrow2; have k3 : w2.cell? ⟨w.heap.size, 0, none⟩ = some (.slice (some ⟨b0, o0, none⟩) n cap0) := (World.cell?_of_block (hgrow2.block w.heap.size (by have := hgrow.size; simp at this; simp; omega) (by simp))).trans k2))
  obtain ⟨B1, hB1⟩ : ∃ B1, B1 = w.heap.size + 1 := ⟨_, rfl⟩
  obtain ⟨B2, hB2⟩ : ∃ B2, B2 = w1.heap.size := ⟨_, rfl⟩
  have h12 : B1 < B2 := by
    have := (Rw.of_owns hown).lt
    simp at this
    omega
  have h01 : w.heap.size < B1 := by omega
  obtain ⟨vs, hvs⟩ : ∃ vs : List Value, [Value.slice (some ⟨b0, o0, none⟩) n cap0, .slice (some ⟨b1, o1, none⟩) S.length cap1, .slice a2 N.length cap2] = vs := ⟨_, rfl⟩
  have hmem : CMem w w2 w.heap.size B1 B2 n vs [] := by
    refine ⟨?_, ?_, ?_, ?_⟩
    · rw [← hvs]
      exact ((Rw.made w 42 [Value.slice (some ⟨b0, o0, none⟩) n cap0, .slice (some ⟨b1, o1, none⟩) S.length cap1, .slice a2 N.length cap2]).kept hgrow (by simp)).kept hgrow2 (by simp)
    · have h := madeB hown
      simp only [World.size_alloc] at h
      rw [← hB1] at h
      rw [show markB n (ints []) = List.replicate n false from markB_nil n]
      exact h.kept hgrow2 (by simp)
    · have h := made0 hown2
      rw [← hB2] at h
      exact h
    · exact (((Below.refl w.heap.size w).alloc (Nat.le_refl _) _).grown hgrow (by simp) (by simp)).grown hgrow2 (by have := hgrow.size; simp at this; omega) (by simp)
  rw [← hB1, ← hB2]
  have HVS : Hid ([Value.slice (some ⟨b0, o0, none⟩) n cap0, .slice (some ⟨b1, o1, none⟩) S.length cap1, .slice a2 N.length cap2] = vs) := hvs
  clear hown hown2 hgrow hgrow2 k1 k2 k3 hvs hB1 hB2
  go_loopw [5, 6, 7, 8, 9, 32] (fun v5 v6 v7 v8 v9 v32 wr => ∃ (s lo hi : Nat) (q : List Nat) (bl : Int), s ≤ n ∧ v32 = .int .i64 s ∧ v5 = .slice (some ⟨B2, 0, none⟩) q.length n ∧ v6 = .int .i64 (rootsTo rt s).length ∧ v7 = .int .i64 lo ∧ v8 = .int .i64 hi ∧ v9 = .int .i64 bl ∧ Hid (QInv n rt s q ∧ BestInv n rt f s q lo hi bl) ∧ CMem w wr w.heap.size B1 B2 n vs q) (fun _ _ _ _ _ v32 _ => n - (intOf v32).toNat)
  case atStart => exact ⟨0, 0, 0, [], 0, by omega, rfl, rfl, rfl, rfl, rfl, rfl, ⟨QInv.start n rt, BestInv.start n rt f⟩, hmem⟩
  case round =>
    obtain ⟨s, lo, hi, q, bl, hs, rfl, rfl, rfl, rfl, rfl, rfl, HQ, hmem⟩ := hrel
    by_cases hsn : s < n
    · have gs := hmem.cellS hsn
      have c1 : (s : Int) < (n : Int) := by omega
      by_cases hroot : rt s = s
      · have hnot : s ∉ q := by
          intro h
          have := ((HQ.out.1.mem s).1 h).2
          omega
        rw [decide_eq_false hnot] at gs
        have gb : ∀ j v, vs[j]? = some v → wr.cell? ⟨w.heap.size, j, none⟩ = some v := fun j v h => hmem.box.cell h
        rw [← HVS.out] at gb
        have gb0 := gb 0 _ rfl
        obtain ⟨fs, hfs⟩ : ∃ z, ids[s]? = some z := ⟨_, List.getElem?_eq_getElem (by have := HW.out.2.2.2; omega)⟩
        have gi := (HC.out.1.below hmem.below).at hfs
        have HFS : Hid (f s = fs) := by rw [← HF.out]; exact getD_of hfs
        clear gb hfs
        go_wp2_with fail
        go_quiet (fail)
        obtain ⟨wq, hwq⟩ : ∃ wq, wq = wr.drewN nq := ⟨_, rfl⟩
        rw [← hwq]
        have hmemq : CMem w wq w.heap.size B1 B2 n vs q := by rw [hwq]; exact hmem.drewN nq
        have gsq := hmemq.cellS hsn
        rw [decide_eq_false hnot] at gsq
        have fz := hmemq.seen.frozen s
        have HS : Hid (SInv n rt f q s [s] fs) := by
          have := SInv.start (f := f) hsn HQ.out.1 hroot
          rwa [HFS.out] at this
        have hqn : q.length + 1 ≤ n := by
          have := HS.out.len
          simpa using this
        clear hwq gs gb0 gi hmem hnot
        go_wp2_with (at_builtin; refine wpList_push _ rfl _ _ 23 rfl 3 i3 Try.underlying23 hi3 hy1 B2 q.length n (ints q) (by simp [ints]) rfl (hmemq.room h12 _ rfl _ _) (by unfold maxLen; omega) ⟨wq.heap.size, 0, none⟩ _ s rfl (cell_new_set _ _ _ _ _) hqn ?_; intro w3 hq3 hgr3)
        have hmem3 : CMem w w3 w.heap.size B1 B2 n vs (q ++ [s]) := hmemq.push h01 h12 hq3 hgr3
        clear hmemq gsq fz hq3 hgr3
        go_loopw [5, 12, 13] (fun v5 v12 v13 wr => ∃ (C : List Nat) (j m kk : Nat) (x : Int), m ≤ n ∧ kk ≤ m ∧ v5 = .slice (some ⟨B2, 0, none⟩) m n ∧ v12 = .int .i64 x ∧ v13 = .int .i64 kk ∧ Hid (SInv n rt f q s C x ∧ (∀ u, u ∈ C.take j → ∀ v, v ∈ adj S N u → v ∈ C) ∧ m = q.length + C.length ∧ kk = q.length + j ∧ j ≤ C.length) ∧ CMem w wr w.heap.size B1 B2 n vs (q ++ C)) (fun _ _ v13 _ => n - (intOf v13).toNat)
        case atStart => exact ⟨[s], 0, q.length + 1, q.length, fs, hqn, by omega, rfl, rfl, rfl, ⟨HS.out, by simp, by simp, by omega, by simp⟩, hmem3⟩
        case round =>
          clear hmem3 HS
          obtain ⟨C, j, m, kk, x, hmn, hkm, rfl, rfl, rfl, HC2, hmem⟩ := hrel
          by_cases hkk : kk < m
          · obtain ⟨u, hu⟩ : ∃ u, C[j]? = some u := ⟨_, List.getElem?_eq_getElem (by have := HC2.out.2.2; omega)⟩
            have hqu : (q ++ C)[kk]? = some u := by
              rw [HC2.out.2.2.2.1, List.getElem?_append_right (by omega), show q.length + j - q.length = j by omega]
              exact hu
            have hun := HC2.out.1.mem u (List.mem_of_getElem? hu)
            obtain ⟨hun, hur⟩ := hun
            have gq := hmem.cellQ hqu
            have gb : ∀ j v, vs[j]? = some v → wr.cell? ⟨w.heap.size, j, none⟩ = some v := fun j v h => hmem.box.cell h
            rw [← HVS.out] at gb
            have gb0 := gb 0 _ rfl
            have gb1 := gb 1 _ rfl
            have gb2 := gb 2 _ rfl
            have c2 : (kk : Int) < (m : Int) := by omega
            have HU : Hid (C[j]? = some u ∧ rt u = s) := ⟨hu, hur⟩
            have HQU : Hid ((q ++ C)[kk]? = some u) := hqu
            have hc1r := HC.out.2.1.below hmem.below
            have hc2r := HC.out.2.2.below hmem.below
            have HR1 : Hid (Cells wr (some ⟨b1, o1, none⟩) S) := hc1r
            have HR2 : Hid (Cells wr a2 N) := hc2r
            clear gb hu hqu hur hc1r hc2r
            go_wp2_with fail
            go_region_held3 (fun w' => w'.cell? ⟨w.heap.size, 0, none⟩ = some (.slice (some ⟨b0, o0, none⟩) n cap0) ∧ w'.cell? ⟨w.heap.size, 1, none⟩ = some (.slice (some ⟨b1, o1, none⟩) S.length cap1) ∧ w'.cell? ⟨w.heap.size, 2, none⟩ = some (.slice a2 N.length cap2) ∧ w'.cell? ⟨B2, kk, none⟩ = some (.int .i64 u)) (go_keep)
              (first | (go_at_call 23; refine (nb23 (.slice (some ⟨b0, o0, none⟩) n cap0) ⟨_, _, _, rfl⟩ n b1 o1 u a2 S N cap1 cap2 _ hS hN hcap2 HW.out.1 hun (by exact HR1.out) (by exact HR2.out)).mono ?_; rintro e w4 ⟨a', c', rfl, hcc, hb4⟩; have hmem4 : CMem w w4 w.heap.size B1 B2 n vs (q ++ C) := hmem.drew.later (by exact hb4); have e0 := hmem4.cellB HVS.out (j := 0) rfl; have e1 := hmem4.cellB HVS.out (j := 1) rfl; have e2 := hmem4.cellB HVS.out (j := 2) rfl; have e3 := hmem4.cellQ HQU.out))
            all_goals
              clear e0 e1 e2 e3
              have HCC : Hid (∀ W : World, Cells W a2 N → Cells W a' (seg N (st S u) (st S (u + 1)))) := hcc
              have HL0 : Hid ((seg N (st S u) (st S (u + 1))).length = st S (u + 1) - st S u) := seg_length (HW.out.1.st_len (by omega))
              have hL1 : st S (u + 1) - st S u ≤ N.length := by
                have := HW.out.1.st_len (show u + 1 ≤ n by omega)
                omega
              generalize hLL : seg N (st S u) (st S (u + 1)) = LL at *
              have HLL : Hid (seg N (st S u) (st S (u + 1)) = LL) := hLL
              generalize st S (u + 1) - st S u = ln at *
              clear hcc hb4 hmem gb0 gb1 gb2 gq hLL HR1 HR2
              go_wp2
              go_loopw [5, 12, 67] (fun v5 v12 v67 wr => ∃ (D : List Nat) (m t : Nat) (x : Int), m ≤ n ∧ t ≤ ln ∧ v5 = .slice (some ⟨B2, 0, none⟩) m n ∧ v12 = .int .i64 x ∧ v67 = .int .i64 t ∧ Hid (SInv n rt f q s D x ∧ (∃ ext, D = C ++ ext) ∧ (∀ t' z, t' < t → LL[t']? = some z → z.toNat ∈ D) ∧ m = q.length + D.length) ∧ CMem w wr w.heap.size B1 B2 n vs (q ++ D)) (fun _ _ v67 _ => ln - (intOf v67).toNat)
              case atStart => exact ⟨C, m, 0, x, hmn, by omega, rfl, rfl, rfl, ⟨HC2.out.1, ⟨[], by simp⟩, fun t' z h => by omega, HC2.out.2.2.1⟩, hmem4⟩
              case round =>
                clear hmem4
                obtain ⟨D, m2, t, x2, hm2, htl, rfl, rfl, rfl, HD, hmem⟩ := hrel
                by_cases htt : t < ln
                · obtain ⟨z, hz⟩ : ∃ z, LL[t]? = some z := ⟨_, List.getElem?_eq_getElem (by rw [HL0.out]; exact htt)⟩
                  obtain ⟨bx, ox, hx, hx1⟩ := HCC.out wr (HC.out.2.2.below hmem.below) t z hz
                  have hzm : z ∈ seg N (st S u) (st S (u + 1)) := by rw [HLL.out]; exact List.mem_of_getElem? hz
                  obtain ⟨t', a1, a2', a3⟩ := mem_seg.1 hzm
                  have hzr := HW.out.1.val hun a1 a2' a3
                  obtain ⟨v, rfl⟩ := Int.eq_ofNat_of_zero_le hzr.1
                  have hvn : v < n := by omega
                  have hva : v ∈ adj S N u := (HW.out.1.mem_adj hun).2 ⟨t', a1, a2', a3⟩
                  have hvr : rt v = s := by
                    rw [← HW.out.2.2.1.edge u v hun hva]
                    exact HU.out.2
                  have HV : Hid (LL[t]? = some (v : Int) ∧ rt v = s) := ⟨hz, hvr⟩
                  have gv := hmem.cellS hvn
                  subst hx
                  have c3 : (v : Int) < (n : Int) := by omega
                  clear hz hzm a1 a2' a3 hzr hva hvr
                  by_cases hin : v ∈ q ++ D
                  · rw [decide_eq_true hin] at gv
                    have HD' : Hid (SInv n rt f q s D x2 ∧ (∃ ext, D = C ++ ext) ∧ (∀ t' z, t' < t + 1 → LL[t']? = some z → z.toNat ∈ D) ∧ m2 = q.length + D.length) := by
                      refine ⟨HD.out.1, HD.out.2.1, fun t' z h1 h2 => ?_, HD.out.2.2.2⟩
                      by_cases ht' : t' = t
                      · subst ht'
                        have e := HV.out.1
                        rw [h2] at e
                        simp at e
                        subst e
                        rw [Int.toNat_natCast]
                        rw [List.mem_append] at hin
                        rcases hin with hin | hin
                        · have h3 := ((HQ.out.1.mem v).1 hin).2
                          have h4 := HV.out.2
                          omega
                        · exact hin
                      · exact HD.out.2.2.1 t' z (by omega) h2
                    clear hin HD
                    go_wp2
                    go_roundw
                    case rel => exact ⟨D, m2, t + 1, x2, hm2, by omega, rfl, rfl, by go_num, HD', hmem⟩
                    case measure => simp [intOf]; omega
                  · rw [decide_eq_false hin] at gv
                    obtain ⟨fv, hfv⟩ : ∃ z, ids[v]? = some z := ⟨_, List.getElem?_eq_getElem (by have := HW.out.2.2.2; omega)⟩
                    have HFV : Hid (ids[v]? = some fv ∧ f v = fv) := ⟨hfv, by rw [← HF.out]; exact getD_of hfv⟩
                    have fz := hmem.seen.frozen v
                    have HS' : Hid (SInv n rt f q s (D ++ [v]) (min x2 fv)) := by
                      have := HD.out.1.add hvn HV.out.2 hin
                      rwa [HFV.out.2] at this
                    have hroom : m2 + 1 ≤ n := by
                      have h1 := HS'.out.len
                      have h2 := HD.out.2.2.2
                      simp at h1
                      omega
                    have HM : Hid ((ints (q ++ D)).length = m2) := by
                      have h2 := HD.out.2.2.2
                      show (ints (q ++ D)).length = m2
                      simp [ints]
                      omega
                    have HD' : Hid ((∃ ext, D ++ [v] = C ++ ext) ∧ (∀ t' z, t' < t + 1 → LL[t']? = some z → z.toNat ∈ D ++ [v]) ∧ m2 + 1 = q.length + (D ++ [v]).length) := by
                      refine ⟨?_, fun t' z h1 h2 => ?_, ?_⟩
                      · obtain ⟨ext, he⟩ := HD.out.2.1
                        exact ⟨ext ++ [v], by rw [he]; simp⟩
                      · by_cases ht' : t' = t
                        · subst ht'
                          have e := HV.out.1
                          rw [h2] at e
                          simp at e
                          subst e
                          rw [Int.toNat_natCast]
                          simp
                        · exact List.mem_append_left _ (HD.out.2.2.1 t' z (by omega) h2)
                      · have := HD.out.2.2.2
                        simp
                        omega
                    clear hfv hin
                    go_wp2_with (at_builtin; refine wpList_push _ rfl _ _ 23 rfl 3 i3 Try.underlying23 hi3 hy1 B2 m2 n (ints (q ++ D)) HM.out rfl (hmem.room h12 _ rfl _ _) (by unfold maxLen; omega) ⟨wr.heap.size, 0, none⟩ _ v rfl (cell_new_set _ _ _ _ _) hroom ?_; intro w5 hq5 hgr5; have hmem5 : CMem w w5 w.heap.size B1 B2 n vs (q ++ D ++ [v]) := hmem.push h01 h12 hq5 hgr5; have e0 := hmem5.cellB HVS.out (j := 0) rfl; have e1 := (HC.out.1.below hmem5.below).at HFV.out.1)
                    rw [List.append_assoc] at hmem5
                    go_roundw
                    case rel => exact ⟨D ++ [v], m2 + 1, t + 1, min x2 fv, hroom, by omega, rfl, rfl, by go_num, ⟨HS'.out, HD'.out⟩, hmem5⟩
                    case measure => simp [intOf]; omega
                · obtain ⟨hmm, hjD⟩ : m ≤ m2 ∧ j < D.length := by
                    obtain ⟨ext, he⟩ := HD.out.2.1
                    have h1 := HD.out.2.2.2
                    have h2 := HC2.out.2.2
                    rw [he] at h1 ⊢
                    simp at h1 ⊢
                    omega
                  have HD' : Hid (SInv n rt f q s D x2 ∧ (∀ u, u ∈ D.take (j + 1) → ∀ v, v ∈ adj S N u → v ∈ D) ∧ m2 = q.length + D.length ∧ kk + 1 = q.length + (j + 1) ∧ j + 1 ≤ D.length) := by
                    obtain ⟨ext, he⟩ := HD.out.2.1
                    refine ⟨HD.out.1, fun u' hu' v hv => ?_, HD.out.2.2.2, by have := HC2.out.2.2.2.1; omega, hjD⟩
                    have hjC : j < C.length := (List.getElem?_eq_some_iff.1 HU.out.1).1
                    have e : D.take (j + 1) = C.take j ++ [u] := by
                      rw [he, List.take_append_of_le_length (by omega), take_snoc HU.out.1]
                    rw [e, List.mem_append] at hu'
                    rcases hu' with hu' | hu'
                    · rw [he]
                      exact List.mem_append_left _ (HC2.out.2.1 u' hu' v hv)
                    · simp at hu'
                      subst hu'
                      obtain ⟨t', a1, a2', a3⟩ := (HW.out.1.mem_adj hun).1 hv
                      have hvL : (v : Int) ∈ LL := by rw [← HLL.out]; exact mem_seg.2 ⟨t', a1, a2', a3⟩
                      obtain ⟨i', hi'⟩ := List.mem_iff_getElem?.1 hvL
                      have hi'' := (List.getElem?_eq_some_iff.1 hi').1
                      have := HD.out.2.2.1 i' v (by rw [HL0.out] at hi''; omega) hi'
                      rwa [Int.toNat_natCast] at this
                  clear HD HC2 HCC HL0 HLL
                  go_wp2
                  go_roundw
                  case rel => exact ⟨D, j + 1, m2, kk + 1, x2, hm2, by omega, rfl, rfl, by go_num, HD', hmem⟩
                  case measure => simp [intOf]; omega
          · have hperm : C.Perm (cls n rt s) := by
              refine HC2.out.1.done HW.out.2.1 HW.out.2.2.1 hsn hroot fun u hu v hv => ?_
              refine HC2.out.2.1 u ?_ v hv
              rw [List.take_of_length_le (by have := HC2.out.2.2; omega)]
              exact hu
            have HP : Hid (C.Perm (cls n rt s) ∧ SInv n rt f q s C x ∧ m = q.length + C.length) := ⟨hperm, HC2.out.1, HC2.out.2.2.1⟩
            have hq' : Hid (QInv n rt (s + 1) (q ++ C)) := HQ.out.1.next HP.out.2.1 hperm
            have hlh : lo ≤ hi ∧ hi ≤ q.length := ⟨HQ.out.2.1, HQ.out.2.2.1⟩
            have HRN : Hid ((rootsTo rt (s + 1)).length = (rootsTo rt s).length + 1) := by show _ = _; rw [roots_take hroot]; simp
            have hrl : (rootsTo rt s).length ≤ s := by
              have := List.length_filter_le (fun i => rt i == i) (List.range s)
              simpa [rootsTo] using this
            obtain ⟨cl, hcl1, hcl2⟩ : ∃ cl : Nat, m ≤ q.length + cl ∧ q.length + cl ≤ m := ⟨C.length, by have := HP.out.2.2; omega, by have := HP.out.2.2; omega⟩
            have HCL : Hid (C.length = cl ∧ (q ++ C).length = m) := ⟨by have := HP.out.2.2; omega, by have := HP.out.2.2; simp; omega⟩
            obtain ⟨hl1, hl2⟩ := hlh
            clear hperm HC2
            by_cases hbig : hi - lo < cl
            · have HB : Hid (BestInv n rt f (s + 1) (q ++ C) q.length (q ++ C).length x) := HQ.out.2.take hsn hroot HP.out.2.1 HP.out.1 (.inl (by rw [HCL.out.1]; exact hbig))
              go_wp2
              go_roundw
              case rel => exact ⟨s + 1, q.length, m, q ++ C, x, by omega, by go_num, by rw [HCL.out.2], by rw [HRN.out]; go_num, rfl, rfl, rfl, ⟨hq'.out, by rw [← HCL.out.2]; exact HB.out⟩, hmem⟩
              case measure => simp [intOf]; omega
            · by_cases heq : cl = hi - lo
              · have d1 : ((m : Int) - (q.length : Int) == (hi : Int) - (lo : Int)) = true := by simp; omega
                by_cases hxb : x < bl
                · have HB : Hid (BestInv n rt f (s + 1) (q ++ C) q.length (q ++ C).length x) := HQ.out.2.take hsn hroot HP.out.2.1 HP.out.1 (.inr ⟨by rw [HCL.out.1]; exact heq, hxb⟩)
                  clear heq
                  go_wp2
                  go_roundw
                  case rel => exact ⟨s + 1, q.length, m, q ++ C, x, by omega, by go_num, by rw [HCL.out.2], by rw [HRN.out]; go_num, rfl, rfl, rfl, ⟨hq'.out, by rw [← HCL.out.2]; exact HB.out⟩, hmem⟩
                  case measure => simp [intOf]; omega
                · have HB : Hid (BestInv n rt f (s + 1) (q ++ C) lo hi bl) := HQ.out.2.keep hsn hroot HP.out.2.1 HP.out.1 (by rw [HCL.out.1]; omega)
                  clear heq
                  go_wp2
                  go_roundw
                  case rel => exact ⟨s + 1, lo, hi, q ++ C, bl, by omega, by go_num, by rw [HCL.out.2], by rw [HRN.out]; go_num, rfl, rfl, rfl, ⟨hq'.out, HB.out⟩, hmem⟩
                  case measure => simp [intOf]; omega
              · have HB : Hid (BestInv n rt f (s + 1) (q ++ C) lo hi bl) := HQ.out.2.keep hsn hroot HP.out.2.1 HP.out.1 (by rw [HCL.out.1]; omega)
                have d1 : ((m : Int) - (q.length : Int) == (hi : Int) - (lo : Int)) = false := by simp; omega
                go_wp2
                go_roundw
                case rel => exact ⟨s + 1, lo, hi, q ++ C, bl, by omega, by go_num, by rw [HCL.out.2], by rw [HRN.out]; go_num, rfl, rfl, rfl, ⟨hq'.out, HB.out⟩, hmem⟩
                case measure => simp [intOf]; omega
      · have hlt : rt s < s := by
          have := HW.out.2.2.1.le s hsn
          omega
        have hyes : s ∈ q := (HQ.out.1.mem s).2 ⟨hsn, hlt⟩
        rw [decide_eq_true hyes] at gs
        have HQ' : Hid (QInv n rt (s + 1) q ∧ BestInv n rt f (s + 1) q lo hi bl ∧ rootsTo rt (s + 1) = rootsTo rt s) := ⟨HQ.out.1.skip HW.out.2.1 HW.out.2.2.1 hroot, HQ.out.2.skip hroot, roots_skip hroot⟩
        clear hroot hyes hlt HQ
        go_wp2
        go_roundw
        case rel => exact ⟨s + 1, lo, hi, q, bl, by omega, by go_num, rfl, by rw [HQ'.out.2.2], rfl, rfl, rfl, ⟨HQ'.out.1, HQ'.out.2.1⟩, hmem⟩
        case measure => simp [intOf]; omega
    · have hsn' : n = s := by omega
      subst hsn'
      have h00 : rt 0 = 0 := by
        have := HW.out.2.2.1.le 0 (by omega)
        omega
      obtain ⟨b, hb⟩ := best_some (n := n) (f := f) h00 (show 0 < n by omega)
      have hbr := best_root hb
      obtain ⟨hl1, hl2, hl3⟩ := HQ.out.2
      obtain ⟨Q, hQ⟩ : ∃ Q, (q.drop lo).take (hi - lo) = Q := ⟨_, rfl⟩
      have hperm : Q.Perm (cls n rt b) := by
        rcases hl3 with ⟨h1, _⟩ | ⟨b', h1, h2, _⟩
        · rw [hb] at h1; cases h1
        · rw [hb] at h1
          simp at h1
          subst h1
          rw [← hQ]
          exact h2
      have hQl : Q.length = hi - lo := by rw [← hQ]; simp; omega
      have hpos : 1 ≤ hi - lo := by
        rw [← hQl, hperm.length_eq]
        exact List.length_pos_of_mem (mem_cls.2 ⟨hbr.1, hbr.2⟩)
      have hqn : q.length ≤ n := hmem.queue.le
      have hrpos : 1 ≤ (rootsTo rt n).length := List.length_pos_of_mem (mem_roots.2 ⟨hbr.1, hbr.2⟩)
      have hrl : (rootsTo rt n).length ≤ n := by
        have := List.length_filter_le (fun i => rt i == i) (List.range n)
        simpa [rootsTo] using this
      have d1 : (((rootsTo rt n).length : Int) == 0) = false := beq_eq_false_iff_ne.2 (by omega)
      have hQk : ∀ k v, Q[k]? = some v → q[lo + k]? = some v := by
        intro k v h
        rw [← hQ, List.getElem?_take] at h
        split at h
        · rwa [List.getElem?_drop] at h
        · cases h
      have hnl : ¬ n = lo := by omega
      have HB : Hid (bestTo n rt f n = some b ∧ Q.Perm (cls n rt b) ∧ Q.length = hi - lo ∧ (∀ k v, Q[k]? = some v → q[lo + k]? = some v) ∧ ∀ v, v ∈ Q → v < n) := ⟨hb, hperm, hQl, hQk, fun v hv => (mem_cls.1 (hperm.mem_iff.1 hv)).1⟩
      clear hb hbr hl3 hQ hperm hQl hQk h00 HQ
      generalize hCN : (rootsTo rt n).length = cn at *
      have HCN : Hid ((rootsTo rt n).length = cn) := hCN
      clear hCN
      go_wp2_with (at_make; refine wpList_make_full _ rfl _ _ 22 rfl w.heap.size 2 i2 (.int .i64 0) 1 Try.underlying22 hi2 hx0 hx1 _ _ _ _ (hi - lo) rfl rfl (by omega) (by omega) (by rw [hx2]; omega) (by unfold maxLen; omega) hmem.below.size ?_; intro w3 hown hgrow)
      obtain ⟨B3, hB3⟩ : ∃ B3, B3 = wr.heap.size := ⟨_, rfl⟩
      have h23 : B2 < B3 := by rw [hB3]; exact hmem.queue.lt
      have hrow : IR w3 B3 2 (hi - lo) (List.replicate (hi - lo) 0) := by
        have := madeI hown
        rwa [← hB3] at this
      have hmem3 := hmem.grown h01 h12 hgrow (by simp)
      obtain ⟨L, hL1, hL2⟩ : ∃ L : Nat, hi - lo = L ∧ L ≤ n := ⟨hi - lo, rfl, by omega⟩
      have hL3 : lo + L ≤ q.length := by omega
      have HM : Hid ((Q.map f).length = L ∧ Q.length = L) := by
        have := HB.out.2.2.1
        exact ⟨by simp; omega, by omega⟩
      rw [← hB3]
      rw [hL1] at hrow ⊢
      clear hown hgrow hmem hB3 hL1 d1
      go_loopw [129] (fun v wr => ∃ k : Nat, k ≤ L ∧ v = .int .i64 k ∧ IR wr B3 2 L ((Q.map f).take k ++ List.replicate (L - k) 0) ∧ CMem w wr w.heap.size B1 B2 n vs q) (fun v _ => L - (intOf v).toNat)
      case atStart => exact ⟨0, by omega, rfl, by simpa using hrow, hmem3⟩
      case round =>
        clear hrow hmem3
        obtain ⟨k, hk, rfl, hr, hmem⟩ := hrel
        by_cases hkL : k < L
        · obtain ⟨v, hv⟩ : ∃ v, Q[k]? = some v := ⟨_, List.getElem?_eq_getElem (by have := HM.out.2; omega)⟩
          have gq := hmem.cellQ (HB.out.2.2.2.1 k v hv)
          have hvn := HB.out.2.2.2.2 v (List.mem_of_getElem? hv)
          have gb0 := hmem.cellB HVS.out (j := 0) rfl
          obtain ⟨fv, hfv⟩ : ∃ z, ids[v]? = some z := ⟨_, List.getElem?_eq_getElem (by have := HW.out.2.2.2; omega)⟩
          have gi := (HC.out.1.below hmem.below).at hfv
          have hff : f v = fv := by rw [← HF.out]; exact getD_of hfv
          have hmk : (Q.map f)[k]? = some fv := by simp [hv, hff]
          have h0 := fill_at (Q.map f) k 0 (by have := HM.out.1; omega)
          have hst := fill_step (Q.map f) k fv 0 hmk
          rw [HM.out.1] at h0 hst
          have g0 := hr.cell h0
          have fz := hr.frozen k
          have hs := hr.set k fv
          rw [hst] at hs
          have hmem' := hmem.setNew h01 h12 (i := k) h23 (.int .i64 fv)
          have c1 : (v : Int) < (n : Int) := by omega
          clear hv hfv hff hmk h0 hst hr hmem
          go_wp2
          go_roundw
          case rel => exact ⟨k + 1, by omega, by go_num, hs, hmem'⟩
          case measure => simp [intOf]; omega
        · have hr' : IR wr B3 2 L (Q.map f) := by
            have e : (Q.map f).take k ++ List.replicate (L - k) 0 = Q.map f := by
              have := HM.out.1
              rw [List.take_of_length_le (by omega), show L - k = 0 by omega]
              simp
            rwa [e] at hr
          clear hr
          go_wp2_with fail
          refine (sort24 B3 L L (Q.map f) _ HM.out.1 (by omega) hr').mono ?_
          rintro e w5 ⟨rfl, ls, hp, hso, hr5, hgr5⟩
          have hmem5 := hmem.grown h01 h12 hgr5 (fun k hk => by simp at hk; omega)
          have HLS : Hid (ls.Perm (Q.map f) ∧ ls.Pairwise (· ≤ ·)) := ⟨hp, hso⟩
          clear hp hso hmem hr' hgr5
          go_wp2
          go_ret2
          refine ⟨B3, L, b, ls, by rw [HCN.out]; rfl, by omega, HB.out.1, hr5, ?_, HLS.out.1.trans (HB.out.2.1.map f), HLS.out.2, hmem5.below⟩
          rw [HLS.out.1.length_eq]
          exact HM.out.1

end Go.Proofs.Qxb6605323a
