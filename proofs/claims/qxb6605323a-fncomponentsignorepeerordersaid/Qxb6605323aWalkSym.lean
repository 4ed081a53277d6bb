import Derived.Test.Qxb6605323aWalkSort
namespace Go.Proofs.Qxb6605323a
open Go.RowKit
set_option linter.unusedVariables false

theorem make0 (q : Nat) (hq : q ≤ 1048576) : ∃ cur : Array Value, cur.size = q ∧ ∀ w : World, (Instr.makeSlice 22 (.int .i64 0) (.int .i64 q)).run Try.prog w = .ok (.slice (some ⟨w.heap.size, 0, none⟩) 0 q) (w.alloc (.cells cur 2)) := by
  obtain ⟨i0, hi, hz0, hz1, hz2⟩ := info_parts Try.info2
  refine ⟨madeCells (Value.int .i64 0).cells (q * 1), by simp [size_madeCells], fun w => ?_⟩
  have := run_make (P := Try.prog) w 22 2 i0 (.int .i64 0) Try.underlying22 hi hz0 .i64 .i64 0 q (by omega) (by omega) (by rw [hz2]; omega) (by omega)
  rw [hz1] at this
  simpa using this

theorem made_empty (w : World) (cur : Array Value) (e : TypeId) : IR (w.alloc (.cells cur e)) w.heap.size e cur.size [] :=
  ⟨cur, heap_alloc_new w _, rfl, by simp, by simp⟩

theorem or_key (i : Nat) (v : Int) (hi : i ≤ 1048576) (h0 : 0 ≤ v) (h1 : v < 4294967296) : bits .or .i64 ((i : Int) * 4294967296) v = key i v :=
  bits_join .i64 63 (by decide) (fun n a b => wrapI ⟨by omega, by omega⟩) 32 _ v (by omega) (by omega) (by omega) h0 (by omega) (by omega)

theorem has17' (g cap c' L : Nat) (zs : List Int) (x : Int) (w : World) (hL : zs.length = L) (hm : L ≤ 1048576) (hr : IR w g 2 cap zs) (hs : zs.Pairwise (· ≤ ·)) :
    Calls Try.prog 17 #[.slice (some ⟨g, 0, none⟩) L c', .int .i64 x] w fun e w' => e = .returned (.bool (hasB zs x)) ∧ w' = w := by
  subst hL
  exact has17 g cap c' zs x w hm hr hs

set_option maxHeartbeats 1000000 in
set_option maxRecDepth 100000 in
theorem sym9 (n b1 o1 : Nat) (a2 : Option Addr) (S N : List Int) (cap1 cap2 : Nat) (w : World) (hn : 1 ≤ n) (hS : S.length ≤ 131072) (hN : N.length ≤ 131072) (hwf : WF n S N)
    (hc1 : Cells w (some ⟨b1, o1, none⟩) S) (hc2 : Cells w a2 N) :
    Calls Try.prog 9 #[.int .i64 n, .slice (some ⟨b1, o1, none⟩) S.length cap1, .slice a2 N.length cap2] w fun e w' => Says e (Symm n S N) ∧ Below w.heap.size w w' := by
  obtain ⟨i0, hi0, hz0, hz1, hz2⟩ := info_parts Try.info2
  have HW : Hid (WF n S N) := hwf
  have hlen := hwf.len
  obtain ⟨s0, hs0⟩ : ∃ z, S[0]? = some z := ⟨_, List.getElem?_eq_getElem (by omega)⟩
  obtain ⟨sn, hsn⟩ : ∃ z, S[n]? = some z := ⟨_, List.getElem?_eq_getElem (by omega)⟩
  have g0 : w.cell? ⟨b1, o1, none⟩ = some (.int .i64 s0) := by simpa using hc1.at hs0
  have gn := hc1.at hsn
  have HSn : Hid (S.getD n 0 = sn ∧ S.getD 0 0 = s0) := ⟨getD_of hsn, getD_of hs0⟩
  have e0 : 0 ≤ s0 := by have := hwf.zero; rw [HSn.out.2] at this; exact this
  have e1 : s0 ≤ sn := by have := mono_le hwf.mono (i := 0) (j := n) (by omega) (by omega); rw [HSn.out.2, HSn.out.1] at this; exact this
  have e2 : sn ≤ (N.length : Int) := by have := hwf.last; rw [HSn.out.1] at this; exact this
  obtain ⟨u0, rfl⟩ := Int.eq_ofNat_of_zero_le e0
  obtain ⟨un, rfl⟩ := Int.eq_ofNat_of_zero_le (by omega : 0 ≤ sn)
  obtain ⟨q, hq1, hq2⟩ : ∃ q : Nat, (un : Int) - (u0 : Int) = (q : Int) ∧ q ≤ N.length := ⟨un - u0, by omega, by omega⟩
  obtain ⟨cur, hcur, hmk⟩ := make0 q (by omega)
  have HQ : Hid (cur.size = q) := hcur
  have ew : IntKind.i64.wrap ((un : Int) - (u0 : Int)) = (q : Int) := by rw [hq1]; exact wrapI (by omega)
  clear hs0 hsn hcur hwf
  have c1 : (n : Int) < (S.length : Int) := by omega
  have c2 : (0 : Int) < (S.length : Int) := by omega
  go_enter Try.func9, Try.ntmps9
  go_wp2
  go_region
  have hrow : IR (w.alloc (.cells cur 2)) w.heap.size 2 q [] := by
    have := made_empty w cur 2
    rwa [HQ.out] at this
  have hb1 : Below w.heap.size w (w.alloc (.cells cur 2)) := (Below.refl _ _).alloc (Nat.le_refl _) _
  have HC1 : Hid (Cells w (some ⟨b1, o1, none⟩) S) := hc1
  have HC2 : Hid (Cells w a2 N) := hc2
  have HU : Hid (u0 = st S 0 ∧ un = st S n ∧ st S n - st S 0 = q) := by
    have a1 := HW.out.st_eq (show 0 ≤ n by omega)
    have a2 := HW.out.st_eq (show n ≤ n by omega)
    rw [HSn.out.2] at a1
    rw [HSn.out.1] at a2
    exact ⟨by omega, by omega, by omega⟩
  clear hc1 hc2 g0 gn ew hmk
  go_wp2
  go_loopw [7, 8] (fun v7 v8 wr => ∃ i : Nat, i ≤ n ∧ v8 = .int .i64 i ∧ v7 = .slice (some ⟨w.heap.size, 0, none⟩) (keysTo S N i).length q ∧ IR wr w.heap.size 2 q (keysTo S N i) ∧ Below w.heap.size w wr) (fun _ v8 _ => n - (intOf v8).toNat)
  case atStart => exact ⟨0, by omega, rfl, rfl, hrow, below_drewN hb1 1⟩
  case round =>
    obtain ⟨i, hi, rfl, rfl, hr, hb⟩ := hrel
    clear hrow hb1
    have hc1 := HC1.out.below hb
    by_cases hin : i < n
    · obtain ⟨z1, hz1⟩ : ∃ z, S[i]? = some z := ⟨_, List.getElem?_eq_getElem (by omega)⟩
      obtain ⟨z2, hz2⟩ : ∃ z, S[i + 1]? = some z := ⟨_, List.getElem?_eq_getElem (by omega)⟩
      have g1 := hc1.at hz1
      have f1 := HW.out.st_eq (show i ≤ n by omega)
      have f2 := HW.out.st_eq (show i + 1 ≤ n by omega)
      rw [getD_of hz1] at f1
      rw [getD_of hz2] at f2
      have HG2 : Hid (S[i + 1]? = some z2) := hz2
      obtain ⟨t1, ht1⟩ : ∃ t1, t1 = st S i := ⟨_, rfl⟩
      obtain ⟨t2, ht2⟩ : ∃ t2, t2 = st S (i + 1) := ⟨_, rfl⟩
      rw [← ht1] at f1
      rw [← ht2] at f2
      subst f1
      subst f2
      have HT : Hid (t1 = st S i ∧ t2 = st S (i + 1)) := ⟨ht1, ht2⟩
      have f3 : t1 ≤ t2 := by rw [ht1, ht2]; exact HW.out.st_le (by omega) (by omega)
      have f4 : t2 ≤ N.length := by rw [ht2]; exact HW.out.st_len (by omega)
      have HL : Hid ((keysTo S N i).length = t1 - st S 0 ∧ st S 0 ≤ t1 ∧ t2 ≤ st S n) := by
        rw [ht1, ht2]
        exact ⟨keys_length HW.out (by omega), HW.out.st_le (by omega) (by omega), HW.out.st_le (by omega) (by omega)⟩
      clear hz1 hz2 ht1 ht2 hc1
      have c3 : (i : Int) < (S.length : Int) := by omega
      go_wp2
      obtain ⟨wo, rfl⟩ : ∃ wo : World, wo = wr := ⟨_, rfl⟩
      go_loopw [7, 9] (fun v7 v9 wr => ∃ (t m : Nat) (ks : List Int), t1 ≤ t ∧ t ≤ t2 ∧ v9 = .int .i64 t ∧ v7 = .slice (some ⟨w.heap.size, 0, none⟩) m q ∧ Hid (ks.length = m ∧ ks = keysTo S N i ++ (seg N t1 t).map (key i) ∧ m = t - st S 0) ∧ IR wr w.heap.size 2 q ks ∧ Below w.heap.size w wr) (fun _ v9 _ => t2 - (intOf v9).toNat)
      case atStart => exact ⟨t1, _, keysTo S N i, by omega, by omega, rfl, rfl, ⟨rfl, by rw [seg_nil (Nat.le_refl _)]; simp, HL.out.1⟩, hr, hb⟩
      case round =>
        clear hr hb
        obtain ⟨t, m, ks, h1, h2, rfl, rfl, HK, hr, hb⟩ := hrel
        have hc1 := HC1.out.below hb
        have hc2 := HC2.out.below hb
        have g2 := hc1.at HG2.out
        clear hc1
        by_cases htt : t < t2
        · obtain ⟨v, hv⟩ : ∃ z, N[t]? = some z := ⟨_, List.getElem?_eq_getElem (by omega)⟩
          obtain ⟨bx, ox, hx, hx1⟩ := hc2 t v hv
          have hvr := HW.out.val (i := i) (by omega) (by rw [← HT.out.1]; omega) (by rw [← HT.out.2]; omega) hv
          obtain ⟨v0, v1⟩ := hvr
          have HV : Hid (N[t]? = some v) := hv
          have hroom : m + 1 ≤ q := by
            have a1 := HK.out.2.2
            have a2 := HU.out.2.2
            have a3 := HL.out.2
            omega
          subst hx
          obtain ⟨kz, hkz⟩ : ∃ kz, bits .or .i64 ((i : Int) * 4294967296) v = kz := ⟨_, rfl⟩
          have HKZ : Hid (kz = key i v) := by rw [← hkz]; exact or_key i v (by omega) v0 (by omega)
          have HK' : Hid ((ks ++ [kz]).length = m + 1 ∧ ks ++ [kz] = keysTo S N i ++ (seg N t1 (t + 1)).map (key i) ∧ m + 1 = t + 1 - st S 0) := by
            have a3 := HL.out.2.1
            refine ⟨by simp [HK.out.1], ?_, by have := HK.out.2.2; omega⟩
            rw [seg_snoc h1 HV.out, List.map_append, ← List.append_assoc, ← HK.out.2.1, HKZ.out]
            rfl
          clear hv hc2
          go_wp2_with (at_builtin; refine wpList_push _ rfl _ _ 22 rfl 2 i0 Try.underlying22 hi0 hz1 w.heap.size m q ks HK.out.1 rfl (hr.alloc _) (by unfold maxLen; omega) ⟨wr.heap.size, 0, none⟩ _ kz rfl (cell_new _ _ _) hroom ?_; intro w1 hr1 hgr1)
          have hb1 : Below w.heap.size w w1 := (hb.alloc (by have := hb.size; omega) _).grown hgr1 (by have := hb.size; simp; omega) (by simp)
          go_roundw
          case rel => exact ⟨t + 1, m + 1, ks ++ [kz], by omega, by omega, by go_num, rfl, HK', hr1, hb1⟩
          case measure => simp [intOf]; omega
        · have hr' : IR wr w.heap.size 2 q (keysTo S N (i + 1)) := by
            have e : ks = keysTo S N (i + 1) := by
              rw [keysTo, HK.out.2.1, ← HT.out.1, ← HT.out.2, show t = t2 by omega]
            rwa [e] at hr
          have hm : Hid (m = (keysTo S N (i + 1)).length) := by
            have e : ks = keysTo S N (i + 1) := by
              rw [keysTo, HK.out.2.1, ← HT.out.1, ← HT.out.2, show t = t2 by omega]
            rw [← e]
            exact HK.out.1.symm
          clear hr hc2
          go_wp2
          go_roundw
          case rel => exact ⟨i + 1, by omega, by go_num, by rw [← hm.out], hr', hb⟩
          case measure => simp [intOf]; omega
    · have hin' : n = i := by omega
      subst hin'
      have HKL : Hid ((keysTo S N n).length = q) := by
        rw [keys_length HW.out (Nat.le_refl _)]
        exact HU.out.2.2
      clear hc1
      go_wp2_with fail
      refine (sort14 w.heap.size q q (keysTo S N n) _ (by have := HKL.out; omega) hr).mono ?_
      rintro e w2 ⟨rfl, ks, hperm, hsorted, hr2, hgr2⟩
      have hb2 : Below w.heap.size w w2 := hb.grown hgr2 (by have := hb.size; omega) (by simp)
      have HP : Hid (ks.Perm (keysTo S N n) ∧ ks.Pairwise (· ≤ ·) ∧ ks.length = (keysTo S N n).length) := ⟨hperm, hsorted, hperm.length_eq⟩
      have hc1 := HC1.out.below hb2
      have hc2 := HC2.out.below hb2
      have hLq : (keysTo S N n).length ≤ 1048576 := by rw [HKL.out]; omega
      clear hperm hsorted hr hb hgr2
      generalize hL : (keysTo S N n).length = L at *
      have HL : Hid (ks.length = L) := HP.out.2.2
      clear hL
      go_wp2
      go_loop [10] (fun v => ∃ i : Nat, i ≤ n ∧ v = .int .i64 i ∧ ∀ i' t z, i' < i → st S i' ≤ t → t < st S (i' + 1) → N[t]? = some z → key z.toNat i' ∈ ks) (fun v => n - (intOf v).toNat)
      case atStart => exact ⟨0, by omega, rfl, fun i' t z h => by omega⟩
      case round =>
        obtain ⟨i, hi, rfl, hall⟩ := hrel
        have HA : Hid (∀ i' t z, i' < i → st S i' ≤ t → t < st S (i' + 1) → N[t]? = some z → key z.toNat i' ∈ ks) := hall
        clear hall
        by_cases hin : i < n
        · obtain ⟨z1, hz1⟩ : ∃ z, S[i]? = some z := ⟨_, List.getElem?_eq_getElem (by omega)⟩
          obtain ⟨z2, hz2⟩ : ∃ z, S[i + 1]? = some z := ⟨_, List.getElem?_eq_getElem (by omega)⟩
          have g1 := hc1.at hz1
          have g2 := hc1.at hz2
          have f1 := HW.out.st_eq (show i ≤ n by omega)
          have f2 := HW.out.st_eq (show i + 1 ≤ n by omega)
          rw [getD_of hz1] at f1
          rw [getD_of hz2] at f2
          obtain ⟨t1, ht1⟩ : ∃ t1, t1 = st S i := ⟨_, rfl⟩
          obtain ⟨t2, ht2⟩ : ∃ t2, t2 = st S (i + 1) := ⟨_, rfl⟩
          rw [← ht1] at f1
          rw [← ht2] at f2
          subst f1
          subst f2
          have HT : Hid (t1 = st S i ∧ t2 = st S (i + 1)) := ⟨ht1, ht2⟩
          have f3 : t1 ≤ t2 := by rw [ht1, ht2]; exact HW.out.st_le (by omega) (by omega)
          have f4 : t2 ≤ N.length := by rw [ht2]; exact HW.out.st_len (by omega)
          clear hz1 hz2 ht1 ht2
          have c3 : (i : Int) < (S.length : Int) := by omega
          go_wp2
          go_loop [11] (fun v => ∃ t : Nat, t1 ≤ t ∧ t ≤ t2 ∧ v = .int .i64 t ∧ ∀ t' z, t1 ≤ t' → t' < t → N[t']? = some z → key z.toNat i ∈ ks) (fun v => t2 - (intOf v).toNat)
          case atStart => exact ⟨t1, by omega, by omega, rfl, fun t' z h1 h2 => by omega⟩
          case round =>
            obtain ⟨t, h1, h2, rfl, hin2⟩ := hrel
            have HI : Hid (∀ t' z, t1 ≤ t' → t' < t → N[t']? = some z → key z.toNat i ∈ ks) := hin2
            clear hin2
            by_cases htt : t < t2
            · obtain ⟨v, hv⟩ : ∃ z, N[t]? = some z := ⟨_, List.getElem?_eq_getElem (by omega)⟩
              obtain ⟨bx, ox, hx, hx1⟩ := hc2 t v hv
              have hvr := HW.out.val (i := i) (by omega) (by rw [← HT.out.1]; omega) (by rw [← HT.out.2]; omega) hv
              obtain ⟨v0, v1⟩ := hvr
              obtain ⟨v, rfl⟩ := Int.eq_ofNat_of_zero_le v0
              have HV : Hid (N[t]? = some (v : Int)) := hv
              subst hx
              obtain ⟨kz, hkz⟩ : ∃ kz, bits .or .i64 ((v : Int) * 4294967296) (i : Int) = kz := ⟨_, rfl⟩
              have HKZ : Hid (kz = key v i) := by rw [← hkz]; exact or_key v i (by omega) (by omega) (by omega)
              clear hv
              cases hB : hasB ks kz
              · go_wp2_with fail
                refine (has17' w.heap.size q q L ks kz _ HL.out hLq hr2 HP.out.2.1).mono ?_
                rintro e w' ⟨rfl, rfl⟩
                rw [hB]
                go_wp2
                go_ret
                exact ⟨Says.no _, hb2⟩
              · have HB : Hid (kz ∈ ks) := hasB_true.1 hB
                go_wp2_with fail
                refine (has17' w.heap.size q q L ks kz _ HL.out hLq hr2 HP.out.2.1).mono ?_
                rintro e w' ⟨rfl, rfl⟩
                rw [hB]
                go_wp2
                go_round
                case rel =>
                  refine ⟨t + 1, by omega, by omega, by go_num, fun t' z a1 a2 a3 => ?_⟩
                  by_cases htt' : t' = t
                  · subst htt'
                    have := HV.out
                    rw [a3] at this
                    simp at this
                    subst this
                    rw [Int.toNat_natCast, ← HKZ.out]
                    exact HB.out
                  · exact HI.out t' z a1 (by omega) a3
                case measure => simp [intOf]; omega
            · go_wp2
              go_round
              case rel =>
                refine ⟨i + 1, by omega, by go_num, fun i' t' z a1 a2 a3 a4 => ?_⟩
                by_cases hii : i' = i
                · subst hii
                  rw [← HT.out.1] at a2
                  rw [← HT.out.2] at a3
                  exact HI.out t' z a2 (by omega) a4
                · exact HA.out i' t' z (by omega) a2 a3 a4
              case measure => simp [intOf]; omega
        · have hin' : n = i := by omega
          subst hin'
          go_wp2
          go_ret
          refine ⟨Says.yes ?_, hb2⟩
          refine symm_of_keys HW.out (by omega) fun i t z a1 a2 a3 a4 => ?_
          exact HP.out.1.mem_iff.1 (HA.out i t z a1 a2 a3 a4)

end Go.Proofs.Qxb6605323a
