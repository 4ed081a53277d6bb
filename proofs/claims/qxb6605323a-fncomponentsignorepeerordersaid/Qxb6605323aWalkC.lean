import Derived.Test.Qxb6605323aWalkA
namespace Go.Proofs.Qxb6605323a
open Go.RowKit

/-! ### zzAdjWellFormed -/
set_option maxHeartbeats 400000 in
theorem wf8_short (n : Nat) (a1 a2 : Option Addr) (len1 cap1 len2 cap2 : Nat) (w : World) (hn : n ≤ 131072) (h : len1 < n + 1) :
    Calls Try.prog 8 #[.int .i64 n, .slice a1 len1 cap1, .slice a2 len2 cap2] w fun e w' => Says e False ∧ w' = w := by
  go_enter Try.func8, Try.ntmps8
  go_wp2
  go_ret
  exact ⟨Says.no _, rfl⟩

set_option maxHeartbeats 400000 in
theorem wf8_long (n b1 o1 : Nat) (a2 : Option Addr) (S N : List Int) (cap1 cap2 : Nat) (w : World) (hS : S.length ≤ 131072) (hN : N.length ≤ 131072) (h : n + 1 ≤ S.length)
    (hc1 : Cells w (some ⟨b1, o1, none⟩) S) (hc2 : Cells w a2 N) :
    Calls Try.prog 8 #[.int .i64 n, .slice (some ⟨b1, o1, none⟩) S.length cap1, .slice a2 N.length cap2] w fun e w' => Says e (WF n S N) ∧ Below w.heap.size w w' := by
  obtain ⟨s0, hs0⟩ : ∃ z, S[0]? = some z := ⟨_, List.getElem?_eq_getElem (by omega)⟩
  have hx0 : w.cell? ⟨b1, o1, none⟩ = some (.int .i64 s0) := by simpa using hc1.at hs0
  have HS0 : Hid (S[0]? = some s0) := hs0
  clear hs0
  go_enter Try.func8, Try.ntmps8
  by_cases h0 : s0 < 0
  · go_wp2
    go_ret
    exact ⟨Says.no _, Below.refl _ _⟩
  go_wp2
  go_loopw [7] (fun i wr => ∃ k : Nat, k ≤ n ∧ i = .int .i64 k ∧ (∀ i, i < k → S.getD i 0 ≤ S.getD (i + 1) 0) ∧ Below w.heap.size w wr) (fun i _ => n - (intOf i).toNat)
  case atStart => exact ⟨0, Nat.zero_le _, rfl, fun i hi => by omega, Below.refl _ _⟩
  case round =>
    obtain ⟨k, hk, rfl, hmono, hb⟩ := hrel
    have HM : Hid (∀ i, i < k → S.getD i 0 ≤ S.getD (i + 1) 0) := hmono
    clear hmono
    have HC1 : Hid (Cells wr (some ⟨b1, o1, none⟩) S) := hc1.below hb
    have HC2 : Hid (Cells wr a2 N) := hc2.below hb
    by_cases hlt : k < n
    · obtain ⟨z1, hz1⟩ : ∃ z, S[k]? = some z := ⟨_, List.getElem?_eq_getElem (by omega)⟩
      obtain ⟨z2, hz2⟩ : ∃ z, S[k + 1]? = some z := ⟨_, List.getElem?_eq_getElem (by omega)⟩
      have g1 := HC1.out.at hz1
      have g2 := HC1.out.at hz2
      have HZ : Hid (S.getD k 0 = z1 ∧ S.getD (k + 1) 0 = z2) := ⟨getD_of hz1, getD_of hz2⟩
      clear hz1 hz2 hc1 hc2
      have c1 : (k : Int) < (S.length : Int) := by omega
      have c2 : (k : Int) + 1 < (S.length : Int) := by omega
      have c3 : (0 : Int) ≤ (k : Int) + 1 := by omega
      have c4 : ((k : Int) + 1).toNat = k + 1 := by omega
      have c5 : IntKind.i64.wrap ((k : Int) + 1) = (k : Int) + 1 := wrapI (by omega)
      have hb' : ∀ q, Below w.heap.size w (wr.drewN q) := fun q => below_drewN hb q
      by_cases hzz : z2 < z1
      · go_wp2_with fail
        go_quiet (fail)
        go_wp2
        go_ret
        exact ⟨Says.no _, hb' _⟩
      · go_wp2_with fail
        go_quiet (fail)
        go_wp2
        go_roundw
        case rel =>
          refine ⟨k + 1, by omega, by go_num, fun i hi => ?_, hb' _⟩
          by_cases hik : i = k
          · subst hik
            rw [HZ.out.1, HZ.out.2]
            omega
          · exact HM.out i (by omega)
        case measure => simp [intOf]; omega
    · have hkn : k = n := by omega
      subst hkn
      have hc1' := HC1.out
      have hc2' := HC2.out
      obtain ⟨sn, hsn⟩ : ∃ z, S[k]? = some z := ⟨_, List.getElem?_eq_getElem (by omega)⟩
      have gn := hc1'.at hsn
      have HSn : Hid (S.getD k 0 = sn) := getD_of hsn
      clear hsn hc1 hc2 HC1 HC2
      have c1 : (k : Int) < (S.length : Int) := by omega
      by_cases hlast : (N.length : Int) < sn
      · go_wp2
        go_ret
        exact ⟨Says.no _, hb⟩
      · go_wp2
        go_loop [8] (fun i => ∃ m : Nat, m ≤ k ∧ i = .int .i64 m ∧ ∀ i j : Nat, i < m → S.getD i 0 ≤ (j : Int) → (j : Int) < S.getD (i + 1) 0 → 0 ≤ N.getD j 0 ∧ N.getD j 0 < (k : Int)) (fun i => k - (intOf i).toNat)
        case atStart => exact ⟨0, Nat.zero_le _, rfl, fun i j hi => by omega⟩
        case round =>
          obtain ⟨m, hm, rfl, hrng⟩ := hrel
          have HR : Hid (∀ i j : Nat, i < m → S.getD i 0 ≤ (j : Int) → (j : Int) < S.getD (i + 1) 0 → 0 ≤ N.getD j 0 ∧ N.getD j 0 < (k : Int)) := hrng
          clear hrng
          by_cases hmk : m < k
          · obtain ⟨z1, hz1⟩ : ∃ z, S[m]? = some z := ⟨_, List.getElem?_eq_getElem (by omega)⟩
            obtain ⟨z2, hz2⟩ : ∃ z, S[m + 1]? = some z := ⟨_, List.getElem?_eq_getElem (by omega)⟩
            have g1 := hc1'.at hz1
            have g2 := hc1'.at hz2
            have HZ : Hid (S.getD m 0 = z1 ∧ S.getD (m + 1) 0 = z2) := ⟨getD_of hz1, getD_of hz2⟩
            have e0 : s0 ≤ z1 := by
              have := mono_le HM.out (i := 0) (j := m) (by omega) (by omega)
              rw [HZ.out.1, getD_of HS0.out] at this
              exact this
            have e1 : z1 ≤ z2 := by
              have := HM.out m hmk
              rw [HZ.out.1, HZ.out.2] at this
              exact this
            have e2 : z2 ≤ sn := by
              have := mono_le HM.out (i := m + 1) (j := k) (by omega) (by omega)
              rw [HZ.out.2, HSn.out] at this
              exact this
            obtain ⟨q, rfl⟩ := Int.eq_ofNat_of_zero_le (by omega : 0 ≤ z1)
            obtain ⟨q2, rfl⟩ := Int.eq_ofNat_of_zero_le (by omega : 0 ≤ z2)
            clear hz1 hz2
            go_wp2
            go_loop [9] (fun i => ∃ t : Nat, q ≤ t ∧ t ≤ q2 ∧ i = .int .i64 t ∧ ∀ j : Nat, q ≤ j → j < t → 0 ≤ N.getD j 0 ∧ N.getD j 0 < (k : Int)) (fun i => q2 - (intOf i).toNat)
            case atStart => exact ⟨q, by omega, by omega, rfl, fun j h1 h2 => by omega⟩
            case round =>
              obtain ⟨t, ht1, ht2, rfl, hin⟩ := hrel
              have HI : Hid (∀ j : Nat, q ≤ j → j < t → 0 ≤ N.getD j 0 ∧ N.getD j 0 < (k : Int)) := hin
              clear hin
              by_cases htq : t < q2
              · obtain ⟨v, hv⟩ : ∃ z, N[t]? = some z := ⟨_, List.getElem?_eq_getElem (by omega)⟩
                obtain ⟨bx, ox, hx, hx1⟩ := hc2' t v hv
                have HV : Hid (N.getD t 0 = v) := getD_of hv
                subst hx
                clear hv
                by_cases hv0 : v < 0
                · go_wp2
                  go_ret
                  exact ⟨Says.no _, hb⟩
                · by_cases hvn : (k : Int) ≤ v
                  · go_wp2
                    go_ret
                    exact ⟨Says.no _, hb⟩
                  · go_wp2
                    go_round
                    case rel =>
                      refine ⟨t + 1, by omega, by omega, by go_num, fun j h1 h2 => ?_⟩
                      by_cases hjt : j = t
                      · subst hjt
                        rw [HV.out]
                        omega
                      · exact HI.out j h1 (by omega)
                    case measure => simp [intOf]; omega
              · go_wp2
                go_round
                case rel =>
                  refine ⟨m + 1, by omega, by go_num, fun i j h1 h2 h3 => ?_⟩
                  by_cases him : i = m
                  · subst him
                    rw [HZ.out.1] at h2
                    rw [HZ.out.2] at h3
                    exact HI.out j (by omega) (by omega)
                  · exact HR.out i j (by omega) h2 h3
                case measure => simp [intOf]; omega
          · have hmk' : m = k := by omega
            subst hmk'
            go_wp2
            go_ret
            refine ⟨Says.yes ⟨h, ?_, HM.out, ?_, HR.out⟩, hb⟩
            · rw [getD_of HS0.out]; omega
            · rw [HSn.out]; omega

end Go.Proofs.Qxb6605323a
