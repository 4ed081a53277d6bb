import Derived.Test.Qxb6605323aWalkD
import Derived.Test.Qxb6605323aPlainGraph
import Derived.Handy
namespace Go.Proofs.Qxb6605323a
open Go.RowKit
set_option linter.unusedVariables false

theorem find22' (g cap c' x n : Nat) (P : List Nat) (f : Nat → Nat) (A : Nat → List Nat) (w : World) (hu : UF n A P f) (hx : x < n) (hr : NR w g 3 cap P) :
    Calls Try.prog 22 #[.slice (some ⟨g, 0, none⟩) n c', .int .i64 x] w fun e w' => e = .returned (.int .i64 (f x)) ∧ ∃ P' : List Nat, UF n A P' f ∧ NR w' g 3 cap P' ∧ w.grownBy w' (some g) := by
  have h := find22 g cap c' x P f w (by rw [hu.len]; exact hx) hr hu.dec hu.roots
  rw [hu.len] at h
  refine h.mono ?_
  rintro e w' ⟨rfl, P', h1, h2, h3, h4, h5⟩
  exact ⟨rfl, P', hu.find (h1.trans hu.len.symm) h2 h3, h4, h5⟩

theorem nr_start {w : World} {g n : Nat} (h : IR w g 3 n (List.replicate n 0)) : NR w g 3 n ((List.range n).take 0 ++ List.replicate (n - 0) 0) := by
  unfold NR
  simpa using h

theorem range_get {n k : Nat} (h : k < n) : (List.range n)[k]? = some k := by simp [h]

set_option maxHeartbeats 2000000 in
set_option maxRecDepth 100000 in
theorem roots13 (n b1 o1 : Nat) (a2 : Option Addr) (S N : List Int) (cap1 cap2 : Nat) (w : World) (hn : n ≤ 131072) (hS : S.length ≤ 131072) (hN : N.length ≤ 131072) (hwf : WF n S N) (hsy : Symm n S N)
    (rt : Nat → Nat) (hrt : IsRt n (adj S N) rt)
    (hc1 : Cells w (some ⟨b1, o1, none⟩) S) (hc2 : Cells w a2 N) :
    Calls Try.prog 13 #[.int .i64 n, .slice (some ⟨b1, o1, none⟩) S.length cap1, .slice a2 N.length cap2] w fun e w' =>
      ∃ g', w.heap.size ≤ g' ∧ e = .returned (.slice (some ⟨g', 0, none⟩) n n) ∧ NR w' g' 3 n ((List.range n).map rt) ∧ Below w.heap.size w w' := by
  obtain ⟨i0, hi0, hz0, hz1, hz2⟩ := info_parts Try.info3
  have HW : Hid (WF n S N ∧ Gr n (adj S N) ∧ IsRt n (adj S N) rt) := ⟨hwf, gr_of hwf hsy, hrt⟩
  have hlen := hwf.len
  have HC1 : Hid (Cells w (some ⟨b1, o1, none⟩) S) := hc1
  have HC2 : Hid (Cells w a2 N) := hc2
  clear hwf hsy hrt hc1 hc2
  go_enter Try.func13, Try.ntmps13
  go_wp2_with (at_make; refine wpList_make_full _ rfl _ _ 23 rfl w.heap.size 3 i0 (.int .i64 0) 1 Try.underlying23 hi0 hz0 hz1 _ _ _ _ n rfl rfl rfl rfl (by rw [hz2]; omega) (by unfold maxLen; omega) (Nat.le_refl _) ?_; intro w1 hown hgrow)
  have hrow : NR w1 w.heap.size 3 n ((List.range n).take 0 ++ List.replicate (n - 0) 0) := nr_start (madeI hown)
  have hb1 : Below w.heap.size w w1 := (Below.refl _ _).grown hgrow (Nat.le_refl _) (by simp)
  clear hown hgrow
  go_loopw [8] (fun i wr => ∃ k : Nat, k ≤ n ∧ i = .int .i64 k ∧ NR wr w.heap.size 3 n ((List.range n).take k ++ List.replicate (n - k) 0) ∧ Below w.heap.size w wr) (fun i _ => n - (intOf i).toNat)
  case atStart => exact ⟨0, Nat.zero_le _, rfl, hrow, hb1⟩
  case round =>
    obtain ⟨k, hk, rfl, hr, hb⟩ := hrel
    clear hrow hb1
    by_cases hlt : k < n
    · have hf := hr.frozen k
      have hc0 := hr.cell (show ((List.range n).take k ++ List.replicate (n - k) 0)[k]? = some 0 by have := fill_at (List.range n) k 0 (by simpa using hlt); rwa [List.length_range] at this)
      have hs := hr.set k k
      have e := fill_step (List.range n) k k 0 (range_get hlt)
      rw [List.length_range] at e
      rw [e] at hs
      have hb' := hb.setCell (p := ⟨w.heap.size, k, none⟩) (Nat.le_refl _) (.int .i64 k)
      clear hr hb e
      go_wp2
      go_roundw
      case rel => exact ⟨k + 1, by omega, by go_num, hs, hb'⟩
      case measure => simp [intOf]; omega
    · have hk' : n = k := by omega
      subst hk'
      have hr' : NR wr w.heap.size 3 n (List.range n) := by
        have : (List.range n).take n ++ List.replicate (n - n) 0 = List.range n := by simp
        rwa [this] at hr
      clear hr
      go_wp2
      obtain ⟨wo, rfl⟩ : ∃ wo : World, wo = wr := ⟨_, rfl⟩
      go_loopw [9] (fun v wr => ∃ (i : Nat) (P : List Nat) (f : Nat → Nat), i ≤ n ∧ v = .int .i64 i ∧ Hid (UF n (adj S N) P f ∧ ∀ u v, u < i → v ∈ adj S N u → f u = f v) ∧ NR wr w.heap.size 3 n P ∧ Below w.heap.size w wr) (fun v _ => n - (intOf v).toNat)
      case atStart => exact ⟨0, List.range n, id, by omega, rfl, ⟨UF.start n _, fun u v h => by omega⟩, hr', hb⟩
      case round =>
        clear hr' hb
        obtain ⟨i, P, f, hi, rfl, HF, hr, hb⟩ := hrel
        have hc1 := HC1.out.below hb
        by_cases hin : i < n
        · obtain ⟨z1, hz1'⟩ : ∃ z, S[i]? = some z := ⟨_, List.getElem?_eq_getElem (by omega)⟩
          obtain ⟨z2, hz2'⟩ : ∃ z, S[i + 1]? = some z := ⟨_, List.getElem?_eq_getElem (by omega)⟩
          have g1 := hc1.at hz1'
          have f1 := HW.out.1.st_eq (show i ≤ n by omega)
          have f2 := HW.out.1.st_eq (show i + 1 ≤ n by omega)
          rw [getD_of hz1'] at f1
          rw [getD_of hz2'] at f2
          have HG2 : Hid (S[i + 1]? = some z2) := hz2'
          obtain ⟨t1, ht1⟩ : ∃ t1, t1 = st S i := ⟨_, rfl⟩
          obtain ⟨t2, ht2⟩ : ∃ t2, t2 = st S (i + 1) := ⟨_, rfl⟩
          rw [← ht1] at f1
          rw [← ht2] at f2
          subst f1
          subst f2
          have HT : Hid (t1 = st S i ∧ t2 = st S (i + 1)) := ⟨ht1, ht2⟩
          have f3 : t1 ≤ t2 := by rw [ht1, ht2]; exact HW.out.1.st_le (by omega) (by omega)
          have f4 : t2 ≤ N.length := by rw [ht2]; exact HW.out.1.st_len (by omega)
          clear hz1' hz2' ht1 ht2 hc1
          have c3 : (i : Int) < (S.length : Int) := by omega
          go_wp2
          obtain ⟨wo2, rfl⟩ : ∃ wo : World, wo = wr := ⟨_, rfl⟩
          go_loopw [10] (fun v wr => ∃ (t : Nat) (P : List Nat) (f : Nat → Nat), t1 ≤ t ∧ t ≤ t2 ∧ v = .int .i64 t ∧ Hid (UF n (adj S N) P f ∧ (∀ u v, u < i → v ∈ adj S N u → f u = f v) ∧ ∀ t' z, t1 ≤ t' → t' < t → N[t']? = some z → f i = f z.toNat) ∧ NR wr w.heap.size 3 n P ∧ Below w.heap.size w wr) (fun v _ => t2 - (intOf v).toNat)
          case atStart => exact ⟨t1, P, f, by omega, by omega, rfl, ⟨HF.out.1, HF.out.2, fun t' z h1 h2 => by omega⟩, hr, hb⟩
          case round =>
            clear hr hb HF P f g1
            obtain ⟨t, P, f, h1, h2, rfl, HF, hr, hb⟩ := hrel
            have hc1 := HC1.out.below hb
            have g2 := hc1.at HG2.out
            clear hc1
            by_cases htt : t < t2
            · obtain ⟨v, hv⟩ : ∃ z, N[t]? = some z := ⟨_, List.getElem?_eq_getElem (by omega)⟩
              have hvr := HW.out.1.val (i := i) (by omega) (by rw [← HT.out.1]; omega) (by rw [← HT.out.2]; omega) hv
              obtain ⟨v0, v1⟩ := hvr
              obtain ⟨v, rfl⟩ := Int.eq_ofNat_of_zero_le v0
              have hvn : v < n := by omega
              have HV : Hid (N[t]? = some (v : Int) ∧ v ∈ adj S N i) := ⟨hv, (HW.out.1.mem_adj hin).2 ⟨t, by rw [← HT.out.1]; omega, by rw [← HT.out.2]; omega, hv⟩⟩
              clear hv
              go_wp2_with fail
              refine (find22' w.heap.size n n i n P f (adj S N) _ HF.out.1 hin hr).mono ?_
              rintro e w2 ⟨rfl, P2, hu2, hr2, hgr2⟩
              have hb2 : Below w.heap.size w w2 := hb.grown hgr2 (by have := hb.size; omega) (by simp)
              have hc2 := HC2.out.below hb2
              obtain ⟨bx, ox, hx, hx1⟩ := hc2 t v HV.out.1
              obtain ⟨a, ha⟩ : ∃ a, f i = a := ⟨_, rfl⟩
              have han : a < n := by rw [← ha]; exact HF.out.1.lt hin
              have HA : Hid (f i = a) := ha
              rw [ha]
              subst hx
              have HU2 : Hid (UF n (adj S N) P2 f) := hu2
              clear ha hc2 hr hb hgr2 hu2
              go_wp2_with fail
              refine (find22' w.heap.size n n v n P2 f (adj S N) _ HU2.out hvn hr2).mono ?_
              rintro e w3 ⟨rfl, P3, hu3, hr3, hgr3⟩
              have hb3 : Below w.heap.size w w3 := hb2.grown hgr3 (by have := hb2.size; omega) (by simp)
              obtain ⟨b, hb'⟩ : ∃ b, f v = b := ⟨_, rfl⟩
              have hbn : b < n := by rw [← hb']; exact HF.out.1.lt hvn
              have HB : Hid (f v = b) := hb'
              rw [hb']
              have HU3 : Hid (UF n (adj S N) P3 f) := hu3
              clear hb' hr2 hb2 hgr3 HU2 hu3 hx1
              have hl3 := HU3.out.len
              have HL3 : Hid (P3.length = n) := hl3
              clear hl3
              rcases Nat.lt_trichotomy a b with hab | hab | hab
              · obtain ⟨y, hy⟩ : ∃ y, P3[b]? = some y := ⟨_, List.getElem?_eq_getElem (by rw [HL3.out]; exact hbn)⟩
                have gb := hr3.cell hy
                have fb := hr3.frozen b
                have hs := hr3.set b a
                have hb' := hb3.setCell (p := ⟨w.heap.size, b, none⟩) (Nat.le_refl _) (.int .i64 a)
                have HF' : Hid (UF n (adj S N) (P3.set b a) (merge f a b) ∧ (∀ u v, u < i → v ∈ adj S N u → merge f a b u = merge f a b v) ∧ ∀ t' z, t1 ≤ t' → t' < t + 1 → N[t']? = some z → merge f a b i = merge f a b z.toNat) := by
                  refine ⟨HU3.out.union HW.out.2.1 hin hvn (Conn.one HV.out.2) HA.out HB.out hab, fun u v h1 h2 => merge_eq (HF.out.2.1 u v h1 h2), fun t' z a1 a2 a3 => ?_⟩
                  by_cases htt' : t' = t
                  · subst htt'
                    have := HV.out.1
                    rw [a3] at this
                    simp at this
                    subst this
                    rw [Int.toNat_natCast]
                    exact merge_join HA.out HB.out
                  · exact merge_eq (HF.out.2.2 t' z a1 (by omega) a3)
                clear hy hr3 hb3 HU3 HF
                go_wp2
                go_roundw
                case rel => exact ⟨t + 1, _, _, by omega, by omega, by go_num, HF', hs, hb'⟩
                case measure => simp [intOf]; omega
              · have HF' : Hid (UF n (adj S N) P3 f ∧ (∀ u v, u < i → v ∈ adj S N u → f u = f v) ∧ ∀ t' z, t1 ≤ t' → t' < t + 1 → N[t']? = some z → f i = f z.toNat) := by
                  refine ⟨HU3.out, HF.out.2.1, fun t' z a1 a2 a3 => ?_⟩
                  by_cases htt' : t' = t
                  · subst htt'
                    have := HV.out.1
                    rw [a3] at this
                    simp at this
                    subst this
                    rw [Int.toNat_natCast, HA.out, HB.out, hab]
                  · exact HF.out.2.2 t' z a1 (by omega) a3
                subst hab
                clear HU3 HF
                go_wp2
                go_roundw
                case rel => exact ⟨t + 1, _, _, by omega, by omega, by go_num, HF', hr3, hb3⟩
                case measure => simp [intOf]; omega
              · obtain ⟨y, hy⟩ : ∃ y, P3[a]? = some y := ⟨_, List.getElem?_eq_getElem (by rw [HL3.out]; exact han)⟩
                have gb := hr3.cell hy
                have fb := hr3.frozen a
                have hs := hr3.set a b
                have hb' := hb3.setCell (p := ⟨w.heap.size, a, none⟩) (Nat.le_refl _) (.int .i64 b)
                have HF' : Hid (UF n (adj S N) (P3.set a b) (merge f b a) ∧ (∀ u v, u < i → v ∈ adj S N u → merge f b a u = merge f b a v) ∧ ∀ t' z, t1 ≤ t' → t' < t + 1 → N[t']? = some z → merge f b a i = merge f b a z.toNat) := by
                  refine ⟨HU3.out.union HW.out.2.1 hvn hin ((Conn.one HV.out.2).symm HW.out.2.1 hin) HB.out HA.out hab, fun u v h1 h2 => merge_eq (HF.out.2.1 u v h1 h2), fun t' z a1 a2 a3 => ?_⟩
                  by_cases htt' : t' = t
                  · subst htt'
                    have := HV.out.1
                    rw [a3] at this
                    simp at this
                    subst this
                    rw [Int.toNat_natCast]
                    exact (merge_join HB.out HA.out).symm
                  · exact merge_eq (HF.out.2.2 t' z a1 (by omega) a3)
                clear hy hr3 hb3 HU3 HF
                go_wp2
                go_roundw
                case rel => exact ⟨t + 1, _, _, by omega, by omega, by go_num, HF', hs, hb'⟩
                case measure => simp [intOf]; omega
            · have HF' : Hid (UF n (adj S N) P f ∧ ∀ u v, u < i + 1 → v ∈ adj S N u → f u = f v) := by
                refine ⟨HF.out.1, fun u v h1 h2 => ?_⟩
                by_cases hui : u = i
                · subst hui
                  obtain ⟨t', a1, a2, a3⟩ := (HW.out.1.mem_adj hin).1 h2
                  rw [← HT.out.1] at a1
                  rw [← HT.out.2] at a2
                  have := HF.out.2.2 t' v a1 (by omega) a3
                  rwa [Int.toNat_natCast] at this
                · exact HF.out.2.1 u v (by omega) h2
              clear HF
              go_wp2
              go_roundw
              case rel => exact ⟨i + 1, P, f, by omega, by go_num, HF', hr, hb⟩
              case measure => simp [intOf]; omega
        · have hin' : n = i := by omega
          subst hin'
          have HR : Hid (UF n (adj S N) P f ∧ ∀ v, v < n → f v = rt v) := by
            have := HF.out.1.isRt HF.out.2
            exact ⟨HF.out.1, fun v hv => this.unique HW.out.2.1 HW.out.2.2 hv⟩
          clear HF hc1
          have hbs := hb.size
          go_wp2_with (at_make; refine wpList_make_full _ rfl _ _ 23 rfl w.heap.size 3 i0 (.int .i64 0) 1 Try.underlying23 hi0 hz0 hz1 _ _ _ _ n rfl rfl rfl rfl (by rw [hz2]; omega) (by unfold maxLen; omega) hbs ?_; intro w2 hown hgrow)
          have hrow2 : NR w2 wr.heap.size 3 n (((List.range n).map rt).take 0 ++ List.replicate (n - 0) 0) := by
            have := nr_start (madeI hown)
            simpa using this
          have hrP : NR w2 w.heap.size 3 n P := hr.kept hgrow (by simp)
          have hb2 : Below w.heap.size w w2 := hb.grown hgrow hbs (by simp)
          have hlt1 : w.heap.size < wr.heap.size := hr.lt
          obtain ⟨B2, hB2⟩ : ∃ B2, B2 = wr.heap.size := ⟨_, rfl⟩
          rw [← hB2] at hrow2 hlt1 ⊢
          clear hown hgrow hr hb hbs hB2
          go_loopw [14] (fun v wr => ∃ (k : Nat) (P : List Nat), k ≤ n ∧ v = .int .i64 k ∧ Hid (UF n (adj S N) P f) ∧ NR wr w.heap.size 3 n P ∧ NR wr B2 3 n (((List.range n).map rt).take k ++ List.replicate (n - k) 0) ∧ Below w.heap.size w wr) (fun v _ => n - (intOf v).toNat)
          case atStart => exact ⟨0, P, by omega, rfl, HR.out.1, hrP, hrow2, hb2⟩
          case round =>
            clear hrow2 hrP hb2
            obtain ⟨k, P4, hk4, rfl, HU4, hrP, hrB, hb⟩ := hrel
            by_cases hkn : k < n
            · go_wp2_with fail
              refine (find22' w.heap.size n n k n P4 f (adj S N) _ HU4.out hkn hrP).mono ?_
              rintro e w5 ⟨rfl, P5, hu5, hr5, hgr5⟩
              have HU5 : Hid (UF n (adj S N) P5 f) := hu5
              have hb5 : Below w.heap.size w w5 := hb.grown hgr5 (by have := hb.size; omega) (by simp)
              have hrB5 := hrB.kept hgr5 (by simp; omega)
              rw [HR.out.2 k hkn]
              have hc0 := hrB5.cell (show (((List.range n).map rt).take k ++ List.replicate (n - k) 0)[k]? = some 0 by have := fill_at ((List.range n).map rt) k 0 (by simpa using hkn); rwa [List.length_map, List.length_range] at this)
              have hf := hrB5.frozen k
              have hs := hrB5.set k (rt k)
              have e := fill_step ((List.range n).map rt) k (rt k) 0 (by simp [hkn])
              rw [List.length_map, List.length_range] at e
              rw [e] at hs
              have hrP' := hr5.setOther (a := ⟨B2, k, none⟩) (by simp; omega) (.int .i64 (rt k))
              have hb' := hb5.setCell (p := ⟨B2, k, none⟩) (by simp; omega) (.int .i64 (rt k))
              clear hu5 hrB5 hb5 hgr5 hr5 hrP hrB hb e
              go_wp2
              go_roundw
              case rel => exact ⟨k + 1, P5, by omega, by go_num, HU5, hrP', hs, hb'⟩
              case measure => simp [intOf]; omega
            · have hk' : n = k := by omega
              subst hk'
              have hrB' : NR wr B2 3 n ((List.range n).map rt) := by
                have : ((List.range n).map rt).take n ++ List.replicate (n - n) 0 = (List.range n).map rt := by
                  rw [List.take_of_length_le (by simp)]
                  simp
                rwa [this] at hrB
              clear hrB
              go_wp2
              go_ret
              exact ⟨B2, by omega, rfl, hrB', hb⟩

end Go.Proofs.Qxb6605323a
