import Derived.Test.Qxb6605487aKitM
namespace Go.Proofs.Qxb6605487a
open Go.RowKit
set_option linter.unusedVariables false

set_option maxRecDepth 100000 in
set_option maxHeartbeats 8000000 in
theorem law4_main (x : Addr) (len cap : Nat) (left : Int) (A : Nat → Option Addr) (C : Nat → Nat) (bs : Nat → List Int) (w : World) (hw : wrap64 left = left) (h : RowsIn w (some x) len A C bs) :
    Calls Try.prog 4 #[.slice (some x) len cap, .int .i64 left] w fun e w' => e = .returned (.bool true) ∧ Below w.heap.size w w' := by
  obtain ⟨i0, hi, hz0, hz1, hz2⟩ := info_parts Try.info22
  have hq := q29
  go_enter Try.func4, Try.ntmps4
  go_wp2_with fail
  refine (bytes10 (some x) len cap left A C bs w h).mono ?_
  rintro e w1 ⟨⟨b, rfl, hrow⟩, b1⟩
  have s1 := b1.size
  cases b with
  | false =>
    have B1 : Hid (Below w.heap.size w w1) := b1
    clear b1
    go_wp2
    go_ret
    exact ⟨rfl, B1.out⟩
  | true =>
  have HROW : Hid (∀ r, r < len → (bs r).length ≤ 1048576) := hrow rfl
  clear hrow
  have h1 := h.below b1
  have B1 : Hid (Below w.heap.size w w1) := b1
  clear b1 h
  by_cases hbig : 65536 < len
  · have y : (65536 : Int) < (len : Int) := by omega
    clear h1
    go_wp2
    go_ret
    exact ⟨rfl, B1.out⟩
  have y : decide ((65536 : Int) < (len : Int)) = false := by simp; omega
  have H1 : Hid (RowsIn w1 (some x) len A C bs) := h1
  have HL : Hid (len ≤ 65536) := by show len ≤ _; omega
  clear h1 hbig
  go_wp2_with fail
  go_loopw [5, 6] (fun t i wr => ∃ k : Nat, k ≤ len ∧ 24 * k + totL bs k ≤ 1048576 ∧ t = .int .i64 ((24 * k + totL bs k : Nat) : Int) ∧ i = .int .i64 k ∧ wr = w1) (fun _ i _ => len - (intOf i).toNat)
  case atStart => exact ⟨0, Nat.zero_le _, by simp [totL], by simp [totL], rfl, rfl⟩
  case round =>
    obtain ⟨k, hk, hs, rfl, rfl, rfl⟩ := hrel
    by_cases hlt : k < len
    · obtain ⟨b, o, hx, hc⟩ := H1.out.cell k hlt
      have hm := HROW.out k hlt
      have hk6 : k < 65536 := by have := HL.out; omega
      have ht : totL bs (k + 1) = totL bs k + (bs k).length := rfl
      obtain ⟨n, hn⟩ : ∃ n, (bs k).length = n := ⟨_, rfl⟩
      obtain ⟨T, hT⟩ : ∃ T, 24 * k + totL bs k = T := ⟨_, rfl⟩
      rw [hn] at hc hm ht
      rw [hT] at hs ⊢
      cases hx
      have HT : Hid (24 * (k + 1) + totL bs (k + 1) = T + (24 + n)) := by show _ = _; omega
      clear hn hT ht
      by_cases h2 : 1048576 < T + (24 + n)
      · have y2 : (1048576 : Int) < (T : Int) + (24 + (n : Int)) := by omega
        go_wp2
        go_ret
        exact ⟨rfl, B1.out⟩
      · have y2 : decide ((1048576 : Int) < (T : Int) + (24 + (n : Int))) = false := by simp; omega
        go_wp2
        go_roundw
        case rel => exact ⟨k + 1, by omega, by rw [HT.out]; omega, by rw [HT.out]; go_num, by go_num, trivial⟩
        case measure => simp [intOf]; omega
    · obtain rfl : len = k := by omega
      clear hlt hk
      have htot : totL bs len ≤ 1048576 := by omega
      have HTOT : Hid (totL bs len ≤ 1048576) := htot
      clear htot hs
      have hlb : len ≤ 65536 := HL.out
      go_wp2_with (at_make; refine wpList_make_full _ rfl _ _ 29 rfl wr.heap.size 22 i0 (.slice none 0 0) 1 Try.underlying29 hi hz0 hz1 _ _ _ _ len rfl rfl rfl rfl (by rw [hz2]; omega) (by unfold maxLen; omega) (Nat.le_refl _) ?_; intro w2 hown hgrow)
      obtain ⟨W, rfl⟩ : ∃ W, W = wr := ⟨_, rfl⟩
      have hrw := Rw.of_owns hown
      rw [made_cells _ rfl] at hrw
      obtain ⟨R, hR⟩ : ∃ R, W.heap.size = R := ⟨_, rfl⟩
      rw [hR] at hrw ⊢
      have bR : Below R W w2 := below_of_grown hgrow (by omega) (by simp)
      have BW : Hid (Below w.heap.size w W) := B1.out
      have HR : Hid (∀ w', Below R W w' → RowsIn w' (some x) len A C bs) := fun w' hb => H1.out.below (by rw [hR]; exact hb)
      have O2 : Hid (OwnAll w2 R len 0 A bs) := ⟨_, hrw, by simp, fun r hr => by omega⟩
      have B2 : Hid (Below R W w2) := bR
      have hwR : Hid (w.heap.size ≤ R) := by show w.heap.size ≤ R; omega
      clear hown hgrow hrw bR B1 H1 hR s1
      go_loopw [8] (fun i wr => ∃ k : Nat, k ≤ len ∧ i = .int .i64 k ∧ Hid (OwnAll wr R len k A bs) ∧ Hid (Below R W wr)) (fun i _ => len - (intOf i).toNat)
      case atStart => exact ⟨0, Nat.zero_le _, rfl, O2, B2⟩
      case round =>
        clear O2 B2
        obtain ⟨k, hk, rfl, HO, HBW⟩ := hrel
        by_cases hlt : k < len
        · have hrows := HR.out wr HBW.out
          obtain ⟨b, o, hx, hc⟩ := hrows.cell k hlt
          have harg := hrows.arg k hlt
          have hm := HROW.out k hlt
          have hRlt : R < wr.heap.size := by obtain ⟨vals, h1, _⟩ := HO.out; exact h1.lt
          obtain ⟨n, hn⟩ : ∃ n, (bs k).length = n := ⟨_, rfl⟩
          rw [hn] at hc hm
          cases hx
          clear hrows
          go_wp2_with fail
          refine (copy7_own (A k) (C k) n R (bs k) wr hn hm harg hRlt).mono ?_
          rintro e w3 ⟨A2, rfl, hown, hb3⟩
          have HO' := HO.out.step hb3 hlt hown
          have HB' : Below R W w3 := HBW.out.trans (hb3.mono (by omega))
          obtain ⟨vals, h1, h2, -⟩ := HO.out
          have h1' := Rw.below h1 hb3 h1.lt
          obtain ⟨v, hv⟩ := h1'.valD (i := k) (by omega)
          have hf := h1'.frozen k
          have HB2 : Hid (Below R W (w3.setCell ⟨R, k, none⟩ (.slice A2 n n))) := HB'.setCell (p := ⟨R, k, none⟩) (Nat.le_refl _) _
          have HO2 : Hid (OwnAll (w3.setCell ⟨R, k, none⟩ (.slice A2 n n)) R len (k + 1) A bs) := HO'
          clear HO' HB' h1 h2 h1' hb3 hown hc harg HO HBW hn
          go_wp2
          go_roundw
          case rel => exact ⟨k + 1, by omega, by go_num, HO2, HB2⟩
          case measure => simp [intOf]; omega
        · obtain rfl : len = k := by omega
          clear hlt hk
          go_wp2_with (at_make; refine wpList_make_full _ rfl _ _ 29 rfl wr.heap.size 22 i0 (.slice none 0 0) 1 Try.underlying29 hi hz0 hz1 _ _ _ _ len rfl rfl rfl rfl (by rw [hz2]; omega) (by unfold maxLen; omega) (Nat.le_refl _) ?_; intro w4 hown hgrow)
          obtain ⟨V, rfl⟩ : ∃ V, V = wr := ⟨_, rfl⟩
          have hrw := Rw.of_owns hown
          rw [made_cells _ rfl] at hrw
          obtain ⟨G, hG⟩ : ∃ G, V.heap.size = G := ⟨_, rfl⟩
          rw [hG] at hrw ⊢
          have bG : Below G V w4 := below_of_grown hgrow (by omega) (by simp)
          have BV : Hid (Below w.heap.size w V) := BW.out.trans (HBW.out.mono hwR.out)
          have HRG : Hid (R < G) := by obtain ⟨vals, h1, _⟩ := HO.out; have := h1.lt; show R < G; omega
          have HV : Hid (OwnAll V R len len A bs ∧ V.heap.size = G) := ⟨HO.out, hG⟩
          have G4 : Hid (GotAll w4 G len 0 none 0 A bs) := ⟨_, hrw, by simp, fun r hr => by omega⟩
          have B4 : Hid (Below G V w4) := bG
          have F4 : Hid (Buf w4 (G + 1) none 0) := fun hl => by omega
          have hwl : Hid (left = wrap64 (left - ((totL bs 0 : Nat) : Int))) := by show left = _; simp [totL, hw]
          clear hown hgrow hrw bG BW HBW HO HR hG hwR hw
          go_loopw [9, 10, 11, 13] (fun b lv t i wr => ∃ (k : Nat) (a : Option Addr) (l : Nat) (lf : Int), k ≤ len ∧ b = .slice a l l ∧ l ≤ 1048576 ∧ lv = .int .i64 lf ∧ Hid (lf = wrap64 (left - ((totL bs k : Nat) : Int))) ∧ t = .int .i64 ((totL bs k : Nat) : Int) ∧ i = .int .i64 k ∧
            Hid (GotAll wr G len k a l A bs) ∧ Hid (Buf wr (G + 1) a l) ∧ Hid (Below G V wr)) (fun _ _ _ i _ => len - (intOf i).toNat)
          case atStart => exact ⟨0, none, 0, left, Nat.zero_le _, rfl, by omega, rfl, hwl, by simp [totL], rfl, G4, F4, B4⟩
          case round =>
            clear G4 F4 B4 hwl
            obtain ⟨k, a, l, lf, hk, rfl, hl1, rfl, HLF, rfl, rfl, HG, HF, HBV⟩ := hrel
            by_cases hlt : k < len
            · have hm := HROW.out k hlt
              obtain ⟨⟨vals, h1, h2, h3⟩, hVG⟩ := HV.out
              obtain ⟨v, hv, A2, rfl, hA2, hK⟩ := h3 k hlt
              have hbV : Below V.heap.size V wr := by rw [hVG]; exact HBV.out
              have h1' := Rw.below h1 hbV h1.lt
              have hc := h1'.cell hv
              have hGl : G < wr.heap.size := by obtain ⟨gv, g1, _⟩ := HG.out; exact g1.lt
              have htk : totL bs (k + 1) = totL bs k + (bs k).length := rfl
              have htm : totL bs (k + 1) ≤ 1048576 := Nat.le_trans (totL_mono bs len (k + 1) hlt) HTOT.out
              have hK' : 0 < (bs k).length → ∃ K, A2 = some ⟨K, 0, none⟩ ∧ K < G + 1 ∧ UR wr K 5 (bs k).length (bs k) := by
                intro hp
                obtain ⟨K, k1, k2, k3⟩ := hK hp
                exact ⟨K, k1, by have := k3.lt; omega, k3.below hbV k3.lt⟩
              obtain ⟨n, hn⟩ : ∃ n, (bs k).length = n := ⟨_, rfl⟩
              obtain ⟨T, hT⟩ : ∃ T, totL bs k = T := ⟨_, rfl⟩
              have hlw : wrap64 lf = lf := by rw [HLF.out]; exact wrap_wrap _
              have hlf' : wrap64 (lf - (n : Int)) = wrap64 (left - ((totL bs (k + 1) : Nat) : Int)) := by
                rw [HLF.out, wrap_sub, htk, hn]
                congr 2
              rw [hn] at hc hm htk
              rw [hT] at htk ⊢
              rw [htk] at htm
              have HTK : Hid (totL bs (k + 1) = T + n) := htk
              have HLW : Hid (wrap64 (lf - (n : Int)) = wrap64 (left - ((totL bs (k + 1) : Nat) : Int))) := hlf'
              have H1 : Hid (Rw wr R 22 len vals) := h1'
              have HVA : Hid (vals[k]? = some (.slice A2 n n)) := by show _ = _; rw [hv, hn]
              have HNK : Hid ((bs k).length = n) := hn
              have HK : Hid (0 < n → ∃ K, A2 = some ⟨K, 0, none⟩ ∧ K < G + 1 ∧ UR wr K 5 n (bs k)) := by rw [hn] at hK'; exact hK'
              have HA2 : Hid (A2.isNone = (A k).isNone) := hA2
              have HGL : Hid (G < wr.heap.size) := hGl
              have HLW0 : Hid (wrap64 lf = lf) := hlw
              clear h1 h2 h3 hVG hv hA2 hK hbV h1' hK' hn hT hlw hlf' htk hGl
              go_wp2_with fail
              refine (step8 (G + 1) a A2 l n lf (bs k) wr HNK.out hm hl1 HLW0.out HGL.out HF.out HK.out).mono ?_
              rintro e w5 ⟨O, a', l', rfl, hl2, hO, hF5, hS5, hall, hb5⟩
              obtain ⟨gv, g1, g2, g3⟩ := HG.out
              have g1' := Rw.below g1 hb5 (Nat.lt_succ_self _)
              obtain ⟨u, hu⟩ := g1'.valD (i := k) (by omega)
              have hf := g1'.frozen k
              have hRG := HRG.out
              have r1 := (Rw.below H1.out hb5 (by omega)).setOther (a := ⟨G, k, none⟩) (by show R ≠ G; omega) (.slice O n n)
              have c31 := r1.cell HVA.out
              have HG' : Hid (GotAll (w5.setCell ⟨G, k, none⟩ (.slice O n n)) G len (k + 1) a' l' A bs) :=
                HG.out.step hb5 hlt hall ⟨O, by rw [HNK.out], hO.trans HA2.out, hS5⟩
              have HF' : Hid (Buf (w5.setCell ⟨G, k, none⟩ (.slice O n n)) (G + 1) a' l') := hF5.setOther (Nat.lt_succ_self _) _
              have HB' : Hid (Below G V (w5.setCell ⟨G, k, none⟩ (.slice O n n))) := (HBV.out.trans (hb5.mono (Nat.le_succ _))).setCell (p := ⟨G, k, none⟩) (Nat.le_refl _) _
              clear g1 g2 g3 g1' r1 hall hS5 hF5 hO hb5 HG HF HBV H1 HK hc hRG
              go_wp2
              go_roundw
              case rel => exact ⟨k + 1, a', l', wrap64 (lf - (n : Int)), by omega, rfl, hl2, rfl, HLW, by rw [HTK.out]; go_num, by go_num, HG', HF', HB'⟩
              case measure => simp [intOf]; omega
            · obtain rfl : len = k := by omega
              clear hlt hk
              have hlf := HLF.out
              have htt := HTOT.out
              obtain ⟨T, hT⟩ : ∃ T, totL bs len = T := ⟨_, rfl⟩
              rw [hT] at htt hlf ⊢
              subst hlf
              have q6 : (wrap64 (left - (T : Int)) != wrap64 (left - (T : Int))) = false := by simp
              have HGW : Hid (GotAll wr G len len a l A bs ∧ G < wr.heap.size) := ⟨HG.out, by obtain ⟨gv, g1, _⟩ := HG.out; exact g1.lt⟩
              obtain ⟨X, rfl⟩ : ∃ X, X = wr := ⟨_, rfl⟩
              have HP : Hid (∀ r, r < len → PairAt X R G r (bs r)) := pairs HV.out.1 HV.out.2 HBV.out HG.out
              have BX : Hid (Below w.heap.size w X) := BV.out.trans (HBV.out.mono (by have := BV.out.size; have := HV.out.2; omega))
              have HWG : Hid (w.heap.size ≤ G) := by have := BV.out.size; have := HV.out.2; show w.heap.size ≤ G; omega
              have hq2 := q22
              clear hT HV HG HF HBV BV HLF HTOT
              go_wp2_with fail
              go_loopw [17] (fun i wr => ∃ k : Nat, k ≤ len ∧ i = .int .i64 k ∧ Hid (Below X.heap.size X wr)) (fun i _ => len - (intOf i).toNat)
              case atStart => exact ⟨0, Nat.zero_le _, rfl, Below.refl _ _⟩
              case round =>
                obtain ⟨k, hk, rfl, HBX⟩ := hrel
                by_cases hlt : k < len
                · have hm := HROW.out k hlt
                  obtain ⟨A2, O, c1, c2, hiso, hp⟩ := (HP.out k hlt).below HBX.out
                  obtain ⟨n, hn⟩ : ∃ n, (bs k).length = n := ⟨_, rfl⟩
                  obtain ⟨zs, hzs⟩ : ∃ zs, bs k = zs := ⟨_, rfl⟩
                  rw [hzs] at hn hp
                  rw [hzs, hn] at c1 c2 hm
                  rw [hn] at hp
                  obtain ⟨p, hpp⟩ : ∃ p, A2.isNone = p := ⟨_, rfl⟩
                  rw [hpp] at hiso
                  have hp0 : (p != p) = false := by simp
                  by_cases h0 : n = 0
                  · subst h0
                    obtain rfl : zs = [] := List.length_eq_zero_iff.1 hn
                    clear hp hn hzs
                    go_wp2_with fail
                    refine (eq9 _ _ _ _ 0 [] wr rfl (by omega) (Cells.nil _ _) (Cells.nil _ _)).mono ?_
                    rintro e w7 ⟨rfl, b7⟩
                    have HB7 : Hid (Below X.heap.size X w7) := HBX.out.trans (b7.mono HBX.out.size)
                    clear b7 HBX c1 c2
                    go_wp2_with fail
                    go_quiet (fail)
                    go_wp2
                    go_roundw
                    case rel => exact ⟨k + 1, by omega, by go_num, below_drewN HB7.out _⟩
                    case measure => simp [intOf]; omega
                  · obtain ⟨K, g', o', cp, cur, rfl, e2, e3, rfl, e5, e6, e7⟩ := hp (by omega)
                    have k1 : (0 : Int) < (n : Int) := by omega
                    have k2 : decide (0 < n) = true := by simp; omega
                    have d1 := e6.cellsAt (by rw [hn]; exact e7)
                    have d2 := e3.cells
                    have HU : Hid (UR wr K 5 n zs ∧ UR wr g' 5 cp cur ∧ g' ≠ K) := ⟨e3, e6, by omega⟩
                    clear hpp hiso hp0 e2 e3 e5 e6 e7 hzs h0 hp
                    go_wp2_with fail
                    refine (eq9 _ _ _ _ n zs wr hn hm d1 d2).mono ?_
                    rintro e w7 ⟨rfl, b7⟩
                    have HB7 : Hid (Below X.heap.size X w7) := HBX.out.trans (b7.mono HBX.out.size)
                    have po := ptr_other (i := o') (j := 0) (HU.out.2.1.below b7 HU.out.2.1.lt) (HU.out.1.below b7 HU.out.1.lt) HU.out.2.2
                    have po0 := po 0
                    clear b7 HBX c1 c2 d1 d2 HU
                    go_wp2_with fail
                    go_quiet (fail)
                    go_wp2
                    go_roundw
                    case rel => exact ⟨k + 1, by omega, by go_num, below_drewN HB7.out _⟩
                    case measure => simp [intOf]; omega
                · obtain rfl : len = k := by omega
                  clear hlt hk
                  obtain ⟨Y, rfl⟩ : ∃ Y, Y = wr := ⟨_, rfl⟩
                  have A0 : Hid (AppAll Y G len 0 A bs) := AppAll.start HGW.out.1 HBX.out
                  have HPY : Hid (∀ r, r < len → PairAt Y R G r (bs r)) := fun r hr => (HP.out r hr).below HBX.out
                  have BY : Hid (Below w.heap.size w Y) := BX.out.trans (HBX.out.mono BX.out.size)
                  obtain ⟨i5, hi5, h50, h51, h52⟩ := info_parts Try.info5
                  clear HGW HP BX HBX
                  go_wp2_with fail
                  go_loopw [20] (fun i wr => ∃ k : Nat, k ≤ len ∧ i = .int .i64 k ∧ Hid (AppAll wr G len k A bs) ∧ Hid (Below G Y wr)) (fun i _ => len - (intOf i).toNat)
                  case atStart => exact ⟨0, Nat.zero_le _, rfl, A0, Below.refl _ _⟩
                  case round =>
                    clear A0
                    obtain ⟨k, hk, rfl, HA, HBY⟩ := hrel
                    by_cases hlt : k < len
                    · have hm := HROW.out k hlt
                      obtain ⟨gv, g1, g2, g3, g4⟩ := HA.out
                      obtain ⟨v, hv, O, rfl, -, hS⟩ := g4 k (Nat.le_refl _) hlt
                      have hc := g1.cell hv
                      obtain ⟨n, hn⟩ : ∃ n, (bs k).length = n := ⟨_, rfl⟩
                      rw [hn] at hc hm
                      have hGl := g1.lt
                      have HS : Hid (Safe wr (G + 1) none 0 O (bs k) ∧ (bs k).length = n) := ⟨hS, hn⟩
                      clear g1 g2 g3 g4 hv hS hn
                      go_wp2_with (at_builtin; refine wpList_append_grows _ rfl _ _ 22 rfl 5 i5 (.int .u8 0) 1 1 Try.underlying22 hi5 h50 h51 h52 rfl (by decide) O n n ((bs k).map (.int .u8)) rfl ?hnone ?hlo ?holds _ 1 _ [.int .u8 165] rfl rfl ?hc ?h1c ?hfull ?b1 ?b2 ?hK)
                      case hnone =>
                        intro hO
                        have : n = 0 := by
                          by_cases h0 : 0 < n
                          · obtain ⟨g, o, _, _, h1, _⟩ := HS.out.1 (by rw [HS.out.2]; exact h0)
                            rw [h1] at hO
                            cases hO
                          · omega
                        exact ⟨this, this⟩
                      case hlo => rw [List.length_map, HS.out.2, Nat.mul_one]
                      case holds =>
                        intro b hO j u hu
                        rw [List.getElem?_map] at hu
                        obtain ⟨z, hz, rfl⟩ := Option.map_eq_some_iff.1 hu
                        have hj := (List.getElem?_eq_some_iff.1 hz).1
                        obtain ⟨g, o, cp, cur, h1, h2, h3, h4, _⟩ := HS.out.1 (by omega)
                        rw [hO] at h1
                        cases h1
                        rw [Addr.add_lit]
                        exact (h3.alloc _).cell (by rw [h4 j hj]; exact hz)
                      case hc =>
                        intro j u hu
                        match j, hu with
                        | 0, hu =>
                          simp at hu
                          subst hu
                          exact cell_new wr _ 5
                      case h1c =>
                        intro u hu
                        simp at hu
                        subst hu
                        rfl
                      case hfull => exact Nat.lt_succ_self n
                      case b1 => unfold maxLen; omega
                      case b2 => omega
                      case hK =>
                        intro v' w5 hown hgrow
                        obtain ⟨g, c, rfl, hgg, hu⟩ := app_of_owns HS.out.2 hown
                        have hb5 : Below wr.heap.size wr w5 := ((Below.refl wr.heap.size wr).alloc (Nat.le_refl _) _).trans (below_of_grown hgrow (by rw [heap_alloc_size]; omega) (by simp))
                        have HA' : Hid (AppAll (w5.setCell ⟨G, k, none⟩ (.slice (some ⟨g, 0, none⟩) (n + 1) c)) G len (k + 1) A bs) :=
                          HA.out.step hb5 hlt ⟨g, c, by rw [HS.out.2], by omega, hu⟩
                        have HB' : Hid (Below G Y (w5.setCell ⟨G, k, none⟩ (.slice (some ⟨g, 0, none⟩) (n + 1) c))) := (HBY.out.trans (hb5.mono (by omega))).setCell (p := ⟨G, k, none⟩) (Nat.le_refl _) _
                        obtain ⟨gv, g1, g2, -, -⟩ := HA.out
                        have g1' := Rw.below g1 hb5 g1.lt
                        obtain ⟨u, hcu⟩ := g1'.valD (i := k) (by omega)
                        have hf := g1'.frozen k
                        clear hown hgrow hu hb5 g1 g2 g1' hc HS HA HBY
                        go_wp2
                        go_roundw
                        case rel => exact ⟨k + 1, by omega, by go_num, HA', HB'⟩
                        case measure => simp [intOf]; omega
                    · obtain rfl : len = k := by omega
                      clear hlt hk
                      obtain ⟨Z, rfl⟩ : ∃ Z, Z = wr := ⟨_, rfl⟩
                      have BZ : Hid (Below w.heap.size w Z) := BY.out.trans (HBY.out.mono HWG.out)
                      go_wp2_with fail
                      go_loopw [21] (fun i wr => ∃ k : Nat, k ≤ len ∧ i = .int .i64 k ∧ Hid (Below Z.heap.size Z wr)) (fun i _ => len - (intOf i).toNat)
                      case atStart => exact ⟨0, Nat.zero_le _, rfl, Below.refl _ _⟩
                      case round =>
                        obtain ⟨k, hk, rfl, HBZ⟩ := hrel
                        by_cases hlt : k < len
                        · have hm := HROW.out k hlt
                          obtain ⟨gv, g1, g2, g3, -⟩ := HA.out
                          obtain ⟨v, hv, g, c, rfl, hGg, hu⟩ := g3 k hlt
                          have c2 := (Rw.below g1 HBZ.out g1.lt).cell hv
                          have u2 := hu.below HBZ.out hu.lt
                          obtain ⟨A2, O, c1, -, -, hp⟩ := HPY.out k hlt
                          have hRG := HRG.out
                          have c1Z : Z.cell? ⟨R, k, none⟩ = some (.slice A2 (bs k).length (bs k).length) := (HBY.out.cell (p := ⟨R, k, none⟩) hRG).trans c1
                          have c1' : wr.cell? ⟨R, k, none⟩ = some (.slice A2 (bs k).length (bs k).length) := (HBZ.out.cell (World.block_lt_of_cell? Z _ c1Z)).trans c1Z
                          have d2 : Cells wr A2 (bs k) := by
                            by_cases h0 : 0 < (bs k).length
                            · obtain ⟨K, _, _, _, _, rfl, e2, e3, _⟩ := hp h0
                              have e4 := e3.below HBY.out e2
                              exact (e4.below HBZ.out e4.lt).cells
                            · rw [List.length_eq_zero_iff.1 (by omega : (bs k).length = 0)]
                              exact Cells.nil _ _
                          have d1 : Cells wr (some ⟨g, 0, none⟩) (bs k) := u2.cells.front
                          have cn : wr.cell? ⟨g, (bs k).length, none⟩ = some (.int .u8 165) := u2.cell (by simp)
                          have hle := u2.le
                          obtain ⟨zs, hzs⟩ : ∃ zs, bs k = zs := ⟨_, rfl⟩
                          obtain ⟨n, hn⟩ : ∃ n, zs.length = n := ⟨_, rfl⟩
                          rw [hzs] at c1' d1 d2 cn hm c2 hle
                          rw [hn] at c1' cn hm c2
                          have hnc : n + 1 ≤ c := by rw [List.length_append, hn] at hle; simpa using hle
                          have k1 : (n : Int) < (n : Int) + 1 := by omega
                          have k3 : ((n : Int) + 1 != (n : Int) + 1) = false := by simp
                          have k4 : ((165 : Int) != 165) = false := by simp
                          have k5 : (n : Int) ≤ (c : Int) := by omega
                          have HN : Hid (zs.length = n) := hn
                          clear g1 g2 g3 hv hu u2 hp c1 c1Z hRG hzs hle hn
                          go_wp2_with fail
                          refine (eq9 _ _ _ _ n zs wr HN.out hm d1 d2).mono ?_
                          rintro e w7 ⟨rfl, b7⟩
                          have HB7 : Hid (Below Z.heap.size Z w7) := HBZ.out.trans (b7.mono HBZ.out.size)
                          clear b7 HBZ c1' c2 d1 d2 cn
                          go_wp2
                          go_roundw
                          case rel => exact ⟨k + 1, by omega, by go_num, HB7⟩
                          case measure => simp [intOf]; omega
                        · have HBE : Hid (Below w.heap.size w wr) := BZ.out.trans (HBZ.out.mono BZ.out.size)
                          obtain rfl : len = k := by omega
                          clear HBZ
                          go_wp2
                          go_ret
                          exact ⟨rfl, HBE.out⟩
end Go.Proofs.Qxb6605487a
