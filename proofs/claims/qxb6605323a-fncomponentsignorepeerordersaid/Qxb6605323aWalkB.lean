import Derived.Test.Qxb6605323aWalkA
namespace Go.Proofs.Qxb6605323a
open Go.RowKit

/-! ### zzIsPerm -/
set_option maxHeartbeats 400000 in
theorem isPerm16 (a : Option Addr) (cap : Nat) (zs : List Int) (w : World) (hm : zs.length ≤ 1048576) (hc : Cells w a zs) :
    Calls Try.prog 16 #[.slice a zs.length cap] w fun e w' => Says e (IsPerm zs) ∧ Below w.heap.size w w' := by
  obtain ⟨i0, hi, hz0, hz1, hz2⟩ := info_parts Try.info4
  go_enter Try.func16, Try.ntmps16
  go_wp2_with (at_make; refine wpList_make_full _ rfl _ _ 45 rfl w.heap.size 4 i0 (.bool false) 1 Try.underlying45 hi hz0 hz1 _ _ _ _ zs.length rfl rfl rfl rfl (by rw [hz2]; omega) (by unfold maxLen; omega) (Nat.le_refl _) ?_; intro w1 hown hgrow)
  have hrow : BR w1 w.heap.size 4 zs.length (markB zs.length (zs.take 0)) := by rw [List.take_zero, markB_nil]; exact madeB hown
  have hb1 : Below w.heap.size w w1 := (Below.refl _ _).grown hgrow (Nat.le_refl _) (by simp)
  clear hown hgrow
  go_loopw [4] (fun i wr => ∃ k : Nat, k ≤ zs.length ∧ i = .int .i64 k ∧ BR wr w.heap.size 4 zs.length (markB zs.length (zs.take k)) ∧ (zs.take k).Nodup ∧ (∀ z ∈ zs.take k, 0 ≤ z ∧ z < (zs.length : Int)) ∧ Below w.heap.size w wr) (fun i _ => zs.length - (intOf i).toNat)
  case atStart => exact ⟨0, Nat.zero_le _, rfl, hrow, by simp, by simp, hb1⟩
  case round =>
    obtain ⟨k, hk, rfl, hr, hnd, hrg, hb⟩ := hrel
    have HN : Hid ((zs.take k).Nodup ∧ ∀ z ∈ zs.take k, 0 ≤ z ∧ z < (zs.length : Int)) := ⟨hnd, hrg⟩
    clear hnd hrg
    by_cases hlt : k < zs.length
    · obtain ⟨z, hz⟩ : ∃ z, zs[k]? = some z := ⟨_, List.getElem?_eq_getElem hlt⟩
      obtain ⟨bx, ox, hx, hx1⟩ := hc k z hz
      have hcx : wr.cell? ⟨bx, ox + k, none⟩ = some (.int .i64 z) := (hb.cell (World.block_lt_of_cell? w _ hx1)).trans hx1
      have HT : Hid (zs.take (k + 1) = zs.take k ++ [z]) := take_snoc hz
      have HZ : Hid (zs[k]? = some z) := hz
      clear hz hx1 hc
      subst hx
      by_cases hz0 : z < 0
      · clear hr
        go_wp2
        go_ret
        exact ⟨Says.no _, hb⟩
      · by_cases hzn : (zs.length : Int) ≤ z
        · clear hr
          go_wp2
          go_ret
          exact ⟨Says.no _, hb⟩
        · obtain ⟨v, rfl⟩ := Int.eq_ofNat_of_zero_le (by omega : 0 ≤ z)
          have hv : v < zs.length := by omega
          have hcv := hr.cell (markB_get _ (zs.take k) v hv)
          by_cases hmem : (v : Int) ∈ zs.take k
          · rw [decide_eq_true hmem] at hcv
            clear hr hmem
            go_wp2
            go_ret
            exact ⟨Says.no _, hb⟩
          · rw [decide_eq_false hmem] at hcv
            have hs := hr.set v true
            have hf := hr.frozen v
            rw [markB_set zs.length (zs.take k) (zs.take (k + 1)) v (by intro x; rw [HT.out]; simp)] at hs
            have hb' := hb.setCell (p := ⟨w.heap.size, v, none⟩) (Nat.le_refl _) (.bool true)
            have hN : (zs.take (k + 1)).Nodup ∧ ∀ z ∈ zs.take (k + 1), 0 ≤ z ∧ z < (zs.length : Int) := by
              rw [HT.out]
              refine ⟨?_, ?_⟩
              · rw [List.nodup_append]
                refine ⟨HN.out.1, by simp, ?_⟩
                intro a ha b hb e
                simp at hb
                subst hb
                subst e
                exact hmem ha
              · intro z hz
                rw [List.mem_append] at hz
                rcases hz with hz | hz
                · exact HN.out.2 z hz
                · simp at hz
                  omega
            have HN' : Hid ((zs.take (k + 1)).Nodup ∧ ∀ z ∈ zs.take (k + 1), 0 ≤ z ∧ z < (zs.length : Int)) := hN
            clear hr hmem hN
            go_wp2
            go_roundw
            case rel => exact ⟨k + 1, by omega, by go_num, hs, HN'.out.1, HN'.out.2, hb'⟩
            case measure => simp [intOf]; omega
    · have hk' : k = zs.length := by omega
      subst hk'
      have HP : Hid (IsPerm zs) := by
        have := HN.out
        rw [List.take_of_length_le (Nat.le_refl _)] at this
        exact this
      clear hr HN
      go_wp2
      go_ret
      exact ⟨Says.yes HP.out, hb⟩

end Go.Proofs.Qxb6605323a
