import Derived.Test.Qxb6605323aChecked
import Derived.Test.Qxb6605323aKit
import Derived.Test.Qxb6605323aPlain
import Derived.WalkSpells
import Derived.WalkLawsBesides
import Derived.Deep.QuietTactic
import Derived.BigQuiet
import Derived.RegionTactic
import Derived.Outline
namespace Go.Proofs.Qxb6605323a
open Go.RowKit

/-- The slice's elements read zs. -/
def Cells (w : World) (a : Option Addr) (zs : List Int) : Prop :=
  ∀ i z, zs[i]? = some z → ∃ b o, a = some ⟨b, o, none⟩ ∧ w.cell? ⟨b, o + i, none⟩ = some (.int .i64 z)

theorem Cells.below {w w' : World} {a : Option Addr} {zs : List Int} (h : Cells w a zs) (hb : Below w.heap.size w w') : Cells w' a zs := by
  intro i z hz
  obtain ⟨b, o, hx, hc⟩ := h i z hz
  exact ⟨b, o, hx, (hb.cell (World.block_lt_of_cell? w _ hc)).trans hc⟩

theorem IR.cells {w : World} {g : Nat} {e : TypeId} {cap : Nat} {zs : List Int} (h : IR w g e cap zs) : Cells w (some ⟨g, 0, none⟩) zs := by
  intro i z hz
  exact ⟨g, 0, rfl, by simpa using h.cell hz⟩

theorem Cells.at {w : World} {b o : Nat} {zs : List Int} (h : Cells w (some ⟨b, o, none⟩) zs) {i : Nat} {z : Int} (hz : zs[i]? = some z) : w.cell? ⟨b, o + i, none⟩ = some (.int .i64 z) := by
  obtain ⟨b', o', hy, hc⟩ := h i z hz
  cases hy
  exact hc

theorem Cells.ex {w : World} {a : Option Addr} {zs : List Int} (h : Cells w a zs) (hz : 0 < zs.length) : ∃ b o, a = some ⟨b, o, none⟩ := by
  obtain ⟨b, o, hx, _⟩ := h 0 _ (List.getElem?_eq_getElem hz)
  exact ⟨b, o, hx⟩

theorem Try.info2 : (Try.prog.info? 2).map (fun i => (i.zero, i.size, i.bytes)) = some (some (.int .i64 0), 1, 8) := by kernel_rfl
theorem Try.info3 : (Try.prog.info? 3).map (fun i => (i.zero, i.size, i.bytes)) = some (some (.int .i64 0), 1, 8) := by kernel_rfl
theorem Try.info4 : (Try.prog.info? 4).map (fun i => (i.zero, i.size, i.bytes)) = some (some (.bool false), 1, 1) := by kernel_rfl

theorem q22 : ∀ (w : World) (a : Option Addr) (n c n' c' : Nat), (binOp .eql 22 (.slice a n c) (.slice none n' c')).run Try.prog w = .ok (.bool a.isNone) w := fun w a n c n' c' => Lib.run_eql_slice_nil w _ _ a n c n' c' Try.underlying22
theorem q23 : ∀ (w : World) (a : Option Addr) (n c n' c' : Nat), (binOp .eql 23 (.slice a n c) (.slice none n' c')).run Try.prog w = .ok (.bool a.isNone) w := fun w a n c n' c' => Lib.run_eql_slice_nil w _ _ a n c n' c' Try.underlying23

set_option maxHeartbeats 400000 in
theorem clone64_nil (w : World) : Calls Try.prog 10 #[.slice none 0 0] w fun e w' => e = .returned (.slice none 0 0) ∧ w' = w := by
  have hq := q22
  go_enter Try.func10, Try.ntmps10
  go_wp2
  go_ret
  exact ⟨rfl, rfl⟩

set_option maxHeartbeats 400000 in
theorem clone64_some (x : Addr) (cap : Nat) (zs : List Int) (w : World) (hm : zs.length ≤ 1048576)
    (hc : Cells w (some x) zs) :
    Calls Try.prog 10 #[.slice (some x) zs.length cap] w fun e w' => e = .returned (.slice (some ⟨w.heap.size, 0, none⟩) zs.length zs.length) ∧ IR w' w.heap.size 2 zs.length zs ∧ Below w.heap.size w w' := by
  obtain ⟨i0, hi, hz0, hz1, hz2⟩ := info_parts Try.info2
  have hq := q22
  go_enter Try.func10, Try.ntmps10
  go_wp2_with (at_make; refine wpList_make_full _ rfl _ _ 22 rfl w.heap.size 2 i0 (.int .i64 0) 1 Try.underlying22 hi hz0 hz1 _ _ _ _ zs.length rfl rfl rfl rfl (by rw [hz2]; omega) (by unfold maxLen; omega) (Nat.le_refl _) ?_; intro w1 hown hgrow)
  have hrow : IR w1 w.heap.size 2 zs.length (List.replicate zs.length 0) := madeI hown
  have hb1 : Below w.heap.size w w1 := (Below.refl _ _).grown hgrow (Nat.le_refl _) (by simp)
  clear hown hgrow
  go_loopw [4] (fun i wr => ∃ k : Nat, k ≤ zs.length ∧ i = .int .i64 k ∧ IR wr w.heap.size 2 zs.length (zs.take k ++ List.replicate (zs.length - k) 0) ∧ Below w.heap.size w wr) (fun i _ => zs.length - (intOf i).toNat)
  case atStart => exact ⟨0, Nat.zero_le _, rfl, by simpa using hrow, hb1⟩
  case round =>
    obtain ⟨k, hk, rfl, hr, hb⟩ := hrel
    by_cases hlt : k < zs.length
    · obtain ⟨z, hz⟩ : ∃ z, zs[k]? = some z := ⟨_, List.getElem?_eq_getElem hlt⟩
      obtain ⟨b, o, hx, hx1⟩ := hc k z hz
      cases hx
      have hcx : wr.cell? ⟨b, o + k, none⟩ = some (.int .i64 z) := (hb.cell (World.block_lt_of_cell? w _ hx1)).trans hx1
      have hf := hr.frozen k
      have hc0 : wr.cell? ⟨w.heap.size, k, none⟩ = some (.int .i64 0) := hr.cell (fill_at zs k 0 hlt)
      have hs := hr.set k z
      rw [fill_step zs k z 0 hz] at hs
      have hb' := hb.setCell (p := ⟨w.heap.size, k, none⟩) (Nat.le_refl _) (.int .i64 z)
      clear hx1 hr hb
      go_wp2
      go_roundw
      case rel => exact ⟨k + 1, by omega, by go_num, hs, hb'⟩
      case measure => simp [intOf]; omega
    · go_wp2
      go_ret
      have hk' : k = zs.length := by omega
      subst hk'
      exact ⟨rfl, by simpa using hr, hb⟩

set_option maxHeartbeats 400000 in
theorem cloneInt_nil (w : World) : Calls Try.prog 11 #[.slice none 0 0] w fun e w' => e = .returned (.slice none 0 0) ∧ w' = w := by
  have hq := q23
  go_enter Try.func11, Try.ntmps11
  go_wp2
  go_ret
  exact ⟨rfl, rfl⟩

set_option maxHeartbeats 400000 in
theorem cloneInt_some (x : Addr) (cap : Nat) (zs : List Int) (w : World) (hm : zs.length ≤ 1048576)
    (hc : Cells w (some x) zs) :
    Calls Try.prog 11 #[.slice (some x) zs.length cap] w fun e w' => e = .returned (.slice (some ⟨w.heap.size, 0, none⟩) zs.length zs.length) ∧ IR w' w.heap.size 3 zs.length zs ∧ Below w.heap.size w w' := by
  obtain ⟨i0, hi, hz0, hz1, hz2⟩ := info_parts Try.info3
  have hq := q23
  go_enter Try.func11, Try.ntmps11
  go_wp2_with (at_make; refine wpList_make_full _ rfl _ _ 23 rfl w.heap.size 3 i0 (.int .i64 0) 1 Try.underlying23 hi hz0 hz1 _ _ _ _ zs.length rfl rfl rfl rfl (by rw [hz2]; omega) (by unfold maxLen; omega) (Nat.le_refl _) ?_; intro w1 hown hgrow)
  have hrow : IR w1 w.heap.size 3 zs.length (List.replicate zs.length 0) := madeI hown
  have hb1 : Below w.heap.size w w1 := (Below.refl _ _).grown hgrow (Nat.le_refl _) (by simp)
  clear hown hgrow
  go_loopw [4] (fun i wr => ∃ k : Nat, k ≤ zs.length ∧ i = .int .i64 k ∧ IR wr w.heap.size 3 zs.length (zs.take k ++ List.replicate (zs.length - k) 0) ∧ Below w.heap.size w wr) (fun i _ => zs.length - (intOf i).toNat)
  case atStart => exact ⟨0, Nat.zero_le _, rfl, by simpa using hrow, hb1⟩
  case round =>
    obtain ⟨k, hk, rfl, hr, hb⟩ := hrel
    by_cases hlt : k < zs.length
    · obtain ⟨z, hz⟩ : ∃ z, zs[k]? = some z := ⟨_, List.getElem?_eq_getElem hlt⟩
      obtain ⟨b, o, hx, hx1⟩ := hc k z hz
      cases hx
      have hcx : wr.cell? ⟨b, o + k, none⟩ = some (.int .i64 z) := (hb.cell (World.block_lt_of_cell? w _ hx1)).trans hx1
      have hf := hr.frozen k
      have hc0 : wr.cell? ⟨w.heap.size, k, none⟩ = some (.int .i64 0) := hr.cell (fill_at zs k 0 hlt)
      have hs := hr.set k z
      rw [fill_step zs k z 0 hz] at hs
      have hb' := hb.setCell (p := ⟨w.heap.size, k, none⟩) (Nat.le_refl _) (.int .i64 z)
      clear hx1 hr hb
      go_wp2
      go_roundw
      case rel => exact ⟨k + 1, by omega, by go_num, hs, hb'⟩
      case measure => simp [intOf]; omega
    · go_wp2
      go_ret
      have hk' : k = zs.length := by omega
      subst hk'
      exact ⟨rfl, by simpa using hr, hb⟩

/-! ### zzBytes_.. -/
set_option maxHeartbeats 400000 in
theorem bytes7_yes (a0 a1 a2 : Option Addr) (l0 c0 l1 c1 l2 c2 : Nat) (w : World) (h : l0 + l1 + l2 ≤ 1048576) :
    Calls Try.prog 7 #[.slice a0 l0 c0, .slice a1 l1 c1, .slice a2 l2 c2] w fun e w' => e = .returned (.bool true) ∧ w' = w := by
  go_enter Try.func7, Try.ntmps7
  go_wp2
  go_ret
  exact ⟨rfl, rfl⟩

set_option maxHeartbeats 400000 in
theorem bytes7_no (a0 a1 a2 : Option Addr) (l0 c0 l1 c1 l2 c2 : Nat) (w : World) (h : 1048576 < l0 + l1 + l2) :
    Calls Try.prog 7 #[.slice a0 l0 c0, .slice a1 l1 c1, .slice a2 l2 c2] w fun e w' => e = .returned (.bool false) ∧ w' = w := by
  go_enter Try.func7, Try.ntmps7
  go_wp2
  all_goals
    go_ret
    exact ⟨rfl, rfl⟩

set_option maxHeartbeats 400000 in
theorem bytes15_yes (a0 a1 a2 a3 : Option Addr) (l0 c0 l1 c1 l2 c2 l3 c3 : Nat) (w : World) (h : l0 + l1 + l2 + l3 ≤ 1048576) :
    Calls Try.prog 15 #[.slice a0 l0 c0, .slice a1 l1 c1, .slice a2 l2 c2, .slice a3 l3 c3] w fun e w' => e = .returned (.bool true) ∧ w' = w := by
  go_enter Try.func15, Try.ntmps15
  go_wp2
  go_ret
  exact ⟨rfl, rfl⟩

set_option maxHeartbeats 400000 in
theorem bytes15_no (a0 a1 a2 a3 : Option Addr) (l0 c0 l1 c1 l2 c2 l3 c3 : Nat) (w : World) (h : 1048576 < l0 + l1 + l2 + l3) :
    Calls Try.prog 15 #[.slice a0 l0 c0, .slice a1 l1 c1, .slice a2 l2 c2, .slice a3 l3 c3] w fun e w' => e = .returned (.bool false) ∧ w' = w := by
  go_enter Try.func15, Try.ntmps15
  go_wp2
  all_goals
    go_ret
    exact ⟨rfl, rfl⟩

/-! ### zzHasInt64 -/
set_option maxHeartbeats 400000 in
theorem has17 (g cap c' : Nat) (zs : List Int) (x : Int) (w : World) (hm : zs.length ≤ 1048576) (hr : IR w g 2 cap zs) (hs : zs.Pairwise (· ≤ ·)) :
    Calls Try.prog 17 #[.slice (some ⟨g, 0, none⟩) zs.length c', .int .i64 x] w fun e w' => e = .returned (.bool (hasB zs x)) ∧ w' = w := by
  go_enter Try.func17, Try.ntmps17
  go_wp2
  go_loop [5, 6] (fun lo hi => ∃ l h : Nat, l ≤ h ∧ h ≤ zs.length ∧ lo = .int .i64 l ∧ hi = .int .i64 h ∧ (∀ i z, i < l → zs[i]? = some z → z < x) ∧ (∀ i z, h ≤ i → zs[i]? = some z → x ≤ z)) (fun lo hi => (intOf hi).toNat - (intOf lo).toNat)
  case atStart => exact ⟨0, zs.length, Nat.zero_le _, Nat.le_refl _, rfl, rfl, fun i z hi => by omega, fun i z hi hz => by have := (List.getElem?_eq_some_iff.1 hz).1; omega⟩
  case round =>
    obtain ⟨l, h, hlh, hh, rfl, rfl, h1, h2⟩ := hrel
    have H1 : Hid (∀ i z, i < l → zs[i]? = some z → z < x) := h1
    have H2 : Hid (∀ i z, h ≤ i → zs[i]? = some z → x ≤ z) := h2
    clear h1 h2
    by_cases hlt : l < h
    · obtain ⟨z, hz⟩ : ∃ z, zs[l + (h - l) / 2]? = some z := ⟨_, List.getElem?_eq_getElem (by omega)⟩
      have hc := hr.cell hz
      have HZ : Hid (zs[l + (h - l) / 2]? = some z) := hz
      clear hz
      by_cases hzx : z < x
      · go_wp2
        go_round
        case rel =>
          refine ⟨l + (h - l) / 2 + 1, h, by omega, hh, by go_num, rfl, fun i y hi hy => ?_, H2.out⟩
          have := pw_get hs (j := l + (h - l) / 2) (by omega) hy HZ.out
          omega
        case measure => simp [intOf]; omega
      · go_wp2
        go_round
        case rel =>
          refine ⟨l, l + (h - l) / 2, by omega, by omega, rfl, by go_num, H1.out, fun i y hi hy => ?_⟩
          have := pw_get hs (i := l + (h - l) / 2) (by omega) HZ.out hy
          omega
        case measure => simp [intOf]; omega
    · have hhl : h = l := by omega
      subst hhl
      have hiff := has_iff hs x h H1.out H2.out
      by_cases hlen : h < zs.length
      · obtain ⟨z, hz⟩ : ∃ z, zs[h]? = some z := ⟨_, List.getElem?_eq_getElem hlen⟩
        have hc := hr.cell hz
        rw [hz] at hiff
        have HI : Hid (hasB zs x = (z == x)) := hasB_eq (by rw [hiff]; simp)
        clear hz hiff hr
        go_wp2
        go_ret
        exact ⟨by rw [HI.out]; rfl, rfl⟩
      · rw [List.getElem?_eq_none (by omega)] at hiff
        have HI : Hid (hasB zs x = false) := hasB_eq (by rw [hiff]; simp)
        clear hiff hr
        go_wp2
        go_ret
        exact ⟨by rw [HI.out]; rfl, rfl⟩

end Go.Proofs.Qxb6605323a
