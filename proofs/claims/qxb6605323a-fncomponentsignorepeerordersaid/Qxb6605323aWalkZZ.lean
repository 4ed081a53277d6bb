import Derived.Test.Qxb6605323aWalkComp
namespace Go.Proofs.Qxb6605323a
open Go.RowKit
set_option linter.unusedVariables false

set_option maxHeartbeats 1000000 in
set_option maxRecDepth 100000 in
theorem comp21_zero (a0 a1 a2 : Option Addr) (c0 l1 c1 l2 c2 : Nat) (w : World) :
    Calls Try.prog 21 #[.agg #[.slice a0 0 c0, .slice a1 l1 c1, .slice a2 l2 c2]] w fun e w' => e = .returned (.tuple #[.int .i64 0, .slice none 0 0]) ∧ Below w.heap.size w w' := by
  obtain ⟨i0, hi0, hz0, hz1, hz2⟩ := info_parts Try.info4
  obtain ⟨i3, hi3, hy0, hy1, hy2⟩ := info_parts Try.info3
  have k1 : (w.alloc (.cells #[.slice a0 0 c0, .slice a1 l1 c1, .slice a2 l2 c2] 42)).cell? ⟨w.heap.size, 0, none⟩ = some (.slice a0 0 c0) := cell_of_row _ _ 0 _ 42 (0, 0) (heap_alloc_new w _)
  go_enter Try.func21, Try.ntmps21
  go_wp2_with (first | (at_make; refine wpList_make_full _ rfl _ _ 45 rfl w.heap.size 4 i0 (.bool false) 1 Try.underlying45 hi0 hz0 hz1 _ _ _ _ 0 rfl rfl rfl rfl (by omega) (by unfold maxLen; omega) (by simp) ?_; intro w1 hown hgrow; have k2 : w1.cell? ⟨w.heap.size, 0, none⟩ = some (.slice a0 0 c0) := (World.cell?_of_block (hgrow.block w.heap.size (by simp) (by simp))).trans k1) | (at_make; refine wpList_make_own _ rfl _ _ 23 rfl w.heap.size 3 i3 (.int .i64 0) 1 Try.underlying23 hi3 hy0 hy1 _ _ _ 0 rfl rfl rfl (by omega) (by unfold maxLen; omega) (by have := hgrow.size; simp at this; omega) ?_; intro w2 hown2 hgrow2; have k3 : w2.cell? ⟨w.heap.size, 0, none⟩ = some (.slice a0 0 c0) := (World.cell?_of_block (hgrow2.block w.heap.size (by have := hgrow.size; simp at this; simp; omega) (by simp))).trans k2))
  refine wp_loop_rounds 1 ?_
  rw [rounds_succ]
  go_wp2
  go_ret2
  exact ⟨rfl, (((Below.refl w.heap.size w).alloc (Nat.le_refl _) _).grown hgrow (by simp) (by simp)).grown hgrow2 (by have := hgrow.size; simp at this; omega) (by simp)⟩

set_option maxHeartbeats 1000000 in
theorem zz12_zero (a0 a1 a2 : Option Addr) (c0 l1 c1 l2 c2 : Nat) (w : World) :
    Calls Try.prog 12 #[.slice a0 0 c0, .slice a1 l1 c1, .slice a2 l2 c2] w fun e w' => e = .returned (.tuple #[.int .i64 0, .slice none 0 0]) ∧ Below w.heap.size w w' := by
  go_enter Try.func12, Try.ntmps12
  go_wp2_with fail
  refine (comp21_zero a0 a1 a2 c0 l1 c1 l2 c2 _).mono ?_
  rintro e w' ⟨rfl, hb⟩
  go_wp2
  go_ret2
  exact ⟨rfl, hb⟩

/-- What 'components' answers. -/
def CompAns (w : World) (n : Nat) (ids : List Int) (rt : Nat → Nat) (e : Ending) (w' : World) : Prop :=
  ∃ (g L b : Nat) (ls : List Int), e = .returned (.tuple #[.int .i64 (rootsTo rt n).length, .slice (some ⟨g, 0, none⟩) L L]) ∧ w.heap.size ≤ g ∧
        bestTo n rt (fun v => ids.getD v 0) n = some b ∧ IR w' g 2 L ls ∧ ls.length = L ∧ ls.Perm ((cls n rt b).map fun v => ids.getD v 0) ∧ ls.Pairwise (· ≤ ·) ∧ Below w.heap.size w w'

set_option maxHeartbeats 1000000 in
theorem zz12 (n b0 o0 b1 o1 : Nat) (a2 : Option Addr) (ids S N : List Int) (cap0 cap1 cap2 : Nat) (w : World) (hn1 : 1 ≤ n) (hn : n ≤ 131072) (hids : ids.length = n) (hS : S.length ≤ 131072) (hN : N.length ≤ 131072) (hcap2 : N.length ≤ cap2)
    (hwf : WF n S N) (hsy : Symm n S N) (rt : Nat → Nat) (hrt : IsRt n (adj S N) rt)
    (hc0 : Cells w (some ⟨b0, o0, none⟩) ids) (hc1 : Cells w (some ⟨b1, o1, none⟩) S) (hc2 : Cells w a2 N) :
    Calls Try.prog 12 #[.slice (some ⟨b0, o0, none⟩) n cap0, .slice (some ⟨b1, o1, none⟩) S.length cap1, .slice a2 N.length cap2] w (CompAns w n ids rt) := by
  go_enter Try.func12, Try.ntmps12
  go_wp2_with fail
  refine (comp21 n b0 o0 b1 o1 a2 ids S N cap0 cap1 cap2 _ hn1 hn hids hS hN hcap2 hwf hsy rt hrt hc0 hc1 hc2).mono ?_
  rintro e w' ⟨g, L, b, ls, rfl, h1, h2, h3, h4, h5, h6, h7⟩
  have HH : Hid (bestTo n rt (fun v => ids.getD v 0) n = some b ∧ IR w' g 2 L ls ∧ ls.length = L ∧ ls.Perm ((cls n rt b).map fun v => ids.getD v 0) ∧ ls.Pairwise (· ≤ ·)) := ⟨h2, h3, h4, h5, h6⟩
  clear h2 h3 h4 h5 h6
  go_wp2
  go_ret2
  exact ⟨g, L, b, ls, rfl, h1, HH.out.1, HH.out.2.1, HH.out.2.2.1, HH.out.2.2.2.1, HH.out.2.2.2.2, h7⟩

end Go.Proofs.Qxb6605323a
