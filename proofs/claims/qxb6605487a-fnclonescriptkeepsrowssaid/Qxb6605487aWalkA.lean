import Derived.Test.Qxb6605487aChecked
import Derived.Test.Qxb6605487aKit
import Derived.WalkSpells
import Derived.WalkLawsBesides
import Derived.Deep.QuietTactic
import Derived.BigQuiet
import Derived.RegionTactic
import Derived.Outline
import Derived.Handy
namespace Go.Proofs.Qxb6605487a
open Go.RowKit
set_option linter.unusedVariables false

theorem Try.info5 : (Try.prog.info? 5).map (fun i => (i.zero, i.size, i.bytes)) = some (some (.int .u8 0), 1, 1) := by kernel_rfl
theorem q22 : ∀ (w : World) (a : Option Addr) (n c n' c' : Nat), (binOp .eql 22 (.slice a n c) (.slice none n' c')).run Try.prog w = .ok (.bool a.isNone) w := fun w a n c n' c' => Lib.run_eql_slice_nil w _ _ a n c n' c' Try.underlying22

/-! ### zzCopy -/
set_option maxHeartbeats 400000 in
theorem copy7_nil (w : World) : Calls Try.prog 7 #[.slice none 0 0] w fun e w' => e = .returned (.slice none 0 0) ∧ w' = w := by
  have hq := q22
  go_enter Try.func7, Try.ntmps7
  go_wp2
  go_ret
  exact ⟨rfl, rfl⟩

set_option maxHeartbeats 400000 in
theorem copy7_some (x : Addr) (cap : Nat) (zs : List Int) (w : World) (hm : zs.length ≤ 1048576) (hc : Cells w (some x) zs) :
    Calls Try.prog 7 #[.slice (some x) zs.length cap] w fun e w' => e = .returned (.slice (some ⟨w.heap.size, 0, none⟩) zs.length zs.length) ∧ UR w' w.heap.size 5 zs.length zs ∧ Below w.heap.size w w' := by
  obtain ⟨i0, hi, hz0, hz1, hz2⟩ := info_parts Try.info5
  have hq := q22
  go_enter Try.func7, Try.ntmps7
  go_wp2_with (at_make; refine wpList_make_full _ rfl _ _ 22 rfl w.heap.size 5 i0 (.int .u8 0) 1 Try.underlying22 hi hz0 hz1 _ _ _ _ zs.length rfl rfl rfl rfl (by rw [hz2]; omega) (by unfold maxLen; omega) (Nat.le_refl _) ?_; intro w1 hown hgrow)
  have hrow : UR w1 w.heap.size 5 zs.length (List.replicate zs.length 0) := madeU hown
  have hb1 : Below w.heap.size w w1 := (Below.refl _ _).grown hgrow (Nat.le_refl _) (by simp)
  clear hown hgrow
  go_loopw [4] (fun i wr => ∃ k : Nat, k ≤ zs.length ∧ i = .int .i64 k ∧ UR wr w.heap.size 5 zs.length (zs.take k ++ List.replicate (zs.length - k) 0) ∧ Below w.heap.size w wr) (fun i _ => zs.length - (intOf i).toNat)
  case atStart => exact ⟨0, Nat.zero_le _, rfl, by simpa using hrow, hb1⟩
  case round =>
    obtain ⟨k, hk, rfl, hr, hb⟩ := hrel
    by_cases hlt : k < zs.length
    · obtain ⟨z, hz⟩ : ∃ z, zs[k]? = some z := ⟨_, List.getElem?_eq_getElem hlt⟩
      obtain ⟨b, o, hx, hx1⟩ := hc k z hz
      cases hx
      have hcx : wr.cell? ⟨b, o + k, none⟩ = some (.int .u8 z) := (hb.cell (World.block_lt_of_cell? w _ hx1)).trans hx1
      have hf := hr.frozen k
      have hc0 : wr.cell? ⟨w.heap.size, k, none⟩ = some (.int .u8 0) := hr.cell (fill_at zs k 0 hlt)
      have hs := hr.set k z
      rw [fill_step zs k z 0 hz] at hs
      have hb' := hb.setCell (p := ⟨w.heap.size, k, none⟩) (Nat.le_refl _) (.int .u8 z)
      clear hx1 hr hb
      go_wp2
      go_roundw
      case rel => exact ⟨k + 1, by omega, by go_num, hs, hb'⟩
      case measure => simp [intOf]; omega
    · go_wp2
      go_ret
      have hk' : k = zs.length := by omega
      subst hk'
      exact ⟨rfl, by simpa using hr, hb⟩

/-! ### zzBytes_FnCloneExact -/
set_option maxHeartbeats 400000 in
theorem bytes6_yes (a0 a2 : Option Addr) (l0 c0 l2 c2 : Nat) (x : Int) (w : World) (h : l0 + l2 ≤ 1048576) :
    Calls Try.prog 6 #[.slice a0 l0 c0, .int .i64 x, .slice a2 l2 c2] w fun e w' => e = .returned (.bool true) ∧ w' = w := by
  go_enter Try.func6, Try.ntmps6
  go_wp2
  go_ret
  exact ⟨rfl, rfl⟩

set_option maxHeartbeats 400000 in
theorem bytes6_no (a0 a2 : Option Addr) (l0 c0 l2 c2 : Nat) (x : Int) (w : World) (h : 1048576 < l0 + l2) :
    Calls Try.prog 6 #[.slice a0 l0 c0, .int .i64 x, .slice a2 l2 c2] w fun e w' => e = .returned (.bool false) ∧ w' = w := by
  go_enter Try.func6, Try.ntmps6
  go_wp2
  all_goals
    go_ret
    exact ⟨rfl, rfl⟩

/-! ### zzEq: the same bytes -/
set_option maxHeartbeats 400000 in
theorem eq9 (a1 a2 : Option Addr) (c1 c2 n : Nat) (zs : List Int) (w : World) (hn : zs.length = n) (hm : n ≤ 1048576) (h1 : Cells w a1 zs) (h2 : Cells w a2 zs) :
    Calls Try.prog 9 #[.slice a1 n c1, .slice a2 n c2] w fun e w' => e = .returned (.bool true) ∧ Below w.heap.size w w' := by
  have HN : Hid (zs.length = n) := hn
  have x1 : ((n : Int) != (n : Int)) = false := by simp
  clear hn
  go_enter Try.func9, Try.ntmps9
  go_wp2
  go_loopw [5] (fun i wr => ∃ k : Nat, k ≤ n ∧ i = .int .i64 k ∧ Below w.heap.size w wr) (fun i _ => n - (intOf i).toNat)
  case atStart => exact ⟨0, Nat.zero_le _, rfl, Below.refl _ _⟩
  case round =>
    obtain ⟨k, hk, rfl, hb⟩ := hrel
    by_cases hlt : k < n
    · obtain ⟨z, hz⟩ : ∃ z, zs[k]? = some z := ⟨_, List.getElem?_eq_getElem (by rw [HN.out]; exact hlt)⟩
      obtain ⟨b, o, hx, hx1⟩ := (h1.below hb) k z hz
      obtain ⟨b', o', hy, hy1⟩ := (h2.below hb) k z hz
      have x2 : (z != z) = false := by simp
      have x3 : (k : Int) < (n : Int) := by omega
      clear hz h1 h2
      subst hx
      subst hy
      go_wp2_with fail
      go_quiet (fail)
      go_wp2
      go_roundw
      case rel => exact ⟨k + 1, by omega, by go_num, below_drewN hb _⟩
      case measure => simp [intOf]; omega
    · go_wp2
      go_ret
      exact ⟨rfl, hb⟩

/-- zzCopy of whatever argument. -/
theorem copy7 (a : Option Addr) (cap n : Nat) (zs : List Int) (w : World) (hn : zs.length = n) (hm : n ≤ 1048576) (h : Arg w a cap zs) :
    Calls Try.prog 7 #[.slice a n cap] w fun e w' => Below w.heap.size w w' ∧ ((a = none ∧ e = .returned (.slice none 0 0)) ∨ (e = .returned (.slice (some ⟨w.heap.size, 0, none⟩) n n) ∧ UR w' w.heap.size 5 n zs)) := by
  subst hn
  cases a with
  | none =>
    obtain ⟨rfl, rfl⟩ := h.nil rfl
    refine (copy7_nil w).mono ?_
    rintro e w' ⟨rfl, rfl⟩
    exact ⟨Below.refl _ _, .inl ⟨rfl, rfl⟩⟩
  | some x =>
    refine (copy7_some x cap zs w hm h.cells).mono ?_
    rintro e w' ⟨rfl, hr, hb⟩
    exact ⟨hb, .inr ⟨rfl, hr⟩⟩

end Go.Proofs.Qxb6605487a
