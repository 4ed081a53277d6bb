import Derived.Test.Qxb6600542aWalkA
namespace Go.Proofs.Qxb6600542a
open Go.RowKit
set_option linter.unusedVariables false

theorem clo41_wild (entry host rest : ByteArray) (B : Nat) (w : World) (he : entry.size ≤ 1048580) (hh : host.size ≤ 1048580) (hr2 : rest.size ≤ 1048570) (hsz : 2 ≤ entry.size)
    (hp : Pre entry ⟨#[42, 46]⟩ = true) (hr : entry.extract 2 entry.size = rest) (hc : w.cell? ⟨B, 0, none⟩ = some (.string host)) :
    Calls Try.prog 41 #[.string entry, .pointer (some ⟨B, 0, none⟩)] w fun e w' => e = .returned (.bool (Suf host (⟨#[46]⟩ ++ rest))) ∧ w' = w := by
  go_enter Try.func41, Try.ntmps41
  go_wp2_with fail
  refine (cut42_yes entry ⟨#[42, 46]⟩ w he (by decide) hsz hp).mono ?_
  rintro e w' ⟨rfl, hw⟩
  obtain rfl := hw.symm
  have hr' : entry.extract (ByteArray.mk #[42, 46]).size entry.size = rest := hr
  rw [hr']
  go_wp2_with fail
  have hsz1 : (ByteArray.mk #[46] ++ rest).size ≤ 1048580 := by
    rw [ByteArray.size_append]
    have h1 : (ByteArray.mk #[46]).size = 1 := rfl
    omega
  refine (has43 host _ w hh hsz1).mono ?_
  generalize hz : ByteArray.mk #[46] ++ rest = z at *
  rintro e w'' ⟨rfl, hw⟩
  obtain rfl := hw.symm
  go_wp2
  go_ret
  obtain rfl := hz
  exact ⟨rfl, rfl⟩

theorem clo41_plain (entry host : ByteArray) (B : Nat) (w : World) (he : entry.size ≤ 1048580) (hh : host.size ≤ 1048580)
    (hp : Pre entry ⟨#[42, 46]⟩ = false) (hc : w.cell? ⟨B, 0, none⟩ = some (.string host)) :
    Calls Try.prog 41 #[.string entry, .pointer (some ⟨B, 0, none⟩)] w fun e w' => e = .returned (.bool (host.toList == entry.toList)) ∧ w' = w := by
  go_enter Try.func41, Try.ntmps41
  go_wp2_with fail
  refine (cut42_no entry ⟨#[42, 46]⟩ w he (by decide) hp).mono ?_
  rintro e w' ⟨rfl, rfl⟩
  go_wp2
  go_ret
  exact ⟨rfl, rfl⟩

theorem idx48 (b : Bool) (entry : ByteArray) (g : Nat) (p : Value) (w : World) (hc : w.cell? ⟨g, 0, none⟩ = some (.string entry))
    (hcl : Calls Try.prog 41 #[.string entry, p] w fun e w' => e = .returned (.bool b) ∧ w' = w) :
    Calls Try.prog 48 #[.slice (some ⟨g, 0, none⟩) 1 1, .func (.func 41) #[] #[p]] w fun e w' => e = .returned (.int .i64 (if b then 0 else -1)) ∧ w' = w := by
  go_enter Try.func48, Try.ntmps48
  go_wp2_with fail
  go_loopw [8] (fun i wr => ∃ k : Nat, k ≤ 1 ∧ i = .int .i64 k ∧ wr = w ∧ (k = 1 → b = false)) (fun i _ => 1 - (intOf i).toNat)
  case atStart => exact ⟨0, by omega, rfl, rfl, fun h => by omega⟩
  case round =>
    obtain ⟨k, hk, rfl, hw, hb⟩ := hrel
    obtain rfl := hw.symm
    obtain rfl | rfl : k = 0 ∨ k = 1 := by omega
    · clear hb
      go_wp2_with fail
      refine hcl.mono ?_
      rintro e w' ⟨rfl, hw⟩
      obtain rfl := hw.symm
      cases b
      · go_wp2
        go_roundw
        case rel => exact ⟨1, by omega, rfl, by trivial, fun _ => by trivial⟩
        case measure => simp [intOf]
      · go_wp2
        go_ret
        exact ⟨rfl, rfl⟩
    · obtain rfl := hb rfl
      go_wp2
      go_ret
      exact ⟨rfl, rfl⟩

theorem has40 (b : Bool) (entry : ByteArray) (g : Nat) (p : Value) (w : World) (hc : w.cell? ⟨g, 0, none⟩ = some (.string entry))
    (hcl : Calls Try.prog 41 #[.string entry, p] w fun e w' => e = .returned (.bool b) ∧ w' = w) :
    Calls Try.prog 40 #[.slice (some ⟨g, 0, none⟩) 1 1, .func (.func 41) #[] #[p]] w fun e w' => e = .returned (.bool b) ∧ w' = w := by
  go_enter Try.func40, Try.ntmps40
  go_wp2_with fail
  refine (idx48 b entry g p w hc hcl).mono ?_
  rintro e w' ⟨rfl, hw⟩
  obtain rfl := hw.symm
  cases b
  · go_wp2
    go_ret
    exact ⟨rfl, rfl⟩
  · go_wp2
    go_ret
    exact ⟨rfl, rfl⟩

theorem idx47 (x y : Int) (g : Nat) (w : World) (hc : w.cell? ⟨g, 0, none⟩ = some (.int .i64 x)) :
    Calls Try.prog 47 #[.slice (some ⟨g, 0, none⟩) 1 1, .int .i64 y] w fun e w' => e = .returned (.int .i64 (if y = x then 0 else -1)) ∧ w' = w := by
  go_enter Try.func47, Try.ntmps47
  go_wp2_with fail
  go_loopw [8] (fun i wr => ∃ k : Nat, k ≤ 1 ∧ i = .int .i64 k ∧ wr = w ∧ (k = 1 → y ≠ x)) (fun i _ => 1 - (intOf i).toNat)
  case atStart => exact ⟨0, by omega, rfl, rfl, fun h => by omega⟩
  case round =>
    obtain ⟨k, hk, rfl, hw, hb⟩ := hrel
    obtain rfl := hw.symm
    obtain rfl | rfl : k = 0 ∨ k = 1 := by omega
    · clear hb
      by_cases h : y = x
      · have h1 : (y == x) = true := by simp [h]
        go_wp2
        go_ret
        exact ⟨by simp, rfl⟩
      · have h1 : (y == x) = false := by simp [h]
        go_wp2
        go_roundw
        case rel => exact ⟨1, by omega, rfl, by trivial, fun _ => h⟩
        case measure => simp [intOf]
    · have h := hb rfl
      go_wp2
      go_ret
      exact ⟨by simp, rfl⟩

theorem has39 (x y : Int) (g : Nat) (w : World) (hc : w.cell? ⟨g, 0, none⟩ = some (.int .i64 x)) :
    Calls Try.prog 39 #[.slice (some ⟨g, 0, none⟩) 1 1, .int .i64 y] w fun e w' => e = .returned (.bool (decide (y = x))) ∧ w' = w := by
  go_enter Try.func39, Try.ntmps39
  go_wp2_with fail
  refine (idx47 x y g w hc).mono ?_
  rintro e w' ⟨rfl, hw⟩
  obtain rfl := hw.symm
  by_cases h : y = x
  · rw [if_pos h]
    go_wp2
    go_ret
    exact ⟨by simp [h], rfl⟩
  · rw [if_neg h]
    go_wp2
    go_ret
    exact ⟨by simp [h], rfl⟩

end Go.Proofs.Qxb6600542a
