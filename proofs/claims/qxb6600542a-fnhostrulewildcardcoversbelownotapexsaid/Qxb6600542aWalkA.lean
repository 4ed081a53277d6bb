import Derived.Test.Qxb6600542aChecked
import Derived.WalkKit
import Derived.WalkSpells
import Derived.WalkLawsBesides
import Derived.Deep.QuietTactic
import Derived.BigQuiet
import Derived.RegionTactic
import Derived.Outline
namespace Go.Proofs.Qxb6600542a
open Go.RowKit
set_option linter.unusedVariables false

def Pre (s p : ByteArray) : Bool := decide (p.size ≤ s.size) && ((s.extract 0 p.size).toList == p.toList)
def Suf (s p : ByteArray) : Bool := decide (p.size ≤ s.size) && ((s.extract (s.size - p.size) s.size).toList == p.toList)

theorem pre56_no (s p : ByteArray) (w : World) (hs : s.size ≤ 1048580) (hp : p.size ≤ 1048580) (h : s.size < p.size) :
    Calls Try.prog 56 #[.string s, .string p] w fun e w' => e = .returned (.bool false) ∧ w' = w := by
  have h1 : decide ((p.size : Int) ≤ (s.size : Int)) = false := by simp; omega
  have h2 : decide (p.size ≤ s.size) = false := by simp; omega
  go_enter Try.func56, Try.ntmps56
  go_wp2
  go_ret
  exact ⟨rfl, rfl⟩

theorem pre56 (s p : ByteArray) (w : World) (hs : s.size ≤ 1048580) (hp : p.size ≤ 1048580) (h : p.size ≤ s.size) :
    Calls Try.prog 56 #[.string s, .string p] w fun e w' => e = .returned (.bool ((s.extract 0 p.size).toList == p.toList)) ∧ w' = w := by
  have h1 : decide ((p.size : Int) ≤ (s.size : Int)) = true := by simp; omega
  have h2 : decide (p.size ≤ s.size) = true := by simp; omega
  go_enter Try.func56, Try.ntmps56
  go_wp2
  go_ret
  exact ⟨rfl, rfl⟩

theorem has56 (s p : ByteArray) (w : World) (hs : s.size ≤ 1048580) (hp : p.size ≤ 1048580) :
    Calls Try.prog 56 #[.string s, .string p] w fun e w' => e = .returned (.bool (Pre s p)) ∧ w' = w := by
  by_cases h : p.size ≤ s.size
  · refine (pre56 s p w hs hp h).mono ?_
    rintro e w' ⟨rfl, rfl⟩
    exact ⟨by unfold Pre; simp [h], rfl⟩
  · refine (pre56_no s p w hs hp (by omega)).mono ?_
    rintro e w' ⟨rfl, rfl⟩
    exact ⟨by unfold Pre; simp [h], rfl⟩

theorem cut49_yes (s p : ByteArray) (w : World) (hs : s.size ≤ 1048580) (hp : p.size ≤ 1048580) (h : p.size ≤ s.size) (hb : Pre s p = true) :
    Calls Try.prog 49 #[.string s, .string p] w fun e w' => e = .returned (.tuple #[.string (s.extract p.size s.size), .bool true]) ∧ w' = w := by
  have h1 : decide ((p.size : Int) ≤ (s.size : Int)) = true := by simp; omega
  have h2 : decide (p.size ≤ s.size) = true := by simp; omega
  go_enter Try.func49, Try.ntmps49
  go_wp2_with fail
  refine (has56 s p w hs hp).mono ?_
  rintro e w' ⟨rfl, rfl⟩
  rw [hb]
  go_wp2
  go_ret2
  exact ⟨rfl, rfl⟩

theorem cut49_no (s p : ByteArray) (w : World) (hs : s.size ≤ 1048580) (hp : p.size ≤ 1048580) (hb : Pre s p = false) :
    Calls Try.prog 49 #[.string s, .string p] w fun e w' => e = .returned (.tuple #[.string s, .bool false]) ∧ w' = w := by
  go_enter Try.func49, Try.ntmps49
  go_wp2_with fail
  refine (has56 s p w hs hp).mono ?_
  rintro e w' ⟨rfl, rfl⟩
  rw [hb]
  go_wp2
  go_ret2
  exact ⟨rfl, rfl⟩

theorem cut42_yes (s p : ByteArray) (w : World) (hs : s.size ≤ 1048580) (hp : p.size ≤ 1048580) (h : p.size ≤ s.size) (hb : Pre s p = true) :
    Calls Try.prog 42 #[.string s, .string p] w fun e w' => e = .returned (.tuple #[.string (s.extract p.size s.size), .bool true]) ∧ w' = w := by
  go_enter Try.func42, Try.ntmps42
  go_wp2_with fail
  refine (cut49_yes s p w hs hp h hb).mono ?_
  rintro e w' ⟨rfl, rfl⟩
  go_wp2
  go_ret2
  exact ⟨rfl, rfl⟩

theorem cut42_no (s p : ByteArray) (w : World) (hs : s.size ≤ 1048580) (hp : p.size ≤ 1048580) (hb : Pre s p = false) :
    Calls Try.prog 42 #[.string s, .string p] w fun e w' => e = .returned (.tuple #[.string s, .bool false]) ∧ w' = w := by
  go_enter Try.func42, Try.ntmps42
  go_wp2_with fail
  refine (cut49_no s p w hs hp hb).mono ?_
  rintro e w' ⟨rfl, rfl⟩
  go_wp2
  go_ret2
  exact ⟨rfl, rfl⟩

theorem suf50_no (s p : ByteArray) (w : World) (hs : s.size ≤ 1048580) (hp : p.size ≤ 1048580) (h : s.size < p.size) :
    Calls Try.prog 50 #[.string s, .string p] w fun e w' => e = .returned (.bool false) ∧ w' = w := by
  have h1 : decide ((p.size : Int) ≤ (s.size : Int)) = false := by simp; omega
  have h2 : decide (p.size ≤ s.size) = false := by simp; omega
  go_enter Try.func50, Try.ntmps50
  go_wp2
  go_ret
  exact ⟨rfl, rfl⟩

theorem suf50 (s p : ByteArray) (w : World) (hs : s.size ≤ 1048580) (hp : p.size ≤ 1048580) (h : p.size ≤ s.size) :
    Calls Try.prog 50 #[.string s, .string p] w fun e w' => e = .returned (.bool ((s.extract (s.size - p.size) s.size).toList == p.toList)) ∧ w' = w := by
  have h1 : decide ((p.size : Int) ≤ (s.size : Int)) = true := by simp; omega
  have h2 : decide (p.size ≤ s.size) = true := by simp; omega
  have h3 : IntKind.i64.wrap ((s.size : Int) - (p.size : Int)) = ((s.size - p.size : Nat) : Int) := by rw [IntKind.wrap_i64] <;> omega
  have h4 : decide (((s.size - p.size : Nat) : Int) ≤ (s.size : Int)) = true := by simp
  have h5 : decide ((s.size - p.size : Nat) ≤ s.size) = true := by simp
  go_enter Try.func50, Try.ntmps50
  go_wp2
  go_ret
  exact ⟨rfl, rfl⟩

theorem has50 (s p : ByteArray) (w : World) (hs : s.size ≤ 1048580) (hp : p.size ≤ 1048580) :
    Calls Try.prog 50 #[.string s, .string p] w fun e w' => e = .returned (.bool (Suf s p)) ∧ w' = w := by
  by_cases h : p.size ≤ s.size
  · refine (suf50 s p w hs hp h).mono ?_
    rintro e w' ⟨rfl, rfl⟩
    exact ⟨by unfold Suf; simp [h], rfl⟩
  · refine (suf50_no s p w hs hp (by omega)).mono ?_
    rintro e w' ⟨rfl, rfl⟩
    exact ⟨by unfold Suf; simp [h], rfl⟩

theorem has43 (s p : ByteArray) (w : World) (hs : s.size ≤ 1048580) (hp : p.size ≤ 1048580) :
    Calls Try.prog 43 #[.string s, .string p] w fun e w' => e = .returned (.bool (Suf s p)) ∧ w' = w := by
  go_enter Try.func43, Try.ntmps43
  go_wp2_with fail
  refine (has50 s p w hs hp).mono ?_
  rintro e w' ⟨rfl, rfl⟩
  go_wp2
  go_ret
  exact ⟨rfl, rfl⟩

end Go.Proofs.Qxb6600542a
