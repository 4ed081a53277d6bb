import Derived.Test.Qxb6600542aWalkD
namespace Go.Proofs.Qxb6600542a
open Go.RowKit
set_option linter.unusedVariables false

theorem bytes24_ok (par lab : ByteArray) (port oth : Int) (w : World) (h : par.size + lab.size ≤ 1048576) :
    Calls Try.prog 24 #[.string par, .string lab, .int .i64 port, .int .i64 oth] w fun e w' => e = .returned (.bool true) ∧ w' = w := by
  have k1 : decide ((1048576 : Int) < par.size) = false := by simp; omega
  have k2 : decide ((1048576 : Int) < lab.size) = false := by simp; omega
  have k3 : decide ((1048576 : Int) < (par.size : Int) + lab.size) = false := by simp; omega
  go_enter Try.func24, Try.ntmps24
  go_wp2
  go_ret
  exact ⟨rfl, rfl⟩

theorem bytes24_over (par lab : ByteArray) (port oth : Int) (w : World) (h : 1048576 < par.size + lab.size) :
    Calls Try.prog 24 #[.string par, .string lab, .int .i64 port, .int .i64 oth] w fun e w' => e = .returned (.bool false) ∧ w' = w := by
  by_cases h1 : 1048576 < par.size
  · have k1 : decide ((1048576 : Int) < par.size) = true := by simp; omega
    go_enter Try.func24, Try.ntmps24
    go_wp2
    go_ret
    exact ⟨rfl, rfl⟩
  by_cases h2 : 1048576 < lab.size
  · have k1 : decide ((1048576 : Int) < par.size) = false := by simp; omega
    have k2 : decide ((1048576 : Int) < lab.size) = true := by simp; omega
    go_enter Try.func24, Try.ntmps24
    go_wp2
    go_ret
    exact ⟨rfl, rfl⟩
  · have k1 : decide ((1048576 : Int) < par.size) = false := by simp; omega
    have k2 : decide ((1048576 : Int) < lab.size) = false := by simp; omega
    have k3 : decide ((1048576 : Int) < (par.size : Int) + lab.size) = true := by simp; omega
    go_enter Try.func24, Try.ntmps24
    go_wp2
    go_ret
    exact ⟨rfl, rfl⟩

theorem law_over (par lab : ByteArray) (port oth : Int) (w : World) (h : 1048576 < par.size + lab.size) :
    Calls Try.prog 8 #[.string par, .string lab, .int .i64 port, .int .i64 oth] w fun e w' => e = .returned (.bool true) ∧ Grown w w' := by
  go_enter Try.func8, Try.ntmps8
  go_wp2_with fail
  refine (bytes24_over par lab port oth w h).mono ?_
  rintro e w' ⟨rfl, hw⟩
  obtain rfl := hw.symm
  go_wp2
  go_ret
  exact ⟨rfl, Grown.refl _⟩

theorem law_big1 (par lab : ByteArray) (port oth : Int) (w : World) (h : par.size + lab.size ≤ 1048576) (h1 : 524288 < par.size) :
    Calls Try.prog 8 #[.string par, .string lab, .int .i64 port, .int .i64 oth] w fun e w' => e = .returned (.bool true) ∧ Grown w w' := by
  have k1 : decide ((524288 : Int) < par.size) = true := by simp; omega
  go_enter Try.func8, Try.ntmps8
  go_wp2_with fail
  refine (bytes24_ok par lab port oth w h).mono ?_
  rintro e w' ⟨rfl, hw⟩
  obtain rfl := hw.symm
  go_wp2
  go_ret
  exact ⟨rfl, Grown.refl _⟩

theorem law_big2 (par lab : ByteArray) (port oth : Int) (w : World) (h : par.size + lab.size ≤ 1048576) (h1 : par.size ≤ 524288) (h2 : 524288 < lab.size) :
    Calls Try.prog 8 #[.string par, .string lab, .int .i64 port, .int .i64 oth] w fun e w' => e = .returned (.bool true) ∧ Grown w w' := by
  have k1 : decide ((524288 : Int) < par.size) = false := by simp; omega
  have k2 : decide ((524288 : Int) < lab.size) = true := by simp; omega
  go_enter Try.func8, Try.ntmps8
  go_wp2_with fail
  refine (bytes24_ok par lab port oth w h).mono ?_
  rintro e w' ⟨rfl, hw⟩
  obtain rfl := hw.symm
  go_wp2
  go_ret
  exact ⟨rfl, Grown.refl _⟩

end Go.Proofs.Qxb6600542a
