import Derived.Test.Qxb6605323aWalkA
namespace Go.Proofs.Qxb6605323a
open Go.RowKit

/-! ### zzFind -/
set_option maxHeartbeats 400000 in
theorem find22 (g cap c' x : Nat) (P : List Nat) (f : Nat → Nat) (w : World) (hx : x < P.length) (hr : NR w g 3 cap P) (hd : Dec P) (hf : Roots P f) :
    Calls Try.prog 22 #[.slice (some ⟨g, 0, none⟩) P.length c', .int .i64 x] w fun e w' => e = .returned (.int .i64 (f x)) ∧ ∃ P' : List Nat, P'.length = P.length ∧ Dec P' ∧ Roots P' f ∧ NR w' g 3 cap P' ∧ w.grownBy w' (some g) := by
  generalize hn : P.length = n at *
  have HF : Hid (Dec P ∧ Roots P f ∧ P.length = n) := ⟨hd, hf, hn⟩
  clear hd hf hn
  go_enter Try.func22, Try.ntmps22
  go_wp2
  go_loopw [1] (fun i wr => ∃ (y : Nat) (P' : List Nat), y < n ∧ i = .int .i64 y ∧ Hid (f y = f x) ∧ Hid (Dec P' ∧ Roots P' f ∧ P'.length = n) ∧ NR wr g 3 cap P' ∧ w.grownBy wr (some g)) (fun i _ => (intOf i).toNat)
  case atStart => exact ⟨x, P, hx, rfl, rfl, HF, hr, World.grownBy.refl _ _⟩
  case round =>
    obtain ⟨y, P', hy, rfl, HX, HP, hr, hgr⟩ := hrel
    obtain ⟨p, hp⟩ : ∃ p, P'[y]? = some p := ⟨_, List.getElem?_eq_getElem (by have := HP.out.2.2; omega)⟩
    have hpy : p ≤ y := HP.out.1 y p hp
    have g1 := hr.cell hp
    by_cases hpe : p = y
    · have hfy : Hid (f x = y) := by
        have := (HP.out.2.1 y p hp).2 hpe
        rw [← HX.out]
        exact this
      subst hpe
      clear hp
      go_wp2
      go_ret
      refine ⟨by rw [hfy.out]; rfl, P', HP.out.2.2, HP.out.1, HP.out.2.1, hr, hgr⟩
    · obtain ⟨q, hq⟩ : ∃ q, P'[p]? = some q := ⟨_, List.getElem?_eq_getElem (by have := HP.out.2.2; omega)⟩
      have hqp : q ≤ p := HP.out.1 p q hq
      have g2 := hr.cell hq
      have hfz := hr.frozen y
      have hs := hr.set y q
      have hgr' := grown_set hgr y (.int .i64 q)
      have HP' : Hid (Dec (P'.set y q) ∧ Roots (P'.set y q) f ∧ (P'.set y q).length = n) := ⟨dec_set HP.out.1 (by omega), roots_half HP.out.1 HP.out.2.1 hp hq, by simpa using HP.out.2.2⟩
      have HX' : Hid (f q = f x) := by
        have a1 := (HP.out.2.1 y p hp).1
        have a2 := (HP.out.2.1 p q hq).1
        rw [← a2, ← a1]
        exact HX.out
      have hne : ((p : Int) != (y : Int)) = true := by simp; omega
      clear hp hq hr HP
      go_wp2
      go_roundw
      case rel => exact ⟨q, P'.set y q, by omega, rfl, HX', HP', hs, hgr'⟩
      case measure => simp [intOf]; omega

end Go.Proofs.Qxb6605323a
