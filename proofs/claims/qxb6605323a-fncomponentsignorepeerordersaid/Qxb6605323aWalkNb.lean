import Derived.Test.Qxb6605323aWalkA
import Derived.Test.Qxb6605323aPlainGraph
import Derived.Handy
namespace Go.Proofs.Qxb6605323a
open Go.RowKit
set_option linter.unusedVariables false

theorem cells_cut {w : World} {a2 : Option Addr} {N : List Int} {cap2 t1 t2 : Nat} (h : Cells w a2 N) (hc : N.length ≤ cap2) : Cells w (if cap2 = t1 then a2 else Option.map (fun x => x.add t1) a2) (seg N t1 t2) := by
  intro i z hz
  obtain ⟨t, h1, h2, h3⟩ : ∃ t, t = t1 + i ∧ t < t2 ∧ N[t]? = some z := by
    unfold seg at hz
    rw [List.getElem?_take] at hz
    split at hz
    · rw [List.getElem?_drop] at hz
      exact ⟨_, rfl, by omega, hz⟩
    · cases hz
  obtain ⟨b, o, ha, hcell⟩ := h t z h3
  have hl := (List.getElem?_eq_some_iff.1 h3).1
  rw [if_neg (by omega), ha]
  refine ⟨b, o + t1, by simp [Addr.add_lit], ?_⟩
  rw [show o + t1 + i = o + t by omega]
  exact hcell

set_option maxHeartbeats 1000000 in
set_option maxRecDepth 100000 in
theorem nb23 (v0 : Value) (hv0 : ∃ a l c, v0 = .slice a l c) (n b1 o1 i : Nat) (a2 : Option Addr) (S N : List Int) (cap1 cap2 : Nat) (w : World) (hS : S.length ≤ 131072) (hN : N.length ≤ 131072) (hcap : N.length ≤ cap2) (hwf : WF n S N) (hi : i < n)
    (hc1 : Cells w (some ⟨b1, o1, none⟩) S) (hc2 : Cells w a2 N) :
    Calls Try.prog 23 #[.agg #[v0, .slice (some ⟨b1, o1, none⟩) S.length cap1, .slice a2 N.length cap2], .int .i64 i] w fun e w' =>
      ∃ a' c', e = .returned (.slice a' (st S (i + 1) - st S i) c') ∧ (∀ W : World, Cells W a2 N → Cells W a' (seg N (st S i) (st S (i + 1)))) ∧ Below w.heap.size w w' := by
  obtain ⟨a0, l0, c0, rfl⟩ := hv0
  have hlen := hwf.len
  have hbA : Below w.heap.size w (w.alloc (.cells #[.slice a0 l0 c0, .slice (some ⟨b1, o1, none⟩) S.length cap1, .slice a2 N.length cap2] 42)) := (Below.refl _ _).alloc (Nat.le_refl _) _
  have hc1' := hc1.below hbA
  have hc2' := hc2.below hbA
  obtain ⟨z1, hz1⟩ : ∃ z, S[i]? = some z := ⟨_, List.getElem?_eq_getElem (by omega)⟩
  obtain ⟨z2, hz2⟩ : ∃ z, S[i + 1]? = some z := ⟨_, List.getElem?_eq_getElem (by omega)⟩
  have g1 := hc1'.at hz1
  have g2 := hc1'.at hz2
  have f1 := hwf.st_eq (show i ≤ n by omega)
  have f2 := hwf.st_eq (show i + 1 ≤ n by omega)
  rw [getD_of hz1] at f1
  rw [getD_of hz2] at f2
  have f3 := hwf.st_le (show i ≤ i + 1 by omega) (by omega)
  have f4 := hwf.st_len (show i + 1 ≤ n by omega)
  generalize st S i = t1 at *
  generalize st S (i + 1) = t2 at *
  subst f1
  subst f2
  have c1 : (i : Int) < (S.length : Int) := by omega
  have c2 : (i : Int) + 1 < (S.length : Int) := by omega
  have c3 : (0 : Int) ≤ (i : Int) + 1 := by omega
  have c4 : ((i : Int) + 1).toNat = i + 1 := by omega
  have c5 : IntKind.i64.wrap ((i : Int) + 1) = (i : Int) + 1 := wrapI (by omega)
  have c6 : (t1 : Int) ≤ (t2 : Int) := by omega
  have c7 : (t2 : Int) ≤ (cap2 : Int) := by omega
  have hcc : ∀ W : World, Cells W a2 N → Cells W (if cap2 = t1 then a2 else Option.map (fun x => x.add t1) a2) (seg N t1 t2) := fun W h => cells_cut h hcap
  obtain ⟨a', ha'⟩ : ∃ a', (if cap2 = t1 then a2 else Option.map (fun x => x.add t1) a2) = a' := ⟨_, rfl⟩
  rw [ha'] at hcc
  have HCC : Hid (∀ W : World, Cells W a2 N → Cells W a' (seg N t1 t2)) := hcc
  clear hz1 hz2 hwf hc1 hc1' hc2 hc2' hcc
  go_enter Try.func23, Try.ntmps23
  go_wp2
  go_quiet (fail)
  go_wp2
  go_ret
  exact ⟨a', _, rfl, HCC.out, below_drewN hbA _⟩

end Go.Proofs.Qxb6605323a
