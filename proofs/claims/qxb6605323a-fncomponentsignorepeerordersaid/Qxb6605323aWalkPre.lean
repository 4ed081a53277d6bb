import Derived.Test.Qxb6605323aWalkZZ
import Derived.Test.Qxb6605323aWalkSym
import Derived.Test.Qxb6605323aWalkC
namespace Go.Proofs.Qxb6605323a
open Go.RowKit
set_option linter.unusedVariables false

/-- A slice argument: nil, or its elements can be read. -/
structure Arg (w : World) (a : Option Addr) (cap : Nat) (zs : List Int) : Prop where
  cells : Cells w a zs
  nil : a = none → zs = [] ∧ cap = 0
  le : zs.length ≤ cap

theorem Arg.below {w w' : World} {a : Option Addr} {cap : Nat} {zs : List Int} (h : Arg w a cap zs) (hb : Below w.heap.size w w') : Arg w' a cap zs :=
  ⟨h.cells.below hb, h.nil, h.le⟩

theorem clone10 (a : Option Addr) (cap : Nat) (zs : List Int) (w : World) (hm : zs.length ≤ 1048576) (h : Arg w a cap zs) :
    Calls Try.prog 10 #[.slice a zs.length cap] w fun e w' => ∃ a', e = .returned (.slice a' zs.length zs.length) ∧ Arg w' a' zs.length zs ∧ Below w.heap.size w w' := by
  cases a with
  | none =>
    obtain ⟨rfl, rfl⟩ := h.nil rfl
    refine (clone64_nil w).mono ?_
    rintro e w' ⟨rfl, rfl⟩
    exact ⟨none, rfl, ⟨fun i z hz => by simp at hz, fun _ => ⟨rfl, rfl⟩, Nat.le_refl _⟩, Below.refl _ _⟩
  | some x =>
    refine (clone64_some x cap zs w hm h.cells).mono ?_
    rintro e w' ⟨rfl, hr, hb⟩
    exact ⟨_, rfl, ⟨hr.cells, fun h => (by cases h), Nat.le_refl _⟩, hb⟩

theorem clone11 (a : Option Addr) (cap : Nat) (zs : List Int) (w : World) (hm : zs.length ≤ 1048576) (h : Arg w a cap zs) :
    Calls Try.prog 11 #[.slice a zs.length cap] w fun e w' => ∃ a', e = .returned (.slice a' zs.length zs.length) ∧ Arg w' a' zs.length zs ∧ Below w.heap.size w w' := by
  cases a with
  | none =>
    obtain ⟨rfl, rfl⟩ := h.nil rfl
    refine (cloneInt_nil w).mono ?_
    rintro e w' ⟨rfl, rfl⟩
    exact ⟨none, rfl, ⟨fun i z hz => by simp at hz, fun _ => ⟨rfl, rfl⟩, Nat.le_refl _⟩, Below.refl _ _⟩
  | some x =>
    refine (cloneInt_some x cap zs w hm h.cells).mono ?_
    rintro e w' ⟨rfl, hr, hb⟩
    exact ⟨_, rfl, ⟨hr.cells, fun h => (by cases h), Nat.le_refl _⟩, hb⟩

theorem wf8 (n : Nat) (a1 a2 : Option Addr) (S N : List Int) (cap1 cap2 : Nat) (w : World) (hn : n ≤ 131072) (hS : S.length ≤ 131072) (hN : N.length ≤ 131072) (h1 : Arg w a1 cap1 S) (h2 : Arg w a2 cap2 N) :
    Calls Try.prog 8 #[.int .i64 n, .slice a1 S.length cap1, .slice a2 N.length cap2] w fun e w' => Says e (WF n S N) ∧ Below w.heap.size w w' := by
  by_cases h : S.length < n + 1
  · refine (wf8_short n a1 a2 S.length cap1 N.length cap2 w hn h).mono ?_
    rintro e w' ⟨⟨b, rfl, hs⟩, rfl⟩
    exact ⟨⟨b, rfl, fun hb => (hs hb).elim⟩, Below.refl _ _⟩
  · obtain ⟨b1, o1, rfl⟩ := h1.cells.ex (by omega)
    exact wf8_long n b1 o1 a2 S N cap1 cap2 w hS hN (by omega) h1.cells h2.cells

theorem sym9' (n : Nat) (a1 a2 : Option Addr) (S N : List Int) (cap1 cap2 : Nat) (w : World) (hn : 1 ≤ n) (hS : S.length ≤ 131072) (hN : N.length ≤ 131072) (hwf : WF n S N) (h1 : Arg w a1 cap1 S) (h2 : Arg w a2 cap2 N) :
    Calls Try.prog 9 #[.int .i64 n, .slice a1 S.length cap1, .slice a2 N.length cap2] w fun e w' => Says e (Symm n S N) ∧ Below w.heap.size w w' := by
  have := hwf.len
  obtain ⟨b1, o1, rfl⟩ := h1.cells.ex (by omega)
  exact sym9 n b1 o1 a2 S N cap1 cap2 w hn hS hN hwf h1.cells h2.cells

end Go.Proofs.Qxb6605323a
