import Derived.Test.Qxb6605487aWalkJ
import Derived.Lib.LazyBuf
namespace Go.Proofs.Qxb6605487a
open Go.RowKit
set_option linter.unusedVariables false

/-- A slice of slices of bytes that can be read. -/
structure RowsIn (w : World) (a : Option Addr) (len : Nat) (A : Nat → Option Addr) (C : Nat → Nat) (bs : Nat → List Int) : Prop where
  nil : a = none → len = 0
  cell : ∀ r, r < len → ∃ b o, a = some ⟨b, o, none⟩ ∧ w.cell? ⟨b, o + r, none⟩ = some (.slice (A r) (bs r).length (C r))
  arg : ∀ r, r < len → Arg w (A r) (C r) (bs r)
  le : ∀ r, r < len → (bs r).length ≤ maxLen
  big : len ≤ maxLen

theorem RowsIn.below {w w' : World} {a : Option Addr} {len : Nat} {A : Nat → Option Addr} {C : Nat → Nat} {bs : Nat → List Int} (h : RowsIn w a len A C bs) (hb : Below w.heap.size w w') : RowsIn w' a len A C bs :=
  ⟨h.nil, fun r hr => by obtain ⟨b, o, h1, h2⟩ := h.cell r hr; exact ⟨b, o, h1, (hb.cell (World.block_lt_of_cell? w _ h2)).trans h2⟩, fun r hr => (h.arg r hr).below hb, h.le, h.big⟩

/-- It returns some bool; where it is true, p holds. -/
def Says (e : Ending) (p : Prop) : Prop := ∃ b : Bool, e = .returned (.bool b) ∧ (b = true → p)

theorem says_no (p : Prop) : Says (.returned (.bool false)) p := ⟨false, rfl, fun h => by cases h⟩
theorem says_yes {p : Prop} (h : p) : Says (.returned (.bool true)) p := ⟨true, rfl, fun _ => h⟩

theorem hid_step (bs : Nat → List Int) (k n : Nat) (h : Hid (∀ r, r < k → (bs r).length ≤ 1048576)) (hn : Hid ((bs k).length = n)) (hk : n ≤ 1048576) : Hid (∀ r, r < k + 1 → (bs r).length ≤ 1048576) := by
  show ∀ r, r < k + 1 → (bs r).length ≤ 1048576
  intro r hr
  have h1 := h.out
  have h2 := hn.out
  by_cases e : r = k
  · subst e; omega
  · exact h1 r (by omega)

set_option maxRecDepth 100000 in
set_option maxHeartbeats 1000000 in
theorem bytes10 (a : Option Addr) (len cap : Nat) (x : Int) (A : Nat → Option Addr) (C : Nat → Nat) (bs : Nat → List Int) (w : World) (h : RowsIn w a len A C bs) :
    Calls Try.prog 10 #[.slice a len cap, .int .i64 x] w fun e w' => Says e (∀ r, r < len → (bs r).length ≤ 1048576) ∧ Below w.heap.size w w' := by
  have hml := h.big
  unfold maxLen at hml
  by_cases hlen : 1048576 < len
  · have q : (1048576 : Int) < (len : Int) := by omega
    go_enter Try.func10, Try.ntmps10
    go_wp2
    go_ret
    exact ⟨says_no _, Below.refl _ _⟩
  have q : decide ((1048576 : Int) < (len : Int)) = false := by simp; omega
  go_enter Try.func10, Try.ntmps10
  go_wp2_with fail
  go_loopw [5, 6] (fun t i wr => ∃ k s : Nat, k ≤ len ∧ s ≤ 1048576 ∧ t = .int .i64 s ∧ i = .int .i64 k ∧ Hid (∀ r, r < k → (bs r).length ≤ 1048576) ∧ Below w.heap.size w wr) (fun _ i _ => len - (intOf i).toNat)
  case atStart => exact ⟨0, len, Nat.zero_le _, by omega, by go_num, rfl, (fun r hr => by omega : ∀ r, r < 0 → (bs r).length ≤ 1048576), Below.refl _ _⟩
  case round =>
    obtain ⟨k, s, hk, hs, rfl, rfl, HN, hb⟩ := hrel
    by_cases hlt : k < len
    · obtain ⟨b, o, hx, hc⟩ := (h.below hb).cell k hlt
      have hm := h.le k hlt
      unfold maxLen at hm
      obtain ⟨n, hn⟩ : ∃ n, (bs k).length = n := ⟨_, rfl⟩
      rw [hn] at hc hm
      have HK : Hid ((bs k).length = n) := hn
      subst hx
      have HB : Hid (Below w.heap.size w wr) := hb
      clear hb hn
      by_cases h1 : 1048576 < n
      · have y1 : (1048576 : Int) < (n : Int) := by omega
        go_wp2
        go_ret
        exact ⟨says_no _, HB.out⟩
      · have y1 : decide ((1048576 : Int) < (n : Int)) = false := by simp; omega
        by_cases h2 : 1048576 < s + n
        · have y2 : (1048576 : Int) < (s : Int) + (n : Int) := by omega
          go_wp2
          go_ret
          exact ⟨says_no _, HB.out⟩
        · have y2 : decide ((1048576 : Int) < (s : Int) + (n : Int)) = false := by simp; omega
          go_wp2
          go_roundw
          case rel => exact ⟨k + 1, s + n, by omega, by omega, by go_num, by go_num, (hid_step bs k n HN HK (by omega)), HB.out⟩
          case measure => simp [intOf]; omega
    · go_wp2
      go_ret
      exact ⟨says_yes (fun r hr => HN.out r (by omega)), hb⟩
end Go.Proofs.Qxb6605487a
