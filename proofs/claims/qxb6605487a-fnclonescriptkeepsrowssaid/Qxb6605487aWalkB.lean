import Derived.Test.Qxb6605487aWalkA
import Derived.Laws.CopyOwn
import Derived.BigRegion
namespace Go.Proofs.Qxb6605487a
open Go.RowKit
set_option linter.unusedVariables false

/-- Nothing that was there has turned but for the blocks of S. -/
structure GrownP (S : Nat → Prop) (w w' : World) : Prop where
  os : w'.os = w.os
  tape : w'.tape = w.tape
  output : w'.output = w.output
  size : w.heap.size ≤ w'.heap.size
  block : ∀ k, k < w.heap.size → ¬ S k → w'.heap[k]? = w.heap[k]?

theorem GrownP.refl (S : Nat → Prop) (w : World) : GrownP S w w := ⟨rfl, rfl, rfl, Nat.le_refl _, fun _ _ _ => rfl⟩
theorem GrownP.trans {S : Nat → Prop} {a b c : World} (h : GrownP S a b) (k : GrownP S b c) : GrownP S a c :=
  ⟨k.os.trans h.os, k.tape.trans h.tape, k.output.trans h.output, Nat.le_trans h.size k.size, fun i hi hn => (k.block i (Nat.lt_of_lt_of_le hi h.size) hn).trans (h.block i hi hn)⟩
theorem GrownP.of_grown {S : Nat → Prop} {w w' : World} {row : Option Nat} (h : w.grownBy w' row) (hS : ∀ k, row = some k → S k) : GrownP S w w' :=
  ⟨h.os, h.tape, h.output, h.size, fun k hk hn => h.block k hk (fun e => hn (hS k e.symm))⟩
theorem GrownP.set {S : Nat → Prop} {a w : World} (h : GrownP S a w) {p : Addr} (hp : S p.block ∨ a.heap.size ≤ p.block) (v : Value) : GrownP S a (w.setCell p v) :=
  ⟨h.os, h.tape, h.output, by simpa [World.setCell] using h.size, fun k hk hn => (Below.heap_setCell w p v k (fun e => by rcases hp with hp | hp; exact hn (by rw [e]; exact hp); omega)).trans (h.block k hk hn)⟩
theorem GrownP.drew {S : Nat → Prop} {a w : World} (h : GrownP S a w) : GrownP S a w.drew := ⟨h.os, h.tape, h.output, h.size, h.block⟩
theorem GrownP.drewN {S : Nat → Prop} {a w : World} (h : GrownP S a w) (n : Nat) : GrownP S a (w.drewN n) := ⟨h.os, h.tape, h.output, h.size, h.block⟩
theorem GrownP.below {S : Nat → Prop} {w w' : World} (h : GrownP S w w') {B : Nat} (hB : B ≤ w.heap.size) (hS : ∀ k, S k → B ≤ k) : Below B w w' :=
  ⟨h.os, h.tape, h.output, h.size, fun k hk => h.block k (by omega) (fun hs => by have := hS k hs; omega)⟩
theorem GrownP.weak {S T : Nat → Prop} {w w' : World} (h : GrownP S w w') (hST : ∀ k, k < w.heap.size → S k → T k) : GrownP T w w' :=
  ⟨h.os, h.tape, h.output, h.size, fun k hk hn => h.block k hk (fun hs => hn (hST k hk hs))⟩

/-- 'copy(out, b)', out in a row that is known whole. -/
theorem wpList_copyU {P : Program} {w : World} {ops : Array Oper} {rest : List Oper} {o : Oper} {a : Act} {Q : Exit → Act → World → Prop} (hgd : o.guard = none) (d s : Operand) (T : TypeId)
    (ho : o.op = .call { callee := .builtin .copy, args := #[d, s], argTypes := #[T, T] }) (e : TypeId) (hu : P.underlying T = some (.slice e)) (hsz : (P.info? e).map (·.size) = some 1)
    (g off n dCap gb ob sCap : Nat) (hd : a.eval d = .slice (some ⟨g, off, none⟩) n dCap) (hs : a.eval s = .slice (some ⟨gb, ob, none⟩) n sCap) (cap : Nat) (cur bs : List Int) (hcap : cur.length = cap)
    (hr : UR w g e cap cur) (hb : Cells w (some ⟨gb, ob, none⟩) bs) (hn : bs.length = n) (hfit : off + n ≤ cap)
    (h : ∀ w', UR w' g e cap (splice cur off bs) → w.grownBy w' (some g) → wpList P ops Q rest (a.put o.dst (goInt n)) w') : wpList P ops Q (o :: rest) a w := by
  obtain ⟨arr, h1, h2, h3, h4⟩ := hr
  have harr : arr.toList = cur.map (Value.int .u8) := by
    rw [List.take_of_length_le (by simp; omega)] at h4
    exact h4
  subst hn
  refine wpList_copy_own hgd d s T T ho e hu hsz g off bs.length dCap ⟨gb, ob, none⟩ bs.length sCap hd hs arr e h1 (bs.map (Value.int .u8)) (by simp) ?_ (by simp; omega) (ints_oneCell .u8 bs) ?_
  · intro j v hv
    rw [List.getElem?_map] at hv
    obtain ⟨z, hz, rfl⟩ := Option.map_eq_some_iff.1 hv
    rw [Addr.add_lit]
    exact hb.at hz
  · have := h (w.setRow g (arr.toList.take off ++ (bs.map (Value.int .u8) ++ arr.toList.drop (off + (bs.map (Value.int .u8)).length))).toArray) ?_ ?_
    · simpa using this
    · refine ⟨_, setRow_heap w g _ _ e _ h1, ?_, ?_, ?_⟩
      · rw [harr]
        simp
        omega
      · have := length_splice cur off bs (by omega)
        simp
        omega
      · rw [harr]
        rw [List.take_of_length_le]
        · simp [splice]
        · have := length_splice cur off bs (by omega)
          simp
          omega
    · exact ⟨rfl, rfl, rfl, by simp [World.setRow], fun k hk hne => setRow_other w g k _ (fun e => hne (by rw [e]))⟩

set_option maxHeartbeats 400000 in
theorem clone13_nil (B : Nat) (w : World) : Calls Try.prog 13 #[.pointer (some ⟨B, 0, none⟩), .slice none 0 0] w fun e w' => e = .returned (.slice none 0 0) ∧ w' = w := by
  have hq := q22
  go_enter Try.func13, Try.ntmps13
  go_wp2
  go_ret
  exact ⟨rfl, rfl⟩

set_option maxHeartbeats 400000 in
theorem clone13_empty (B : Nat) (x : Addr) (w : World) : Calls Try.prog 13 #[.pointer (some ⟨B, 0, none⟩), .slice (some x) 0 0] w fun e w' => e = .returned (.slice (some ⟨w.heap.size, 0, none⟩) 0 0) ∧ w' = w.alloc (.cells #[] 5) := by
  have hq := q22
  go_enter Try.func13, Try.ntmps13
  go_wp2
  go_ret
  exact ⟨rfl, rfl⟩

end Go.Proofs.Qxb6605487a
