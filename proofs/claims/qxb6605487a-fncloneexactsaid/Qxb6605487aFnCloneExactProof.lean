import Derived.Test.Qxb6605487aRows
import Derived.Test.Qxb6605487aWalkI
import Derived.WalkKit
import Derived.ProofKit
import Derived.OpenShut
import Derived.ShutString
import Derived.ChangeOld
import Derived.Below
namespace Go.Proofs.Qxb6605487a.fnCloneExact
open Go.ChangeShapes Go.WideShapes Go.ChangeAt Go.RowKit
open Go.ChangeMaps (open_string shut_string)
set_option linter.unusedVariables false

theorem own : ownKnob Try.prog.godebug = none := by kernel_rfl
theorem laidOut : laidOutB Try.prog = true := by kernel_rfl

/-- WHAT THE WALK IS TOLD OF A SLICE OF INTEGERS THAT CAME IN: it is nil; or it leads to a row of 'cap' cells, the numbers 'zs' (the first 'len' are its elements, the rest its spare room), each fitting its kind. -/
def IsRow (k : IntKind) (w : World) (a : Option Addr) (len cap : Nat) (zs : List Int) : Prop :=
  (a = none ∧ len = 0 ∧ cap = 0 ∧ zs = []) ∨
  ∃ x, a = some x ∧ len ≤ cap ∧ cap ≤ maxLen ∧ zs.length = cap ∧ (∀ i, i < zs.length → w.cell? (x.add i) = some (.int k (zs.getD i 0))) ∧ ∀ n ∈ zs, (Lit.int k n).wf = true

theorem arg_of_row {w : World} {a : Option Addr} {len cap : Nat} {zs : List Int} (h : IsRow .u8 w a len cap zs) : len = (zs.take len).length ∧ Arg w a cap (zs.take len) := by
  rcases h with ⟨rfl, rfl, rfl, rfl⟩ | ⟨x, rfl, hl, hm, hz, hc, hw⟩
  · exact ⟨rfl, fun i z hz => by simp at hz, fun _ => ⟨rfl, rfl⟩, Nat.le_refl _⟩
  · have hlen : (zs.take len).length = len := by simp; omega
    refine ⟨hlen.symm, ?_, fun h => (by cases h), by omega⟩
    intro i z hi
    have hil : i < len := by
      have := (List.getElem?_eq_some_iff.1 hi).1
      omega
    rw [List.getElem?_take, if_pos hil] at hi
    have h0 := hc 0 (by omega)
    have hsp : x.spot = none := by
      have := World.cell?_spot h0
      simpa [Addr.add] using this
    obtain ⟨b, o, sp⟩ := x
    simp at hsp
    subst hsp
    have hi' := hc i (by omega)
    rw [Addr.add_lit] at hi'
    refine ⟨b, o, rfl, ?_⟩
    rw [hi']
    congr 2
    simp [List.getD, hi]

set_option maxRecDepth 100000 in
set_option maxHeartbeats 4000000 in
theorem big1 (a0 a2 : Option Addr) (l n cap0 cap2 : Nat) (left : Int) (w : World) (h : 1048576 < l + n) :
    Calls Try.prog 3 #[.slice a0 l cap0, .int .i64 left, .slice a2 n cap2] w fun e w' => e = .returned (.bool true) ∧ Below w.heap.size w w' := by
  go_enter Try.func3, Try.ntmps3
  go_wp2_with fail
  refine (bytes6_no _ _ _ _ _ _ _ _ h).mono ?_
  rintro e w' ⟨rfl, hw⟩
  obtain rfl := hw.symm
  go_wp2
  go_ret
  exact ⟨rfl, Below.refl _ _⟩

set_option maxRecDepth 100000 in
set_option maxHeartbeats 4000000 in
theorem big2 (a0 a2 : Option Addr) (l n cap0 cap2 : Nat) (left : Int) (w : World) (h : l + n ≤ 1048576) (h1 : 524288 < l) :
    Calls Try.prog 3 #[.slice a0 l cap0, .int .i64 left, .slice a2 n cap2] w fun e w' => e = .returned (.bool true) ∧ Below w.heap.size w w' := by
  have q : (524288 : Int) < (l : Int) := by omega
  go_enter Try.func3, Try.ntmps3
  go_wp2_with fail
  refine (bytes6_yes _ _ _ _ _ _ _ _ h).mono ?_
  rintro e w' ⟨rfl, hw⟩
  obtain rfl := hw.symm
  go_wp2
  go_ret
  exact ⟨rfl, Below.refl _ _⟩

set_option maxRecDepth 100000 in
set_option maxHeartbeats 4000000 in
theorem big3 (a0 a2 : Option Addr) (l n cap0 cap2 : Nat) (left : Int) (w : World) (h : l + n ≤ 1048576) (h0 : l ≤ 524288) (h1 : 524288 < n) :
    Calls Try.prog 3 #[.slice a0 l cap0, .int .i64 left, .slice a2 n cap2] w fun e w' => e = .returned (.bool true) ∧ Below w.heap.size w w' := by
  have q : (524288 : Int) < (n : Int) := by omega
  have q0 : decide ((524288 : Int) < (l : Int)) = false := by simp; omega
  go_enter Try.func3, Try.ntmps3
  go_wp2_with fail
  refine (bytes6_yes _ _ _ _ _ _ _ _ h).mono ?_
  rintro e w' ⟨rfl, hw⟩
  obtain rfl := hw.symm
  go_wp2
  go_ret
  exact ⟨rfl, Below.refl _ _⟩

/-! ### STEP 1: THE WALK: the Go text returns true, AND WRITES NOTHING THAT WAS THERE: 'Below w.heap.size w w'' (Derived/Below.lean: '.refl', '.alloc', '.drew', '.setCell' at a new block, '.trans'). Open each 'IsRow' by 'rcases' AHEAD of 'go_enter'; part every test ahead of the walk. -/
theorem walk (a0 : Option Addr) (len0 cap0 : Nat) (z0 : List Int) (a1 : Int) (a2 : Option Addr) (len2 cap2 : Nat) (z2 : List Int) (w : World) (w0 : IsRow .u8 w a0 len0 cap0 z0) (w1 : (Lit.int .i64 a1).wf = true) (w2 : IsRow .u8 w a2 len2 cap2 z2) :
    Calls Try.prog 3 #[.slice a0 len0 cap0, .int .i64 a1, .slice a2 len2 cap2] w fun e w' => e = .returned (.bool true) ∧ Below w.heap.size w w' := by
  obtain ⟨e0, g0⟩ := arg_of_row w0
  obtain ⟨e2, g2⟩ := arg_of_row w2
  by_cases hb : 1048576 < len0 + len2
  · exact big1 a0 a2 len0 len2 cap0 cap2 a1 w hb
  by_cases hb1 : 524288 < len0
  · exact big2 a0 a2 len0 len2 cap0 cap2 a1 w (by omega) hb1
  by_cases hb2 : 524288 < len2
  · exact big3 a0 a2 len0 len2 cap0 cap2 a1 w (by omega) (by omega) hb2
  obtain ⟨xs, hx⟩ : ∃ xs, z0.take len0 = xs := ⟨_, rfl⟩
  obtain ⟨bs, hy⟩ : ∃ bs, z2.take len2 = bs := ⟨_, rfl⟩
  rw [hx] at e0 g0
  rw [hy] at e2 g2
  by_cases hz : len2 = 0
  · subst hz
    obtain rfl : bs = [] := List.length_eq_zero_iff.1 e2.symm
    exact law3_zero a0 a2 len0 cap0 cap2 a1 xs w e0.symm (by omega) g0 g2
  obtain ⟨b2, o2, h2⟩ := g2.cells.ex (by omega)
  subst h2
  by_cases hl : len0 < len2
  · exact law3_fresh a0 _ len0 len2 cap0 cap2 a1 xs bs w e0.symm e2.symm hl (by omega) g0 g2.cells
  obtain ⟨b0, o0, h0⟩ := g0.cells.ex (by omega)
  subst h0
  by_cases he : len0 = len2
  · subst he
    exact law3_all _ _ len0 cap0 cap2 a1 xs bs w e0.symm e2.symm (by omega) (by omega) g0.cells g2.cells
  · exact law3_reuse _ _ len0 len2 cap0 cap2 a1 xs bs w e0.symm e2.symm (by omega) (by omega) (by omega) g0.cells g2.cells

/-! ### THE ROW's STEP: WRITTEN OUT: LEAVE IT -/
set_option maxRecDepth 100000 in
theorem lifted (os : Os) (started : os.Started) (H : Type) (enc : TypeId × Value → H) :
    ReturnsInHanded {} Try.checked os 3 .any (Rows.fnCloneExactSpec.pre6 enc Try.prog Try.f3 Rows.fnCloneExactRow.domain false) (Rows.fnCloneExactSpec.post enc Try.prog Try.f3 false true false false) := by
  refine returnsInHanded_of_change (C := Try.checked) own started (by kernel_rfl) Try.func3
    (ChangeSpec.witness6 (enc := enc) (C := Try.checked) false ⟨#[], #[.slice none 0 0, .int .i64 0, .slice none 0 0], []⟩ 8 (by kernel_rfl) (by kernel_rfl) (by kernel_rfl) (by kernel_rfl)) ?_
  intro W base args ds gs before hval0 hW hcnd _
  have hval : ∀ (j : Nat) t v, Try.f3.params[j]? = some t → args[j]? = some v → Value.okWide Try.prog W .any base t v := hval0
  have hW' := hW
  obtain ⟨p, q, hA0, hV, rfl, hfz, hnd⟩ := hW
  have hA : DataW.TrodAll enc Try.prog W 0 (fun _ => true) true Try.f3.params.toList args.toList ds p := hA0
  rw [Try.params3] at hA hval
  obtain ⟨v0, vs0, d0, ds0, p0, q0, hargs, rfl, rfl, h0, r0⟩ := trodAll_cons hA
  obtain ⟨v1, vs1, d1, ds1, p1, q1, rfl, rfl, rfl, h1, r1⟩ := trodAll_cons r0
  obtain ⟨v2, vs2, d2, ds2, p2, q2, rfl, rfl, rfl, h2, r2⟩ := trodAll_cons r1
  obtain ⟨rfl, rfl, rfl⟩ := trodAll_nil r2
  obtain rfl : args = #[v0, v1, v2] := by cases args; simp_all
  obtain ⟨rfl, rfl⟩ := trodVars_none hV
  obtain ⟨a0, len0, cap0, rfl⟩ := okWide_slice Try.underlying22 (hval 0 22 v0 rfl rfl)
  have k0 := h0
  have lt0 : ∀ x ∈ p0, x.block < W.heap.size := by obtain ⟨m, hm⟩ := k0; exact DataW.trod_lt m _ _ _ hm
  obtain ⟨z0, w0⟩ : ∃ zs, IsRow .u8 W a0 len0 cap0 zs := by
    obtain ⟨fuel, hf⟩ := h0
    rcases open_ints Try.underlying22 Try.underlying5 (by kernel_rfl) hf with ⟨hcs, _⟩ | ⟨x, l, c, zs, hcs, _, hl, hm, hz, _, hcell, hwz⟩
    · simp [Value.cells] at hcs
      obtain ⟨rfl, rfl, rfl⟩ := hcs
      exact ⟨[], .inl ⟨rfl, rfl, rfl, rfl⟩⟩
    · simp [Value.cells] at hcs
      obtain ⟨rfl, rfl, rfl⟩ := hcs
      exact ⟨zs, .inr ⟨_, rfl, hl, hm, by simpa using hz, hcell, hwz⟩⟩
  obtain ⟨a1, rfl, rfl, rfl, w1⟩ := open_int Try.underlying3 (hval 1 3 v1 rfl rfl) h1
  obtain ⟨a2, len2, cap2, rfl⟩ := okWide_slice Try.underlying22 (hval 2 22 v2 rfl rfl)
  have k2 := h2
  have lt2 : ∀ x ∈ p2, x.block < W.heap.size := by obtain ⟨m, hm⟩ := k2; exact DataW.trod_lt m _ _ _ hm
  obtain ⟨z2, w2⟩ : ∃ zs, IsRow .u8 W a2 len2 cap2 zs := by
    obtain ⟨fuel, hf⟩ := h2
    rcases open_ints Try.underlying22 Try.underlying5 (by kernel_rfl) hf with ⟨hcs, _⟩ | ⟨x, l, c, zs, hcs, _, hl, hm, hz, _, hcell, hwz⟩
    · simp [Value.cells] at hcs
      obtain ⟨rfl, rfl, rfl⟩ := hcs
      exact ⟨[], .inl ⟨rfl, rfl, rfl, rfl⟩⟩
    · simp [Value.cells] at hcs
      obtain ⟨rfl, rfl, rfl⟩ := hcs
      exact ⟨zs, .inr ⟨_, rfl, hl, hm, by simpa using hz, hcell, hwz⟩⟩
  clear hA0 hval0
  refine (walk a0 len0 cap0 z0 a1 a2 len2 cap2 z2 W w0 w1 w2).mono fun e W' ⟨he, bel⟩ => ?_
  subst he
  exact ⟨_, rfl, _, _, _, [], _, [], hW', trodAll_mk1 (shut_bool Try.underlying4 _), (trodAll_cons_mk (Below.trod laidOut (by kernel_rfl) (of_decide_eq_true (by kernel_rfl)) k0 bel lt0) (trodAll_cons_mk (shut_int Try.underlying3 w1) (trodAll_cons_mk (Below.trod laidOut (by kernel_rfl) (of_decide_eq_true (by kernel_rfl)) k2 bel lt2) trodAll_mk0))), rfl, bel.frame _, fun h => by cases h⟩

theorem over : Rows.fnCloneExactRow.holds Try.pinned (OpenSpec.ofChange Rows.fnCloneExactSpec) :=
  OpenClaim.holds_of_wide 3 Try.f3 rfl rfl rfl rfl rfl rfl rfl ⟨rfl, rfl, rfl, rfl, rfl⟩ rfl rfl rfl rfl rfl (by kernel_rfl) Try.func3 (by kernel_rfl)
    (of_decide_eq_true (by kernel_rfl)) (by unfold Func.isWrapper; first | (rw [if_pos (by decide +kernel)]; kernel_rfl) | (rw [if_neg (by decide +kernel)]; exact ⟨rfl, rfl⟩))
    (fun os started H enc _ => lifted os started H enc)

/-- ████ THE STATEMENT ████ -/
theorem proved : Rows.FnCloneExactSaid := over
#print axioms proved
end Go.Proofs.Qxb6605487a.fnCloneExact
