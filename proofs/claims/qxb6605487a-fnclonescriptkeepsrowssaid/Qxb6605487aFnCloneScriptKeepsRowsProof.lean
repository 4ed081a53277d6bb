import Derived.Test.Qxb6605487aRows
import Derived.Test.Qxb6605487aWalkM
import Derived.Deep.Matrix
import Derived.WalkKit
import Derived.ProofKit
import Derived.OpenShut
import Derived.ShutString
import Derived.ChangeOld
import Derived.Below
namespace Go.Proofs.Qxb6605487a.fnCloneScriptKeepsRows
open Go.ChangeShapes Go.WideShapes Go.ChangeAt Go.RowKit
open Go.ChangeMaps (open_string shut_string)
set_option linter.unusedVariables false

theorem own : ownKnob Try.prog.godebug = none := by kernel_rfl
theorem laidOut : laidOutB Try.prog = true := by kernel_rfl

/-- WHAT THE WALK IS TOLD OF A SLICE OF INTEGERS THAT CAME IN: it is nil; or it leads to a row of 'cap' cells, the numbers 'zs' (the first 'len' are its elements, the rest its spare room), each fitting its kind. -/
def IsRow (k : IntKind) (w : World) (a : Option Addr) (len cap : Nat) (zs : List Int) : Prop :=
  (a = none ∧ len = 0 ∧ cap = 0 ∧ zs = []) ∨
  ∃ x, a = some x ∧ len ≤ cap ∧ cap ≤ maxLen ∧ zs.length = cap ∧ (∀ i, i < zs.length → w.cell? (x.add i) = some (.int k (zs.getD i 0))) ∧ ∀ n ∈ zs, (Lit.int k n).wf = true

theorem arg_of_row {w : World} {a : Option Addr} {len cap : Nat} {zs : List Int} (h : IsRow .u8 w a len cap zs) : len = (zs.take len).length ∧ Arg w a cap (zs.take len) := by
  rcases h with ⟨rfl, rfl, rfl, rfl⟩ | ⟨x, rfl, hl, hm, hz, hc, hw⟩
  · exact ⟨rfl, fun i z hz => by simp at hz, fun _ => ⟨rfl, rfl⟩, Nat.le_refl _⟩
  · have hlen : (zs.take len).length = len := by simp; omega
    refine ⟨hlen.symm, ?_, fun h => (by cases h), by omega⟩
    intro i z hi
    have hil : i < len := by
      have := (List.getElem?_eq_some_iff.1 hi).1
      omega
    rw [List.getElem?_take, if_pos hil] at hi
    have h0 := hc 0 (by omega)
    have hsp : x.spot = none := by
      have := World.cell?_spot h0
      simpa [Addr.add] using this
    obtain ⟨b, o, sp⟩ := x
    simp at hsp
    subst hsp
    have hi' := hc i (by omega)
    rw [Addr.add_lit] at hi'
    refine ⟨b, o, rfl, ?_⟩
    rw [hi']
    congr 2
    simp [List.getD, hi]

/-- What the walk is told of the slice of slices that came in: it is nil; or its rows can be read. -/
def IsRows (w : World) (a : Option Addr) (len cap : Nat) : Prop :=
  (a = none ∧ len = 0 ∧ cap = 0) ∨ ∃ x A C bs, a = some x ∧ RowsIn w (some x) len A C bs

theorem wrap_of_wf {n : Int} (h : (Lit.int .i64 n).wf = true) : wrap64 n = n := by
  simp [Lit.wf, IntKind.min, IntKind.max, IntKind.signed, IntKind.bits] at h
  unfold wrap64
  omega

/-! ### STEP 1: THE WALK -/
theorem walk (a0 : Option Addr) (len0 cap0 : Nat) (a1 : Int) (w : World) (w0 : IsRows w a0 len0 cap0) (w1 : (Lit.int .i64 a1).wf = true) :
    Calls Try.prog 4 #[.slice a0 len0 cap0, .int .i64 a1] w fun e w' => e = .returned (.bool true) ∧ Below w.heap.size w w' := by
  rcases w0 with ⟨rfl, rfl, rfl⟩ | ⟨x, A, C, bs, rfl, h⟩
  · exact law4_nil a1 w (wrap_of_wf w1)
  · exact law4_main x len0 cap0 a1 A C bs w (wrap_of_wf w1) h

/-! ### THE ROW's STEP: WRITTEN OUT: LEAVE IT -/
set_option maxRecDepth 100000 in
theorem lifted (os : Os) (started : os.Started) (H : Type) (enc : TypeId × Value → H) :
    ReturnsInHanded {} Try.checked os 4 .any (Rows.fnCloneScriptKeepsRowsSpec.pre6 enc Try.prog Try.f4 Rows.fnCloneScriptKeepsRowsRow.domain false) (Rows.fnCloneScriptKeepsRowsSpec.post enc Try.prog Try.f4 false true false false) := by
  refine returnsInHanded_of_change (C := Try.checked) own started (by kernel_rfl) Try.func4
    (ChangeSpec.witness6 (enc := enc) (C := Try.checked) false ⟨#[], #[.slice none 0 0, .int .i64 0], []⟩ 8 (by kernel_rfl) (by kernel_rfl) (by kernel_rfl) (by kernel_rfl)) ?_
  intro W base args ds gs before hval0 hW hcnd _
  have hval : ∀ (j : Nat) t v, Try.f4.params[j]? = some t → args[j]? = some v → Value.okWide Try.prog W .any base t v := hval0
  have hW' := hW
  obtain ⟨p, q, hA0, hV, rfl, hfz, hnd⟩ := hW
  have hA : DataW.TrodAll enc Try.prog W 0 (fun _ => true) true Try.f4.params.toList args.toList ds p := hA0
  rw [Try.params4] at hA hval
  obtain ⟨v0, vs0, d0, ds0, p0, q0, hargs, rfl, rfl, h0, r0⟩ := trodAll_cons hA
  obtain ⟨v1, vs1, d1, ds1, p1, q1, rfl, rfl, rfl, h1, r1⟩ := trodAll_cons r0
  obtain ⟨rfl, rfl, rfl⟩ := trodAll_nil r1
  obtain rfl : args = #[v0, v1] := by cases args; simp_all
  obtain ⟨rfl, rfl⟩ := trodVars_none hV
  obtain ⟨a0, len0, cap0, rfl⟩ := okWide_slice Try.underlying29 (hval 0 29 v0 rfl rfl)
  have k0 := h0
  have lt0 : ∀ x ∈ p0, x.block < W.heap.size := by obtain ⟨m, hm⟩ := k0; exact DataW.trod_lt m _ _ _ hm
  have w0 : IsRows W a0 len0 cap0 := by
    obtain ⟨fuel, hf⟩ := h0
    rcases Go.Deep.open_int_rows Try.underlying29 Try.underlying22 Try.underlying5 (by kernel_rfl) (by kernel_rfl) hf with ⟨hcs, _⟩ | ⟨x, l, c, A, L, C, Z, hcs, _, hl, hm, _, hr⟩
    · simp [Value.cells] at hcs
      obtain ⟨rfl, rfl, rfl⟩ := hcs
      exact .inl ⟨rfl, rfl, rfl⟩
    · simp [Value.cells] at hcs
      obtain ⟨rfl, rfl, rfl⟩ := hcs
      refine .inr ⟨x, A, C, fun r => (Z r).take (L r), rfl, ?_⟩
      have hrow : ∀ r, r < len0 → L r = ((Z r).take (L r)).length ∧ Arg W (A r) (C r) ((Z r).take (L r)) := by
        intro r hlt
        obtain ⟨_, e1, e2, e3, e4, e5, e6⟩ := hr r (by omega)
        refine arg_of_row ?_
        cases hA : A r with
        | none =>
          have hC := e5 hA
          exact .inl ⟨rfl, by omega, hC, List.length_eq_zero_iff.1 (by omega)⟩
        | some a' => exact .inr ⟨a', rfl, e1, e2, e3, fun i hi => (e6 a' hA).2 i (by omega), e4⟩
      refine ⟨(fun h => by cases h), ?_, fun r hlt => (hrow r hlt).2, ?_, by omega⟩
      · intro r hlt
        obtain ⟨e0, _⟩ := hr r (by omega)
        have hsp : x.spot = none := by
          have := World.cell?_spot (hr 0 (by omega)).1
          simpa [Addr.add] using this
        obtain ⟨b, o, sp⟩ := x
        simp at hsp
        subst hsp
        rw [Addr.add_lit] at e0
        exact ⟨b, o, rfl, by rw [← (hrow r hlt).1]; exact e0⟩
      · intro r hlt
        obtain ⟨_, e1, e2, _⟩ := hr r (by omega)
        rw [← (hrow r hlt).1]
        omega
  obtain ⟨a1, rfl, rfl, rfl, w1⟩ := open_int Try.underlying3 (hval 1 3 v1 rfl rfl) h1
  clear hA0 hval0
  refine (walk a0 len0 cap0 a1 W w0 w1).mono fun e W' ⟨he, bel⟩ => ?_
  subst he
  exact ⟨_, rfl, _, _, _, [], _, [], hW', trodAll_mk1 (shut_bool Try.underlying4 _), (trodAll_cons_mk (Below.trod laidOut (by kernel_rfl) (of_decide_eq_true (by kernel_rfl)) k0 bel lt0) (trodAll_cons_mk (shut_int Try.underlying3 w1) trodAll_mk0)), rfl, bel.frame _, fun h => by cases h⟩

theorem over : Rows.fnCloneScriptKeepsRowsRow.holds Try.pinned (OpenSpec.ofChange Rows.fnCloneScriptKeepsRowsSpec) :=
  OpenClaim.holds_of_wide 4 Try.f4 rfl rfl rfl rfl rfl rfl rfl ⟨rfl, rfl, rfl, rfl, rfl⟩ rfl rfl rfl rfl rfl (by kernel_rfl) Try.func4 (by kernel_rfl)
    (of_decide_eq_true (by kernel_rfl)) (by unfold Func.isWrapper; first | (rw [if_pos (by decide +kernel)]; kernel_rfl) | (rw [if_neg (by decide +kernel)]; exact ⟨rfl, rfl⟩))
    (fun os started H enc _ => lifted os started H enc)

/-- ████ THE STATEMENT ████ -/
theorem proved : Rows.FnCloneScriptKeepsRowsSaid := over
#print axioms proved
end Go.Proofs.Qxb6605487a.fnCloneScriptKeepsRows
