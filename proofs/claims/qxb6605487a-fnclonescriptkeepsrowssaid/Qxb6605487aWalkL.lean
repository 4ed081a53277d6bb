import Derived.Test.Qxb6605487aWalkK
namespace Go.Proofs.Qxb6605487a
open Go.RowKit
set_option linter.unusedVariables false

theorem q29 : ∀ (w : World) (a : Option Addr) (n c : Nat), (binOp .neq 29 (.slice a n c) (.slice none 0 0)).run Try.prog w = .ok (.bool (!a.isNone)) w := fun w a n c => run_neq_slice_nil w _ _ a n c Try.underlying29

theorem Try.info22 : (Try.prog.info? 22).map (fun i => (i.zero, i.size, i.bytes)) = some (some (.slice none 0 0), 1, 24) := by kernel_rfl

set_option maxRecDepth 100000 in
set_option maxHeartbeats 4000000 in
theorem law4_nil (left : Int) (w : World) (hw : wrap64 left = left) :
    Calls Try.prog 4 #[.slice none 0 0, .int .i64 left] w fun e w' => e = .returned (.bool true) ∧ Below w.heap.size w w' := by
  obtain ⟨i0, hi, hz0, hz1, hz2⟩ := info_parts Try.info22
  have hq := q29
  have q5 : (left != left) = false := by simp
  go_enter Try.func4, Try.ntmps4
  go_wp2_with fail
  refine (bytes10 none 0 0 left (fun _ => none) (fun _ => 0) (fun _ => []) w ⟨fun _ => rfl, fun r hr => by omega, fun r hr => by omega, fun r hr => by omega, by omega⟩).mono ?_
  rintro e w1 ⟨⟨b, rfl, -⟩, b1⟩
  have s1 := b1.size
  cases b with
  | false =>
    have B1 : Hid (Below w.heap.size w w1) := b1
    clear b1
    go_wp2
    go_ret
    exact ⟨rfl, B1.out⟩
  | true =>
    have B1 : Hid (Below w.heap.size w w1) := b1
    clear b1
    go_wp2_with fail
    go_loopw [5, 6] (fun t i wr => t = .int .i64 0 ∧ i = .int .i64 0 ∧ wr = w1) (fun _ i _ => 0)
    case atStart => exact ⟨rfl, rfl, rfl⟩
    case round =>
      obtain ⟨rfl, rfl, rfl⟩ := hrel
      go_wp2_with (at_make; refine wpList_make_full _ rfl _ _ 29 rfl wr.heap.size 22 i0 (.slice none 0 0) 1 Try.underlying29 hi hz0 hz1 _ _ _ _ 0 rfl rfl rfl rfl (by rw [hz2]; omega) (by unfold maxLen; omega) (Nat.le_refl _) ?_; intro w2 hown hgrow)
      have B2 : Hid (Below w.heap.size w w2) := B1.out.trans (below_of_grown hgrow s1 (by simp))
      clear B1 hown hgrow s1
      go_loopw [9, 10, 11, 13] (fun b l t i wr => b = .slice none 0 0 ∧ l = .int .i64 left ∧ t = .int .i64 0 ∧ i = .int .i64 0 ∧ wr = w2) (fun _ _ _ _ _ => 0)
      case atStart => exact ⟨rfl, rfl, rfl, rfl, rfl⟩
      case round =>
        obtain ⟨rfl, rfl, rfl, rfl, rfl⟩ := hrel
        go_wp2_with fail
        go_loopw [17] (fun i wr' => i = .int .i64 0 ∧ wr' = wr) (fun _ _ => 0)
        case atStart => exact ⟨rfl, rfl⟩
        case round =>
          obtain ⟨rfl, rfl⟩ := hrel
          go_wp2_with fail
          go_loopw [20] (fun i wr' => i = .int .i64 0 ∧ wr' = wr) (fun _ _ => 0)
          case atStart => exact ⟨rfl, rfl⟩
          case round =>
            obtain ⟨rfl, rfl⟩ := hrel
            go_wp2_with fail
            go_loopw [21] (fun i wr' => i = .int .i64 0 ∧ wr' = wr) (fun _ _ => 0)
            case atStart => exact ⟨rfl, rfl⟩
            case round =>
              obtain ⟨rfl, rfl⟩ := hrel
              go_wp2
              go_ret
              exact ⟨rfl, B2.out⟩
end Go.Proofs.Qxb6605487a
