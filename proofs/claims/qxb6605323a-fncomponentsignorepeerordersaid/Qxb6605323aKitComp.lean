/-
  Words for the walk of 'components': its four blocks; the library's sort seen as a row that is sorted. No walk is made here.
-/
import Derived.Test.Qxb6605323aWalkA
import Derived.Test.Qxb6605323aPlainBfs
import Derived.Test.Qxb6605323aShelf
namespace Go.Proofs.Qxb6605323a
open Go.RowKit

def ints (q : List Nat) : List Int := q.map fun (x : Nat) => (x : Int)

theorem mem_ints {q : List Nat} {v : Nat} : (v : Int) ∈ ints q ↔ v ∈ q := by
  unfold ints
  rw [List.mem_map]
  constructor
  · rintro ⟨u, hu, e⟩
    have : u = v := by omega
    subst this
    exact hu
  · intro h
    exact ⟨v, h, rfl⟩

/-- The memory of 'components': the struct in block B0, the marks in B1, the queue in B2; below B0 all is as it was. -/
structure CMem (w wr : World) (B0 B1 B2 n : Nat) (vs : List Value) (q : List Nat) : Prop where
  box : Rw wr B0 42 3 vs
  seen : BR wr B1 4 n (markB n (ints q))
  queue : NR wr B2 3 n q
  below : Below B0 w wr

section
variable {w wr w2 : World} {B0 B1 B2 n : Nat} {vs : List Value} {q : List Nat}

theorem CMem.drewN (h : CMem w wr B0 B1 B2 n vs q) (k : Nat) : CMem w (wr.drewN k) B0 B1 B2 n vs q := ⟨h.box, h.seen, h.queue, below_drewN h.below k⟩

theorem CMem.drew (h : CMem w wr B0 B1 B2 n vs q) : CMem w wr.drew B0 B1 B2 n vs q := ⟨h.box, h.seen, h.queue, h.below.drew⟩

theorem CMem.grown (h : CMem w wr B0 B1 B2 n vs q) (h01 : B0 < B1) (h12 : B1 < B2) {row : Option Nat} (hg : wr.grownBy w2 row) (hr : ∀ k, row = some k → B2 < k) : CMem w w2 B0 B1 B2 n vs q :=
  ⟨h.box.kept hg (fun e => by have := hr B0 e.symm; omega), h.seen.kept hg (fun e => by have := hr B1 e.symm; omega), h.queue.kept hg (fun e => by have := hr B2 e.symm; omega),
    h.below.grown hg (Nat.le_of_lt h.box.lt) (fun k hk => by have := hr k hk; omega)⟩

theorem CMem.setNew (h : CMem w wr B0 B1 B2 n vs q) (h01 : B0 < B1) (h12 : B1 < B2) {g i : Nat} (hg : B2 < g) (v : Value) : CMem w (wr.setCell ⟨g, i, none⟩ v) B0 B1 B2 n vs q :=
  h.grown h01 h12 (grown_setCell wr g i v) (fun k hk => by simp at hk; omega)

theorem CMem.later (h : CMem w wr B0 B1 B2 n vs q) (hb : Below wr.heap.size wr w2) : CMem w w2 B0 B1 B2 n vs q :=
  ⟨h.box.below hb h.box.lt, h.seen.below hb h.seen.lt, h.queue.below hb h.queue.lt, h.below.trans (hb.mono (Nat.le_of_lt h.box.lt))⟩

theorem CMem.push (h : CMem w wr B0 B1 B2 n vs q) (h01 : B0 < B1) (h12 : B1 < B2) {v : Nat} {o : Obj} (hq : IR w2 B2 3 n (ints q ++ [(v : Int)]))
    (hg : ((wr.setCell ⟨B1, v, none⟩ (.bool true)).alloc o).grownBy w2 (some B2)) : CMem w w2 B0 B1 B2 n vs (q ++ [v]) := by
  refine ⟨?_, ?_, ?_, ?_⟩
  · exact ((h.box.setOther (a := ⟨B1, v, none⟩) (by simp; omega) _).alloc o).kept hg (by simp; omega)
  · have h1 := h.seen.set v true
    rw [markB_set n (ints q) (ints (q ++ [v])) v (by intro x; simp [ints])] at h1
    exact (Rw.alloc h1 o).kept hg (by simp; omega)
  · unfold NR
    simpa [ints] using hq
  · have hB1 : B1 < wr.heap.size := h.seen.lt
    have hsz : (wr.setCell ⟨B1, v, none⟩ (.bool true)).heap.size = wr.heap.size := by simp [World.setCell]
    have h1 := (h.below.setCell (p := ⟨B1, v, none⟩) (by simp; omega) (.bool true)).alloc (by omega) o
    exact h1.grown hg (by simp; omega) (fun k hk => by simp at hk; omega)

theorem CMem.cellB {us : List Value} (h : CMem w wr B0 B1 B2 n vs q) (hv : us = vs) {j : Nat} {v : Value} (hj : us[j]? = some v) : wr.cell? ⟨B0, j, none⟩ = some v := by
  subst hv
  exact h.box.cell hj
theorem CMem.cellQ (h : CMem w wr B0 B1 B2 n vs q) {i x : Nat} (hi : q[i]? = some x) : wr.cell? ⟨B2, i, none⟩ = some (.int .i64 x) := h.queue.cell hi
theorem CMem.cellS (h : CMem w wr B0 B1 B2 n vs q) {v : Nat} (hv : v < n) : wr.cell? ⟨B1, v, none⟩ = some (.bool (decide (v ∈ q))) := by
  have := h.seen.cell (markB_get n (ints q) v hv)
  rw [this]
  congr 2
  simp [mem_ints]
end

theorem cell_new_set (w : World) (a : Addr) (u v : Value) (e : TypeId) : ((w.setCell a u).alloc (.cells #[v] e)).cell? ⟨w.heap.size, 0, none⟩ = some v := by
  have h := cell_new (w.setCell a u) v e
  have hs : (w.setCell a u).heap.size = w.heap.size := by simp [World.setCell]
  rwa [hs] at h

theorem CMem.room {w wr : World} {B0 B1 B2 n : Nat} {vs : List Value} {q : List Nat} (h : CMem w wr B0 B1 B2 n vs q) (h12 : B1 < B2) (a : Addr) (ha : a.block = B1) (u : Value) (o : Obj) :
    IR ((wr.setCell a u).alloc o) B2 3 n (ints q) := by
  have h1 : IR wr B2 3 n (ints q) := h.queue
  exact (h1.setOther (by omega) u).alloc o

/-! ### the library's sort -/
theorem holds_ir {w : World} {g : Nat} {zs : List Int} (h : IR w g 2 zs.length zs) : Sort.Holds (Value.int .i64) w g 0 zs.toArray := by
  intro j hj
  have hj' : j < zs.length := by simpa using hj
  refine ⟨?_, ?_⟩
  · rw [Nat.zero_add, h.cell (List.getElem?_eq_getElem hj')]
    congr 2
    simp [hj']
  · rw [Nat.zero_add]
    exact h.frozen j

theorem ir_put {w : World} {g n : Nat} {zs zs' : List Int} {os : Array Obj} (h : IR w g 2 zs.length zs) (hl : zs'.length = zs.length) :
    IR (Sort.grow (Sort.putRow (Value.int .i64) (Sort.ahead w n) g 0 zs'.toArray) os) g 2 zs.length zs' ∧ w.grownBy (Sort.grow (Sort.putRow (Value.int .i64) (Sort.ahead w n) g 0 zs'.toArray) os) (some g) := by
  have hlt := h.lt
  obtain ⟨cur, h1, h2, h3, h4⟩ := h
  have hsz : (Sort.putRow (Value.int .i64) (Sort.ahead w n) g 0 zs'.toArray).heap.size = w.heap.size := by
    simp [Sort.putRow, Sort.mapBlock, Sort.ahead]
  refine ⟨⟨Sort.putCells (Value.int .i64) 0 zs'.toArray cur, ?_, ?_, ?_, ?_⟩, ⟨rfl, rfl, rfl, ?_, ?_⟩⟩
  · rw [Sort.heap_grow_old _ _ (by omega)]
    simp only [Sort.putRow, Sort.mapBlock, Array.getElem?_modify, if_true]
    have h1' : (Sort.ahead w n).heap[g]? = some (.cells cur 2 (0, 0)) := h1
    rw [h1']
    rfl
  · simp [Sort.putCells, h2]
  · simp [hl]
  · have hcz : cur.size = zs'.length := by omega
    apply List.ext_getElem?
    intro i
    rw [List.getElem?_take]
    by_cases hi : i < zs'.length
    · rw [if_pos (by simpa using hi)]
      simp only [Sort.putCells, Array.getElem?_toList, Array.getElem?_mapIdx, List.getElem?_map]
      rw [Array.getElem?_eq_getElem (by omega), List.getElem?_eq_getElem hi]
      simp [hi]
    · rw [if_neg (by simpa using hi), List.getElem?_eq_none (by simpa using hi)]
  · simp [hsz]
  · intro k hk hne
    rw [Sort.heap_grow_old _ _ (by omega)]
    simp only [Sort.putRow, Sort.mapBlock, Array.getElem?_modify]
    rw [if_neg (fun e => hne (by rw [e]))]
    rfl

theorem sort24 (g c' L : Nat) (zs : List Int) (w : World) (hL : zs.length = L) (hm : L ≤ 1048576) (hr : IR w g 2 L zs) :
    Calls Try.prog 24 #[.slice (some ⟨g, 0, none⟩) L c'] w fun e w' => e = .returned (.tuple #[]) ∧ ∃ zs' : List Int, zs'.Perm zs ∧ zs'.Pairwise (· ≤ ·) ∧ IR w' g 2 L zs' ∧ w.grownBy w' (some g) := by
  subst hL
  refine (Try.slices_Sort_int g 0 c' zs w (holds_ir hr) hr.lt (by omega)).mono ?_
  rintro e w' ⟨rfl, k, os, rfl⟩
  have hp := List.mergeSort_perm zs fun x y => decide (x ≤ y)
  have h := ir_put (n := k) (os := os) hr hp.length_eq
  refine ⟨rfl, _, hp, ?_, h.1, h.2⟩
  have hs := List.pairwise_mergeSort (le := fun (x y : Int) => decide (x ≤ y)) (fun a b c => by simp; omega) (fun a b => by simp; omega) zs
  simpa using hs

end Go.Proofs.Qxb6605323a
