/-
  Words of my own for the walks of this seat: 'Rw w g e cap xs': block g is a row of cap cells of element type e, none frozen, whose first cells are xs. No program is named here.
-/
import Derived.WalkKit
import Derived.Deep.Draws
namespace Go.Proofs.Qxb6605323a
open Go.RowKit

/-- Block g of w: 'cap' cells of element type e, none frozen, the first of which are xs. -/
def Rw (w : World) (g : Nat) (e : TypeId) (cap : Nat) (xs : List Value) : Prop :=
  ∃ cur : Array Value, w.heap[g]? = some (.cells cur e (0, 0)) ∧ cur.size = cap ∧ xs.length ≤ cap ∧ cur.toList.take xs.length = xs

section
variable {w w' : World} {g : Nat} {e : TypeId} {cap : Nat} {xs : List Value}

theorem Rw.lt (h : Rw w g e cap xs) : g < w.heap.size := by
  obtain ⟨cur, h1, _⟩ := h
  exact (Array.getElem?_eq_some_iff.1 h1).1

theorem Rw.le (h : Rw w g e cap xs) : xs.length ≤ cap := by
  obtain ⟨cur, _, _, h1, _⟩ := h
  exact h1

theorem Rw.cell (h : Rw w g e cap xs) {i : Nat} {v : Value} (hi : xs[i]? = some v) : w.cell? ⟨g, i, none⟩ = some v := by
  obtain ⟨cur, h1, h2, h3, h4⟩ := h
  have hlt := (List.getElem?_eq_some_iff.1 hi).1
  rw [cell_of_row w g i cur e (0, 0) h1]
  rw [← h4, List.getElem?_take, if_pos hlt] at hi
  simpa using hi

theorem Rw.frozen (h : Rw w g e cap xs) (i : Nat) : w.frozen? ⟨g, i, none⟩ = false := by
  obtain ⟨cur, h1, _⟩ := h
  simp [World.frozen?, h1]

theorem Rw.of_block (h : Rw w g e cap xs) (hb : w'.heap[g]? = w.heap[g]?) : Rw w' g e cap xs := by
  obtain ⟨cur, h1, h2⟩ := h
  exact ⟨cur, by rw [hb]; exact h1, h2⟩

theorem Rw.kept (h : Rw w g e cap xs) {row : Option Nat} (hg : w.grownBy w' row) (hne : some g ≠ row) : Rw w' g e cap xs :=
  h.of_block (hg.block g h.lt hne)

theorem Rw.below (h : Rw w g e cap xs) {B : Nat} (hb : Below B w w') (hB : g < B) : Rw w' g e cap xs :=
  h.of_block (hb.block g hB)

theorem Rw.drew (h : Rw w g e cap xs) : Rw w.drew g e cap xs := h
theorem Rw.drewN (h : Rw w g e cap xs) (n : Nat) : Rw (w.drewN n) g e cap xs := h
theorem Rw.alloc (h : Rw w g e cap xs) (o : Obj) : Rw (w.alloc o) g e cap xs := h.of_block (Below.heap_alloc w o g h.lt)

theorem Rw.setOther (h : Rw w g e cap xs) {a : Addr} (ha : g ≠ a.block) (v : Value) : Rw (w.setCell a v) g e cap xs :=
  h.of_block (Below.heap_setCell w a v g ha)

theorem Rw.set (h : Rw w g e cap xs) (i : Nat) (v : Value) : Rw (w.setCell ⟨g, i, none⟩ v) g e cap (xs.set i v) := by
  obtain ⟨cur, h1, h2, h3, h4⟩ := h
  refine ⟨cur.setIfInBounds i v, ?_, by simpa using h2, by simpa using h3, ?_⟩
  · simp [World.setCell, Array.getElem?_modify, h1]
  · simp only [List.length_set, Array.toList_setIfInBounds]
    rw [List.take_set, h4]

theorem Rw.owns (h : Rw w g e cap xs) {base : Nat} (hb : base ≤ g) (hc : cap ≤ maxLen) :
    w.ownsRow base e 1 (.slice (some ⟨g, 0, none⟩) xs.length cap) xs.length xs := by
  obtain ⟨cur, h1, h2, h3, h4⟩ := h
  exact ⟨by simp, .inr ⟨g, cap, cur, rfl, hb, h1, h3, hc, by simpa using h2, by simpa using h4⟩⟩

theorem Rw.of_owns {base n : Nat} (h : w.ownsRow base e 1 (.slice (some ⟨g, 0, none⟩) n cap) n xs) : Rw w g e cap xs := by
  obtain ⟨h1, h2⟩ := h
  rcases h2 with ⟨h2, _⟩ | ⟨g', cap', cur, hv, _, hh, hn, _, hs, ht⟩
  · cases h2
  · cases hv
    have hn' : xs.length = n := by simpa using h1
    exact ⟨cur, hh, by simpa using hs, by omega, by rw [hn']; simpa using ht⟩

theorem Rw.made (w : World) (e : TypeId) (cs : List Value) : Rw (w.alloc (.cells cs.toArray e)) w.heap.size e cs.length cs :=
  ⟨cs.toArray, heap_alloc_new w _, by simp, Nat.le_refl _, by simp⟩
end

/-- A row of ints. -/
def IR (w : World) (g : Nat) (e : TypeId) (cap : Nat) (zs : List Int) : Prop := Rw w g e cap (zs.map (Value.int .i64))

section
variable {w w' : World} {g : Nat} {e : TypeId} {cap : Nat} {zs : List Int}
theorem IR.lt (h : IR w g e cap zs) : g < w.heap.size := Rw.lt h
theorem IR.le (h : IR w g e cap zs) : zs.length ≤ cap := by simpa using Rw.le h
theorem IR.cell (h : IR w g e cap zs) {i : Nat} {x : Int} (hi : zs[i]? = some x) : w.cell? ⟨g, i, none⟩ = some (.int .i64 x) :=
  Rw.cell h (by simp [hi])
theorem IR.cellD (h : IR w g e cap zs) {i : Nat} (hi : i < zs.length) : w.cell? ⟨g, i, none⟩ = some (.int .i64 (zs.getD i 0)) :=
  h.cell (by simp [hi])
theorem IR.frozen (h : IR w g e cap zs) (i : Nat) : w.frozen? ⟨g, i, none⟩ = false := Rw.frozen h i
theorem IR.kept (h : IR w g e cap zs) {row : Option Nat} (hg : w.grownBy w' row) (hne : some g ≠ row) : IR w' g e cap zs := Rw.kept h hg hne
theorem IR.below (h : IR w g e cap zs) {B : Nat} (hb : Below B w w') (hB : g < B) : IR w' g e cap zs := Rw.below h hb hB
theorem IR.drew (h : IR w g e cap zs) : IR w.drew g e cap zs := h
theorem IR.drewN (h : IR w g e cap zs) (n : Nat) : IR (w.drewN n) g e cap zs := h
theorem IR.alloc (h : IR w g e cap zs) (o : Obj) : IR (w.alloc o) g e cap zs := Rw.alloc h o
theorem IR.setOther (h : IR w g e cap zs) {a : Addr} (ha : g ≠ a.block) (v : Value) : IR (w.setCell a v) g e cap zs := Rw.setOther h ha v
theorem IR.set (h : IR w g e cap zs) (i : Nat) (x : Int) : IR (w.setCell ⟨g, i, none⟩ (.int .i64 x)) g e cap (zs.set i x) := by
  have := Rw.set h i (.int .i64 x)
  unfold IR
  rwa [List.map_set]
end

/-- A row of natural numbers. -/
def NR (w : World) (g : Nat) (e : TypeId) (cap : Nat) (ns : List Nat) : Prop := IR w g e cap (ns.map fun (x : Nat) => (x : Int))

section
variable {w w' : World} {g : Nat} {e : TypeId} {cap : Nat} {ns : List Nat}
theorem NR.lt (h : NR w g e cap ns) : g < w.heap.size := IR.lt h
theorem NR.le (h : NR w g e cap ns) : ns.length ≤ cap := by simpa using IR.le h
theorem NR.cell (h : NR w g e cap ns) {i x : Nat} (hi : ns[i]? = some x) : w.cell? ⟨g, i, none⟩ = some (.int .i64 x) :=
  IR.cell h (by simp [hi])
theorem NR.frozen (h : NR w g e cap ns) (i : Nat) : w.frozen? ⟨g, i, none⟩ = false := IR.frozen h i
theorem NR.kept (h : NR w g e cap ns) {row : Option Nat} (hg : w.grownBy w' row) (hne : some g ≠ row) : NR w' g e cap ns := IR.kept h hg hne
theorem NR.below (h : NR w g e cap ns) {B : Nat} (hb : Below B w w') (hB : g < B) : NR w' g e cap ns := IR.below h hb hB
theorem NR.drewN (h : NR w g e cap ns) (n : Nat) : NR (w.drewN n) g e cap ns := h
theorem NR.setOther (h : NR w g e cap ns) {a : Addr} (ha : g ≠ a.block) (v : Value) : NR (w.setCell a v) g e cap ns := IR.setOther h ha v
theorem NR.set (h : NR w g e cap ns) (i x : Nat) : NR (w.setCell ⟨g, i, none⟩ (.int .i64 x)) g e cap (ns.set i x) := by
  have := IR.set h i x
  unfold NR
  rwa [List.map_set]
end

/-- A row of bools. -/
def BR (w : World) (g : Nat) (e : TypeId) (cap : Nat) (bs : List Bool) : Prop := Rw w g e cap (bs.map Value.bool)

section
variable {w w' : World} {g : Nat} {e : TypeId} {cap : Nat} {bs : List Bool}
theorem BR.lt (h : BR w g e cap bs) : g < w.heap.size := Rw.lt h
theorem BR.cell (h : BR w g e cap bs) {i : Nat} {x : Bool} (hi : bs[i]? = some x) : w.cell? ⟨g, i, none⟩ = some (.bool x) :=
  Rw.cell h (by simp [hi])
theorem BR.cellD (h : BR w g e cap bs) {i : Nat} (hi : i < bs.length) : w.cell? ⟨g, i, none⟩ = some (.bool (bs.getD i false)) :=
  h.cell (by simp [hi])
theorem BR.frozen (h : BR w g e cap bs) (i : Nat) : w.frozen? ⟨g, i, none⟩ = false := Rw.frozen h i
theorem BR.kept (h : BR w g e cap bs) {row : Option Nat} (hg : w.grownBy w' row) (hne : some g ≠ row) : BR w' g e cap bs := Rw.kept h hg hne
theorem BR.below (h : BR w g e cap bs) {B : Nat} (hb : Below B w w') (hB : g < B) : BR w' g e cap bs := Rw.below h hb hB
theorem BR.setOther (h : BR w g e cap bs) {a : Addr} (ha : g ≠ a.block) (v : Value) : BR (w.setCell a v) g e cap bs := Rw.setOther h ha v
theorem BR.set (h : BR w g e cap bs) (i : Nat) (x : Bool) : BR (w.setCell ⟨g, i, none⟩ (.bool x)) g e cap (bs.set i x) := by
  have := Rw.set h i (.bool x)
  unfold BR
  rwa [List.map_set]
end

/-- The call answers a bool; where it is true, p holds. -/
def Says (e : Ending) (p : Prop) : Prop := ∃ b : Bool, e = .returned (.bool b) ∧ (b = true → p)
theorem Says.no (p : Prop) : Says (.returned (.bool false)) p := ⟨false, rfl, fun h => by cases h⟩
theorem Says.yes {p : Prop} (h : p) : Says (.returned (.bool true)) p := ⟨true, rfl, fun _ => h⟩

/-! ### what 'make([]T, n)' leaves -/
theorem made_cells (z : Value) (hz : z.cells = #[z]) (n : Nat) : (madeCells z.cells (n * 1)).toList = List.replicate n z := by
  simp only [madeCells, hz, Nat.mul_one, Array.toList_map, Array.toList_range]
  rw [List.eq_replicate_iff]
  simp
  intro a _
  rw [Nat.mod_one]
  rfl

theorem madeI {w : World} {base g n : Nat} {e : TypeId} (h : w.ownsRow base e 1 (.slice (some ⟨g, 0, none⟩) n n) n (madeCells (Value.int .i64 0).cells (n * 1)).toList) : IR w g e n (List.replicate n 0) := by
  have := Rw.of_owns h
  unfold IR
  rwa [made_cells _ rfl, ← List.map_replicate] at this

theorem madeB {w : World} {base g n : Nat} {e : TypeId} (h : w.ownsRow base e 1 (.slice (some ⟨g, 0, none⟩) n n) n (madeCells (Value.bool false).cells (n * 1)).toList) : BR w g e n (List.replicate n false) := by
  have := Rw.of_owns h
  unfold BR
  rwa [made_cells _ rfl, ← List.map_replicate] at this

theorem made0 {w : World} {base g n : Nat} {e : TypeId} (h : w.ownsRow base e 1 (.slice (some ⟨g, 0, none⟩) 0 n) 0 []) : IR w g e n [] := Rw.of_owns h

theorem wrapI {n : Int} (h : -9223372036854775808 ≤ n ∧ n ≤ 9223372036854775807) : IntKind.i64.wrap n = n := by
  rw [IntKind.wrap_i64]
  omega

/-! ### what is kept -/
theorem grown_trans {a b c : World} {row : Option Nat} (h : a.grownBy b row) (k : b.grownBy c row) : a.grownBy c row :=
  ⟨k.os.trans h.os, k.tape.trans h.tape, k.output.trans h.output, Nat.le_trans h.size k.size, fun i hi hne => (k.block i (Nat.lt_of_lt_of_le hi h.size) hne).trans (h.block i hi hne)⟩

theorem grown_of_below {w w' : World} (h : Below w.heap.size w w') (row : Option Nat) : w.grownBy w' row :=
  ⟨h.os, h.tape, h.output, h.size, fun k hk _ => h.block k hk⟩

theorem below_of_grown {w w' : World} {row : Option Nat} (h : w.grownBy w' row) {B : Nat} (hB : B ≤ w.heap.size) (hr : ∀ k, row = some k → B ≤ k) : Below B w w' :=
  (Below.refl B w).grown h hB hr

theorem grown_setCell (w : World) (g i : Nat) (v : Value) : w.grownBy (w.setCell ⟨g, i, none⟩ v) (some g) :=
  ⟨rfl, rfl, rfl, by simp [World.setCell], fun k _ hne => Below.heap_setCell w _ v k (fun h => hne (by rw [h]))⟩

theorem grown_setNew {a w : World} {row : Option Nat} (h : a.grownBy w row) {p : Addr} (hp : a.heap.size ≤ p.block) (v : Value) : a.grownBy (w.setCell p v) row :=
  ⟨h.os, h.tape, h.output, by simpa [World.setCell] using h.size, fun k hk hne => (Below.heap_setCell w p v k (by omega)).trans (h.block k hk hne)⟩

theorem grown_set {a w : World} {g : Nat} (h : a.grownBy w (some g)) (i : Nat) (v : Value) : a.grownBy (w.setCell ⟨g, i, none⟩ v) (some g) :=
  grown_trans h (grown_setCell w g i v)

theorem grown_drew {a w : World} {row : Option Nat} (h : a.grownBy w row) (n : Nat) : a.grownBy (w.drewN n) row := ⟨h.os, h.tape, h.output, h.size, h.block⟩

theorem grown_drewN (w : World) (n : Nat) (row : Option Nat) : w.grownBy (w.drewN n) row := ⟨rfl, rfl, rfl, Nat.le_refl _, fun _ _ _ => rfl⟩

theorem below_drewN {B : Nat} {a w : World} (h : Below B a w) (n : Nat) : Below B a (w.drewN n) := ⟨h.os, h.tape, h.output, h.size, h.block⟩

/-- 'xs = append(xs, z)' where there is room: the row grows by one. -/
theorem wpList_push {P : Program} (w : World) {ops : Array Oper} {rest : List Oper} {o : Oper} {a : Act} {Q : Exit → Act → World → Prop}
    (hg : o.guard = none) (s x : Operand) (t : TypeId) (hop : o.op = Op.call { callee := Callee.builtin Builtin.append, args := #[s, x], argTypes := #[t, t] })
    (e : TypeId) (i : TypeInfo) (h1 : P.underlying t = some (.slice e)) (h2 : P.info? e = some i) (h4 : i.size = 1)
    (g k cap : Nat) (xs : List Int) (hk : xs.length = k) (hs : a.eval s = .slice (some ⟨g, 0, none⟩) k cap) (hr : IR w g e cap xs) (hcap : cap ≤ maxLen) (ad : Addr) (c : Nat) (z : Int)
    (hx : a.eval x = .slice (some ad) 1 c) (hc : w.cell? ad = some (.int .i64 z)) (b1 : k + 1 ≤ cap)
    (hK : ∀ w', IR w' g e cap (xs ++ [z]) → w.grownBy w' (some g) → wpList P ops Q rest (a.put o.dst (.slice (some ⟨g, 0, none⟩) (k + 1) cap)) w') :
    wpList P ops Q (o :: rest) a w := by
  subst hk
  have hown := Rw.owns hr (base := 0) (Nat.zero_le _) hcap
  rw [List.length_map] at hown
  refine wpList_append_fits w hg s x t hop 0 e i 1 h1 h2 h4 g xs.length cap _ hs hown ad 1 c [.int .i64 z] hx rfl ?_ (ints_oneCell .i64 [z]) b1 ?_
  · intro j u hj
    match j, hj with
    | 0, hj =>
      simp at hj
      subst hj
      simpa [Addr.add] using hc
  · intro w' ho hgr
    refine hK w' ?_ hgr
    have := Rw.of_owns ho
    unfold IR
    simpa using this

theorem cell_new (w : World) (v : Value) (e : TypeId) : (w.alloc (.cells #[v] e)).cell? ⟨w.heap.size, 0, none⟩ = some v := by
  rw [cell_of_row _ _ 0 #[v] e (0, 0) (heap_alloc_new w _)]
  rfl

theorem grown_alloc {a w : World} {row : Option Nat} (h : a.grownBy w row) (o : Obj) : a.grownBy (w.alloc o) row :=
  grown_trans h (World.grownBy_alloc w o row)

end Go.Proofs.Qxb6605323a
