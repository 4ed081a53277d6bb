/-
  Words of my own for the walks of this seat: 'Rw w g e cap xs': block g is a row of cap cells of element type e, none frozen, whose first cells are xs. No program is named here.
-/
import Derived.WalkKit
import Derived.Deep.Draws
namespace Go.Proofs.Qxb6605487a
open Go.RowKit

/-- Block g of w: 'cap' cells of element type e, none frozen, the first of which are xs. -/
def Rw (w : World) (g : Nat) (e : TypeId) (cap : Nat) (xs : List Value) : Prop :=
  ∃ cur : Array Value, w.heap[g]? = some (.cells cur e (0, 0)) ∧ cur.size = cap ∧ xs.length ≤ cap ∧ cur.toList.take xs.length = xs

section
variable {w w' : World} {g : Nat} {e : TypeId} {cap : Nat} {xs : List Value}

theorem Rw.lt (h : Rw w g e cap xs) : g < w.heap.size := by
  obtain ⟨cur, h1, _⟩ := h
  exact (Array.getElem?_eq_some_iff.1 h1).1

theorem Rw.le (h : Rw w g e cap xs) : xs.length ≤ cap := by
  obtain ⟨cur, _, _, h1, _⟩ := h
  exact h1

theorem Rw.cell (h : Rw w g e cap xs) {i : Nat} {v : Value} (hi : xs[i]? = some v) : w.cell? ⟨g, i, none⟩ = some v := by
  obtain ⟨cur, h1, h2, h3, h4⟩ := h
  have hlt := (List.getElem?_eq_some_iff.1 hi).1
  rw [cell_of_row w g i cur e (0, 0) h1]
  rw [← h4, List.getElem?_take, if_pos hlt] at hi
  simpa using hi

theorem Rw.frozen (h : Rw w g e cap xs) (i : Nat) : w.frozen? ⟨g, i, none⟩ = false := by
  obtain ⟨cur, h1, _⟩ := h
  simp [World.frozen?, h1]

theorem Rw.of_block (h : Rw w g e cap xs) (hb : w'.heap[g]? = w.heap[g]?) : Rw w' g e cap xs := by
  obtain ⟨cur, h1, h2⟩ := h
  exact ⟨cur, by rw [hb]; exact h1, h2⟩

theorem Rw.kept (h : Rw w g e cap xs) {row : Option Nat} (hg : w.grownBy w' row) (hne : some g ≠ row) : Rw w' g e cap xs :=
  h.of_block (hg.block g h.lt hne)

theorem Rw.below (h : Rw w g e cap xs) {B : Nat} (hb : Below B w w') (hB : g < B) : Rw w' g e cap xs :=
  h.of_block (hb.block g hB)

theorem Rw.drew (h : Rw w g e cap xs) : Rw w.drew g e cap xs := h
theorem Rw.drewN (h : Rw w g e cap xs) (n : Nat) : Rw (w.drewN n) g e cap xs := h
theorem Rw.alloc (h : Rw w g e cap xs) (o : Obj) : Rw (w.alloc o) g e cap xs := h.of_block (Below.heap_alloc w o g h.lt)

theorem Rw.setOther (h : Rw w g e cap xs) {a : Addr} (ha : g ≠ a.block) (v : Value) : Rw (w.setCell a v) g e cap xs :=
  h.of_block (Below.heap_setCell w a v g ha)

theorem Rw.set (h : Rw w g e cap xs) (i : Nat) (v : Value) : Rw (w.setCell ⟨g, i, none⟩ v) g e cap (xs.set i v) := by
  obtain ⟨cur, h1, h2, h3, h4⟩ := h
  refine ⟨cur.setIfInBounds i v, ?_, by simpa using h2, by simpa using h3, ?_⟩
  · simp [World.setCell, Array.getElem?_modify, h1]
  · simp only [List.length_set, Array.toList_setIfInBounds]
    rw [List.take_set, h4]

theorem Rw.owns (h : Rw w g e cap xs) {base : Nat} (hb : base ≤ g) (hc : cap ≤ maxLen) :
    w.ownsRow base e 1 (.slice (some ⟨g, 0, none⟩) xs.length cap) xs.length xs := by
  obtain ⟨cur, h1, h2, h3, h4⟩ := h
  exact ⟨by simp, .inr ⟨g, cap, cur, rfl, hb, h1, h3, hc, by simpa using h2, by simpa using h4⟩⟩

theorem Rw.of_owns {base n : Nat} (h : w.ownsRow base e 1 (.slice (some ⟨g, 0, none⟩) n cap) n xs) : Rw w g e cap xs := by
  obtain ⟨h1, h2⟩ := h
  rcases h2 with ⟨h2, _⟩ | ⟨g', cap', cur, hv, _, hh, hn, _, hs, ht⟩
  · cases h2
  · cases hv
    have hn' : xs.length = n := by simpa using h1
    exact ⟨cur, hh, by simpa using hs, by omega, by rw [hn']; simpa using ht⟩

theorem Rw.made (w : World) (e : TypeId) (cs : List Value) : Rw (w.alloc (.cells cs.toArray e)) w.heap.size e cs.length cs :=
  ⟨cs.toArray, heap_alloc_new w _, by simp, Nat.le_refl _, by simp⟩
end

/-- A row of bytes. -/
def UR (w : World) (g : Nat) (e : TypeId) (cap : Nat) (zs : List Int) : Prop := Rw w g e cap (zs.map (Value.int .u8))

section
variable {w w' : World} {g : Nat} {e : TypeId} {cap : Nat} {zs : List Int}
theorem UR.lt (h : UR w g e cap zs) : g < w.heap.size := Rw.lt h
theorem UR.le (h : UR w g e cap zs) : zs.length ≤ cap := by simpa using Rw.le h
theorem UR.cell (h : UR w g e cap zs) {i : Nat} {x : Int} (hi : zs[i]? = some x) : w.cell? ⟨g, i, none⟩ = some (.int .u8 x) :=
  Rw.cell h (by simp [hi])
theorem UR.cellD (h : UR w g e cap zs) {i : Nat} (hi : i < zs.length) : w.cell? ⟨g, i, none⟩ = some (.int .u8 (zs.getD i 0)) :=
  h.cell (by simp [hi])
theorem UR.frozen (h : UR w g e cap zs) (i : Nat) : w.frozen? ⟨g, i, none⟩ = false := Rw.frozen h i
theorem UR.kept (h : UR w g e cap zs) {row : Option Nat} (hg : w.grownBy w' row) (hne : some g ≠ row) : UR w' g e cap zs := Rw.kept h hg hne
theorem UR.below (h : UR w g e cap zs) {B : Nat} (hb : Below B w w') (hB : g < B) : UR w' g e cap zs := Rw.below h hb hB
theorem UR.drew (h : UR w g e cap zs) : UR w.drew g e cap zs := h
theorem UR.drewN (h : UR w g e cap zs) (n : Nat) : UR (w.drewN n) g e cap zs := h
theorem UR.alloc (h : UR w g e cap zs) (o : Obj) : UR (w.alloc o) g e cap zs := Rw.alloc h o
theorem UR.setOther (h : UR w g e cap zs) {a : Addr} (ha : g ≠ a.block) (v : Value) : UR (w.setCell a v) g e cap zs := Rw.setOther h ha v
theorem UR.set (h : UR w g e cap zs) (i : Nat) (x : Int) : UR (w.setCell ⟨g, i, none⟩ (.int .u8 x)) g e cap (zs.set i x) := by
  have := Rw.set h i (.int .u8 x)
  unfold UR
  rwa [List.map_set]
end

/-! ### what 'make([]T, n)' leaves -/
theorem made_cells (z : Value) (hz : z.cells = #[z]) (n : Nat) : (madeCells z.cells (n * 1)).toList = List.replicate n z := by
  simp only [madeCells, hz, Nat.mul_one, Array.toList_map, Array.toList_range]
  rw [List.eq_replicate_iff]
  simp
  intro a _
  rw [Nat.mod_one]
  rfl

theorem madeU {w : World} {base g n : Nat} {e : TypeId} (h : w.ownsRow base e 1 (.slice (some ⟨g, 0, none⟩) n n) n (madeCells (Value.int .u8 0).cells (n * 1)).toList) : UR w g e n (List.replicate n 0) := by
  have := Rw.of_owns h
  unfold UR
  rwa [made_cells _ rfl, ← List.map_replicate] at this

theorem made0 {w : World} {base g n : Nat} {e : TypeId} (h : w.ownsRow base e 1 (.slice (some ⟨g, 0, none⟩) 0 n) 0 []) : UR w g e n [] := Rw.of_owns h

theorem wrapI {n : Int} (h : -9223372036854775808 ≤ n ∧ n ≤ 9223372036854775807) : IntKind.i64.wrap n = n := by
  rw [IntKind.wrap_i64]
  omega

/-! ### what is kept -/
theorem grown_trans {a b c : World} {row : Option Nat} (h : a.grownBy b row) (k : b.grownBy c row) : a.grownBy c row :=
  ⟨k.os.trans h.os, k.tape.trans h.tape, k.output.trans h.output, Nat.le_trans h.size k.size, fun i hi hne => (k.block i (Nat.lt_of_lt_of_le hi h.size) hne).trans (h.block i hi hne)⟩

theorem grown_of_below {w w' : World} (h : Below w.heap.size w w') (row : Option Nat) : w.grownBy w' row :=
  ⟨h.os, h.tape, h.output, h.size, fun k hk _ => h.block k hk⟩

theorem below_of_grown {w w' : World} {row : Option Nat} (h : w.grownBy w' row) {B : Nat} (hB : B ≤ w.heap.size) (hr : ∀ k, row = some k → B ≤ k) : Below B w w' :=
  (Below.refl B w).grown h hB hr

theorem grown_setCell (w : World) (g i : Nat) (v : Value) : w.grownBy (w.setCell ⟨g, i, none⟩ v) (some g) :=
  ⟨rfl, rfl, rfl, by simp [World.setCell], fun k _ hne => Below.heap_setCell w _ v k (fun h => hne (by rw [h]))⟩

theorem grown_setNew {a w : World} {row : Option Nat} (h : a.grownBy w row) {p : Addr} (hp : a.heap.size ≤ p.block) (v : Value) : a.grownBy (w.setCell p v) row :=
  ⟨h.os, h.tape, h.output, by simpa [World.setCell] using h.size, fun k hk hne => (Below.heap_setCell w p v k (by omega)).trans (h.block k hk hne)⟩

theorem grown_set {a w : World} {g : Nat} (h : a.grownBy w (some g)) (i : Nat) (v : Value) : a.grownBy (w.setCell ⟨g, i, none⟩ v) (some g) :=
  grown_trans h (grown_setCell w g i v)

theorem grown_drew {a w : World} {row : Option Nat} (h : a.grownBy w row) (n : Nat) : a.grownBy (w.drewN n) row := ⟨h.os, h.tape, h.output, h.size, h.block⟩

theorem grown_drewN (w : World) (n : Nat) (row : Option Nat) : w.grownBy (w.drewN n) row := ⟨rfl, rfl, rfl, Nat.le_refl _, fun _ _ _ => rfl⟩

theorem below_drewN {B : Nat} {a w : World} (h : Below B a w) (n : Nat) : Below B a (w.drewN n) := ⟨h.os, h.tape, h.output, h.size, h.block⟩

/-- 'xs = append(xs, z)' where there is room: the row grows by one. -/
theorem wpList_push {P : Program} (w : World) {ops : Array Oper} {rest : List Oper} {o : Oper} {a : Act} {Q : Exit → Act → World → Prop}
    (hg : o.guard = none) (s x : Operand) (t : TypeId) (hop : o.op = Op.call { callee := Callee.builtin Builtin.append, args := #[s, x], argTypes := #[t, t] })
    (e : TypeId) (i : TypeInfo) (h1 : P.underlying t = some (.slice e)) (h2 : P.info? e = some i) (h4 : i.size = 1)
    (g k cap : Nat) (xs : List Int) (hk : xs.length = k) (hs : a.eval s = .slice (some ⟨g, 0, none⟩) k cap) (hr : UR w g e cap xs) (hcap : cap ≤ maxLen) (ad : Addr) (c : Nat) (z : Int)
    (hx : a.eval x = .slice (some ad) 1 c) (hc : w.cell? ad = some (.int .u8 z)) (b1 : k + 1 ≤ cap)
    (hK : ∀ w', UR w' g e cap (xs ++ [z]) → w.grownBy w' (some g) → wpList P ops Q rest (a.put o.dst (.slice (some ⟨g, 0, none⟩) (k + 1) cap)) w') :
    wpList P ops Q (o :: rest) a w := by
  subst hk
  have hown := Rw.owns hr (base := 0) (Nat.zero_le _) hcap
  rw [List.length_map] at hown
  refine wpList_append_fits w hg s x t hop 0 e i 1 h1 h2 h4 g xs.length cap _ hs hown ad 1 c [.int .u8 z] hx rfl ?_ (ints_oneCell .u8 [z]) b1 ?_
  · intro j u hj
    match j, hj with
    | 0, hj =>
      simp at hj
      subst hj
      simpa [Addr.add] using hc
  · intro w' ho hgr
    refine hK w' ?_ hgr
    have := Rw.of_owns ho
    unfold UR
    simpa using this

theorem cell_new (w : World) (v : Value) (e : TypeId) : (w.alloc (.cells #[v] e)).cell? ⟨w.heap.size, 0, none⟩ = some v := by
  rw [cell_of_row _ _ 0 #[v] e (0, 0) (heap_alloc_new w _)]
  rfl

theorem grown_alloc {a w : World} {row : Option Nat} (h : a.grownBy w row) (o : Obj) : a.grownBy (w.alloc o) row :=
  grown_trans h (World.grownBy_alloc w o row)

/-! ### slices of bytes that are read -/
/-- The slice's elements read zs. -/
def Cells (w : World) (a : Option Addr) (zs : List Int) : Prop :=
  ∀ i z, zs[i]? = some z → ∃ b o, a = some ⟨b, o, none⟩ ∧ w.cell? ⟨b, o + i, none⟩ = some (.int .u8 z)

theorem Cells.below {w w' : World} {a : Option Addr} {zs : List Int} (h : Cells w a zs) (hb : Below w.heap.size w w') : Cells w' a zs := by
  intro i z hz
  obtain ⟨b, o, hx, hc⟩ := h i z hz
  exact ⟨b, o, hx, (hb.cell (World.block_lt_of_cell? w _ hc)).trans hc⟩

theorem UR.cells {w : World} {g : Nat} {e : TypeId} {cap : Nat} {zs : List Int} (h : UR w g e cap zs) : Cells w (some ⟨g, 0, none⟩) zs := by
  intro i z hz
  exact ⟨g, 0, rfl, by simpa using h.cell hz⟩

theorem Cells.at {w : World} {b o : Nat} {zs : List Int} (h : Cells w (some ⟨b, o, none⟩) zs) {i : Nat} {z : Int} (hz : zs[i]? = some z) : w.cell? ⟨b, o + i, none⟩ = some (.int .u8 z) := by
  obtain ⟨b', o', hy, hc⟩ := h i z hz
  cases hy
  exact hc

theorem Cells.ex {w : World} {a : Option Addr} {zs : List Int} (h : Cells w a zs) (hz : 0 < zs.length) : ∃ b o, a = some ⟨b, o, none⟩ := by
  obtain ⟨b, o, hx, _⟩ := h 0 _ (List.getElem?_eq_getElem hz)
  exact ⟨b, o, hx⟩

theorem Cells.nil (w : World) (a : Option Addr) : Cells w a [] := fun i z hz => by simp at hz

/-- A slice argument: nil, or its elements can be read. -/
structure Arg (w : World) (a : Option Addr) (cap : Nat) (zs : List Int) : Prop where
  cells : Cells w a zs
  nil : a = none → zs = [] ∧ cap = 0
  le : zs.length ≤ cap

theorem Arg.below {w w' : World} {a : Option Addr} {cap : Nat} {zs : List Int} (h : Arg w a cap zs) (hb : Below w.heap.size w w') : Arg w' a cap zs :=
  ⟨h.cells.below hb, h.nil, h.le⟩

theorem fill_at {α : Type} (l : List α) (k : Nat) (d : α) (h : k < l.length) : (l.take k ++ List.replicate (l.length - k) d)[k]? = some d := by
  rw [List.getElem?_append_right (by simp; omega)]
  simp [List.getElem?_replicate]
  omega

theorem fill_step {α : Type} (l : List α) (k : Nat) (z d : α) (hz : l[k]? = some z) : (l.take k ++ List.replicate (l.length - k) d).set k z = l.take (k + 1) ++ List.replicate (l.length - (k + 1)) d := by
  have hlt := (List.getElem?_eq_some_iff.1 hz).1
  have hlen : (l.take k).length = k := by simp; omega
  obtain ⟨m, hm⟩ : ∃ m, l.length - k = m + 1 := ⟨l.length - k - 1, by omega⟩
  rw [List.set_append_right _ _ (by omega), hlen, Nat.sub_self, hm, List.replicate_succ, List.set_cons_zero, show l.length - (k + 1) = m by omega, List.take_add_one, hz]
  simp

end Go.Proofs.Qxb6605487a
