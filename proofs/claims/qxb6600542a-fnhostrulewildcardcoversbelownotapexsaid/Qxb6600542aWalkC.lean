import Derived.Test.Qxb6600542aWalkB
namespace Go.Proofs.Qxb6600542a
open Go.RowKit
set_option linter.unusedVariables false

/-- w' is w with new blocks behind it: what lay in w's cells lies there still. -/
def Gr (w w' : World) : Prop := Grown w w' ∧ ∀ a v, w.cell? a = some v → w'.cell? a = some v

theorem alloc_keeps (w : World) (c : Array Value) (t : TypeId) (a : Addr) (v : Value) (h : w.cell? a = some v) : (w.alloc (.cells c t)).cell? a = some v := by
  have hl := World.block_lt_of_cell? w a h
  have e : (w.alloc (.cells c t)).heap[a.block]? = w.heap[a.block]? := by
    show (w.heap.push _)[a.block]? = _
    rw [Array.getElem?_push_lt hl, Array.getElem?_eq_getElem hl]
  unfold World.cell? at h ⊢
  rw [e]
  exact h

theorem alloc_cell (w : World) (c : Array Value) (t : TypeId) (i : Nat) : (w.alloc (.cells c t)).cell? ⟨w.heap.size, i, none⟩ = c[i]? := by
  have e : (w.alloc (.cells c t)).heap[w.heap.size]? = some (.cells c t) := (MapKept.heap_alloc w _).1
  unfold World.cell?
  simp only [e]
  rfl

theorem Gr.alloc (w : World) (c : Array Value) (t : TypeId) : Gr w (w.alloc (.cells c t)) := ⟨(Grown.refl w).alloc c t, alloc_keeps w c t⟩

theorem Grown.trans' {a b c : World} (h1 : Grown a b) (h2 : Grown b c) : Grown a c :=
  ⟨World.keptBut_trans h1.1 h2.1, fun x => (h2.2.1 x).trans (h1.2.1 x), Nat.le_trans h1.2.2 h2.2.2⟩

theorem Gr.trans {a b c : World} (h1 : Gr a b) (h2 : Gr b c) : Gr a c :=
  ⟨Grown.trans' h1.1 h2.1, fun x v h => h2.2 x v (h1.2 x v h)⟩

def Clo (entry host : ByteArray) (b : Bool) : Prop := ∀ (B : Nat) (w : World), w.cell? ⟨B, 0, none⟩ = some (.string host) →
    Calls Try.prog 41 #[.string entry, .pointer (some ⟨B, 0, none⟩)] w fun e w' => e = .returned (.bool b) ∧ w' = w

/-- A rule without ports. -/
theorem holds35_any (entry host : ByteArray) (b : Bool) (B g : Nat) (port : Int) (w : World) (hclo : Clo entry host b)
    (h1 : w.cell? ⟨B, 1, none⟩ = some (.slice (some ⟨g, 0, none⟩) 1 1)) (h2 : w.cell? ⟨B, 2, none⟩ = some (.slice none 0 0)) (hg : w.cell? ⟨g, 0, none⟩ = some (.string entry)) :
    Calls Try.prog 35 #[.pointer (some ⟨B, 0, none⟩), .string host, .int .i64 port] w fun e w' => e = .returned (.bool b) ∧ Gr w w' := by
  have k1 := alloc_keeps w #[.string host] 9 _ _ h1
  have k2 := alloc_keeps w #[.string host] 9 _ _ h2
  have kg := alloc_keeps w #[.string host] 9 _ _ hg
  have kh : (w.alloc (.cells #[.string host] 9)).cell? ⟨w.heap.size, 0, none⟩ = some (.string host) := alloc_cell w _ _ 0
  go_enter Try.func35, Try.ntmps35
  go_wp2_with fail
  refine (has40 b entry g _ _ kg (hclo _ _ kh)).mono ?_
  rintro e w' ⟨rfl, rfl⟩
  go_wp2
  go_ret
  exact ⟨rfl, Gr.alloc _ _ _⟩

/-- A rule of one port, held against another one. -/
theorem holds35_off (entry host : ByteArray) (B g gp : Nat) (x port : Int) (w : World) (hx : port ≠ x)
    (h1 : w.cell? ⟨B, 1, none⟩ = some (.slice (some ⟨g, 0, none⟩) 1 1)) (h2 : w.cell? ⟨B, 2, none⟩ = some (.slice (some ⟨gp, 0, none⟩) 1 1)) (hp : w.cell? ⟨gp, 0, none⟩ = some (.int .i64 x)) :
    Calls Try.prog 35 #[.pointer (some ⟨B, 0, none⟩), .string host, .int .i64 port] w fun e w' => e = .returned (.bool false) ∧ Gr w w' := by
  have k1 := alloc_keeps w #[.string host] 9 _ _ h1
  have k2 := alloc_keeps w #[.string host] 9 _ _ h2
  have kp := alloc_keeps w #[.string host] 9 _ _ hp
  go_enter Try.func35, Try.ntmps35
  go_wp2_with fail
  refine (has39 x port gp _ kp).mono ?_
  rintro e w' ⟨rfl, rfl⟩
  rw [decide_eq_false hx]
  go_wp2
  go_ret
  exact ⟨rfl, Gr.alloc _ _ _⟩

/-- A rule of one port, held against it. -/
theorem holds35_on (entry host : ByteArray) (b : Bool) (B g gp : Nat) (x : Int) (w : World) (hclo : Clo entry host b)
    (h1 : w.cell? ⟨B, 1, none⟩ = some (.slice (some ⟨g, 0, none⟩) 1 1)) (h2 : w.cell? ⟨B, 2, none⟩ = some (.slice (some ⟨gp, 0, none⟩) 1 1)) (hp : w.cell? ⟨gp, 0, none⟩ = some (.int .i64 x)) (hg : w.cell? ⟨g, 0, none⟩ = some (.string entry)) :
    Calls Try.prog 35 #[.pointer (some ⟨B, 0, none⟩), .string host, .int .i64 x] w fun e w' => e = .returned (.bool b) ∧ Gr w w' := by
  have k1 := alloc_keeps w #[.string host] 9 _ _ h1
  have k2 := alloc_keeps w #[.string host] 9 _ _ h2
  have kg := alloc_keeps w #[.string host] 9 _ _ hg
  have kp := alloc_keeps w #[.string host] 9 _ _ hp
  have kh : (w.alloc (.cells #[.string host] 9)).cell? ⟨w.heap.size, 0, none⟩ = some (.string host) := alloc_cell w _ _ 0
  go_enter Try.func35, Try.ntmps35
  go_wp2_with fail
  refine (has39 x x gp _ kp).mono ?_
  rintro e w' ⟨rfl, rfl⟩
  rw [decide_eq_true rfl]
  go_wp2_with fail
  refine (has40 b entry g _ _ kg (hclo _ _ kh)).mono ?_
  rintro e w' ⟨rfl, rfl⟩
  go_wp2
  go_ret
  exact ⟨rfl, Gr.alloc _ _ _⟩

theorem holds25 (p : Value) (host : ByteArray) (port : Int) (b : Bool) (w : World)
    (h : Calls Try.prog 35 #[p, .string host, .int .i64 port] w fun e w' => e = .returned (.bool b) ∧ Gr w w') :
    Calls Try.prog 25 #[p, .string host, .int .i64 port] w fun e w' => e = .returned (.bool b) ∧ Gr w w' := by
  go_enter Try.func25, Try.ntmps25
  go_wp2_with fail
  refine h.mono ?_
  rintro e w' ⟨rfl, hw⟩
  go_wp2
  go_ret
  exact ⟨rfl, hw⟩

end Go.Proofs.Qxb6600542a
