import Derived.Test.Qxb6605487aWalkL
import Derived.ArgAppend
namespace Go.Proofs.Qxb6605487a
open Go.RowKit
set_option linter.unusedVariables false

/-- The bytes of the first k rows. -/
def totL (bs : Nat → List Int) : Nat → Nat
  | 0 => 0
  | k + 1 => totL bs k + (bs k).length

theorem totL_le (bs : Nat → List Int) : ∀ k r, r < k → (bs r).length ≤ totL bs k := by
  intro k
  induction k with
  | zero => intro r hr; omega
  | succ k ih =>
    intro r hr
    simp only [totL]
    by_cases h : r = k
    · subst h; omega
    · have := ih r (by omega)
      omega

theorem totL_mono (bs : Nat → List Int) : ∀ k r, r ≤ k → totL bs r ≤ totL bs k := by
  intro k
  induction k with
  | zero =>
    intro r hr
    rw [show r = 0 by omega]
    exact Nat.le_refl _
  | succ k ih =>
    intro r hr
    by_cases h : r = k + 1
    · subst h; exact Nat.le_refl _
    · have := ih r (by omega)
      simp only [totL]
      omega

/-- v is a copy of a row, in blocks behind N. -/
def Own (w : World) (N : Nat) (v : Value) (isn : Bool) (bs : List Int) : Prop :=
  ∃ A2 : Option Addr, v = .slice A2 bs.length bs.length ∧ A2.isNone = isn ∧ (0 < bs.length → ∃ K, A2 = some ⟨K, 0, none⟩ ∧ N < K ∧ UR w K 5 bs.length bs)

theorem Own.below {w w' : World} {N : Nat} {v : Value} {isn : Bool} {bs : List Int} (h : Own w N v isn bs) (hb : Below w.heap.size w w') : Own w' N v isn bs := by
  obtain ⟨A2, h1, h2, h3⟩ := h
  refine ⟨A2, h1, h2, fun hp => ?_⟩
  obtain ⟨K, k1, k2, k3⟩ := h3 hp
  exact ⟨K, k1, k2, k3.below hb k3.lt⟩

theorem Own.setOther {w : World} {N : Nat} {v : Value} {isn : Bool} {bs : List Int} (h : Own w N v isn bs) {p : Addr} (hp : p.block = N) (x : Value) : Own (w.setCell p x) N v isn bs := by
  obtain ⟨A2, h1, h2, h3⟩ := h
  refine ⟨A2, h1, h2, fun hl => ?_⟩
  obtain ⟨K, k1, k2, k3⟩ := h3 hl
  exact ⟨K, k1, k2, k3.setOther (by omega) x⟩

/-- Block R holds the copies. -/
def OwnAll (w : World) (R len k : Nat) (A : Nat → Option Addr) (bs : Nat → List Int) : Prop :=
  ∃ vals : List Value, Rw w R 22 len vals ∧ vals.length = len ∧ ∀ r, r < k → ∃ v, vals[r]? = some v ∧ Own w R v (A r).isNone (bs r)

theorem Rw.valD {w : World} {g : Nat} {e : TypeId} {cap : Nat} {xs : List Value} (h : Rw w g e cap xs) {i : Nat} (hi : i < xs.length) : ∃ v, w.cell? ⟨g, i, none⟩ = some v :=
  ⟨_, h.cell (List.getElem?_eq_getElem hi)⟩

theorem copy7_own (a : Option Addr) (cap n R : Nat) (zs : List Int) (w : World) (hn : zs.length = n) (hm : n ≤ 1048576) (h : Arg w a cap zs) (hR : R < w.heap.size) :
    Calls Try.prog 7 #[.slice a n cap] w fun e w' => ∃ A2 : Option Addr, e = .returned (.slice A2 n n) ∧ Own w' R (.slice A2 n n) a.isNone zs ∧ Below w.heap.size w w' := by
  subst hn
  cases a with
  | none =>
    obtain ⟨rfl, rfl⟩ := h.nil rfl
    refine (copy7_nil w).mono ?_
    rintro e w' ⟨rfl, rfl⟩
    exact ⟨none, rfl, ⟨none, rfl, rfl, fun h => absurd h (Nat.lt_irrefl _)⟩, Below.refl _ _⟩
  | some x =>
    refine (copy7_some x cap zs w hm h.cells).mono ?_
    rintro e w' ⟨rfl, hr, hb⟩
    exact ⟨_, rfl, ⟨_, rfl, rfl, fun _ => ⟨_, rfl, hR, hr⟩⟩, hb⟩

theorem OwnAll.step {w : World} {R len k : Nat} {A : Nat → Option Addr} {bs : Nat → List Int} (h : OwnAll w R len k A bs) {w' : World} (hb : Below w.heap.size w w') (hk : k < len) {v : Value} (hv : Own w' R v (A k).isNone (bs k)) :
    OwnAll (w'.setCell ⟨R, k, none⟩ v) R len (k + 1) A bs := by
  obtain ⟨vals, h1, h2, h3⟩ := h
  refine ⟨vals.set k v, (Rw.below h1 hb h1.lt).set k v, by simpa using h2, ?_⟩
  intro r hr
  by_cases hrk : r = k
  · subst hrk
    exact ⟨v, by rw [List.getElem?_set_self (by omega)], hv.setOther rfl _⟩
  · obtain ⟨u, hu, ho⟩ := h3 r (by omega)
    exact ⟨u, by rw [List.getElem?_set_ne (by omega)]; exact hu, (ho.below hb).setOther rfl _⟩

theorem OwnAll.below {w : World} {R len k : Nat} {A : Nat → Option Addr} {bs : Nat → List Int} (h : OwnAll w R len k A bs) {w' : World} (hb : Below w.heap.size w w') : OwnAll w' R len k A bs := by
  obtain ⟨vals, h1, h2, h3⟩ := h
  refine ⟨vals, Rw.below h1 hb h1.lt, h2, fun r hr => ?_⟩
  obtain ⟨u, hu, ho⟩ := h3 r hr
  exact ⟨u, hu, ho.below hb⟩

/-- v is what the step handed out for a row. -/
def GotOne (w : World) (N : Nat) (a : Option Addr) (l : Nat) (v : Value) (isn : Bool) (bs : List Int) : Prop :=
  ∃ O : Option Addr, v = .slice O bs.length bs.length ∧ O.isNone = isn ∧ Safe w N a l O bs

/-- Block G holds what the first k steps handed out. -/
def GotAll (w : World) (G len k : Nat) (a : Option Addr) (l : Nat) (A : Nat → Option Addr) (bs : Nat → List Int) : Prop :=
  ∃ gv : List Value, Rw w G 22 len gv ∧ gv.length = len ∧ ∀ r, r < k → ∃ v, gv[r]? = some v ∧ GotOne w (G + 1) a l v (A r).isNone (bs r)

theorem GotAll.step {w : World} {G len k : Nat} {a a' : Option Addr} {l l' : Nat} {A : Nat → Option Addr} {bs : Nat → List Int} (h : GotAll w G len k a l A bs) {w' : World} (hb : Below (G + 1) w w') (hk : k < len)
    (hs : ∀ P cs, Safe w (G + 1) a l P cs → Safe w' (G + 1) a' l' P cs) {v : Value} (hv : GotOne w' (G + 1) a' l' v (A k).isNone (bs k)) :
    GotAll (w'.setCell ⟨G, k, none⟩ v) G len (k + 1) a' l' A bs := by
  obtain ⟨gv, h1, h2, h3⟩ := h
  refine ⟨gv.set k v, (Rw.below h1 hb (Nat.lt_succ_self _)).set k v, by simpa using h2, ?_⟩
  intro r hr
  by_cases hrk : r = k
  · subst hrk
    obtain ⟨O, e1, e2, e3⟩ := hv
    exact ⟨v, by rw [List.getElem?_set_self (by omega)], O, e1, e2, e3.setOther (Nat.lt_succ_self _) _⟩
  · obtain ⟨u, hu, O, e1, e2, e3⟩ := h3 r (by omega)
    exact ⟨u, by rw [List.getElem?_set_ne (by omega)]; exact hu, O, e1, e2, (hs O (bs r) e3).setOther (Nat.lt_succ_self _) _⟩

theorem wrap_wrap (x : Int) : wrap64 (wrap64 x) = wrap64 x := by
  unfold wrap64
  omega

theorem wrap_sub (x t n : Int) : wrap64 (wrap64 (x - t) - n) = wrap64 (x - (t + n)) := by
  unfold wrap64
  omega

/-- Row r and what was handed out for it. -/
def PairAt (w : World) (R G r : Nat) (bs : List Int) : Prop :=
  ∃ A2 O : Option Addr, w.cell? ⟨R, r, none⟩ = some (.slice A2 bs.length bs.length) ∧ w.cell? ⟨G, r, none⟩ = some (.slice O bs.length bs.length) ∧ O.isNone = A2.isNone ∧
    (0 < bs.length → ∃ K g' o' cap cur, A2 = some ⟨K, 0, none⟩ ∧ K < G ∧ UR w K 5 bs.length bs ∧ O = some ⟨g', o', none⟩ ∧ G < g' ∧ UR w g' 5 cap cur ∧ ∀ i, i < bs.length → cur[o' + i]? = bs[i]?)

theorem PairAt.below {w w' : World} {R G r : Nat} {bs : List Int} (h : PairAt w R G r bs) (hb : Below w.heap.size w w') : PairAt w' R G r bs := by
  obtain ⟨A2, O, h1, h2, h3, h4⟩ := h
  refine ⟨A2, O, (hb.cell (World.block_lt_of_cell? w _ h1)).trans h1, (hb.cell (World.block_lt_of_cell? w _ h2)).trans h2, h3, fun hp => ?_⟩
  obtain ⟨K, g', o', cap, cur, e1, e2, e3, e4, e5, e6, e7⟩ := h4 hp
  exact ⟨K, g', o', cap, cur, e1, e2, e3.below hb e3.lt, e4, e5, e6.below hb e6.lt, e7⟩

theorem pairs {V X : World} {R G len : Nat} {a : Option Addr} {l : Nat} {A : Nat → Option Addr} {bs : Nat → List Int} (hV : OwnAll V R len len A bs) (hG : V.heap.size = G) (hb : Below G V X) (hX : GotAll X G len len a l A bs) :
    ∀ r, r < len → PairAt X R G r (bs r) := by
  intro r hr
  subst hG
  obtain ⟨vals, h1, h2, h3⟩ := hV
  obtain ⟨v, hv, A2, rfl, e2, e3⟩ := h3 r hr
  obtain ⟨gv, g1, g2, g3⟩ := hX
  obtain ⟨u, hu, O, rfl, k2, k3⟩ := g3 r hr
  refine ⟨A2, O, (Rw.below h1 hb h1.lt).cell hv, g1.cell hu, k2.trans e2.symm, fun hp => ?_⟩
  obtain ⟨K, c1, c2, c3⟩ := e3 hp
  obtain ⟨g', o', cap, cur, d1, d2, d3, d4, _⟩ := k3 hp
  exact ⟨K, g', o', cap, cur, c1, c3.lt, c3.below hb c3.lt, d1, d2, d3, d4⟩

/-- Appended to. -/
def AppOne (w : World) (N : Nat) (v : Value) (bs : List Int) : Prop :=
  ∃ g c, v = .slice (some ⟨g, 0, none⟩) (bs.length + 1) c ∧ N < g ∧ UR w g 5 c (bs ++ [165])

theorem AppOne.below {w w' : World} {N : Nat} {v : Value} {bs : List Int} (h : AppOne w N v bs) (hb : Below w.heap.size w w') : AppOne w' N v bs := by
  obtain ⟨g, c, h1, h2, h3⟩ := h
  exact ⟨g, c, h1, h2, h3.below hb h3.lt⟩

theorem AppOne.setOther {w : World} {N : Nat} {v : Value} {bs : List Int} (h : AppOne w N v bs) (i : Nat) (x : Value) : AppOne (w.setCell ⟨N, i, none⟩ x) N v bs := by
  obtain ⟨g, c, h1, h2, h3⟩ := h
  exact ⟨g, c, h1, h2, h3.setOther (by show g ≠ N; omega) x⟩

theorem GotOne.below {w w' : World} {N : Nat} {a : Option Addr} {l : Nat} {v : Value} {isn : Bool} {bs : List Int} (h : GotOne w N a l v isn bs) (hb : Below w.heap.size w w') : GotOne w' N a l v isn bs := by
  obtain ⟨O, h1, h2, h3⟩ := h
  exact ⟨O, h1, h2, h3.below hb⟩

/-- Block G: the first k appended to, the rest as they were handed out. -/
def AppAll (w : World) (G len k : Nat) (A : Nat → Option Addr) (bs : Nat → List Int) : Prop :=
  ∃ gv : List Value, Rw w G 22 len gv ∧ gv.length = len ∧ (∀ r, r < k → ∃ v, gv[r]? = some v ∧ AppOne w G v (bs r)) ∧ ∀ r, k ≤ r → r < len → ∃ v, gv[r]? = some v ∧ GotOne w (G + 1) none 0 v (A r).isNone (bs r)

theorem AppAll.start {w w' : World} {G len : Nat} {a : Option Addr} {l : Nat} {A : Nat → Option Addr} {bs : Nat → List Int} (h : GotAll w G len len a l A bs) (hb : Below w.heap.size w w') : AppAll w' G len 0 A bs := by
  obtain ⟨gv, h1, h2, h3⟩ := h
  refine ⟨gv, Rw.below h1 hb h1.lt, h2, fun r hr => by omega, fun r _ hr => ?_⟩
  obtain ⟨v, hv, O, e1, e2, e3⟩ := h3 r hr
  refine ⟨v, hv, O, e1, e2, fun hp => ?_⟩
  obtain ⟨g, o, cap, cur, d1, d2, d3, d4, _⟩ := e3 hp
  exact ⟨g, o, cap, cur, d1, d2, d3.below hb d3.lt, d4, fun g o h => by cases h⟩

theorem AppAll.step {w w' : World} {G len k : Nat} {A : Nat → Option Addr} {bs : Nat → List Int} (h : AppAll w G len k A bs) (hb : Below w.heap.size w w') (hk : k < len) {v : Value} (hv : AppOne w' G v (bs k)) :
    AppAll (w'.setCell ⟨G, k, none⟩ v) G len (k + 1) A bs := by
  obtain ⟨gv, h1, h2, h3, h4⟩ := h
  refine ⟨gv.set k v, (Rw.below h1 hb h1.lt).set k v, by simpa using h2, ?_, ?_⟩
  · intro r hr
    by_cases hrk : r = k
    · subst hrk
      exact ⟨v, by rw [List.getElem?_set_self (by omega)], hv.setOther _ _⟩
    · obtain ⟨u, hu, ho⟩ := h3 r (by omega)
      exact ⟨u, by rw [List.getElem?_set_ne (by omega)]; exact hu, (ho.below hb).setOther _ _⟩
  · intro r hr hl
    obtain ⟨u, hu, O, e1, e2, e3⟩ := h4 r (by omega) hl
    exact ⟨u, by rw [List.getElem?_set_ne (by omega)]; exact hu, O, e1, e2, (e3.below hb).setOther (Nat.lt_succ_self _) _⟩

theorem app_of_owns {w : World} {base n : Nat} {v : Value} {bs : List Int} (hn : bs.length = n) (h : w.ownsRow base 5 1 v (n + 1) (bs.map (Value.int .u8) ++ [Value.int .u8 165])) :
    ∃ g c, v = .slice (some ⟨g, 0, none⟩) (n + 1) c ∧ base ≤ g ∧ UR w g 5 c (bs ++ [165]) := by
  have h' := h
  obtain ⟨h1, h2⟩ := h
  rcases h2 with ⟨_, h3, _⟩ | ⟨g, c, cur, hv, hb, _⟩
  subst hv
  refine ⟨g, c, rfl, hb, ?_⟩
  have := Rw.of_owns h'
  unfold UR
  simpa using this

end Go.Proofs.Qxb6605487a
