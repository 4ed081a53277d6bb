/-
  Plain facts on graphs given by lists of neighbours: no program, no model.
-/
import Derived.Test.Qxb6605323aPlainSort
namespace Go.Proofs.Qxb6605323a

/-- v lies in every set that holds u and is closed under the links. -/
def Conn (A : Nat → List Nat) (u v : Nat) : Prop := ∀ P : Nat → Prop, P u → (∀ x y, P x → y ∈ A x → P y) → P v

structure Gr (n : Nat) (A : Nat → List Nat) : Prop where
  lt : ∀ i v, i < n → v ∈ A i → v < n
  sym : ∀ i v, i < n → v ∈ A i → i ∈ A v

/-- f leads each peer to the least of its component. -/
structure IsRt (n : Nat) (A : Nat → List Nat) (f : Nat → Nat) : Prop where
  le : ∀ v, v < n → f v ≤ v
  conn : ∀ v, v < n → Conn A v (f v)
  edge : ∀ u v, u < n → v ∈ A u → f u = f v

section
variable {n : Nat} {A : Nat → List Nat}

theorem Conn.refl (u : Nat) : Conn A u u := fun _ h _ => h
theorem Conn.step {u v w : Nat} (h : Conn A u v) (hw : w ∈ A v) : Conn A u w := fun P h1 h2 => h2 v w (h P h1 h2) hw
theorem Conn.trans {u v w : Nat} (h : Conn A u v) (k : Conn A v w) : Conn A u w := fun P h1 h2 => k P (h P h1 h2) h2
theorem Conn.one {u v : Nat} (h : v ∈ A u) : Conn A u v := (Conn.refl u).step h
theorem Conn.lt (G : Gr n A) {u v : Nat} (hu : u < n) (h : Conn A u v) : v < n := h (· < n) hu fun x y hx hy => G.lt x y hx hy
theorem Conn.symm (G : Gr n A) {u v : Nat} (hu : u < n) (h : Conn A u v) : Conn A v u :=
  (h (fun x => x < n ∧ Conn A x u) ⟨hu, Conn.refl u⟩ fun x y hx hy => ⟨G.lt x y hx.1 hy, (Conn.one (G.sym x y hx.1 hy)).trans hx.2⟩).2

variable {f g : Nat → Nat}
theorem IsRt.lt (h : IsRt n A f) {v : Nat} (hv : v < n) : f v < n := Nat.lt_of_le_of_lt (h.le v hv) hv
theorem IsRt.of_conn (G : Gr n A) (h : IsRt n A f) {u v : Nat} (hu : u < n) (k : Conn A u v) : f u = f v :=
  (k (fun x => x < n ∧ f u = f x) ⟨hu, rfl⟩ fun x y hx hy => ⟨G.lt x y hx.1 hy, hx.2.trans (h.edge x y hx.1 hy)⟩).2
theorem IsRt.idem (G : Gr n A) (h : IsRt n A f) {v : Nat} (hv : v < n) : f (f v) = f v := (h.of_conn G hv (h.conn v hv)).symm
theorem IsRt.iff (G : Gr n A) (h : IsRt n A f) {u v : Nat} (hu : u < n) (hv : v < n) : f u = f v ↔ Conn A u v := by
  constructor
  · intro e
    have h1 := h.conn u hu
    rw [e] at h1
    exact h1.trans ((h.conn v hv).symm G hv)
  · exact h.of_conn G hu
theorem IsRt.unique (G : Gr n A) (h : IsRt n A f) (k : IsRt n A g) {v : Nat} (hv : v < n) : f v = g v := by
  have h1 : f v = f (g v) := h.of_conn G hv (k.conn v hv)
  have h2 : g v = g (f v) := k.of_conn G hv (h.conn v hv)
  have h3 := h.le (g v) (k.lt hv)
  have h4 := k.le (f v) (h.lt hv)
  omega

theorem least_exists (p : Nat → Prop) : ∀ m, p m → ∃ k, p k ∧ k ≤ m ∧ ∀ j, p j → k ≤ j := by
  intro m
  induction m using Nat.strongRecOn with
  | _ m ih =>
    intro hm
    by_cases h : ∃ j, p j ∧ j < m
    · obtain ⟨j, hj, hlt⟩ := h
      obtain ⟨k, h1, h2, h3⟩ := ih j hlt hj
      exact ⟨k, h1, by omega, h3⟩
    · refine ⟨m, hm, Nat.le_refl _, fun j hj => ?_⟩
      by_cases hjm : j < m
      · exact absurd ⟨j, hj, hjm⟩ h
      · omega

theorem rt_exists (G : Gr n A) : ∃ f, IsRt n A f := by
  have h : ∀ v, ∃ k, Conn A v k ∧ k ≤ v ∧ ∀ j, Conn A v j → k ≤ j := fun v => least_exists (Conn A v) v (Conn.refl v)
  obtain ⟨f, hf⟩ := Classical.axiomOfChoice h
  refine ⟨f, fun v _ => (hf v).2.1, fun v _ => (hf v).1, fun u v hu hv => ?_⟩
  have h1 : Conn A u v := Conn.one hv
  have h2 : Conn A v u := h1.symm G hu
  have a := (hf u).2.2 (f v) (h1.trans (hf v).1)
  have b := (hf v).2.2 (f u) (h2.trans (hf u).1)
  omega
end

/-- The links of a well formed, symmetric adjacency. -/
theorem gr_of {n : Nat} {S N : List Int} (h : WF n S N) (hs : Symm n S N) : Gr n (adj S N) :=
  ⟨fun _ _ hi hv => h.adj_lt hi hv, fun i v hi hv => hs i v hi hv⟩

/-! ### union-find over the links -/
/-- Up to here: what the forest says is so. -/
structure UF (n : Nat) (A : Nat → List Nat) (P : List Nat) (f : Nat → Nat) : Prop where
  len : P.length = n
  dec : Dec P
  roots : Roots P f
  conn : ∀ v, v < n → Conn A v (f v)

section
variable {n : Nat} {A : Nat → List Nat} {P : List Nat} {f : Nat → Nat}
theorem UF.le (h : UF n A P f) {v : Nat} (hv : v < n) : f v ≤ v := (root_is h.dec h.roots v (by rw [h.len]; exact hv)).1
theorem UF.idem (h : UF n A P f) {v : Nat} (hv : v < n) : f (f v) = f v := root_idem h.dec h.roots (by rw [h.len]; exact hv)
theorem UF.lt (h : UF n A P f) {v : Nat} (hv : v < n) : f v < n := Nat.lt_of_le_of_lt (h.le hv) hv
theorem UF.start (n : Nat) (A : Nat → List Nat) : UF n A (List.range n) id := by
  refine ⟨by simp, ?_, ?_, fun v _ => Conn.refl v⟩
  · intro v p hp
    have := (List.getElem?_eq_some_iff.1 hp)
    obtain ⟨h1, h2⟩ := this
    simp at h2
    omega
  · intro v p hp
    obtain ⟨h1, h2⟩ := List.getElem?_eq_some_iff.1 hp
    simp at h2
    subst h2
    exact ⟨rfl, fun _ => rfl⟩
theorem UF.find {P' : List Nat} (h : UF n A P f) (h1 : P'.length = P.length) (h2 : Dec P') (h3 : Roots P' f) : UF n A P' f :=
  ⟨h1.trans h.len, h2, h3, h.conn⟩

/-- The merging of two roots. -/
def merge (f : Nat → Nat) (a b : Nat) : Nat → Nat := fun v => if f v = b then a else f v

theorem merge_eq {u v a b : Nat} (h : f u = f v) : merge f a b u = merge f a b v := by simp [merge, h]
theorem merge_join {u v a b : Nat} (hu : f u = a) (hv : f v = b) : merge f a b u = merge f a b v := by
  unfold merge
  rw [hu, hv, if_pos rfl]
  split <;> rfl

theorem UF.union (G : Gr n A) (h : UF n A P f) {i j a b : Nat} (hi : i < n) (hj : j < n) (hij : Conn A i j) (ha : f i = a) (hb : f j = b) (hab : a < b) : UF n A (P.set b a) (merge f a b) := by
  have hia := h.idem hi
  have hjb := h.idem hj
  rw [ha] at hia
  rw [hb] at hjb
  refine ⟨by simpa using h.len, dec_set h.dec (by omega), roots_union h.roots hia (by omega) hjb, fun v hv => ?_⟩
  unfold merge
  by_cases e : f v = b
  · rw [if_pos e]
    have h1 := h.conn v hv
    rw [e] at h1
    have h2 := h.conn j hj
    rw [hb] at h2
    have h3 := h.conn i hi
    rw [ha] at h3
    exact h1.trans ((h2.symm G hj).trans ((hij.symm G hi).trans h3))
  · rw [if_neg e]
    exact h.conn v hv

theorem UF.isRt (h : UF n A P f) (he : ∀ u v, u < n → v ∈ A u → f u = f v) : IsRt n A f := ⟨fun _ hv => h.le hv, h.conn, he⟩
end

end Go.Proofs.Qxb6605323a
