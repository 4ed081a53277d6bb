/-
  Plain facts on lists and numbers: no program, no model.
-/
namespace Go.Proofs.Qxb6605323a

theorem fill_at {α : Type} (l : List α) (k : Nat) (d : α) (h : k < l.length) : (l.take k ++ List.replicate (l.length - k) d)[k]? = some d := by
  rw [List.getElem?_append_right (by simp; omega)]
  simp [List.getElem?_replicate]
  omega

theorem fill_step {α : Type} (l : List α) (k : Nat) (z d : α) (hz : l[k]? = some z) : (l.take k ++ List.replicate (l.length - k) d).set k z = l.take (k + 1) ++ List.replicate (l.length - (k + 1)) d := by
  have hlt := (List.getElem?_eq_some_iff.1 hz).1
  have hlen : (l.take k).length = k := by simp; omega
  obtain ⟨m, hm⟩ : ∃ m, l.length - k = m + 1 := ⟨l.length - k - 1, by omega⟩
  rw [List.set_append_right _ _ (by omega), hlen, Nat.sub_self, hm, List.replicate_succ, List.set_cons_zero, show l.length - (k + 1) = m by omega, List.take_add_one, hz]
  simp

theorem pw_get {zs : List Int} (hs : zs.Pairwise (· ≤ ·)) {i j : Nat} {a b : Int} (hij : i ≤ j) (ha : zs[i]? = some a) (hb : zs[j]? = some b) : a ≤ b := by
  by_cases h : i = j
  · subst h
    rw [ha] at hb
    simp at hb
    omega
  · obtain ⟨h1, e1⟩ := List.getElem?_eq_some_iff.1 ha
    obtain ⟨h2, e2⟩ := List.getElem?_eq_some_iff.1 hb
    have := List.pairwise_iff_getElem.1 hs i j h1 h2 (by omega)
    omega

/-- A place up to which all is less than x, and from which on nothing is: x is there or nowhere. -/
theorem has_iff {zs : List Int} (hs : zs.Pairwise (· ≤ ·)) (x : Int) (lo : Nat) (h1 : ∀ i z, i < lo → zs[i]? = some z → z < x) (h2 : ∀ i z, lo ≤ i → zs[i]? = some z → x ≤ z) : x ∈ zs ↔ zs[lo]? = some x := by
  constructor
  · intro h
    obtain ⟨i, hi⟩ := List.mem_iff_getElem?.1 h
    by_cases hlo : i < lo
    · have := h1 i x hlo hi
      omega
    · have hil := (List.getElem?_eq_some_iff.1 hi).1
      obtain ⟨y, hy⟩ : ∃ y, zs[lo]? = some y := ⟨_, List.getElem?_eq_getElem (by omega)⟩
      have a := pw_get hs (by omega) hy hi
      have b := h2 lo y (Nat.le_refl _) hy
      rw [hy]
      congr 1
      omega
  · intro h
    exact List.mem_of_getElem? h

/-- Is x among zs? -/
def hasB (zs : List Int) (x : Int) : Bool := decide (x ∈ zs)

theorem hasB_eq {zs : List Int} {x : Int} {b : Bool} (h : x ∈ zs ↔ b = true) : hasB zs x = b := by
  unfold hasB
  cases b <;> simp_all

theorem hasB_true {zs : List Int} {x : Int} : hasB zs x = true ↔ x ∈ zs := by simp [hasB]

/-- Which of the numbers below n are among l. -/
def markB (n : Nat) (l : List Int) : List Bool := (List.range n).map fun (v : Nat) => decide ((v : Int) ∈ l)

@[simp] theorem markB_length (n : Nat) (l : List Int) : (markB n l).length = n := by simp [markB]

theorem markB_get (n : Nat) (l : List Int) (v : Nat) (h : v < n) : (markB n l)[v]? = some (decide ((v : Int) ∈ l)) := by
  simp [markB, h]

theorem markB_nil (n : Nat) : markB n [] = List.replicate n false := by
  rw [List.eq_replicate_iff]
  simp [markB]

theorem markB_set (n : Nat) (l l' : List Int) (v : Nat) (h : ∀ x, x ∈ l' ↔ x ∈ l ∨ x = (v : Int)) : (markB n l).set v true = markB n l' := by
  apply List.ext_getElem?
  intro i
  rw [List.getElem?_set]
  by_cases hi : i < n
  · rw [markB_get n l' i hi, markB_get n l i hi]
    by_cases hvi : v = i
    · subst hvi
      simp [hi, h]
    · rw [if_neg hvi]
      congr 1
      have : ¬ (i : Int) = (v : Int) := by omega
      simp [h, this]
  · rw [List.getElem?_eq_none (by simpa using hi), List.getElem?_eq_none (by simpa using hi)]
    split
    · rw [if_neg (by simpa using by omega)]
    · rfl

theorem take_snoc {α : Type} {l : List α} {k : Nat} {z : α} (h : l[k]? = some z) : l.take (k + 1) = l.take k ++ [z] := by
  rw [List.take_add_one, h]
  rfl

/-- l names each of the numbers below its length once. -/
def IsPerm (l : List Int) : Prop := l.Nodup ∧ ∀ z ∈ l, 0 ≤ z ∧ z < (l.length : Int)

/-- 'start' has an entry for each of n peers and one more; they do not fall; the neighbours that they name are peers. -/
structure WF (n : Nat) (S N : List Int) : Prop where
  len : n + 1 ≤ S.length
  zero : 0 ≤ S.getD 0 0
  mono : ∀ i, i < n → S.getD i 0 ≤ S.getD (i + 1) 0
  last : S.getD n 0 ≤ (N.length : Int)
  rng : ∀ i k : Nat, i < n → S.getD i 0 ≤ (k : Int) → (k : Int) < S.getD (i + 1) 0 → 0 ≤ N.getD k 0 ∧ N.getD k 0 < (n : Int)

theorem mono_le {S : List Int} {n : Nat} (h : ∀ i, i < n → S.getD i 0 ≤ S.getD (i + 1) 0) {i j : Nat} (hij : i ≤ j) (hj : j ≤ n) : S.getD i 0 ≤ S.getD j 0 := by
  obtain ⟨d, rfl⟩ : ∃ d, j = i + d := ⟨j - i, by omega⟩
  induction d with
  | zero => simp
  | succ d ih =>
    have h1 := ih (by omega) (by omega)
    have h2 := h (i + d) (by omega)
    rw [show i + (d + 1) = i + d + 1 by omega]
    omega

theorem getD_of {l : List Int} {i : Nat} {z : Int} (h : l[i]? = some z) : l.getD i 0 = z := by simp [List.getD, h]
theorem get_of {l : List Int} {i : Nat} (h : i < l.length) : l[i]? = some (l.getD i 0) := by simp [List.getD, h]

/-! ### union-find -/
/-- Nobody's parent is greater than he is. -/
def Dec (P : List Nat) : Prop := ∀ v p : Nat, P[v]? = some p → p ≤ v
/-- f leads each to his root. -/
def Roots (P : List Nat) (f : Nat → Nat) : Prop := ∀ v p : Nat, P[v]? = some p → f v = f p ∧ (p = v → f v = v)

theorem dec_set {P : List Nat} (h : Dec P) {y q : Nat} (hq : q ≤ y) : Dec (P.set y q) := by
  intro v p hp
  rw [List.getElem?_set] at hp
  split at hp
  · rename_i e
    subst e
    split at hp
    · simp at hp; omega
    · simp at hp
  · exact h v p hp

/-- Path halving turns no root. -/
theorem roots_half {P : List Nat} {f : Nat → Nat} (hd : Dec P) (h : Roots P f) {y p q : Nat} (hp : P[y]? = some p) (hq : P[p]? = some q) : Roots (P.set y q) f := by
  intro v r hr
  rw [List.getElem?_set] at hr
  split at hr
  · rename_i e
    subst e
    split at hr
    · simp at hr
      subst hr
      have h1 := h y p hp
      have h2 := h p q hq
      have h3 := hd y p hp
      have h4 := hd p q hq
      refine ⟨by omega, fun e => h1.2 (by omega)⟩
    · simp at hr
  · exact h v r hr

theorem root_is {P : List Nat} {f : Nat → Nat} (hd : Dec P) (h : Roots P f) : ∀ v, v < P.length → f v ≤ v ∧ P[f v]? = some (f v) := by
  intro v
  induction v using Nat.strongRecOn with
  | _ v ih =>
    intro hv
    obtain ⟨p, hp⟩ : ∃ p, P[v]? = some p := ⟨_, List.getElem?_eq_getElem hv⟩
    have h1 := hd v p hp
    have h2 := h v p hp
    by_cases e : p = v
    · rw [h2.2 e]
      subst e
      exact ⟨Nat.le_refl _, hp⟩
    · have := ih p (by omega) (by omega)
      rw [h2.1]
      exact ⟨by omega, this.2⟩

theorem root_idem {P : List Nat} {f : Nat → Nat} (hd : Dec P) (h : Roots P f) {v : Nat} (hv : v < P.length) : f (f v) = f v :=
  (h _ _ (root_is hd h v hv).2).2 rfl

/-- Root b is hung under root a. -/
theorem roots_union {P : List Nat} {f : Nat → Nat} (h : Roots P f) {a b : Nat} (ha : f a = a) (hab : a ≠ b) (hb : f b = b) :
    Roots (P.set b a) (fun v => if f v = b then a else f v) := by
  intro v r hr
  rw [List.getElem?_set] at hr
  split at hr
  · rename_i e
    subst e
    split at hr
    · simp at hr
      subst hr
      simp [hb, ha, hab]
    · simp at hr
  · rename_i e
    have h1 := h v r hr
    refine ⟨by simp [h1.1], fun e' => ?_⟩
    have := h1.2 e'
    simp [this, Ne.symm e]

end Go.Proofs.Qxb6605323a
