/-
  Plain facts for the walk over the components: no program, no model.
-/
import Derived.Test.Qxb6605323aPlainGraph
namespace Go.Proofs.Qxb6605323a

def rootsTo (rt : Nat → Nat) (s : Nat) : List Nat := (List.range s).filter fun i => rt i == i
def cls (n : Nat) (rt : Nat → Nat) (r : Nat) : List Nat := (List.range n).filter fun v => rt v == r
def Least (f : Nat → Int) (l : List Nat) (x : Int) : Prop := (∃ v, v ∈ l ∧ f v = x) ∧ ∀ v, v ∈ l → x ≤ f v
def lst (f : Nat → Int) : List Nat → Int
  | [] => 0
  | a :: l => l.foldl (fun m v => min m (f v)) (f a)
def sz (n : Nat) (rt : Nat → Nat) (r : Nat) : Nat := (cls n rt r).length
/-- Does component r stand ahead of component b? -/
def beat (n : Nat) (rt : Nat → Nat) (f : Nat → Int) (r b : Nat) : Bool := decide (sz n rt b < sz n rt r ∨ (sz n rt r = sz n rt b ∧ lst f (cls n rt r) < lst f (cls n rt b)))
def pickStep (n : Nat) (rt : Nat → Nat) (f : Nat → Int) (o : Option Nat) (r : Nat) : Option Nat :=
  match o with
  | none => some r
  | some b => if beat n rt f r b = true then some r else some b
def bestTo (n : Nat) (rt : Nat → Nat) (f : Nat → Int) (s : Nat) : Option Nat := (rootsTo rt s).foldl (pickStep n rt f) none

section
variable {n : Nat} {A : Nat → List Nat} {rt : Nat → Nat} {f : Nat → Int}

theorem mem_cls {r v : Nat} : v ∈ cls n rt r ↔ v < n ∧ rt v = r := by simp [cls]
theorem nodup_cls (r : Nat) : (cls n rt r).Nodup := List.nodup_range.sublist List.filter_sublist
theorem mem_roots {s r : Nat} : r ∈ rootsTo rt s ↔ r < s ∧ rt r = r := by simp [rootsTo]
theorem roots_skip {s : Nat} (h : rt s ≠ s) : rootsTo rt (s + 1) = rootsTo rt s := by
  simp [rootsTo, List.range_succ, List.filter_append, h]
theorem roots_take {s : Nat} (h : rt s = s) : rootsTo rt (s + 1) = rootsTo rt s ++ [s] := by
  simp [rootsTo, List.range_succ, List.filter_append, h]
theorem best_skip {s : Nat} (h : rt s ≠ s) : bestTo n rt f (s + 1) = bestTo n rt f s := by rw [bestTo, roots_skip h, bestTo]
theorem best_next {s : Nat} (h : rt s = s) : bestTo n rt f (s + 1) = pickStep n rt f (bestTo n rt f s) s := by
  rw [bestTo, roots_take h, List.foldl_append, bestTo]
  rfl

theorem nodup_le {l : List Nat} (h : l.Nodup) (hl : ∀ v, v ∈ l → v < n) : l.length ≤ n := by
  have := h.length_le_of_subset (l₂ := List.range n) fun v hv => List.mem_range.2 (hl v hv)
  simpa using this

/-! ### the least -/
theorem least_unique {l l' : List Nat} {x y : Int} (h : Least f l x) (k : Least f l' y) (hl : ∀ v, v ∈ l ↔ v ∈ l') : x = y := by
  obtain ⟨⟨u, hu, e1⟩, h2⟩ := h
  obtain ⟨⟨v, hv, e2⟩, k2⟩ := k
  have a := h2 v ((hl v).2 hv)
  have b := k2 u ((hl u).1 hu)
  omega
theorem least_one (v : Nat) : Least f [v] (f v) := ⟨⟨v, by simp, rfl⟩, fun u hu => by simp at hu; subst hu; exact Int.le_refl _⟩
theorem least_add {l : List Nat} {x : Int} (h : Least f l x) (v : Nat) : Least f (l ++ [v]) (min x (f v)) := by
  obtain ⟨⟨u, hu, e⟩, h2⟩ := h
  refine ⟨?_, fun y hy => ?_⟩
  · by_cases hx : x ≤ f v
    · exact ⟨u, by simp [hu], by omega⟩
    · exact ⟨v, by simp, by omega⟩
  · rw [List.mem_append] at hy
    rcases hy with hy | hy
    · have := h2 y hy
      omega
    · simp at hy
      subst hy
      omega
theorem least_foldl (l l0 : List Nat) (x : Int) (h : Least f l0 x) : Least f (l0 ++ l) (l.foldl (fun m v => min m (f v)) x) := by
  induction l generalizing l0 x with
  | nil => simpa using h
  | cons a l ih =>
    have := ih (l0 ++ [a]) _ (least_add h a)
    simpa using this
theorem lst_least {l : List Nat} (h : l ≠ []) : Least f l (lst f l) := by
  match l, h with
  | a :: l, _ => exact least_foldl l [a] (f a) (least_one a)

/-! ### the queue -/
structure QInv (n : Nat) (rt : Nat → Nat) (s : Nat) (q : List Nat) : Prop where
  nodup : q.Nodup
  mem : ∀ v, v ∈ q ↔ v < n ∧ rt v < s

theorem QInv.start (n : Nat) (rt : Nat → Nat) : QInv n rt 0 [] := ⟨by simp, fun v => by simp⟩
theorem QInv.skip (G : Gr n A) (R : IsRt n A rt) {s : Nat} {q : List Nat} (h : QInv n rt s q) (hr : rt s ≠ s) : QInv n rt (s + 1) q := by
  refine ⟨h.nodup, fun v => ?_⟩
  rw [h.mem]
  constructor
  · rintro ⟨h1, h2⟩
    exact ⟨h1, by omega⟩
  · rintro ⟨h1, h2⟩
    refine ⟨h1, ?_⟩
    have h3 := R.idem G h1
    by_cases e : rt v = s
    · rw [e] at h3
      exact absurd h3 hr
    · omega

/-- The component of s, as far as it has been met: S; behind the queue q. -/
structure SInv (n : Nat) (rt : Nat → Nat) (f : Nat → Int) (q : List Nat) (s : Nat) (S : List Nat) (x : Int) : Prop where
  nodup : (q ++ S).Nodup
  qlt : ∀ v, v ∈ q → v < n
  mem : ∀ v, v ∈ S → v < n ∧ rt v = s
  has : s ∈ S
  least : Least f S x

theorem SInv.start {s : Nat} {q : List Nat} (hs : s < n) (h : QInv n rt s q) (hr : rt s = s) : SInv n rt f q s [s] (f s) := by
  refine ⟨?_, fun v hv => ((h.mem v).1 hv).1, ?_, by simp, least_one s⟩
  · rw [List.nodup_append]
    refine ⟨h.nodup, by simp, ?_⟩
    intro a ha b hb e
    simp at hb
    subst hb
    subst e
    have := ((h.mem a).1 ha).2
    omega
  · intro v hv
    simp at hv
    subst hv
    exact ⟨hs, hr⟩

theorem SInv.lt {s : Nat} {q S : List Nat} {x : Int} (h : SInv n rt f q s S x) {v : Nat} (hv : v ∈ q ++ S) : v < n := by
  rw [List.mem_append] at hv
  rcases hv with hv | hv
  · exact h.qlt v hv
  · exact (h.mem v hv).1

theorem SInv.len {s : Nat} {q S : List Nat} {x : Int} (h : SInv n rt f q s S x) : (q ++ S).length ≤ n := nodup_le h.nodup fun _ hv => h.lt hv

theorem SInv.add {s : Nat} {q S : List Nat} {x : Int} (h : SInv n rt f q s S x) {v : Nat} (hv : v < n) (hr : rt v = s) (hn : v ∉ q ++ S) : SInv n rt f q s (S ++ [v]) (min x (f v)) := by
  refine ⟨?_, h.qlt, ?_, by simp [h.has], least_add h.least v⟩
  · rw [← List.append_assoc, List.nodup_append]
    refine ⟨h.nodup, by simp, ?_⟩
    intro a ha b hb e
    simp at hb
    subst hb
    subst e
    exact hn ha
  · intro u hu
    rw [List.mem_append] at hu
    rcases hu with hu | hu
    · exact h.mem u hu
    · simp at hu
      subst hu
      exact ⟨hv, hr⟩

/-- Nothing is left to be met: S is the component. -/
theorem SInv.done (G : Gr n A) (R : IsRt n A rt) {s : Nat} {q S : List Nat} {x : Int} (hs : s < n) (h : SInv n rt f q s S x) (hr : rt s = s) (hc : ∀ u, u ∈ S → ∀ v, v ∈ A u → v ∈ S) : S.Perm (cls n rt s) := by
  refine (List.perm_ext_iff_of_nodup ((List.nodup_append.1 h.nodup).2.1) (nodup_cls s)).2 fun v => ?_
  rw [mem_cls]
  constructor
  · exact h.mem v
  · rintro ⟨h1, h2⟩
    have h3 : Conn A s v := (R.iff G hs h1).1 (by rw [hr, h2])
    exact h3 (· ∈ S) h.has fun x y hx hy => hc x hx y hy

theorem QInv.next {s : Nat} {q S : List Nat} {x : Int} (h : QInv n rt s q) (k : SInv n rt f q s S x) (hp : S.Perm (cls n rt s)) : QInv n rt (s + 1) (q ++ S) := by
  refine ⟨k.nodup, fun v => ?_⟩
  rw [List.mem_append, h.mem, hp.mem_iff, mem_cls]
  constructor
  · rintro (⟨h1, h2⟩ | ⟨h1, h2⟩) <;> exact ⟨h1, by omega⟩
  · rintro ⟨h1, h2⟩
    by_cases e : rt v = s
    · exact .inr ⟨h1, e⟩
    · exact .inl ⟨h1, by omega⟩

/-! ### the best so far -/
def BestInv (n : Nat) (rt : Nat → Nat) (f : Nat → Int) (s : Nat) (q : List Nat) (lo hi : Nat) (bl : Int) : Prop :=
  lo ≤ hi ∧ hi ≤ q.length ∧ ((bestTo n rt f s = none ∧ hi = lo) ∨ ∃ b, bestTo n rt f s = some b ∧ ((q.drop lo).take (hi - lo)).Perm (cls n rt b) ∧ bl = lst f (cls n rt b))

theorem BestInv.start (n : Nat) (rt : Nat → Nat) (f : Nat → Int) : BestInv n rt f 0 [] 0 0 0 := ⟨Nat.le_refl _, by simp, .inl ⟨by simp [bestTo, rootsTo], rfl⟩⟩
theorem BestInv.skip {s lo hi : Nat} {q : List Nat} {bl : Int} (h : BestInv n rt f s q lo hi bl) (hr : rt s ≠ s) : BestInv n rt f (s + 1) q lo hi bl := by
  unfold BestInv
  rw [best_skip hr]
  exact h

theorem cls_ne {s : Nat} (hs : s < n) (hr : rt s = s) : cls n rt s ≠ [] := by
  intro h
  have : s ∈ cls n rt s := mem_cls.2 ⟨hs, hr⟩
  rw [h] at this
  simp at this

theorem least_cls {s : Nat} {q S : List Nat} {x : Int} (hs : s < n) (hr : rt s = s) (k : SInv n rt f q s S x) (hp : S.Perm (cls n rt s)) : x = lst f (cls n rt s) :=
  least_unique k.least (lst_least (cls_ne hs hr)) fun _ => hp.mem_iff

theorem BestInv.take {s lo hi : Nat} {q S : List Nat} {bl x : Int} (h : BestInv n rt f s q lo hi bl) (hs : s < n) (hr : rt s = s) (k : SInv n rt f q s S x) (hp : S.Perm (cls n rt s))
    (hb : hi - lo < S.length ∨ (S.length = hi - lo ∧ x < bl)) : BestInv n rt f (s + 1) (q ++ S) q.length (q ++ S).length x := by
  have hx := least_cls hs hr k hp
  refine ⟨by simp, Nat.le_refl _, .inr ⟨s, ?_, ?_, hx⟩⟩
  · rw [best_next hr]
    obtain ⟨h1, h2, ⟨h3, h4⟩ | ⟨b, h3, h4, h5⟩⟩ := h
    · rw [h3]
      rfl
    · rw [h3]
      have e := h4.length_eq
      have e2 : ((q.drop lo).take (hi - lo)).length = hi - lo := by simp; omega
      have hbeat : beat n rt f s b = true := by
        simp only [beat, decide_eq_true_eq, sz, ← hp.length_eq, ← e, e2]
        rw [← h5, ← hx]
        exact hb
      simp [pickStep, hbeat]
  · rw [List.drop_append, List.drop_of_length_le (Nat.le_refl _), Nat.sub_self, List.drop_zero, List.nil_append, List.take_of_length_le (by simp)]
    exact hp

theorem BestInv.keep {s lo hi : Nat} {q S : List Nat} {bl x : Int} (h : BestInv n rt f s q lo hi bl) (hs : s < n) (hr : rt s = s) (k : SInv n rt f q s S x) (hp : S.Perm (cls n rt s))
    (hb : ¬ (hi - lo < S.length ∨ (S.length = hi - lo ∧ x < bl))) : BestInv n rt f (s + 1) (q ++ S) lo hi bl := by
  have hx := least_cls hs hr k hp
  obtain ⟨h1, h2, ⟨h3, h4⟩ | ⟨b, h3, h4, h5⟩⟩ := h
  · exfalso
    apply hb
    have : 0 < S.length := List.length_pos_of_mem k.has
    omega
  · refine ⟨h1, by simp; omega, .inr ⟨b, ?_, ?_, h5⟩⟩
    · rw [best_next hr, h3]
      have e := h4.length_eq
      have e2 : ((q.drop lo).take (hi - lo)).length = hi - lo := by simp; omega
      have hbeat : ¬ beat n rt f s b = true := by
        simp only [beat, decide_eq_true_eq, sz, ← hp.length_eq, ← e, e2]
        rw [← h5, ← hx]
        exact hb
      simp [pickStep, hbeat]
    · rw [List.drop_append_of_le_length (by omega), List.take_append_of_le_length (by simp; omega)]
      exact h4

theorem best_some {s : Nat} (h0 : rt 0 = 0) (hs : 0 < s) : ∃ b, bestTo n rt f s = some b := by
  induction s with
  | zero => omega
  | succ s ih =>
    by_cases hz : s = 0
    · subst hz
      exact ⟨0, by rw [best_next h0]; simp [bestTo, rootsTo, pickStep]⟩
    · obtain ⟨b, hb⟩ := ih (by omega)
      by_cases hr : rt s = s
      · rw [best_next hr, hb]
        simp only [pickStep]
        split
        · exact ⟨s, rfl⟩
        · exact ⟨b, rfl⟩
      · rw [best_skip hr]
        exact ⟨b, hb⟩

theorem best_root {s b : Nat} (h : bestTo n rt f s = some b) : b < s ∧ rt b = b := by
  induction s generalizing b with
  | zero => simp [bestTo, rootsTo] at h
  | succ s ih =>
    by_cases hr : rt s = s
    · rw [best_next hr] at h
      cases ho : bestTo n rt f s with
      | none =>
        rw [ho] at h
        simp [pickStep] at h
        subst h
        exact ⟨by omega, hr⟩
      | some c =>
        rw [ho] at h
        simp only [pickStep] at h
        split at h
        · simp at h
          subst h
          exact ⟨by omega, hr⟩
        · simp at h
          subst h
          have := ih ho
          exact ⟨by omega, this.2⟩
    · rw [best_skip hr] at h
      have := ih h
      exact ⟨by omega, this.2⟩
end

end Go.Proofs.Qxb6605323a
