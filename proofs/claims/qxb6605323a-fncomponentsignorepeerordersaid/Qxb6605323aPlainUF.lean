/-
  Plain facts for the law that holds 'components' against a union-find: no program, no model.
-/
import Derived.Test.Qxb6605323aPlainBfs
namespace Go.Proofs.Qxb6605323a

def clsTo (rt : Nat → Nat) (i r : Nat) : List Nat := (List.range i).filter fun v => rt v == r
/-- The sizes of the classes, as far as i. -/
def sizes (n : Nat) (rt : Nat → Nat) (i : Nat) : List Nat := (List.range n).map fun r => (clsTo rt i r).length
/-- The least ids of the classes, as far as i. -/
def leasts (n : Nat) (rt : Nat → Nat) (f : Nat → Int) (i : Nat) : List Int := (List.range n).map fun r => lst f (clsTo rt i r)

section
variable {n : Nat} {A : Nat → List Nat} {rt : Nat → Nat} {f : Nat → Int}

theorem clsTo_all (r : Nat) : clsTo rt n r = cls n rt r := rfl
theorem clsTo_same {i : Nat} : clsTo rt (i + 1) (rt i) = clsTo rt i (rt i) ++ [i] := by
  simp [clsTo, List.range_succ, List.filter_append]
theorem clsTo_other {i r : Nat} (h : rt i ≠ r) : clsTo rt (i + 1) r = clsTo rt i r := by
  simp [clsTo, List.range_succ, List.filter_append, h]
theorem clsTo_le (i r : Nat) (h : i ≤ n) : (clsTo rt i r).length ≤ sz n rt r := by
  obtain ⟨d, rfl⟩ : ∃ d, n = i + d := ⟨n - i, by omega⟩
  clear h
  induction d with
  | zero => exact Nat.le_refl _
  | succ d ih =>
    refine Nat.le_trans ih ?_
    unfold sz
    rw [show i + (d + 1) = i + d + 1 by omega, ← clsTo_all, ← clsTo_all]
    by_cases h : rt (i + d) = r
    · rw [← h, clsTo_same]
      simp
    · rw [clsTo_other h]
      exact Nat.le_refl _
theorem clsTo_bound (i r : Nat) : (clsTo rt i r).length ≤ i := by
  have := List.length_filter_le (fun v => rt v == r) (List.range i)
  simpa [clsTo] using this

theorem lst_snoc {l : List Nat} (v : Nat) (h : l ≠ []) : lst f (l ++ [v]) = min (lst f l) (f v) := by
  match l, h with
  | a :: l, _ => simp [lst, List.foldl_append]
theorem lst_one (v : Nat) : lst f [v] = f v := by simp [lst]

@[simp] theorem sizes_length (i : Nat) : (sizes n rt i).length = n := by simp [sizes]
@[simp] theorem leasts_length (i : Nat) : (leasts n rt f i).length = n := by simp [leasts]
theorem sizes_get (i : Nat) {r : Nat} (h : r < n) : (sizes n rt i)[r]? = some (clsTo rt i r).length := by simp [sizes, h]
theorem leasts_get (i : Nat) {r : Nat} (h : r < n) : (leasts n rt f i)[r]? = some (lst f (clsTo rt i r)) := by simp [leasts, h]
theorem sizes_zero : sizes n rt 0 = List.replicate n 0 := by
  rw [List.eq_replicate_iff]
  simp [sizes, clsTo]
theorem leasts_zero : leasts n rt f 0 = List.replicate n 0 := by
  rw [List.eq_replicate_iff]
  simp [leasts, clsTo, lst]

theorem sizes_step (i : Nat) : (sizes n rt i).set (rt i) ((clsTo rt i (rt i)).length + 1) = sizes n rt (i + 1) := by
  apply List.ext_getElem?
  intro r
  rw [List.getElem?_set]
  by_cases hr : r < n
  · rw [sizes_get (i + 1) hr]
    by_cases e : rt i = r
    · subst e
      simp [hr, clsTo_same]
    · rw [if_neg e, sizes_get i hr, clsTo_other e]
  · rw [List.getElem?_eq_none (by simpa using hr), List.getElem?_eq_none (by simpa using hr)]
    split
    · rw [if_neg (by simp; omega)]
    · rfl

theorem leasts_step (i : Nat) (x : Int) (hx : x = lst f (clsTo rt (i + 1) (rt i))) : (leasts n rt f i).set (rt i) x = leasts n rt f (i + 1) := by
  apply List.ext_getElem?
  intro r
  rw [List.getElem?_set]
  by_cases hr : r < n
  · rw [leasts_get (i + 1) hr]
    by_cases e : rt i = r
    · subst e
      simp [hr, hx]
    · rw [if_neg e, leasts_get i hr, clsTo_other e]
  · rw [List.getElem?_eq_none (by simpa using hr), List.getElem?_eq_none (by simpa using hr)]
    split
    · rw [if_neg (by simp; omega)]
    · rfl

/-- A root is the first of its component. -/
theorem clsTo_root (R : IsRt n A rt) {i : Nat} (hi : i < n) : clsTo rt i i = [] := by
  rw [clsTo, List.filter_eq_nil_iff]
  intro v hv
  have h1 := List.mem_range.1 hv
  have := R.le v (by omega)
  simp
  omega
theorem least_root (R : IsRt n A rt) {i : Nat} (hi : i < n) (hr : rt i = i) : f i = lst f (clsTo rt (i + 1) (rt i)) := by
  rw [clsTo_same, hr, clsTo_root R hi, List.nil_append, lst_one]
theorem clsTo_ne (G : Gr n A) (R : IsRt n A rt) {i : Nat} (hi : i < n) (hr : rt i ≠ i) : clsTo rt i (rt i) ≠ [] := by
  intro h
  have h1 := R.le i hi
  have : rt i ∈ clsTo rt i (rt i) := by
    simp only [clsTo, List.mem_filter, List.mem_range, beq_iff_eq]
    exact ⟨by omega, R.idem G hi⟩
  rw [h] at this
  simp at this
theorem least_next (G : Gr n A) (R : IsRt n A rt) {i : Nat} (hi : i < n) (hr : rt i ≠ i) : lst f (clsTo rt (i + 1) (rt i)) = min (lst f (clsTo rt i (rt i))) (f i) := by
  rw [clsTo_same, lst_snoc _ (clsTo_ne G R hi hr)]

theorem leasts_same {i : Nat} (h : lst f (clsTo rt (i + 1) (rt i)) = lst f (clsTo rt i (rt i))) : leasts n rt f (i + 1) = leasts n rt f i := by
  apply List.ext_getElem?
  intro r
  by_cases hr : r < n
  · rw [leasts_get (i + 1) hr, leasts_get i hr]
    by_cases e : rt i = r
    · subst e
      rw [h]
    · rw [clsTo_other e]
  · rw [List.getElem?_eq_none (by simpa using hr), List.getElem?_eq_none (by simpa using hr)]

theorem sz_pos {r : Nat} (h : r < n) (hr : rt r = r) : 1 ≤ sz n rt r := List.length_pos_of_mem (mem_cls.2 ⟨h, hr⟩)
theorem sz_le (r : Nat) : sz n rt r ≤ n := clsTo_bound n r

theorem pick_none {i : Nat} (hr : rt i = i) (h : bestTo n rt f i = none) : bestTo n rt f (i + 1) = some i := by
  rw [best_next hr, h]
  rfl
theorem pick_yes {i c : Nat} (hr : rt i = i) (h : bestTo n rt f i = some c) (hb : sz n rt c < sz n rt i ∨ (sz n rt i = sz n rt c ∧ lst f (cls n rt i) < lst f (cls n rt c))) : bestTo n rt f (i + 1) = some i := by
  rw [best_next hr, h]
  have : beat n rt f i c = true := by simpa [beat] using hb
  simp [pickStep, this]
theorem pick_no {i c : Nat} (hr : rt i = i) (h : bestTo n rt f i = some c) (hb : ¬ (sz n rt c < sz n rt i ∨ (sz n rt i = sz n rt c ∧ lst f (cls n rt i) < lst f (cls n rt c)))) : bestTo n rt f (i + 1) = some c := by
  rw [best_next hr, h]
  have : ¬ beat n rt f i c = true := by simpa [beat] using hb
  simp [pickStep, this]

theorem sorted_unique {l l' : List Int} (h : l.Pairwise (· ≤ ·)) (h' : l'.Pairwise (· ≤ ·)) (hp : l.Perm l') : l = l' :=
  hp.eq_of_pairwise (fun a b _ _ h1 h2 => by omega) h h'
end

end Go.Proofs.Qxb6605323a
