/-
  Plain facts for the bottom-up merge sort: no program, no model.
-/
import Derived.Test.Qxb6605323aPlain
namespace Go.Proofs.Qxb6605323a

def leB (a b : Int) : Bool := decide (a ≤ b)
/-- The elements from place i up to place m. -/
def seg (A : List Int) (i m : Nat) : List Int := (A.drop i).take (m - i)
def mg (X Y : List Int) : List Int := List.merge X Y leB
/-- The first t pairs of runs of length W, merged. -/
def mrg (W : Nat) (A : List Int) : Nat → List Int
  | 0 => []
  | t + 1 => mrg W A t ++ mg ((A.drop (t * (2 * W))).take W) ((A.drop (t * (2 * W) + W)).take W)

theorem seg_nil {A : List Int} {i m : Nat} (h : m ≤ i) : seg A i m = [] := by
  unfold seg
  rw [show m - i = 0 by omega, List.take_zero]

theorem seg_cons {A : List Int} {i m : Nat} {z : Int} (h : i < m) (hz : A[i]? = some z) : seg A i m = z :: seg A (i + 1) m := by
  unfold seg
  obtain ⟨h1, h2⟩ := List.getElem?_eq_some_iff.1 hz
  rw [List.drop_eq_getElem_cons h1, h2, show m - i = (m - (i + 1)) + 1 by omega, List.take_succ_cons]

theorem seg_min {A : List Int} {i W m : Nat} (h1 : m ≤ i + W) (h2 : m = i + W ∨ A.length ≤ m) : (A.drop i).take W = seg A i m := by
  unfold seg
  rcases h2 with h2 | h2
  · rw [show m - i = W by omega]
  · rw [List.take_of_length_le (by simp; omega), List.take_of_length_le (by simp; omega)]

theorem mg_nil_left (Y : List Int) : mg [] Y = Y := by simp [mg]
theorem mg_nil_right (X : List Int) : mg X [] = X := by simp [mg]
theorem mg_left {x y : Int} (X Y : List Int) (h : x ≤ y) : mg (x :: X) (y :: Y) = x :: mg X (y :: Y) := by
  simp [mg, leB, h]
theorem mg_right {x y : Int} (X Y : List Int) (h : y < x) : mg (x :: X) (y :: Y) = y :: mg (x :: X) Y := by
  simp [mg, leB, show ¬ x ≤ y by omega]
theorem mg_perm (X Y : List Int) : (mg X Y).Perm (X ++ Y) := List.merge_perm_append leB

theorem mg_sorted {X Y : List Int} (hX : X.Pairwise (· ≤ ·)) (hY : Y.Pairwise (· ≤ ·)) : (mg X Y).Pairwise (· ≤ ·) := by
  have h := List.pairwise_merge (le := leB) (fun a b c => by simp [leB]; omega) (fun a b => by simp [leB]; omega) X Y (by simpa [leB] using hX) (by simpa [leB] using hY)
  simpa [leB, mg] using h

theorem mrg_length (W : Nat) (A : List Int) (t : Nat) : (mrg W A t).length = min (t * (2 * W)) A.length := by
  induction t with
  | zero => simp [mrg]
  | succ t ih =>
    rw [mrg, List.length_append, ih, (mg_perm _ _).length_eq, List.length_append]
    simp
    rw [Nat.add_mul]
    omega

theorem mrg_perm (W : Nat) (A : List Int) (t : Nat) : (mrg W A t).Perm (A.take (t * (2 * W))) := by
  induction t with
  | zero => simp [mrg]
  | succ t ih =>
    rw [mrg, Nat.add_mul, Nat.one_mul, List.take_add]
    refine List.Perm.append ih ((mg_perm _ _).trans ?_)
    rw [show 2 * W = W + W by omega, List.take_add, List.drop_drop]

/-- Each run of W (the last may be shorter) is sorted. -/
def Blk (W : Nat) (A : List Int) : Prop := ∀ m, ((A.drop (m * W)).take W).Pairwise (· ≤ ·)

theorem sorted_drop {A : List Int} (h : A.Pairwise (· ≤ ·)) (i : Nat) : (A.drop i).Pairwise (· ≤ ·) := h.sublist (List.drop_sublist _ _)
theorem sorted_take {A : List Int} (h : A.Pairwise (· ≤ ·)) (i : Nat) : (A.take i).Pairwise (· ≤ ·) := h.sublist (List.take_sublist _ _)

theorem mrg_blk {W : Nat} {A : List Int} (h : Blk W A) (t : Nat) : Blk (2 * W) (mrg W A t) := by
  induction t with
  | zero => intro m; simp [mrg]
  | succ t ih =>
    intro m
    rw [mrg]
    have hM : (mg ((A.drop (t * (2 * W))).take W) ((A.drop (t * (2 * W) + W)).take W)).Pairwise (· ≤ ·) := by
      refine mg_sorted ?_ ?_
      · have := h (2 * t)
        rwa [show 2 * t * W = t * (2 * W) by rw [Nat.mul_comm 2 t, Nat.mul_assoc]] at this
      · have := h (2 * t + 1)
        rwa [show (2 * t + 1) * W = t * (2 * W) + W by rw [Nat.add_mul, Nat.one_mul, Nat.mul_comm 2 t, Nat.mul_assoc]] at this
    have hl := mrg_length W A t
    by_cases hfull : A.length ≤ t * (2 * W)
    · rw [List.drop_of_length_le hfull, List.drop_of_length_le (show A.length ≤ t * (2 * W) + W by omega)]
      simpa [mg] using ih m
    · have hl' : (mrg W A t).length = t * (2 * W) := by omega
      by_cases hm : m < t
      · have h1 : (m + 1) * (2 * W) ≤ t * (2 * W) := Nat.mul_le_mul_right _ (by omega)
        rw [Nat.add_mul, Nat.one_mul] at h1
        rw [List.drop_append_of_le_length (by omega), List.take_append_of_le_length (by simp; omega)]
        exact ih m
      · have h1 : t * (2 * W) ≤ m * (2 * W) := Nat.mul_le_mul_right _ (by omega)
        rw [List.drop_append, List.drop_of_length_le (by omega), List.nil_append]
        exact sorted_take (sorted_drop hM _) _

theorem blk_one (A : List Int) : Blk 1 A := by
  intro m
  cases h : (A.drop (m * 1)) with
  | nil => simp
  | cons a l => simp

theorem blk_all {W : Nat} {A : List Int} (h : Blk W A) (hW : A.length ≤ W) : A.Pairwise (· ≤ ·) := by
  have := h 0
  rwa [Nat.zero_mul, List.drop_zero, List.take_of_length_le hW] at this

/-- All is merged. -/
theorem mrg_all (W : Nat) (A : List Int) (t : Nat) (h : A.length ≤ t * (2 * W)) : (mrg W A t).Perm A := by
  have := mrg_perm W A t
  rwa [List.take_of_length_le h] at this

theorem take_set_snoc {D : List Int} {k : Nat} (z : Int) (h : k < D.length) : (D.set k z).take (k + 1) = D.take k ++ [z] := by
  rw [List.take_add_one, List.take_set_of_le (Nat.le_refl k), List.getElem?_set_self h]
  rfl

theorem copy_step {D A : List Int} {t : Nat} {z : Int} (hl : A.length = D.length) (hz : D[t]? = some z) : (D.take t ++ A.drop t).set t z = D.take (t + 1) ++ A.drop (t + 1) := by
  obtain ⟨h1, h2⟩ := List.getElem?_eq_some_iff.1 hz
  rw [List.set_append_right _ _ (by simp; omega), take_snoc hz]
  have e : t - (D.take t).length = 0 := by simp; omega
  rw [e, List.drop_eq_getElem_cons (show t < A.length by omega), List.set_cons_zero]
  simp

theorem short_sorted {A : List Int} (h : A.length < 2) : A.Pairwise (· ≤ ·) := by
  match A, h with
  | [], _ => simp
  | [_], _ => simp

/-! ### the links -/
def st (S : List Int) (i : Nat) : Nat := (S.getD i 0).toNat
/-- The indexes of peer i's neighbours. -/
def adj (S N : List Int) (i : Nat) : List Nat := (seg N (st S i) (st S (i + 1))).map Int.toNat
def Symm (n : Nat) (S N : List Int) : Prop := ∀ i v, i < n → v ∈ adj S N i → i ∈ adj S N v
def key (i : Nat) (v : Int) : Int := (i : Int) * 4294967296 + v
def keysTo (S N : List Int) : Nat → List Int
  | 0 => []
  | i + 1 => keysTo S N i ++ (seg N (st S i) (st S (i + 1))).map (key i)

theorem seg_length {A : List Int} {i m : Nat} (h : m ≤ A.length) : (seg A i m).length = m - i := by
  simp [seg]; omega

theorem mem_seg {A : List Int} {i m : Nat} {z : Int} : z ∈ seg A i m ↔ ∃ t, i ≤ t ∧ t < m ∧ A[t]? = some z := by
  unfold seg
  rw [List.mem_iff_getElem?]
  constructor
  · rintro ⟨t, ht⟩
    rw [List.getElem?_take] at ht
    split at ht
    · rw [List.getElem?_drop] at ht
      exact ⟨i + t, by omega, by omega, ht⟩
    · cases ht
  · rintro ⟨t, h1, h2, h3⟩
    refine ⟨t - i, ?_⟩
    rw [List.getElem?_take, if_pos (by omega), List.getElem?_drop, show i + (t - i) = t by omega]
    exact h3

theorem seg_snoc {A : List Int} {i t : Nat} {z : Int} (h : i ≤ t) (hz : A[t]? = some z) : seg A i (t + 1) = seg A i t ++ [z] := by
  unfold seg
  rw [show t + 1 - i = (t - i) + 1 by omega, List.take_add_one, List.getElem?_drop, show i + (t - i) = t by omega, hz]
  rfl

section
variable {n : Nat} {S N : List Int}
theorem WF.nonneg (h : WF n S N) {i : Nat} (hi : i ≤ n) : 0 ≤ S.getD i 0 := by
  have := mono_le h.mono (i := 0) (j := i) (by omega) hi
  have := h.zero
  omega
theorem WF.st_eq (h : WF n S N) {i : Nat} (hi : i ≤ n) : ((st S i : Nat) : Int) = S.getD i 0 := by
  have := h.nonneg hi
  unfold st
  omega
theorem WF.st_le (h : WF n S N) {i j : Nat} (hij : i ≤ j) (hj : j ≤ n) : st S i ≤ st S j := by
  have := mono_le h.mono hij hj
  unfold st
  omega
theorem WF.st_len (h : WF n S N) {i : Nat} (hi : i ≤ n) : st S i ≤ N.length := by
  have := h.st_le hi (Nat.le_refl n)
  have := h.last
  have := h.st_eq (Nat.le_refl n)
  omega
theorem WF.val (h : WF n S N) {i t : Nat} {z : Int} (hi : i < n) (h1 : st S i ≤ t) (h2 : t < st S (i + 1)) (hz : N[t]? = some z) : 0 ≤ z ∧ z < (n : Int) := by
  have e1 := h.st_eq (show i ≤ n by omega)
  have e2 := h.st_eq (show i + 1 ≤ n by omega)
  have := h.rng i t hi (by omega) (by omega)
  rwa [getD_of hz] at this

theorem keys_length (h : WF n S N) {i : Nat} (hi : i ≤ n) : (keysTo S N i).length = st S i - st S 0 := by
  induction i with
  | zero => simp [keysTo]
  | succ i ih =>
    have := ih (by omega)
    have h1 := h.st_le (show i ≤ i + 1 by omega) hi
    have h0 := h.st_le (show 0 ≤ i by omega) (by omega)
    rw [keysTo, List.length_append, this, List.length_map, seg_length (h.st_len hi)]
    omega

theorem mem_keys {x : Int} {m : Nat} : x ∈ keysTo S N m ↔ ∃ i t z, i < m ∧ st S i ≤ t ∧ t < st S (i + 1) ∧ N[t]? = some z ∧ x = key i z := by
  induction m with
  | zero => simp [keysTo]
  | succ m ih =>
    rw [keysTo, List.mem_append, ih, List.mem_map]
    constructor
    · rintro (⟨i, t, z, h1, h2, h3, h4, h5⟩ | ⟨z, hz, rfl⟩)
      · exact ⟨i, t, z, by omega, h2, h3, h4, h5⟩
      · obtain ⟨t, h1, h2, h3⟩ := mem_seg.1 hz
        exact ⟨m, t, z, by omega, h1, h2, h3, rfl⟩
    · rintro ⟨i, t, z, h1, h2, h3, h4, h5⟩
      by_cases hi : i = m
      · subst hi
        exact .inr ⟨z, mem_seg.2 ⟨t, h2, h3, h4⟩, h5.symm⟩
      · exact .inl ⟨i, t, z, by omega, h2, h3, h4, h5⟩

theorem mem_adj (i v : Nat) (hp : ∀ t z, st S i ≤ t → t < st S (i + 1) → N[t]? = some z → 0 ≤ z) : v ∈ adj S N i ↔ ∃ t : Nat, st S i ≤ t ∧ t < st S (i + 1) ∧ N[t]? = some (v : Int) := by
  unfold adj
  rw [List.mem_map]
  constructor
  · rintro ⟨z, hz, rfl⟩
    obtain ⟨t, h1, h2, h3⟩ := mem_seg.1 hz
    have := hp t z h1 h2 h3
    exact ⟨t, h1, h2, by rw [h3]; congr 1; omega⟩
  · rintro ⟨t, h1, h2, h3⟩
    exact ⟨v, mem_seg.2 ⟨t, h1, h2, h3⟩, by simp⟩

theorem WF.mem_adj (h : WF n S N) {i v : Nat} (hi : i < n) : v ∈ adj S N i ↔ ∃ t : Nat, st S i ≤ t ∧ t < st S (i + 1) ∧ N[t]? = some (v : Int) :=
  Qxb6605323a.mem_adj i v fun _ _ h1 h2 h3 => (h.val hi h1 h2 h3).1

theorem WF.adj_lt (h : WF n S N) {i v : Nat} (hi : i < n) (hv : v ∈ adj S N i) : v < n := by
  obtain ⟨t, h1, h2, h3⟩ := (h.mem_adj hi).1 hv
  have := (h.val hi h1 h2 h3).2
  omega

/-- Where each link's key turned round is among the keys, each link is listed from both of its ends. -/
theorem symm_of_keys (h : WF n S N) (hn : n ≤ 1048576) (hk : ∀ i t z, i < n → st S i ≤ t → t < st S (i + 1) → N[t]? = some z → key z.toNat i ∈ keysTo S N n) : Symm n S N := by
  intro i v hi hv
  obtain ⟨t, h1, h2, h3⟩ := (h.mem_adj hi).1 hv
  have hvn := h.adj_lt hi hv
  obtain ⟨i', t', z', a1, a2, a3, a4, a5⟩ := mem_keys.1 (hk i t v hi h1 h2 h3)
  have hz' := h.val a1 a2 a3 a4
  unfold key at a5
  simp only [Int.toNat_natCast] at a5
  have e1 : i' = v := by omega
  subst e1
  refine (h.mem_adj hvn).2 ⟨t', a2, a3, ?_⟩
  rw [a4]
  congr 1
  omega
end

end Go.Proofs.Qxb6605323a
