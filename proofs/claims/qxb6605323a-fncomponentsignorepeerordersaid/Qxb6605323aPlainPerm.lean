/-
  Plain facts for the law on the order of the peers: no program, no model.
-/
import Derived.Test.Qxb6605323aPlainUF
namespace Go.Proofs.Qxb6605323a

theorem nodup_map_on {α β : Type} {f : α → β} {l : List α} (h : l.Nodup) (hf : ∀ a b, a ∈ l → b ∈ l → f a = f b → a = b) : (l.map f).Nodup := by
  induction l with
  | nil => simp
  | cons a l ih =>
    rw [List.nodup_cons] at h
    rw [List.map_cons, List.nodup_cons]
    refine ⟨?_, ih h.2 fun a b ha hb => hf a b (List.mem_cons_of_mem _ ha) (List.mem_cons_of_mem _ hb)⟩
    intro hm
    obtain ⟨b, hb, e⟩ := List.mem_map.1 hm
    have := hf b a (List.mem_cons_of_mem _ hb) (by simp) e
    subst this
    exact h.1 hb

/-- A renumbering of the numbers below n and its inverse. -/
structure Ren (n : Nat) (p s : Nat → Nat) : Prop where
  plt : ∀ i, i < n → p i < n
  slt : ∀ j, j < n → s j < n
  ps : ∀ j, j < n → p (s j) = j
  sp : ∀ i, i < n → s (p i) = i

theorem perm_all {n : Nat} {l : List Nat} (h : l.Nodup) (hl : l.length = n) (hr : ∀ v, v ∈ l → v < n) : ∀ j, j < n → j ∈ l := by
  intro j hj
  by_cases hm : j ∈ l
  · exact hm
  · exfalso
    have h1 : (j :: l).Nodup := List.nodup_cons.2 ⟨hm, h⟩
    have h2 := nodup_le (n := n) h1 fun v hv => by
      rw [List.mem_cons] at hv
      rcases hv with rfl | hv
      · exact hj
      · exact hr v hv
    simp at h2
    omega

def permF (zs : List Int) (i : Nat) : Nat := (zs.getD i 0).toNat

theorem permF_get {zs : List Int} (h : IsPerm zs) {i : Nat} (hi : i < zs.length) : zs[i]? = some ((permF zs i : Nat) : Int) ∧ permF zs i < zs.length := by
  have h1 := get_of hi
  have h2 := h.2 _ (List.mem_of_getElem? h1)
  unfold permF
  refine ⟨?_, by omega⟩
  rw [h1]
  congr 1
  omega

theorem ren_of_perm {zs : List Int} (h : IsPerm zs) : ∃ s, Ren zs.length (permF zs) s := by
  have hinj : ∀ i j, i < zs.length → j < zs.length → permF zs i = permF zs j → i = j := by
    intro i j hi hj e
    have h1 := (permF_get h hi).1
    have h2 := (permF_get h hj).1
    rw [e] at h1
    obtain ⟨a1, a2⟩ := List.getElem?_eq_some_iff.1 h1
    obtain ⟨b1, b2⟩ := List.getElem?_eq_some_iff.1 h2
    exact (List.getElem_inj h.1).1 (a2.trans b2.symm)
  have hnd : ((List.range zs.length).map (permF zs)).Nodup := nodup_map_on List.nodup_range fun a b ha hb e => hinj a b (List.mem_range.1 ha) (List.mem_range.1 hb) e
  have hall := perm_all (n := zs.length) hnd (by simp) fun v hv => by
    obtain ⟨i, hi, rfl⟩ := List.mem_map.1 hv
    exact (permF_get h (List.mem_range.1 hi)).2
  have hex : ∀ j, ∃ i, j < zs.length → i < zs.length ∧ permF zs i = j := by
    intro j
    by_cases hj : j < zs.length
    · obtain ⟨i, hi, e⟩ := List.mem_map.1 (hall j hj)
      exact ⟨i, fun _ => ⟨List.mem_range.1 hi, e⟩⟩
    · exact ⟨0, fun h => absurd h hj⟩
  obtain ⟨s, hs⟩ := Classical.axiomOfChoice hex
  refine ⟨s, fun i hi => (permF_get h hi).2, fun j hj => (hs j hj).1, fun j hj => (hs j hj).2, fun i hi => ?_⟩
  have h1 := (permF_get h hi).2
  exact hinj _ _ (hs _ h1).1 hi (hs _ h1).2

/-! ### rows that are filled in the order of the renumbering -/
def rowTo {α : Type} (n : Nat) (s : Nat → Nat) (g : Nat → α) (d : α) (i : Nat) : List α := (List.range n).map fun j => if s j < i then g (s j) else d

section
variable {α : Type} {n : Nat} {p s : Nat → Nat} {g : Nat → α} {d : α}
@[simp] theorem rowTo_length (i : Nat) : (rowTo n s g d i).length = n := by simp [rowTo]
theorem rowTo_zero : rowTo n s g d 0 = List.replicate n d := by
  rw [List.eq_replicate_iff]
  simp [rowTo]
theorem rowTo_step (h : Ren n p s) {i : Nat} (hi : i < n) : (rowTo n s g d i).set (p i) (g i) = rowTo n s g d (i + 1) := by
  apply List.ext_getElem?
  intro j
  rw [List.getElem?_set]
  by_cases hj : j < n
  · by_cases e : p i = j
    · subst e
      rw [if_pos rfl, if_pos (by simpa using hj)]
      simp [rowTo, hj, h.sp i hi]
    · have : s j ≠ i := fun e' => e (by rw [← e', h.ps j hj])
      rw [if_neg e]
      simp only [rowTo, List.getElem?_map, List.getElem?_range hj, Option.map_some]
      congr 1
      by_cases h1 : s j < i
      · rw [if_pos h1, if_pos (by omega)]
      · rw [if_neg h1, if_neg (by omega)]
  · rw [List.getElem?_eq_none (by simpa using hj), List.getElem?_eq_none (by simpa using hj)]
    split
    · rw [if_neg (by simp; omega)]
    · rfl
theorem rowTo_all (h : Ren n p s) : rowTo n s g d n = (List.range n).map fun j => g (s j) := by
  unfold rowTo
  apply List.map_congr_left
  intro j hj
  rw [if_pos (h.slt j (List.mem_range.1 hj))]
end

/-! ### the links, renumbered -/
def chunk (p s : Nat → Nat) (S N : List Int) (j : Nat) : List Int := (seg N (st S (s j)) (st S (s j + 1))).reverse.map fun z => ((p z.toNat : Nat) : Int)
def nb2To (p s : Nat → Nat) (S N : List Int) : Nat → List Int
  | 0 => []
  | j + 1 => nb2To p s S N j ++ chunk p s S N j
def st2To (p s : Nat → Nat) (n : Nat) (S N : List Int) (j : Nat) : List Int := (List.range (n + 1)).map fun t => if t < j then ((nb2To p s S N t).length : Int) else 0

section
variable {n : Nat} {p s : Nat → Nat} {S N : List Int}
@[simp] theorem st2To_length (j : Nat) : (st2To p s n S N j).length = n + 1 := by simp [st2To]
theorem st2To_zero : st2To p s n S N 0 = List.replicate (n + 1) 0 := by
  rw [List.eq_replicate_iff]
  simp [st2To]
theorem st2To_step {j : Nat} (hj : j ≤ n) : (st2To p s n S N j).set j ((nb2To p s S N j).length : Int) = st2To p s n S N (j + 1) := by
  apply List.ext_getElem?
  intro t
  rw [List.getElem?_set]
  by_cases ht : t < n + 1
  · by_cases e : j = t
    · subst e
      rw [if_pos rfl, if_pos (by simpa using ht)]
      simp [st2To, ht]
    · rw [if_neg e]
      simp only [st2To, List.getElem?_map, List.getElem?_range ht, Option.map_some]
      congr 1
      by_cases h1 : t < j
      · rw [if_pos h1, if_pos (by omega)]
      · rw [if_neg h1, if_neg (by omega)]
  · rw [List.getElem?_eq_none (by simpa using ht), List.getElem?_eq_none (by simpa using ht)]
    split
    · omega
    · rfl
theorem st2_get {j : Nat} (hj : j ≤ n) : (st2To p s n S N (n + 1)).getD j 0 = ((nb2To p s S N j).length : Int) := by
  simp [st2To, List.getD, show j < n + 1 by omega]
theorem st_st2 {j : Nat} (hj : j ≤ n) : st (st2To p s n S N (n + 1)) j = (nb2To p s S N j).length := by
  unfold st
  rw [st2_get hj]
  simp

theorem nb2_split {j : Nat} (hj : j < n) : ∃ R, nb2To p s S N n = nb2To p s S N j ++ chunk p s S N j ++ R := by
  obtain ⟨d, rfl⟩ : ∃ d, n = j + 1 + d := ⟨n - (j + 1), by omega⟩
  clear hj
  induction d with
  | zero => exact ⟨[], by simp [nb2To]⟩
  | succ d ih =>
    obtain ⟨R, hR⟩ := ih
    refine ⟨R ++ chunk p s S N (j + 1 + d), ?_⟩
    rw [show j + 1 + (d + 1) = j + 1 + d + 1 by omega, nb2To, hR]
    simp
theorem nb2_mono {i j : Nat} (h : i ≤ j) : (nb2To p s S N i).length ≤ (nb2To p s S N j).length := by
  obtain ⟨d, rfl⟩ : ∃ d, j = i + d := ⟨j - i, by omega⟩
  clear h
  induction d with
  | zero => exact Nat.le_refl _
  | succ d ih =>
    rw [show i + (d + 1) = i + d + 1 by omega, nb2To, List.length_append]
    omega

theorem seg_mid (L C R : List Int) : seg (L ++ C ++ R) L.length (L ++ C).length = C := by
  unfold seg
  rw [List.append_assoc, List.drop_left, show (L ++ C).length - L.length = C.length by simp, List.take_left]

theorem seg_nb2 {j : Nat} (hj : j < n) : seg (nb2To p s S N n) (st (st2To p s n S N (n + 1)) j) (st (st2To p s n S N (n + 1)) (j + 1)) = chunk p s S N j := by
  rw [st_st2 (by omega), st_st2 (by omega), nb2To]
  obtain ⟨R, hR⟩ := nb2_split (p := p) (s := s) (S := S) (N := N) hj
  rw [hR]
  exact seg_mid _ _ _

theorem adj_nb2 {j : Nat} (hj : j < n) : adj (st2To p s n S N (n + 1)) (nb2To p s S N n) j = (adj S N (s j)).reverse.map p := by
  unfold adj
  rw [seg_nb2 hj]
  unfold chunk
  simp [List.map_map]

theorem wf_nb2 (h : WF n S N) (hr : Ren n p s) : WF n (st2To p s n S N (n + 1)) (nb2To p s S N n) := by
  refine ⟨by simp, ?_, ?_, ?_, ?_⟩
  · rw [st2_get (by omega)]
    omega
  · intro i hi
    rw [st2_get (by omega), st2_get (by omega)]
    have := nb2_mono (p := p) (s := s) (S := S) (N := N) (show i ≤ i + 1 by omega)
    omega
  · rw [st2_get (Nat.le_refl _)]
    exact Int.le_refl _
  · intro i k hi h1 h2
    rw [st2_get (by omega)] at h1
    rw [st2_get (by omega)] at h2
    have hk : k < (nb2To p s S N n).length := by
      have := nb2_mono (p := p) (s := s) (S := S) (N := N) (show i + 1 ≤ n by omega)
      omega
    have hg := get_of hk
    have hm : (nb2To p s S N n).getD k 0 ∈ chunk p s S N i := by
      rw [← seg_nb2 hi]
      exact mem_seg.2 ⟨k, by rw [st_st2 (by omega)]; omega, by rw [st_st2 (by omega)]; omega, hg⟩
    unfold chunk at hm
    obtain ⟨z, hz, e⟩ := List.mem_map.1 hm
    rw [List.mem_reverse] at hz
    obtain ⟨t, a1, a2, a3⟩ := mem_seg.1 hz
    have hz' := h.val (hr.slt i hi) a1 a2 a3
    have := hr.plt z.toNat (by omega)
    rw [← e]
    omega

/-- The links of the renumbered graph. -/
theorem mem_adj2 {j v : Nat} (hj : j < n) : v ∈ adj (st2To p s n S N (n + 1)) (nb2To p s S N n) j ↔ ∃ u, u ∈ adj S N (s j) ∧ p u = v := by
  rw [adj_nb2 hj, List.mem_map]
  simp

theorem symm_nb2 (h : WF n S N) (hs : Symm n S N) (hr : Ren n p s) : Symm n (st2To p s n S N (n + 1)) (nb2To p s S N n) := by
  have hA : ∀ i v, i < n → v ∈ adj S N i → v < n := fun i v hi hv => h.adj_lt hi hv
  intro i v hi hv
  obtain ⟨u, hu, rfl⟩ := (mem_adj2 hi).1 hv
  have hun := hA _ _ (hr.slt i hi) hu
  refine (mem_adj2 (hr.plt u hun)).2 ⟨s i, ?_, hr.ps i hi⟩
  rw [hr.sp u hun]
  exact hs _ _ (hr.slt i hi) hu

/-! ### how many there are -/
def deg (S : List Int) (i : Nat) : Nat := st S (i + 1) - st S i

theorem sum_sub {l l' : List Nat} (d : Nat → Nat) (h : l.Nodup) (hs : ∀ x, x ∈ l → x ∈ l') : (l.map d).sum ≤ (l'.map d).sum := by
  induction l generalizing l' with
  | nil => simp
  | cons a l ih =>
    rw [List.nodup_cons] at h
    have ha : a ∈ l' := hs a (by simp)
    have hp := ((List.perm_cons_erase ha).map d).sum_nat
    have h1 := ih (l' := l'.erase a) h.2 fun x hx => by
      have hne : x ≠ a := fun e => h.1 (by rw [← e]; exact hx)
      exact (List.mem_erase_of_ne hne).2 (hs x (by simp [hx]))
    rw [hp]
    simp only [List.map_cons, List.sum_cons]
    omega

theorem sum_deg (h : WF n S N) {m : Nat} (hm : m ≤ n) : ((List.range m).map (deg S)).sum = st S m - st S 0 := by
  induction m with
  | zero => simp
  | succ m ih =>
    have h1 := h.st_le (show m ≤ m + 1 by omega) hm
    have h0 := h.st_le (show 0 ≤ m by omega) (by omega)
    rw [List.range_succ, List.map_append, List.sum_append, ih (by omega)]
    simp [deg]
    omega

theorem chunk_length (h : WF n S N) (hr : Ren n p s) {j : Nat} (hj : j < n) : (chunk p s S N j).length = deg S (s j) := by
  unfold chunk deg
  have := hr.slt j hj
  rw [List.length_map, List.length_reverse, seg_length (h.st_len (by omega))]

theorem nb2_length (h : WF n S N) (hr : Ren n p s) {j : Nat} (hj : j ≤ n) : (nb2To p s S N j).length = ((List.range j).map fun t => deg S (s t)).sum := by
  induction j with
  | zero => simp [nb2To]
  | succ j ih =>
    rw [nb2To, List.length_append, ih (by omega), chunk_length h hr (by omega), List.range_succ, List.map_append, List.sum_append]
    simp

theorem nb2_le (h : WF n S N) (hr : Ren n p s) {j : Nat} (hj : j ≤ n) : (nb2To p s S N j).length ≤ st S n - st S 0 := by
  rw [nb2_length h hr hj, ← sum_deg h (Nat.le_refl n)]
  have e : ((List.range j).map fun t => deg S (s t)) = ((List.range j).map s).map (deg S) := by simp [List.map_map]
  rw [e]
  refine sum_sub (deg S) ?_ ?_
  · refine nodup_map_on List.nodup_range fun a b ha hb e => ?_
    have h1 := hr.ps a (by have := List.mem_range.1 ha; omega)
    have h2 := hr.ps b (by have := List.mem_range.1 hb; omega)
    rw [← h1, ← h2, e]
  · intro x hx
    obtain ⟨t, ht, rfl⟩ := List.mem_map.1 hx
    exact List.mem_range.2 (hr.slt t (by have := List.mem_range.1 ht; omega))
end

end Go.Proofs.Qxb6605323a
