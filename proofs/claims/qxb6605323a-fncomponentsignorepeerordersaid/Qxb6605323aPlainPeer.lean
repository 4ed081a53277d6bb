/-
  Plain facts: a graph and the same graph renumbered have the same components. No program, no model.
-/
import Derived.Test.Qxb6605323aPlainPerm
namespace Go.Proofs.Qxb6605323a

structure Iso (n : Nat) (A B : Nat → List Nat) (p s : Nat → Nat) : Prop where
  ren : Ren n p s
  fwd : ∀ u v, u < n → v ∈ A u → p v ∈ B (p u)
  bwd : ∀ u v, u < n → v ∈ B u → s v ∈ A (s u)

section
variable {n : Nat} {A B : Nat → List Nat} {p s : Nat → Nat} {ra rb : Nat → Nat} {f g : Nat → Int}

theorem Iso.symm (h : Iso n A B p s) : Iso n B A s p := ⟨⟨h.ren.slt, h.ren.plt, h.ren.sp, h.ren.ps⟩, h.bwd, h.fwd⟩

theorem Iso.conn (h : Iso n A B p s) (G : Gr n A) {u v : Nat} (hu : u < n) (k : Conn A u v) : Conn B (p u) (p v) := fun P h1 h2 =>
  (k (fun x => x < n ∧ P (p x)) ⟨hu, h1⟩ fun x y hx hy => ⟨G.lt x y hx.1 hy, h2 _ _ hx.2 (h.fwd x y hx.1 hy)⟩).2

theorem Iso.conn_iff (h : Iso n A B p s) (GA : Gr n A) (GB : Gr n B) {u v : Nat} (hu : u < n) (hv : v < n) : Conn B (p u) (p v) ↔ Conn A u v := by
  constructor
  · intro k
    have := h.symm.conn GB (h.ren.plt u hu) k
    rwa [h.ren.sp u hu, h.ren.sp v hv] at this
  · exact h.conn GA hu

theorem Iso.rt_iff (h : Iso n A B p s) (GA : Gr n A) (GB : Gr n B) (RA : IsRt n A ra) (RB : IsRt n B rb) {u v : Nat} (hu : u < n) (hv : v < n) : rb (p u) = rb (p v) ↔ ra u = ra v := by
  rw [RB.iff GB (h.ren.plt u hu) (h.ren.plt v hv), RA.iff GA hu hv]
  exact h.conn_iff GA GB hu hv

theorem nodup_roots (r : Nat → Nat) (m : Nat) : (rootsTo r m).Nodup := List.nodup_range.sublist List.filter_sublist

theorem Iso.roots_le (h : Iso n A B p s) (GA : Gr n A) (GB : Gr n B) (RA : IsRt n A ra) (RB : IsRt n B rb) : (rootsTo ra n).length ≤ (rootsTo rb n).length := by
  have h1 : ((rootsTo ra n).map fun r => rb (p r)).Nodup := by
    refine nodup_map_on (nodup_roots ra n) fun a b ha hb e => ?_
    have ha' := mem_roots.1 ha
    have hb' := mem_roots.1 hb
    have := (h.rt_iff GA GB RA RB ha'.1 hb'.1).1 e
    omega
  have h2 := h1.length_le_of_subset (l₂ := rootsTo rb n) fun x hx => by
    obtain ⟨r, hr, rfl⟩ := List.mem_map.1 hx
    have hr' := mem_roots.1 hr
    have hp := h.ren.plt r hr'.1
    exact mem_roots.2 ⟨RB.lt hp, RB.idem GB hp⟩
  simpa using h2

theorem Iso.roots_eq (h : Iso n A B p s) (GA : Gr n A) (GB : Gr n B) (RA : IsRt n A ra) (RB : IsRt n B rb) : (rootsTo ra n).length = (rootsTo rb n).length :=
  Nat.le_antisymm (h.roots_le GA GB RA RB) (h.symm.roots_le GB GA RB RA)

theorem Iso.cls_perm (h : Iso n A B p s) (GA : Gr n A) (GB : Gr n B) (RA : IsRt n A ra) (RB : IsRt n B rb) {r : Nat} (hr : r < n) (hrr : ra r = r) : (cls n rb (rb (p r))).Perm ((cls n ra r).map p) := by
  have hnd : ((cls n ra r).map p).Nodup := nodup_map_on (nodup_cls r) fun a b ha hb e => by
    have h1 := h.ren.sp a (mem_cls.1 ha).1
    have h2 := h.ren.sp b (mem_cls.1 hb).1
    rw [← h1, ← h2, e]
  refine (List.perm_ext_iff_of_nodup (nodup_cls _) hnd).2 fun v => ?_
  rw [mem_cls, List.mem_map]
  constructor
  · rintro ⟨h1, h2⟩
    have hs := h.ren.slt v h1
    refine ⟨s v, mem_cls.2 ⟨hs, ?_⟩, h.ren.ps v h1⟩
    have h3 := (h.rt_iff GA GB RA RB (u := s v) (v := r) hs hr).1 (by rw [h.ren.ps v h1]; exact h2)
    omega
  · rintro ⟨u, hu, rfl⟩
    have hu' := mem_cls.1 hu
    refine ⟨h.ren.plt u hu'.1, (h.rt_iff GA GB RA RB hu'.1 hr).2 ?_⟩
    omega

theorem Iso.ids_perm (h : Iso n A B p s) (GA : Gr n A) (GB : Gr n B) (RA : IsRt n A ra) (RB : IsRt n B rb) (hf : ∀ i, i < n → g (p i) = f i) {r : Nat} (hr : r < n) (hrr : ra r = r) : ((cls n rb (rb (p r))).map g).Perm ((cls n ra r).map f) := by
  have h1 := (h.cls_perm GA GB RA RB hr hrr).map g
  have e : ((cls n ra r).map p).map g = (cls n ra r).map f := by
    rw [List.map_map]
    apply List.map_congr_left
    intro v hv
    exact hf v (mem_cls.1 hv).1
  rwa [e] at h1

theorem least_perm {l l' : List Nat} {x y : Int} (h : Least f l x) (k : Least g l' y) (hp : (l.map f).Perm (l'.map g)) : x = y := by
  obtain ⟨⟨u, hu, e1⟩, h2⟩ := h
  obtain ⟨⟨v, hv, e2⟩, k2⟩ := k
  have a : f u ∈ l'.map g := hp.mem_iff.1 (List.mem_map.2 ⟨u, hu, rfl⟩)
  obtain ⟨u', hu', e3⟩ := List.mem_map.1 a
  have b : g v ∈ l.map f := hp.mem_iff.2 (List.mem_map.2 ⟨v, hv, rfl⟩)
  obtain ⟨v', hv', e4⟩ := List.mem_map.1 b
  have := k2 u' hu'
  have := h2 v' hv'
  omega

theorem Iso.lst_eq (h : Iso n A B p s) (GA : Gr n A) (GB : Gr n B) (RA : IsRt n A ra) (RB : IsRt n B rb) (hf : ∀ i, i < n → g (p i) = f i) {r : Nat} (hr : r < n) (hrr : ra r = r) : lst g (cls n rb (rb (p r))) = lst f (cls n ra r) := by
  have hp := h.ren.plt r hr
  exact least_perm (lst_least (cls_ne (RB.lt hp) (RB.idem GB hp))) (lst_least (cls_ne hr hrr)) (h.ids_perm GA GB RA RB hf hr hrr)

theorem Iso.sz_eq (h : Iso n A B p s) (GA : Gr n A) (GB : Gr n B) (RA : IsRt n A ra) (RB : IsRt n B rb) {r : Nat} (hr : r < n) (hrr : ra r = r) : sz n rb (rb (p r)) = sz n ra r := by
  have := (h.cls_perm GA GB RA RB hr hrr).length_eq
  simpa [sz] using this

/-- The best beats, or is no worse than, every other. -/
theorem best_max {m b : Nat} (h : bestTo n ra f m = some b) : ∀ r, r < m → ra r = r → sz n ra r < sz n ra b ∨ (sz n ra r = sz n ra b ∧ lst f (cls n ra b) ≤ lst f (cls n ra r)) := by
  induction m generalizing b with
  | zero => intro r hr; omega
  | succ m ih =>
    intro r hr hrr
    by_cases hm : ra m = m
    · rw [best_next hm] at h
      cases ho : bestTo n ra f m with
      | none =>
        rw [ho] at h
        simp [pickStep] at h
        subst h
        by_cases e : r = m
        · subst e
          exact .inr ⟨rfl, Int.le_refl _⟩
        · exfalso
          obtain ⟨c, hc⟩ : ∃ c, bestTo n ra f m = some c := by
            have hrm : r ∈ rootsTo ra m := mem_roots.2 ⟨by omega, hrr⟩
            clear ih hr ho
            unfold bestTo
            generalize rootsTo ra m = l at hrm
            have key : ∀ (l : List Nat) (o : Option Nat), (l ≠ [] ∨ o ≠ none) → ∃ c, l.foldl (pickStep n ra f) o = some c := by
              intro l
              induction l with
              | nil =>
                intro o ho
                cases o with
                | none => simp at ho
                | some c => exact ⟨c, rfl⟩
              | cons a l ihl =>
                intro o _
                rw [List.foldl_cons]
                refine ihl _ (.inr ?_)
                cases o with
                | none => simp [pickStep]
                | some c =>
                  simp only [pickStep]
                  split <;> simp
            exact key l none (.inl fun e => by rw [e] at hrm; simp at hrm)
          rw [ho] at hc
          cases hc
      | some c =>
        rw [ho] at h
        have hc := ih ho
        simp only [pickStep] at h
        split at h
        · rename_i hb
          simp at h
          subst h
          simp only [beat, decide_eq_true_eq] at hb
          by_cases e : r = m
          · subst e
            exact .inr ⟨rfl, Int.le_refl _⟩
          · have := hc r (by omega) hrr
            omega
        · rename_i hb
          simp at h
          subst h
          simp only [beat, decide_eq_true_eq] at hb
          by_cases e : r = m
          · subst e
            omega
          · exact hc r (by omega) hrr
    · rw [best_skip hm] at h
      have e : r ≠ m := fun e => hm (by rw [← e]; exact hrr)
      exact ih h r (by omega) hrr

/-- THE LAW: the best of the one and the best of the other bear the same ids. -/
theorem Iso.best (h : Iso n A B p s) (GA : Gr n A) (GB : Gr n B) (RA : IsRt n A ra) (RB : IsRt n B rb) (hf : ∀ i, i < n → g (p i) = f i) (hinj : ∀ i j, i < n → j < n → f i = f j → i = j)
    {a b : Nat} (ha : bestTo n ra f n = some a) (hb : bestTo n rb g n = some b) : ((cls n rb b).map g).Perm ((cls n ra a).map f) := by
  have ra' := best_root ha
  have rb' := best_root hb
  have hg : ∀ i, i < n → f (s i) = g i := fun i hi => by
    have := hf (s i) (h.ren.slt i hi)
    rw [h.ren.ps i hi] at this
    exact this.symm
  have hpa := h.ren.plt a ra'.1
  have hsb := h.ren.slt b rb'.1
  have e1 := h.sz_eq GA GB RA RB ra'.1 ra'.2
  have e2 := h.lst_eq GA GB RA RB hf ra'.1 ra'.2
  have e3 := h.symm.sz_eq GB GA RB RA rb'.1 rb'.2
  have e4 := h.symm.lst_eq GB GA RB RA hg rb'.1 rb'.2
  have m1 := best_max hb (rb (p a)) (RB.lt hpa) (RB.idem GB hpa)
  have m2 := best_max ha (ra (s b)) (RA.lt hsb) (RA.idem GA hsb)
  have hl : lst g (cls n rb b) = lst g (cls n rb (rb (p a))) := by omega
  have hbe : b = rb (p a) := by
    obtain ⟨⟨u, hu, eu⟩, _⟩ := lst_least (f := g) (cls_ne rb'.1 rb'.2)
    obtain ⟨⟨v, hv, ev⟩, _⟩ := lst_least (f := g) (cls_ne (RB.lt hpa) (RB.idem GB hpa))
    have hu' := mem_cls.1 hu
    have hv' := mem_cls.1 hv
    have e5 : f (s u) = f (s v) := by rw [hg u hu'.1, hg v hv'.1]; omega
    have e6 := hinj _ _ (h.ren.slt u hu'.1) (h.ren.slt v hv'.1) e5
    have e7 : u = v := by rw [← h.ren.ps u hu'.1, ← h.ren.ps v hv'.1, e6]
    rw [← hu'.2, ← hv'.2, e7]
  rw [hbe]
  exact h.ids_perm GA GB RA RB hf ra'.1 ra'.2

/-- The largest holds its share. -/
theorem share (G : Gr n A) (R : IsRt n A ra) {b : Nat} (hb : bestTo n ra f n = some b) : n ≤ sz n ra b * (rootsTo ra n).length := by
  have h1 : (List.range n).Nodup := List.nodup_range
  have h2 := h1.length_le_of_subset (l₂ := (rootsTo ra n).flatMap (cls n ra)) fun v hv => by
    have hv' := List.mem_range.1 hv
    exact List.mem_flatMap.2 ⟨ra v, mem_roots.2 ⟨R.lt hv', R.idem G hv'⟩, mem_cls.2 ⟨hv', rfl⟩⟩
  have h3 : ∀ l : List Nat, (∀ r, r ∈ l → sz n ra r ≤ sz n ra b) → (l.flatMap (cls n ra)).length ≤ sz n ra b * l.length := by
    intro l
    induction l with
    | nil => simp
    | cons a l ih =>
      intro h
      have h4 := ih fun r hr => h r (by simp [hr])
      have h5 := h a (by simp)
      rw [List.flatMap_cons, List.length_append, List.length_cons, Nat.mul_add, Nat.mul_one]
      unfold sz at h5 ⊢
      unfold sz at h4
      omega
  have h4 := h3 (rootsTo ra n) fun r hr => by
    have hr' := mem_roots.1 hr
    have := best_max hb r hr'.1 hr'.2
    omega
  rw [List.length_range] at h2
  omega

theorem strict_of {l : List Int} (h : l.Pairwise (· ≤ ·)) (hn : l.Nodup) : l.Pairwise (· < ·) := by
  rw [List.pairwise_iff_getElem] at h ⊢
  intro i j hi hj hij
  have h1 := h i j hi hj hij
  have h2 : l[i] ≠ l[j] := fun e => by
    have := (List.getElem_inj hn).1 e
    omega
  omega

theorem nodup_best {a : Nat} {ls : List Int} (hinj : ∀ i j, i < n → j < n → f i = f j → i = j) (hp : ls.Perm ((cls n ra a).map f)) : ls.Nodup := by
  rw [hp.nodup_iff]
  exact nodup_map_on (nodup_cls a) fun u v hu hv e => hinj u v (mem_cls.1 hu).1 (mem_cls.1 hv).1 e

/-- A sorted list no two neighbours of which are alike names nothing twice. -/
theorem nodup_of_steps {l : List Int} (h : l.Pairwise (· ≤ ·)) (hs : ∀ k x y, l[k]? = some x → l[k + 1]? = some y → x ≠ y) : l.Nodup := by
  rw [List.nodup_iff_pairwise_ne, List.pairwise_iff_getElem]
  intro i j hi hj hij e
  have h1 : i + 1 < l.length := by omega
  have h2 := pw_get h (i := i) (j := i + 1) (by omega) (List.getElem?_eq_getElem hi) (List.getElem?_eq_getElem h1)
  have h3 := pw_get h (i := i + 1) (j := j) (by omega) (List.getElem?_eq_getElem h1) (List.getElem?_eq_getElem hj)
  have h4 := hs i _ _ (List.getElem?_eq_getElem hi) (List.getElem?_eq_getElem h1)
  omega

theorem inj_of_nodup {ids : List Int} (h : ids.Nodup) : ∀ i j, i < ids.length → j < ids.length → ids.getD i 0 = ids.getD j 0 → i = j := by
  intro i j hi hj e
  have h1 := get_of hi
  have h2 := get_of hj
  rw [List.getElem?_eq_getElem hi] at h1
  rw [List.getElem?_eq_getElem hj] at h2
  simp only [Option.some.injEq] at h1 h2
  exact (List.getElem_inj h).1 (by rw [h1, h2, e])
end

/-- The renumbered adjacency is the same graph. -/
theorem iso_nb2 {n : Nat} {p s : Nat → Nat} {S N : List Int} (h : WF n S N) (hr : Ren n p s) : Iso n (adj S N) (adj (st2To p s n S N (n + 1)) (nb2To p s S N n)) p s := by
  refine ⟨hr, fun u v hu hv => ?_, fun u v hu hv => ?_⟩
  · exact (mem_adj2 (hr.plt u hu)).2 ⟨v, by rw [hr.sp u hu]; exact hv, rfl⟩
  · obtain ⟨x, hx, rfl⟩ := (mem_adj2 hu).1 hv
    rw [hr.sp x (h.adj_lt (hr.slt u hu) hx)]
    exact hx

end Go.Proofs.Qxb6605323a
