import Derived.Test.Qxb6605487aWalkI
namespace Go.Proofs.Qxb6605487a
open Go.RowKit
set_option linter.unusedVariables false

/-- What is left of the buffer, l bytes, lies in a row of bytes from block N on. -/
def Buf (w : World) (N : Nat) (a : Option Addr) (l : Nat) : Prop :=
  0 < l → ∃ g o cap cur, a = some ⟨g, o, none⟩ ∧ N ≤ g ∧ UR w g 5 cap cur ∧ cur.length = cap ∧ o + l ≤ cap

/-- O reads bs in a row of bytes from block N on, and what is left of the buffer lies behind it or elsewhere. -/
def Safe (w : World) (N : Nat) (a : Option Addr) (l : Nat) (O : Option Addr) (bs : List Int) : Prop :=
  0 < bs.length → ∃ g' o' cap cur, O = some ⟨g', o', none⟩ ∧ N ≤ g' ∧ UR w g' 5 cap cur ∧ (∀ i, i < bs.length → cur[o' + i]? = bs[i]?) ∧ ∀ g o, a = some ⟨g, o, none⟩ → 0 < l → g' = g → o' + bs.length ≤ o

theorem Buf.below {w w' : World} {N : Nat} {a : Option Addr} {l : Nat} (h : Buf w N a l) (hb : Below w.heap.size w w') : Buf w' N a l := by
  intro hl
  obtain ⟨g, o, cap, cur, h1, h2, h3, h4, h5⟩ := h hl
  exact ⟨g, o, cap, cur, h1, h2, h3.below hb h3.lt, h4, h5⟩

theorem Safe.below {w w' : World} {N : Nat} {a : Option Addr} {l : Nat} {O : Option Addr} {bs : List Int} (h : Safe w N a l O bs) (hb : Below w.heap.size w w') : Safe w' N a l O bs := by
  intro hl
  obtain ⟨g, o, cap, cur, h1, h2, h3, h4, h5⟩ := h hl
  exact ⟨g, o, cap, cur, h1, h2, h3.below hb h3.lt, h4, h5⟩

theorem Buf.setOther {w : World} {N : Nat} {a : Option Addr} {l : Nat} (h : Buf w N a l) {p : Addr} (hp : p.block < N) (v : Value) : Buf (w.setCell p v) N a l := by
  intro hl
  obtain ⟨g, o, cap, cur, h1, h2, h3, h4, h5⟩ := h hl
  exact ⟨g, o, cap, cur, h1, h2, h3.setOther (by omega) v, h4, h5⟩

theorem Safe.setOther {w : World} {N : Nat} {a : Option Addr} {l : Nat} {O : Option Addr} {bs : List Int} (h : Safe w N a l O bs) {p : Addr} (hp : p.block < N) (v : Value) : Safe (w.setCell p v) N a l O bs := by
  intro hl
  obtain ⟨g, o, cap, cur, h1, h2, h3, h4, h5⟩ := h hl
  exact ⟨g, o, cap, cur, h1, h2, h3.setOther (by omega) v, h4, h5⟩

theorem splice_in (cur bs : List Int) (o i : Nat) (h : o + bs.length ≤ cur.length) (hi : i < bs.length) : (splice cur o bs)[o + i]? = bs[i]? := by
  simp only [splice]
  have hl : (cur.take o).length = o := by simp; omega
  rw [List.getElem?_append_right (by omega), hl, show o + i - o = i by omega, List.getElem?_append_left hi]

theorem splice_before (cur bs : List Int) (o i : Nat) (h : o + bs.length ≤ cur.length) (hi : i < o) : (splice cur o bs)[i]? = cur[i]? := by
  simp only [splice]
  have hl : (cur.take o).length = o := by simp; omega
  rw [List.getElem?_append_left (by omega), List.getElem?_take, if_pos hi]

theorem splice_len (cur bs : List Int) (o : Nat) (h : o + bs.length ≤ cur.length) : (splice cur o bs).length = cur.length := length_splice cur o bs (by omega)

theorem UR.same {w : World} {g c d : Nat} {xs ys : List Int} (h : UR w g 5 c xs) (k : UR w g 5 d ys) {i : Nat} (hi : i < ys.length) {z : Int} (hz : xs[i]? = some z) : ys[i]? = some z := by
  have h1 := h.cell hz
  have h2 := k.cell (List.getElem?_eq_getElem hi)
  rw [h1] at h2
  simp at h2
  rw [List.getElem?_eq_getElem hi, h2]

theorem UR.cellsAt {w : World} {g cap o : Nat} {cur bs : List Int} (h : UR w g 5 cap cur) (hb : ∀ i, i < bs.length → cur[o + i]? = bs[i]?) : Cells w (some ⟨g, o, none⟩) bs := by
  intro i z hz
  have hi := (List.getElem?_eq_some_iff.1 hz).1
  exact ⟨g, o, rfl, h.cell (by rw [hb i hi]; exact hz)⟩

theorem zz8_cut (g0 o cap g2 l n : Nat) (left : Int) (zs bs : List Int) (w : World) (hl : zs.length = cap) (hn : bs.length = n) (hpos : 0 < n) (hnl : n ≤ l) (hl1 : l ≤ 1048576) (hcap : o + l ≤ cap)
    (h0 : UR w g0 5 cap zs) (h2 : UR w g2 5 n bs) (hne : g0 ≠ g2) :
    Calls Try.prog 8 #[.slice (some ⟨g0, o, none⟩) l l, .int .i64 left, .slice (some ⟨g2, 0, none⟩) n n] w fun e w' =>
      e = .returned (.tuple #[.slice (some ⟨g0, o, none⟩) n n, .slice (restAt g0 o n l) (l - n) (l - n), .int .i64 (wrap64 (left - n))]) ∧ UR w' g0 5 cap (splice zs o bs) ∧ GrownP (fun k => k = g0) w w' := by
  have hlt := h0.lt
  refine (zz8 (some ⟨g0, o, none⟩) (some ⟨g2, 0, none⟩) (some ⟨g0, o, none⟩) (restAt g0 o n l) l l n n n n (l - n) (l - n) left (wrap64 (left - n)) w (fun w' => UR w' g0 5 cap (splice zs o bs) ∧ GrownP (fun k => k = g0) w w')
    ((clone13_reuse w.heap.size g0 o l l g2 0 n n cap left zs bs _ hn hpos hnl hl1 (Nat.le_refl _) hcap (boxed w _ _ _ _) (h0.alloc _) hl (h2.alloc _).cells (by omega)).mono ?_)).mono ?_
  · rintro e w' ⟨rfl, hr, hB, hg⟩
    exact ⟨rfl, hB, hr, grown_boxed hg (fun k hk h => by rcases h with h | h; omega; exact h)⟩
  · rintro e w' ⟨rfl, w1, k, ⟨hr, hg⟩, rfl⟩
    exact ⟨rfl, hr.drewN k, hg.drewN k⟩

theorem zz8_new (a0 : Option Addr) (g2 l c0 n M : Nat) (left : Int) (bs : List Int) (w : World) (hn : bs.length = n) (hnl : l < n) (hl1 : n ≤ 1048576) (hM : (M : Int) = max (n : Int) (min 8192 left))
    (h2 : UR w g2 5 n bs) :
    Calls Try.prog 8 #[.slice a0 l c0, .int .i64 left, .slice (some ⟨g2, 0, none⟩) n n] w fun e w' => ∃ G, w.heap.size ≤ G ∧
      e = .returned (.tuple #[.slice (some ⟨G, 0, none⟩) n n, .slice (restAt G 0 n M) (M - n) (M - n), .int .i64 (wrap64 (left - n))]) ∧ UR w' G 5 M (bs ++ List.replicate (M - n) 0) ∧ Below w.heap.size w w' := by
  have hlt := h2.lt
  refine (zz8 a0 (some ⟨g2, 0, none⟩) (some ⟨w.heap.size + 1, 0, none⟩) (restAt (w.heap.size + 1) 0 n M) l c0 n n n n (M - n) (M - n) left (wrap64 (left - n)) w (fun w' => UR w' (w.heap.size + 1) 5 M (bs ++ List.replicate (M - n) 0) ∧ Below w.heap.size w w')
    ((clone13_fresh w.heap.size g2 0 n n l c0 M a0 left bs _ hn (by omega) hnl hl1 hM (boxed w _ _ _ _) (h2.alloc _).cells (by omega)).mono ?_)).mono ?_
  · rintro e w' ⟨rfl, hr, hB, hg⟩
    rw [splice_front, hn, List.drop_replicate] at hr
    rw [heap_alloc_size] at hr hB ⊢
    exact ⟨rfl, hB, hr, (grown_boxed (T := fun k => k = w.heap.size) hg (fun k hk h => by omega)).below (Nat.le_refl _) (fun k h => by omega)⟩
  · rintro e w' ⟨rfl, w1, k, ⟨hr, hg⟩, rfl⟩
    exact ⟨_, Nat.le_succ _, rfl, hr.drewN k, below_drewN hg k⟩

/-- One step of the script. -/
theorem step8 (N : Nat) (a0 A2 : Option Addr) (l n : Nat) (left : Int) (bs : List Int) (w : World) (hn : bs.length = n) (hn1 : n ≤ 1048576) (hl1 : l ≤ 1048576) (hw : wrap64 left = left) (hN : N ≤ w.heap.size)
    (hb : Buf w N a0 l) (h2 : 0 < n → ∃ K, A2 = some ⟨K, 0, none⟩ ∧ K < N ∧ UR w K 5 n bs) :
    Calls Try.prog 8 #[.slice a0 l l, .int .i64 left, .slice A2 n n] w fun e w' => ∃ O A' l', e = .returned (.tuple #[.slice O n n, .slice A' l' l', .int .i64 (wrap64 (left - n))]) ∧ l' ≤ 1048576 ∧ O.isNone = A2.isNone ∧
      Buf w' N A' l' ∧ Safe w' N A' l' O bs ∧ (∀ P cs, Safe w N a0 l P cs → Safe w' N A' l' P cs) ∧ Below N w w' := by
  by_cases hz : n = 0
  · subst hz
    refine (zz8_zero a0 A2 l l left w).mono ?_
    rintro e w' ⟨A, hA, rfl, hbl⟩
    refine ⟨A, a0, l, by rw [show wrap64 (left - ((0 : Nat) : Int)) = left by simpa using hw], hl1, hA, hb.below hbl, fun h => by omega, fun P cs hs => hs.below hbl, hbl.mono hN⟩
  obtain ⟨K, rfl, hK, hU⟩ := h2 (by omega)
  by_cases hle : n ≤ l
  · obtain ⟨g, o, cap, cur, rfl, hg, hr, hcl, hfit⟩ := hb (by omega)
    have hfit' : o + bs.length ≤ cur.length := by omega
    refine (zz8_cut g o cap K l n left cur bs w hcl hn (by omega) hle hl1 hfit hr hU (by omega)).mono ?_
    rintro e w' ⟨rfl, hr', hgp⟩
    have hrest : ∀ g2 o2, restAt g o n l = some ⟨g2, o2, none⟩ → 0 < l - n → g2 = g ∧ o2 = o + n := by
      intro g2 o2 h hp
      simp only [restAt] at h
      rw [if_neg (by omega)] at h
      cases h
      exact ⟨rfl, rfl⟩
    refine ⟨_, _, _, rfl, by omega, rfl, ?_, ?_, ?_, hgp.below hN (fun k hk => by omega)⟩
    · intro hp
      refine ⟨g, o + n, cap, splice cur o bs, ?_, hg, hr', by rw [splice_len cur bs o hfit']; exact hcl, by omega⟩
      simp only [restAt]
      rw [if_neg (by omega)]
    · intro hp
      refine ⟨g, o, _, _, rfl, hg, hr', (fun i hi => splice_in cur bs o i hfit' hi), ?_⟩
      intro g2 o2 h hp2 _
      have := (hrest g2 o2 h hp2).2
      omega
    · intro P cs hs hp
      obtain ⟨g', o', cap', cur', h1, h2, h3, hc, h4⟩ := hs hp
      by_cases hgg : g' = g
      · subst hgg
        have h5 := h4 g' o rfl (by omega) rfl
        refine ⟨g', o', _, _, h1, h2, hr', ?_, ?_⟩
        · intro i hi
          rw [splice_before cur bs o (o' + i) hfit' (by omega), List.getElem?_eq_getElem hi]
          exact h3.same hr (by omega) (by rw [hc i hi, List.getElem?_eq_getElem hi])
        · intro g2 o2 h hp2 hgg
          obtain ⟨e1, e2⟩ := hrest g2 o2 h hp2
          omega
      · refine ⟨g', o', cap', cur', h1, h2, h3.keptP hgp hgg, hc, ?_⟩
        intro g2 o2 h hp2 hgg'
        obtain ⟨e1, e2⟩ := hrest g2 o2 h hp2
        omega
  · obtain ⟨M, hM⟩ : ∃ M : Nat, (M : Int) = max (n : Int) (min 8192 left) := ⟨(max (n : Int) (min 8192 left)).toNat, by omega⟩
    refine (zz8_new a0 K l l n M left bs w hn (by omega) hn1 hM hU).mono ?_
    rintro e w' ⟨G, hG, rfl, hr, hbl⟩
    have hrest : ∀ g2 o2, restAt G 0 n M = some ⟨g2, o2, none⟩ → 0 < M - n → g2 = G ∧ o2 = n := by
      intro g2 o2 h hp
      simp only [restAt] at h
      rw [if_neg (by omega)] at h
      cases h
      exact ⟨rfl, by omega⟩
    refine ⟨_, _, _, rfl, by omega, rfl, ?_, ?_, ?_, hbl.mono hN⟩
    · intro hp
      refine ⟨G, n, M, _, ?_, by omega, hr, by simp; omega, by omega⟩
      simp only [restAt]
      rw [if_neg (by omega), Nat.zero_add]
    · intro hp
      refine ⟨G, 0, _, _, rfl, by omega, hr, fun i hi => by rw [Nat.zero_add, List.getElem?_append_left hi], ?_⟩
      intro g2 o2 h hp2 _
      have := (hrest g2 o2 h hp2).2
      omega
    · intro P cs hs hp
      obtain ⟨g', o', cap', cur', h1, h2, h3, hc, h4⟩ := hs hp
      have hlt := h3.lt
      refine ⟨g', o', cap', cur', h1, h2, h3.below hbl hlt, hc, ?_⟩
      intro g2 o2 h hp2 hgg
      have := (hrest g2 o2 h hp2).1
      omega
end Go.Proofs.Qxb6605487a
