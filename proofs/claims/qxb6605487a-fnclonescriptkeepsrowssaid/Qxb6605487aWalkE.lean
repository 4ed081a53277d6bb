import Derived.Test.Qxb6605487aWalkD
namespace Go.Proofs.Qxb6605487a
open Go.RowKit
set_option linter.unusedVariables false

theorem splice_front (zs bs : List Int) : splice zs 0 bs = bs ++ zs.drop bs.length := by simp [splice]

/-- The world with the pair boxed. -/
theorem boxed (w : World) (a0 : Option Addr) (l0 c0 : Nat) (x : Int) : Rw (w.alloc (.cells #[.slice a0 l0 c0, .int .i64 x] 42)) w.heap.size 42 2 [.slice a0 l0 c0, .int .i64 x] :=
  Rw.made w 42 [.slice a0 l0 c0, .int .i64 x]

theorem heap_alloc_size (w : World) (o : Obj) : (w.alloc o).heap.size = w.heap.size + 1 := by simp

theorem grown_boxed {S T : Nat → Prop} {w w' : World} {o : Obj} (h : GrownP S (w.alloc o) w') (hST : ∀ k, k < w.heap.size → S k → T k) : GrownP T w w' := by
  have ha : GrownP S w (w.alloc o) := GrownP.of_grown (World.grownBy_alloc w o none) (by simp)
  exact (ha.trans h).weak hST

theorem zz8_reuse (g0 g2 l n : Nat) (left : Int) (zs bs : List Int) (w : World) (hl : zs.length = l) (hn : bs.length = n) (hpos : 0 < n) (hnl : n ≤ l) (hl1 : l ≤ 524288)
    (h0 : UR w g0 5 l zs) (h2 : UR w g2 5 n bs) (hne : g0 ≠ g2) :
    Calls Try.prog 8 #[.slice (some ⟨g0, 0, none⟩) l l, .int .i64 left, .slice (some ⟨g2, 0, none⟩) n n] w fun e w' =>
      e = .returned (.tuple #[.slice (some ⟨g0, 0, none⟩) n n, .slice (restAt g0 0 n l) (l - n) (l - n), .int .i64 (wrap64 (left - n))]) ∧ UR w' g0 5 l (bs ++ zs.drop n) ∧ GrownP (fun k => k = g0) w w' := by
  have hlt := h0.lt
  refine (zz8 (some ⟨g0, 0, none⟩) (some ⟨g2, 0, none⟩) (some ⟨g0, 0, none⟩) (restAt g0 0 n l) l l n n n n (l - n) (l - n) left (wrap64 (left - n)) w (fun w' => UR w' g0 5 l (bs ++ zs.drop n) ∧ GrownP (fun k => k = g0) w w')
    ((clone13_reuse w.heap.size g0 0 l l g2 0 n n l left zs bs _ hn hpos hnl (by omega) (Nat.le_refl _) (by omega) (boxed w _ _ _ _) (h0.alloc _) hl (h2.alloc _).cells (by omega)).mono ?_)).mono ?_
  · rintro e w' ⟨rfl, hr, hB, hg⟩
    rw [splice_front, hn] at hr
    exact ⟨rfl, hB, hr, grown_boxed hg (fun k hk h => by rcases h with h | h; omega; exact h)⟩
  · rintro e w' ⟨rfl, w1, k, ⟨hr, hg⟩, rfl⟩
    exact ⟨rfl, hr.drewN k, hg.drewN k⟩

theorem zz8_fresh (a0 : Option Addr) (g2 l c0 n M : Nat) (left : Int) (bs : List Int) (w : World) (hn : bs.length = n) (hnl : l < n) (hl1 : n ≤ 524288) (hM : (M : Int) = max (n : Int) (min 8192 left))
    (h2 : UR w g2 5 n bs) :
    Calls Try.prog 8 #[.slice a0 l c0, .int .i64 left, .slice (some ⟨g2, 0, none⟩) n n] w fun e w' => ∃ G, w.heap.size ≤ G ∧
      e = .returned (.tuple #[.slice (some ⟨G, 0, none⟩) n n, .slice (restAt G 0 n M) (M - n) (M - n), .int .i64 (wrap64 (left - n))]) ∧ UR w' G 5 M (bs ++ List.replicate (M - n) 0) ∧ Below w.heap.size w w' := by
  have hlt := h2.lt
  refine (zz8 a0 (some ⟨g2, 0, none⟩) (some ⟨w.heap.size + 1, 0, none⟩) (restAt (w.heap.size + 1) 0 n M) l c0 n n n n (M - n) (M - n) left (wrap64 (left - n)) w (fun w' => UR w' (w.heap.size + 1) 5 M (bs ++ List.replicate (M - n) 0) ∧ Below w.heap.size w w')
    ((clone13_fresh w.heap.size g2 0 n n l c0 M a0 left bs _ hn (by omega) hnl (by omega) hM (boxed w _ _ _ _) (h2.alloc _).cells (by omega)).mono ?_)).mono ?_
  · rintro e w' ⟨rfl, hr, hB, hg⟩
    rw [splice_front, hn, List.drop_replicate] at hr
    rw [heap_alloc_size] at hr hB ⊢
    exact ⟨rfl, hB, hr, (grown_boxed (T := fun k => k = w.heap.size) hg (fun k hk h => by omega)).below (Nat.le_refl _) (fun k h => by omega)⟩
  · rintro e w' ⟨rfl, w1, k, ⟨hr, hg⟩, rfl⟩
    exact ⟨_, Nat.le_succ _, rfl, hr.drewN k, below_drewN hg k⟩

theorem zz8_nil (a0 : Option Addr) (l c0 : Nat) (left : Int) (w : World) :
    Calls Try.prog 8 #[.slice a0 l c0, .int .i64 left, .slice none 0 0] w fun e w' => ∃ A : Option Addr, A.isNone = true ∧ 
      e = .returned (.tuple #[.slice A 0 0, .slice a0 l c0, .int .i64 left]) ∧ Below w.heap.size w w' := by
  refine (zz8 a0 none none a0 l c0 0 0 0 0 l c0 left left w (fun w' => Below w.heap.size w w') ((clone13_nil w.heap.size _).mono ?_)).mono ?_
  · rintro e w' ⟨rfl, rfl⟩
    exact ⟨rfl, boxed w _ _ _ _, (Below.refl _ _).alloc (Nat.le_refl _) _⟩
  · rintro e w' ⟨rfl, w1, k, hg, rfl⟩
    exact ⟨none, rfl, rfl, below_drewN hg k⟩

theorem zz8_empty (a0 : Option Addr) (l c0 : Nat) (x : Addr) (left : Int) (w : World) :
    Calls Try.prog 8 #[.slice a0 l c0, .int .i64 left, .slice (some x) 0 0] w fun e w' => ∃ A : Option Addr, A.isNone = false ∧
      e = .returned (.tuple #[.slice A 0 0, .slice a0 l c0, .int .i64 left]) ∧ Below w.heap.size w w' := by
  have hb := ((Below.refl w.heap.size w).alloc (Nat.le_refl _) (.cells #[.slice a0 l c0, .int .i64 left] 42))
  refine (zz8 a0 (some x) (some ⟨w.heap.size + 1, 0, none⟩) a0 l c0 0 0 0 0 l c0 left left w (fun w' => Below w.heap.size w w') ((clone13_empty w.heap.size x _).mono ?_)).mono ?_
  · rintro e w' ⟨rfl, rfl⟩
    rw [heap_alloc_size]
    exact ⟨rfl, (boxed w _ _ _ _).alloc _, hb.alloc (by rw [heap_alloc_size]; omega) _⟩
  · rintro e w' ⟨rfl, w1, k, hg, rfl⟩
    exact ⟨some _, rfl, rfl, below_drewN hg k⟩
end Go.Proofs.Qxb6605487a
