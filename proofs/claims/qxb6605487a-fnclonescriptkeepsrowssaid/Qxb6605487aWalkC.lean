import Derived.Test.Qxb6605487aWalkB
namespace Go.Proofs.Qxb6605487a
open Go.RowKit
set_option linter.unusedVariables false

/-- What is left of a buffer behind its first n bytes. -/
def restAt (g o n cb : Nat) : Option Addr := if cb = n then some ⟨g, o, none⟩ else some ⟨g, o + n, none⟩

/-- The copy of this function: the law above at the operation as it stands. -/
theorem copy13 {w : World} {ops : Array Oper} {rest : List Oper} {dst : Option Nat} {ty : TypeId} {pos : String} {after : Array Edge} {a : Act} {Q : Exit → Act → World → Prop}
    (g off n dCap gb ob sCap : Nat) (cap : Nat) (cur bs : List Int) (hcap : cur.length = cap)
    (hr : UR w g 5 cap cur) (hb : Cells w (some ⟨gb, ob, none⟩) bs) (hn : bs.length = n) (hfit : off + n ≤ cap)
    (hd : a.eval (.tmp 40) = .slice (some ⟨g, off, none⟩) n dCap) (hs : a.eval (.tmp 41) = .slice (some ⟨gb, ob, none⟩) n sCap)
    (h : ∀ w', UR w' g 5 cap (splice cur off bs) → w.grownBy w' (some g) → wpList Try.prog ops Q rest (a.put dst (goInt n)) w') :
    wpList Try.prog ops Q ({ dst := dst, op := .call { callee := .builtin .copy, args := #[.tmp 40, .tmp 41], argTypes := #[22, 22] }, type := ty, pos := pos, after := after, guard := none } :: rest) a w :=
  wpList_copyU rfl _ _ 22 rfl 5 Try.underlying22 (by kernel_rfl) g off n dCap gb ob sCap hd hs cap cur bs hcap hr hb hn hfit h

set_option maxHeartbeats 4000000 in
theorem clone13_reuse (B g o lb cb gb ob n sCap cap : Nat) (left : Int) (cur bs : List Int) (w : World) (hn : bs.length = n) (hpos : 0 < n) (hle : n ≤ lb) (hm : lb ≤ 1048576) (hlc : lb ≤ cb) (hfit : o + cb ≤ cap)
    (hB : Rw w B 42 2 [.slice (some ⟨g, o, none⟩) lb cb, .int .i64 left]) (hr : UR w g 5 cap cur) (hcap : cur.length = cap) (hb : Cells w (some ⟨gb, ob, none⟩) bs) (hBg : B ≠ g) :
    Calls Try.prog 13 #[.pointer (some ⟨B, 0, none⟩), .slice (some ⟨gb, ob, none⟩) n sCap] w fun e w' => e = .returned (.slice (some ⟨g, o, none⟩) n n) ∧ UR w' g 5 cap (splice cur o bs) ∧
      Rw w' B 42 2 [.slice (restAt g o n cb) (lb - n) (cb - n), .int .i64 (wrap64 (left - n))] ∧ GrownP (fun k => k = B ∨ k = g) w w' := by
  have HB := hB
  have HR := hr
  have hsz : (Try.prog.info? 5).map (·.size) = some 1 := by kernel_rfl
  have hc0 : w.cell? ⟨B, 0, none⟩ = some (.slice (some ⟨g, o, none⟩) lb cb) := hB.cell (i := 0) rfl
  have hc1 : w.cell? ⟨B, 1, none⟩ = some (.int .i64 left) := hB.cell (i := 1) rfl
  have x1 : ((n : Int) == 0) = false := by simp; omega
  have x2 : decide ((lb : Int) < (n : Int)) = false := by simp; omega
  clear hB hr
  go_enter Try.func13, Try.ntmps13
  have hfit' : o + n ≤ cap := by omega
  go_wp2_with (with_reducible refine copy13 g o n n gb ob sCap cap cur bs hcap HR hb hn hfit' ?_ ?_ ?_)
  · rfl
  · rfl
  intro w1 hr1 hg1
  have hB1 : Rw w1 B 42 2 [.slice (some ⟨g, o, none⟩) lb cb, .int .i64 left] := HB.kept hg1 (by simpa using hBg)
  have hd0 : w1.cell? ⟨B, 0, none⟩ = some (.slice (some ⟨g, o, none⟩) lb cb) := hB1.cell (i := 0) rfl
  have hd1 : w1.cell? ⟨B, 1, none⟩ = some (.int .i64 left) := hB1.cell (i := 1) rfl
  have hf0 := hB1.frozen 0
  have hf1 := hB1.frozen 1
  have HB1 : Hid (Rw w1 B 42 2 [.slice (some ⟨g, o, none⟩) lb cb, .int .i64 left]) := hB1
  have HR1 : Hid (UR w1 g 5 cap (splice cur o bs)) := hr1
  have HG1 : Hid (w.grownBy w1 (some g)) := hg1
  clear HB HR hc0 hc1 hg1 hB1 hr1 hb hn hcap hfit hm hfit' hsz
  have hends : ∀ A, A = restAt g o n cb → UR ((w1.setCell ⟨B, 0, none⟩ (.slice A (lb - n) (cb - n))).setCell ⟨B, 1, none⟩ (.int .i64 (wrap64 (left - n)))).drew g 5 cap (splice cur o bs) ∧
      Rw ((w1.setCell ⟨B, 0, none⟩ (.slice A (lb - n) (cb - n))).setCell ⟨B, 1, none⟩ (.int .i64 (wrap64 (left - n)))).drew B 42 2 [.slice (restAt g o n cb) (lb - n) (cb - n), .int .i64 (wrap64 (left - n))] ∧
      GrownP (fun k => k = B ∨ k = g) w ((w1.setCell ⟨B, 0, none⟩ (.slice A (lb - n) (cb - n))).setCell ⟨B, 1, none⟩ (.int .i64 (wrap64 (left - n)))).drew := by
    rintro A rfl
    refine ⟨((HR1.out.setOther (a := ⟨B, 0, none⟩) hBg.symm _).setOther (a := ⟨B, 1, none⟩) hBg.symm _).drew, ?_, (((GrownP.of_grown HG1.out (fun k hk => .inr (by cases hk; rfl))).set (.inl (.inl rfl)) _).set (.inl (.inl rfl)) _).drew⟩
    exact (HB1.out.set 0 _).set 1 _
  clear hlc x1 x2 hBg
  have y1 : (n : Int) ≤ (lb : Int) := by omega
  by_cases hcn : cb = n
  · have hE := hends (some ⟨g, o, none⟩) (by simp [restAt, hcn])
    have HE : Hid _ := hE
    clear hE hends
    subst hcn
    go_wp2_with fail
    go_simp
    go_big_region
    go_wp2
    go_ret
    exact ⟨rfl, by simpa only [Nat.sub_self] using HE.out⟩
  · have hE := hends (some ⟨g, o + n, none⟩) (by simp [restAt, hcn])
    have HE : Hid _ := hE
    clear hE hends
    go_wp2_with fail
    go_simp
    go_big_region
    go_wp2
    go_ret
    exact ⟨rfl, HE.out⟩

theorem Cells.keptP {S : Nat → Prop} {w w' : World} {b o : Nat} {zs : List Int} (h : Cells w (some ⟨b, o, none⟩) zs) (hg : GrownP S w w') (hS : ¬ S b) : Cells w' (some ⟨b, o, none⟩) zs := by
  intro i z hz
  have hc := h.at hz
  exact ⟨b, o, rfl, (World.cell?_of_block (w := w) (hg.block b (World.block_lt_of_cell? w _ hc) hS)).trans hc⟩

theorem UR.keptP {S : Nat → Prop} {w w' : World} {g : Nat} {e : TypeId} {cap : Nat} {zs : List Int} (h : UR w g e cap zs) (hg : GrownP S w w') (hS : ¬ S g) : UR w' g e cap zs :=
  Rw.of_block h (hg.block g h.lt hS)

set_option maxHeartbeats 4000000 in
theorem clone13_fresh (B gb ob n sCap lb cb M : Nat) (ab : Option Addr) (left : Int) (bs : List Int) (w : World) (hn : bs.length = n) (hpos : 0 < n) (hlt : lb < n) (hm : n ≤ 1048576) (hM : (M : Int) = max (n : Int) (min 8192 left))
    (hB : Rw w B 42 2 [.slice ab lb cb, .int .i64 left]) (hb : Cells w (some ⟨gb, ob, none⟩) bs) (hBb : gb ≠ B) :
    Calls Try.prog 13 #[.pointer (some ⟨B, 0, none⟩), .slice (some ⟨gb, ob, none⟩) n sCap] w fun e w' => e = .returned (.slice (some ⟨w.heap.size, 0, none⟩) n n) ∧ UR w' w.heap.size 5 M (splice (List.replicate M 0) 0 bs) ∧
      Rw w' B 42 2 [.slice (restAt w.heap.size 0 n M) (M - n) (M - n), .int .i64 (wrap64 (left - n))] ∧ GrownP (fun k => k = B) w w' := by
  obtain ⟨i0, hi, hz0, hz1, hz2⟩ := info_parts Try.info5
  have HB : Hid (Rw w B 42 2 [.slice ab lb cb, .int .i64 left]) := hB
  have hc0 : w.cell? ⟨B, 0, none⟩ = some (.slice ab lb cb) := hB.cell (i := 0) rfl
  have hc1 : w.cell? ⟨B, 1, none⟩ = some (.int .i64 left) := hB.cell (i := 1) rfl
  have x1 : ((n : Int) == 0) = false := by simp; omega
  have x2 : (lb : Int) < (n : Int) := by omega
  clear hB
  obtain ⟨m, hm1⟩ : ∃ m, (if left < 8192 then left else 8192) = m := ⟨_, rfl⟩
  have hm2 : (if (n : Int) < m then m else (n : Int)) = (M : Int) := by
    rw [hM, ← hm1]
    split <;> split <;> omega
  have hnM : n ≤ M := by omega
  have hM1 : M ≤ 1048576 := by omega
  clear hM
  go_enter Try.func13, Try.ntmps13
  have hBlt := HB.out.lt
  have hgb : gb < w.heap.size := by
    have := hb.at (List.getElem?_eq_getElem (by omega : 0 < bs.length))
    exact World.block_lt_of_cell? w _ this
  have hrep : (List.replicate M (0 : Int)).length = M := by simp
  have hfit : 0 + n ≤ M := by omega
  have hlen : bs.length = n := hn
  clear hn
  go_wp2_with (first
    | (at_make
       refine wpList_make_full _ rfl _ _ 22 rfl w.heap.size 5 i0 (.int .u8 0) 1 Try.underlying22 hi hz0 hz1 _ _ _ _ M rfl rfl rfl rfl (by rw [hz2]; omega) (by unfold maxLen; omega) (Nat.le_refl _) ?_
       intro w1 hown hgrow
       have hf0 := (HB.out.kept hgrow (by simp)).frozen 0
       have hd0 := (HB.out.kept hgrow (by simp)).cell (i := 0) rfl
       have hr2 := (madeU hown).setOther (a := ⟨B, 0, none⟩) (by show w.heap.size ≠ B; omega) (.slice (some ⟨w.heap.size, 0, none⟩) M M)
       have HB2 : Hid _ := (HB.out.kept hgrow (by simp)).set 0 (.slice (some ⟨w.heap.size, 0, none⟩) M M)
       have HG2 : Hid _ := (GrownP.of_grown (S := fun k => k = B) hgrow (by simp)).set (p := ⟨B, 0, none⟩) (.inl rfl) (.slice (some ⟨w.heap.size, 0, none⟩) M M)
       have hb2 := hb.keptP HG2.out hBb)
    | with_reducible refine copy13 w.heap.size 0 n n gb ob sCap M (List.replicate M 0) bs hrep hr2 hb2 hlen hfit ?_ ?_ ?_)
  · rfl
  · rfl
  intro w3 hr3 hg3
  have hB3 : Rw w3 B 42 2 [.slice (some ⟨w.heap.size, 0, none⟩) M M, .int .i64 left] := Rw.kept (show Rw _ B 42 2 [.slice (some ⟨w.heap.size, 0, none⟩) M M, .int .i64 left] from HB2.out) hg3 (by simp; omega)
  have hd0' : w3.cell? ⟨B, 0, none⟩ = some (.slice (some ⟨w.heap.size, 0, none⟩) M M) := hB3.cell (i := 0) rfl
  have hd1' : w3.cell? ⟨B, 1, none⟩ = some (.int .i64 left) := hB3.cell (i := 1) rfl
  have hf0' := hB3.frozen 0
  have hf1' := hB3.frozen 1
  have hends : ∀ A, A = restAt w.heap.size 0 n M → UR ((w3.setCell ⟨B, 0, none⟩ (.slice A (M - n) (M - n))).setCell ⟨B, 1, none⟩ (.int .i64 (wrap64 (left - n)))).drew w.heap.size 5 M (splice (List.replicate M 0) 0 bs) ∧
      Rw ((w3.setCell ⟨B, 0, none⟩ (.slice A (M - n) (M - n))).setCell ⟨B, 1, none⟩ (.int .i64 (wrap64 (left - n)))).drew B 42 2 [.slice (restAt w.heap.size 0 n M) (M - n) (M - n), .int .i64 (wrap64 (left - n))] ∧
      GrownP (fun k => k = B) w ((w3.setCell ⟨B, 0, none⟩ (.slice A (M - n) (M - n))).setCell ⟨B, 1, none⟩ (.int .i64 (wrap64 (left - n)))).drew := by
    rintro A rfl
    have hne : w.heap.size ≠ B := by omega
    refine ⟨((hr3.setOther (a := ⟨B, 0, none⟩) hne _).setOther (a := ⟨B, 1, none⟩) hne _).drew, (hB3.set 0 _).set 1 _, ?_⟩
    have h3 : GrownP (fun k => k = B) w w3 := by
      have h2 := HG2.out
      exact ⟨hg3.os.trans h2.os, hg3.tape.trans h2.tape, hg3.output.trans h2.output, Nat.le_trans h2.size hg3.size, fun k hk hn => (hg3.block k (Nat.lt_of_lt_of_le hk h2.size) (by simp; omega)).trans (h2.block k hk hn)⟩
    exact ((h3.set (.inl rfl) _).set (.inl rfl) _).drew
  clear hB3 HB2 HG2 hb2 hr2 hr3 hg3 hf0 hd0 hown hgrow hm1 hm2 hc0 hc1 HB hb x1 x2 hi hz0 hz1 hz2 hlen hfit hrep
  have y1 : (n : Int) ≤ (M : Int) := by omega
  by_cases hcn : M = n
  · have hE := hends (some ⟨w.heap.size, 0, none⟩) (by simp [restAt, hcn])
    have HE : Hid _ := hE
    clear hE hends
    subst hcn
    go_wp2_with fail
    go_simp
    go_big_region
    go_wp2
    go_ret
    exact ⟨rfl, by simpa only [Nat.sub_self] using HE.out⟩
  · have hE := hends (some ⟨w.heap.size, 0 + n, none⟩) (by simp [restAt, hcn])
    have HE : Hid _ := hE
    clear hE hends
    go_wp2_with fail
    go_simp
    go_big_region
    go_wp2
    go_ret
    exact ⟨rfl, by simpa only [Nat.zero_add] using HE.out⟩
end Go.Proofs.Qxb6605487a
