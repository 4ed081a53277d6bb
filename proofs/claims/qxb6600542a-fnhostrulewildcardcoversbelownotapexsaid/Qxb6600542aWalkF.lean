import Derived.Test.Qxb6600542aWalkE
namespace Go.Proofs.Qxb6600542a
open Go.RowKit
set_option linter.unusedVariables false

/-- A rule of one host entry lies at B. -/
def Ru (w : World) (B : Nat) (entry : ByteArray) (ps : Value) : Prop :=
  ∃ g, w.cell? ⟨B, 1, none⟩ = some (.slice (some ⟨g, 0, none⟩) 1 1) ∧ w.cell? ⟨B, 2, none⟩ = some ps ∧ w.cell? ⟨g, 0, none⟩ = some (.string entry)

theorem Ru.later {w w' : World} {B : Nat} {entry : ByteArray} {ps : Value} (h : Ru w B entry ps) (hg : Gr w w') : Ru w' B entry ps := by
  obtain ⟨g, h1, h2, h3⟩ := h
  exact ⟨g, hg.2 _ _ h1, hg.2 _ _ h2, hg.2 _ _ h3⟩

theorem Ru.any {w : World} {B : Nat} {entry : ByteArray} (h : Ru w B entry (.slice none 0 0)) {host : ByteArray} {b : Bool} (hclo : Clo entry host b) (port : Int) :
    Calls Try.prog 25 #[.pointer (some ⟨B, 0, none⟩), .string host, .int .i64 port] w fun e w' => e = .returned (.bool b) ∧ Gr w w' := by
  obtain ⟨g, h1, h2, h3⟩ := h
  exact holds25 _ _ _ _ _ (holds35_any entry host b B g port w hclo h1 h2 h3)

/-- A rule of one port. -/
def Rp (w : World) (B : Nat) (entry : ByteArray) (x : Int) : Prop :=
  ∃ gp, Ru w B entry (.slice (some ⟨gp, 0, none⟩) 1 1) ∧ w.cell? ⟨gp, 0, none⟩ = some (.int .i64 x)

theorem Rp.later {w w' : World} {B : Nat} {entry : ByteArray} {x : Int} (h : Rp w B entry x) (hg : Gr w w') : Rp w' B entry x := by
  obtain ⟨g, h1, h2⟩ := h
  exact ⟨g, h1.later hg, hg.2 _ _ h2⟩

theorem Rp.on {w : World} {B : Nat} {entry : ByteArray} {x : Int} (h : Rp w B entry x) {host : ByteArray} {b : Bool} (hclo : Clo entry host b) :
    Calls Try.prog 25 #[.pointer (some ⟨B, 0, none⟩), .string host, .int .i64 x] w fun e w' => e = .returned (.bool b) ∧ Gr w w' := by
  obtain ⟨gp, ⟨g, h1, h2, h3⟩, h4⟩ := h
  exact holds25 _ _ _ _ _ (holds35_on entry host b B g gp x w hclo h1 h2 h4 h3)

theorem Rp.off {w : World} {B : Nat} {entry : ByteArray} {x : Int} (h : Rp w B entry x) (host : ByteArray) {port : Int} (hp : port ≠ x) :
    Calls Try.prog 25 #[.pointer (some ⟨B, 0, none⟩), .string host, .int .i64 port] w fun e w' => e = .returned (.bool false) ∧ Gr w w' := by
  obtain ⟨gp, ⟨g, h1, h2, h3⟩, h4⟩ := h
  exact holds25 _ _ _ _ _ (holds35_off entry host B g gp x port w hp h1 h2 h4)

theorem laid_any (w : World) (entry : ByteArray) : Ru ((w.alloc (.cells #[.string entry] 9)).alloc (.cells #[.string ⟨#[]⟩, .slice (some ⟨w.heap.size, 0, none⟩) 1 1, .slice none 0 0, .int .i64 0] 45)) (w.heap.size + 1) entry (.slice none 0 0) := by
  have hs : (w.alloc (.cells #[.string entry] 9)).heap.size = w.heap.size + 1 := by show (w.heap.push _).size = _; simp
  have h := alloc_cell (w.alloc (.cells #[.string entry] 9)) #[.string ⟨#[]⟩, .slice (some ⟨w.heap.size, 0, none⟩) 1 1, .slice none 0 0, .int .i64 0] 45
  rw [hs] at h
  exact ⟨w.heap.size, h 1, h 2, alloc_keeps _ _ _ _ _ (alloc_cell w _ _ 0)⟩

theorem laid_port (w : World) (entry : ByteArray) (x : Int) : Rp (((w.alloc (.cells #[.string entry] 9)).alloc (.cells #[.int .i64 x] 3)).alloc (.cells #[.string ⟨#[]⟩, .slice (some ⟨w.heap.size, 0, none⟩) 1 1, .slice (some ⟨w.heap.size + 1, 0, none⟩) 1 1, .int .i64 0] 45)) (w.heap.size + 1 + 1) entry x := by
  have hs0 : (w.alloc (.cells #[.string entry] 9)).heap.size = w.heap.size + 1 := by show (w.heap.push _).size = _; simp
  have hs : ((w.alloc (.cells #[.string entry] 9)).alloc (.cells #[.int .i64 x] 3)).heap.size = w.heap.size + 1 + 1 := by show ((w.heap.push _).push _).size = _; simp
  have h := alloc_cell ((w.alloc (.cells #[.string entry] 9)).alloc (.cells #[.int .i64 x] 3)) #[.string ⟨#[]⟩, .slice (some ⟨w.heap.size, 0, none⟩) 1 1, .slice (some ⟨w.heap.size + 1, 0, none⟩) 1 1, .int .i64 0] 45
  rw [hs] at h
  have h0 := alloc_cell (w.alloc (.cells #[.string entry] 9)) #[.int .i64 x] 3
  rw [hs0] at h0
  exact ⟨w.heap.size + 1, ⟨w.heap.size, h 1, h 2, alloc_keeps _ _ _ _ _ (alloc_keeps _ _ _ _ _ (alloc_cell w _ _ 0))⟩, alloc_keeps _ _ _ _ _ (h0 0)⟩

theorem next_ne (x : Int) (hx : (Lit.int .i64 x).wf = true) : wrap64 (x + 1) ≠ x := by
  have hb : -9223372036854775808 ≤ x ∧ x ≤ 9223372036854775807 := by
    simp [Lit.wf] at hx
    exact hx
  unfold wrap64
  omega

set_option maxRecDepth 100000 in
set_option maxHeartbeats 1000000 in
theorem law_main (par lab : ByteArray) (port oth : Int) (w : World) (h0 : par.size ≤ 524288) (h1 : lab.size ≤ 524288) (hport : (Lit.int .i64 port).wf = true) :
    Calls Try.prog 8 #[.string par, .string lab, .int .i64 port, .int .i64 oth] w fun e w' => e = .returned (.bool true) ∧ Grown w w' := by
  have k1 : decide ((524288 : Int) < par.size) = false := by simp; omega
  have k2 : decide ((524288 : Int) < lab.size) = false := by simp; omega
  have k3 : decide ((1048576 : Int) < (par.size : Int) + lab.size) = false := by simp; omega
  go_enter Try.func8, Try.ntmps8
  go_wp2_with fail
  refine (bytes24_ok par lab port oth w (by omega)).mono ?_
  rintro e w' ⟨rfl, hw⟩
  obtain rfl := hw.symm
  go_wp2_with fail
  have hr := laid_any w (⟨#[42, 46]⟩ ++ par)
  refine (hr.any (clo_below lab par h0 h1) port).mono ?_
  rintro e x1 ⟨rfl, hx1⟩
  have hr1 := hr.later hx1
  have hx1' : Gr w x1 := Gr.trans (Gr.trans (Gr.alloc _ _ _) (Gr.alloc _ _ _)) hx1
  clear hr hx1
  go_wp2_with fail
  refine (hr1.any (clo_below lab par h0 h1) oth).mono ?_
  rintro e x2 ⟨rfl, hx2⟩
  have hr2 := hr1.later hx2
  have hx2' := hx1'.trans hx2
  clear hr1 hx1' hx2
  go_wp2_with fail
  refine (hr2.any (clo_apex par h0) port).mono ?_
  rintro e x3 ⟨rfl, hx3⟩
  have hx3' := hx2'.trans hx3
  clear hr2 hx2' hx3
  go_wp2_with fail
  any_goals (go_ret; exact ⟨rfl, hx3'.1⟩)
  all_goals
    have hp : Pre par ⟨#[42, 46]⟩ = false := by
      cases hpre : Pre par ⟨#[42, 46]⟩ with
      | false => rfl
      | true =>
        obtain ⟨q0, q1, q2⟩ := pre_true par hpre
        exfalso
        first
          | omega
          | (have e1 : (((par[1]'(by omega)).toNat : Int) == 46) = true := by rw [q2]; rfl
             have e2 : (((par[1]'(by omega)).toNat : Int) == 46) = false := by assumption
             rw [e1] at e2
             cases e2)
    have hr3 := laid_port x3 par port
    refine (hr3.on (clo_same par h0 hp)).mono ?_
    rintro e x4 ⟨rfl, hx4⟩
    have hr4 := hr3.later hx4
    have hx4' : Gr w x4 := hx3'.trans (((Gr.alloc _ _ _).trans ((Gr.alloc _ _ _).trans (Gr.alloc _ _ _))).trans hx4)
    clear hr3 hx4
    have hn := next_ne port hport
    by_cases ho : oth = port
    · obtain rfl := ho
      go_wp2_with fail
      refine (hr4.off par hn).mono ?_
      rintro e x5 ⟨rfl, hx5⟩
      have hr5 := hr4.later hx5
      have hx5' := hx4'.trans hx5
      clear hr4 hx5
      go_wp2_with fail
      refine (hr5.on (clo_under lab par h0 h1 hp)).mono ?_
      rintro e x6 ⟨rfl, hx6⟩
      have hx6' := hx5'.trans hx6
      clear hr5 hx6
      go_wp2
      go_ret
      exact ⟨rfl, hx6'.1⟩
    · have ho1 : (oth == port) = false := by simp [ho]
      have ho2 : (oth != port) = true := by simp [ho]
      go_wp2_with fail
      refine (hr4.off par ho).mono ?_
      rintro e x5 ⟨rfl, hx5⟩
      have hr5 := hr4.later hx5
      have hx5' := hx4'.trans hx5
      clear hr4 hx5
      go_wp2_with fail
      refine (hr5.off par hn).mono ?_
      rintro e x6 ⟨rfl, hx6⟩
      have hr6 := hr5.later hx6
      have hx6' := hx5'.trans hx6
      clear hr5 hx6
      go_wp2_with fail
      refine (hr6.on (clo_under lab par h0 h1 hp)).mono ?_
      rintro e x7 ⟨rfl, hx7⟩
      have hx7' := hx6'.trans hx7
      clear hr6 hx7
      go_wp2
      go_ret
      exact ⟨rfl, hx7'.1⟩

theorem law_all (par lab : ByteArray) (port oth : Int) (w : World) (hport : (Lit.int .i64 port).wf = true) :
    Calls Try.prog 8 #[.string par, .string lab, .int .i64 port, .int .i64 oth] w fun e w' => e = .returned (.bool true) ∧ Grown w w' := by
  by_cases h : 1048576 < par.size + lab.size
  · exact law_over par lab port oth w h
  · by_cases h0 : par.size ≤ 524288
    · by_cases h1 : lab.size ≤ 524288
      · exact law_main par lab port oth w h0 h1 hport
      · exact law_big2 par lab port oth w (by omega) h0 (by omega)
    · exact law_big1 par lab port oth w (by omega) (by omega)

end Go.Proofs.Qxb6600542a
