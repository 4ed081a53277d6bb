import Derived.Test.Qxb6600542aWalkC
namespace Go.Proofs.Qxb6600542a
open Go.RowKit
set_option linter.unusedVariables false

theorem star_size : (ByteArray.mk #[42, 46]).size = 2 := rfl
theorem dot_size : (ByteArray.mk #[46]).size = 1 := rfl

theorem pre_star (par : ByteArray) : Pre (⟨#[42, 46]⟩ ++ par) ⟨#[42, 46]⟩ = true := by
  unfold Pre
  have e : (ByteArray.mk #[42, 46] ++ par).extract 0 (ByteArray.mk #[42, 46]).size = ByteArray.mk #[42, 46] := ByteArray.extract_append_eq_left rfl
  rw [e]
  simp [ByteArray.size_append]

theorem rest_star (par : ByteArray) : (ByteArray.mk #[42, 46] ++ par).extract 2 (ByteArray.mk #[42, 46] ++ par).size = par := by
  apply ByteArray.extract_append_eq_right
  · rfl
  · simp [ByteArray.size_append]

theorem suf_below (lab par : ByteArray) : Suf (lab ++ ⟨#[46]⟩ ++ par) (⟨#[46]⟩ ++ par) = true := by
  unfold Suf
  have e : (lab ++ ⟨#[46]⟩ ++ par).extract ((lab ++ ⟨#[46]⟩ ++ par).size - (ByteArray.mk #[46] ++ par).size) (lab ++ ⟨#[46]⟩ ++ par).size = ByteArray.mk #[46] ++ par := by
    rw [ByteArray.append_assoc]
    apply ByteArray.extract_append_eq_right
    · simp [ByteArray.size_append]
    · simp [ByteArray.size_append]
  rw [e]
  simp [ByteArray.size_append]

theorem suf_apex (par : ByteArray) : Suf par (⟨#[46]⟩ ++ par) = false := by
  unfold Suf
  have : ¬ (ByteArray.mk #[46] ++ par).size ≤ par.size := by
    rw [ByteArray.size_append, dot_size]; omega
  rw [decide_eq_false this]
  rfl

theorem len_toList (s : ByteArray) : s.toList.length = s.size := by
  rw [ByteArray.toList_eq]
  rfl

theorem ne_below (lab par : ByteArray) : ((lab ++ ⟨#[46]⟩ ++ par).toList == par.toList) = false := by
  apply beq_eq_false_iff_ne.2
  intro h
  have h1 := congrArg List.length h
  rw [len_toList, len_toList, ByteArray.size_append, ByteArray.size_append, dot_size] at h1
  omega

theorem eq_self (par : ByteArray) : (par.toList == par.toList) = true := by simp

theorem pre_true (par : ByteArray) (h : Pre par ⟨#[42, 46]⟩ = true) : ∃ h2 : 2 ≤ par.size, (par[0]'(by omega)).toNat = 42 ∧ (par[1]'(by omega)).toNat = 46 := by
  unfold Pre at h
  rw [Bool.and_eq_true] at h
  obtain ⟨h1, h2⟩ := h
  have h1' : 2 ≤ par.size := of_decide_eq_true h1
  have h3 := eq_of_beq h2
  rw [ByteArray.toList_eq, ByteArray.toList_eq] at h3
  obtain ⟨d⟩ := par
  have hd : 2 ≤ d.size := h1'
  have h4 : (d.extract 0 2).toList = [42, 46] := by
    have e : ((ByteArray.mk d).extract 0 2).data = d.extract 0 2 := by simp [ByteArray.data_extract]
    rw [← e]
    exact h3
  have e0 : d[0]'(by omega) = 42 := by
    have e1 : (d.extract 0 2).toList[0]? = some (42 : UInt8) := by rw [h4]; rfl
    have e2 : (d.extract 0 2).toList[0]? = some (d[0]'(by omega)) := by
      simp
    rw [e2] at e1
    exact Option.some.inj e1
  have e0' : d[1]'(by omega) = 46 := by
    have e1 : (d.extract 0 2).toList[1]? = some (46 : UInt8) := by rw [h4]; rfl
    have e2 : (d.extract 0 2).toList[1]? = some (d[1]'(by omega)) := by
      simp
    rw [e2] at e1
    exact Option.some.inj e1
  refine ⟨h1', ?_, ?_⟩
  · show (d[0]'(by omega)).toNat = 42
    rw [e0]; rfl
  · show (d[1]'(by omega)).toNat = 46
    rw [e0']; rfl

theorem par_le {par : ByteArray} (h0 : par.size ≤ 524288) : par.size ≤ 1048580 := by omega
theorem par_lt {par : ByteArray} (h0 : par.size ≤ 524288) : par.size ≤ 1048570 := by omega
theorem star_le (par : ByteArray) (h0 : par.size ≤ 524288) : (ByteArray.mk #[42, 46] ++ par).size ≤ 1048580 := by
  rw [ByteArray.size_append, star_size]; omega
theorem star_ge (par : ByteArray) : 2 ≤ (ByteArray.mk #[42, 46] ++ par).size := by
  rw [ByteArray.size_append, star_size]; omega
theorem below_le (lab par : ByteArray) (h0 : par.size ≤ 524288) (h1 : lab.size ≤ 524288) : (lab ++ ByteArray.mk #[46] ++ par).size ≤ 1048580 := by
  rw [ByteArray.size_append, ByteArray.size_append, dot_size]; omega

theorem clo_below (lab par : ByteArray) (h0 : par.size ≤ 524288) (h1 : lab.size ≤ 524288) : Clo (⟨#[42, 46]⟩ ++ par) (lab ++ ⟨#[46]⟩ ++ par) true := by
  intro B w hc
  have := clo41_wild (⟨#[42, 46]⟩ ++ par) (lab ++ ⟨#[46]⟩ ++ par) par B w (star_le par h0) (below_le lab par h0 h1) (par_lt h0) (star_ge par) (pre_star par) (rest_star par) hc
  rw [suf_below] at this
  exact this

theorem clo_apex (par : ByteArray) (h0 : par.size ≤ 524288) : Clo (⟨#[42, 46]⟩ ++ par) par false := by
  intro B w hc
  have h2 := star_ge par
  have h3 := pre_star par
  have h4 := rest_star par
  have h5 := star_le par h0
  have h6 := suf_apex par
  generalize ByteArray.mk #[42, 46] ++ par = en at *
  have := clo41_wild en par par B w h5 (par_le h0) (par_lt h0) h2 h3 h4 hc
  rw [h6] at this
  exact this

theorem clo_same (par : ByteArray) (h0 : par.size ≤ 524288) (hp : Pre par ⟨#[42, 46]⟩ = false) : Clo par par true := by
  intro B w hc
  have := clo41_plain par par B w (par_le h0) (par_le h0) hp hc
  rw [eq_self] at this
  exact this

theorem clo_under (lab par : ByteArray) (h0 : par.size ≤ 524288) (h1 : lab.size ≤ 524288) (hp : Pre par ⟨#[42, 46]⟩ = false) : Clo par (lab ++ ⟨#[46]⟩ ++ par) false := by
  intro B w hc
  have := clo41_plain par (lab ++ ⟨#[46]⟩ ++ par) B w (par_le h0) (below_le lab par h0 h1) hp hc
  rw [ne_below] at this
  exact this

/-! ### zzBytes -/
theorem bytes24_yes (par lab : ByteArray) (port oth : Int) (w : World) (h0 : par.size ≤ 524288) (h1 : lab.size ≤ 524288) :
    Calls Try.prog 24 #[.string par, .string lab, .int .i64 port, .int .i64 oth] w fun e w' => e = .returned (.bool true) ∧ w' = w := by
  have k1 : decide ((1048576 : Int) < par.size) = false := by simp; omega
  have k2 : decide ((1048576 : Int) < lab.size) = false := by simp; omega
  have k3 : decide ((1048576 : Int) < (par.size : Int) + lab.size) = false := by simp; omega
  go_enter Try.func24, Try.ntmps24
  go_wp2
  go_ret
  exact ⟨rfl, rfl⟩

end Go.Proofs.Qxb6600542a
