/-
  PLAIN MATHEMATICS: one digit more behind a version's text.
-/
import Derived.Test.Qxb6619765aDoorPlain
namespace Go.Proofs.Qxb6619765aDoor.Plain

theorem pvOk_iff (l : List UInt8) : pvOk l = true ↔ (1 ≤ l.length ∧ l.length ≤ 9 ∧ l.headD 0 ≠ 48 ∧ l.all isD = true) := by
  unfold pvOk
  simp only [Bool.and_eq_true, decide_eq_true_eq, Bool.not_eq_true', beq_eq_false_iff_ne, and_assoc]
theorem val_ge (c : UInt8) (r : List UInt8) (hc : isD c = true) (h48 : c ≠ 48) (hr : r.all isD = true) : 10 ^ r.length ≤ val (c :: r) := by
  have hd := isD_dv hc
  have h1 : 1 ≤ dv c := by
    unfold dv at *
    have : c.toNat ≠ 48 := fun e => h48 (UInt8.toNat_inj.1 (by simpa using e))
    omega
  rw [val_cons]
  have hb := val_bd r hr
  have hp : (0 : Int) ≤ 10 ^ r.length := Int.pow_nonneg (by decide)
  have h2 : 1 * 10 ^ r.length ≤ dv c * 10 ^ r.length := Int.mul_le_mul_of_nonneg_right h1 hp
  omega
theorem ok_short {l : List UInt8} (h : pvOk l = true) (hv : val l ≤ 99999999) : l.length ≤ 8 := by
  obtain ⟨h1, h9, h48, ha⟩ := (pvOk_iff l).1 h
  match l, h1, h9, h48, ha with
  | c :: r, _, h9, h48, ha =>
    simp only [List.all_cons, Bool.and_eq_true] at ha
    have := val_ge c r ha.1 (by simpa using h48) ha.2
    rcases Nat.lt_or_ge r.length 8 with hr | hr
    · simp; omega
    · have e : r.length = 8 := by simp at h9; omega
      rw [e] at this
      exact absurd this (by omega)
theorem ok_full {l : List UInt8} (h : pvOk l = true) (hv : ¬ val l ≤ 99999999) : 9 ≤ l.length := by
  obtain ⟨h1, h9, h48, ha⟩ := (pvOk_iff l).1 h
  rcases Nat.lt_or_ge l.length 9 with hl | hl
  · have hb := (val_bd l ha).2
    have : (10 : Int) ^ l.length ≤ 100000000 := by
      match l.length, (show l.length ≤ 8 by omega) with
      | 0, _ | 1, _ | 2, _ | 3, _ | 4, _ | 5, _ | 6, _ | 7, _ | 8, _ => decide
    omega
  · exact hl
theorem head_snoc {l : List UInt8} (c : UInt8) (h : l ≠ []) : (l ++ [c]).headD 0 = l.headD 0 := by
  match l, h with
  | _ :: _, _ => rfl
theorem app_yes {l : List UInt8} {c : UInt8} (h : pvOk l = true) (hv : val l ≤ 99999999) (hc : isD c = true) : pvOk (l ++ [c]) = true ∧ val (l ++ [c]) = val l * 10 + dv c := by
  have h8 := ok_short h hv
  obtain ⟨h1, h9, h48, ha⟩ := (pvOk_iff l).1 h
  refine ⟨(pvOk_iff _).2 ⟨by simp, by simp; omega, ?_, ?_⟩, val_snoc l c⟩
  · rw [head_snoc c (by intro e; rw [e] at h1; simp at h1)]; exact h48
  · rw [List.all_append, ha]; simpa using hc
theorem app_one {c : UInt8} (hc : isD c = true) (h48 : c ≠ 48) : pvOk [c] = true ∧ val [c] = dv c := by
  refine ⟨(pvOk_iff _).2 ⟨by simp, by simp, by simpa using h48, by simpa using hc⟩, ?_⟩
  rw [show [c] = [] ++ [c] from rfl, val_snoc, val_nil]; omega
theorem app_nodigit {l : List UInt8} {c : UInt8} (hc : isD c = false) : pvOk (l ++ [c]) = false := by
  cases hk : pvOk (l ++ [c])
  · rfl
  · have := ((pvOk_iff _).1 hk).2.2.2
    rw [List.all_append, Bool.and_eq_true] at this
    simp [hc] at this
theorem app_refused {l : List UInt8} {c : UInt8} (h : pvOk l = false) (hne : l ≠ []) : pvOk (l ++ [c]) = false := by
  cases hk : pvOk (l ++ [c])
  · rfl
  · obtain ⟨h1, h9, h48, ha⟩ := (pvOk_iff _).1 hk
    rw [List.all_append, Bool.and_eq_true] at ha
    rw [head_snoc c hne] at h48
    have hl : 1 ≤ l.length := List.length_pos_iff.2 hne
    have := (pvOk_iff l).2 ⟨hl, by simp at h9; omega, h48, ha.1⟩
    rw [h] at this; cases this
theorem app_full {l : List UInt8} {c : UInt8} (h : pvOk l = true) (hv : ¬ val l ≤ 99999999) : pvOk (l ++ [c]) = false := by
  have := ok_full h hv
  cases hk : pvOk (l ++ [c])
  · rfl
  · have := ((pvOk_iff _).1 hk).2.1
    simp at this; omega
theorem app_zero : pvOk [48] = false := by decide
end Go.Proofs.Qxb6619765aDoor.Plain
