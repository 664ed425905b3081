/-
  The two laws' walks: FnValidPortAcceptsExactlyOneTo65535 (4), FnValidPortAgreesWithParseVersion (3).
-/
import Derived.Test.Qxb6619765aDoorPort
import Derived.Test.Qxb6619765aDoorAppPlain
namespace Go.Proofs.Qxb6619765aDoor
open Go.RowKit Plain
set_option linter.unusedVariables false

theorem vpOk_iff (l : List UInt8) : vpOk l = true ↔ (1 ≤ l.length ∧ l.length ≤ 5 ∧ l.headD 0 ≠ 48 ∧ l.all isD = true ∧ val l ≤ 65535) := by
  unfold vpOk
  simp only [Bool.and_eq_true, decide_eq_true_eq, Bool.not_eq_true', beq_eq_false_iff_ne, and_assoc]
theorem short5 {l : List UInt8} (h1 : 1 ≤ l.length) (h9 : l.length ≤ 9) (h48 : l.headD 0 ≠ 48) (ha : l.all isD = true) (hv : val l ≤ 65535) : l.length ≤ 5 := by
  match l, h1, h9, h48, ha with
  | c :: r, _, h9, h48, ha =>
    simp only [List.all_cons, Bool.and_eq_true] at ha
    have := val_ge c r ha.1 (by simpa using h48) ha.2
    rcases Nat.lt_or_ge r.length 5 with hr | hr
    · simp; omega
    · have h8 : r.length ≤ 8 := by simp at h9; omega
      have : (100000 : Int) ≤ 10 ^ r.length := by
        match r.length, hr, h8 with
        | 5, _, _ | 6, _, _ | 7, _, _ | 8, _, _ => decide
      exact absurd hv (by omega)
/-- validPort is ParseVersion with a number of at most 65535. -/
theorem vp_pv (l : List UInt8) : vpOk l = (pvOk l && decide (pvN l ≤ 65535)) := by
  rw [Bool.eq_iff_iff, vpOk_iff, Bool.and_eq_true, decide_eq_true_eq]
  constructor
  · rintro ⟨h1, h5, h48, ha, hv⟩
    have hk : pvOk l = true := (pvOk_iff l).2 ⟨h1, by omega, h48, ha⟩
    exact ⟨hk, by simp [pvN, hk]; exact hv⟩
  · rintro ⟨hk, hv⟩
    simp [pvN, hk] at hv
    obtain ⟨h1, h9, h48, ha⟩ := (pvOk_iff l).1 hk
    exact ⟨h1, short5 h1 h9 h48 ha hv, h48, ha, hv⟩
theorem dg_len (k : Nat) : ∀ n, n < 10 ^ k → (dg n).length ≤ k := by
  induction k with
  | zero => intro n h; obtain rfl : n = 0 := by simp at h; exact h
            rw [dg_zero]; simp
  | succ k ih =>
    intro n h
    by_cases h0 : n = 0
    · subst h0; rw [dg_zero]; simp
    · rw [dg_pos (by omega), List.length_append]
      have := ih (n / 10) (Nat.div_lt_of_lt_mul (by rw [Nat.pow_succ] at h; omega))
      simp; omega
theorem itoa_len {n : Int} (h0 : -9223372036854775808 ≤ n) (h1 : n ≤ 9223372036854775807) : (itoaL n).length ≤ 21 := by
  unfold itoaL
  split
  · simp
  · split
    · have := dg_len 20 (-n).toNat (by omega)
      simp; omega
    · have := dg_len 20 n.toNat (by omega)
      omega
theorem vp_itoa {n : Int} (h0 : -9223372036854775808 ≤ n) (h1 : n ≤ 9223372036854775807) : vpOk (itoaL n) = (decide (1 ≤ n) && decide (n ≤ 65535)) := by
  by_cases hz : n = 0
  · subst hz; decide
  · by_cases hn : n < 0
    · have e : itoaL n = 45 :: dg (-n).toNat := by unfold itoaL; rw [if_neg hz, if_pos hn]
      rw [e, decide_eq_false (show ¬ 1 ≤ n by omega), Bool.false_and]
      apply vp_bad
      rw [List.all_cons, show isD 45 = false from by decide]; rfl
    · have e : itoaL n = dg n.toNat := by unfold itoaL; rw [if_neg hz, if_neg hn]
      obtain ⟨g1, g2, g3, g4⟩ := dg_head n.toNat (by omega)
      have hv : val (dg n.toNat) = n := by rw [g4]; omega
      rw [e, decide_eq_true (show 1 ≤ n by omega), Bool.true_and, Bool.eq_iff_iff, vpOk_iff, decide_eq_true_eq, hv]
      constructor
      · exact fun h => h.2.2.2.2
      · intro h
        have hl : 1 ≤ (dg n.toNat).length := List.length_pos_iff.2 g1
        have h9 : (dg n.toNat).length ≤ 9 := dg_len 9 n.toNat (by omega)
        exact ⟨hl, short5 hl h9 g2 g3 (by rw [hv]; exact h), g2, g3, h⟩
theorem vp_lead (l : List UInt8) : vpOk (48 :: l) = false := by
  cases h : vpOk (48 :: l)
  · rfl
  · exact absurd rfl ((vpOk_iff _).1 h).2.2.1

theorem lead_size {b : ByteArray} (h : b.size ≤ 21) : (ByteArray.mk #[48] ++ b).size ≤ maxLen := by
  rw [ByteArray.size_append, show (ByteArray.mk #[48]).size = 1 from rfl]; unfold maxLen; omega

set_option maxHeartbeats 1000000 in
theorem law4 (n : Int) (w : World) (h0 : -9223372036854775808 ≤ n) (h1 : n ≤ 9223372036854775807) :
    Calls Tryd.prog 4 #[.int .i64 n] w fun e w' => e = .returned (.bool true) ∧ Below w.heap.size w w' := by
  have hlen := itoa_len h0 h1
  have hcase : (n < 1 ∧ vpOk (itoaL n) = false) ∨ (1 ≤ n ∧ n ≤ 65535 ∧ vpOk (itoaL n) = true) ∨ (65535 < n ∧ vpOk (itoaL n) = false) := by
    rw [vp_itoa h0 h1]
    by_cases a : n < 1
    · exact .inl ⟨a, by rw [decide_eq_false (by omega)]; rfl⟩
    · by_cases b : n ≤ 65535
      · exact .inr (.inl ⟨by omega, b, by rw [decide_eq_true (by omega), decide_eq_true b]; rfl⟩)
      · exact .inr (.inr ⟨by omega, by rw [decide_eq_false b]; simp⟩)
  rcases hcase with ⟨k1, hv⟩ | ⟨k1, k2, hv⟩ | ⟨k1, hv⟩
  all_goals
    have HV0 : Hid (vpOk (itoaL n) = _) := hv
    clear hv
    go_enter Tryd.func4, Tryd.ntmps4
    go_wp2_with fail
    refine (itoa_any n w h0 h1).mono ?_
    rintro e w1 ⟨b, rfl, hb, hb1⟩
    have hbs : b.size ≤ 21 := by rw [← toL_len, hb]; exact hlen
    have hv := HV0.out
    rw [← hb] at hv
    have HZ : Hid (vpOk (toL (ByteArray.mk #[48] ++ b)) = false) := by
      have e : toL (ByteArray.mk #[48] ++ b) = 48 :: toL b := by simp [toL]
      show _ = _
      rw [e]; exact vp_lead _
    clear hlen hb HV0
    go_wp2_with fail
    refine (zvp_any b _ (by unfold maxLen; omega)).mono ?_
    rintro e w2 ⟨rfl, hb2⟩
    rw [hv]
    go_wp2_with fail
    refine (zvp_any _ _ (lead_size hbs)).mono ?_
    rintro e w3 ⟨rfl, hb3⟩
    rw [HZ.out]
    have hbel := (hb1.trans (hb2.mono hb1.size)).trans (hb3.mono (Nat.le_trans hb1.size hb2.size))
    go_wp2
    go_ret
    exact ⟨rfl, hbel⟩

set_option maxHeartbeats 1000000 in
theorem law3 (s : ByteArray) (w : World) (w0 : s.size ≤ maxLen) :
    Calls Tryd.prog 3 #[.string s] w fun e w' => e = .returned (.bool true) ∧ Below w.heap.size w w' := by
  have w0' := w0
  unfold maxLen at w0'
  by_cases h1 : s.size ≤ 1048576
  · obtain ⟨N, hN⟩ : ∃ N, pvN (toL s) = N := ⟨_, rfl⟩
    have hcase : (pvOk (toL s) = false ∧ vpOk (toL s) = false) ∨ (pvOk (toL s) = true ∧ N ≤ 65535 ∧ vpOk (toL s) = true) ∨ (pvOk (toL s) = true ∧ 65535 < N ∧ vpOk (toL s) = false) := by
      rw [vp_pv, hN]
      cases pvOk (toL s)
      · exact .inl ⟨rfl, rfl⟩
      · by_cases b : N ≤ 65535
        · exact .inr (.inl ⟨rfl, b, by rw [decide_eq_true b]; rfl⟩)
        · exact .inr (.inr ⟨rfl, by omega, by rw [decide_eq_false b]; rfl⟩)
    rcases hcase with ⟨ho, hv⟩ | ⟨ho, hN1, hv⟩ | ⟨ho, hN1, hv⟩
    all_goals
      go_enter Tryd.func3, Tryd.ntmps3
      go_wp2_with (first | (go_at_call 6; refine (pv_any _ _ w0).mono ?_; rintro e w' ⟨rfl, rfl⟩) | (go_at_call 7; refine (canon_any _ _ w0).mono ?_; rintro e w2 ⟨rfl, hb⟩) | (go_at_call 8; refine (zvp_any _ _ w0).mono ?_; rintro e w3 ⟨rfl, hb2⟩) | go_in)
      go_ret
      first | exact ⟨rfl, hb.trans (hb2.mono hb.size)⟩ | exact ⟨ret_bool (by simp; omega), hb.trans (hb2.mono hb.size)⟩
  · go_enter Tryd.func3, Tryd.ntmps3
    go_wp2
    go_ret
    exact ⟨rfl, Below.refl _ _⟩
end Go.Proofs.Qxb6619765aDoor
