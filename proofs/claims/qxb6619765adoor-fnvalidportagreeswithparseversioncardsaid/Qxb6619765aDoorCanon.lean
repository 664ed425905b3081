/-
  The contract of zzCanon (7): what ParseVersion answers.
-/
import Derived.Test.Qxb6619765aDoorItoa
namespace Go.Proofs.Qxb6619765aDoor
open Go.RowKit Plain
set_option linter.unusedVariables false

theorem drop_at {s : ByteArray} {p : Nat} (h0 : 0 < p) (hp : p ≤ s.size) : (toL s).drop (p - 1) = s[p - 1] :: (toL s).drop p := by
  have h' : p - 1 < (toL s).length := by rw [toL_len]; omega
  rw [List.drop_eq_getElem_cons h', toL_get s (p - 1) (by omega) h', show p - 1 + 1 = p from by omega]
theorem val_drop {s : ByteArray} {p : Nat} (h0 : 0 < p) (hp : p ≤ s.size) : val ((toL s).drop (p - 1)) = ((s[p - 1].toNat : Int) - 48) * 10 ^ (s.size - p) + val ((toL s).drop p) := by
  rw [drop_at h0 hp, val_cons, List.length_drop, toL_len]; rfl
theorem all_drop {s : ByteArray} {p : Nat} (h0 : 0 < p) (hp : p ≤ s.size) (ha : ((toL s).drop p).all isD = true) (hd : 48 ≤ (s[p - 1].toNat : Int) ∧ (s[p - 1].toNat : Int) ≤ 57) : ((toL s).drop (p - 1)).all isD = true := by
  rw [drop_at h0 hp, List.all_cons, ha, isD_yes hd]; rfl
theorem pow_bd {k : Nat} (h : k ≤ 8) : 1 ≤ (10 : Int) ^ k ∧ (10 : Int) ^ k ≤ 100000000 := by
  match k, h with
  | 0, _ | 1, _ | 2, _ | 3, _ | 4, _ | 5, _ | 6, _ | 7, _ | 8, _ => decide
theorem prod_bd {d P : Int} (h0 : 0 ≤ d) (h9 : d ≤ 9) (hP : 1 ≤ P) (hP' : P ≤ 100000000) : 0 ≤ d * P ∧ d * P ≤ 900000000 := by
  have h1 : 0 ≤ d * P := Int.mul_nonneg h0 (by omega)
  have h2 : d * P ≤ 9 * P := Int.mul_le_mul_of_nonneg_right h9 (by omega)
  omega

/-- Where the digits' number is nought, or its decimal is not the text, ParseVersion refuses; else it accepts. -/
theorem canon_no1 {s : ByteArray} (hp : 0 < s.size) (ha : (toL s).all isD = true) (h : val (toL s) < 1) : (pvN (toL s), pvOk (toL s)) = (0, false) := by
  apply pv_no
  cases hk : pvOk (toL s)
  · rfl
  · unfold pvOk at hk
    simp only [Bool.and_eq_true, Bool.not_eq_true', beq_eq_false_iff_ne] at hk
    have := (canon (toL s) (by intro e; rw [← toL_len, e] at hp; simp at hp) hk.1.2 ha).1
    omega
theorem canon_no2 {s : ByteArray} (hp : 0 < s.size) (ha : (toL s).all isD = true) (h : ¬ dg (val (toL s)).toNat = toL s) : (pvN (toL s), pvOk (toL s)) = (0, false) := by
  apply pv_no
  cases hk : pvOk (toL s)
  · rfl
  · unfold pvOk at hk
    simp only [Bool.and_eq_true, Bool.not_eq_true', beq_eq_false_iff_ne] at hk
    exact absurd (canon (toL s) (by intro e; rw [← toL_len, e] at hp; simp at hp) hk.1.2 ha).2 h
theorem canon_yes {s : ByteArray} (hp : 0 < s.size) (h9 : s.size ≤ 9) (ha : (toL s).all isD = true) (h1 : 1 ≤ val (toL s)) (h : dg (val (toL s)).toNat = toL s) : (pvN (toL s), pvOk (toL s)) = (val (toL s), true) := by
  apply pv_yes
  have hh := (dg_head (val (toL s)).toNat (by omega)).2.1
  rw [h] at hh
  unfold pvOk
  rw [ha, toL_len, decide_eq_true (show 1 ≤ s.size from hp), decide_eq_true h9, beq_eq_false_iff_ne.2 hh]; rfl
theorem str_eq {b s : ByteArray} (h : toL b = toL s) : (b.toList == s.toList) = true := by rw [toList_toL, toList_toL, h]; simp
theorem str_ne {b s : ByteArray} (h : ¬ toL b = toL s) : (b.toList == s.toList) = false := by rw [toList_toL, toList_toL]; simpa using h

set_option maxHeartbeats 1000000 in
theorem canon_any (s : ByteArray) (w : World) (hs : s.size ≤ maxLen) :
    Calls Tryd.prog 7 #[.string s] w fun e w' => e = .returned (.tuple #[.int .i64 (pvN (toL s)), .bool (pvOk (toL s))]) ∧ Below w.heap.size w w' := by
  unfold maxLen at hs
  by_cases h0 : s.size = 0
  · have HK : Hid ((pvN (toL s), pvOk (toL s)) = (0, false)) := pv_no (ok_empty h0)
    go_enter Tryd.func7, Tryd.ntmps7
    go_wp2
    go_ret2
    exact ⟨ret_pair HK.out, Below.refl _ _⟩
  · have hp : 0 < s.size := by omega
    by_cases h9 : 9 < s.size
    · have HK : Hid ((pvN (toL s), pvOk (toL s)) = (0, false)) := pv_no (ok_long h9)
      go_enter Tryd.func7, Tryd.ntmps7
      go_wp2
      go_ret2
      exact ⟨ret_pair HK.out, Below.refl _ _⟩
    · have hz : ((s.size : Int) == 0) = false := beq_eq_false_iff_ne.2 (by omega)
      clear h0
      go_enter Tryd.func7, Tryd.ntmps7
      go_wp2
      go_loop [4, 5, 6] (fun uv up ui => ∃ (p : Nat) (v P : Int), p ≤ s.size ∧ ui = .int .i64 ((p : Int) - 1) ∧ uv = .int .i64 v ∧ up = .int .i64 P ∧ 0 ≤ v ∧ v ≤ 999999999 ∧ Hid (v = val ((toL s).drop p)) ∧ Hid (P = 10 ^ (s.size - p)) ∧ Hid (((toL s).drop p).all isD = true)) (fun _ _ i => (intOf i + 1).toNat)
      case atStart =>
        have e : (toL s).drop s.size = [] := List.drop_eq_nil_of_le (by rw [toL_len]; exact Nat.le_refl _)
        exact ⟨s.size, 0, 1, Nat.le_refl _, by go_num, rfl, rfl, by omega, by omega, show (0 : Int) = _ by rw [e]; rfl, show (1 : Int) = _ by simp, show _ = true by rw [e]; rfl⟩
      case round =>
        obtain ⟨p, v, P, hps, rfl, rfl, rfl, v0, v1, hv, hP, ha⟩ := hrel
        by_cases hp0 : 0 < p
        · by_cases hd : 48 ≤ (s[p - 1].toNat : Int) ∧ (s[p - 1].toNat : Int) ≤ 57
          · have hb := pow_bd (k := s.size - p) (by omega)
            rw [← hP.out] at hb
            obtain ⟨P1, P2⟩ := hb
            have pb := prod_bd (d := (s[p - 1].toNat : Int) - 48) (by omega) (by omega) P1 P2
            have ha' := all_drop hp0 hps ha.out hd
            have hv' := val_drop hp0 hps
            rw [← hv.out, ← hP.out] at hv'
            have hle := val_le9 ha' (by simp [toL_len]; omega)
            have HA : Hid (((toL s).drop (p - 1)).all isD = true) := ha'
            have HV : Hid (val ((toL s).drop (p - 1)) = ((s[p - 1].toNat : Int) - 48) * P + v) := hv'
            have HL : Hid (0 ≤ val ((toL s).drop (p - 1)) ∧ val ((toL s).drop (p - 1)) ≤ 999999999) := hle
            have HP : Hid (P * 10 = 10 ^ (s.size - (p - 1))) := by
              show _ = _
              rw [hP.out, show s.size - (p - 1) = (s.size - p) + 1 from by omega, Int.pow_succ]
            obtain ⟨d1, d2⟩ := hd
            obtain ⟨q1, q2⟩ := pb
            clear ha' hv' hle hv ha
            go_wp2
            go_round
            case rel => exact ⟨p - 1, v + ((s[p - 1].toNat : Int) - 48) * P, P * 10, by omega, by go_num, rfl, rfl, by omega, by have := HV.out; have := HL.out; omega, show _ = _ by rw [HV.out]; omega, HP, HA⟩
            case measure => simp [intOf]; omega
          · have hn := ok_nodigit (s := s) (k := p - 1) (by omega) hd
            have HK : Hid ((pvN (toL s), pvOk (toL s)) = (0, false)) := pv_no (ok_bad hn)
            clear hn
            go_wp2
            all_goals
              go_ret2
              exact ⟨ret_pair HK.out, Below.refl _ _⟩
        · obtain rfl : p = 0 := by omega
          have ha' : (toL s).all isD = true := by simpa using ha.out
          have hv' : v = val (toL s) := by simpa using hv.out
          by_cases hv1 : v < 1
          · have HK : Hid ((pvN (toL s), pvOk (toL s)) = (0, false)) := canon_no1 hp ha' (by rw [← hv']; exact hv1)
            clear ha' hv' hv hP ha
            go_wp2
            go_ret2
            exact ⟨ret_pair HK.out, Below.refl _ _⟩
          · by_cases hdg : dg v.toNat = toL s
            · have HK : Hid ((pvN (toL s), pvOk (toL s)) = (v, true)) := by
                show _ = _
                rw [hv'] at hdg ⊢
                exact canon_yes hp (by omega) ha' (by omega) hdg
              have HD : Hid (dg v.toNat = toL s) := hdg
              clear ha' hv' hv hP ha hdg
              go_wp2_with (go_at_call 9; refine (itoa_pos _ _ (by omega) (by omega)).mono ?_; rintro e w' ⟨b, rfl, hb, hbel⟩; have hq := str_eq (hb.trans HD.out); clear hb)
              go_ret2
              exact ⟨ret_pair HK.out, hbel⟩
            · have HK : Hid ((pvN (toL s), pvOk (toL s)) = (0, false)) := by
                show _ = _
                rw [hv'] at hdg
                exact canon_no2 hp ha' hdg
              have HD : Hid (¬ dg v.toNat = toL s) := hdg
              clear ha' hv' hv hP ha hdg
              go_wp2_with (go_at_call 9; refine (itoa_pos _ _ (by omega) (by omega)).mono ?_; rintro e w' ⟨b, rfl, hb, hbel⟩; have hq := str_ne (fun k => HD.out (hb.symm.trans k)); clear hb)
              go_ret2
              exact ⟨ret_pair HK.out, hbel⟩
end Go.Proofs.Qxb6619765aDoor
