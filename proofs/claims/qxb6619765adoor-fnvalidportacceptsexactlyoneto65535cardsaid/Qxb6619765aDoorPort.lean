/-
  The contracts of strconv.Atoi on up to nine digits (12, 11), of validPort (10) and its hand-on (8).
-/
import Derived.Test.Qxb6619765aDoorCanon
import Derived.Lib.ConvBytes
namespace Go.Proofs.Qxb6619765aDoor
open Go.RowKit Plain
set_option linter.unusedVariables false

theorem conv_bytes (s : ByteArray) (w : World) : ∃ cap W1, Sem.run Tryd.prog (convert 9 29 (.string s)) w = .ok (.slice (some ⟨w.heap.size, 0, none⟩) s.size cap) W1 ∧
    (∀ j (h : j < s.size), W1.cell? ⟨w.heap.size, j, none⟩ = some (.int .u8 (s[j].toNat : Int))) ∧ Below w.heap.size w W1 := by
  refine ⟨_, _, Lib.run_convert_string_bytes (P := Tryd.prog) w 9 29 5 s Tryd.underlying9 Tryd.underlying29 Tryd.underlying5, ?_, ?_⟩
  · intro j h
    rw [Lib.bytesWorld_cell w 5 s j h]
    have : s.data.toList.getD j 0 = s[j] := by
      rw [List.getD_eq_getElem?_getD, List.getElem?_eq_getElem (by simpa using h)]
      exact toL_get s j h (by rw [toL_len]; exact h)
    rw [this]
  · exact ⟨rfl, rfl, rfl, by rw [Lib.bytesWorld_size]; omega, fun k hk => Lib.bytesWorld_at_old w 5 s k hk⟩

set_option maxHeartbeats 1000000 in
theorem atoi_in (s : ByteArray) (w : World) (hp : 0 < s.size) (h9 : s.size ≤ 9) (ha : Hid ((toL s).all isD = true)) :
    Calls Tryd.prog 12 #[.string s] w fun e w' => e = .returned (.tuple #[.int .i64 (val (toL s)), .nilIface]) ∧ Below w.heap.size w w' := by
  obtain ⟨cap, W1, hcv, hcell, hbel⟩ := conv_bytes s w
  have hd0 : 48 ≤ (s[0].toNat : Int) ∧ (s[0].toNat : Int) ≤ 57 := by
    have h := ha.out
    rcases Classical.em (48 ≤ (s[0].toNat : Int) ∧ (s[0].toNat : Int) ≤ 57) with h' | h'
    · exact h'
    · rw [ok_nodigit hp h'] at h; cases h
  have h45 : ((s[0].toNat : Int) == 45) = false := beq_eq_false_iff_ne.2 (by omega)
  have h43 : ((s[0].toNat : Int) == 43) = false := beq_eq_false_iff_ne.2 (by omega)
  clear hd0
  go_enter Tryd.func12, Tryd.ntmps12
  go_wp2
  have hcell' : Hid (∀ j (h : j < s.size), W1.cell? ⟨w.heap.size, j, none⟩ = some (.int .u8 (s[j].toNat : Int))) := hcell
  clear hcell hcv
  go_loop [6, 49] (fun un i => ∃ (k : Nat) (n : Int), k ≤ s.size ∧ i = .int .i64 k ∧ un = .int .i64 n ∧ 0 ≤ n ∧ n ≤ 999999999 ∧ Hid (n = val ((toL s).take k)) ∧ Hid (((toL s).take k).all isD = true)) (fun _ i => s.size - (intOf i).toNat)
  case atStart => exact ⟨0, 0, Nat.zero_le _, rfl, rfl, by omega, by omega, show (0 : Int) = _ by simp [val], show _ = true by simp⟩
  case round =>
    obtain ⟨k, n, hk, rfl, rfl, n0, n1, hn, hal⟩ := hrel
    by_cases hlt : k < s.size
    · have hd : 48 ≤ (s[k].toNat : Int) ∧ (s[k].toNat : Int) ≤ 57 := by
        have h := ha.out
        rcases Classical.em (48 ≤ (s[k].toNat : Int) ∧ (s[k].toNat : Int) ≤ 57) with h' | h'
        · exact h'
        · rw [ok_nodigit hlt h'] at h; cases h
      have hc := hcell'.out k hlt
      have ha' := all_snoc hlt hal.out hd
      have hv := val_take hlt
      rw [← hn.out] at hv
      have hb := val_le9 ha' (by simp [toL_len]; omega)
      have HV : Hid (n * 10 + ((s[k].toNat : Int) - 48) = val ((toL s).take (k + 1))) := hv.symm
      have HB : Hid (0 ≤ val ((toL s).take (k + 1)) ∧ val ((toL s).take (k + 1)) ≤ 999999999) := hb
      have HA : Hid (((toL s).take (k + 1)).all isD = true) := ha'
      obtain ⟨d1, d2⟩ := hd
      have i1 : (k : Int) < (s.size : Int) := by omega
      clear ha' hv hb hal hn
      go_wp2
      go_round
      case rel => exact ⟨k + 1, n * 10 + ((s[k].toNat : Int) - 48), by omega, by go_num, by go_num, by omega, by have := HV.out; have := HB.out; omega, HV, HA⟩
      case measure => simp [intOf]; omega
    · have e : (toL s).take k = toL s := List.take_of_length_le (by rw [toL_len]; omega)
      have HK : Hid (n = val (toL s)) := by
        have h2 := hn.out
        rw [e] at h2
        exact h2
      clear e hn hal
      go_wp2
      go_ret2
      exact ⟨by rw [HK.out]; rfl, hbel⟩

set_option maxHeartbeats 400000 in
theorem atoi_any (s : ByteArray) (w : World) (hp : 0 < s.size) (h9 : s.size ≤ 9) (ha : Hid ((toL s).all isD = true)) :
    Calls Tryd.prog 11 #[.string s] w fun e w' => e = .returned (.tuple #[.int .i64 (val (toL s)), .nilIface]) ∧ Below w.heap.size w w' := by
  go_enter Tryd.func11, Tryd.ntmps11
  go_wp2_with (go_at_call 12; refine (atoi_in s _ hp h9 ha).mono ?_; rintro e w' ⟨rfl, hb⟩)
  go_ret2
  exact ⟨rfl, hb⟩

/-- validPort: what it accepts. -/
def vpOk (l : List UInt8) : Bool := decide (1 ≤ l.length) && decide (l.length ≤ 5) && !(l.headD 0 == 48) && l.all isD && decide (val l ≤ 65535)
theorem vp_empty {s : ByteArray} (h : s.size = 0) : vpOk (toL s) = false := by
  unfold vpOk; rw [toL_len, h]; simp
theorem vp_long {s : ByteArray} (h : 5 < s.size) : vpOk (toL s) = false := by
  unfold vpOk; rw [toL_len, decide_eq_false (show ¬ s.size ≤ 5 by omega)]; simp
theorem vp_zero {s : ByteArray} (h : 0 < s.size) (h48 : ((s[0].toNat : Int) == 48) = true) : vpOk (toL s) = false := by
  rw [show (48 : Int) = ((48 : Nat) : Int) from rfl, byte_eq (by omega)] at h48
  unfold vpOk
  rw [head_at h]
  have : (s[0] == 48) = true := h48
  rw [this]; simp
theorem vp_bad {l : List UInt8} (h : l.all isD = false) : vpOk l = false := by unfold vpOk; rw [h]; simp
theorem vp_good {s : ByteArray} (h : 0 < s.size) (h5 : s.size ≤ 5) (h48 : ((s[0].toNat : Int) == 48) = false) (ha : (toL s).all isD = true) : vpOk (toL s) = decide (val (toL s) ≤ 65535) := by
  rw [show (48 : Int) = ((48 : Nat) : Int) from rfl, byte_eq (by omega)] at h48
  have h48' : (s[0] == 48) = false := h48
  unfold vpOk
  rw [head_at h, toL_len, ha, h48', decide_eq_true (show 1 ≤ s.size from h), decide_eq_true h5]; rfl
theorem ret_bool {a b : Bool} (h : a = b) : Ending.returned (.bool b) = .returned (.bool a) := by rw [h]

set_option maxHeartbeats 1000000 in
theorem vp_any (s : ByteArray) (w : World) (hs : s.size ≤ maxLen) :
    Calls Tryd.prog 10 #[.string s] w fun e w' => e = .returned (.bool (vpOk (toL s))) ∧ Below w.heap.size w w' := by
  unfold maxLen at hs
  by_cases h0 : s.size = 0
  · have hE := empty_yes h0
    have HK : Hid (vpOk (toL s) = false) := vp_empty h0
    clear h0
    go_enter Tryd.func10, Tryd.ntmps10
    go_wp2
    go_ret
    exact ⟨ret_bool HK.out, Below.refl _ _⟩
  · have hp : 0 < s.size := by omega
    have hE := empty_no hp
    cases h48 : ((s[0].toNat : Int) == 48)
    · by_cases h5 : 5 < s.size
      · have HK : Hid (vpOk (toL s) = false) := vp_long h5
        go_enter Tryd.func10, Tryd.ntmps10
        go_wp2
        go_ret
        exact ⟨ret_bool HK.out, Below.refl _ _⟩
      · have H48 : Hid (((s[0].toNat : Int) == 48) = false) := h48
        go_enter Tryd.func10, Tryd.ntmps10
        go_wp2
        go_loop [3] (fun i => ∃ k : Nat, k ≤ s.size ∧ i = .int .i64 k ∧ Hid (((toL s).take k).all isD = true)) (fun i => s.size - (intOf i).toNat)
        case atStart => exact ⟨0, Nat.zero_le _, rfl, show _ = true by simp⟩
        case round =>
          obtain ⟨k, hk, rfl, ha⟩ := hrel
          by_cases hlt : k < s.size
          · by_cases hd : 48 ≤ (s[k].toNat : Int) ∧ (s[k].toNat : Int) ≤ 57
            · have HA : Hid (((toL s).take (k + 1)).all isD = true) := all_snoc hlt ha.out hd
              obtain ⟨d1, d2⟩ := hd
              clear ha
              go_wp2
              go_round
              case rel => exact ⟨k + 1, by omega, by go_num, HA⟩
              case measure => simp [intOf]; omega
            · have HK : Hid (vpOk (toL s) = false) := vp_bad (ok_nodigit hlt hd)
              go_wp2
              all_goals
                go_ret
                exact ⟨ret_bool HK.out, Below.refl _ _⟩
          · have e : (toL s).take k = toL s := List.take_of_length_le (by rw [toL_len]; omega)
            have HA : Hid ((toL s).all isD = true) := by
              have h1 := ha.out
              rw [e] at h1
              exact h1
            have HK : Hid (vpOk (toL s) = decide (val (toL s) ≤ 65535)) := vp_good hp (by omega) H48.out HA.out
            clear e ha
            go_wp2_with (go_at_call 11; refine (atoi_any s _ hp (by omega) HA).mono ?_; rintro e w' ⟨rfl, hb⟩)
            go_ret
            exact ⟨ret_bool HK.out, hb⟩
    · have HK : Hid (vpOk (toL s) = false) := vp_zero hp h48
      go_enter Tryd.func10, Tryd.ntmps10
      go_wp2
      go_ret
      exact ⟨ret_bool HK.out, Below.refl _ _⟩

set_option maxHeartbeats 400000 in
theorem zvp_any (s : ByteArray) (w : World) (hs : s.size ≤ maxLen) :
    Calls Tryd.prog 8 #[.string s] w fun e w' => e = .returned (.bool (vpOk (toL s))) ∧ Below w.heap.size w w' := by
  go_enter Tryd.func8, Tryd.ntmps8
  go_wp2_with (go_at_call 10; refine (vp_any s _ hs).mono ?_; rintro e w' ⟨rfl, hb⟩)
  go_ret
  exact ⟨rfl, hb⟩
end Go.Proofs.Qxb6619765aDoor
