/-
  The contract of ParseVersion (6).
-/
import Derived.Test.Qxb6619765aDoorRows
import Derived.Test.Qxb6619765aDoorPlain
import Derived.WalkKit
import Derived.WalkLawsBesides
import Derived.WalkSpells
namespace Go.Proofs.Qxb6619765aDoor
open Go.RowKit Plain
set_option linter.unusedVariables false

theorem toL_len (s : ByteArray) : (toL s).length = s.size := by simp [toL]
theorem toL_get (s : ByteArray) (k : Nat) (h : k < s.size) (h' : k < (toL s).length) : (toL s)[k]'h' = s[k]'h := by
  simp only [toL, Array.getElem_toList]; rfl
theorem take_snoc (s : ByteArray) (k : Nat) (h : k < s.size) : (toL s).take (k + 1) = (toL s).take k ++ [s[k]] := by
  unfold toL
  rw [List.take_succ_eq_append_getElem (by simpa using h)]; rfl

theorem toList_toL (s : ByteArray) : s.toList = toL s := ByteArray.toList_eq s
theorem empty_yes {s : ByteArray} (h : s.size = 0) : s.toList.isEmpty = true := by
  rw [toList_toL]; have := toL_len s; rw [h] at this; rw [List.eq_nil_of_length_eq_zero this]; rfl
theorem empty_no {s : ByteArray} (h : 0 < s.size) : s.toList.isEmpty = false := by
  rw [toList_toL]; have := toL_len s
  match hl : toL s with
  | [] => rw [hl] at this; simp at this; omega
  | _ :: _ => rfl
theorem head_at {s : ByteArray} (h : 0 < s.size) : (toL s).headD 0 = s[0] := by
  have h' : 0 < (toL s).length := by rw [toL_len]; exact h
  rw [← toL_get s 0 h h']
  match hl : toL s, h' with
  | _ :: _, _ => rfl
theorem byte_eq {c : UInt8} {n : Nat} (hn : n < 256) : ((c.toNat : Int) == (n : Int)) = (c == UInt8.ofNat n) := by
  rw [Bool.eq_iff_iff]
  simp only [beq_iff_eq]
  constructor
  · intro h; exact UInt8.toNat_inj.1 (by simp [UInt8.toNat_ofNat']; omega)
  · rintro rfl; simp [UInt8.toNat_ofNat']; omega

theorem pv_no {l : List UInt8} (h : pvOk l = false) : (pvN l, pvOk l) = (0, false) := by simp [pvN, h]
theorem pv_yes {l : List UInt8} (h : pvOk l = true) : (pvN l, pvOk l) = (val l, true) := by simp [pvN, h]
theorem ok_empty {s : ByteArray} (h : s.size = 0) : pvOk (toL s) = false := by
  unfold pvOk; rw [toL_len, h]; simp
theorem ok_long {s : ByteArray} (h : 9 < s.size) : pvOk (toL s) = false := by
  unfold pvOk; rw [toL_len, decide_eq_false (show ¬ s.size ≤ 9 by omega)]; simp
theorem ok_zero {s : ByteArray} (h : 0 < s.size) (h48 : ((s[0].toNat : Int) == 48) = true) : pvOk (toL s) = false := by
  rw [show (48 : Int) = ((48 : Nat) : Int) from rfl, byte_eq (by omega)] at h48
  unfold pvOk
  rw [head_at h]
  have : (s[0] == 48) = true := h48
  rw [this]; simp
theorem isD_yes {c : UInt8} (h : 48 ≤ (c.toNat : Int) ∧ (c.toNat : Int) ≤ 57) : isD c = true := by unfold isD; exact decide_eq_true h
theorem isD_no {c : UInt8} (h : ¬ (48 ≤ (c.toNat : Int) ∧ (c.toNat : Int) ≤ 57)) : isD c = false := by unfold isD; exact decide_eq_false h
theorem ok_nodigit {s : ByteArray} {k : Nat} (h : k < s.size) (hd : ¬ (48 ≤ (s[k].toNat : Int) ∧ (s[k].toNat : Int) ≤ 57)) : (toL s).all isD = false := by
  rw [List.all_eq_false]
  have hm : s[k] ∈ toL s := (toL_get s k h (by rw [toL_len]; exact h)) ▸ List.getElem_mem _
  exact ⟨s[k], hm, by rw [isD_no hd]; simp⟩
theorem ok_bad {l : List UInt8} (h : l.all isD = false) : pvOk l = false := by unfold pvOk; rw [h]; simp
theorem ok_good {s : ByteArray} (h : 0 < s.size) (h9 : s.size ≤ 9) (h48 : ((s[0].toNat : Int) == 48) = false) (ha : (toL s).all isD = true) : pvOk (toL s) = true := by
  rw [show (48 : Int) = ((48 : Nat) : Int) from rfl, byte_eq (by omega)] at h48
  have h48' : (s[0] == 48) = false := h48
  unfold pvOk
  rw [head_at h, toL_len, ha, h48', decide_eq_true (show 1 ≤ s.size from h), decide_eq_true h9]; rfl
theorem all_snoc {s : ByteArray} {k : Nat} (h : k < s.size) (ha : ((toL s).take k).all isD = true) (hd : 48 ≤ (s[k].toNat : Int) ∧ (s[k].toNat : Int) ≤ 57) : ((toL s).take (k + 1)).all isD = true := by
  rw [take_snoc s k h, List.all_append, ha]; simp [isD_yes hd]
theorem val_take {s : ByteArray} {k : Nat} (h : k < s.size) : val ((toL s).take (k + 1)) = val ((toL s).take k) * 10 + ((s[k].toNat : Int) - 48) := by
  rw [take_snoc s k h, val_snoc]; rfl
theorem val_le9 {l : List UInt8} (ha : l.all isD = true) (h9 : l.length ≤ 9) : 0 ≤ val l ∧ val l ≤ 999999999 := by
  have h1 := val_bd l ha
  have h2 := pow_le9 h9
  omega
theorem ret_pair {n m : Int} {a b : Bool} (h : (n, a) = (m, b)) : Ending.returned (.tuple #[.int .i64 m, .bool b]) = .returned (.tuple #[.int .i64 n, .bool a]) := by
  simp only [Prod.mk.injEq] at h; rw [h.1, h.2]

set_option maxHeartbeats 400000 in
theorem pv_any (s : ByteArray) (w : World) (hs : s.size ≤ maxLen) :
    Calls Tryd.prog 6 #[.string s] w fun e w' => e = .returned (.tuple #[.int .i64 (pvN (toL s)), .bool (pvOk (toL s))]) ∧ w' = w := by
  unfold maxLen at hs
  by_cases h0 : s.size = 0
  · have hE := empty_yes h0
    have HK : Hid ((pvN (toL s), pvOk (toL s)) = (0, false)) := pv_no (ok_empty h0)
    clear h0
    go_enter Tryd.func6, Tryd.ntmps6
    go_wp2
    go_ret2
    exact ⟨ret_pair HK.out, rfl⟩
  · have hp : 0 < s.size := by omega
    have hE := empty_no hp
    by_cases h9 : 9 < s.size
    · have HK : Hid ((pvN (toL s), pvOk (toL s)) = (0, false)) := pv_no (ok_long h9)
      go_enter Tryd.func6, Tryd.ntmps6
      go_wp2
      go_ret2
      exact ⟨ret_pair HK.out, rfl⟩
    · cases h48 : ((s[0].toNat : Int) == 48)
      · have H48 : Hid (((s[0].toNat : Int) == 48) = false) := h48
        go_enter Tryd.func6, Tryd.ntmps6
        go_wp2
        go_loop [4, 5] (fun un i => ∃ (k : Nat) (n : Int), k ≤ s.size ∧ i = .int .i64 k ∧ un = .int .i64 n ∧ 0 ≤ n ∧ n ≤ 999999999 ∧ Hid (n = val ((toL s).take k)) ∧ Hid (((toL s).take k).all isD = true)) (fun _ i => s.size - (intOf i).toNat)
        case atStart => exact ⟨0, 0, Nat.zero_le _, rfl, rfl, by omega, by omega, show (0 : Int) = _ by simp [val], show _ = true by simp⟩
        case round =>
          obtain ⟨k, n, hk, rfl, rfl, n0, n1, hn, ha⟩ := hrel
          by_cases hlt : k < s.size
          · by_cases hd : 48 ≤ (s[k].toNat : Int) ∧ (s[k].toNat : Int) ≤ 57
            · have ha' := all_snoc hlt ha.out hd
              have hv := val_take hlt
              rw [← hn.out] at hv
              have hb := val_le9 ha' (by simp [toL_len]; omega)
              have HV : Hid (n * 10 + ((s[k].toNat : Int) - 48) = val ((toL s).take (k + 1))) := hv.symm
              have HB : Hid (0 ≤ val ((toL s).take (k + 1)) ∧ val ((toL s).take (k + 1)) ≤ 999999999) := hb
              have HA : Hid (((toL s).take (k + 1)).all isD = true) := ha'
              obtain ⟨d1, d2⟩ := hd
              clear ha' hv hb ha hn
              go_wp2
              go_round
              case rel => exact ⟨k + 1, n * 10 + ((s[k].toNat : Int) - 48), by omega, by go_num, by go_num, by omega, by have := HV.out; have := HB.out; omega, HV, HA⟩
              case measure => simp [intOf]; omega
            · have HK : Hid ((pvN (toL s), pvOk (toL s)) = (0, false)) := pv_no (ok_bad (ok_nodigit hlt hd))
              go_wp2
              all_goals
                go_ret2
                exact ⟨ret_pair HK.out, rfl⟩
          · have e : (toL s).take k = toL s := List.take_of_length_le (by rw [toL_len]; omega)
            have HK : Hid ((pvN (toL s), pvOk (toL s)) = (n, true)) := by
              have h1 := ha.out
              have h2 := hn.out
              rw [e] at h1 h2
              show _ = _
              rw [pv_yes (ok_good hp (by omega) H48.out h1), h2]
            clear e hn ha
            go_wp2
            go_ret2
            exact ⟨ret_pair HK.out, rfl⟩
      · have HK : Hid ((pvN (toL s), pvOk (toL s)) = (0, false)) := pv_no (ok_zero hp h48)
        go_enter Tryd.func6, Tryd.ntmps6
        go_wp2
        go_ret2
        exact ⟨ret_pair HK.out, rfl⟩
end Go.Proofs.Qxb6619765aDoor
