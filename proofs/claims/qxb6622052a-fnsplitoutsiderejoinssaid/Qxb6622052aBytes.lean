/-
  Contracts of the small byte functions of seat b6622052a: hasByteB1 (13), countByteB1 (12), pastQuotedB1 (17).
-/
import Derived.Test.Qxb6622052aRows
import Derived.Test.Qxb6622052aPlain
import Derived.WalkKit
import Derived.WalkLawsBesides
namespace Go.Proofs.Qxb6622052a
open Go.RowKit Plain
set_option linter.unusedVariables false

theorem ret_bool {a b : Bool} (h : a = b) : Ending.returned (.bool a) = .returned (.bool b) := by rw [h]
theorem ret_int {k : IntKind} {a b : Int} (h : a = b) : Ending.returned (.int k a) = .returned (.int k b) := by rw [h]
theorem toL_len (s : ByteArray) : (toL s).length = s.size := by simp [toL]
theorem toL_get (s : ByteArray) (k : Nat) (h : k < s.size) (h' : k < (toL s).length) : (toL s)[k]'h' = s[k]'h := by
  simp only [toL, Array.getElem_toList]; rfl
theorem take_snoc (s : ByteArray) (k : Nat) (h : k < s.size) : (toL s).take (k + 1) = (toL s).take k ++ [s[k]] := by
  unfold toL
  rw [List.take_succ_eq_append_getElem (by simpa using h)]; rfl
theorem hasB_snoc (x : Int) (l : List UInt8) (c : UInt8) : hasB x (l ++ [c]) = (hasB x l || decide ((c.toNat : Int) = x)) := by
  simp [hasB]
theorem hasB_hit {x : Int} {s : ByteArray} {k : Nat} (h : k < s.size) (hc : (s[k].toNat : Int) = x) : hasB x (toL s) = true := by
  unfold hasB
  rw [List.any_eq_true]
  have hm : s[k] ∈ toL s := (toL_get s k h (by rw [toL_len]; exact h)) ▸ List.getElem_mem _
  exact ⟨s[k], hm, by simpa using hc⟩
theorem hasB_miss {x : Int} {s : ByteArray} {k : Nat} (h : k < s.size) (h0 : hasB x ((toL s).take k) = false) (hc : ((s[k].toNat : Int) == x) = false) : hasB x ((toL s).take (k + 1)) = false := by
  rw [take_snoc s k h, hasB_snoc, h0]; simpa using hc

set_option maxHeartbeats 400000 in
theorem has_any (s : ByteArray) (c : Int) (w : World) (hs : s.size ≤ 1048576) :
    Calls Try.prog 13 #[.string s, .int .u8 c] w fun e w' => e = .returned (.bool (hasB c (toL s))) ∧ w' = w := by
  go_enter Try.func13, Try.ntmps13
  go_wp2
  go_loop [5] (fun i => ∃ k : Nat, k ≤ s.size ∧ i = .int .i64 k ∧ Hid (hasB c ((toL s).take k) = false)) (fun i => s.size - (intOf i).toNat)
  case atStart => exact ⟨0, Nat.zero_le _, rfl, show hasB c _ = false by simp [hasB]⟩
  case round =>
    obtain ⟨k, hk, rfl, hh⟩ := hrel
    by_cases hlt : k < s.size
    · go_wp2
      · have hc : ((s[k].toNat : Int) == c) = true := by assumption
        go_ret
        exact ⟨ret_bool (hasB_hit hlt (by simpa using hc)).symm, rfl⟩
      · have hc : ((s[k].toNat : Int) == c) = false := by assumption
        go_round
        case rel => exact ⟨k + 1, by omega, by go_num, hasB_miss hlt hh.out hc⟩
        case measure => simp [intOf]; omega
    · go_wp2
      go_ret
      exact ⟨ret_bool (by rw [← hh.out, List.take_of_length_le (by rw [toL_len]; omega)]), rfl⟩

theorem cntB_snoc (x : Int) (l : List UInt8) (c : UInt8) : cntB x (l ++ [c]) = cntB x l + if (c.toNat : Int) = x then 1 else 0 := by
  unfold cntB; rw [List.countP_append]; simp [List.countP_cons]
theorem cntB_hit {x : Int} {s : ByteArray} {k : Nat} (h : k < s.size) (hc : ((s[k].toNat : Int) == x) = true) : cntB x ((toL s).take (k + 1)) = cntB x ((toL s).take k) + 1 := by
  rw [take_snoc s k h, cntB_snoc, if_pos (by simpa using hc)]
theorem cntB_miss {x : Int} {s : ByteArray} {k : Nat} (h : k < s.size) (hc : ((s[k].toNat : Int) == x) = false) : cntB x ((toL s).take (k + 1)) = cntB x ((toL s).take k) := by
  rw [take_snoc s k h, cntB_snoc, if_neg (by simpa using hc)]; rfl
theorem cntB_le (x : Int) (l : List UInt8) : cntB x l ≤ l.length := List.countP_le_length

set_option maxHeartbeats 400000 in
theorem count_any (s : ByteArray) (c : Int) (w : World) (hs : s.size ≤ 1048576) :
    Calls Try.prog 12 #[.string s, .int .u8 c] w fun e w' => e = .returned (.int .i64 (cntB c (toL s))) ∧ w' = w := by
  go_enter Try.func12, Try.ntmps12
  go_wp2
  go_loop [5, 6] (fun n i => ∃ k m : Nat, k ≤ s.size ∧ m ≤ k ∧ i = .int .i64 k ∧ n = .int .i64 m ∧ Hid (m = cntB c ((toL s).take k))) (fun _ i => s.size - (intOf i).toNat)
  case atStart => exact ⟨0, 0, Nat.zero_le _, Nat.zero_le _, rfl, rfl, show 0 = cntB c _ by simp [cntB]⟩
  case round =>
    obtain ⟨k, m, hk, hm, rfl, rfl, hh⟩ := hrel
    by_cases hlt : k < s.size
    · go_wp2
      · have hc : ((s[k].toNat : Int) == c) = true := by assumption
        go_round
        case rel => exact ⟨k + 1, m + 1, by omega, by omega, by go_num, by go_num, show m + 1 = _ by rw [cntB_hit hlt hc, ← hh.out]⟩
        case measure => simp [intOf]; omega
      · have hc : ((s[k].toNat : Int) == c) = false := by assumption
        go_round
        case rel => exact ⟨k + 1, m, by omega, by omega, by go_num, by go_num, show m = _ by rw [cntB_miss hlt hc, ← hh.out]⟩
        case measure => simp [intOf]; omega
    · go_wp2
      go_ret
      exact ⟨ret_int (by rw [hh.out, List.take_of_length_le (by rw [toL_len]; omega)]), rfl⟩
end Go.Proofs.Qxb6622052a
