/-
  Contracts: ZZSplitOutside (7), plainSplitB1 (15), the three bounds on length (6, 10, 14).
-/
import Derived.Test.Qxb6622052aSplit
namespace Go.Proofs.Qxb6622052a
open Go.RowKit Plain
set_option linter.unusedVariables false

set_option maxHeartbeats 400000 in
theorem zz_any (s : ByteArray) (sep : Int) (an : Bool) (w : World) (hs : s.size ≤ 1048576) :
    Calls Try.prog 7 #[.string s, .int .u8 sep, .bool an] w fun e w' => Strs w w' e (sp sep an false false false [] (toL s)) := by
  go_enter Try.func7, Try.ntmps7
  go_wp2_with (go_at_call 16; refine (split_any _ _ _ _ hs).mono ?_; rintro e w' ⟨g, cap, xs, rfl, h1⟩)
  go_ret
  exact ⟨g, cap, xs, rfl, h1⟩

def InvP (sep : Int) (s : ByteArray) (F : List ByteArray) (st k : Nat) : Prop :=
  F.map toL ++ pl sep (sub (toL s) st k) ((toL s).drop k) = pl sep [] (toL s)
theorem InvP.start (sep : Int) (s : ByteArray) : InvP sep s [] 0 0 := by simp [InvP, sub_self]
theorem InvP.keep {sep : Int} {s : ByteArray} {F : List ByteArray} {st k : Nat} (h : InvP sep s F st k) (hst : st ≤ k) (hk : k < s.size) (hc : ((s[k].toNat : Int) == sep) = false) : InvP sep s F st (k + 1) := by
  have hk' : k < (toL s).length := by rw [toL_len]; exact hk
  have hc' : ¬ (((s[k]'hk).toNat : Int) = sep) := by simpa using hc
  unfold InvP at *
  rw [drop_cons _ _ hk', toL_get s k hk hk'] at h
  unfold pl at h
  rw [if_neg hc'] at h
  rw [sub_snoc _ _ _ hst hk', toL_get s k hk hk', h]
  conv => rhs; unfold pl
theorem InvP.cut {sep : Int} {s : ByteArray} {F : List ByteArray} {st k : Nat} (h : InvP sep s F st k) (hst : st ≤ k) (hk : k < s.size) (hc : ((s[k].toNat : Int) == sep) = true) : InvP sep s (F ++ [s.extract st k]) (k + 1) (k + 1) := by
  have hk' : k < (toL s).length := by rw [toL_len]; exact hk
  have hc' : ((s[k]'hk).toNat : Int) = sep := by simpa using hc
  unfold InvP at *
  rw [drop_cons _ _ hk', toL_get s k hk hk'] at h
  have e : pl sep (sub (toL s) st k) (s[k]'hk :: (toL s).drop (k + 1)) = sub (toL s) st k :: pl sep [] ((toL s).drop (k + 1)) := by
    conv => lhs; unfold pl
    rw [if_pos hc']
  rw [e] at h
  rw [sub_self, ← h]
  simp [toL_extract]
theorem InvP.last {sep : Int} {s : ByteArray} {F : List ByteArray} {st k : Nat} (h : InvP sep s F st k) (hk : s.size ≤ k) : (F ++ [s.extract st s.size]).map toL = pl sep [] (toL s) := by
  unfold InvP at h
  rw [List.drop_eq_nil_of_le (by rw [toL_len]; exact hk), sub_all _ _ _ (by rw [toL_len]; exact hk)] at h
  rw [← h, List.map_append]
  simp [toL_extract, pl, sub_all _ st s.size (by rw [toL_len]; exact Nat.le_refl _)]

set_option maxHeartbeats 1000000 in
theorem plain_any (s : ByteArray) (sep : Int) (w : World) (hs : s.size ≤ 1048576) :
    Calls Try.prog 15 #[.string s, .int .u8 sep] w fun e w' => Strs w w' e (pl sep [] (toL s)) := by
  obtain ⟨i0, hi, hz0, hz1, hz2⟩ := info_parts Try.info9
  go_enter Try.func15, Try.ntmps15
  go_wp2
  go_loopw [5, 6, 7] (fun v ust ui wr => ∃ (k st : Nat) (F : List ByteArray), k ≤ s.size ∧ st ≤ k ∧ F.length ≤ k ∧ ui = .int .i64 k ∧ ust = .int .i64 st ∧
      wr.ownsRow w.heap.size 9 1 v F.length (F.map Value.string) ∧ Below w.heap.size w wr ∧ InvP sep s F st k)
    (fun _ _ i _ => s.size - (intOf i).toNat)
  case atStart => exact ⟨0, 0, [], Nat.zero_le _, Nat.zero_le _, Nat.zero_le _, rfl, rfl, World.ownsRow_nil _ _ _ _, Below.refl _ _, InvP.start _ _⟩
  case round =>
    obtain ⟨k, st, F, hk, hst, hF, rfl, rfl, hown, hbel, hinv⟩ := hrel
    by_cases hlt : k < s.size
    · cases hsep : ((s[k].toNat : Int) == sep)
      · have R := hinv.keep hst hlt hsep
        go_wp2
        go_roundw
        case rel => exact ⟨k + 1, st, F, by omega, by omega, by omega, by go_num, rfl, hown, hbel, R⟩
        case measure => simp [intOf]; omega
      · have R := hinv.cut hst hlt hsep
        go_wp2_with (at_builtin; refine wpList_append_own _ rfl (.tmp 19) (.tmp 24) 23 rfl w.heap.size 9 i0 (.string ByteArray.empty) 1 16 Try.underlying23 hi hz0 hz1 hz2 rfl (by decide) _ _ _ rfl (hown.alloc _) ⟨wr.heap.size, 0, none⟩ 1 1 [.string (s.extract st k)] rfl rfl (one_new _ _) (one_cell _) (by unfold maxLen; omega) (by omega) (base_le hbel _) ?_; intro v' w1 hown' hgrow _)
        go_roundw
        case rel => exact ⟨k + 1, k + 1, F ++ [s.extract st k], by omega, by omega, by simp; omega, by go_num, by go_num, push_own hown', push_below hown hbel hgrow, R⟩
        case measure => simp [intOf]; omega
    · go_wp2_with (at_builtin; refine wpList_append_own _ rfl (.tmp 28) (.tmp 32) 23 rfl w.heap.size 9 i0 (.string ByteArray.empty) 1 16 Try.underlying23 hi hz0 hz1 hz2 rfl (by decide) _ _ _ rfl (hown.alloc _) ⟨wr.heap.size, 0, none⟩ 1 1 [.string (s.extract st s.size)] rfl rfl (one_new _ _) (one_cell _) (by unfold maxLen; omega) (by omega) (base_le hbel _) ?_; intro v' w1 hown' hgrow _)
      go_ret
      exact strs_mk hown' (push_below hown hbel hgrow) (hinv.last (by omega))

theorem bytes14_ok (a b : ByteArray) (sep : Int) (an : Bool) (w : World) (h : a.size + b.size ≤ 1048576) :
    Calls Try.prog 14 #[.string a, .string b, .int .u8 sep, .bool an] w fun e w' => e = .returned (.bool true) ∧ w' = w := by
  have h1 : ¬ (1048576 : Int) < (a.size : Int) := by omega
  have h2 : ¬ (1048576 : Int) < (b.size : Int) := by omega
  go_enter Try.func14, Try.ntmps14
  go_wp2
  go_ret
  exact ⟨rfl, rfl⟩
theorem bytes14_no (a b : ByteArray) (sep : Int) (an : Bool) (w : World) (ha : a.size ≤ maxLen) (hb : b.size ≤ maxLen) (h : ¬ a.size + b.size ≤ 1048576) :
    Calls Try.prog 14 #[.string a, .string b, .int .u8 sep, .bool an] w fun e w' => e = .returned (.bool false) ∧ w' = w := by
  unfold maxLen at ha hb
  go_enter Try.func14, Try.ntmps14
  go_wp2
  all_goals (go_ret; exact ⟨rfl, rfl⟩)
theorem bytes6_ok (a : ByteArray) (sep : Int) (an : Bool) (w : World) (h : a.size ≤ 1048576) :
    Calls Try.prog 6 #[.string a, .int .u8 sep, .bool an] w fun e w' => e = .returned (.bool true) ∧ w' = w := by
  go_enter Try.func6, Try.ntmps6
  go_wp2
  go_ret
  exact ⟨rfl, rfl⟩
theorem bytes6_no (a : ByteArray) (sep : Int) (an : Bool) (w : World) (ha : a.size ≤ maxLen) (h : ¬ a.size ≤ 1048576) :
    Calls Try.prog 6 #[.string a, .int .u8 sep, .bool an] w fun e w' => e = .returned (.bool false) ∧ w' = w := by
  unfold maxLen at ha
  go_enter Try.func6, Try.ntmps6
  go_wp2
  all_goals (go_ret; exact ⟨rfl, rfl⟩)
theorem bytes10_ok (a : ByteArray) (sep : Int) (an : Bool) (w : World) (h : a.size ≤ 1048576) :
    Calls Try.prog 10 #[.string a, .int .u8 sep, .bool an] w fun e w' => e = .returned (.bool true) ∧ w' = w := by
  go_enter Try.func10, Try.ntmps10
  go_wp2
  go_ret
  exact ⟨rfl, rfl⟩
theorem bytes10_no (a : ByteArray) (sep : Int) (an : Bool) (w : World) (ha : a.size ≤ maxLen) (h : ¬ a.size ≤ 1048576) :
    Calls Try.prog 10 #[.string a, .int .u8 sep, .bool an] w fun e w' => e = .returned (.bool false) ∧ w' = w := by
  unfold maxLen at ha
  go_enter Try.func10, Try.ntmps10
  go_wp2
  all_goals (go_ret; exact ⟨rfl, rfl⟩)
end Go.Proofs.Qxb6622052a
