/-
  Contracts for FnSplitOutsideModel: pastQuotedB1 (17), splitOutsideModelB1 (8), sameStringsB1 (9).
-/
import Derived.Test.Qxb6622052aPrefix
namespace Go.Proofs.Qxb6622052a
open Go.RowKit Plain
set_option linter.unusedVariables false

/-- Inside a quoted string from j0 on, the machine comes to j still inside it. -/
def Quo (l : List UInt8) (j0 j : Nat) : Prop :=
  ∀ sep an g cur, sp sep an true false g cur (l.drop j0) = sp sep an true false g (cur ++ sub l j0 j) (l.drop j)
/-- .. comes to j outside it. -/
def Past (l : List UInt8) (j0 j : Nat) : Prop :=
  ∀ sep an g cur, sp sep an true false g cur (l.drop j0) = sp sep an false false g (cur ++ sub l j0 j) (l.drop j)

theorem Quo.start (l : List UInt8) (j : Nat) : Quo l j j := fun sep an g cur => by simp [sub_self]
theorem Quo.plain {s : ByteArray} {j0 j : Nat} (h : Quo (toL s) j0 j) (h0 : j0 ≤ j) (hj : j < s.size) (h92 : ((s[j].toNat : Int) == 92) = false) (h34 : ((s[j].toNat : Int) == 34) = false) : Quo (toL s) j0 (j + 1) := by
  intro sep an g cur
  have hj' : j < (toL s).length := by rw [toL_len]; exact hj
  rw [h, drop_cons _ _ hj', toL_get s j hj hj', st_inq h92 h34, sub_snoc _ _ _ h0 hj', toL_get s j hj hj']
  simp
theorem Quo.close {s : ByteArray} {j0 j : Nat} (h : Quo (toL s) j0 j) (h0 : j0 ≤ j) (hj : j < s.size) (h34 : ((s[j].toNat : Int) == 34) = true) : Past (toL s) j0 (j + 1) := by
  intro sep an g cur
  have hj' : j < (toL s).length := by rw [toL_len]; exact hj
  rw [h, drop_cons _ _ hj', toL_get s j hj hj', st_quote h34, sub_snoc _ _ _ h0 hj', toL_get s j hj hj']
  simp
theorem Quo.bs {s : ByteArray} {j0 j : Nat} (h : Quo (toL s) j0 j) (h0 : j0 ≤ j) (hj : j < s.size) (h92 : ((s[j].toNat : Int) == 92) = true) : Quo (toL s) j0 (j + 2) := by
  intro sep an g cur
  have hj' : j < (toL s).length := by rw [toL_len]; exact hj
  rw [h, drop_cons _ _ hj', toL_get s j hj hj', st_bs h92]
  by_cases h1 : j + 1 < s.size
  · have h1' : j + 1 < (toL s).length := by rw [toL_len]; exact h1
    rw [drop_cons _ _ h1', st_esc, show j + 2 = (j + 1) + 1 from rfl, sub_snoc _ _ _ (by omega) h1', sub_snoc _ _ _ h0 hj', toL_get s j hj hj']
    simp
  · have hl : (toL s).length = j + 1 := by rw [toL_len]; omega
    rw [List.drop_eq_nil_of_le (by omega), List.drop_eq_nil_of_le (by omega), sp_nil, sp_nil, sub_all _ j0 (j + 2) (by omega), ← sub_all _ j0 (j + 1) (by omega), sub_snoc _ _ _ h0 hj', toL_get s j hj hj']
    simp
theorem Quo.over {s : ByteArray} {j0 j : Nat} (h : Quo (toL s) j0 j) (hj : s.size ≤ j) : Past (toL s) j0 s.size := by
  intro sep an g cur
  rw [h, List.drop_eq_nil_of_le (by rw [toL_len]; exact hj), List.drop_eq_nil_of_le (by rw [toL_len]; exact Nat.le_refl _), sp_nil, sp_nil, sub_all _ _ _ (by rw [toL_len]; exact hj), sub_all _ _ _ (by rw [toL_len]; exact Nat.le_refl _)]

set_option maxHeartbeats 400000 in
theorem past_any (s : ByteArray) (j0 : Nat) (w : World) (hs : s.size ≤ 1048576) (h0 : j0 ≤ s.size) :
    Calls Try.prog 17 #[.string s, .int .i64 j0] w fun e w' => ∃ j : Nat, e = .returned (.int .i64 j) ∧ j0 ≤ j ∧ j ≤ s.size ∧ Past (toL s) j0 j ∧ w' = w := by
  go_enter Try.func17, Try.ntmps17
  go_wp2
  go_loop [1] (fun i => ∃ j : Nat, j0 ≤ j ∧ j ≤ s.size + 1 ∧ i = .int .i64 j ∧ Quo (toL s) j0 j) (fun i => s.size + 1 - (intOf i).toNat)
  case atStart => exact ⟨j0, Nat.le_refl _, by omega, rfl, Quo.start _ _⟩
  case round =>
    obtain ⟨j, hj0, hj1, rfl, hq⟩ := hrel
    by_cases hlt : j < s.size
    · cases h92 : ((s[j].toNat : Int) == 92)
      · cases h34 : ((s[j].toNat : Int) == 34)
        · have R := hq.plain hj0 hlt h92 h34
          go_wp2
          go_round
          case rel => exact ⟨j + 1, by omega, by omega, by go_num, R⟩
          case measure => simp [intOf]; omega
        · have R := hq.close hj0 hlt h34
          go_wp2
          go_ret
          exact ⟨j + 1, ret_int (by omega), by omega, by omega, R, rfl⟩
      · have R := hq.bs hj0 hlt h92
        go_wp2
        go_round
        case rel => exact ⟨j + 2, by omega, by omega, by go_num, R⟩
        case measure => simp [intOf]; omega
    · have R := hq.over (by omega)
      go_wp2
      go_ret
      exact ⟨s.size, rfl, by omega, Nat.le_refl _, R, rfl⟩

theorem Inv.quoted {sep : Int} {an : Bool} {s : ByteArray} {F : List ByteArray} {g : Bool} {st k j : Nat} (h : Inv sep an s F false false g st k) (hst : st ≤ k) (hk : k < s.size)
    (h34 : ((s[k].toNat : Int) == 34) = true) (hp : Past (toL s) (k + 1) j) (hj : k + 1 ≤ j) : Inv sep an s F false false g st j := by
  have h1 := h.keep hst hk (fun cur r => st_quote h34)
  unfold Inv at *
  rw [← h1]
  simp only [Bool.not_false]
  rw [hp, sub_app _ _ _ _ (by omega) hj]

set_option maxHeartbeats 2000000 in
theorem model_any (s : ByteArray) (sep : Int) (an : Bool) (w : World) (hs : s.size ≤ 1048576) :
    Calls Try.prog 8 #[.string s, .int .u8 sep, .bool an] w fun e w' => Strs w w' e (sp sep an false false false [] (toL s)) := by
  obtain ⟨i0, hi, hz0, hz1, hz2⟩ := info_parts Try.info9
  go_enter Try.func8, Try.ntmps8
  go_wp2
  go_loopw [7, 8, 9, 10] (fun v ust ug ui wr => ∃ (k st : Nat) (g : Bool) (F : List ByteArray), k ≤ s.size ∧ st ≤ k ∧ F.length ≤ k ∧ ui = .int .i64 k ∧ ust = .int .i64 st ∧ ug = .bool g ∧
      wr.ownsRow w.heap.size 9 1 v F.length (F.map Value.string) ∧ Below w.heap.size w wr ∧ Inv sep an s F false false g st k)
    (fun _ _ _ i _ => s.size - (intOf i).toNat)
  case atStart => exact ⟨0, 0, false, [], Nat.zero_le _, Nat.zero_le _, Nat.zero_le _, rfl, rfl, rfl, World.ownsRow_nil _ _ _ _, Below.refl _ _, Inv.start _ _ _⟩
  case round =>
    obtain ⟨k, st, g, F, hk, hst, hF, rfl, rfl, rfl, hown, hbel, hinv⟩ := hrel
    by_cases hlt : k < s.size
    · cases h34 : ((s[k].toNat : Int) == 34)
      · cases an
        · cases hsep : ((s[k].toNat : Int) == sep)
          · have R := hinv.keep hst hlt (fun cur r => st_keep h34 (by simp) (by simp) (Or.inl hsep))
            go_wp2
            go_roundw
            case rel => exact ⟨k + 1, st, _, F, by omega, by omega, by omega, by go_num, rfl, rfl, hown, hbel, R⟩
            case measure => simp [intOf]; omega
          · cases g
            · have R := hinv.cut hst hlt (fun cur r => st_cut h34 (by simp) (by simp) hsep)
              go_wp2_with (at_builtin; refine wpList_append_own _ rfl (.tmp 44) (.tmp 49) 23 rfl w.heap.size 9 i0 (.string ByteArray.empty) 1 16 Try.underlying23 hi hz0 hz1 hz2 rfl (by decide) _ _ _ rfl (hown.alloc _) ⟨wr.heap.size, 0, none⟩ 1 1 [.string (s.extract st k)] rfl rfl (one_new _ _) (one_cell _) (by unfold maxLen; omega) (by omega) (base_le hbel _) ?_; intro v' w1 hown' hgrow _)
              go_roundw
              case rel => exact ⟨k + 1, k + 1, _, F ++ [s.extract st k], by omega, by omega, by simp; omega, by go_num, by go_num, rfl, push_own hown', push_below hown hbel hgrow, R⟩
              case measure => simp [intOf]; omega
            · have R := hinv.keep hst hlt (fun cur r => st_keep h34 (by simp) (by simp) (Or.inr rfl))
              go_wp2
              go_roundw
              case rel => exact ⟨k + 1, st, _, F, by omega, by omega, by omega, by go_num, rfl, rfl, hown, hbel, R⟩
              case measure => simp [intOf]; omega
        · cases h60 : ((s[k].toNat : Int) == 60)
          · cases h62 : ((s[k].toNat : Int) == 62)
            · cases hsep : ((s[k].toNat : Int) == sep)
              · have R := hinv.keep hst hlt (fun cur r => st_keep h34 (fun _ => h60) (fun _ => h62) (Or.inl hsep))
                go_wp2
                go_roundw
                case rel => exact ⟨k + 1, st, _, F, by omega, by omega, by omega, by go_num, rfl, rfl, hown, hbel, R⟩
                case measure => simp [intOf]; omega
              · cases g
                · have R := hinv.cut hst hlt (fun cur r => st_cut h34 (fun _ => h60) (fun _ => h62) hsep)
                  go_wp2_with (at_builtin; refine wpList_append_own _ rfl (.tmp 44) (.tmp 49) 23 rfl w.heap.size 9 i0 (.string ByteArray.empty) 1 16 Try.underlying23 hi hz0 hz1 hz2 rfl (by decide) _ _ _ rfl (hown.alloc _) ⟨wr.heap.size, 0, none⟩ 1 1 [.string (s.extract st k)] rfl rfl (one_new _ _) (one_cell _) (by unfold maxLen; omega) (by omega) (base_le hbel _) ?_; intro v' w1 hown' hgrow _)
                  go_roundw
                  case rel => exact ⟨k + 1, k + 1, _, F ++ [s.extract st k], by omega, by omega, by simp; omega, by go_num, by go_num, rfl, push_own hown', push_below hown hbel hgrow, R⟩
                  case measure => simp [intOf]; omega
                · have R := hinv.keep hst hlt (fun cur r => st_keep h34 (fun _ => h60) (fun _ => h62) (Or.inr rfl))
                  go_wp2
                  go_roundw
                  case rel => exact ⟨k + 1, st, _, F, by omega, by omega, by omega, by go_num, rfl, rfl, hown, hbel, R⟩
                  case measure => simp [intOf]; omega
            · have R := hinv.keep hst hlt (fun cur r => st_gt h34 h62)
              go_wp2
              go_roundw
              case rel => exact ⟨k + 1, st, _, F, by omega, by omega, by omega, by go_num, rfl, rfl, hown, hbel, R⟩
              case measure => simp [intOf]; omega
          · have R := hinv.keep hst hlt (fun cur r => st_lt h34 h60)
            go_wp2
            go_roundw
            case rel => exact ⟨k + 1, st, _, F, by omega, by omega, by omega, by go_num, rfl, rfl, hown, hbel, R⟩
            case measure => simp [intOf]; omega
      · have hc := past_any s (k + 1) wr hs (by omega)
        rw [show ((k + 1 : Nat) : Int) = (k : Int) + 1 from by omega] at hc
        have HC : Hid (Calls Try.prog 17 #[.string s, .int .i64 ((k : Int) + 1)] wr fun e w' => ∃ j : Nat, e = .returned (.int .i64 j) ∧ k + 1 ≤ j ∧ j ≤ s.size ∧ Past (toL s) (k + 1) j ∧ w' = wr) := hc
        clear hc
        go_wp2_with (go_at_call 17; refine HC.out.mono ?_; rintro e w' ⟨j, rfl, hj0, hj1, hp, rfl⟩)
        go_roundw
        case rel => exact ⟨j, st, _, F, by omega, by omega, by omega, by go_num, rfl, rfl, hown, hbel, hinv.quoted hst hlt h34 hp hj0⟩
        case measure => simp [intOf]; omega
    · go_wp2_with (at_builtin; refine wpList_append_own _ rfl (.tmp 55) (.tmp 59) 23 rfl w.heap.size 9 i0 (.string ByteArray.empty) 1 16 Try.underlying23 hi hz0 hz1 hz2 rfl (by decide) _ _ _ rfl (hown.alloc _) ⟨wr.heap.size, 0, none⟩ 1 1 [.string (s.extract st s.size)] rfl rfl (one_new _ _) (one_cell _) (by unfold maxLen; omega) (by omega) (base_le hbel _) ?_; intro v' w1 hown' hgrow _)
      go_ret
      exact strs_mk hown' (push_below hown hbel hgrow) (hinv.last (by omega))

set_option maxHeartbeats 400000 in
theorem same_any (xs : List ByteArray) (x1 x2 c1 c2 : Nat) (w : World) (R1 : RowAt w x1 xs) (R2 : RowAt w x2 xs) (m1 : xs.length ≤ 9223372036854775807) :
    Calls Try.prog 9 #[.slice (some ⟨x1, 0, none⟩) xs.length c1, .slice (some ⟨x2, 0, none⟩) xs.length c2] w fun e w' => e = .returned (.bool true) ∧ ∃ n, w' = w.drewN n := by
  go_enter Try.func9, Try.ntmps9
  go_wp2
  go_loopw [5] (fun i wr => ∃ k n : Nat, k ≤ xs.length ∧ i = .int .i64 k ∧ wr = w.drewN n) (fun i _ => xs.length - (intOf i).toNat)
  case atStart => exact ⟨0, 0, Nat.zero_le _, rfl, rfl⟩
  case round =>
    obtain ⟨k, n, hk, rfl, rfl⟩ := hrel
    by_cases hlt : k < xs.length
    · have c1 := R1 k hlt
      have c3 := R2 k hlt
      have i1 : (k : Int) < (xs.length : Int) := by omega
      go_wp2
      go_quiet (fail)
      go_wp2
      go_roundw
      case rel => exact ⟨k + 1, _, by omega, by go_num, rfl⟩
      case measure => simp [intOf]; omega
    · go_wp2
      go_ret
      exact ⟨rfl, _, rfl⟩
end Go.Proofs.Qxb6622052a
