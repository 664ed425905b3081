/-
  Contracts of splitOutside (16) and its hand-on (7), of plainSplitB1 (15).
-/
import Derived.Test.Qxb6622052aBytes
namespace Go.Proofs.Qxb6622052a
open Go.RowKit Plain
set_option linter.unusedVariables false

theorem Try.info9 : (Try.prog.info? 9).map (fun i => (i.zero, i.size, i.bytes)) = some (some (.string ByteArray.empty), 1, 16) := by kernel_rfl

theorem toL_extract (s : ByteArray) (st k : Nat) : toL (s.extract st k) = sub (toL s) st k := by
  unfold toL sub
  rw [ByteArray.data_extract]
  simp [List.extract_eq_take_drop, List.drop_take]

/-- What has been cut so far, and what the rest will be cut to, is what the whole is cut to. -/
def Inv (sep : Int) (an : Bool) (s : ByteArray) (F : List ByteArray) (q e g : Bool) (st k : Nat) : Prop :=
  F.map toL ++ sp sep an q e g (sub (toL s) st k) ((toL s).drop k) = sp sep an false false false [] (toL s)

theorem Inv.start (sep : Int) (an : Bool) (s : ByteArray) : Inv sep an s [] false false false 0 0 := by
  simp [Inv, sub_self]
theorem Inv.keep {sep : Int} {an : Bool} {s : ByteArray} {F : List ByteArray} {q e g q' e' g' : Bool} {st k : Nat} (h : Inv sep an s F q e g st k) (hst : st ≤ k) (hk : k < s.size)
    (hstep : ∀ cur r, sp sep an q e g cur (s[k] :: r) = sp sep an q' e' g' (cur ++ [s[k]]) r) : Inv sep an s F q' e' g' st (k + 1) := by
  have hk' : k < (toL s).length := by rw [toL_len]; exact hk
  unfold Inv at *
  rw [drop_cons _ _ hk', toL_get s k hk hk', hstep] at h
  rw [sub_snoc _ _ _ hst hk', toL_get s k hk hk']
  exact h
theorem Inv.cut {sep : Int} {an : Bool} {s : ByteArray} {F : List ByteArray} {q e g : Bool} {st k : Nat} (h : Inv sep an s F q e g st k) (hst : st ≤ k) (hk : k < s.size)
    (hstep : ∀ cur r, sp sep an q e g cur (s[k] :: r) = cur :: sp sep an q e g [] r) : Inv sep an s (F ++ [s.extract st k]) q e g (k + 1) (k + 1) := by
  have hk' : k < (toL s).length := by rw [toL_len]; exact hk
  unfold Inv at *
  rw [drop_cons _ _ hk', toL_get s k hk hk', hstep] at h
  rw [sub_self, ← h]
  simp [toL_extract]
theorem Inv.last {sep : Int} {an : Bool} {s : ByteArray} {F : List ByteArray} {q e g : Bool} {st k : Nat} (h : Inv sep an s F q e g st k) (hk : s.size ≤ k) :
    (F ++ [s.extract st s.size]).map toL = sp sep an false false false [] (toL s) := by
  unfold Inv at h
  rw [List.drop_eq_nil_of_le (by rw [toL_len]; exact hk), sp_nil, sub_all _ _ _ (by rw [toL_len]; exact hk)] at h
  rw [← h, List.map_append]
  simp [toL_extract, sub_all _ st s.size (by rw [toL_len]; exact Nat.le_refl _)]

/-- WHAT A CALL LEAVES THAT HANDS BACK A ROW OF STRINGS OF ITS OWN. -/
def Strs (w w' : World) (e : Ending) (L : List (List UInt8)) : Prop :=
  ∃ g cap, ∃ xs : List ByteArray, e = .returned (.slice (some ⟨g, 0, none⟩) xs.length cap) ∧ xs.map toL = L ∧ xs.length ≤ cap ∧ cap ≤ maxLen ∧ w.heap.size ≤ g ∧ g < w'.heap.size ∧
    (∀ j (h : j < xs.length), w'.cell? ⟨g, j, none⟩ = some (.string xs[j])) ∧ Below w.heap.size w w'


theorem push_own {B : Nat} {w1 : World} {v' : Value} {F : List ByteArray} {x : ByteArray} (h : w1.ownsRow B 9 1 v' (F.length + 1) (F.map Value.string ++ [.string x])) :
    w1.ownsRow B 9 1 v' (F ++ [x]).length ((F ++ [x]).map Value.string) := by simpa using h
theorem push_below {w wr w1 : World} {v : Value} {o : Obj} {n : Nat} {xs : List Value} (hown : wr.ownsRow w.heap.size 9 1 v n xs) (hbel : Below w.heap.size w wr) (hg : (wr.alloc o).grownBy w1 v.ownBlock) : Below w.heap.size w w1 :=
  (hbel.alloc hbel.size o).grown hg (by have := hbel.size; simp; omega) (fun j hj => (hown.lt j hj).1)
theorem one_new (wr : World) (x : ByteArray) : ∀ (j : Nat) (u : Value), [Value.string x][j]? = some u → (wr.alloc (.cells #[.string x] 9)).cell? (Addr.add ⟨wr.heap.size, 0, none⟩ j) = some u := by
  intro j u hj
  match j, hj with
  | 0, hj => simp at hj; subst hj; simp [Addr.add]
theorem one_cell (x : ByteArray) : ∀ u ∈ [Value.string x], u.oneCell' = true := by
  intro u hu; simp at hu; subst hu; rfl
theorem base_le {w wr : World} (hbel : Below w.heap.size w wr) (o : Obj) : w.heap.size ≤ (wr.alloc o).heap.size := by have := hbel.size; simp; omega

theorem strs_mk {w w1 : World} {v' : Value} {F : List ByteArray} {x : ByteArray} {L : List (List UInt8)} (hown : w1.ownsRow w.heap.size 9 1 v' (F.length + 1) (F.map Value.string ++ [.string x])) (hbel : Below w.heap.size w w1) (hL : (F ++ [x]).map toL = L) : Strs w w1 (.returned v') L := by
  rcases hown.2 with ⟨_, h⟩ | ⟨g, cap, cur, hv, hb, hg, hn, hc, _⟩
  · omega
  · refine ⟨g, cap, F ++ [x], ?_, hL, ?_, hc, hb, (Array.getElem?_eq_some_iff.1 hg).1, ?_, hbel⟩
    · rw [hv]; simp
    · simpa using hn
    · intro j hj
      have hj' : j < (F.length + 1) * 1 := by simpa using hj
      rw [hv] at hown
      rw [hown.cellAt j hj']
      have e : F.map Value.string ++ [Value.string x] = (F ++ [x]).map Value.string := by simp
      rw [e, List.getElem?_map, List.getElem?_eq_getElem hj]; rfl

set_option maxHeartbeats 2000000 in
theorem split_any (s : ByteArray) (sep : Int) (an : Bool) (w : World) (hs : s.size ≤ 1048576) :
    Calls Try.prog 16 #[.string s, .int .u8 sep, .bool an] w fun e w' => Strs w w' e (sp sep an false false false [] (toL s)) := by
  obtain ⟨i0, hi, hz0, hz1, hz2⟩ := info_parts Try.info9
  go_enter Try.func16, Try.ntmps16
  go_wp2
  go_loopw [7, 8, 9, 10, 11, 12] (fun v uq ue ug ust ui wr => ∃ (k st : Nat) (q e g : Bool) (F : List ByteArray), k ≤ s.size ∧ st ≤ k ∧ F.length ≤ k ∧ ui = .int .i64 k ∧ ust = .int .i64 st ∧ uq = .bool q ∧ ue = .bool e ∧ ug = .bool g ∧
      wr.ownsRow w.heap.size 9 1 v F.length (F.map Value.string) ∧ Below w.heap.size w wr ∧ Inv sep an s F q e g st k)
    (fun _ _ _ _ _ i _ => s.size - (intOf i).toNat)
  case atStart => exact ⟨0, 0, false, false, false, [], Nat.zero_le _, Nat.zero_le _, Nat.zero_le _, rfl, rfl, rfl, rfl, rfl, World.ownsRow_nil _ _ _ _, Below.refl _ _, Inv.start _ _ _⟩
  case round =>
    obtain ⟨k, st, q, e, g, F, hk, hst, hF, rfl, rfl, rfl, rfl, rfl, hown, hbel, hinv⟩ := hrel
    by_cases hlt : k < s.size
    · cases e
      · cases h34 : ((s[k].toNat : Int) == 34)
        · cases q
          · cases an
            · cases hsep : ((s[k].toNat : Int) == sep)
              · have R := hinv.keep hst hlt (fun cur r => st_keep h34 (by simp) (by simp) (Or.inl hsep))
                go_wp2
                go_roundw
                case rel => exact ⟨k + 1, st, _, _, _, F, by omega, by omega, by omega, by go_num, rfl, rfl, rfl, rfl, hown, hbel, R⟩
                case measure => simp [intOf]; omega
              · cases g
                · have R := hinv.cut hst hlt (fun cur r => st_cut h34 (by simp) (by simp) hsep)
                  go_wp2_with (at_builtin; refine wpList_append_own _ rfl (.tmp 58) (.tmp 63) 23 rfl w.heap.size 9 i0 (.string ByteArray.empty) 1 16 Try.underlying23 hi hz0 hz1 hz2 rfl (by decide) _ _ _ rfl (hown.alloc _) ⟨wr.heap.size, 0, none⟩ 1 1 [.string (s.extract st k)] rfl rfl (one_new _ _) (one_cell _) (by unfold maxLen; omega) (by omega) (base_le hbel _) ?_; intro v' w1 hown' hgrow _)
                  go_roundw
                  case rel => exact ⟨k + 1, k + 1, _, _, _, F ++ [s.extract st k], by omega, by omega, by simp; omega, by go_num, by go_num, rfl, rfl, rfl, push_own hown', push_below hown hbel hgrow, R⟩
                  case measure => simp [intOf]; omega
                · have R := hinv.keep hst hlt (fun cur r => st_keep h34 (by simp) (by simp) (Or.inr rfl))
                  go_wp2
                  go_roundw
                  case rel => exact ⟨k + 1, st, _, _, _, F, by omega, by omega, by omega, by go_num, rfl, rfl, rfl, rfl, hown, hbel, R⟩
                  case measure => simp [intOf]; omega
            · cases h60 : ((s[k].toNat : Int) == 60)
              · cases h62 : ((s[k].toNat : Int) == 62)
                · cases hsep : ((s[k].toNat : Int) == sep)
                  · have R := hinv.keep hst hlt (fun cur r => st_keep h34 (fun _ => h60) (fun _ => h62) (Or.inl hsep))
                    go_wp2
                    go_roundw
                    case rel => exact ⟨k + 1, st, _, _, _, F, by omega, by omega, by omega, by go_num, rfl, rfl, rfl, rfl, hown, hbel, R⟩
                    case measure => simp [intOf]; omega
                  · cases g
                    · have R := hinv.cut hst hlt (fun cur r => st_cut h34 (fun _ => h60) (fun _ => h62) hsep)
                      go_wp2_with (at_builtin; refine wpList_append_own _ rfl (.tmp 58) (.tmp 63) 23 rfl w.heap.size 9 i0 (.string ByteArray.empty) 1 16 Try.underlying23 hi hz0 hz1 hz2 rfl (by decide) _ _ _ rfl (hown.alloc _) ⟨wr.heap.size, 0, none⟩ 1 1 [.string (s.extract st k)] rfl rfl (one_new _ _) (one_cell _) (by unfold maxLen; omega) (by omega) (base_le hbel _) ?_; intro v' w1 hown' hgrow _)
                      go_roundw
                      case rel => exact ⟨k + 1, k + 1, _, _, _, F ++ [s.extract st k], by omega, by omega, by simp; omega, by go_num, by go_num, rfl, rfl, rfl, push_own hown', push_below hown hbel hgrow, R⟩
                      case measure => simp [intOf]; omega
                    · have R := hinv.keep hst hlt (fun cur r => st_keep h34 (fun _ => h60) (fun _ => h62) (Or.inr rfl))
                      go_wp2
                      go_roundw
                      case rel => exact ⟨k + 1, st, _, _, _, F, by omega, by omega, by omega, by go_num, rfl, rfl, rfl, rfl, hown, hbel, R⟩
                      case measure => simp [intOf]; omega
                · have R := hinv.keep hst hlt (fun cur r => st_gt h34 h62)
                  go_wp2
                  go_roundw
                  case rel => exact ⟨k + 1, st, _, _, _, F, by omega, by omega, by omega, by go_num, rfl, rfl, rfl, rfl, hown, hbel, R⟩
                  case measure => simp [intOf]; omega
              · have R := hinv.keep hst hlt (fun cur r => st_lt h34 h60)
                go_wp2
                go_roundw
                case rel => exact ⟨k + 1, st, _, _, _, F, by omega, by omega, by omega, by go_num, rfl, rfl, rfl, rfl, hown, hbel, R⟩
                case measure => simp [intOf]; omega
          · cases h92 : ((s[k].toNat : Int) == 92)
            · have R := hinv.keep hst hlt (fun cur r => st_inq h92 h34)
              go_wp2
              go_roundw
              case rel => exact ⟨k + 1, st, _, _, _, F, by omega, by omega, by omega, by go_num, rfl, rfl, rfl, rfl, hown, hbel, R⟩
              case measure => simp [intOf]; omega
            · have R := hinv.keep hst hlt (fun cur r => st_bs h92)
              go_wp2
              go_roundw
              case rel => exact ⟨k + 1, st, _, _, _, F, by omega, by omega, by omega, by go_num, rfl, rfl, rfl, rfl, hown, hbel, R⟩
              case measure => simp [intOf]; omega
        · have h92 : ((s[k].toNat : Int) == 92) = false := by simp at h34 ⊢; omega
          cases q
          · have R := hinv.keep hst hlt (fun cur r => st_quote h34)
            go_wp2
            go_roundw
            case rel => exact ⟨k + 1, st, _, _, _, F, by omega, by omega, by omega, by go_num, rfl, rfl, rfl, rfl, hown, hbel, R⟩
            case measure => simp [intOf]; omega
          · have R := hinv.keep hst hlt (fun cur r => st_quote h34)
            go_wp2
            go_roundw
            case rel => exact ⟨k + 1, st, _, _, _, F, by omega, by omega, by omega, by go_num, rfl, rfl, rfl, rfl, hown, hbel, R⟩
            case measure => simp [intOf]; omega
      · have R := hinv.keep hst hlt (fun cur r => st_esc)
        go_wp2
        go_roundw
        case rel => exact ⟨k + 1, st, _, _, _, F, by omega, by omega, by omega, by go_num, rfl, rfl, rfl, rfl, hown, hbel, R⟩
        case measure => simp [intOf]; omega
    · go_wp2_with (at_builtin; refine wpList_append_own _ rfl (.tmp 67) (.tmp 71) 23 rfl w.heap.size 9 i0 (.string ByteArray.empty) 1 16 Try.underlying23 hi hz0 hz1 hz2 rfl (by decide) _ _ _ rfl (hown.alloc _) ⟨wr.heap.size, 0, none⟩ 1 1 [.string (s.extract st s.size)] rfl rfl (one_new _ _) (one_cell _) (by unfold maxLen; omega) (by omega) (base_le hbel _) ?_; intro v' w1 hown' hgrow _)
      go_ret
      exact strs_mk hown' (push_below hown hbel hgrow) (hinv.last (by omega))
end Go.Proofs.Qxb6622052a
