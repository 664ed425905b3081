import Derived.Test.Qxb6622052aPieces
import Derived.Laws.BytesArg
import Derived.Deep.QuietTactic
import Derived.BigQuiet
import Derived.WalkSpells
namespace Go.Proofs.Qxb6622052a
open Go.RowKit Plain
set_option linter.unusedVariables false

theorem conv_one (sep : Int) (wx : World) : Sem.run Try.prog (convert 30 9 (.slice (some ⟨wx.heap.size, 0, none⟩) 1 1)) (wx.alloc (.cells #[.int .u8 sep] 5)) = .ok (.string (strOfNums [sep])) (wx.alloc (.cells #[.int .u8 sep] 5)) := by
  have h := run_convert_bytes_arg (P := Try.prog) (wx.alloc (.cells #[.int .u8 sep] 5)) 30 5 Try.underlying30 Try.underlying5 wx.heap.size 0 1 1 [sep] rfl (by
    intro i hi
    obtain rfl : i = 0 := by omega
    simp) 9 Try.underlying9
  exact h

theorem toL_inj {x y : ByteArray} (h : toL x = toL y) : x = y := by
  cases x; cases y; unfold toL at h; simp at h; rw [h]
theorem map_toL_inj : ∀ {xs ys : List ByteArray}, xs.map toL = ys.map toL → xs = ys
  | [], [], _ => rfl
  | [], _ :: _, h => by simp at h
  | _ :: _, [], h => by simp at h
  | x :: xs, y :: ys, h => by
    simp only [List.map_cons, List.cons.injEq] at h
    rw [toL_inj h.1, map_toL_inj h.2]

/-- A row of strings lies at g. -/
def RowAt (w : World) (g : Nat) (xs : List ByteArray) : Prop := ∀ j (h : j < xs.length), w.cell? ⟨g, j, none⟩ = some (.string xs[j])
theorem RowAt.below {B : Nat} {w w' : World} {g : Nat} {xs : List ByteArray} (h : RowAt w g xs) (hb : Below B w w') (hg : g < B) : RowAt w' g xs := fun j hj => (hb.cell hg).trans (h j hj)
theorem RowAt.left {w : World} {g : Nat} {xs ys : List ByteArray} (h : RowAt w g (xs ++ ys)) {k : Nat} (hk : k < xs.length) : w.cell? ⟨g, k, none⟩ = some (.string xs[k]) := by
  rw [h k (by simp; omega), List.getElem_append_left hk]
theorem RowAt.right {w : World} {g : Nat} {xs ys : List ByteArray} (h : RowAt w g (xs ++ ys)) {k : Nat} (hk : k < ys.length) : w.cell? ⟨g, xs.length + k, none⟩ = some (.string ys[k]) := by
  rw [h (xs.length + k) (by simp; omega), List.getElem_append_right (by omega)]; simp

set_option maxHeartbeats 1000000 in
theorem pre_main (a b sb : ByteArray) (sep : Int) (an : Bool) (w : World) (ha : a.size ≤ 65536) (hb : b.size ≤ 65536) (hsz : sb.size = 1)
    (hcv : ∀ wx : World, Sem.run Try.prog (convert 30 9 (.slice (some ⟨wx.heap.size, 0, none⟩) 1 1)) (wx.alloc (.cells #[.int .u8 sep] 5)) = .ok (.string sb) (wx.alloc (.cells #[.int .u8 sep] 5)))
    (hsp : Hid (sp sep an false false false [] (toL (a ++ sb ++ b)) = pl sep [] (toL a) ++ sp sep an false false false [] (toL b)))
    (g34 : (sep == 34) = false) (g60 : an = true → (sep == 60) = false) (g62 : an = true → (sep == 62) = false) (h34 : hasB 34 (toL a) = false) (h60 : an = true → hasB 60 (toL a) = false) :
    Calls Try.prog 5 #[.string a, .string b, .int .u8 sep, .bool an] w fun e w' => e = .returned (.bool true) ∧ Below w.heap.size w w' := by
  cases an
  all_goals
    go_enter Try.func5, Try.ntmps5
    go_wp2_with (first | (go_at_call 14; refine (bytes14_ok _ _ _ _ _ (by omega)).mono ?_; rintro e w' ⟨rfl, rfl⟩) | (go_at_call 13; refine (has_any _ _ _ (by omega)).mono ?_; rintro e w' ⟨rfl, rfl⟩))
    refine (zz_any _ _ _ _ (by simp; omega)).mono ?_
    rintro e w1 ⟨x1, c1, xs1, rfl, hL1, hn1, hc1, hg1, hs1, hR1, hb1⟩
    go_wp2_with fail
    refine (zz_any _ _ _ _ (by omega)).mono ?_
    rintro e w2 ⟨x2, c2, xs2, rfl, hL2, hn2, hc2, hg2, hs2, hR2, hb2⟩
    go_wp2_with fail
    refine (plain_any _ _ _ (by omega)).mono ?_
    rintro e w3 ⟨x3, c3, xs3, rfl, hL3, hn3, hc3, hg3, hs3, hR3, hb3⟩
    obtain rfl : xs1 = xs3 ++ xs2 := map_toL_inj (by rw [hL1, List.map_append, hL2, hL3]; exact hsp.out)
    have hb := ((((Below.refl w'.heap.size w').alloc (Nat.le_refl _) (.cells #[.int .u8 sep] 5)).trans (hb1.mono (by simp))).trans (hb2.mono (by have := hb1.size; simp at this; omega))).trans (hb3.mono (by have := hb1.size; have := hb2.size; simp at *; omega))
    have R1 : RowAt w3 x1 (xs3 ++ xs2) := RowAt.below (RowAt.below hR1 hb2 hs1) hb3 (by have := hb2.size; omega)
    have R2 : RowAt w3 x2 xs2 := RowAt.below hR2 hb3 hs2
    have R3 : RowAt w3 x3 xs3 := hR3
    have m1 : xs3.length + xs2.length ≤ 9223372036854775807 := by have := hn1; unfold maxLen at hc1; simp at this; omega
    clear hR1 hR2 hR3 hb1 hb2 hb3 hL1 hL2 hL3 hsp hcv h34 h60 g34 g60 g62 hn1 hc1 hn2 hc2 hn3 hc3
    go_wp2_with fail
    go_loopw [12] (fun i wr => ∃ k n : Nat, k ≤ xs3.length ∧ i = .int .i64 k ∧ wr = w3.drewN n) (fun i _ => xs3.length - (intOf i).toNat)
    case atStart => exact ⟨0, 0, Nat.zero_le _, rfl, rfl⟩
    case round =>
      obtain ⟨k, n, hk, rfl, rfl⟩ := hrel
      by_cases hlt : k < xs3.length
      · have c1 := R1.left hlt
        have c3 := R3 k hlt
        have i1 : (k : Int) < (xs3.length : Int) := by omega
        have i2 : (k : Int) < (xs3.length : Int) + (xs2.length : Int) := by omega
        go_wp2
        go_quiet (fail)
        go_wp2
        go_roundw
        case rel => exact ⟨k + 1, _, by omega, by go_num, rfl⟩
        case measure => simp [intOf]; omega
      · go_wp2
        go_loopw [13] (fun i wr => ∃ k n : Nat, k ≤ xs2.length ∧ i = .int .i64 k ∧ wr = w3.drewN n) (fun i _ => xs2.length - (intOf i).toNat)
        case atStart => exact ⟨0, n, Nat.zero_le _, rfl, rfl⟩
        case round =>
          obtain ⟨j, m, hj, rfl, rfl⟩ := hrel
          by_cases hlj : j < xs2.length
          · have c1 := R1.right hlj
            have c3 := R2 j hlj
            have i1 : (j : Int) < (xs2.length : Int) := by omega
            have i2 : (xs3.length : Int) + (j : Int) < (xs3.length : Int) + (xs2.length : Int) := by omega
            go_wp2
            go_quiet (fail)
            go_wp2
            go_roundw
            case rel => exact ⟨j + 1, _, by omega, by go_num, rfl⟩
            case measure => simp [intOf]; omega
          · go_wp2
            go_ret
            exact ⟨rfl, below_drewN hb _⟩
end Go.Proofs.Qxb6622052a
