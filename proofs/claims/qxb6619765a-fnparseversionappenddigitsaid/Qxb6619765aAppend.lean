/-
  The walk of FnParseVersionAppendDigit (4).
-/
import Derived.Test.Qxb6619765aCanon
import Derived.Test.Qxb6619765aAppPlain
import Derived.Lib.AppendStr
namespace Go.Proofs.Qxb6619765a
open Go.RowKit Plain
set_option linter.unusedVariables false

theorem Try.info5 : (Try.prog.info? 5).map (fun i => (i.zero, i.size, i.bytes)) = some (some (.int .u8 0), 1, 1) := by kernel_rfl

/-- The bytes of s, then c. -/
def appN (s : ByteArray) (c : Int) : List Int := (toL s).map (fun d => (d.toNat : Int)) ++ [c]
theorem appN_len (s : ByteArray) (c : Int) : (appN s c).length = s.size + 1 := by simp [appN, toL_len]
theorem appN_cells (s : ByteArray) (c : Int) : [] ++ Lib.strCells s ++ [Value.int .u8 c] = (appN s c).map (Value.int .u8) := by
  simp [appN, Lib.strCells, toL, List.map_map, Function.comp_def]
theorem own_shape {W : World} {B n : Nat} {v : Value} {xs : List Value} (h : W.ownsRow B 5 1 v (n + 1) xs) : ∃ g cap, v = .slice (some ⟨g, 0, none⟩) (n + 1) cap := by
  rcases h.2 with ⟨_, h⟩ | ⟨g, cap, cur, hv, _⟩
  · omega
  · exact ⟨g, cap, hv⟩
theorem conv_own {W : World} {B g n cap : Nat} {xs : List Int} (hn : xs.length = n) (h : W.ownsRow B 5 1 (.slice (some ⟨g, 0, none⟩) n cap) n (xs.map (Value.int .u8))) :
    Sem.run Try.prog (convert 26 9 (.slice (some ⟨g, 0, none⟩) n cap)) W = .ok (.string (strOfNums xs)) W := by
  refine run_convert_bytes_arg (P := Try.prog) W 26 5 Try.underlying26 Try.underlying5 g 0 n cap xs hn ?_ 9 Try.underlying9
  intro i hi
  have hi' : i < xs.length := by omega
  rw [Nat.zero_add, h.cellAt i (by omega), List.getElem?_map, List.getElem?_eq_getElem hi']
  simp [List.getD, List.getElem?_eq_getElem hi']

/-- What the law says of the two answers, in six cases. -/
def AppLaw (s : ByteArray) (c N M : Int) (ok ok2 : Bool) : Prop :=
  (48 ≤ c ∧ c ≤ 57 ∧ ok = true ∧ 0 ≤ N ∧ N ≤ 99999999 ∧ ((s.size : Int) == 0) = false ∧ M = N * 10 + (c - 48) ∧ ok2 = true) ∨
  (48 ≤ c ∧ c ≤ 57 ∧ ok = false ∧ ((s.size : Int) == 0) = true ∧ (c != 48) = true ∧ M = c - 48 ∧ ok2 = true) ∨
  (c < 48 ∧ M = 0 ∧ ok2 = false) ∨
  (57 < c ∧ M = 0 ∧ ok2 = false) ∨
  (48 ≤ c ∧ c ≤ 57 ∧ ok = false ∧ ((s.size : Int) == 0) = false ∧ M = 0 ∧ ok2 = false) ∨
  (48 ≤ c ∧ c ≤ 57 ∧ ok = true ∧ 99999999 < N ∧ ((s.size : Int) == 0) = false ∧ M = 0 ∧ ok2 = false) ∨
  (48 ≤ c ∧ c ≤ 57 ∧ ok = false ∧ ((s.size : Int) == 0) = true ∧ (c != 48) = false ∧ M = 0 ∧ ok2 = false)

set_option maxHeartbeats 1000000 in
theorem app_main (s : ByteArray) (c N M : Int) (ok ok2 : Bool) (w : World) (hs : s.size ≤ 1048576) (c0 : 0 ≤ c) (c1 : c ≤ 255)
    (hS : Hid (∀ wx : World, Calls Try.prog 6 #[.string s] wx fun e w' => e = .returned (.tuple #[.int .i64 N, .bool ok]) ∧ w' = wx))
    (hT : Hid (∀ wx : World, Calls Try.prog 6 #[.string (strOfNums (appN s c))] wx fun e w' => e = .returned (.tuple #[.int .i64 M, .bool ok2]) ∧ w' = wx))
    (hC : Hid (∀ wx : World, Calls Try.prog 7 #[.string s] wx fun e w' => e = .returned (.tuple #[.int .i64 N, .bool ok]) ∧ Below wx.heap.size wx w'))
    (hlaw : Hid (AppLaw s c N M ok ok2)) :
    Calls Try.prog 4 #[.string s, .int .u8 c] w fun e w' => e = .returned (.bool true) ∧ Below w.heap.size w w' := by
  obtain ⟨i0, hi, hz0, hz1, hz2⟩ := info_parts Try.info5
  go_enter Try.func4, Try.ntmps4
  go_wp2_with (first | go_in | (at_make; refine wpList_make_own _ rfl _ _ 26 rfl w.heap.size 5 i0 (.int .u8 0) 1 Try.underlying26 hi hz0 hz1 .i64 .i64 _ (s.size + 1) rfl rfl (by omega) (by rw [hz2]; omega) (by unfold maxLen; omega) (Nat.le_refl _) ?_; intro w1 hown1 hgrow1) | (at_builtin; refine Lib.wpList_append_own_string _ rfl (.tmp 28) (.tmp 29) 26 9 rfl w.heap.size 5 i0 Try.underlying26 Try.underlying9 hi hz0 hz1 hz2 _ _ _ rfl hown1 s rfl (by unfold maxLen; omega) (by omega) (by have := hgrow1.size; omega) ?_; intro v2 w2 hown2 hgrow2 _) | (at_builtin; refine wpList_append_own _ rfl (.tmp 31) (.tmp 33) 26 rfl w.heap.size 5 i0 (.int .u8 0) 1 1 Try.underlying26 hi hz0 hz1 hz2 rfl (by decide) _ _ _ rfl (hown2.alloc _) ⟨w2.heap.size, 0, none⟩ 1 1 [.int .u8 c] rfl rfl ?n1 ?n2 (by unfold maxLen; omega) (by omega) (by have := hgrow1.size; have := hgrow2.size; simp; omega) ?_))
  case n1 =>
    intro j u hj
    match j, hj with
    | 0, hj => simp at hj; subst hj; simp [Addr.add]
  case n2 => intro u hu; simp at hu; subst hu; rfl
  intro v3 w3 hown3 hgrow3 _
  have b1 : Below w.heap.size w w1 := (Below.refl _ _).grown hgrow1 (Nat.le_refl _) (fun k hk => by cases hk)
  have b2 : Below w.heap.size w w2 := b1.grown hgrow2 b1.size (fun k hk => (hown1.lt k hk).1)
  have b3 : Below w.heap.size w w3 := (b2.alloc b2.size _).grown hgrow3 (by have := b2.size; simp; omega) (fun k hk => (hown2.lt k hk).1)
  obtain ⟨g, cap, hv⟩ := own_shape hown3
  have hown4 : w3.ownsRow w.heap.size 5 1 (.slice (some ⟨g, 0, none⟩) (s.size + 1) cap) (s.size + 1) ((appN s c).map (Value.int .u8)) := by
    rw [← hv, ← appN_cells]; simpa using hown3
  have hcv := conv_own (appN_len s c) hown4
  rw [hv]
  clear hown1 hown2 hown3 hown4 hgrow1 hgrow2 hgrow3 b1 b2
  go_wp2_with fail
  refine (hS.out _).mono ?_
  rintro e w4 ⟨rfl, rfl⟩
  go_wp2_with fail
  refine (hT.out _).mono ?_
  rintro e w5 ⟨rfl, rfl⟩
  go_wp2_with fail
  refine (hC.out _).mono ?_
  rintro e w6 ⟨rfl, b6⟩
  have b := b3.trans (b6.mono b3.size)
  clear b3 b6 hS hT hC hcv
  rcases hlaw.out with ⟨k1, k2, rfl, k3, k4, k5, rfl, rfl⟩ | ⟨k1, k2, rfl, k5, k6, rfl, rfl⟩ | ⟨k1, rfl, rfl⟩ | ⟨k1, rfl, rfl⟩ | ⟨k1, k2, rfl, k5, rfl, rfl⟩ | ⟨k1, k2, rfl, k4, k5, rfl, rfl⟩ | ⟨k1, k2, rfl, k5, k6, rfl, rfl⟩
  all_goals clear hlaw
  all_goals go_wp2
  all_goals go_ret
  all_goals exact ⟨rfl, b⟩
end Go.Proofs.Qxb6619765a
