/-
  The contract of zzItoa (9).
-/
import Derived.Test.Qxb6619765aDoorParse
import Derived.Laws.BytesArg
namespace Go.Proofs.Qxb6619765aDoor
open Go.RowKit Plain
set_option linter.unusedVariables false

/-- The buffer's last bytes, from m on, are ds. -/
def Tail (arr : Array Value) (m : Nat) (ds : List UInt8) : Prop :=
  arr.size = 24 ∧ m + ds.length = 24 ∧ ∀ j (h : j < ds.length), arr[m + j]? = some (.int .u8 (ds[j].toNat : Int))
/-- .. and what is left of the number N is u. -/
def Buf (N : Nat) (arr : Array Value) (m u : Nat) : Prop := ∃ ds : List UInt8, Tail arr m ds ∧ dg u ++ ds = dg N

theorem Tail.push {arr : Array Value} {m : Nat} {ds : List UInt8} (h : Tail arr m ds) (hm : 0 < m) (c : UInt8) (x : Int) (hx : x = c.toNat) : Tail (arr.setIfInBounds (m - 1) (.int .u8 x)) (m - 1) (c :: ds) := by
  obtain ⟨h1, h2, h3⟩ := h
  refine ⟨by simpa using h1, by simp; omega, ?_⟩
  intro j hj
  match j, hj with
  | 0, _ => rw [Nat.add_zero, Array.getElem?_setIfInBounds_self_of_lt (by omega), hx]; rfl
  | j + 1, hj =>
    have hj' : j < ds.length := by simpa using hj
    rw [Array.getElem?_setIfInBounds_ne (by omega), show m - 1 + (j + 1) = m + j from by omega, h3 j hj']; rfl
theorem digit_num (u : Nat) : (48 : Int) + (u : Int) % 10 = ((UInt8.ofNat (48 + u % 10)).toNat : Int) := by
  simp [UInt8.toNat_ofNat']; omega
theorem Buf.step {N : Nat} {arr : Array Value} {m u : Nat} (h : Buf N arr m u) (hm : 0 < m) (hu : 0 < u) : Buf N (arr.setIfInBounds (m - 1) (.int .u8 (48 + (u : Int) % 10))) (m - 1) (u / 10) := by
  obtain ⟨ds, ht, he⟩ := h
  refine ⟨UInt8.ofNat (48 + u % 10) :: ds, ht.push hm _ _ (digit_num u), ?_⟩
  rw [← he, dg_pos hu]; simp
theorem Buf.done {N : Nat} {arr : Array Value} {m : Nat} (h : Buf N arr m 0) : Tail arr m (dg N) := by
  obtain ⟨ds, ht, he⟩ := h
  rw [dg_zero, List.nil_append] at he
  rw [← he]; exact ht
theorem Tail.lt {arr : Array Value} {m : Nat} {ds : List UInt8} (h : Tail arr m ds) (hne : ds ≠ []) : m < 24 := by
  have := h.2.1
  have : 0 < ds.length := List.length_pos_iff.2 hne
  omega
theorem pow_step {u m : Nat} (h : u < 10 ^ (m - 4)) (hm : 5 ≤ m) : u / 10 < 10 ^ (m - 1 - 4) := by
  rw [show m - 4 = (m - 1 - 4) + 1 from by omega, Nat.pow_succ] at h
  exact Nat.div_lt_of_lt_mul (by omega)
theorem pow_big {u m : Nat} (h : u < 10 ^ (m - 4)) (hu : 0 < u) : 5 ≤ m := by
  rcases Nat.lt_or_ge m 5 with h5 | h5
  · rw [show m - 4 = 0 from by omega] at h; simp at h; omega
  · exact h5

theorem Tryd.arrayLen28 : Tryd.prog.arrayLen 28 = 24 := by kernel_rfl
theorem slice_at (B m : Nat) (hm : m < 24) (wx : World) : Sem.run Tryd.prog (Instr.sliceAt 28 (.pointer (some ⟨B, 0, none⟩)) (some (.int .i64 m)) none none) wx = .ok (.slice (some ⟨B, m, none⟩) (24 - m) (24 - m)) wx := by
  have hs : Sem.run Tryd.prog (sizeOf (Tryd.prog.elem 28)) wx = .ok 1 wx := by kernel_rfl
  have h := run_sliceAt_array_l (P := Tryd.prog) wx 28 ⟨B, 0, none⟩ (by kernel_rfl) .i64 (m : Int) (by omega) (by rw [Tryd.arrayLen28]; omega)
  rw [h, hs, Tryd.arrayLen28]
  simp only [Result.andThen, slicedAt, Int.toNat_natCast]
  rw [if_neg (by omega)]
  simp [Addr.add]
  omega
theorem slice_at' (B m : Nat) (i : Int) (hi : i = (m : Int)) (hm : m < 24) (wx : World) : Sem.run Tryd.prog (Instr.sliceAt 28 (.pointer (some ⟨B, 0, none⟩)) (some (.int .i64 i)) none none) wx = .ok (.slice (some ⟨B, m, none⟩) (24 - m) (24 - m)) wx := by
  rw [hi]; exact slice_at B m hm wx
theorem toL_nums (ds : List UInt8) : toL (strOfNums (ds.map fun d => (d.toNat : Int))) = ds := by
  simp [toL, strOfNums, List.map_map, Function.comp_def]
theorem conv_buf {arr : Array Value} {m : Nat} {ds : List UInt8} (h : Tail arr m ds) (w : World) :
    Sem.run Tryd.prog (convert 29 9 (.slice (some ⟨w.heap.size, m, none⟩) (24 - m) (24 - m))) (w.alloc (.cells arr 28)) = .ok (.string (strOfNums (ds.map fun d => (d.toNat : Int)))) (w.alloc (.cells arr 28)) := by
  obtain ⟨h1, h2, h3⟩ := h
  refine run_convert_bytes_arg (P := Tryd.prog) (w.alloc (.cells arr 28)) 29 5 Tryd.underlying29 Tryd.underlying5 w.heap.size m (24 - m) (24 - m) (ds.map fun d => (d.toNat : Int)) (by simp; omega) ?_ 9 Tryd.underlying9
  intro i hi
  have hi' : i < ds.length := by omega
  rw [World.cell?_alloc_new, h3 i hi']
  simp [List.getD, List.getElem?_eq_getElem hi']
theorem cell_there {arr : Array Value} {m : Nat} {ds : List UInt8} (h : Tail arr m ds) (hm : 0 < m) (w : World) : ∃ v, (w.alloc (.cells arr 28)).cell? ⟨w.heap.size, m - 1, none⟩ = some v := by
  obtain ⟨h1, h2, _⟩ := h
  have : m - 1 < arr.size := by omega
  exact ⟨arr[m - 1], by rw [World.cell?_alloc_new, Array.getElem?_eq_getElem this]⟩

/-- The canonical decimal of an int. -/
def itoaL (n : Int) : List UInt8 := if n = 0 then [48] else if n < 0 then 45 :: dg (-n).toNat else dg n.toNat

set_option maxHeartbeats 400000 in
theorem itoa_pos (n : Int) (w : World) (h0 : 0 < n) (h1 : n ≤ 9223372036854775807) :
    Calls Tryd.prog 9 #[.int .i64 n] w fun e w' => ∃ b, e = .returned (.string b) ∧ toL b = dg n.toNat ∧ Below w.heap.size w w' := by
  have hne := (dg_head n.toNat (by omega)).1
  go_enter Tryd.func9, Tryd.ntmps9
  go_wp2
  go_loopw [4, 6] (fun uu ui wr => ∃ (m u : Nat) (arr : Array Value), 4 ≤ m ∧ m ≤ 24 ∧ u ≤ 9223372036854775807 ∧ uu = .int .u64 u ∧ ui = .int .i64 m ∧ wr = w.alloc (.cells arr 28) ∧ Hid (u < 10 ^ (m - 4)) ∧ Buf n.toNat arr m u) (fun uu _ _ => (intOf uu).toNat)
  case atStart => exact ⟨24, n.toNat, _, by omega, by omega, by omega, by go_num, rfl, rfl, show n.toNat < 10 ^ 20 by omega, [], ⟨rfl, rfl, fun j h => absurd h (by simp)⟩, by simp⟩
  case round =>
    obtain ⟨m, u, arr, hm4, hm, hu, rfl, rfl, rfl, hlt, hbuf⟩ := hrel
    by_cases hu0 : 0 < u
    · have hm5 := pow_big hlt.out hu0
      obtain ⟨v, hc⟩ : ∃ v, (w.alloc (.cells arr 28)).cell? ⟨w.heap.size, m - 1, none⟩ = some v := by
        obtain ⟨ds, ht, _⟩ := hbuf
        exact cell_there ht (by omega) w
      have R := hbuf.step (by omega) hu0
      have L : Hid (u / 10 < 10 ^ (m - 1 - 4)) := pow_step hlt.out hm5
      go_wp2
      go_roundw
      case rel => exact ⟨m - 1, u / 10, _, by omega, by omega, by omega, by go_num, by go_num, rfl, L, R⟩
      case measure => simp [intOf]; omega
    · obtain rfl : u = 0 := by omega
      have T := hbuf.done
      have hm24 := T.lt hne
      have hsl := slice_at w.heap.size m hm24
      have hcv := conv_buf T w
      go_wp2
      go_ret
      exact ⟨_, rfl, toL_nums _, (Below.refl _ _).alloc (Nat.le_refl _) _⟩

set_option maxHeartbeats 400000 in
theorem itoa_neg (n : Int) (w : World) (h0 : n < 0) (h1 : -9223372036854775808 ≤ n) :
    Calls Tryd.prog 9 #[.int .i64 n] w fun e w' => ∃ b, e = .returned (.string b) ∧ toL b = 45 :: dg (-n).toNat ∧ Below w.heap.size w w' := by
  have hne := (dg_head (-n).toNat (by omega)).1
  go_enter Tryd.func9, Tryd.ntmps9
  go_wp2
  go_loopw [4, 6] (fun uu ui wr => ∃ (m u : Nat) (arr : Array Value), 4 ≤ m ∧ m ≤ 24 ∧ u ≤ 9223372036854775808 ∧ uu = .int .u64 u ∧ ui = .int .i64 m ∧ wr = w.alloc (.cells arr 28) ∧ Hid (u < 10 ^ (m - 4)) ∧ Buf (-n).toNat arr m u) (fun uu _ _ => (intOf uu).toNat)
  case atStart => exact ⟨24, (-n).toNat, _, by omega, by omega, by omega, by go_num, rfl, rfl, show (-n).toNat < 10 ^ 20 by omega, [], ⟨rfl, rfl, fun j h => absurd h (by simp)⟩, by simp⟩
  case round =>
    obtain ⟨m, u, arr, hm4, hm, hu, rfl, rfl, rfl, hlt, hbuf⟩ := hrel
    by_cases hu0 : 0 < u
    · have hm5 := pow_big hlt.out hu0
      obtain ⟨v, hc⟩ : ∃ v, (w.alloc (.cells arr 28)).cell? ⟨w.heap.size, m - 1, none⟩ = some v := by
        obtain ⟨ds, ht, _⟩ := hbuf
        exact cell_there ht (by omega) w
      have R := hbuf.step (by omega) hu0
      have L : Hid (u / 10 < 10 ^ (m - 1 - 4)) := pow_step hlt.out hm5
      go_wp2
      go_roundw
      case rel => exact ⟨m - 1, u / 10, _, by omega, by omega, by omega, by go_num, by go_num, rfl, L, R⟩
      case measure => simp [intOf]; omega
    · obtain rfl : u = 0 := by omega
      have T := hbuf.done
      obtain ⟨v, hc⟩ := cell_there T (by omega) w
      have T2 := T.push (by omega) 45 45 rfl
      have hm24 := T.lt hne
      have hsl := slice_at' w.heap.size (m - 1) ((m : Int) - 1) (by omega) (by omega)
      have hcv := conv_buf T2 w
      go_wp2
      go_ret
      exact ⟨_, rfl, toL_nums (45 :: dg (-n).toNat), (Below.refl _ _).alloc (Nat.le_refl _) _⟩

theorem itoa_any (n : Int) (w : World) (h0 : -9223372036854775808 ≤ n) (h1 : n ≤ 9223372036854775807) :
    Calls Tryd.prog 9 #[.int .i64 n] w fun e w' => ∃ b, e = .returned (.string b) ∧ toL b = itoaL n ∧ Below w.heap.size w w' := by
  by_cases hz : n = 0
  · subst hz
    go_enter Tryd.func9, Tryd.ntmps9
    go_wp2
    go_ret
    exact ⟨_, rfl, rfl, Below.refl _ _⟩
  · unfold itoaL
    rw [if_neg hz]
    by_cases hn : n < 0
    · rw [if_pos hn]; exact itoa_neg n w hn h0
    · rw [if_neg hn]; exact itoa_pos n w (by omega) h1
end Go.Proofs.Qxb6619765aDoor
