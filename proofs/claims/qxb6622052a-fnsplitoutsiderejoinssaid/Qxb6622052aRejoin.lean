/-
  The contract of rejoinsB1 (11).
-/
import Derived.Test.Qxb6622052aPrefix
namespace Go.Proofs.Qxb6622052a
open Go.RowKit Plain
set_option linter.unusedVariables false

def restJ (sb : UInt8) (P : List (List UInt8)) (k : Nat) : List UInt8 :=
  if k = 0 then P.headD [] ++ tailJ sb P.tail else tailJ sb (P.drop k)

theorem rj_first {sb : UInt8} {s : ByteArray} {xs : List ByteArray} {pos : Nat} (h : (toL s).drop pos = restJ sb (xs.map toL) 0) (hk : 0 < xs.length) :
    (toL s).drop pos = toL xs[0] ++ restJ sb (xs.map toL) 1 := by
  match xs, hk with
  | x :: xs, _ => rw [h]; simp [restJ]
theorem rj_zero {sb : UInt8} {s : ByteArray} {xs : List ByteArray} {pos k : Nat} (h : (toL s).drop pos = restJ sb (xs.map toL) k) (h0 : ¬ 0 < k) (hk : k < xs.length) :
    (toL s).drop pos = toL xs[k] ++ restJ sb (xs.map toL) (k + 1) := by
  obtain rfl : k = 0 := by omega
  exact rj_first h hk
theorem rj_next {sb : UInt8} {s : ByteArray} {xs : List ByteArray} {pos k : Nat} (h : (toL s).drop pos = restJ sb (xs.map toL) k) (h0 : 0 < k) (hk : k < xs.length) :
    ∃ hp : pos < s.size, s[pos] = sb ∧ (toL s).drop (pos + 1) = toL xs[k] ++ restJ sb (xs.map toL) (k + 1) := by
  have hk' : k < (xs.map toL).length := by simpa using hk
  unfold restJ at *
  rw [if_neg (by omega), List.drop_eq_getElem_cons hk'] at h
  rw [if_neg (by omega)]
  simp only [tailJ, List.getElem_map] at h
  have hp : pos < (toL s).length := by
    rcases Nat.lt_or_ge pos (toL s).length with h' | h'
    · exact h'
    · rw [List.drop_eq_nil_of_le h'] at h; simp at h
  have hp' : pos < s.size := by rw [toL_len] at hp; exact hp
  rw [drop_cons _ _ hp, toL_get s pos hp' hp] at h
  simp only [List.cons.injEq] at h
  exact ⟨hp', h.1, h.2⟩
theorem rj_fits {s p : ByteArray} {q : Nat} {T : List UInt8} (h : (toL s).drop q = toL p ++ T) (hq : q ≤ s.size) :
    q + p.size ≤ s.size ∧ (∀ j (h1 : j < p.size) (h2 : q + j < s.size), s[q + j] = p[j]) ∧ (toL s).drop (q + p.size) = T := by
  have hl := congrArg List.length h
  simp only [List.length_drop, List.length_append, toL_len] at hl
  refine ⟨by omega, ?_, ?_⟩
  · intro j h1 h2
    have h1' : j < (toL p).length := by rw [toL_len]; exact h1
    have h2' : q + j < (toL s).length := by rw [toL_len]; exact h2
    have e : ((toL s).drop q)[j]? = (toL p ++ T)[j]? := by rw [h]
    rw [List.getElem?_drop, List.getElem?_eq_getElem h2', List.getElem?_append_left h1', List.getElem?_eq_getElem h1', toL_get s _ h2 h2', toL_get p _ h1 h1'] at e
    exact Option.some.inj e
  · rw [← List.drop_drop, h, ← toL_len p, List.drop_left]
theorem rj_over {sb : UInt8} {s : ByteArray} {xs : List ByteArray} {pos k : Nat} (h : (toL s).drop pos = restJ sb (xs.map toL) k) (h0 : 0 < xs.length) (hk : xs.length ≤ k) (hp : pos ≤ s.size) : s.size ≤ pos := by
  unfold restJ at h
  rw [if_neg (by omega), List.drop_eq_nil_of_le (show (xs.map toL).length ≤ k by simpa using hk)] at h
  have := congrArg List.length h
  simp only [List.length_drop, toL_len, tailJ, List.length_nil] at this
  omega

theorem index_at (s : ByteArray) (i : Int) (n : Nat) (hi : i = n) (hn : n < s.size) : ∀ W : World, Sem.run Try.prog (Instr.index 9 (.string s) (.int .i64 i)) W = .ok (.int .u8 s[n].toNat) W := by
  intro W
  subst hi
  rw [run_index_string W 9 s .i64 _ Try.underlying9, dif_pos (by omega)]
  simp

set_option maxHeartbeats 1000000 in
theorem rejoin_any (xs : List ByteArray) (x c : Nat) (sep : Int) (sb : UInt8) (s : ByteArray) (w : World) (R : RowAt w x xs) (h0 : 0 < xs.length) (m1 : xs.length ≤ 9223372036854775807) (hs : s.size ≤ 1048576)
    (hsb : Hid ((sb.toNat : Int) = sep)) (hJ : Hid (toL s = restJ sb (xs.map toL) 0)) :
    Calls Try.prog 11 #[.slice (some ⟨x, 0, none⟩) xs.length c, .int .u8 sep, .string s] w fun e w' => e = .returned (.bool true) ∧ ∃ n, w' = w.drewN n := by
  go_enter Try.func11, Try.ntmps11
  go_wp2
  go_loopw [7, 8] (fun up uk wr => ∃ k pos n : Nat, k ≤ xs.length ∧ pos ≤ s.size ∧ uk = .int .i64 k ∧ up = .int .i64 pos ∧ wr = w.drewN n ∧ Hid ((toL s).drop pos = restJ sb (xs.map toL) k)) (fun _ i _ => xs.length - (intOf i).toNat)
  case atStart => exact ⟨0, 0, 0, Nat.zero_le _, Nat.zero_le _, rfl, rfl, rfl, show (toL s).drop 0 = _ by simpa using hJ.out⟩
  case round =>
    obtain ⟨k, pos, n, hk, hpos, rfl, rfl, rfl, hr⟩ := hrel
    by_cases hlt : k < xs.length
    · have c1 := R k hlt
      obtain ⟨p, hp⟩ : ∃ p, p = xs[k] := ⟨_, rfl⟩
      rw [← hp] at c1
      have HP : Hid (p = xs[k]) := hp
      clear hp
      have i1 : (k : Int) < (xs.length : Int) := by omega
      by_cases hk0 : 0 < k
      · have hx := rj_next hr.out hk0 hlt
        rw [← HP.out] at hx
        obtain ⟨hp', hb, hm⟩ := hx
        have heq : ((s[pos].toNat : Int) != sep) = false := by rw [hb, hsb.out]; simp
        obtain ⟨f1, f2, f3⟩ := rj_fits hm (by omega)
        have F2 : Hid (∀ j (h1 : j < p.size) (h2 : pos + 1 + j < s.size), s[pos + 1 + j] = p[j]) := f2
        have F3 : Hid ((toL s).drop (pos + 1 + p.size) = restJ sb (xs.map toL) (k + 1)) := f3
        clear f2 f3 hb hm
        go_wp2
        go_loopw [10] (fun i wr => ∃ j m : Nat, j ≤ p.size ∧ i = .int .i64 j ∧ wr = w.drewN m) (fun i _ => p.size - (intOf i).toNat)
        case atStart => exact ⟨0, n, Nat.zero_le _, rfl, rfl⟩
        case round =>
          obtain ⟨j, m, hj, rfl, rfl⟩ := hrel
          by_cases hlj : j < p.size
          · have h2 : pos + 1 + j < s.size := by omega
            have e1 : ((s[pos + 1 + j].toNat : Int) != (p[j].toNat : Int)) = false := by rw [F2.out j hlj h2]; simp
            have b1 := index_at s ((pos : Int) + 1 + (j : Int)) (pos + 1 + j) (by omega) h2
            have b2 : (j : Int) < (p.size : Int) := by omega
            go_wp2
            go_quiet (fail)
            go_wp2
            go_roundw
            case rel => exact ⟨j + 1, _, by omega, by go_num, rfl⟩
            case measure => simp [intOf]; omega
          · go_wp2
            go_roundw
            case rel => exact ⟨k + 1, pos + 1 + p.size, m, by omega, by omega, by go_num, by go_num, rfl, F3⟩
            case measure => simp [intOf]; omega
      · have hm := rj_zero hr.out hk0 hlt
        rw [← HP.out] at hm
        obtain ⟨f1, f2, f3⟩ := rj_fits hm hpos
        have F2 : Hid (∀ j (h1 : j < p.size) (h2 : pos + j < s.size), s[pos + j] = p[j]) := f2
        have F3 : Hid ((toL s).drop (pos + p.size) = restJ sb (xs.map toL) (k + 1)) := f3
        clear f2 f3 hm
        go_wp2
        go_loopw [10] (fun i wr => ∃ j m : Nat, j ≤ p.size ∧ i = .int .i64 j ∧ wr = w.drewN m) (fun i _ => p.size - (intOf i).toNat)
        case atStart => exact ⟨0, n, Nat.zero_le _, rfl, rfl⟩
        case round =>
          obtain ⟨j, m, hj, rfl, rfl⟩ := hrel
          by_cases hlj : j < p.size
          · have h2 : pos + j < s.size := by omega
            have e1 : ((s[pos + j].toNat : Int) != (p[j].toNat : Int)) = false := by rw [F2.out j hlj h2]; simp
            have b1 := index_at s ((pos : Int) + (j : Int)) (pos + j) (by omega) h2
            have b2 : (j : Int) < (p.size : Int) := by omega
            go_wp2
            go_quiet (fail)
            go_wp2
            go_roundw
            case rel => exact ⟨j + 1, _, by omega, by go_num, rfl⟩
            case measure => simp [intOf]; omega
          · go_wp2
            go_roundw
            case rel => exact ⟨k + 1, pos + p.size, m, by omega, by omega, by go_num, by go_num, rfl, F3⟩
            case measure => simp [intOf]; omega
    · have := rj_over hr.out h0 (by omega) hpos
      go_wp2
      go_ret
      exact ⟨ret_bool (by simp; omega), _, rfl⟩
end Go.Proofs.Qxb6622052a
