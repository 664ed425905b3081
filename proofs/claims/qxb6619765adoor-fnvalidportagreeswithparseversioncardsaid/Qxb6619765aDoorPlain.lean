/-
  PLAIN MATHEMATICS of seat b6619765aD: decimal digits. No Go in sight.
-/
namespace Go.Proofs.Qxb6619765aDoor.Plain

def toL (s : ByteArray) : List UInt8 := s.data.toList
def isD (c : UInt8) : Bool := decide (48 ≤ (c.toNat : Int) ∧ (c.toNat : Int) ≤ 57)
def dv (c : UInt8) : Int := (c.toNat : Int) - 48
/-- the number that a row of digits stands for -/
def val (l : List UInt8) : Int := l.foldl (fun n c => n * 10 + dv c) 0
/-- the digits of a number, none for nought -/
def dg (n : Nat) : List UInt8 := if _h : n = 0 then [] else dg (n / 10) ++ [UInt8.ofNat (48 + n % 10)]
/-- ParseVersion: what it accepts, what it answers -/
def pvOk (l : List UInt8) : Bool := decide (1 ≤ l.length) && decide (l.length ≤ 9) && !(l.headD 0 == 48) && l.all isD
def pvN (l : List UInt8) : Int := if pvOk l then val l else 0

theorem val_nil : val [] = 0 := rfl
theorem val_snoc (l : List UInt8) (c : UInt8) : val (l ++ [c]) = val l * 10 + dv c := by simp [val]
theorem dg_zero : dg 0 = [] := by unfold dg; simp
theorem dg_pos {n : Nat} (h : 0 < n) : dg n = dg (n / 10) ++ [UInt8.ofNat (48 + n % 10)] := by
  conv => lhs; unfold dg
  rw [dif_neg (by omega)]
theorem isD_dv {c : UInt8} (h : isD c = true) : 0 ≤ dv c ∧ dv c ≤ 9 := by
  unfold isD at h; unfold dv; simp at h; omega

theorem val_cons_gen (l : List UInt8) : ∀ n : Int, l.foldl (fun n c => n * 10 + dv c) n = n * 10 ^ l.length + val l := by
  induction l with
  | nil => intro n; simp [val]
  | cons c r ih =>
    intro n
    unfold val
    simp only [List.foldl_cons, List.length_cons]
    rw [ih, ih]
    rw [Int.pow_succ, Int.add_mul, Int.zero_mul, Int.zero_add, Int.mul_assoc, Int.mul_comm 10 (10 ^ r.length), Int.add_assoc]
theorem val_cons (c : UInt8) (r : List UInt8) : val (c :: r) = dv c * 10 ^ r.length + val r := by
  conv => lhs; unfold val
  simp only [List.foldl_cons]
  rw [val_cons_gen]; simp
theorem val_bd (l : List UInt8) (h : l.all isD = true) : 0 ≤ val l ∧ val l < 10 ^ l.length := by
  induction l with
  | nil => simp [val]
  | cons c r ih =>
    simp only [List.all_cons, Bool.and_eq_true] at h
    have hr := ih h.2
    have hc := isD_dv h.1
    rw [val_cons, List.length_cons, Int.pow_succ]
    have hp : (0 : Int) ≤ 10 ^ r.length := Int.pow_nonneg (by decide)
    have h1 : 0 ≤ dv c * 10 ^ r.length := Int.mul_nonneg hc.1 hp
    have h2 : dv c * 10 ^ r.length ≤ 9 * 10 ^ r.length := Int.mul_le_mul_of_nonneg_right hc.2 hp
    omega
theorem pow_le9 {k : Nat} (h : k ≤ 9) : (10 : Int) ^ k ≤ 1000000000 := by
  match k, h with
  | 0, _ | 1, _ | 2, _ | 3, _ | 4, _ | 5, _ | 6, _ | 7, _ | 8, _ | 9, _ => decide

/-- Digits behind a first one that is not '0' are the canonical decimal of their number. -/
theorem dg_snoc {n : Int} {c : UInt8} (hn : 0 ≤ n) (hc : isD c = true) (h : 0 < n * 10 + dv c) : dg (n * 10 + dv c).toNat = dg n.toNat ++ [c] := by
  have hd := isD_dv hc
  rw [dg_pos (by omega)]
  have h1 : (n * 10 + dv c).toNat / 10 = n.toNat := by omega
  have h2 : (n * 10 + dv c).toNat % 10 = (dv c).toNat := by omega
  rw [h1, h2]
  have h3 : UInt8.ofNat (48 + (dv c).toNat) = c := by
    apply UInt8.toNat_inj.1
    unfold dv at *
    simp [UInt8.toNat_ofNat']
    have := c.toNat_lt
    omega
  rw [h3]

theorem list_snoc_ind {P : List UInt8 → Prop} (h0 : P []) (h1 : ∀ l c, P l → P (l ++ [c])) : ∀ l, P l := by
  intro l
  have : ∀ r : List UInt8, P r.reverse := by
    intro r
    induction r with
    | nil => exact h0
    | cons c r ih => rw [List.reverse_cons]; exact h1 _ _ ih
  simpa using this l.reverse

theorem canon (l : List UInt8) : l ≠ [] → l.headD 0 ≠ 48 → l.all isD = true → 0 < val l ∧ dg (val l).toNat = l := by
  induction l using list_snoc_ind with
  | h0 => intro h; exact absurd rfl h
  | h1 l c ih =>
    intro _ hh ha
    rw [List.all_append, Bool.and_eq_true] at ha
    have hc : isD c = true := by simpa using ha.2
    have hd := isD_dv hc
    rw [val_snoc]
    match l, ih, hh, ha.1 with
    | [], _, hh, _ =>
      have hne : c ≠ 48 := by simpa using hh
      have : 0 < dv c := by
        unfold dv at *
        have : c.toNat ≠ 48 := fun e => hne (UInt8.toNat_inj.1 (by simpa using e))
        omega
      have hp : 0 < val [] * 10 + dv c := by rw [val_nil]; omega
      exact ⟨hp, by rw [dg_snoc (by rw [val_nil]; omega) hc hp, val_nil]; simp [dg_zero]⟩
    | x :: r, ih, hh, ha =>
      have h := ih (by simp) (by simpa using hh) ha
      have hp : 0 < val (x :: r) * 10 + dv c := by omega
      exact ⟨hp, by rw [dg_snoc (by omega) hc hp, h.2]⟩

/-- The digits of a number that is not nought: digits all, and the first is not '0'. -/
theorem dg_head (n : Nat) (h : 0 < n) : dg n ≠ [] ∧ (dg n).headD 0 ≠ 48 ∧ (dg n).all isD = true ∧ val (dg n) = n := by
  induction n using Nat.strongRecOn with
  | ind n ih =>
    have hlast : isD (UInt8.ofNat (48 + n % 10)) = true ∧ dv (UInt8.ofNat (48 + n % 10)) = ((n % 10 : Nat) : Int) := by
      have : (UInt8.ofNat (48 + n % 10)).toNat = 48 + n % 10 := by simp [UInt8.toNat_ofNat']; omega
      unfold isD dv
      rw [this]
      simp; omega
    rw [dg_pos h]
    by_cases h10 : n / 10 = 0
    · rw [h10, dg_zero]
      have hlt : n < 10 := by omega
      have hm : n % 10 = n := Nat.mod_eq_of_lt hlt
      refine ⟨by simp, ?_, by simpa using hlast.1, ?_⟩
      · simp only [List.nil_append, List.headD_cons]
        intro e
        have := hlast.2
        rw [e] at this
        simp [dv] at this
        omega
      · rw [List.nil_append, show [UInt8.ofNat (48 + n % 10)] = [] ++ [UInt8.ofNat (48 + n % 10)] from rfl, val_snoc, val_nil, hlast.2]
        omega
    · obtain ⟨h1, h2, h3, h4⟩ := ih (n / 10) (by omega) (by omega)
      refine ⟨by simp, ?_, ?_, ?_⟩
      · match hd : dg (n / 10), h1 with
        | x :: r, _ => rw [hd] at h2; simpa using h2
      · rw [List.all_append, h3]; simpa using hlast.1
      · rw [val_snoc, h4, hlast.2]; omega
end Go.Proofs.Qxb6619765aDoor.Plain
