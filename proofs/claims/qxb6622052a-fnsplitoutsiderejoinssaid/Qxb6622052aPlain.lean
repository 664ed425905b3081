/-
  PLAIN MATHEMATICS of seat b6622052a: splitting a list of bytes outside quotes and angles. No Go in sight.
-/
namespace Go.Proofs.Qxb6622052a.Plain

/-- The bytes of a string as a list. -/
def toL (s : ByteArray) : List UInt8 := s.data.toList

/-- The bytes from 'st' to 'k'. -/
def sub (l : List UInt8) (st k : Nat) : List UInt8 := (l.take k).drop st

/-- splitOutside as a machine over the bytes: q quoted, e escaped, g inside angles, 'cur' the field in hand. -/
def sp (sep : Int) (an : Bool) : Bool → Bool → Bool → List UInt8 → List UInt8 → List (List UInt8)
  | _, _, _, cur, [] => [cur]
  | q, e, g, cur, c :: r =>
    if e = true then sp sep an q false g (cur ++ [c]) r
    else if q = true ∧ (c.toNat : Int) = 92 then sp sep an q true g (cur ++ [c]) r
    else if (c.toNat : Int) = 34 then sp sep an (!q) e g (cur ++ [c]) r
    else if q = true then sp sep an q e g (cur ++ [c]) r
    else if an = true ∧ (c.toNat : Int) = 60 then sp sep an q e true (cur ++ [c]) r
    else if an = true ∧ (c.toNat : Int) = 62 then sp sep an q e false (cur ++ [c]) r
    else if (c.toNat : Int) = sep ∧ g = false then cur :: sp sep an q e g [] r
    else sp sep an q e g (cur ++ [c]) r

/-- plainSplit: cut at every sep. -/
def pl (sep : Int) : List UInt8 → List UInt8 → List (List UInt8)
  | cur, [] => [cur]
  | cur, c :: r => if (c.toNat : Int) = sep then cur :: pl sep [] r else pl sep (cur ++ [c]) r

def hasB (x : Int) (l : List UInt8) : Bool := l.any fun c => decide ((c.toNat : Int) = x)
def cntB (x : Int) (l : List UInt8) : Nat := l.countP fun c => decide ((c.toNat : Int) = x)

/-- The bytes behind the first field: each further field with sep ahead of it. -/
def tailJ (sb : UInt8) : List (List UInt8) → List UInt8
  | [] => []
  | p :: ps => sb :: (p ++ tailJ sb ps)

theorem sp_nil (sep : Int) (an q e g : Bool) (cur : List UInt8) : sp sep an q e g cur [] = [cur] := by
  simp [sp]

theorem sp_join (sep : Int) (an : Bool) (sb : UInt8) (hs : (sb.toNat : Int) = sep) (l : List UInt8) :
    ∀ (q e g : Bool) (cur : List UInt8), ∃ p ps, sp sep an q e g cur l = p :: ps ∧ cur ++ l = p ++ tailJ sb ps := by
  induction l with
  | nil => intro q e g cur; exact ⟨cur, [], by simp [sp], by simp [tailJ]⟩
  | cons c r ih =>
    intro q e g cur
    have keep : ∀ q' e' g', ∃ p ps, sp sep an q' e' g' (cur ++ [c]) r = p :: ps ∧ cur ++ c :: r = p ++ tailJ sb ps := by
      intro q' e' g'
      obtain ⟨p, ps, h1, h2⟩ := ih q' e' g' (cur ++ [c])
      exact ⟨p, ps, h1, by rw [← h2]; simp⟩
    unfold sp
    split
    · exact keep _ _ _
    split
    · exact keep _ _ _
    split
    · exact keep _ _ _
    split
    · exact keep _ _ _
    split
    · exact keep _ _ _
    split
    · exact keep _ _ _
    split
    · next h =>
      obtain ⟨p, ps, h1, h2⟩ := ih q e g []
      have hc : c = sb := UInt8.toNat_inj.1 (by omega)
      refine ⟨cur, p :: ps, by rw [h1], ?_⟩
      simp only [List.nil_append] at h2
      simp [tailJ, hc, ← h2]
    · exact keep _ _ _

theorem cntB_cons (x : Int) (c : UInt8) (r : List UInt8) : cntB x (c :: r) = cntB x r + if (c.toNat : Int) = x then 1 else 0 := by
  unfold cntB; rw [List.countP_cons]; simp

theorem sp_count (sep : Int) (an : Bool) (l : List UInt8) : ∀ (q e g : Bool) (cur : List UInt8), (sp sep an q e g cur l).length ≤ cntB sep l + 1 := by
  induction l with
  | nil => intro q e g cur; simp [sp]
  | cons c r ih =>
    intro q e g cur
    rw [cntB_cons]
    have keep : ∀ q' e' g', (sp sep an q' e' g' (cur ++ [c]) r).length ≤ (cntB sep r + if (c.toNat : Int) = sep then 1 else 0) + 1 := by
      intro q' e' g'
      have := ih q' e' g' (cur ++ [c])
      omega
    unfold sp
    split
    · exact keep _ _ _
    split
    · exact keep _ _ _
    split
    · exact keep _ _ _
    split
    · exact keep _ _ _
    split
    · exact keep _ _ _
    split
    · exact keep _ _ _
    split
    · next h =>
      have := ih q e g []
      rw [if_pos h.1]
      simp only [List.length_cons]
      omega
    · exact keep _ _ _

theorem hasB_cons {x : Int} {c : UInt8} {r : List UInt8} (h : hasB x (c :: r) = false) : (c.toNat : Int) ≠ x ∧ hasB x r = false := by
  unfold hasB at *
  simp only [List.any_cons, Bool.or_eq_false_iff, decide_eq_false_iff_not] at h
  exact h

theorem sp_plain (sep : Int) (an : Bool) (l : List UInt8) (h34 : hasB 34 l = false) (h60 : an = true → hasB 60 l = false) (h62 : an = true → hasB 62 l = false) :
    ∀ (cur : List UInt8), (sp sep an false false false cur l).length = cntB sep l + 1 := by
  induction l with
  | nil => intro cur; simp [sp, cntB]
  | cons c r ih =>
    intro cur
    have a34 := hasB_cons h34
    have ih' := ih a34.2 (fun h => (hasB_cons (h60 h)).2) (fun h => (hasB_cons (h62 h)).2)
    have n60 : ¬ (an = true ∧ (c.toNat : Int) = 60) := fun h => (hasB_cons (h60 h.1)).1 h.2
    have n62 : ¬ (an = true ∧ (c.toNat : Int) = 62) := fun h => (hasB_cons (h62 h.1)).1 h.2
    rw [cntB_cons]
    unfold sp
    rw [if_neg (by simp), if_neg (by simp), if_neg a34.1, if_neg (by simp), if_neg n60, if_neg n62]
    split
    · next h => rw [if_pos h.1, List.length_cons, ih']
    · next h =>
      rw [if_neg (fun e => h ⟨e, rfl⟩), ih']

theorem sp_prefix (sep : Int) (an : Bool) (sb : UInt8) (hs : (sb.toNat : Int) = sep) (n34 : sep ≠ 34) (n60 : an = true → sep ≠ 60) (n62 : an = true → sep ≠ 62) (b : List UInt8) (a : List UInt8) (h34 : hasB 34 a = false) (h60 : an = true → hasB 60 a = false) :
    ∀ (cur : List UInt8), sp sep an false false false cur (a ++ sb :: b) = pl sep cur a ++ sp sep an false false false [] b := by
  induction a with
  | nil =>
    intro cur
    simp only [List.nil_append, pl, List.singleton_append]
    conv => lhs; unfold sp
    rw [if_neg (by simp), if_neg (by simp), if_neg (by omega), if_neg (by simp), if_neg (fun h => n60 h.1 (by omega)), if_neg (fun h => n62 h.1 (by omega)), if_pos ⟨hs, rfl⟩]
  | cons c r ih =>
    intro cur
    have a34 := hasB_cons h34
    have ih' := ih a34.2 (fun h => (hasB_cons (h60 h)).2)
    have m60 : ¬ (an = true ∧ (c.toNat : Int) = 60) := fun h => (hasB_cons (h60 h.1)).1 h.2
    simp only [List.cons_append]
    conv => lhs; unfold sp
    rw [if_neg (by simp), if_neg (by simp), if_neg a34.1, if_neg (by simp), if_neg m60]
    conv => rhs; unfold pl
    by_cases hc : (c.toNat : Int) = sep
    · rw [if_neg (fun h => n62 h.1 (by omega)), if_pos ⟨hc, rfl⟩, if_pos hc, ih']
      rfl
    · rw [if_neg hc]
      split
      · exact ih' _
      · rw [if_neg (fun h => hc h.1)]; exact ih' _

/-! ### The bytes one by one -/
theorem sub_self (l : List UInt8) (k : Nat) : sub l k k = [] := by
  unfold sub; apply List.drop_eq_nil_of_le; simp; omega
theorem sub_zero (l : List UInt8) : sub l 0 0 = [] := sub_self l 0
theorem sub_all (l : List UInt8) (st k : Nat) (h : l.length ≤ k) : sub l st k = l.drop st := by
  unfold sub; rw [List.take_of_length_le h]
theorem sub_snoc (l : List UInt8) (st k : Nat) (hst : st ≤ k) (hk : k < l.length) : sub l st (k + 1) = sub l st k ++ [l[k]] := by
  unfold sub
  rw [List.take_succ_eq_append_getElem hk, List.drop_append_of_le_length (by simp; omega)]
theorem sub_app (l : List UInt8) (i j k : Nat) (hij : i ≤ j) (hjk : j ≤ k) : sub l i j ++ sub l j k = sub l i k := by
  unfold sub
  by_cases hj : j ≤ l.length
  · rw [← List.drop_append_of_le_length (by simp; omega)]
    congr 1
    have : l.take j = (l.take k).take j := by rw [List.take_take, Nat.min_eq_left hjk]
    rw [this, List.take_append_drop]
  · rw [List.take_of_length_le (by omega), List.take_of_length_le (by omega)]
    rw [List.drop_eq_nil_of_le (i := j) (by omega)]; simp
theorem drop_cons (l : List UInt8) (k : Nat) (hk : k < l.length) : l.drop k = l[k] :: l.drop (k + 1) := List.drop_eq_getElem_cons hk

/-! ### One byte's step of 'sp', by its tests as the walk spells them -/
section
variable {sep : Int} {an q e g : Bool} {c : UInt8} {cur r : List UInt8}
theorem st_esc : sp sep an q true g cur (c :: r) = sp sep an q false g (cur ++ [c]) r := by
  conv => lhs; unfold sp
  rw [if_pos rfl]
theorem st_bs (h92 : ((c.toNat : Int) == 92) = true) : sp sep an true false g cur (c :: r) = sp sep an true true g (cur ++ [c]) r := by
  have h : (c.toNat : Int) = 92 := by simpa using h92
  conv => lhs; unfold sp
  rw [if_neg (by simp), if_pos ⟨rfl, h⟩]
theorem st_quote (h34 : ((c.toNat : Int) == 34) = true) : sp sep an q false g cur (c :: r) = sp sep an (!q) false g (cur ++ [c]) r := by
  have h : (c.toNat : Int) = 34 := by simpa using h34
  conv => lhs; unfold sp
  rw [if_neg (by simp), if_neg (by omega), if_pos h]
theorem st_inq (h92 : ((c.toNat : Int) == 92) = false) (h34 : ((c.toNat : Int) == 34) = false) : sp sep an true false g cur (c :: r) = sp sep an true false g (cur ++ [c]) r := by
  have h : ¬ (c.toNat : Int) = 92 := by simpa using h92
  have h' : ¬ (c.toNat : Int) = 34 := by simpa using h34
  conv => lhs; unfold sp
  rw [if_neg (by simp), if_neg (by omega), if_neg h', if_pos rfl]
theorem st_lt (h34 : ((c.toNat : Int) == 34) = false) (h60 : ((c.toNat : Int) == 60) = true) : sp sep true false false g cur (c :: r) = sp sep true false false true (cur ++ [c]) r := by
  have h : ¬ (c.toNat : Int) = 34 := by simpa using h34
  have h' : (c.toNat : Int) = 60 := by simpa using h60
  conv => lhs; unfold sp
  rw [if_neg (by simp), if_neg (by simp), if_neg h, if_neg (by simp), if_pos ⟨rfl, h'⟩]
theorem st_gt (h34 : ((c.toNat : Int) == 34) = false) (h62 : ((c.toNat : Int) == 62) = true) : sp sep true false false g cur (c :: r) = sp sep true false false false (cur ++ [c]) r := by
  have h : ¬ (c.toNat : Int) = 34 := by simpa using h34
  have h' : (c.toNat : Int) = 62 := by simpa using h62
  conv => lhs; unfold sp
  rw [if_neg (by simp), if_neg (by simp), if_neg h, if_neg (by simp), if_neg (by omega), if_pos ⟨rfl, h'⟩]
theorem st_cut (h34 : ((c.toNat : Int) == 34) = false) (h60 : an = true → ((c.toNat : Int) == 60) = false) (h62 : an = true → ((c.toNat : Int) == 62) = false) (hs : ((c.toNat : Int) == sep) = true) :
    sp sep an false false false cur (c :: r) = cur :: sp sep an false false false [] r := by
  have h : ¬ (c.toNat : Int) = 34 := by simpa using h34
  conv => lhs; unfold sp
  rw [if_neg (by simp), if_neg (by simp), if_neg h, if_neg (by simp), if_neg (fun k => by simpa [k.2] using h60 k.1), if_neg (fun k => by simpa [k.2] using h62 k.1), if_pos ⟨by simpa using hs, rfl⟩]
theorem st_keep (h34 : ((c.toNat : Int) == 34) = false) (h60 : an = true → ((c.toNat : Int) == 60) = false) (h62 : an = true → ((c.toNat : Int) == 62) = false) (hs : ((c.toNat : Int) == sep) = false ∨ g = true) :
    sp sep an false false g cur (c :: r) = sp sep an false false g (cur ++ [c]) r := by
  have h : ¬ (c.toNat : Int) = 34 := by simpa using h34
  conv => lhs; unfold sp
  rw [if_neg (by simp), if_neg (by simp), if_neg h, if_neg (by simp), if_neg (fun k => by simpa [k.2] using h60 k.1), if_neg (fun k => by simpa [k.2] using h62 k.1), if_neg]
  rintro ⟨k1, k2⟩
  rcases hs with hs | hs
  · simp [k1] at hs
  · rw [hs] at k2; cases k2
end
end Go.Proofs.Qxb6622052a.Plain
