/-
  THE PROOF OF 'Rows.FnParseVersionAppendDigitSaid': the guide's frame (proof-skeleton.mjs) with the walk filled; the world behind the call is told by 'Below'.
-/
import Derived.Test.Qxb6619765aAppend
import Derived.ProofKit
import Derived.OpenShut
import Derived.ShutString
import Derived.ChangeOld
import Derived.Below
namespace Go.Proofs.Qxb6619765a.fnParseVersionAppendDigit
open Go.ChangeShapes Go.WideShapes Go.ChangeAt Go.RowKit
open Go.ChangeMaps (open_string shut_string)
open Plain
set_option linter.unusedVariables false

theorem own : ownKnob Try.prog.godebug = none := by kernel_rfl

theorem byte_of {c : Int} (h0 : 0 ≤ c) (h1 : c ≤ 255) : ((UInt8.ofNat c.toNat).toNat : Int) = c := by
  simp [UInt8.toNat_ofNat']; omega
theorem toL_app (s : ByteArray) (c : Int) : toL (strOfNums (appN s c)) = toL s ++ [UInt8.ofNat c.toNat] := by
  simp [toL, strOfNums, appN, List.map_map, Function.comp_def]
theorem isD_byte {c : Int} (h0 : 0 ≤ c) (h1 : c ≤ 255) (h : 48 ≤ c ∧ c ≤ 57) : isD (UInt8.ofNat c.toNat) = true := isD_yes (by rw [byte_of h0 h1]; exact h)
theorem isD_byte_no {c : Int} (h0 : 0 ≤ c) (h1 : c ≤ 255) (h : ¬ (48 ≤ c ∧ c ≤ 57)) : isD (UInt8.ofNat c.toNat) = false := isD_no (by rw [byte_of h0 h1]; exact h)
theorem dv_byte {c : Int} (h0 : 0 ≤ c) (h1 : c ≤ 255) : dv (UInt8.ofNat c.toNat) = c - 48 := by unfold dv; rw [byte_of h0 h1]
theorem nil_of {s : ByteArray} (h : s.size = 0) : toL s = [] := List.eq_nil_of_length_eq_zero (by rw [toL_len]; exact h)
theorem ne_nil {s : ByteArray} (h : ¬ s.size = 0) : toL s ≠ [] := fun e => h (by rw [← toL_len, e]; rfl)
theorem pvN_no {l : List UInt8} (h : pvOk l = false) : pvN l = 0 := by simp [pvN, h]
theorem pvN_yes {l : List UInt8} (h : pvOk l = true) : pvN l = val l := by simp [pvN, h]

theorem law (s : ByteArray) (c : Int) (h0 : 0 ≤ c) (h1 : c ≤ 255) :
    AppLaw s c (pvN (toL s)) (pvN (toL s ++ [UInt8.ofNat c.toNat])) (pvOk (toL s)) (pvOk (toL s ++ [UInt8.ofNat c.toNat])) := by
  have refuse : pvOk (toL s ++ [UInt8.ofNat c.toNat]) = false → pvN (toL s ++ [UInt8.ofNat c.toNat]) = 0 := pvN_no
  unfold AppLaw
  by_cases hd : 48 ≤ c ∧ c ≤ 57
  · by_cases hz : s.size = 0
    · have hl := nil_of hz
      have hok : pvOk (toL s) = false := by rw [hl]; decide
      have ez : ((s.size : Int) == 0) = true := by rw [hz]; rfl
      by_cases h48 : c = 48
      · have e : pvOk (toL s ++ [UInt8.ofNat c.toNat]) = false := by rw [hl, h48]; exact app_zero
        exact .inr (.inr (.inr (.inr (.inr (.inr ⟨hd.1, hd.2, hok, ez, by simp [h48], refuse e, e⟩)))))
      · have hne : UInt8.ofNat c.toNat ≠ 48 := fun e => h48 (by have := byte_of h0 h1; rw [e] at this; simpa using this.symm)
        have h := app_one (isD_byte h0 h1 hd) hne
        have e1 : pvOk (toL s ++ [UInt8.ofNat c.toNat]) = true := by rw [hl]; exact h.1
        have e2 : pvN (toL s ++ [UInt8.ofNat c.toNat]) = c - 48 := by rw [pvN_yes e1, hl, List.nil_append, h.2, dv_byte h0 h1]
        exact .inr (.inl ⟨hd.1, hd.2, hok, ez, by simpa using h48, e2, e1⟩)
    · have ez : ((s.size : Int) == 0) = false := beq_eq_false_iff_ne.2 (by omega)
      cases hok : pvOk (toL s)
      · have e := app_refused (c := UInt8.ofNat c.toNat) hok (ne_nil hz)
        exact .inr (.inr (.inr (.inr (.inl ⟨hd.1, hd.2, rfl, ez, refuse e, e⟩))))
      · have hN := pvN_yes hok
        have hb := (val_bd _ ((pvOk_iff _).1 hok).2.2.2).1
        by_cases hv : val (toL s) ≤ 99999999
        · have h := app_yes hok hv (isD_byte h0 h1 hd)
          exact .inl ⟨hd.1, hd.2, rfl, by omega, by omega, ez, by rw [pvN_yes h.1, h.2, hN, dv_byte h0 h1], h.1⟩
        · have e := app_full (c := UInt8.ofNat c.toNat) hok hv
          exact .inr (.inr (.inr (.inr (.inr (.inl ⟨hd.1, hd.2, rfl, by omega, ez, refuse e, e⟩)))))
  · have e := app_nodigit (l := toL s) (isD_byte_no h0 h1 hd)
    by_cases hlt : c < 48
    · exact .inr (.inr (.inl ⟨hlt, refuse e, e⟩))
    · exact .inr (.inr (.inr (.inl ⟨by omega, refuse e, e⟩)))

set_option maxHeartbeats 1000000 in
theorem walk (a0 : ByteArray) (a1 : Int) (w0 : a0.size ≤ maxLen) (w1 : (Lit.int .u8 a1).wf = true) (w : World) :
    Calls Try.prog 4 #[.string a0, .int .u8 a1] w fun e w' => e = .returned (.bool true) ∧ Below w.heap.size w w' := by
  have w0' := w0
  unfold maxLen at w0'
  by_cases h1 : a0.size ≤ 1048576
  · have bd := bounds_u8 w1
    refine app_main a0 a1 (pvN (toL a0)) (pvN (toL a0 ++ [UInt8.ofNat a1.toNat])) (pvOk (toL a0)) (pvOk (toL a0 ++ [UInt8.ofNat a1.toNat])) w h1 bd.1 bd.2 (fun wx => pv_any a0 wx w0) ?_ (fun wx => canon_any a0 wx w0) (law a0 a1 bd.1 bd.2)
    intro wx
    rw [← toL_app]
    exact pv_any _ wx (by rw [strOfNums_size, appN_len]; unfold maxLen; omega)
  · go_enter Try.func4, Try.ntmps4
    go_wp2
    go_ret
    exact ⟨rfl, Below.refl _ _⟩

set_option maxRecDepth 100000 in
theorem lifted (os : Os) (started : os.Started) (H : Type) (enc : TypeId × Value → H) :
    ReturnsInHanded {} Try.checked os 4 .any (Rows.fnParseVersionAppendDigitSpec.pre6 enc Try.prog Try.f4 Rows.fnParseVersionAppendDigitRow.domain false) (Rows.fnParseVersionAppendDigitSpec.post enc Try.prog Try.f4 false true false false) := by
  refine returnsInHanded_of_change (C := Try.checked) own started (by kernel_rfl) Try.func4
    (ChangeSpec.witness6 (enc := enc) (C := Try.checked) false ⟨#[], #[.string ByteArray.empty, .int .u8 0], []⟩ 8 (by kernel_rfl) (by kernel_rfl) (by kernel_rfl) (by kernel_rfl)) ?_
  intro W base args ds gs before hval0 hW hcnd _
  have hval : ∀ (j : Nat) t v, Try.f4.params[j]? = some t → args[j]? = some v → Value.okWide Try.prog W .any base t v := hval0
  have hW' := hW
  obtain ⟨p, q, hA0, hV, rfl, hfz, hnd⟩ := hW
  have hA : DataW.TrodAll enc Try.prog W 0 (fun _ => true) true Try.f4.params.toList args.toList ds p := hA0
  rw [Try.params4] at hA hval
  obtain ⟨v0, vs0, d0, ds0, p0, q0, hargs, rfl, rfl, h0, r0⟩ := trodAll_cons hA
  obtain ⟨v1, vs1, d1, ds1, p1, q1, rfl, rfl, rfl, h1, r1⟩ := trodAll_cons r0
  obtain ⟨rfl, rfl, rfl⟩ := trodAll_nil r1
  obtain rfl : args = #[v0, v1] := by cases args; simp_all
  obtain ⟨rfl, rfl⟩ := trodVars_none hV
  obtain ⟨a0, rfl, rfl, rfl, w0⟩ := open_string Try.underlying9 (hval 0 9 v0 rfl rfl) h0
  obtain ⟨a1, rfl, rfl, rfl, w1⟩ := open_int Try.underlying5 (hval 1 5 v1 rfl rfl) h1
  clear hA0 hval0
  refine (walk a0 a1 w0 w1 W).mono fun e W' ⟨he, bel⟩ => ?_
  subst he
  exact ⟨_, rfl, _, _, _, [], _, [], hW', trodAll_mk1 (shut_bool Try.underlying4 _), (trodAll_cons_mk (shut_string Try.underlying9 w0) (trodAll_cons_mk (shut_int Try.underlying5 w1) trodAll_mk0)), rfl, bel.frame _, fun h => by cases h⟩

theorem over : Rows.fnParseVersionAppendDigitRow.holds Try.pinned (OpenSpec.ofChange Rows.fnParseVersionAppendDigitSpec) :=
  OpenClaim.holds_of_wide 4 Try.f4 rfl rfl rfl rfl rfl rfl rfl ⟨rfl, rfl, rfl, rfl, rfl⟩ rfl rfl rfl rfl rfl (by kernel_rfl) Try.func4 (by kernel_rfl)
    (of_decide_eq_true (by kernel_rfl)) (by unfold Func.isWrapper; first | (rw [if_pos (by decide +kernel)]; kernel_rfl) | (rw [if_neg (by decide +kernel)]; exact ⟨rfl, rfl⟩))
    (fun os started H enc _ => lifted os started H enc)

/-- ████ THE STATEMENT ████ -/
theorem proved : Rows.FnParseVersionAppendDigitSaid :=
  over
end Go.Proofs.Qxb6619765a.fnParseVersionAppendDigit
