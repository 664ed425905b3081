/-
  THE PROOF OF 'Rows.FnSplitOutsideRejoinsSaid': the guide's frame (proof-skeleton.mjs) with the walk filled; the world behind the call is told by 'Below'.
-/
import Derived.Test.Qxb6622052aRejoin
import Derived.ProofKit
import Derived.OpenShut
import Derived.ShutString
import Derived.ChangeOld
import Derived.Below
namespace Go.Proofs.Qxb6622052a.fnSplitOutsideRejoins
open Go.ChangeShapes Go.WideShapes Go.ChangeAt Go.RowKit
open Go.ChangeMaps (open_string shut_string)
open Plain
set_option linter.unusedVariables false

theorem own : ownKnob Try.prog.godebug = none := by kernel_rfl
theorem byte_of {sep : Int} (h0 : 0 ≤ sep) (h1 : sep ≤ 255) : ((UInt8.ofNat sep.toNat).toNat : Int) = sep := by
  simp [UInt8.toNat_ofNat']; omega

theorem joined {sep : Int} {an : Bool} {sb : UInt8} (hs : (sb.toNat : Int) = sep) {s : ByteArray} {xs : List ByteArray} (h : xs.map toL = sp sep an false false false [] (toL s)) : 0 < xs.length ∧ toL s = restJ sb (xs.map toL) 0 := by
  obtain ⟨p, ps, h1, h2⟩ := sp_join sep an sb hs (toL s) false false false []
  rw [h1] at h
  refine ⟨?_, ?_⟩
  · have := congrArg List.length h; simp at this; omega
  · rw [h]; simpa [restJ] using h2

theorem cnt_len {sep : Int} {an : Bool} {s : ByteArray} {c : Nat} {xs : List ByteArray} (HC : Hid (c = cntB sep (toL s))) (h : xs.map toL = sp sep an false false false [] (toL s)) (e34 : hasB 34 (toL s) = false)
    (ea : an = false ∨ (hasB 60 (toL s) = false ∧ hasB 62 (toL s) = false)) : ((xs.length : Int) != (c : Int) + 1) = false := by
  have h1 := congrArg List.length h
  have h2 := sp_plain sep an (toL s) e34 (fun k => by rcases ea with ea | ea; · rw [ea] at k; cases k
                                                      · exact ea.1) (fun k => by rcases ea with ea | ea; · rw [ea] at k; cases k
                                                                                 · exact ea.2) []
  have h3 := HC.out
  simp only [List.length_map] at h1
  simp
  omega

set_option maxHeartbeats 2000000 in
theorem main (a0 : ByteArray) (a1 : Int) (a2 h34 h60 h62 : Bool) (w1 : 0 ≤ a1 ∧ a1 ≤ 255) (ha : a0.size ≤ 65536) (e34 : hasB 34 (toL a0) = h34) (e60 : hasB 60 (toL a0) = h60) (e62 : hasB 62 (toL a0) = h62) (w : World) :
    Calls Try.prog 4 #[.string a0, .int .u8 a1, .bool a2] w fun e w' => e = .returned (.bool true) ∧ Below w.heap.size w w' := by
  obtain ⟨c, hc⟩ : ∃ c, c = cntB a1 (toL a0) := ⟨_, rfl⟩
  have hcl : c ≤ a0.size := by rw [hc, ← toL_len]; exact cntB_le _ _
  have P1 : Hid (∀ xs : List ByteArray, xs.map toL = sp a1 a2 false false false [] (toL a0) → xs.length ≤ c + 1) := by
    intro xs h
    have := congrArg List.length h
    have h2 := sp_count a1 a2 (toL a0) false false false []
    simp only [List.length_map] at this
    omega
  have HC : Hid (c = cntB a1 (toL a0)) := hc
  clear hc
  have hcount : Hid (∀ wx : World, Calls Try.prog 12 #[.string a0, .int .u8 a1] wx fun e w' => e = .returned (.int .i64 c) ∧ w' = wx) := by
    intro wx
    rw [HC.out]
    exact count_any a0 a1 wx (by omega)
  have hsb := byte_of w1.1 w1.2
  have HS : Hid (((UInt8.ofNat a1.toNat).toNat : Int) = a1) := hsb
  clear hsb
  cases a2 <;> cases h34 <;> cases h60 <;> cases h62
  all_goals
    go_enter Try.func4, Try.ntmps4
    go_wp2_with (go_at_call 10; refine (bytes10_ok _ _ _ _ (by omega)).mono ?_; rintro e w' ⟨rfl, rfl⟩)
    refine (zz_any _ _ _ _ (by omega)).mono ?_
    rintro e w1 ⟨x1, c1, xs1, rfl, hL1, hn1, hc1, hg1, hs1, hR1, hb1⟩
    obtain ⟨n0, hJ⟩ := joined HS.out hL1
    have l1 := P1.out xs1 hL1
    first | have l3 := cnt_len HC hL1 e34 (Or.inl rfl) | have l3 := cnt_len HC hL1 e34 (Or.inr ⟨e60, e62⟩) | skip
    have HJ : Hid (toL a0 = restJ (UInt8.ofNat a1.toNat) (xs1.map toL) 0) := hJ
    have R1 : RowAt w1 x1 xs1 := hR1
    have m1 : xs1.length ≤ 9223372036854775807 := by unfold maxLen at hc1; omega
    clear hJ hR1 hL1 P1
    go_wp2_with fail
    refine (rejoin_any xs1 x1 c1 a1 (UInt8.ofNat a1.toNat) a0 w1 R1 n0 m1 (by omega) HS HJ).mono ?_
    rintro e w3 ⟨rfl, n, rfl⟩
    go_wp2_with fail
    refine (hcount.out _).mono ?_
    rintro e w4 ⟨rfl, rfl⟩
    go_wp2_with (go_at_call 13; refine (has_any _ _ _ (by omega)).mono ?_; rintro e w' ⟨rfl, rfl⟩)
    go_ret
    exact ⟨rfl, below_drewN hb1 _⟩

theorem walk (a0 : ByteArray) (a1 : Int) (a2 : Bool) (w0 : a0.size ≤ maxLen) (w1 : (Lit.int .u8 a1).wf = true) (w : World) :
    Calls Try.prog 4 #[.string a0, .int .u8 a1, .bool a2] w fun e w' => e = .returned (.bool true) ∧ Below w.heap.size w w' := by
  by_cases h1 : a0.size ≤ 1048576
  · by_cases ha : a0.size ≤ 65536
    · exact main a0 a1 a2 _ _ _ (bounds_u8 w1) ha rfl rfl rfl w
    · have hd : (65536 : Int) < (a0.size : Int) := by omega
      go_enter Try.func4, Try.ntmps4
      go_wp2_with (go_at_call 10; refine (bytes10_ok _ _ _ _ (by omega)).mono ?_; rintro e w' ⟨rfl, rfl⟩)
      go_ret
      exact ⟨rfl, Below.refl _ _⟩
  · go_enter Try.func4, Try.ntmps4
    go_wp2_with (go_at_call 10; refine (bytes10_no _ _ _ _ w0 h1).mono ?_; rintro e w' ⟨rfl, rfl⟩)
    go_ret
    exact ⟨rfl, Below.refl _ _⟩

set_option maxRecDepth 100000 in
theorem lifted (os : Os) (started : os.Started) (H : Type) (enc : TypeId × Value → H) :
    ReturnsInHanded {} Try.checked os 4 .any (Rows.fnSplitOutsideRejoinsSpec.pre6 enc Try.prog Try.f4 Rows.fnSplitOutsideRejoinsRow.domain false) (Rows.fnSplitOutsideRejoinsSpec.post enc Try.prog Try.f4 false true false false) := by
  refine returnsInHanded_of_change (C := Try.checked) own started (by kernel_rfl) Try.func4
    (ChangeSpec.witness6 (enc := enc) (C := Try.checked) false ⟨#[], #[.string ByteArray.empty, .int .u8 0, .bool false], []⟩ 8 (by kernel_rfl) (by kernel_rfl) (by kernel_rfl) (by kernel_rfl)) ?_
  intro W base args ds gs before hval0 hW hcnd _
  have hval : ∀ (j : Nat) t v, Try.f4.params[j]? = some t → args[j]? = some v → Value.okWide Try.prog W .any base t v := hval0
  have hW' := hW
  obtain ⟨p, q, hA0, hV, rfl, hfz, hnd⟩ := hW
  have hA : DataW.TrodAll enc Try.prog W 0 (fun _ => true) true Try.f4.params.toList args.toList ds p := hA0
  rw [Try.params4] at hA hval
  obtain ⟨v0, vs0, d0, ds0, p0, q0, hargs, rfl, rfl, h0, r0⟩ := trodAll_cons hA
  obtain ⟨v1, vs1, d1, ds1, p1, q1, rfl, rfl, rfl, h1, r1⟩ := trodAll_cons r0
  obtain ⟨v2, vs2, d2, ds2, p2, q2, rfl, rfl, rfl, h2, r2⟩ := trodAll_cons r1
  obtain ⟨rfl, rfl, rfl⟩ := trodAll_nil r2
  obtain rfl : args = #[v0, v1, v2] := by cases args; simp_all
  obtain ⟨rfl, rfl⟩ := trodVars_none hV
  obtain ⟨a0, rfl, rfl, rfl, w0⟩ := open_string Try.underlying9 (hval 0 9 v0 rfl rfl) h0
  obtain ⟨a1, rfl, rfl, rfl, w1⟩ := open_int Try.underlying5 (hval 1 5 v1 rfl rfl) h1
  obtain ⟨a2, rfl, rfl, rfl⟩ := open_bool Try.underlying4 (hval 2 4 v2 rfl rfl) h2
  clear hA0 hval0
  refine (walk a0 a1 a2 w0 w1 W).mono fun e W' ⟨he, bel⟩ => ?_
  subst he
  exact ⟨_, rfl, _, _, _, [], _, [], hW', trodAll_mk1 (shut_bool Try.underlying4 _), (trodAll_cons_mk (shut_string Try.underlying9 w0) (trodAll_cons_mk (shut_int Try.underlying5 w1) (trodAll_cons_mk (shut_bool Try.underlying4 _) trodAll_mk0))), rfl, bel.frame _, fun h => by cases h⟩

theorem over : Rows.fnSplitOutsideRejoinsRow.holds Try.pinned (OpenSpec.ofChange Rows.fnSplitOutsideRejoinsSpec) :=
  OpenClaim.holds_of_wide 4 Try.f4 rfl rfl rfl rfl rfl rfl rfl ⟨rfl, rfl, rfl, rfl, rfl⟩ rfl rfl rfl rfl rfl (by kernel_rfl) Try.func4 (by kernel_rfl)
    (of_decide_eq_true (by kernel_rfl)) (by unfold Func.isWrapper; first | (rw [if_pos (by decide +kernel)]; kernel_rfl) | (rw [if_neg (by decide +kernel)]; exact ⟨rfl, rfl⟩))
    (fun os started H enc _ => lifted os started H enc)

/-- ████ THE STATEMENT ████ -/
theorem proved : Rows.FnSplitOutsideRejoinsSaid :=
  over
end Go.Proofs.Qxb6622052a.fnSplitOutsideRejoins
