/-
  THE PROOF OF 'Rows.FnSplitOutsidePrefixSaid': the guide's frame (proof-skeleton.mjs) with the walk filled; the world behind the call is told by 'Below'.
-/
import Derived.Test.Qxb6622052aPrefix
import Derived.ProofKit
import Derived.OpenShut
import Derived.ShutString
import Derived.ChangeOld
import Derived.Below
namespace Go.Proofs.Qxb6622052a.fnSplitOutsidePrefix
open Go.ChangeShapes Go.WideShapes Go.ChangeAt Go.RowKit
open Go.ChangeMaps (open_string shut_string)
open Plain
set_option linter.unusedVariables false

theorem own : ownKnob Try.prog.godebug = none := by kernel_rfl

theorem toL_append (x y : ByteArray) : toL (x ++ y) = toL x ++ toL y := by simp [toL]
theorem toL_one (sep : Int) : toL (strOfNums [sep]) = [UInt8.ofNat sep.toNat] := by simp [toL, strOfNums]
theorem byte_of {sep : Int} (h0 : 0 ≤ sep) (h1 : sep ≤ 255) : ((UInt8.ofNat sep.toNat).toNat : Int) = sep := by
  simp [UInt8.toNat_ofNat']; omega

set_option maxHeartbeats 1000000 in
theorem walk (a0 : ByteArray) (a1 : ByteArray) (a2 : Int) (a3 : Bool) (w0 : a0.size ≤ maxLen) (w1 : a1.size ≤ maxLen) (w2 : (Lit.int .u8 a2).wf = true) (w : World) :
    Calls Try.prog 5 #[.string a0, .string a1, .int .u8 a2, .bool a3] w fun e w' => e = .returned (.bool true) ∧ Below w.heap.size w w' := by
  by_cases h1 : a0.size + a1.size ≤ 1048576
  · by_cases ha : a0.size ≤ 65536
    · by_cases hb : a1.size ≤ 65536
      · cases g34 : (a2 == 34)
        · cases g60 : (a3 && a2 == 60)
          · cases g62 : (a3 && a2 == 62)
            · cases h34 : hasB 34 (toL a0)
              · cases h60 : (a3 && hasB 60 (toL a0))
                · have bd := bounds_u8 w2
                  have k60 : a3 = true → (a2 == 60) = false := fun h => by simpa [h] using g60
                  have k62 : a3 = true → (a2 == 62) = false := fun h => by simpa [h] using g62
                  have m60 : a3 = true → hasB 60 (toL a0) = false := fun h => by simpa [h] using h60
                  refine pre_main a0 a1 (strOfNums [a2]) a2 a3 w ha hb (by simp [strOfNums_size]) (conv_one a2) ?_ g34 k60 k62 h34 m60
                  have e : toL (a0 ++ strOfNums [a2] ++ a1) = toL a0 ++ UInt8.ofNat a2.toNat :: toL a1 := by
                    rw [toL_append, toL_append, toL_one]; simp
                  show _ = _
                  rw [e]
                  exact sp_prefix a2 a3 _ (byte_of bd.1 bd.2) (by simpa using g34) (fun h => by simpa using k60 h) (fun h => by simpa using k62 h) (toL a1) (toL a0) h34 m60 []
                · simp only [Bool.and_eq_true] at h60
                  obtain ⟨rfl, h60⟩ := h60
                  have k60 : (a2 == 60) = false := by simpa using g60
                  have k62 : (a2 == 62) = false := by simpa using g62
                  clear g60 g62
                  go_enter Try.func5, Try.ntmps5
                  go_wp2_with (first | (go_at_call 14; refine (bytes14_ok _ _ _ _ _ (by omega)).mono ?_; rintro e w' ⟨rfl, rfl⟩) | (go_at_call 13; refine (has_any _ _ _ (by omega)).mono ?_; rintro e w' ⟨rfl, rfl⟩))
                  go_ret
                  exact ⟨rfl, Below.refl _ _⟩
              · cases a3
                · clear g60 g62
                  go_enter Try.func5, Try.ntmps5
                  go_wp2_with (first | (go_at_call 14; refine (bytes14_ok _ _ _ _ _ (by omega)).mono ?_; rintro e w' ⟨rfl, rfl⟩) | (go_at_call 13; refine (has_any _ _ _ (by omega)).mono ?_; rintro e w' ⟨rfl, rfl⟩))
                  go_ret
                  exact ⟨rfl, Below.refl _ _⟩
                · have k60 : (a2 == 60) = false := by simpa using g60
                  have k62 : (a2 == 62) = false := by simpa using g62
                  clear g60 g62
                  go_enter Try.func5, Try.ntmps5
                  go_wp2_with (first | (go_at_call 14; refine (bytes14_ok _ _ _ _ _ (by omega)).mono ?_; rintro e w' ⟨rfl, rfl⟩) | (go_at_call 13; refine (has_any _ _ _ (by omega)).mono ?_; rintro e w' ⟨rfl, rfl⟩))
                  go_ret
                  exact ⟨rfl, Below.refl _ _⟩
            · simp only [Bool.and_eq_true] at g62
              obtain ⟨rfl, g62⟩ := g62
              have k60 : (a2 == 60) = false := by simpa using g60
              clear g60
              go_enter Try.func5, Try.ntmps5
              go_wp2_with (go_at_call 14; refine (bytes14_ok _ _ _ _ _ (by omega)).mono ?_; rintro e w' ⟨rfl, rfl⟩)
              go_ret
              exact ⟨rfl, Below.refl _ _⟩
          · simp only [Bool.and_eq_true] at g60
            obtain ⟨rfl, g60⟩ := g60
            go_enter Try.func5, Try.ntmps5
            go_wp2_with (go_at_call 14; refine (bytes14_ok _ _ _ _ _ (by omega)).mono ?_; rintro e w' ⟨rfl, rfl⟩)
            go_ret
            exact ⟨rfl, Below.refl _ _⟩
        · go_enter Try.func5, Try.ntmps5
          go_wp2_with (go_at_call 14; refine (bytes14_ok _ _ _ _ _ (by omega)).mono ?_; rintro e w' ⟨rfl, rfl⟩)
          go_ret
          exact ⟨rfl, Below.refl _ _⟩
      · have hd : (65536 : Int) < (a1.size : Int) := by omega
        go_enter Try.func5, Try.ntmps5
        go_wp2_with (go_at_call 14; refine (bytes14_ok _ _ _ _ _ (by omega)).mono ?_; rintro e w' ⟨rfl, rfl⟩)
        go_ret
        exact ⟨rfl, Below.refl _ _⟩
    · have hd : (65536 : Int) < (a0.size : Int) := by omega
      go_enter Try.func5, Try.ntmps5
      go_wp2_with (go_at_call 14; refine (bytes14_ok _ _ _ _ _ (by omega)).mono ?_; rintro e w' ⟨rfl, rfl⟩)
      go_ret
      exact ⟨rfl, Below.refl _ _⟩
  · go_enter Try.func5, Try.ntmps5
    go_wp2_with (go_at_call 14; refine (bytes14_no _ _ _ _ _ w0 w1 h1).mono ?_; rintro e w' ⟨rfl, rfl⟩)
    go_ret
    exact ⟨rfl, Below.refl _ _⟩

set_option maxRecDepth 100000 in
theorem lifted (os : Os) (started : os.Started) (H : Type) (enc : TypeId × Value → H) :
    ReturnsInHanded {} Try.checked os 5 .any (Rows.fnSplitOutsidePrefixSpec.pre6 enc Try.prog Try.f5 Rows.fnSplitOutsidePrefixRow.domain false) (Rows.fnSplitOutsidePrefixSpec.post enc Try.prog Try.f5 false true false false) := by
  refine returnsInHanded_of_change (C := Try.checked) own started (by kernel_rfl) Try.func5
    (ChangeSpec.witness6 (enc := enc) (C := Try.checked) false ⟨#[], #[.string ByteArray.empty, .string ByteArray.empty, .int .u8 0, .bool false], []⟩ 8 (by kernel_rfl) (by kernel_rfl) (by kernel_rfl) (by kernel_rfl)) ?_
  intro W base args ds gs before hval0 hW hcnd _
  have hval : ∀ (j : Nat) t v, Try.f5.params[j]? = some t → args[j]? = some v → Value.okWide Try.prog W .any base t v := hval0
  have hW' := hW
  obtain ⟨p, q, hA0, hV, rfl, hfz, hnd⟩ := hW
  have hA : DataW.TrodAll enc Try.prog W 0 (fun _ => true) true Try.f5.params.toList args.toList ds p := hA0
  rw [Try.params5] at hA hval
  obtain ⟨v0, vs0, d0, ds0, p0, q0, hargs, rfl, rfl, h0, r0⟩ := trodAll_cons hA
  obtain ⟨v1, vs1, d1, ds1, p1, q1, rfl, rfl, rfl, h1, r1⟩ := trodAll_cons r0
  obtain ⟨v2, vs2, d2, ds2, p2, q2, rfl, rfl, rfl, h2, r2⟩ := trodAll_cons r1
  obtain ⟨v3, vs3, d3, ds3, p3, q3, rfl, rfl, rfl, h3, r3⟩ := trodAll_cons r2
  obtain ⟨rfl, rfl, rfl⟩ := trodAll_nil r3
  obtain rfl : args = #[v0, v1, v2, v3] := by cases args; simp_all
  obtain ⟨rfl, rfl⟩ := trodVars_none hV
  obtain ⟨a0, rfl, rfl, rfl, w0⟩ := open_string Try.underlying9 (hval 0 9 v0 rfl rfl) h0
  obtain ⟨a1, rfl, rfl, rfl, w1⟩ := open_string Try.underlying9 (hval 1 9 v1 rfl rfl) h1
  obtain ⟨a2, rfl, rfl, rfl, w2⟩ := open_int Try.underlying5 (hval 2 5 v2 rfl rfl) h2
  obtain ⟨a3, rfl, rfl, rfl⟩ := open_bool Try.underlying4 (hval 3 4 v3 rfl rfl) h3
  clear hA0 hval0
  refine (walk a0 a1 a2 a3 w0 w1 w2 W).mono fun e W' ⟨he, bel⟩ => ?_
  subst he
  exact ⟨_, rfl, _, _, _, [], _, [], hW', trodAll_mk1 (shut_bool Try.underlying4 _), (trodAll_cons_mk (shut_string Try.underlying9 w0) (trodAll_cons_mk (shut_string Try.underlying9 w1) (trodAll_cons_mk (shut_int Try.underlying5 w2) (trodAll_cons_mk (shut_bool Try.underlying4 _) trodAll_mk0)))), rfl, bel.frame _, fun h => by cases h⟩

theorem over : Rows.fnSplitOutsidePrefixRow.holds Try.pinned (OpenSpec.ofChange Rows.fnSplitOutsidePrefixSpec) :=
  OpenClaim.holds_of_wide 5 Try.f5 rfl rfl rfl rfl rfl rfl rfl ⟨rfl, rfl, rfl, rfl, rfl⟩ rfl rfl rfl rfl rfl (by kernel_rfl) Try.func5 (by kernel_rfl)
    (of_decide_eq_true (by kernel_rfl)) (by unfold Func.isWrapper; first | (rw [if_pos (by decide +kernel)]; kernel_rfl) | (rw [if_neg (by decide +kernel)]; exact ⟨rfl, rfl⟩))
    (fun os started H enc _ => lifted os started H enc)

/-- ████ THE STATEMENT ████ -/
theorem proved : Rows.FnSplitOutsidePrefixSaid :=
  over
end Go.Proofs.Qxb6622052a.fnSplitOutsidePrefix
