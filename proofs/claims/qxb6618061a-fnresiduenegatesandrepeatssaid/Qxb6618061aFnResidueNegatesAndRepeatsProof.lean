/-
  THE SHELL OF A PROOF OF 'Rows.FnResidueNegatesAndRepeatsSaid' ('example.com/armslength/armslength/zzlaws_internal_linsolve_b1.FnResidueNegatesAndRepeats'), WRITTEN BY PROGRAM (proof-skeleton.mjs) off the guide's own print for that function. Not trusted: Lean checks it.
  The hole (the walk) is filled by hand.
-/
import Derived.Test.Qxb6618061aRows
import Derived.Test.Qxb6618061aOps
import Derived.WalkSpells
import Derived.WalkKit
import Derived.ProofKit
import Derived.OpenShut
import Derived.ShutString
namespace Go.Proofs.Qxb6618061a.fnResidueNegatesAndRepeats
open Go.ChangeShapes Go.WideShapes Go.ChangeAt Go.RowKit
open Go.ChangeMaps (open_string shut_string)
set_option linter.unusedVariables false      -- a walk need not use every 'w<i>' (that an integer argument fits its kind)

theorem own : ownKnob Try.prog.godebug = none := by kernel_rfl

/-! ### STEP 1: THE WALK: the Go text returns true. 'Grown w w'': the world has at most new blocks (Derived/RowKit3.lean). Part the cases AHEAD of 'go_enter' where a test parts the walk; take each callee by a contract of your own. -/
theorem walk (a0 : Int) (a1 : Int) (w0 : (Lit.int .i64 a0).wf = true) (w1 : (Lit.int .u64 a1).wf = true) (w : World) :
    Calls Try.prog 4 #[.int .i64 a0, .int .u64 a1] w fun e w' => e = .returned (.bool true) ∧ Grown w w' := by
  have b0 := bounds_i64 w0
  have b1 := bounds_u64 w1
  clear w0 w1
  obtain ⟨b00, b01⟩ := b0
  obtain ⟨b10, b11⟩ := b1
  by_cases c0 : a1 = 0
  · subst c0
    go_enter Try.func4, Try.ntmps4
    go_wp2
    go_ret
    exact ⟨rfl, Grown.refl _⟩
  by_cases c1 : 9223372036854775808 ≤ a1
  · go_enter Try.func4, Try.ntmps4
    go_wp2
    go_ret
    exact ⟨rfl, Grown.refl _⟩
  have q1 : (a1 == 0) = false := by rw [beq_eq_false_iff_ne]; omega
  have k0 : 0 ≤ a0 % a1 := Int.emod_nonneg _ (by omega)
  have k1 : a0 % a1 < a1 := Int.emod_lt_of_pos _ (by omega)
  have e1 := resid_neg a0 a1 (by omega)
  have e2 : (a0 + a1) % a1 = a0 % a1 := Int.add_emod_right _ _
  have e3 : (a0 - a1) % a1 = a0 % a1 := Int.sub_emod_right _ _
  have E1 : Hid (subM 0 (a0 % a1) a1 = (-a0) % a1) := e1
  have E2 : Hid ((a0 + a1) % a1 = a0 % a1) := e2
  have E3 : Hid ((a0 - a1) % a1 = a0 % a1) := e3
  clear e1 e2 e3
  by_cases m0 : a0 ≤ -9223372036854775808
  · go_enter Try.func4, Try.ntmps4
    go_wp2_with fail
    refine (zzresidue_calls a0 a1 b00 (by omega) (by omega) (by omega) _).mono ?_
    rintro e w' ⟨rfl, rfl⟩
    go_wp2_with fail
    refine (isResidue_calls a0 a1 b00 (by omega) (by omega) (by omega) _).mono ?_
    rintro e w' ⟨rfl, rfl⟩
    go_wp2_with fail
    refine (zzresidue_calls (a0 + a1) a1 (by omega) (by omega) (by omega) (by omega) _).mono ?_
    rintro e w' ⟨rfl, rfl⟩
    rw [E2.out]
    go_wp2
    go_ret
    exact ⟨by simp, by repeat (first | exact Grown.refl _ | apply Grown.drew | apply Grown.alloc)⟩
  by_cases m1 : a0 ≤ 9223372036854775807 - a1
  · by_cases m2 : -9223372036854775808 + a1 ≤ a0
    · go_enter Try.func4, Try.ntmps4
      go_wp2_with fail
      refine (zzresidue_calls a0 a1 b00 (by omega) (by omega) (by omega) _).mono ?_
      rintro e w' ⟨rfl, rfl⟩
      go_wp2_with fail
      refine (isResidue_calls a0 a1 b00 (by omega) (by omega) (by omega) _).mono ?_
      rintro e w' ⟨rfl, rfl⟩
      go_wp2_with fail
      refine (zzresidue_calls (-a0) a1 (by omega) (by omega) (by omega) (by omega) _).mono ?_
      rintro e w' ⟨rfl, rfl⟩
      go_wp2_with fail
      refine (zzsubMod_calls 0 (a0 % a1) a1 (by omega) k0 (by omega) k1 (by omega) _).mono ?_
      rintro e w' ⟨rfl, rfl⟩
      rw [E1.out]
      go_wp2_with fail
      refine (zzresidue_calls (a0 + a1) a1 (by omega) (by omega) (by omega) (by omega) _).mono ?_
      rintro e w' ⟨rfl, rfl⟩
      rw [E2.out]
      go_wp2_with fail
      refine (zzresidue_calls (a0 - a1) a1 (by omega) (by omega) (by omega) (by omega) _).mono ?_
      rintro e w' ⟨rfl, rfl⟩
      rw [E3.out]
      go_wp2
      go_ret
      exact ⟨by simp, by repeat (first | exact Grown.refl _ | apply Grown.drew | apply Grown.alloc)⟩
    · go_enter Try.func4, Try.ntmps4
      go_wp2_with fail
      refine (zzresidue_calls a0 a1 b00 (by omega) (by omega) (by omega) _).mono ?_
      rintro e w' ⟨rfl, rfl⟩
      go_wp2_with fail
      refine (isResidue_calls a0 a1 b00 (by omega) (by omega) (by omega) _).mono ?_
      rintro e w' ⟨rfl, rfl⟩
      go_wp2_with fail
      refine (zzresidue_calls (-a0) a1 (by omega) (by omega) (by omega) (by omega) _).mono ?_
      rintro e w' ⟨rfl, rfl⟩
      go_wp2_with fail
      refine (zzsubMod_calls 0 (a0 % a1) a1 (by omega) k0 (by omega) k1 (by omega) _).mono ?_
      rintro e w' ⟨rfl, rfl⟩
      rw [E1.out]
      go_wp2_with fail
      refine (zzresidue_calls (a0 + a1) a1 (by omega) (by omega) (by omega) (by omega) _).mono ?_
      rintro e w' ⟨rfl, rfl⟩
      rw [E2.out]
      go_wp2
      go_ret
      exact ⟨by simp, by repeat (first | exact Grown.refl _ | apply Grown.drew | apply Grown.alloc)⟩
  · have m2 : -9223372036854775808 + a1 ≤ a0 := by omega
    go_enter Try.func4, Try.ntmps4
    go_wp2_with fail
    refine (zzresidue_calls a0 a1 b00 (by omega) (by omega) (by omega) _).mono ?_
    rintro e w' ⟨rfl, rfl⟩
    go_wp2_with fail
    refine (isResidue_calls a0 a1 b00 (by omega) (by omega) (by omega) _).mono ?_
    rintro e w' ⟨rfl, rfl⟩
    go_wp2_with fail
    refine (zzresidue_calls (-a0) a1 (by omega) (by omega) (by omega) (by omega) _).mono ?_
    rintro e w' ⟨rfl, rfl⟩
    go_wp2_with fail
    refine (zzsubMod_calls 0 (a0 % a1) a1 (by omega) k0 (by omega) k1 (by omega) _).mono ?_
    rintro e w' ⟨rfl, rfl⟩
    rw [E1.out]
    go_wp2_with fail
    refine (zzresidue_calls (a0 - a1) a1 (by omega) (by omega) (by omega) (by omega) _).mono ?_
    rintro e w' ⟨rfl, rfl⟩
    rw [E3.out]
    go_wp2
    go_ret
    exact ⟨by simp, by repeat (first | exact Grown.refl _ | apply Grown.drew | apply Grown.alloc)⟩

/-! ### THE ROW's STEP: WRITTEN OUT: LEAVE IT -/
set_option maxRecDepth 100000 in
theorem lifted (os : Os) (started : os.Started) (H : Type) (enc : TypeId × Value → H) :
    ReturnsInHanded {} Try.checked os 4 .any (Rows.fnResidueNegatesAndRepeatsSpec.pre6 enc Try.prog Try.f4 Rows.fnResidueNegatesAndRepeatsRow.domain false) (Rows.fnResidueNegatesAndRepeatsSpec.post enc Try.prog Try.f4 false true false false) := by
  refine returnsInHanded_of_change (C := Try.checked) own started (by kernel_rfl) Try.func4
    (ChangeSpec.witness6 (enc := enc) (C := Try.checked) false ⟨#[], #[.int .i64 0, .int .u64 0], []⟩ 8 (by kernel_rfl) (by kernel_rfl) (by kernel_rfl) (by kernel_rfl)) ?_
  intro W base args ds gs before hval0 hW hcnd _
  have hval : ∀ (j : Nat) t v, Try.f4.params[j]? = some t → args[j]? = some v → Value.okWide Try.prog W .any base t v := hval0
  have hW' := hW
  obtain ⟨p, q, hA0, hV, rfl, hfz, hnd⟩ := hW
  have hA : DataW.TrodAll enc Try.prog W 0 (fun _ => true) true Try.f4.params.toList args.toList ds p := hA0
  rw [Try.params4] at hA hval
  obtain ⟨v0, vs0, d0, ds0, p0, q0, hargs, rfl, rfl, h0, r0⟩ := trodAll_cons hA
  obtain ⟨v1, vs1, d1, ds1, p1, q1, rfl, rfl, rfl, h1, r1⟩ := trodAll_cons r0
  obtain ⟨rfl, rfl, rfl⟩ := trodAll_nil r1
  obtain rfl : args = #[v0, v1] := by cases args; simp_all
  obtain ⟨rfl, rfl⟩ := trodVars_none hV
  obtain ⟨a0, rfl, rfl, rfl, w0⟩ := open_int Try.underlying2 (hval 0 2 v0 rfl rfl) h0
  obtain ⟨a1, rfl, rfl, rfl, w1⟩ := open_int Try.underlying22 (hval 1 22 v1 rfl rfl) h1
  clear hA0 hval0
  simp only [List.append_nil] at hW'
  refine (walk a0 a1 w0 w1 W).mono fun e W' ⟨he, hg⟩ => ?_
  subst he
  exact ⟨_, rfl, post_of_same (pa := []) (pv := []) hW' (fun _ _ _ => (trodAll_cons_mk (shut_bool Try.underlying4 _) trodAll_mk0)) (fun sp _ => (trodAll_cons_mk (shut_int Try.underlying2 w0) (trodAll_cons_mk (shut_int Try.underlying22 w1) trodAll_mk0))) (fun _ _ => rfl) rfl
    (hg.frame _) hg.2.1 (ok_one (by kernel_rfl) rfl (okWide_bool_mk Try.underlying4 _))⟩

theorem over : Rows.fnResidueNegatesAndRepeatsRow.holds Try.pinned (OpenSpec.ofChange Rows.fnResidueNegatesAndRepeatsSpec) :=
  OpenClaim.holds_of_wide 4 Try.f4 rfl rfl rfl rfl rfl rfl rfl ⟨rfl, rfl, rfl, rfl, rfl⟩ rfl rfl rfl rfl rfl (by kernel_rfl) Try.func4 (by kernel_rfl)
    (of_decide_eq_true (by kernel_rfl)) (by unfold Func.isWrapper; first | (rw [if_pos (by decide +kernel)]; kernel_rfl) | (rw [if_neg (by decide +kernel)]; exact ⟨rfl, rfl⟩))
    (fun os started H enc _ => lifted os started H enc)

/-- ████ THE STATEMENT ████ -/
theorem proved : Rows.FnResidueNegatesAndRepeatsSaid :=
  over
end Go.Proofs.Qxb6618061a.fnResidueNegatesAndRepeats
