/-
  THE SHELL OF A PROOF OF 'Rows.FnOpcodeReadsExactlyTheFourOpcodeBitsSaid' ('example.com/rhumbline/rhumbline/zzlaws_internal_dns_b1.FnOpcodeReadsExactlyTheFourOpcodeBits'), WRITTEN BY PROGRAM (proof-skeleton.mjs) off the guide's own print for that function. Not trusted: Lean checks it.
  The hole (the walk) is filled by hand.
-/
import Derived.Test.Qxb6618335aRows
import Derived.Test.Qxb6618335aOps
import Derived.WalkSpells
import Derived.WalkKit
import Derived.ProofKit
import Derived.OpenShut
import Derived.ShutString
namespace Go.Proofs.Qxb6618335a.fnOpcodeReadsExactlyTheFourOpcodeBits
open Go.ChangeShapes Go.WideShapes Go.ChangeAt Go.RowKit
open Go.ChangeMaps (open_string shut_string)
set_option linter.unusedVariables false      -- a walk need not use every 'w<i>' (that an integer argument fits its kind)

theorem own : ownKnob Try.prog.godebug = none := by kernel_rfl

/-! ### STEP 1: THE WALK: the Go text returns true. 'Grown w w'': the world has at most new blocks (Derived/RowKit3.lean). Part the cases AHEAD of 'go_enter' where a test parts the walk; take each callee by a contract of your own. -/
set_option maxHeartbeats 1600000 in
theorem walk (a0 : Int) (a1 : Int) (a2 : Int) (a3 : Int) (a4 : Int) (a5 : Int) (a6 : Int) (w0 : (Lit.int .u16 a0).wf = true) (w1 : (Lit.int .u16 a1).wf = true) (w2 : (Lit.int .u16 a2).wf = true) (w3 : (Lit.int .u16 a3).wf = true) (w4 : (Lit.int .u16 a4).wf = true) (w5 : (Lit.int .u16 a5).wf = true) (w6 : (Lit.int .u16 a6).wf = true) (w : World) :
    Calls Try.prog 3 #[.int .u16 a0, .int .u16 a1, .int .u16 a2, .int .u16 a3, .int .u16 a4, .int .u16 a5, .int .u16 a6] w fun e w' => e = .returned (.bool true) ∧ Grown w w' := by
  obtain ⟨b0, b1⟩ := bounds_u16 w1
  obtain ⟨x0, x1⟩ := bounds_u16 w6
  clear w0 w1 w2 w3 w4 w5 w6
  obtain ⟨⟨n0, n1⟩, nq⟩ := opc_not a1 b0 b1
  obtain ⟨⟨o0, o1⟩, oq⟩ := opc_other a1 a6 b0 b1 x0 x1
  have p0 := opc_bounds a1
  have NQ : (opc a1 + opc (bits BinOp.xor IntKind.u16 IntKind.u16.max a1) == 15) = true := by rw [beq_iff_eq]; exact nq
  have p1 := opc_bounds (bits BinOp.xor IntKind.u16 IntKind.u16.max a1)
  clear nq
  go_enter Try.func3, Try.ntmps3
  go_wp2_with fail
  refine (op_calls a0 a1 a2 a3 a4 a5 b0 b1 _).mono ?_
  rintro e w' ⟨rfl, cs1, rfl⟩
  go_wp2_with fail
  refine (op_calls a0 _ a2 a3 a4 a5 n0 n1 _).mono ?_
  rintro e w' ⟨rfl, cs2, rfl⟩
  go_wp2_with fail
  refine (op_calls _ _ _ _ _ _ o0 o1 _).mono ?_
  rintro e w' ⟨rfl, cs3, rfl⟩
  rw [oq]
  go_wp2_with fail
  have hg0 : Grown w ((((w.alloc (Obj.cells #[Value.int IntKind.u16 a0, Value.int IntKind.u16 a1, Value.int IntKind.u16 a2, Value.int IntKind.u16 a3, Value.int IntKind.u16 a4, Value.int IntKind.u16 a5] 24)).alloc (Obj.cells cs1 24)).alloc (Obj.cells cs2 24)).alloc (Obj.cells cs3 24)) := by
    repeat (first | exact Grown.refl _ | apply Grown.drew | apply Grown.alloc)
  have c0 := opc_bit a1 0 2048 (by decide) (by decide) b0 b1
  have c1 := opc_bit a1 1 4096 (by decide) (by decide) b0 b1
  have c2 := opc_bit a1 2 8192 (by decide) (by decide) b0 b1
  have c3 := opc_bit a1 3 16384 (by decide) (by decide) b0 b1
  have C0 : Hid _ := c0
  have C1 : Hid _ := c1
  have C2 : Hid _ := c2
  have C3 : Hid _ := c3
  clear c0 c1 c2 c3 n0 n1 oq o0 o1 p1 NQ x0 x1
  go_loopw [20, 21, 22, 23] (fun i _ _ _ wr => ∃ k : Int, 0 ≤ k ∧ k ≤ 4 ∧ i = .int .i64 k ∧ Grown w wr) (fun i _ _ _ _ => (4 - intOf i).toNat)
  case atStart => exact ⟨0, by omega, by omega, rfl, hg0⟩
  case round =>
    obtain ⟨k, hk0, hk4, rfl, hgr⟩ := hrel
    clear hg0
    have HG : Hid (Grown w wr) := hgr
    clear hgr
    by_cases k4 : 4 ≤ k
    · go_wp2
      go_ret
      exact ⟨rfl, HG.out⟩
    have hcase : k = 0 ∨ k = 1 ∨ k = 2 ∨ k = 3 := by omega
    rcases hcase with rfl | rfl | rfl | rfl
    · obtain ⟨⟨u0, u1⟩, ⟨v0, v1⟩, uq⟩ := C0.out
      clear C0 C1 C2 C3
      have u0' : 0 ≤ bits BinOp.or IntKind.u16 a1 2048 := u0
      have u1' : bits BinOp.or IntKind.u16 a1 2048 ≤ 65535 := u1
      have v0' : 0 ≤ bits BinOp.andNot IntKind.u16 a1 2048 := v0
      have v1' : bits BinOp.andNot IntKind.u16 a1 2048 ≤ 65535 := v1
      have uq' : (opc (bits BinOp.or IntKind.u16 a1 2048) - opc (bits BinOp.andNot IntKind.u16 a1 2048) == 1) = true := by rw [beq_iff_eq]; exact uq
      have r0 := opc_bounds (bits BinOp.or IntKind.u16 a1 2048)
      have r1 := opc_bounds (bits BinOp.andNot IntKind.u16 a1 2048)
      clear u0 u1 v0 v1 uq
      go_wp2_with fail
      refine (op_calls _ _ _ _ _ _ u0' u1' _).mono ?_
      rintro e w' ⟨rfl, cs4, rfl⟩
      go_wp2_with fail
      refine (op_calls _ _ _ _ _ _ v0' v1' _).mono ?_
      rintro e w' ⟨rfl, cs5, rfl⟩
      go_wp2
      go_roundw
      case rel => exact ⟨1, by omega, by omega, rfl, (HG.out.alloc _ _).alloc _ _⟩
      case measure => simp [intOf]
    · obtain ⟨⟨u0, u1⟩, ⟨v0, v1⟩, uq⟩ := C1.out
      clear C0 C1 C2 C3
      have u0' : 0 ≤ bits BinOp.or IntKind.u16 a1 4096 := u0
      have u1' : bits BinOp.or IntKind.u16 a1 4096 ≤ 65535 := u1
      have v0' : 0 ≤ bits BinOp.andNot IntKind.u16 a1 4096 := v0
      have v1' : bits BinOp.andNot IntKind.u16 a1 4096 ≤ 65535 := v1
      have uq' : (opc (bits BinOp.or IntKind.u16 a1 4096) - opc (bits BinOp.andNot IntKind.u16 a1 4096) == 2) = true := by rw [beq_iff_eq]; exact uq
      have r0 := opc_bounds (bits BinOp.or IntKind.u16 a1 4096)
      have r1 := opc_bounds (bits BinOp.andNot IntKind.u16 a1 4096)
      clear u0 u1 v0 v1 uq
      go_wp2_with fail
      refine (op_calls _ _ _ _ _ _ u0' u1' _).mono ?_
      rintro e w' ⟨rfl, cs4, rfl⟩
      go_wp2_with fail
      refine (op_calls _ _ _ _ _ _ v0' v1' _).mono ?_
      rintro e w' ⟨rfl, cs5, rfl⟩
      go_wp2
      go_roundw
      case rel => exact ⟨2, by omega, by omega, rfl, (HG.out.alloc _ _).alloc _ _⟩
      case measure => simp [intOf]
    · obtain ⟨⟨u0, u1⟩, ⟨v0, v1⟩, uq⟩ := C2.out
      clear C0 C1 C2 C3
      have u0' : 0 ≤ bits BinOp.or IntKind.u16 a1 8192 := u0
      have u1' : bits BinOp.or IntKind.u16 a1 8192 ≤ 65535 := u1
      have v0' : 0 ≤ bits BinOp.andNot IntKind.u16 a1 8192 := v0
      have v1' : bits BinOp.andNot IntKind.u16 a1 8192 ≤ 65535 := v1
      have uq' : (opc (bits BinOp.or IntKind.u16 a1 8192) - opc (bits BinOp.andNot IntKind.u16 a1 8192) == 4) = true := by rw [beq_iff_eq]; exact uq
      have r0 := opc_bounds (bits BinOp.or IntKind.u16 a1 8192)
      have r1 := opc_bounds (bits BinOp.andNot IntKind.u16 a1 8192)
      clear u0 u1 v0 v1 uq
      go_wp2_with fail
      refine (op_calls _ _ _ _ _ _ u0' u1' _).mono ?_
      rintro e w' ⟨rfl, cs4, rfl⟩
      go_wp2_with fail
      refine (op_calls _ _ _ _ _ _ v0' v1' _).mono ?_
      rintro e w' ⟨rfl, cs5, rfl⟩
      go_wp2
      go_roundw
      case rel => exact ⟨3, by omega, by omega, rfl, (HG.out.alloc _ _).alloc _ _⟩
      case measure => simp [intOf]
    · obtain ⟨⟨u0, u1⟩, ⟨v0, v1⟩, uq⟩ := C3.out
      clear C0 C1 C2 C3
      have u0' : 0 ≤ bits BinOp.or IntKind.u16 a1 16384 := u0
      have u1' : bits BinOp.or IntKind.u16 a1 16384 ≤ 65535 := u1
      have v0' : 0 ≤ bits BinOp.andNot IntKind.u16 a1 16384 := v0
      have v1' : bits BinOp.andNot IntKind.u16 a1 16384 ≤ 65535 := v1
      have uq' : (opc (bits BinOp.or IntKind.u16 a1 16384) - opc (bits BinOp.andNot IntKind.u16 a1 16384) == 8) = true := by rw [beq_iff_eq]; exact uq
      have r0 := opc_bounds (bits BinOp.or IntKind.u16 a1 16384)
      have r1 := opc_bounds (bits BinOp.andNot IntKind.u16 a1 16384)
      clear u0 u1 v0 v1 uq
      go_wp2_with fail
      refine (op_calls _ _ _ _ _ _ u0' u1' _).mono ?_
      rintro e w' ⟨rfl, cs4, rfl⟩
      go_wp2_with fail
      refine (op_calls _ _ _ _ _ _ v0' v1' _).mono ?_
      rintro e w' ⟨rfl, cs5, rfl⟩
      go_wp2
      go_roundw
      case rel => exact ⟨4, by omega, by omega, rfl, (HG.out.alloc _ _).alloc _ _⟩
      case measure => simp [intOf]

/-! ### THE ROW's STEP: WRITTEN OUT: LEAVE IT -/
set_option maxRecDepth 100000 in
theorem lifted (os : Os) (started : os.Started) (H : Type) (enc : TypeId × Value → H) :
    ReturnsInHanded {} Try.checked os 3 .any (Rows.fnOpcodeReadsExactlyTheFourOpcodeBitsSpec.pre6 enc Try.prog Try.f3 Rows.fnOpcodeReadsExactlyTheFourOpcodeBitsRow.domain false) (Rows.fnOpcodeReadsExactlyTheFourOpcodeBitsSpec.post enc Try.prog Try.f3 false true false false) := by
  refine returnsInHanded_of_change (C := Try.checked) own started (by kernel_rfl) Try.func3
    (ChangeSpec.witness6 (enc := enc) (C := Try.checked) false ⟨#[], #[.int .u16 0, .int .u16 0, .int .u16 0, .int .u16 0, .int .u16 0, .int .u16 0, .int .u16 0], []⟩ 8 (by kernel_rfl) (by kernel_rfl) (by kernel_rfl) (by kernel_rfl)) ?_
  intro W base args ds gs before hval0 hW hcnd _
  have hval : ∀ (j : Nat) t v, Try.f3.params[j]? = some t → args[j]? = some v → Value.okWide Try.prog W .any base t v := hval0
  have hW' := hW
  obtain ⟨p, q, hA0, hV, rfl, hfz, hnd⟩ := hW
  have hA : DataW.TrodAll enc Try.prog W 0 (fun _ => true) true Try.f3.params.toList args.toList ds p := hA0
  rw [Try.params3] at hA hval
  obtain ⟨v0, vs0, d0, ds0, p0, q0, hargs, rfl, rfl, h0, r0⟩ := trodAll_cons hA
  obtain ⟨v1, vs1, d1, ds1, p1, q1, rfl, rfl, rfl, h1, r1⟩ := trodAll_cons r0
  obtain ⟨v2, vs2, d2, ds2, p2, q2, rfl, rfl, rfl, h2, r2⟩ := trodAll_cons r1
  obtain ⟨v3, vs3, d3, ds3, p3, q3, rfl, rfl, rfl, h3, r3⟩ := trodAll_cons r2
  obtain ⟨v4, vs4, d4, ds4, p4, q4, rfl, rfl, rfl, h4, r4⟩ := trodAll_cons r3
  obtain ⟨v5, vs5, d5, ds5, p5, q5, rfl, rfl, rfl, h5, r5⟩ := trodAll_cons r4
  obtain ⟨v6, vs6, d6, ds6, p6, q6, rfl, rfl, rfl, h6, r6⟩ := trodAll_cons r5
  obtain ⟨rfl, rfl, rfl⟩ := trodAll_nil r6
  obtain rfl : args = #[v0, v1, v2, v3, v4, v5, v6] := by cases args; simp_all
  obtain ⟨rfl, rfl⟩ := trodVars_none hV
  obtain ⟨a0, rfl, rfl, rfl, w0⟩ := open_int Try.underlying22 (hval 0 22 v0 rfl rfl) h0
  obtain ⟨a1, rfl, rfl, rfl, w1⟩ := open_int Try.underlying22 (hval 1 22 v1 rfl rfl) h1
  obtain ⟨a2, rfl, rfl, rfl, w2⟩ := open_int Try.underlying22 (hval 2 22 v2 rfl rfl) h2
  obtain ⟨a3, rfl, rfl, rfl, w3⟩ := open_int Try.underlying22 (hval 3 22 v3 rfl rfl) h3
  obtain ⟨a4, rfl, rfl, rfl, w4⟩ := open_int Try.underlying22 (hval 4 22 v4 rfl rfl) h4
  obtain ⟨a5, rfl, rfl, rfl, w5⟩ := open_int Try.underlying22 (hval 5 22 v5 rfl rfl) h5
  obtain ⟨a6, rfl, rfl, rfl, w6⟩ := open_int Try.underlying22 (hval 6 22 v6 rfl rfl) h6
  clear hA0 hval0
  simp only [List.append_nil] at hW'
  refine (walk a0 a1 a2 a3 a4 a5 a6 w0 w1 w2 w3 w4 w5 w6 W).mono fun e W' ⟨he, hg⟩ => ?_
  subst he
  exact ⟨_, rfl, post_of_same (pa := []) (pv := []) hW' (fun _ _ _ => (trodAll_cons_mk (shut_bool Try.underlying4 _) trodAll_mk0)) (fun sp _ => (trodAll_cons_mk (shut_int Try.underlying22 w0) (trodAll_cons_mk (shut_int Try.underlying22 w1) (trodAll_cons_mk (shut_int Try.underlying22 w2) (trodAll_cons_mk (shut_int Try.underlying22 w3) (trodAll_cons_mk (shut_int Try.underlying22 w4) (trodAll_cons_mk (shut_int Try.underlying22 w5) (trodAll_cons_mk (shut_int Try.underlying22 w6) trodAll_mk0)))))))) (fun _ _ => rfl) rfl
    (hg.frame _) hg.2.1 (ok_one (by kernel_rfl) rfl (okWide_bool_mk Try.underlying4 _))⟩

theorem over : Rows.fnOpcodeReadsExactlyTheFourOpcodeBitsRow.holds Try.pinned (OpenSpec.ofChange Rows.fnOpcodeReadsExactlyTheFourOpcodeBitsSpec) :=
  OpenClaim.holds_of_wide 3 Try.f3 rfl rfl rfl rfl rfl rfl rfl ⟨rfl, rfl, rfl, rfl, rfl⟩ rfl rfl rfl rfl rfl (by kernel_rfl) Try.func3 (by kernel_rfl)
    (of_decide_eq_true (by kernel_rfl)) (by unfold Func.isWrapper; first | (rw [if_pos (by decide +kernel)]; kernel_rfl) | (rw [if_neg (by decide +kernel)]; exact ⟨rfl, rfl⟩))
    (fun os started H enc _ => lifted os started H enc)

/-- ████ THE STATEMENT ████ -/
theorem proved : Rows.FnOpcodeReadsExactlyTheFourOpcodeBitsSaid :=
  over
end Go.Proofs.Qxb6618335a.fnOpcodeReadsExactlyTheFourOpcodeBits
