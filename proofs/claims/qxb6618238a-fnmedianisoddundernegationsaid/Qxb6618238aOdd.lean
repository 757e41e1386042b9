/-
  The law FnMedianIsOddUnderNegation: its walk and its row.
-/
import Derived.Test.Qxb6618238aParts
import Derived.ProofKit
import Derived.OpenShut
import Derived.ChangeOld
import Derived.Below
namespace Go.Proofs.Qxb6618238a
open Go.RowKit

attribute [local go_sem] run_store_float unary_neg_float
set_option maxHeartbeats 4000000 in
theorem odd_main (b off cap len : Nat) (zs : List Nat) (hzl : zs.length = len) (hne : 1 ≤ len) (hlen : len ≤ 4096) (w : World) (hb : b < w.heap.size) (hI : RowIs w b off zs) :
    Calls Try.prog 4 #[.slice (some ⟨b, off, none⟩) len cap] w fun e w' => e = .returned (.bool true) ∧ Below w.heap.size w w' := by
  have hmk := fun w => run_make_row' 22 24 (.float .f64 0) 8 Try.underlying22 info24 rfl .i64 .i64 len (by omega) (by omega) w
  have hz : ((len : Int) == 0) = false := by rw [beq_eq_false_iff_ne]; omega
  have hz4 : decide ((4096 : Int) < (len : Int)) = false := decide_eq_false (by omega)
  have HI : Hid (RowIs w b off zs) := hI
  obtain ⟨L, hL⟩ : ∃ L : List Value, (madeCells #[Value.float .f64 0] len) = L.toArray := ⟨(madeCells #[Value.float .f64 0] len).toList, by simp⟩
  have hLl : L.length = len := by
    have := congrArg Array.size hL
    simp [madeCells] at this
    omega
  rw [hL] at hmk
  have HL : Hid ((madeCells #[Value.float .f64 0] len) = L.toArray) := hL
  clear hL hI
  have hB1 : Below w.heap.size w (w.alloc (.cells L.toArray 24)) := (Below.refl _ w).alloc (Nat.le_refl _) _
  have hg1 : (w.alloc (.cells L.toArray 24)).heap[w.heap.size]? = some (.cells L.toArray 24 (0, 0)) := World.alloc_heap_new w _
  have HS : Hid (∀ j v, (zs.map encF)[j]? = some v → (w.alloc (.cells L.toArray 24)).cell? ((⟨b, off, none⟩ : Addr).add j) = some v) := by
    intro j v hv
    have hj : j < zs.length := by
      have := (List.getElem?_eq_some_iff.1 hv).1
      simpa using this
    rw [List.getElem?_map, List.getElem?_eq_getElem hj] at hv
    have := (hB1.cell (p := ⟨b, off + j, none⟩) hb).trans (HI.out j hj)
    rw [List.getElem?_eq_getElem hj] at this
    simp only [Option.map_some, Option.some.injEq, Option.getD_some] at hv this
    rw [← hv, Go.WideShapes.add_plain]
    exact this
  have HB1 : Hid (Below w.heap.size w (w.alloc (.cells L.toArray 24))) := hB1
  have HG1 : Hid ((w.alloc (.cells L.toArray 24)).heap[w.heap.size]? = some (.cells L.toArray 24 (0, 0))) := hg1
  clear hB1 hg1
  go_enter Try.func4, Try.ntmps4
  go_wp2_with fail
  refine (bytes9_f _ len cap (by omega) _).mono ?_
  rintro e w' ⟨rfl, hw⟩
  obtain rfl := hw.symm
  clear hw
  go_wp2_with (refine wpList_copy_splice rfl _ _ 22 22 rfl 24 Try.underlying22 size24 (some ⟨w.heap.size, 0, none⟩) (some ⟨b, off, none⟩) len len len cap rfl rfl w.heap.size 0 L 24 HG1.out (zs.map encF) (by simp; omega) (fun _ => ⟨rfl, ⟨b, off, none⟩, rfl, HS.out⟩) (by simp; omega) (fun v hv => by obtain ⟨x, _, rfl⟩ := List.mem_map.1 hv; rfl) w.heap.size w HB1.out (Nat.le_refl _) ?_; intro W1 hW1 hBW1)
  have hI1 : RowIs W1 w.heap.size 0 zs := row_spliced (by omega) hW1.out
  have hgl1 : w.heap.size < W1.heap.size := (Array.getElem?_eq_some_iff.1 hW1.out).1
  have HBW1 : Hid (Below w.heap.size w W1) := hBW1
  have HI1 : Hid (RowIs W1 w.heap.size 0 zs) := hI1
  clear hI1 hW1 HS HB1 HG1 hBW1
  refine (zzMedian_f w.heap.size 0 len len zs hzl hne hlen W1 hgl1 HI1.out).mono ?_
  rintro e W2 ⟨m, rfl, hm, hB2⟩
  have HM : Hid (MedOf zs m) := hm
  have HB2 : Hid (Below W1.heap.size W1 W2) := hB2
  have HI2 : Hid (RowIs W2 w.heap.size 0 zs) := HI1.out.below hB2 hgl1
  clear hm hB2 HI1
  go_wp2_with fail
  refine (model_f w.heap.size 0 len len zs hzl hne hlen W2 HI2.out).mono ?_
  rintro e w' ⟨m', rfl, hm', n0, rfl⟩
  have hsame : sameF m m' = true := med_model (by omega) HM.out hm'
  clear hm'
  go_wp2_with fail
  refine (sameF_f m m' _).mono ?_
  rintro e w' ⟨rfl, hw⟩
  obtain rfl := hw.symm
  clear hw
  rw [hsame]
  have HI3 : Hid (RowIs (W2.drewN n0) w.heap.size 0 zs) := HI2.out.drewN n0
  have HB3 : Hid (Below w.heap.size w (W2.drewN n0)) := (HBW1.out.trans (HB2.out.mono HBW1.out.size)).trans (below_drewN (Below.refl _ _) n0)
  have hgl3 : w.heap.size < (W2.drewN n0).heap.size := Nat.lt_of_lt_of_le hgl1 HB2.out.size
  clear HI2 HB2 HBW1 hgl1 hsame
  generalize W2.drewN n0 = W3 at *
  obtain ⟨G, hG⟩ : ∃ G : Nat → Nat, ∀ t, G t = zs[t]?.getD 0 := ⟨fun t => zs[t]?.getD 0, fun _ => rfl⟩
  have HG : Hid (∀ t, G t = zs[t]?.getD 0) := hG
  clear hG
  go_wp2
  go_loopw [5] (fun vi wr => ∃ (i n : Nat), vi = .int .i64 i ∧ i ≤ len ∧ Hid (∀ t, t < i → nanF (G t) = false) ∧ wr = W3.drewN n) (fun vi _ => len - (intOf vi).toNat)
  case atStart => exact ⟨0, 0, rfl, Nat.zero_le _, fun t ht => absurd ht (Nat.not_lt_zero _), rfl⟩
  case round =>
    obtain ⟨i, n, rfl, hi, hno, hw⟩ := hrel
    have HW : Hid (wr = W3.drewN n) := hw
    clear hw
    by_cases hil : i < len
    · have hc : wr.cell? ⟨w.heap.size, i, none⟩ = some (.float .f64 (G i)) := by rw [HW.out, HG.out]; exact HI3.out.at0 (by omega)
      cases hn : nanF (G i) with
      | true =>
        have en : (FloatKind.f64.format.order (G i) (G i) != some .eq) = true := hn
        clear hn
        go_wp2_with fail
        go_region
        all_goals
          go_wp2
          go_ret
          exact ⟨rfl, by rw [HW.out]; exact (below_drewN HB3.out n).drew⟩
      | false =>
        have HN : Hid (nanF (G i) = false) := hn
        have en : (FloatKind.f64.format.order (G i) (G i) != some .eq) = false := hn
        clear hn
        go_wp2_with fail
        go_region
        all_goals
          go_wp2
          go_roundw
          case rel =>
            refine ⟨i + 1, n + 1, by go_num, by omega, fun t ht => ?_, by rw [HW.out]; rfl⟩
            rcases Nat.lt_or_ge t i with h | h
            · exact hno.out t h
            · obtain rfl : t = i := by omega
              exact HN.out
          case measure => simp [intOf]; omega
    · obtain rfl : len = i := by omega
      have HI4 : Hid (RowIs wr w.heap.size 0 zs) := by show RowIs _ _ _ _; rw [HW.out]; exact HI3.out.drewN n
      have HB4 : Hid (Below w.heap.size w wr) := by show Below _ _ _; rw [HW.out]; exact below_drewN HB3.out n
      have hgl4 : w.heap.size < wr.heap.size := by rw [HW.out]; exact hgl3
      clear HI3 HB3 hgl3 HW
      rename World => W4
      have HH0 : Hid (Sort.Holds encF (W4.alloc (.cells L.toArray 24)) W4.heap.size 0 (Array.replicate len 0)) := by
        have := holds_made W4 len
        rw [HL.out] at this
        exact this
      have HB5 : Hid (Below W4.heap.size W4 (W4.alloc (.cells L.toArray 24))) := (Below.refl _ _).alloc (Nat.le_refl _) _
      have HSZ : Hid (W4.heap.size < (W4.alloc (.cells L.toArray 24)).heap.size) := by show _ < _; simp
      go_wp2
      go_loopw [7] (fun vi wr => ∃ (i : Nat) (d : Array Nat), vi = .int .i64 i ∧ i ≤ len ∧ d.size = len ∧ Hid (∀ t, t < i → d[t]! = negF (G t)) ∧ Hid (Sort.Holds encF wr W4.heap.size 0 d) ∧ Hid (Below W4.heap.size W4 wr) ∧ W4.heap.size < wr.heap.size) (fun vi _ => len - (intOf vi).toNat)
      case atStart => exact ⟨0, Array.replicate len 0, rfl, Nat.zero_le _, by simp, fun t ht => absurd ht (Nat.not_lt_zero _), HH0.out, HB5.out, HSZ.out⟩
      case round =>
        obtain ⟨i, d, rfl, hi, hds, hdn, hH, hB, hsz⟩ := hrel
        clear HH0 HB5 HSZ
        by_cases hil : i < len
        · have hc : wr.cell? ⟨w.heap.size, i, none⟩ = some (.float .f64 (G i)) := by rw [hB.out.cell (p := ⟨w.heap.size, i, none⟩) hgl4, HG.out]; exact HI4.out.at0 (by omega)
          obtain ⟨y, hy⟩ : ∃ y, d[i]! = y := ⟨_, rfl⟩
          have hcs := hH.out i (by omega)
          rw [Nat.zero_add, hy] at hcs
          obtain ⟨hc2, hf2⟩ := hcs
          have hc2' : wr.cell? ⟨W4.heap.size, i, none⟩ = some (.float .f64 y) := hc2
          clear hc2 hy
          go_wp2
          go_roundw
          case rel =>
            refine ⟨i + 1, d.setIfInBounds i (negF (G i)), by go_num, by omega, by simp [hds], fun t ht => ?_, holds_store hH.out i _ (by omega), hB.out.setCell (p := ⟨W4.heap.size, i, none⟩) (Nat.le_refl _) _, by simpa using hsz⟩
            rcases Nat.lt_or_ge t i with h | h
            · rw [Sort.getElem!_set_other _ _ _ _ (by omega)]
              exact hdn.out t h
            · obtain rfl : t = i := by omega
              exact Sort.getElem!_set_same _ _ _ (by omega)
          case measure => simp [intOf]; omega
        · obtain rfl : len = i := by omega
          have hde : d.toList = zs.map negF := by
            apply List.ext_getElem
            · simp [hds, hzl]
            · intro t h1 h2
              have ht : t < len := by simpa [hds] using h1
              have htz : t < zs.length := by omega
              have e := hdn.out t ht
              rw [getElem!_pos d t (by omega), HG.out, List.getElem?_eq_getElem htz] at e
              simpa using e
          have HR : Hid (RowIs wr W4.heap.size 0 (zs.map negF)) := by
            show RowIs _ _ _ _
            rw [← hde]
            exact holds_row hH.out
          have hnn : ∀ x ∈ zs, x % W ≤ R := by
            intro x hx
            obtain ⟨t, ht, rfl⟩ := List.mem_iff_getElem.1 hx
            have := hno.out t (by omega)
            rw [HG.out, List.getElem?_eq_getElem ht, nanF_eq] at this
            simpa using this
          have HNN : Hid (∀ x ∈ zs, x % W ≤ R) := hnn
          clear hnn hde hH hdn
          go_wp2_with fail
          refine (zzMedian_f W4.heap.size 0 len len (zs.map negF) (by simpa using hzl) hne hlen wr hsz HR.out).mono ?_
          rintro e W6 ⟨m2, rfl, hm2, hB6⟩
          have hsame : sameF m2 (negF m) = true := med_neg (by omega) HNN.out HM.out hm2
          have HS2 : Hid (sameF m2 (negF m) = true) := hsame
          have HB6 : Hid (Below wr.heap.size wr W6) := hB6
          clear hm2 hB6 hsame
          go_wp2_with fail
          refine (sameF_f m2 (Op.negFloat .f64 m) _).mono ?_
          rintro e w' ⟨rfl, hw⟩
          obtain rfl := hw.symm
          clear hw
          go_wp2
          go_ret
          refine ⟨congrArg (fun b => Ending.returned (.bool b)) HS2.out, ?_⟩
          have b1 : Below w.heap.size w wr := HB4.out.trans (hB.out.mono (by omega))
          exact b1.trans (HB6.out.mono b1.size)

theorem odd_walk (a : Option Addr) (len cap : Nat) (w : World) (h : IsRowF w a len) :
    Calls Try.prog 4 #[.slice a len cap] w fun e w' => e = .returned (.bool true) ∧ Below w.heap.size w w' := by
  obtain ⟨hm, hr⟩ := h
  by_cases h1 : 1048576 < len
  · clear hr
    go_enter Try.func4, Try.ntmps4
    go_wp2_with fail
    refine (bytes9_no a len cap h1 hm _).mono ?_
    rintro e w' ⟨rfl, hw⟩
    obtain rfl := hw.symm
    go_wp2
    go_ret
    exact ⟨rfl, Below.refl _ _⟩
  by_cases h2 : 4096 < len
  · clear hr
    go_enter Try.func4, Try.ntmps4
    go_wp2_with fail
    refine (bytes9_f a len cap (by omega) _).mono ?_
    rintro e w' ⟨rfl, hw⟩
    obtain rfl := hw.symm
    go_wp2
    go_ret
    exact ⟨rfl, Below.refl _ _⟩
  by_cases h3 : len = 0
  · subst h3
    clear hr
    go_enter Try.func4, Try.ntmps4
    go_wp2_with fail
    refine (bytes9_f a 0 cap (by omega) _).mono ?_
    rintro e w' ⟨rfl, hw⟩
    obtain rfl := hw.symm
    go_wp2
    go_ret
    exact ⟨rfl, Below.refl _ _⟩
  obtain ⟨b, off, zs, rfl, hb, hzl, hI⟩ := hr (by omega)
  exact odd_main b off cap len zs hzl (by omega) (by omega) w hb hI

namespace fnMedianIsOddUnderNegation
open Go.ChangeShapes Go.WideShapes Go.ChangeAt
theorem own : ownKnob Try.prog.godebug = none := by kernel_rfl
theorem laidOut : laidOutB Try.prog = true := by kernel_rfl

set_option maxRecDepth 100000 in
theorem lifted (os : Os) (started : os.Started) (H : Type) (enc : TypeId × Value → H) :
    ReturnsInHanded {} Try.checked os 4 .any (Rows.fnMedianIsOddUnderNegationSpec.pre6 enc Try.prog Try.f4 Rows.fnMedianIsOddUnderNegationRow.domain false) (Rows.fnMedianIsOddUnderNegationSpec.post enc Try.prog Try.f4 false true false false) := by
  refine returnsInHanded_of_change (C := Try.checked) own started (by kernel_rfl) Try.func4
    (ChangeSpec.witness6 (enc := enc) (C := Try.checked) false ⟨#[], #[.slice none 0 0], []⟩ 8 (by kernel_rfl) (by kernel_rfl) (by kernel_rfl) (by kernel_rfl)) ?_
  intro W base args ds gs before hval0 hW _ _
  have hval : ∀ (j : Nat) t v, Try.f4.params[j]? = some t → args[j]? = some v → Value.okWide Try.prog W .any base t v := hval0
  have hW' := hW
  obtain ⟨p, q, hA0, hV, rfl, hfz, hnd⟩ := hW
  have hA : DataW.TrodAll enc Try.prog W 0 (fun _ => true) true Try.f4.params.toList args.toList ds p := hA0
  rw [Try.params4] at hA hval
  obtain ⟨v0, vs0, d0, ds0, p0, q0, hargs, rfl, rfl, h0, r0⟩ := trodAll_cons hA
  obtain ⟨rfl, rfl, rfl⟩ := trodAll_nil r0
  obtain rfl : args = #[v0] := by cases args; simp_all
  obtain ⟨rfl, rfl⟩ := trodVars_none hV
  obtain ⟨a0, len0, cap0, rfl⟩ := okWide_slice Try.underlying22 (hval 0 22 v0 rfl rfl)
  have lt0 : ∀ x ∈ p0, x.block < W.heap.size := by obtain ⟨m, hm⟩ := h0; exact DataW.trod_lt m _ _ _ hm
  clear hA0 hval0
  refine (odd_walk a0 len0 cap0 W (isRow_of h0)).mono fun e W' ⟨he, bel⟩ => ?_
  subst he
  exact ⟨_, rfl, _, _, _, [], _, [], hW', trodAll_mk1 (shut_bool Try.underlying4 _), (trodAll_cons_mk (Below.trod laidOut (by kernel_rfl) (of_decide_eq_true (by kernel_rfl)) h0 bel lt0) trodAll_mk0), rfl, bel.frame _, fun h => by cases h⟩

theorem over : Rows.fnMedianIsOddUnderNegationRow.holds Try.pinned (OpenSpec.ofChange Rows.fnMedianIsOddUnderNegationSpec) :=
  OpenClaim.holds_of_wide 4 Try.f4 rfl rfl rfl rfl rfl rfl rfl ⟨rfl, rfl, rfl, rfl, rfl⟩ rfl rfl rfl rfl rfl (by kernel_rfl) Try.func4 (by kernel_rfl)
    (of_decide_eq_true (by kernel_rfl)) (by unfold Func.isWrapper; first | (rw [if_pos (by decide +kernel)]; kernel_rfl) | (rw [if_neg (by decide +kernel)]; exact ⟨rfl, rfl⟩))
    (fun os started H enc _ => lifted os started H enc)

/-- The statement. -/
theorem proved : Rows.FnMedianIsOddUnderNegationSaid := over
end fnMedianIsOddUnderNegation
end Go.Proofs.Qxb6618238a
