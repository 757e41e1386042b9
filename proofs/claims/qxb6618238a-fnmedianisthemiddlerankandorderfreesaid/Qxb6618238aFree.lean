/-
  The law FnMedianIsTheMiddleRankAndOrderFree: its walk and its row.
-/
import Derived.Test.Qxb6618238aParts
import Derived.ProofKit
import Derived.OpenShut
import Derived.ChangeOld
import Derived.Below
import Derived.Maps.AppendAt
namespace Go.Proofs.Qxb6618238a
open Go.RowKit

/-- The turned row while the first loop runs, and while the second does. -/
def T1 (zs : List Nat) (k i : Nat) : List Value := ((zs.drop k).take (i - k)).map encF
def T2 (zs : List Nat) (k i : Nat) : List Value := (zs.drop k ++ zs.take i).map encF
theorem T1_start (zs : List Nat) (k : Nat) : T1 zs k k = [] := by unfold T1; simp
theorem T1_succ (zs : List Nat) {k i : Nat} (hk : k ≤ i) (hi : i < zs.length) : T1 zs k (i + 1) = T1 zs k i ++ [.float .f64 (zs[i]?.getD 0)] := by
  unfold T1
  rw [show i + 1 - k = (i - k) + 1 by omega, List.take_succ_eq_append_getElem (by rw [List.length_drop]; omega), List.map_append]
  congr 1
  simp [List.getElem_drop, show k + (i - k) = i by omega, List.getElem?_eq_getElem hi]
theorem T1_end (zs : List Nat) (k : Nat) : T1 zs k zs.length = T2 zs k 0 := by
  unfold T1 T2
  rw [List.take_of_length_le (by rw [List.length_drop]; omega), List.take_zero, List.append_nil]
theorem T2_succ (zs : List Nat) {k i : Nat} (hi : i < zs.length) : T2 zs k (i + 1) = T2 zs k i ++ [.float .f64 (zs[i]?.getD 0)] := by
  unfold T2
  rw [List.take_succ_eq_append_getElem hi, ← List.append_assoc, List.map_append]
  congr 1
  simp [List.getElem?_eq_getElem hi]

theorem row_owned {w : World} {base k : Nat} {v : Value} {zs : List Nat} (hk : 1 ≤ k) (hz : zs.length = k) (h : w.ownsRow base 24 1 v k (zs.map encF)) :
    ∃ g cap, v = .slice (some ⟨g, 0, none⟩) k cap ∧ g < w.heap.size ∧ RowIs w g 0 zs := by
  rcases h.2 with ⟨_, h0⟩ | ⟨g, cap, cur, rfl, _, hg, r1, r2, r3, r4⟩
  · omega
  · refine ⟨g, cap, rfl, (Array.getElem?_eq_some_iff.1 hg).1, ?_⟩
    intro j hj
    have h1 : (cur.toList.take (k * 1))[j]? = (zs.map encF)[j]? := by rw [r4]
    rw [List.getElem?_take_of_lt (by omega)] at h1
    simp only [World.cell?, hg, Nat.zero_add]
    rw [← Array.getElem?_toList, h1]
    simp [List.getElem?_eq_getElem hj]

attribute [local go_sem] run_store_float
set_option maxHeartbeats 4000000 in
theorem free_main (b off cap len k : Nat) (zs : List Nat) (hzl : zs.length = len) (hne : 1 ≤ len) (hlen : len ≤ 4096) (hk : k ≤ len) (w : World) (hb : b < w.heap.size) (hI : RowIs w b off zs) :
    Calls Try.prog 3 #[.slice (some ⟨b, off, none⟩) len cap, .int .i64 (k : Int)] w fun e w' => e = .returned (.bool true) ∧ Below w.heap.size w w' := by
  obtain ⟨i0, hi, hz0, hz1, hz2⟩ := info_parts info24
  have hmk := fun w => run_make_row' 22 24 (.float .f64 0) 8 Try.underlying22 info24 rfl .i64 .i64 len (by omega) (by omega) w
  have hmk0 : ∀ w, (Instr.makeSlice 22 (.int .i64 0) (.int .i64 (len : Int))).run Try.prog w = .ok (.slice (some ⟨w.heap.size, 0, none⟩) 0 len) (w.alloc (.cells (madeCells #[Value.float .f64 0] len) 24)) := fun w => by
    have hr := run_make (P := Try.prog) w 22 24 i0 (.float .f64 0) Try.underlying22 hi hz0 .i64 .i64 0 len (by omega) (by omega) (by rw [hz2]; omega) (by omega)
    simp only [Int.toNat_natCast, Int.toNat_zero, hz1, Nat.mul_one] at hr
    exact hr
  have hz : ((len : Int) == 0) = false := by rw [beq_eq_false_iff_ne]; omega
  have hz4 : decide ((4096 : Int) < (len : Int)) = false := decide_eq_false (by omega)
  have hzk : decide ((k : Int) < 0) = false := decide_eq_false (by omega)
  have hzk2 : decide ((len : Int) < (k : Int)) = false := decide_eq_false (by omega)
  have HI : Hid (RowIs w b off zs) := hI
  obtain ⟨L, hL⟩ : ∃ L : List Value, (madeCells #[Value.float .f64 0] len) = L.toArray := ⟨(madeCells #[Value.float .f64 0] len).toList, by simp⟩
  have hLl : L.length = len := by
    have := congrArg Array.size hL
    simp [madeCells] at this
    omega
  rw [hL] at hmk hmk0
  clear hL hI
  have hB1 : Below w.heap.size w (w.alloc (.cells L.toArray 24)) := (Below.refl _ w).alloc (Nat.le_refl _) _
  have hg1 : (w.alloc (.cells L.toArray 24)).heap[w.heap.size]? = some (.cells L.toArray 24 (0, 0)) := World.alloc_heap_new w _
  have HS : Hid (∀ j v, (zs.map encF)[j]? = some v → (w.alloc (.cells L.toArray 24)).cell? ((⟨b, off, none⟩ : Addr).add j) = some v) := by
    intro j v hv
    have hj : j < zs.length := by
      have := (List.getElem?_eq_some_iff.1 hv).1
      simpa using this
    rw [List.getElem?_map, List.getElem?_eq_getElem hj] at hv
    have := (hB1.cell (p := ⟨b, off + j, none⟩) hb).trans (HI.out j hj)
    rw [List.getElem?_eq_getElem hj] at this
    simp only [Option.map_some, Option.some.injEq, Option.getD_some] at hv this
    rw [← hv, Go.WideShapes.add_plain]
    exact this
  have HB1 : Hid (Below w.heap.size w (w.alloc (.cells L.toArray 24))) := hB1
  have HG1 : Hid ((w.alloc (.cells L.toArray 24)).heap[w.heap.size]? = some (.cells L.toArray 24 (0, 0))) := hg1
  clear hB1 hg1
  go_enter Try.func3, Try.ntmps3
  go_wp2_with fail
  refine (bytes5_f _ len cap _ (by omega) _).mono ?_
  rintro e w' ⟨rfl, hw⟩
  obtain rfl := hw.symm
  clear hw
  go_wp2_with (refine wpList_copy_splice rfl _ _ 22 22 rfl 24 Try.underlying22 size24 (some ⟨w.heap.size, 0, none⟩) (some ⟨b, off, none⟩) len len len cap rfl rfl w.heap.size 0 L 24 HG1.out (zs.map encF) (by simp; omega) (fun _ => ⟨rfl, ⟨b, off, none⟩, rfl, HS.out⟩) (by simp; omega) (fun v hv => by obtain ⟨x, _, rfl⟩ := List.mem_map.1 hv; rfl) w.heap.size w HB1.out (Nat.le_refl _) ?_; intro W1 hW1 hBW1)
  have hI1 : RowIs W1 w.heap.size 0 zs := row_spliced (by omega) hW1.out
  have hgl1 : w.heap.size < W1.heap.size := (Array.getElem?_eq_some_iff.1 hW1.out).1
  have HBW1 : Hid (Below w.heap.size w W1) := hBW1
  have HI1 : Hid (RowIs W1 w.heap.size 0 zs) := hI1
  clear hI1 hW1 HS HB1 HG1 hBW1
  refine (zzMedian_f w.heap.size 0 len len zs hzl hne hlen W1 hgl1 HI1.out).mono ?_
  rintro e W2 ⟨m, rfl, hm, hB2⟩
  have HM : Hid (MedOf zs m) := hm
  have HB2 : Hid (Below W1.heap.size W1 W2) := hB2
  have HI2 : Hid (RowIs W2 w.heap.size 0 zs) := HI1.out.below hB2 hgl1
  clear hm hB2 HI1
  go_wp2_with fail
  refine (model_f w.heap.size 0 len len zs hzl hne hlen W2 HI2.out).mono ?_
  rintro e w' ⟨m', rfl, hm', n0, rfl⟩
  have hsame : sameF m m' = true := med_model (by omega) HM.out hm'
  clear hm'
  go_wp2_with fail
  refine (sameF_f m m' _).mono ?_
  rintro e w' ⟨rfl, hw⟩
  obtain rfl := hw.symm
  clear hw
  rw [hsame]
  have HI3 : Hid (RowIs (W2.drewN n0) w.heap.size 0 zs) := HI2.out.drewN n0
  have HB3 : Hid (Below w.heap.size w (W2.drewN n0)) := (HBW1.out.trans (HB2.out.mono HBW1.out.size)).trans (below_drewN (Below.refl _ _) n0)
  have hgl3 : w.heap.size < (W2.drewN n0).heap.size := Nat.lt_of_lt_of_le hgl1 HB2.out.size
  clear HI2 HB2 HBW1 hgl1 hsame
  generalize W2.drewN n0 = W3 at *
  obtain ⟨G, hG⟩ : ∃ G : Nat → Nat, ∀ t, G t = zs[t]?.getD 0 := ⟨fun t => zs[t]?.getD 0, fun _ => rfl⟩
  have HG : Hid (∀ t, G t = zs[t]?.getD 0) := hG
  clear hG
  have HR0 : Hid ((W3.alloc (.cells L.toArray 24)).ownsRow W3.heap.size 24 1 (.slice (some ⟨W3.heap.size, 0, none⟩) 0 len) 0 []) := World.ownsRow_made W3 L.toArray len (Nat.le_refl _) (by unfold maxLen; omega) (by simp; omega)
  have HB5 : Hid (Below W3.heap.size W3 (W3.alloc (.cells L.toArray 24))) := (Below.refl _ _).alloc (Nat.le_refl _) _
  go_wp2
  go_loopw [7, 8] (fun vt vi wr => ∃ (i : Nat), vi = .int .i64 i ∧ k ≤ i ∧ i ≤ len ∧ Hid (wr.ownsRow W3.heap.size 24 1 vt (i - k) (T1 zs k i)) ∧ Hid (Below W3.heap.size W3 wr)) (fun _ vi _ => len - (intOf vi).toNat)
  case atStart => exact ⟨k, rfl, Nat.le_refl _, hk, by show World.ownsRow _ _ _ _ _ _ _; rw [T1_start, Nat.sub_self]; exact HR0.out, HB5.out⟩
  case round =>
    clear HR0 HB5
    obtain ⟨i, rfl, hki, hil, hrow, hB⟩ := hrel
    by_cases hlt : i < len
    · have hc : wr.cell? ⟨w.heap.size, i, none⟩ = some (.float .f64 (G i)) := by rw [hB.out.cell (p := ⟨w.heap.size, i, none⟩) hgl3, HG.out]; exact HI3.out.at0 (by omega)
      go_wp2_with (at_builtin; refine wpList_append_own _ rfl _ _ 22 rfl W3.heap.size 24 i0 (.float .f64 0) 1 8 Try.underlying22 hi hz0 hz1 hz2 rfl (by decide) _ _ _ rfl (hrow.out.alloc _) ⟨wr.heap.size, 0, none⟩ 1 1 [.float .f64 (G i)] rfl rfl (cell_one_new _ _ _) (by simp [Value.oneCell']) (by unfold maxLen; omega) (by omega) (by have := hB.out.size; simp; omega) ?_; intro v' w1 hown' hgrow _)
      have hg2 : (wr.alloc (.cells #[.float .f64 (G i)] 24)).grownBy w1 u7.ownBlock := hgrow
      have HB6 : Hid (Below W3.heap.size W3 w1) := (hB.out.alloc hB.out.size _).grown hg2 (by have := hB.out.size; simp; omega) (fun j hj => (hrow.out.lt j hj).1)
      have HO : Hid (w1.ownsRow W3.heap.size 24 1 v' (i + 1 - k) (T1 zs k (i + 1))) := by
        show World.ownsRow _ _ _ _ _ _ _
        rw [T1_succ zs hki (by omega), ← HG.out, show i + 1 - k = i - k + 1 by omega]
        exact hown'
      clear hgrow hg2 hown' hrow hB
      go_wp2
      go_roundw
      case rel => exact ⟨i + 1, by go_num, by omega, by omega, HO.out, HB6.out⟩
      case measure => simp [intOf]; omega
    · obtain rfl : len = i := by omega
      have HR1 : Hid (wr.ownsRow W3.heap.size 24 1 u7 (len - k + 0) (T2 zs k 0)) := by
        show World.ownsRow _ _ _ _ _ _ _
        rw [← T1_end, hzl]
        exact hrow.out
      clear hrow
      go_wp2
      go_loopw [7, 9] (fun vt vi wr2 => ∃ (i : Nat), vi = .int .i64 i ∧ i ≤ k ∧ Hid (wr2.ownsRow W3.heap.size 24 1 vt (len - k + i) (T2 zs k i)) ∧ Hid (Below W3.heap.size W3 wr2)) (fun _ vi _ => k - (intOf vi).toNat)
      case atStart => exact ⟨0, rfl, Nat.zero_le _, HR1.out, hB.out⟩
      case round =>
        clear HR1 hB
        obtain ⟨i, rfl, hik, hrow, hB⟩ := hrel
        by_cases hlt : i < k
        · have hc : wr.cell? ⟨w.heap.size, i, none⟩ = some (.float .f64 (G i)) := by rw [hB.out.cell (p := ⟨w.heap.size, i, none⟩) hgl3, HG.out]; exact HI3.out.at0 (by omega)
          go_wp2_with (at_builtin; refine wpList_append_own _ rfl _ _ 22 rfl W3.heap.size 24 i0 (.float .f64 0) 1 8 Try.underlying22 hi hz0 hz1 hz2 rfl (by decide) _ _ _ rfl (hrow.out.alloc _) ⟨wr.heap.size, 0, none⟩ 1 1 [.float .f64 (G i)] rfl rfl (cell_one_new _ _ _) (by simp [Value.oneCell']) (by unfold maxLen; omega) (by omega) (by have := hB.out.size; simp; omega) ?_; intro v' w1 hown' hgrow _)
          have hg2 : (wr.alloc (.cells #[.float .f64 (G i)] 24)).grownBy w1 u7.ownBlock := hgrow
          have HB6 : Hid (Below W3.heap.size W3 w1) := (hB.out.alloc hB.out.size _).grown hg2 (by have := hB.out.size; simp; omega) (fun j hj => (hrow.out.lt j hj).1)
          have HO : Hid (w1.ownsRow W3.heap.size 24 1 v' (len - k + (i + 1)) (T2 zs k (i + 1))) := by
            show World.ownsRow _ _ _ _ _ _ _
            rw [T2_succ zs (by omega), ← HG.out, show len - k + (i + 1) = len - k + i + 1 by omega]
            exact hown'
          clear hgrow hg2 hown' hrow hB
          go_wp2
          go_roundw
          case rel => exact ⟨i + 1, by go_num, by omega, HO.out, HB6.out⟩
          case measure => simp [intOf]; omega
        · obtain rfl : k = i := by omega
          have hrow' : wr.ownsRow W3.heap.size 24 1 u7 len ((zs.drop k ++ zs.take k).map encF) := by
            have := hrow.out
            rwa [show len - k + k = len by omega] at this
          have hyl : (zs.drop k ++ zs.take k).length = len := by simp; omega
          obtain ⟨g', cap', rfl, hg', hI'⟩ := row_owned hne hyl hrow'
          have HI6 : Hid (RowIs wr g' 0 (zs.drop k ++ zs.take k)) := hI'
          have HP : Hid (zs.Perm (zs.drop k ++ zs.take k)) := by
            have h := (List.perm_append_comm (l₁ := zs.take k) (l₂ := zs.drop k))
            rwa [List.take_append_drop] at h
          clear hrow hrow' hI'
          go_wp2_with fail
          refine (zzMedian_f g' 0 cap' len (zs.drop k ++ zs.take k) hyl hne hlen wr hg' HI6.out).mono ?_
          rintro e W6 ⟨m2, rfl, hm2, hB6⟩
          have hsame : sameF m2 m = true := med_perm (by omega) HP.out HM.out hm2
          have HS2 : Hid (sameF m2 m = true) := hsame
          have HB6 : Hid (Below wr.heap.size wr W6) := hB6
          clear hm2 hB6 hsame
          go_wp2_with fail
          refine (sameF_f m2 m _).mono ?_
          rintro e w' ⟨rfl, hw⟩
          obtain rfl := hw.symm
          clear hw
          go_wp2
          go_ret
          refine ⟨congrArg (fun b => Ending.returned (.bool b)) HS2.out, ?_⟩
          have b1 : Below w.heap.size w wr := HB3.out.trans (hB.out.mono (by omega))
          exact b1.trans (HB6.out.mono b1.size)

theorem free_walk (a : Option Addr) (len cap : Nat) (k : Int) (w : World) (h : IsRowF w a len) (k0 : -9223372036854775808 ≤ k) (k1 : k ≤ 9223372036854775807) :
    Calls Try.prog 3 #[.slice a len cap, .int .i64 k] w fun e w' => e = .returned (.bool true) ∧ Below w.heap.size w w' := by
  obtain ⟨hm, hr⟩ := h
  by_cases h1 : 1048576 < len
  · clear hr
    go_enter Try.func3, Try.ntmps3
    go_wp2_with fail
    refine (bytes5_no a len cap k h1 hm _).mono ?_
    rintro e w' ⟨rfl, hw⟩
    obtain rfl := hw.symm
    go_wp2
    go_ret
    exact ⟨rfl, Below.refl _ _⟩
  by_cases h2 : 4096 < len
  · clear hr
    go_enter Try.func3, Try.ntmps3
    go_wp2_with fail
    refine (bytes5_f a len cap k (by omega) _).mono ?_
    rintro e w' ⟨rfl, hw⟩
    obtain rfl := hw.symm
    go_wp2
    go_ret
    exact ⟨rfl, Below.refl _ _⟩
  by_cases h3 : len = 0
  · subst h3
    clear hr
    go_enter Try.func3, Try.ntmps3
    go_wp2_with fail
    refine (bytes5_f a 0 cap k (by omega) _).mono ?_
    rintro e w' ⟨rfl, hw⟩
    obtain rfl := hw.symm
    go_wp2
    go_ret
    exact ⟨rfl, Below.refl _ _⟩
  have hz : ((len : Int) == 0) = false := by rw [beq_eq_false_iff_ne]; omega
  by_cases h4 : k < 0
  · clear hr
    go_enter Try.func3, Try.ntmps3
    go_wp2_with fail
    refine (bytes5_f a len cap k (by omega) _).mono ?_
    rintro e w' ⟨rfl, hw⟩
    obtain rfl := hw.symm
    go_wp2
    go_ret
    exact ⟨rfl, Below.refl _ _⟩
  by_cases h5 : (len : Int) < k
  · clear hr
    go_enter Try.func3, Try.ntmps3
    go_wp2_with fail
    refine (bytes5_f a len cap k (by omega) _).mono ?_
    rintro e w' ⟨rfl, hw⟩
    obtain rfl := hw.symm
    go_wp2
    go_ret
    exact ⟨rfl, Below.refl _ _⟩
  obtain ⟨b, off, zs, rfl, hb, hzl, hI⟩ := hr (by omega)
  obtain ⟨n, rfl⟩ := Int.eq_ofNat_of_zero_le (show 0 ≤ k by omega)
  exact free_main b off cap len n zs hzl (by omega) (by omega) (by omega) w hb hI

namespace fnMedianIsTheMiddleRankAndOrderFree
open Go.ChangeShapes Go.WideShapes Go.ChangeAt
theorem own : ownKnob Try.prog.godebug = none := by kernel_rfl
theorem laidOut : laidOutB Try.prog = true := by kernel_rfl

set_option maxRecDepth 100000 in
theorem lifted (os : Os) (started : os.Started) (H : Type) (enc : TypeId × Value → H) :
    ReturnsInHanded {} Try.checked os 3 .any (Rows.fnMedianIsTheMiddleRankAndOrderFreeSpec.pre6 enc Try.prog Try.f3 Rows.fnMedianIsTheMiddleRankAndOrderFreeRow.domain false) (Rows.fnMedianIsTheMiddleRankAndOrderFreeSpec.post enc Try.prog Try.f3 false true false false) := by
  refine returnsInHanded_of_change (C := Try.checked) own started (by kernel_rfl) Try.func3
    (ChangeSpec.witness6 (enc := enc) (C := Try.checked) false ⟨#[], #[.slice none 0 0, .int .i64 0], []⟩ 8 (by kernel_rfl) (by kernel_rfl) (by kernel_rfl) (by kernel_rfl)) ?_
  intro W base args ds gs before hval0 hW _ _
  have hval : ∀ (j : Nat) t v, Try.f3.params[j]? = some t → args[j]? = some v → Value.okWide Try.prog W .any base t v := hval0
  have hW' := hW
  obtain ⟨p, q, hA0, hV, rfl, hfz, hnd⟩ := hW
  have hA : DataW.TrodAll enc Try.prog W 0 (fun _ => true) true Try.f3.params.toList args.toList ds p := hA0
  rw [Try.params3] at hA hval
  obtain ⟨v0, vs0, d0, ds0, p0, q0, hargs, rfl, rfl, h0, r0⟩ := trodAll_cons hA
  obtain ⟨v1, vs1, d1, ds1, p1, q1, rfl, rfl, rfl, h1, r1⟩ := trodAll_cons r0
  obtain ⟨rfl, rfl, rfl⟩ := trodAll_nil r1
  obtain rfl : args = #[v0, v1] := by cases args; simp_all
  obtain ⟨rfl, rfl⟩ := trodVars_none hV
  obtain ⟨a0, len0, cap0, rfl⟩ := okWide_slice Try.underlying22 (hval 0 22 v0 rfl rfl)
  have lt0 : ∀ x ∈ p0, x.block < W.heap.size := by obtain ⟨m, hm⟩ := h0; exact DataW.trod_lt m _ _ _ hm
  obtain ⟨a1, rfl, rfl, rfl, w1⟩ := open_int Try.underlying3 (hval 1 3 v1 rfl rfl) h1
  clear hA0 hval0
  refine (free_walk a0 len0 cap0 a1 W (isRow_of h0) (bounds_i64 w1).1 (bounds_i64 w1).2).mono fun e W' ⟨he, bel⟩ => ?_
  subst he
  exact ⟨_, rfl, _, _, _, [], _, [], hW', trodAll_mk1 (shut_bool Try.underlying4 _), (trodAll_cons_mk (Below.trod laidOut (by kernel_rfl) (of_decide_eq_true (by kernel_rfl)) h0 bel lt0) (trodAll_cons_mk (shut_int Try.underlying3 w1) trodAll_mk0)), rfl, bel.frame _, fun h => by cases h⟩

theorem over : Rows.fnMedianIsTheMiddleRankAndOrderFreeRow.holds Try.pinned (OpenSpec.ofChange Rows.fnMedianIsTheMiddleRankAndOrderFreeSpec) :=
  OpenClaim.holds_of_wide 3 Try.f3 rfl rfl rfl rfl rfl rfl rfl ⟨rfl, rfl, rfl, rfl, rfl⟩ rfl rfl rfl rfl rfl (by kernel_rfl) Try.func3 (by kernel_rfl)
    (of_decide_eq_true (by kernel_rfl)) (by unfold Func.isWrapper; first | (rw [if_pos (by decide +kernel)]; kernel_rfl) | (rw [if_neg (by decide +kernel)]; exact ⟨rfl, rfl⟩))
    (fun os started H enc _ => lifted os started H enc)

/-- The statement. -/
theorem proved : Rows.FnMedianIsTheMiddleRankAndOrderFreeSaid := over
end fnMedianIsTheMiddleRankAndOrderFree
end Go.Proofs.Qxb6618238a
