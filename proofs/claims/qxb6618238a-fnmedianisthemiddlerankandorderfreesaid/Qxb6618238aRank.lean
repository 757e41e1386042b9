/-
  The laws' own helpers: zzLessF, zzSameF, zzAtRank, zzMedianModel, zzBytes.
-/
import Derived.Test.Qxb6618238aMed
import Derived.CellFam
import Derived.Deep.Draws
import Derived.Deep.QuietTactic
import Derived.BigGuard
import Derived.BigCall
namespace Go.Proofs.Qxb6618238a
open Go.RowKit

theorem lessF_f (x y : Nat) (w : World) : Calls Try.prog 14 #[.float .f64 x, .float .f64 y] w fun e w' => e = .returned (.bool (ltF x y)) ∧ w' = w := by
  have H : Hid (ltF x y = ((nanF x && !nanF y) || FloatKind.f64.format.order x y == some .lt)) := rfl
  have ex : (FloatKind.f64.format.order x x != some .eq) = nanF x := rfl
  have ey : (FloatKind.f64.format.order y y == some .eq) = !nanF y := by unfold nanF; simp [bne]
  cases hx : nanF x <;> cases hy : nanF y <;> rw [hx] at ex <;> rw [hy] at ey
  all_goals
    go_enter Try.func14, Try.ntmps14
    go_wp2
    go_ret
    refine ⟨?_, rfl⟩
    rw [H.out]
    simp [hx, hy]

theorem sameF_f (x y : Nat) (w : World) : Calls Try.prog 7 #[.float .f64 x, .float .f64 y] w fun e w' => e = .returned (.bool (sameF x y)) ∧ w' = w := by
  have H : Hid (sameF x y = ((nanF x && nanF y) || FloatKind.f64.format.order x y == some .eq)) := rfl
  have ex : (FloatKind.f64.format.order x x != some .eq) = nanF x := rfl
  have ey : (FloatKind.f64.format.order y y != some .eq) = nanF y := rfl
  cases hx : nanF x <;> cases hy : nanF y <;> rw [hx] at ex <;> rw [hy] at ey
  all_goals
    go_enter Try.func7, Try.ntmps7
    go_wp2
    go_ret
    refine ⟨?_, rfl⟩
    rw [H.out]
    simp [hx, hy]

/-! ### zzAtRank -/
theorem belowC_take (zs : List Nat) (x j : Nat) (hj : j < zs.length) : belowC (zs.take (j + 1)) x = belowC (zs.take j) x + (ltF (zs[j]?.getD 0) x).toNat := by
  unfold belowC
  rw [List.take_succ_eq_append_getElem hj, List.countP_append, List.countP_singleton]
  simp only [List.getElem?_eq_getElem hj, Option.getD_some]
  cases ltF zs[j] x <;> rfl
theorem uptoC_take (zs : List Nat) (x j : Nat) (hj : j < zs.length) : uptoC (zs.take (j + 1)) x = uptoC (zs.take j) x + (!ltF x (zs[j]?.getD 0)).toNat := by
  unfold uptoC
  rw [List.take_succ_eq_append_getElem hj, List.countP_append, List.countP_singleton]
  simp only [List.getElem?_eq_getElem hj, Option.getD_some]
  cases ltF x zs[j] <;> rfl
theorem belowC_le (zs : List Nat) (x j : Nat) : belowC (zs.take j) x ≤ j := Nat.le_trans List.countP_le_length (by rw [List.length_take]; omega)
theorem uptoC_le (zs : List Nat) (x j : Nat) : uptoC (zs.take j) x ≤ j := Nat.le_trans List.countP_le_length (by rw [List.length_take]; omega)

set_option maxHeartbeats 3200000 in
set_option maxRecDepth 100000 in
theorem atRank_f (b off cap k len : Nat) (zs : List Nat) (hzl : zs.length = len) (hk : k < len) (hlen : len ≤ 4096) (w : World) (hI : RowIs w b off zs) :
    Calls Try.prog 11 #[.slice (some ⟨b, off, none⟩) len cap, .int .i64 k] w fun e w' => ∃ x, e = .returned (.float .f64 x) ∧ AtRank zs k x ∧ ∃ n, w' = w.drewN n := by
  obtain ⟨G, hG⟩ : ∃ G : Nat → Nat, ∀ t, G t = zs[t]?.getD 0 := ⟨fun t => zs[t]?.getD 0, fun _ => rfl⟩
  have hcw : ∀ t, t < len → w.cell? ⟨b, off + t, none⟩ = some (.float .f64 (G t)) := fun t ht => by rw [hG]; exact hI t (by omega)
  have HEX : Hid (∃ i, i < len ∧ AtRank zs k (G i)) := by
    obtain ⟨i, hi, h⟩ := rank_exists zs k (by omega)
    exact ⟨i, by omega, by rw [hG, List.getElem?_eq_getElem hi]; exact h⟩
  have HG : Hid (∀ t, G t = zs[t]?.getD 0) := hG
  clear hG hI
  go_enter Try.func11, Try.ntmps11
  go_wp2
  go_loopw [5, 6, 7, 8] (fun vi _ _ _ wr => ∃ (i n : Nat), vi = .int .i64 i ∧ i ≤ len ∧ Hid (∀ t, t < i → ¬ AtRank zs k (G t)) ∧ wr = w.drewN n) (fun vi _ _ _ _ => len - (intOf vi).toNat)
  case atStart => exact ⟨0, 0, rfl, Nat.zero_le _, fun t ht => absurd ht (Nat.not_lt_zero _), rfl⟩
  case round =>
    obtain ⟨i, n, rfl, hi, hno, hw⟩ := hrel
    have HW : Hid (wr = w.drewN n) := hw
    clear hw
    by_cases hil : i < len
    · -- the functions of the counts
      obtain ⟨cb, hcb⟩ : ∃ cb : Nat → Nat, ∀ j, cb j = belowC (zs.take j) (G i) := ⟨fun j => belowC (zs.take j) (G i), fun _ => rfl⟩
      obtain ⟨cu, hcu⟩ : ∃ cu : Nat → Nat, ∀ j, cu j = uptoC (zs.take j) (G i) := ⟨fun j => uptoC (zs.take j) (G i), fun _ => rfl⟩
      have HB : Hid (∀ j, j < len → cb (j + 1) = cb j + (ltF (G j) (G i)).toNat) := fun j hj => by rw [hcb, hcb, HG.out j]; exact belowC_take zs _ j (by omega)
      have HU : Hid (∀ j, j < len → cu (j + 1) = cu j + (!ltF (G i) (G j)).toNat) := fun j hj => by rw [hcu, hcu, HG.out j]; exact uptoC_take zs _ j (by omega)
      have HBL : Hid (∀ j, cb j ≤ j) := fun j => by rw [hcb]; exact belowC_le _ _ _
      have HUL : Hid (∀ j, cu j ≤ j) := fun j => by rw [hcu]; exact uptoC_le _ _ _
      have HR : Hid (AtRank zs k (G i) ↔ cb len ≤ k ∧ k < cu len) := by
        show _ ↔ _
        rw [hcb, hcu, List.take_of_length_le (by omega)]
        exact Iff.rfl
      have HZ : Hid (cb 0 = 0 ∧ cu 0 = 0) := ⟨by rw [hcb]; rfl, by rw [hcu]; rfl⟩
      clear hcb hcu
      go_wp2
      go_loopw [6, 7, 8] (fun vb vu vj wr2 => ∃ (j m : Nat), vb = .int .i64 (cb j) ∧ vu = .int .i64 (cu j) ∧ vj = .int .i64 j ∧ j ≤ len ∧ wr2 = w.drewN m) (fun _ _ vj _ => len - (intOf vj).toNat)
      case atStart => exact ⟨0, n, by rw [HZ.out.1]; rfl, by rw [HZ.out.2]; rfl, rfl, Nat.zero_le _, HW.out⟩
      case round =>
        obtain ⟨j, m, rfl, rfl, rfl, hj, hw2⟩ := hrel
        have hbl := HBL.out j
        have hul := HUL.out j
        by_cases hjl : j < len
        · have hc2 : ∀ t, t < len → wr.cell? ⟨b, off + t, none⟩ = some (.float .f64 (G t)) := fun t ht => by rw [hw2]; exact hcw t ht
          have HW2 : Hid (wr = w.drewN m) := hw2
          have sb := HB.out j hjl
          have su := HU.out j hjl
          have SB : Hid (cb (j + 1) = cb j + (ltF (G j) (G i)).toNat) := sb
          have SU : Hid (cu (j + 1) = cu j + (!ltF (G i) (G j)).toNat) := su
          clear hw2 hcw sb su
          go_wp2_with fail
          go_big_quiet (first | (go_at_call 14; refine Calls.quiet_of_same (lessF_f _ _ _)))
          go_wp2_with fail
          · have a1 : ltF (G j) (G i) = true := by assumption
            have A1 : Hid (ltF (G j) (G i) = true) := a1
            revert nq; intro nq1
            have hc3 : ∀ t, t < len → (wr.drewN nq1).cell? ⟨b, off + t, none⟩ = some (.float .f64 (G t)) := hc2
            have HW3 : Hid (wr.drewN nq1 = w.drewN (m + nq1)) := by show _ = _; rw [HW2.out, World.drewN_drewN]
            clear hc2 HW2
            generalize wr.drewN nq1 = wr2 at hc3 HW3 ⊢
            clear a1
            go_big_quiet (first | (go_at_call 14; refine Calls.quiet_of_same (lessF_f _ _ _)))
            go_wp2
            · have a2 : (!ltF (G i) (G j)) = true := by assumption
              have A2 : Hid ((!ltF (G i) (G j)) = true) := a2
              clear a2
              go_roundw
              case rel =>
                have e1 := SB.out
                have e2 := SU.out
                rw [A1.out] at e1
                rw [A2.out] at e2
                refine ⟨j + 1, m + nq1 + nq, ?_, ?_, by go_num, by omega, by rw [HW3.out, World.drewN_drewN]⟩
                · rw [e1]; simp
                · rw [e2]; simp
              case measure => simp [intOf]; omega
            · have a2 : (!ltF (G i) (G j)) = false := by assumption
              have A2 : Hid ((!ltF (G i) (G j)) = false) := a2
              clear a2
              go_roundw
              case rel =>
                have e1 := SB.out
                have e2 := SU.out
                rw [A1.out] at e1
                rw [A2.out] at e2
                refine ⟨j + 1, m + nq1 + nq, ?_, ?_, by go_num, by omega, by rw [HW3.out, World.drewN_drewN]⟩
                · rw [e1]; simp
                · rw [e2]; simp
              case measure => simp [intOf]; omega
          · have a1 : ltF (G j) (G i) = false := by assumption
            have A1 : Hid (ltF (G j) (G i) = false) := a1
            revert nq; intro nq1
            have hc3 : ∀ t, t < len → (wr.drewN nq1).cell? ⟨b, off + t, none⟩ = some (.float .f64 (G t)) := hc2
            have HW3 : Hid (wr.drewN nq1 = w.drewN (m + nq1)) := by show _ = _; rw [HW2.out, World.drewN_drewN]
            clear hc2 HW2
            generalize wr.drewN nq1 = wr2 at hc3 HW3 ⊢
            clear a1
            go_big_quiet (first | (go_at_call 14; refine Calls.quiet_of_same (lessF_f _ _ _)))
            go_wp2
            · have a2 : (!ltF (G i) (G j)) = true := by assumption
              have A2 : Hid ((!ltF (G i) (G j)) = true) := a2
              clear a2
              go_roundw
              case rel =>
                have e1 := SB.out
                have e2 := SU.out
                rw [A1.out] at e1
                rw [A2.out] at e2
                refine ⟨j + 1, m + nq1 + nq, ?_, ?_, by go_num, by omega, by rw [HW3.out, World.drewN_drewN]⟩
                · rw [e1]; simp
                · rw [e2]; simp
              case measure => simp [intOf]; omega
            · have a2 : (!ltF (G i) (G j)) = false := by assumption
              have A2 : Hid ((!ltF (G i) (G j)) = false) := a2
              clear a2
              go_roundw
              case rel =>
                have e1 := SB.out
                have e2 := SU.out
                rw [A1.out] at e1
                rw [A2.out] at e2
                refine ⟨j + 1, m + nq1 + nq, ?_, ?_, by go_num, by omega, by rw [HW3.out, World.drewN_drewN]⟩
                · rw [e1]; simp
                · rw [e2]; simp
              case measure => simp [intOf]; omega
        · obtain rfl : len = j := by omega
          have HW2 : Hid (wr = w.drewN m) := hw2
          clear hw2
          have hcx : wr.cell? ⟨b, off + i, none⟩ = some (.float .f64 (G i)) := by rw [HW2.out]; exact hcw i hil
          clear hcw
          by_cases hr : cb len ≤ k ∧ k < cu len
          · obtain ⟨r1, r2⟩ := hr
            have HF : Hid (AtRank zs k (G i)) := HR.out.2 ⟨r1, r2⟩
            go_wp2
            go_ret
            exact ⟨G i, rfl, HF.out, m, HW2.out⟩
          · have HF : Hid (¬ AtRank zs k (G i)) := fun h => hr (HR.out.1 h)
            have hcase : ¬ cb len ≤ k ∨ (cb len ≤ k ∧ ¬ k < cu len) := by omega
            clear hr
            rcases hcase with r1 | ⟨r1, r2⟩
            all_goals
              go_wp2
              go_roundw
              case rel =>
                refine ⟨i + 1, m, by go_num, by omega, fun t ht => ?_, HW2.out⟩
                rcases Nat.lt_or_ge t i with h | h
                · exact hno.out t h
                · obtain rfl : t = i := by omega
                  exact HF.out
              case measure => simp [intOf]; omega
    · obtain rfl : i = len := by omega
      obtain ⟨i', hi', h⟩ := HEX.out
      exact absurd h (hno.out i' hi')
end Go.Proofs.Qxb6618238a
