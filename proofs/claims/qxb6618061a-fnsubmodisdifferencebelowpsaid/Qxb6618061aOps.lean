/-
  The contracts of linsolve's residue, addMod, subMod and of the laws' own helpers, over this seat's translation.
-/
import Derived.Test.Qxb6618061aRows
import Derived.WalkKit
import Derived.WalkSpells
import Derived.ProofKit
namespace Go.Proofs.Qxb6618061a
open Go.RowKit

/-! ### Plain functions -/
def addM (a b p : Int) : Int := if a + b < p then a + b else a + b - p
def subM (a b p : Int) : Int := if b ≤ a then a - b else a + p - b

/-! ### Contracts -/
theorem addMod_calls (a b p : Int) (ha : 0 ≤ a) (hb : 0 ≤ b) (hap : a < p) (hbp : b < p) (hp : p < 9223372036854775808) (w : World) :
    Calls Try.prog 14 #[.int .u64 a, .int .u64 b, .int .u64 p] w fun e w' => e = .returned (.int .u64 (addM a b p)) ∧ w = w' := by
  by_cases h : a + b < p
  · have e1 : addM a b p = a + b := by simp [addM, h]
    rw [e1]; clear e1
    go_enter Try.func14, Try.ntmps14
    go_wp2
    go_ret
    exact ⟨rfl, rfl⟩
  · have e1 : addM a b p = a + b - p := by simp [addM, h]
    rw [e1]; clear e1
    go_enter Try.func14, Try.ntmps14
    go_wp2
    go_ret
    exact ⟨rfl, rfl⟩

theorem zzaddMod_calls (a b p : Int) (ha : 0 ≤ a) (hb : 0 ≤ b) (hap : a < p) (hbp : b < p) (hp : p < 9223372036854775808) (w : World) :
    Calls Try.prog 9 #[.int .u64 a, .int .u64 b, .int .u64 p] w fun e w' => e = .returned (.int .u64 (addM a b p)) ∧ w = w' := by
  go_enter Try.func9, Try.ntmps9
  go_wp2_with (go_at_call 14; refine (addMod_calls a b p ha hb hap hbp hp _).mono ?_; rintro e w' ⟨rfl, rfl⟩)
  go_ret
  exact ⟨rfl, rfl⟩

theorem subMod_calls (a b p : Int) (ha : 0 ≤ a) (hb : 0 ≤ b) (hap : a < p) (hbp : b < p) (hp : p < 9223372036854775808) (w : World) :
    Calls Try.prog 15 #[.int .u64 a, .int .u64 b, .int .u64 p] w fun e w' => e = .returned (.int .u64 (subM a b p)) ∧ w = w' := by
  by_cases h : b ≤ a
  · have e1 : subM a b p = a - b := by simp [subM, h]
    rw [e1]; clear e1
    go_enter Try.func15, Try.ntmps15
    go_wp2
    go_ret
    exact ⟨rfl, rfl⟩
  · have e1 : subM a b p = a + p - b := by simp [subM, h]
    rw [e1]; clear e1
    go_enter Try.func15, Try.ntmps15
    go_wp2
    go_ret
    exact ⟨rfl, rfl⟩

theorem zzsubMod_calls (a b p : Int) (ha : 0 ≤ a) (hb : 0 ≤ b) (hap : a < p) (hbp : b < p) (hp : p < 9223372036854775808) (w : World) :
    Calls Try.prog 10 #[.int .u64 a, .int .u64 b, .int .u64 p] w fun e w' => e = .returned (.int .u64 (subM a b p)) ∧ w = w' := by
  go_enter Try.func10, Try.ntmps10
  go_wp2_with (go_at_call 15; refine (subMod_calls a b p ha hb hap hbp hp _).mono ?_; rintro e w' ⟨rfl, rfl⟩)
  go_ret
  exact ⟨rfl, rfl⟩

/-- zzLinIsSumMod, where s is the sum modulo p. -/
theorem isSumMod_calls (a b p : Int) (ha : 0 ≤ a) (hb : 0 ≤ b) (hap : a < p) (hbp : b < p) (hp : p < 9223372036854775808) (w : World) :
    Calls Try.prog 11 #[.int .u64 a, .int .u64 b, .int .u64 p, .int .u64 (addM a b p)] w fun e w' => e = .returned (.bool true) ∧ w = w' := by
  by_cases h : a + b < p
  · have e1 : addM a b p = a + b := by simp [addM, h]
    rw [e1]; clear e1
    have e2 : (a + b == a + b) = true := by simp
    go_enter Try.func11, Try.ntmps11
    go_wp2
    go_ret
    exact ⟨rfl, rfl⟩
  · have e1 : addM a b p = a + b - p := by simp [addM, h]
    rw [e1]; clear e1
    have e2 : (a + b - p == a + b) = false := by rw [beq_eq_false_iff_ne]; omega
    go_enter Try.func11, Try.ntmps11
    go_wp2
    go_ret
    exact ⟨by simp, rfl⟩

/-- zzLinIsDiffMod, where d is the difference modulo p. -/
theorem isDiffMod_calls (a b p : Int) (ha : 0 ≤ a) (hb : 0 ≤ b) (hap : a < p) (hbp : b < p) (hp : p < 9223372036854775808) (w : World) :
    Calls Try.prog 12 #[.int .u64 a, .int .u64 b, .int .u64 p, .int .u64 (subM a b p)] w fun e w' => e = .returned (.bool true) ∧ w = w' := by
  by_cases h : b ≤ a
  · have e1 : subM a b p = a - b := by simp [subM, h]
    rw [e1]; clear e1
    have e2 : (a - b + b == a) = true := by rw [beq_iff_eq]; omega
    go_enter Try.func12, Try.ntmps12
    go_wp2
    go_ret
    exact ⟨rfl, rfl⟩
  · have e1 : subM a b p = a + p - b := by simp [subM, h]
    rw [e1]; clear e1
    have e2 : (a + p - b + b == a) = false := by rw [beq_eq_false_iff_ne]; omega
    go_enter Try.func12, Try.ntmps12
    go_wp2
    go_ret
    exact ⟨by simp, rfl⟩

theorem neg_resid (m p : Int) : (p - m % p) % p = (-m) % p := by
  rw [Int.sub_emod, Int.emod_emod_of_dvd _ (Int.dvd_refl p), ← Int.sub_emod]
  rw [show p - m = -m + p by omega, Int.add_emod_right]

theorem min_resid (p : Int) (hp0 : 0 < p) (hp : p < 9223372036854775808) :
    (IntKind.u64.wrap (p - (IntKind.u64.wrap (wrap64 9223372036854775808)).tmod p)).tmod p = (-9223372036854775808) % p := by
  have e1 : IntKind.u64.wrap (wrap64 9223372036854775808) = 9223372036854775808 := by
    unfold wrap64; decide
  rw [e1, Int.tmod_eq_emod_of_nonneg (a := 9223372036854775808) (by decide)]
  have k0 : 0 ≤ (9223372036854775808 : Int) % p := Int.emod_nonneg _ (by omega)
  have k1 : (9223372036854775808 : Int) % p < p := Int.emod_lt_of_pos _ (by omega)
  have e2 : IntKind.u64.wrap (p - 9223372036854775808 % p) = p - 9223372036854775808 % p := by
    simp only [IntKind.wrap]
    generalize (9223372036854775808 : Int) % p = r at *
    simp [IntKind.signed, IntKind.bits]
    omega
  rw [e2, Int.tmod_eq_emod_of_nonneg (by omega), neg_resid]

theorem residue_calls (c p : Int) (hc0 : -9223372036854775808 ≤ c) (hc1 : c < 9223372036854775808) (hp0 : 0 < p) (hp : p < 9223372036854775808) (w : World) :
    Calls Try.prog 13 #[.int .i64 c, .int .u64 p] w fun e w' => e = .returned (.int .u64 (c % p)) ∧ w = w' := by
  have h1 : (p == 0) = false := by rw [beq_eq_false_iff_ne]; omega
  by_cases h : 0 ≤ c
  · go_enter Try.func13, Try.ntmps13
    go_wp2
    go_ret
    exact ⟨rfl, rfl⟩
  · by_cases hm : c = -9223372036854775808
    · subst hm
      go_enter Try.func13, Try.ntmps13
      go_wp2
      go_ret
      exact ⟨congrArg (fun n => Ending.returned (.int .u64 n)) (min_resid p hp0 hp), rfl⟩
    · obtain ⟨m, rfl⟩ : ∃ m, c = -m := ⟨-c, by omega⟩
      rw [← neg_resid m p]
      have k0 : 0 ≤ m % p := Int.emod_nonneg _ (by omega)
      have k1 : m % p < p := Int.emod_lt_of_pos _ (by omega)
      go_enter Try.func13, Try.ntmps13
      go_wp2
      go_ret
      exact ⟨rfl, rfl⟩

theorem zzresidue_calls (c p : Int) (hc0 : -9223372036854775808 ≤ c) (hc1 : c < 9223372036854775808) (hp0 : 0 < p) (hp : p < 9223372036854775808) (w : World) :
    Calls Try.prog 7 #[.int .i64 c, .int .u64 p] w fun e w' => e = .returned (.int .u64 (c % p)) ∧ w = w' := by
  go_enter Try.func7, Try.ntmps7
  go_wp2_with (go_at_call 13; refine (residue_calls c p hc0 hc1 hp0 hp _).mono ?_; rintro e w' ⟨rfl, rfl⟩)
  go_ret
  exact ⟨rfl, rfl⟩

theorem resid_div (c p : Int) : c - c % p = p * (c / p) := by
  have := Int.emod_add_mul_ediv c p
  omega
theorem resid_sub (c p : Int) : (c - c % p) % p = 0 := by
  rw [resid_div, Int.mul_emod_right]
theorem resid_le (c p : Int) (hp : 0 < p) (h : 0 ≤ c) : c % p ≤ c := by
  have h1 := resid_div c p
  have h2 : 0 ≤ p * (c / p) := Int.mul_nonneg (by omega) (Int.ediv_nonneg h (by omega))
  omega

theorem neg_side (c p r : Int) (hc0 : -9223372036854775808 ≤ c) (h : ¬ 0 ≤ c) (hp : p < 9223372036854775808) (k0 : 0 ≤ r) (k1 : r < p) (k3 : (c - r) % p = 0) :
    ((IntKind.u64.wrap (IntKind.u64.wrap (-IntKind.u64.wrap c) + r)).tmod p == 0) = true := by
  have e1 : IntKind.u64.wrap (IntKind.u64.wrap (-IntKind.u64.wrap c) + r) = -(c - r) := by
    simp [IntKind.wrap, IntKind.signed, IntKind.bits]
    omega
  rw [e1, Int.tmod_eq_emod_of_nonneg (by omega), beq_iff_eq]
  exact Int.emod_eq_zero_of_dvd (Int.dvd_neg.2 (Int.dvd_of_emod_eq_zero k3))

theorem resid_add (c d p : Int) (hp : 0 < p) : addM (c % p) (d % p) p = (c + d) % p := by
  have k0 : 0 ≤ c % p := Int.emod_nonneg _ (by omega)
  have k1 : c % p < p := Int.emod_lt_of_pos _ (by omega)
  have k2 : 0 ≤ d % p := Int.emod_nonneg _ (by omega)
  have k3 : d % p < p := Int.emod_lt_of_pos _ (by omega)
  rw [Int.add_emod c d p]
  generalize c % p = x at *
  generalize d % p = y at *
  unfold addM
  split
  · rw [Int.emod_eq_of_lt (by omega) (by omega)]
  · rw [show x + y = (x + y - p) + p by omega, Int.add_emod_right, Int.emod_eq_of_lt (by omega) (by omega)]
    omega

theorem resid_neg (c p : Int) (hp : 0 < p) : subM 0 (c % p) p = (-c) % p := by
  have k0 : 0 ≤ c % p := Int.emod_nonneg _ (by omega)
  have k1 : c % p < p := Int.emod_lt_of_pos _ (by omega)
  rw [← neg_resid c p]
  generalize c % p = x at *
  unfold subM
  split
  · have hx : x = 0 := by omega
    subst hx
    simp
  · rw [Int.emod_eq_of_lt (by omega) (by omega)]
    omega

/-- zzLinIsResidue, where r is the residue. -/
theorem isResidue_calls (c p : Int) (hc0 : -9223372036854775808 ≤ c) (hc1 : c < 9223372036854775808) (hp0 : 0 < p) (hp : p < 9223372036854775808) (w : World) :
    Calls Try.prog 8 #[.int .i64 c, .int .u64 p, .int .u64 (c % p)] w fun e w' => e = .returned (.bool true) ∧ w = w' := by
  have h1 : (p == 0) = false := by rw [beq_eq_false_iff_ne]; omega
  have k0 : 0 ≤ c % p := Int.emod_nonneg _ (by omega)
  have k1 : c % p < p := Int.emod_lt_of_pos _ (by omega)
  have k3 := resid_sub c p
  by_cases h : 0 ≤ c
  · have k2 := resid_le c p hp0 h
    have e3 : ((c - c % p) % p == 0) = true := by rw [beq_iff_eq]; exact k3
    clear k3
    generalize c % p = r at *
    go_enter Try.func8, Try.ntmps8
    go_wp2
    go_ret
    exact ⟨rfl, rfl⟩
  · have fin := neg_side c p (c % p) hc0 h hp k0 k1 k3
    clear k3
    generalize c % p = r at *
    have Fin : Hid (((IntKind.u64.wrap (IntKind.u64.wrap (-IntKind.u64.wrap c) + r)).tmod p == 0) = true) := fin
    clear fin
    go_enter Try.func8, Try.ntmps8
    go_wp2
    go_ret
    exact ⟨congrArg (fun n => Ending.returned (.bool n)) Fin.out, rfl⟩
end Go.Proofs.Qxb6618061a
