/-
  Plain laws of float64 words: every word has a key, a whole number, and the order, the sameness, the sum, the half and the negation go by the keys. No Go in sight.
-/
import Derived.Test.Qxb6618238aF0
import Derived.Sort.Statements
namespace Go.Proofs.Qxb6618238a
open Ieee

/-- The format, under a name of its own. -/
abbrev f64 : Format := Ieee.double

theorem fmt_eq : FloatKind.f64.format = f64 := rfl

/-- The rungs of a binade. -/
def B : Nat := 2 ^ 52
theorem B_pos : 0 < B := by unfold B; exact Nat.two_pow_pos _
/-- The rung of infinity. -/
def R : Nat := 2047 * B
/-- The sign's weight. -/
def W : Nat := 2048 * B
theorem binade_eq : f64.binade = B := rfl
theorem infRung_eq : f64.infRung = R := rfl
theorem signWeight_eq : f64.signWeight = W := by unfold W B; rfl

/-- What a sign and a rung stand for. -/
def rd (neg : Bool) (rung : Nat) : Datum :=
  if rung < B then .number neg rung f64.leastPlace
  else if rung < R then .number neg (B + rung % B) (f64.leastPlace + (rung / B - 1 : Nat))
  else if rung = R then .infinity neg
  else .nan neg (rung - R)

theorem read_rd (x : Nat) : f64.read x = rd (x / W % 2 == 1) (x % W) := by
  unfold Format.read rd
  rw [binade_eq, infRung_eq, signWeight_eq]

/-- A rung's magnitude, in units of the least place. -/
def mag (rung : Nat) : Nat := if rung < B then rung else (B + rung % B) * 2 ^ (rung / B - 1)

/-- Greater than every magnitude. -/
def TOP : Nat := 2047
def BIG : Nat := B * 2 ^ TOP
theorem BIG_pos : 0 < BIG := Nat.mul_pos B_pos (Nat.two_pow_pos _)

def sgn (neg : Bool) (n : Nat) : Int := if neg then -(n : Int) else (n : Int)

/-- The key of a sign and a rung. -/
def keyR (neg : Bool) (rung : Nat) : Int :=
  if rung < R then sgn neg (mag rung) else if rung = R then sgn neg BIG else -(BIG : Int) - 1

/-- The key of a word. -/
def key (x : Nat) : Int := keyR (x / W % 2 == 1) (x % W)

theorem mag_lt {rung : Nat} (h : rung < R) : mag rung < BIG := by
  unfold mag BIG
  have hB := B_pos
  split
  · calc rung < B := by assumption
      _ = B * 1 := (Nat.mul_one _).symm
      _ ≤ B * 2 ^ TOP := Nat.mul_le_mul_left _ (Nat.two_pow_pos _)
  · have h1 : rung % B < B := Nat.mod_lt _ hB
    have h2 : rung / B < TOP := by
      rw [Nat.div_lt_iff_lt_mul hB]
      exact h
    have h3 : 1 ≤ rung / B := by
      rw [Nat.le_div_iff_mul_le hB]
      omega
    calc (B + rung % B) * 2 ^ (rung / B - 1) < (B * 2) * 2 ^ (rung / B - 1) := Nat.mul_lt_mul_of_pos_right (by omega) (Nat.two_pow_pos _)
      _ = B * 2 ^ (rung / B) := by rw [Nat.mul_assoc, ← Nat.pow_succ']; congr 2; omega
      _ ≤ B * 2 ^ TOP := Nat.mul_le_mul_left _ (Nat.pow_le_pow_right (by decide) (by omega))

theorem mag_ge {rung : Nat} (h : ¬ rung < B) : B ≤ mag rung := by
  unfold mag
  rw [if_neg h]
  calc B = B * 1 := (Nat.mul_one _).symm
    _ ≤ (B + rung % B) * 2 ^ (rung / B - 1) := Nat.mul_le_mul (by omega) (Nat.two_pow_pos _)

/-- No two rungs have one magnitude. -/
theorem mag_inj {r s : Nat} (h : mag r = mag s) : r = s := by
  have hB := B_pos
  by_cases hr : r < B
  · by_cases hs : s < B
    · unfold mag at h
      rw [if_pos hr, if_pos hs] at h
      exact h
    · have := mag_ge hs
      unfold mag at h this
      rw [if_pos hr] at h
      omega
  · by_cases hs : s < B
    · have := mag_ge hr
      unfold mag at h this
      rw [if_pos hs] at h
      omega
    · unfold mag at h
      rw [if_neg hr, if_neg hs] at h
      have hr1 : 1 ≤ r / B := by rw [Nat.le_div_iff_mul_le hB]; omega
      have hs1 : 1 ≤ s / B := by rw [Nat.le_div_iff_mul_le hB]; omega
      have hrm : r % B < B := Nat.mod_lt _ hB
      have hsm : s % B < B := Nat.mod_lt _ hB
      have aux : ∀ a b e f : Nat, a < B → b < B → 1 ≤ e → e < f → (B + a) * 2 ^ (e - 1) < (B + b) * 2 ^ (f - 1) := by
        intro a b e f ha _ he hf
        calc (B + a) * 2 ^ (e - 1) < (B * 2) * 2 ^ (e - 1) := Nat.mul_lt_mul_of_pos_right (by omega) (Nat.two_pow_pos _)
          _ = B * 2 ^ e := by rw [Nat.mul_assoc, ← Nat.pow_succ']; congr 2; omega
          _ ≤ B * 2 ^ (f - 1) := Nat.mul_le_mul_left _ (Nat.pow_le_pow_right (by decide) (by omega))
          _ ≤ (B + b) * 2 ^ (f - 1) := Nat.mul_le_mul_right _ (by omega)
      rcases Nat.lt_trichotomy (r / B) (s / B) with he | he | he
      · exact absurd h (Nat.ne_of_lt (aux _ _ _ _ hrm hsm hr1 he))
      · rw [he] at h
        have h2 := Nat.eq_of_mul_eq_mul_right (Nat.two_pow_pos _) h
        have e1 := Nat.div_add_mod r B
        have e2 := Nat.div_add_mod s B
        rw [he] at e1
        omega
      · exact absurd h.symm (Nat.ne_of_lt (aux _ _ _ _ hsm hrm hs1 he))

/-! ### The order -/
theorem signed_sgn (s : Bool) (m u : Nat) : signed s m u = sgn s (m * 2 ^ u) := by
  unfold signed sgn
  rw [Nat.shiftLeft_eq]

theorem sgn_mul (s : Bool) (m c : Nat) : sgn s (m * c) = sgn s m * (c : Int) := by
  unfold sgn
  split <;> push_cast <;> simp [Int.neg_mul]

theorem cmp_eq (a b : Int) : compare a b = if a < b then Ordering.lt else if a = b then .eq else .gt := rfl

theorem cmp_mul (a b : Int) (c : Nat) (hc : 0 < c) : compare (a * (c : Int)) (b * (c : Int)) = compare a b := by
  have h : (0 : Int) < (c : Int) := by omega
  rw [cmp_eq, cmp_eq]
  have h1 : (a * (c : Int) < b * (c : Int)) = (a < b) := propext ⟨fun e => Int.lt_of_mul_lt_mul_right e (by omega), fun e => Int.mul_lt_mul_of_pos_right e h⟩
  have h2 : (a * (c : Int) = b * (c : Int)) = (a = b) := propext ⟨fun e => Int.eq_of_mul_eq_mul_right (by omega) e, fun e => by rw [e]⟩
  simp only [h1, h2]

def mant (r : Nat) : Nat := if r < B then r else B + r % B
def expo (r : Nat) : Nat := if r < B then 0 else r / B - 1
theorem mant_expo (r : Nat) : mant r * 2 ^ expo r = mag r := by
  unfold mant expo mag
  split <;> simp
theorem rd_number (s : Bool) {r : Nat} (h : r < R) : rd s r = .number s (mant r) (f64.leastPlace + (expo r : Nat)) := by
  unfold rd mant expo
  by_cases hb : r < B
  · rw [if_pos hb, if_pos hb, if_pos hb]; simp
  · rw [if_neg hb, if_neg hb, if_neg hb, if_pos h]

theorem order_numbers (s t : Bool) {r q : Nat} (hr : r < R) (hq : q < R) : (rd s r).order (rd t q) = some (compare (sgn s (mag r)) (sgn t (mag q))) := by
  rw [rd_number s hr, rd_number t hq]
  simp only [Datum.order]
  generalize f64.leastPlace = p
  rw [← mant_expo r, ← mant_expo q]
  generalize mant r = m
  generalize mant q = n
  generalize expo r = e
  generalize expo q = f
  obtain ⟨k, hk⟩ : ∃ k, k = min e f := ⟨_, rfl⟩
  have e1 : (p + (e : Int) - min (p + (e : Int)) (p + (f : Int))).toNat = e - k := by omega
  have e2 : (p + (f : Int) - min (p + (e : Int)) (p + (f : Int))).toNat = f - k := by omega
  rw [e1, e2, signed_sgn, signed_sgn]
  have g1 : m * 2 ^ e = m * 2 ^ (e - k) * 2 ^ k := by rw [Nat.mul_assoc, ← Nat.pow_add]; congr 2; omega
  have g2 : n * 2 ^ f = n * 2 ^ (f - k) * 2 ^ k := by rw [Nat.mul_assoc, ← Nat.pow_add]; congr 2; omega
  rw [g1, g2, sgn_mul s (m * 2 ^ (e - k)), sgn_mul t (n * 2 ^ (f - k)), cmp_mul _ _ _ (Nat.two_pow_pos _)]

theorem sgn_lt (s : Bool) {n : Nat} (h : n < BIG) : -(BIG : Int) < sgn s n ∧ sgn s n < (BIG : Int) := by
  unfold sgn
  split <;> omega

theorem order_rd (s t : Bool) {r q : Nat} (hr : r ≤ R) (hq : q ≤ R) : (rd s r).order (rd t q) = some (compare (keyR s r) (keyR t q)) := by
  have hBR : B ≤ R := by unfold R; have := B_pos; omega
  have inf : ∀ u, rd u R = .infinity u := fun u => by unfold rd; rw [if_neg (by omega), if_neg (by omega), if_pos rfl]
  have kinf : ∀ u, keyR u R = sgn u BIG := fun u => by unfold keyR; rw [if_neg (by omega), if_pos rfl]
  have kn : ∀ u v, v < R → keyR u v = sgn u (mag v) := fun u v hv => by unfold keyR; rw [if_pos hv]
  have hpos := BIG_pos
  by_cases h1 : r < R
  · by_cases h2 : q < R
    · rw [order_numbers s t h1 h2, kn s r h1, kn t q h2]
    · obtain rfl : q = R := by omega
      have := sgn_lt s (mag_lt h1)
      rw [inf t, kinf t, kn s r h1, rd_number s h1]
      simp only [Datum.order, cmp_eq]
      generalize sgn s (mag r) = z at *
      have s0 : sgn false BIG = (BIG : Int) := rfl
      have s1 : sgn true BIG = -(BIG : Int) := rfl
      cases t
      · show some Ordering.lt = _
        rw [s0, if_pos this.2]
      · show some Ordering.gt = _
        rw [s1, if_neg (by omega), if_neg (by omega)]
  · obtain rfl : r = R := by omega
    by_cases h2 : q < R
    · have := sgn_lt t (mag_lt h2)
      rw [inf s, kinf s, kn t q h2, rd_number t h2]
      simp only [Datum.order, cmp_eq]
      generalize sgn t (mag q) = z at *
      have s0 : sgn false BIG = (BIG : Int) := rfl
      have s1 : sgn true BIG = -(BIG : Int) := rfl
      cases s
      · show some Ordering.gt = _
        rw [s0, if_neg (by omega), if_neg (by omega)]
      · show some Ordering.lt = _
        rw [s1, if_pos (by omega)]
    · obtain rfl : q = R := by omega
      rw [inf s, inf t, kinf s, kinf t]
      simp only [Datum.order, cmp_eq]
      have s0 : sgn false BIG = (BIG : Int) := rfl
      have s1 : sgn true BIG = -(BIG : Int) := rfl
      cases s <;> cases t
      · rw [s0, if_neg (by omega), if_pos rfl]; rfl
      · rw [s0, s1, if_neg (by omega), if_neg (by omega)]; rfl
      · rw [s0, s1, if_pos (by omega)]; rfl
      · rw [s1, if_neg (by omega), if_pos rfl]; rfl

theorem rd_nan (s : Bool) {r : Nat} (h : R < r) : rd s r = .nan s (r - R) := by
  have hBR : B ≤ R := by unfold R; have := B_pos; omega
  unfold rd
  rw [if_neg (by omega), if_neg (by omega), if_neg (by omega)]
theorem order_nan_left (s : Bool) {r : Nat} (h : R < r) (d : Datum) : (rd s r).order d = none := by
  rw [rd_nan s h]; rfl
theorem order_nan_right (s : Bool) {r : Nat} (h : R < r) (d : Datum) : d.order (rd s r) = none := by
  rw [rd_nan s h]; cases d <;> rfl

theorem order_key {x y : Nat} (hx : x % W ≤ R) (hy : y % W ≤ R) : f64.order x y = some (compare (key x) (key y)) := by
  unfold Format.order key
  rw [read_rd, read_rd]
  exact order_rd _ _ hx hy

theorem nanF_eq (x : Nat) : nanF x = decide (R < x % W) := by
  unfold nanF
  rw [fmt_eq]
  by_cases h : R < x % W
  · have e : f64.order x x = none := by unfold Format.order; rw [read_rd]; exact order_nan_left _ h _
    rw [e]; simp [h]
  · rw [order_key (by omega) (by omega), cmp_eq]
    simp [h]

theorem key_nan {x : Nat} (h : R < x % W) : key x = -(BIG : Int) - 1 := by
  unfold key keyR
  rw [if_neg (by omega), if_neg (by omega)]
theorem key_ge {x : Nat} (h : x % W ≤ R) : -(BIG : Int) ≤ key x ∧ key x ≤ (BIG : Int) := by
  unfold key keyR
  split
  · rename_i h1
    have := sgn_lt (x / W % 2 == 1) (mag_lt h1)
    omega
  · rw [if_pos (by omega)]
    unfold sgn
    split <;> omega

/-- cmp.Less goes by the keys. -/
theorem ltF_key (x y : Nat) : ltF x y = decide (key x < key y) := by
  unfold ltF
  rw [nanF_eq, nanF_eq, fmt_eq]
  by_cases hx : R < x % W
  · have e : f64.order x y = none := by unfold Format.order; rw [read_rd x]; exact order_nan_left _ hx _
    rw [e]
    by_cases hy : R < y % W
    · simp [hx, hy, key_nan hx, key_nan hy]
    · have := key_ge (x := y) (by omega)
      have k := key_nan hx
      simp [hx, hy]
      omega
  · by_cases hy : R < y % W
    · have e : f64.order x y = none := by unfold Format.order; rw [read_rd y]; exact order_nan_right _ hy _
      have := key_ge (x := x) (by omega)
      have k := key_nan hy
      rw [e]
      simp [hx]
      omega
    · rw [order_key (by omega) (by omega), cmp_eq]
      simp only [hx, decide_false, Bool.false_and, Bool.false_or]
      by_cases h1 : key x < key y
      · simp [h1]
      · by_cases h2 : key x = key y <;> simp [h1, h2]

/-- zzSameF, and the first half of it: both are NaNs, or they are equal by '=='. -/
def sameF (x y : Nat) : Bool := (nanF x && nanF y) || FloatKind.f64.format.order x y == some .eq

theorem sameF_key (x y : Nat) : sameF x y = decide (key x = key y) := by
  unfold sameF
  rw [nanF_eq, nanF_eq, fmt_eq]
  by_cases hx : R < x % W
  · have e : f64.order x y = none := by unfold Format.order; rw [read_rd x]; exact order_nan_left _ hx _
    rw [e]
    by_cases hy : R < y % W
    · simp [hx, hy, key_nan hx, key_nan hy]
    · have := key_ge (x := y) (by omega)
      have k := key_nan hx
      simp [hx, hy]
      omega
  · by_cases hy : R < y % W
    · have e : f64.order x y = none := by unfold Format.order; rw [read_rd y]; exact order_nan_right _ hy _
      have := key_ge (x := x) (by omega)
      have k := key_nan hy
      rw [e]
      simp [hx]
      omega
    · rw [order_key (by omega) (by omega), cmp_eq]
      simp only [hx, decide_false, Bool.false_and, Bool.false_or]
      by_cases h1 : key x < key y
      · have : key x ≠ key y := by omega
        simp [h1, this]
      · by_cases h2 : key x = key y <;> simp [h1, h2]

/-- A strict weak order. -/
theorem swo_ltF : Sort.SWO ltF where
  irrefl x := by rw [ltF_key]; simp
  trans x y z h1 h2 := by
    rw [ltF_key] at *
    simp only [decide_eq_true_eq] at *
    omega
  ntrans x y z h1 h2 := by
    rw [ltF_key] at *
    simp only [decide_eq_false_iff_not] at *
    omega
end Go.Proofs.Qxb6618238a
