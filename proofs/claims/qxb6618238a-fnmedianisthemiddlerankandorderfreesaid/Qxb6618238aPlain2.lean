/-
  Plain laws of float64 words: the sum, the half and the negation go by the keys.
-/
import Derived.Test.Qxb6618238aPlain
namespace Go.Proofs.Qxb6618238a
open Ieee

theorem BR : B ≤ R := by unfold R; have := B_pos; omega
theorem RW : R < W := by unfold R W; have := B_pos; omega
theorem mag_zero : mag 0 = 0 := by unfold mag; rw [if_pos B_pos]
theorem sgn_zero (s : Bool) : sgn s 0 = 0 := by cases s <;> rfl
theorem sgn_not (s : Bool) (n : Nat) : sgn (!s) n = -sgn s n := by
  cases s
  · rfl
  · show (n : Int) = -(-(n : Int)); omega

/-! ### A word made of a sign and a rung -/
theorem word_parts (s : Bool) {r : Nat} (h : r ≤ R) : (f64.word s r / W % 2 == 1) = s ∧ f64.word s r % W = r := by
  have hW : 0 < W := by unfold W; have := B_pos; omega
  have hr : r < W := Nat.lt_of_le_of_lt h RW
  unfold Format.word
  rw [signWeight_eq]
  cases s
  · rw [if_neg (by simp)]
    rw [Nat.div_eq_of_lt hr, Nat.mod_eq_of_lt hr]
    exact ⟨rfl, rfl⟩
  · rw [if_pos rfl]
    have e1 : (W + r) / W = 1 := by
      rw [Nat.add_div_left _ hW, Nat.div_eq_of_lt hr]
    have e2 : (W + r) % W = r := by
      rw [Nat.add_mod_left, Nat.mod_eq_of_lt hr]
    rw [e1, e2]
    exact ⟨rfl, rfl⟩
theorem key_word (s : Bool) {r : Nat} (h : r ≤ R) : key (f64.word s r) = keyR s r := by
  unfold key
  rw [(word_parts s h).1, (word_parts s h).2]
theorem keyR_zero (s : Bool) : keyR s 0 = 0 := by
  unfold keyR
  rw [if_pos (Nat.lt_of_lt_of_le B_pos BR), mag_zero, sgn_zero]
theorem keyR_not (s : Bool) {r : Nat} (h : r ≤ R) : keyR (!s) r = -keyR s r := by
  unfold keyR
  by_cases h1 : r < R
  · rw [if_pos h1, if_pos h1, sgn_not]
  · have h2 : r = R := by omega
    rw [if_neg h1, if_neg h1, if_pos h2, if_pos h2, sgn_not]

/-- The rung that a number is rounded to. -/
def rungOf (m : Nat) (i : Int) : Nat :=
  if m = 0 then 0 else
    min (((max (i + m.log2 - f64.fractionBits) f64.leastPlace) - f64.leastPlace).toNat * B + Toward.even.cut false (m <<< (i - max (i + m.log2 - f64.fractionBits) f64.leastPlace).toNat) (max (i + m.log2 - f64.fractionBits) f64.leastPlace - i).toNat) R
theorem rungOf_le (m : Nat) (i : Int) : rungOf m i ≤ R := by
  unfold rungOf
  split
  · omega
  · exact Nat.min_le_right _ _
theorem cut_even (s : Bool) (n k : Nat) : Toward.even.cut s n k = Toward.even.cut false n k := rfl
theorem write_number (s : Bool) (m : Nat) (i : Int) : f64.write (.number s m i) = f64.word s (rungOf m i) := by
  show f64.nearest s m i = _
  unfold Format.nearest rungOf
  by_cases h : m = 0
  · rw [if_pos h, if_pos h]
  · rw [if_neg h, if_neg h, binade_eq, infRung_eq]
    rfl
theorem write_infinity (s : Bool) : f64.write (.infinity s) = f64.word s R := rfl
theorem key_number (s : Bool) (m : Nat) (i : Int) : key (f64.write (.number s m i)) = keyR s (rungOf m i) := by
  rw [write_number, key_word s (rungOf_le m i)]
theorem key_number_zero (s : Bool) (i : Int) : key (f64.write (.number s 0 i)) = 0 := by
  rw [key_number]
  have : rungOf 0 i = 0 := by unfold rungOf; rw [if_pos rfl]
  rw [this, keyR_zero]
theorem key_infinity (s : Bool) : key (f64.write (.infinity s)) = keyR s R := by
  rw [write_infinity, key_word s (Nat.le_refl _)]
/-- What is written is no NaN, where the datum is none. -/
theorem write_ok {d : Datum} (h : d.isNaN = false) : f64.write d % W ≤ R := by
  cases d with
  | number s m i => rw [write_number, (word_parts s (rungOf_le m i)).2]; exact rungOf_le m i
  | infinity s => rw [write_infinity, (word_parts s (Nat.le_refl _)).2]; exact Nat.le_refl _
  | nan s t => simp [Datum.isNaN] at h

/-! ### Words of one key -/
theorem keyR_lt (s : Bool) {r : Nat} (h : r < R) : keyR s r = sgn s (mag r) := by unfold keyR; rw [if_pos h]
theorem keyR_inf (s : Bool) : keyR s R = sgn s BIG := by unfold keyR; rw [if_neg (by omega), if_pos rfl]

theorem sgn_inj {s t : Bool} {m n : Nat} (h : sgn s m = sgn t n) : m = n ∧ (s = t ∨ m = 0) := by
  unfold sgn at h
  cases s <;> cases t <;> simp at h ⊢ <;> omega

/-- Words of one key: one datum; or two zeros; or two NaNs. -/
theorem key_cases {x y : Nat} (h : key x = key y) :
    f64.read x = f64.read y ∨ ((∃ s, f64.read x = .number s 0 f64.leastPlace) ∧ ∃ t, f64.read y = .number t 0 f64.leastPlace) ∨ (R < x % W ∧ R < y % W) := by
  by_cases hx : R < x % W
  · by_cases hy : R < y % W
    · exact Or.inr (Or.inr ⟨hx, hy⟩)
    · have := key_nan hx
      have := key_ge (x := y) (by omega)
      omega
  · by_cases hy : R < y % W
    · have := key_nan hy
      have := key_ge (x := x) (by omega)
      omega
    · rw [read_rd, read_rd]
      unfold key at h
      generalize (x / W % 2 == 1) = s at *
      generalize (y / W % 2 == 1) = t at *
      generalize x % W = r at *
      generalize y % W = q at *
      by_cases h1 : r < R
      · by_cases h2 : q < R
        · rw [keyR_lt s h1, keyR_lt t h2] at h
          obtain ⟨hm, hs⟩ := sgn_inj h
          have hrq := mag_inj hm
          subst hrq
          rcases hs with rfl | hz
          · exact Or.inl rfl
          · have hr0 : r = 0 := mag_inj (hz.trans mag_zero.symm)
            subst hr0
            have e : ∀ u, rd u 0 = .number u 0 f64.leastPlace := fun u => by unfold rd; rw [if_pos B_pos]
            exact Or.inr (Or.inl ⟨⟨s, e s⟩, ⟨t, e t⟩⟩)
        · obtain rfl : q = R := by omega
          rw [keyR_lt s h1, keyR_inf] at h
          obtain ⟨hm, _⟩ := sgn_inj h
          have := mag_lt h1
          omega
      · obtain rfl : r = R := by omega
        by_cases h2 : q < R
        · rw [keyR_lt t h2, keyR_inf] at h
          obtain ⟨hm, _⟩ := sgn_inj h
          have := mag_lt h2
          omega
        · obtain rfl : q = R := by omega
          rw [keyR_inf, keyR_inf] at h
          obtain ⟨_, hs⟩ := sgn_inj h
          have := BIG_pos
          rcases hs with rfl | hz
          · exact Or.inl rfl
          · omega

theorem read_nan {x : Nat} (h : R < x % W) : ∃ s t, f64.read x = .nan s t := by
  rw [read_rd, rd_nan _ h]
  exact ⟨_, _, rfl⟩

/-- Two outcomes of one kind: both none; or two words of one key. -/
def SameOut (o o' : Option Nat) : Prop := (o = none ∧ o' = none) ∨ ∃ r r', o = some r ∧ o' = some r' ∧ key r = key r'
theorem SameOut.refl (o : Option Nat) : SameOut o o := by
  cases o with
  | none => exact Or.inl ⟨rfl, rfl⟩
  | some r => exact Or.inr ⟨r, r, rfl, rfl, rfl⟩
theorem SameOut.trans {a b c : Option Nat} (h : SameOut a b) (k : SameOut b c) : SameOut a c := by
  rcases h with ⟨rfl, rfl⟩ | ⟨r, r', rfl, rfl, h⟩
  · rcases k with ⟨_, rfl⟩ | ⟨_, _, e, _, _⟩
    · exact Or.inl ⟨rfl, rfl⟩
    · cases e
  · rcases k with ⟨e, _⟩ | ⟨q, q', e, rfl, k⟩
    · cases e
    · cases e
      exact Or.inr ⟨_, _, rfl, rfl, h.trans k⟩

theorem signed_zero (s : Bool) (u : Nat) : signed s 0 u = 0 := by
  rw [signed_sgn, Nat.zero_mul, sgn_zero]

theorem sum_comm (d e : Datum) : d.sum e = e.sum d := by
  cases d with
  | nan s t => cases e <;> rfl
  | infinity s =>
    cases e with
    | nan => rfl
    | infinity t =>
      simp only [Datum.sum]
      by_cases h : s = t
      · subst h; rfl
      · rw [if_neg h, if_neg (Ne.symm h)]
    | number => rfl
  | number s m i =>
    cases e with
    | nan => rfl
    | infinity t => rfl
    | number t n j =>
      simp only [Datum.sum]
      rw [Int.min_comm i j, Int.add_comm (signed s m _), Bool.and_comm s t]

theorem add_comm_f (x y : Nat) : f64.add x y = f64.add y x := by
  unfold Format.add
  rw [sum_comm]

theorem add_left {x x' : Nat} (y : Nat) (h : key x = key x') : SameOut (f64.add x y) (f64.add x' y) := by
  unfold Format.add
  rcases key_cases h with e | ⟨⟨s, e1⟩, ⟨t, e2⟩⟩ | ⟨h1, h2⟩
  · rw [e]; exact SameOut.refl _
  · rw [e1, e2]
    cases f64.read y with
    | nan => exact Or.inl ⟨rfl, rfl⟩
    | infinity u => exact SameOut.refl _
    | number u n j =>
      simp only [Datum.sum, signed_zero, Int.zero_add, Option.map_some]
      refine Or.inr ⟨_, _, rfl, rfl, ?_⟩
      generalize signed u n (j - min f64.leastPlace j).toNat = T
      by_cases hT : T = 0
      · subst hT
        simp only [Int.natAbs_zero]
        rw [key_number_zero, key_number_zero]
      · rw [if_neg hT, if_neg hT]
  · obtain ⟨s, t, e1⟩ := read_nan h1
    obtain ⟨s', t', e2⟩ := read_nan h2
    rw [e1, e2]
    exact Or.inl ⟨rfl, rfl⟩

theorem add_congr {x x' y y' : Nat} (hx : key x = key x') (hy : key y = key y') : SameOut (f64.add x y) (f64.add x' y') := by
  refine (add_left y hx).trans ?_
  rw [add_comm_f x' y, add_comm_f x' y']
  exact add_left x' hy

/-- The word of 2. -/
def TWO : Nat := 4611686018427387904
theorem read_two : f64.read TWO = .number false B (f64.leastPlace + (1023 : Nat)) := by
  rw [read_rd]
  have e1 : (TWO / W % 2 == 1) = false := by unfold TWO W B; rfl
  have e2 : TWO % W = 1024 * B := by unfold TWO W B; rfl
  rw [e1, e2]
  have h1 : ¬ 1024 * B < B := by have := B_pos; omega
  have h2 : 1024 * B < R := by unfold R; have := B_pos; omega
  unfold rd
  rw [if_neg h1, if_pos h2, Nat.mul_mod_left, Nat.mul_div_cancel _ B_pos]
  rfl

theorem half_zero (s : Bool) (i : Int) : ∃ u j, (Datum.number s 0 i).quotient (f64.fractionBits + 2) (f64.read TWO) = some (.number u 0 j) := by
  rw [read_two]
  have hB : B ≠ 0 := by have := B_pos; omega
  simp only [Datum.quotient]
  rw [if_neg hB]
  rw [Nat.zero_shiftLeft, Nat.zero_div, Nat.zero_mod]
  exact ⟨_, _, rfl⟩

theorem half_congr {x x' : Nat} (h : key x = key x') : SameOut (f64.div x TWO) (f64.div x' TWO) := by
  unfold Format.div
  rcases key_cases h with e | ⟨⟨s, e1⟩, ⟨t, e2⟩⟩ | ⟨h1, h2⟩
  · rw [e]; exact SameOut.refl _
  · rw [e1, e2]
    obtain ⟨u, j, g⟩ := half_zero s f64.leastPlace
    obtain ⟨u', j', g'⟩ := half_zero t f64.leastPlace
    rw [g, g']
    exact Or.inr ⟨_, _, rfl, rfl, by rw [key_number_zero, key_number_zero]⟩
  · obtain ⟨s, t, e1⟩ := read_nan h1
    obtain ⟨s', t', e2⟩ := read_nan h2
    rw [e1, e2]
    exact Or.inl ⟨rfl, rfl⟩

/-! ### The mean -/
def AddOut (x y s : Nat) : Prop := FloatKind.f64.format.add x y = some s ∨ (FloatKind.f64.format.add x y = none ∧ nanF s = true)
def HalfOut (s m : Nat) : Prop := FloatKind.f64.format.div s 4611686018427387904 = some m ∨ (FloatKind.f64.format.div s 4611686018427387904 = none ∧ nanF m = true)
/-- m is a mean of x and y, as Go reckons it. -/
def IsMean (x y m : Nat) : Prop := ∃ s, AddOut x y s ∧ HalfOut s m

theorem nan_key {x : Nat} (h : nanF x = true) : key x = -(BIG : Int) - 1 := by
  rw [nanF_eq] at h
  exact key_nan (by simpa using h)

theorem out_congr {o o' : Option Nat} {r r' : Nat} (h : SameOut o o') (hr : o = some r ∨ (o = none ∧ nanF r = true)) (hr' : o' = some r' ∨ (o' = none ∧ nanF r' = true)) : key r = key r' := by
  rcases h with ⟨rfl, rfl⟩ | ⟨q, q', rfl, rfl, h⟩
  · rcases hr with e | ⟨_, n⟩
    · cases e
    rcases hr' with e | ⟨_, n'⟩
    · cases e
    rw [nan_key n, nan_key n']
  · rcases hr with e | ⟨e, _⟩
    · cases e
      rcases hr' with e | ⟨e, _⟩
      · cases e; exact h
      · cases e
    · cases e

theorem mean_congr {x y x' y' m m' : Nat} (hx : key x = key x') (hy : key y = key y') (h : IsMean x y m) (h' : IsMean x' y' m') : key m = key m' := by
  obtain ⟨s, h1, h2⟩ := h
  obtain ⟨s', h1', h2'⟩ := h'
  have hs : key s = key s' := out_congr (add_congr hx hy) h1 h1'
  exact out_congr (half_congr hs) h2 h2'

/-! ### The negation -/
def negF (x : Nat) : Nat := Op.negFloat .f64 x
theorem W_pow : W = 2 ^ 63 := by unfold W B; rfl
theorem neg_parts (x : Nat) : (negF x / W % 2 == 1) = !(x / W % 2 == 1) ∧ negF x % W = x % W := by
  have e : negF x = x ^^^ 2 ^ 63 := rfl
  rw [e, W_pow]
  constructor
  · rw [Nat.xor_div_two_pow, show 2 ^ 63 / 2 ^ 63 = 1 from rfl]
    have h := Nat.mod_two_eq_zero_or_one (x / 2 ^ 63)
    have h2 : (x / 2 ^ 63 ^^^ 1) % 2 = (x / 2 ^ 63 % 2) ^^^ 1 := @Nat.xor_mod_two_pow (x / 2 ^ 63) 1 1
    rw [h2]
    rcases h with h | h <;> rw [h] <;> rfl
  · rw [Nat.xor_mod_two_pow, Nat.mod_self, Nat.xor_zero]
theorem key_neg {x : Nat} (h : x % W ≤ R) : key (negF x) = -key x := by
  unfold key
  rw [(neg_parts x).1, (neg_parts x).2, keyR_not _ h]
theorem key_neg_nan {x : Nat} (h : R < x % W) : key (negF x) = key x := by
  rw [key_nan h, key_nan (by rw [(neg_parts x).2]; exact h)]
theorem rd_not (s : Bool) (r : Nat) : rd (!s) r = (rd s r).opposite := by
  unfold rd
  split
  · rfl
  · split
    · rfl
    · split <;> rfl
theorem read_neg_f (x : Nat) : f64.read (negF x) = (f64.read x).opposite := by
  rw [read_rd, read_rd, (neg_parts x).1, (neg_parts x).2, rd_not]

/-- Two outcomes, the one the other's negation: both none; or two words, no NaNs, of opposite keys. -/
def NegOut (o o' : Option Nat) : Prop := (o = none ∧ o' = none) ∨ ∃ r r', o = some r ∧ o' = some r' ∧ key r' = -key r ∧ r % W ≤ R

theorem signed_not (s : Bool) (m u : Nat) : signed (!s) m u = -signed s m u := by
  rw [signed_sgn, signed_sgn, sgn_not]

theorem key_write_opp {d : Datum} (h : d.isNaN = false) : key (f64.write d.opposite) = -key (f64.write d) := by
  cases d with
  | number s m i =>
    show key (f64.write (.number (!s) m i)) = _
    rw [key_number, key_number, keyR_not _ (rungOf_le m i)]
  | infinity s =>
    show key (f64.write (.infinity (!s))) = _
    rw [key_infinity, key_infinity, keyR_not _ (Nat.le_refl _)]
  | nan s t => simp [Datum.isNaN] at h

theorem sum_neg (d e : Datum) : NegOut ((d.sum e).map f64.write) ((e.opposite.sum d.opposite).map f64.write) := by
  rw [sum_comm e.opposite d.opposite]
  cases d with
  | nan => exact Or.inl ⟨rfl, by cases e <;> rfl⟩
  | infinity s =>
    cases e with
    | nan => exact Or.inl ⟨rfl, rfl⟩
    | infinity t =>
      by_cases h : s = t
      · subst h
        refine Or.inr ⟨f64.write (.infinity s), f64.write (.infinity (!s)), ?_, ?_, key_write_opp (d := .infinity s) rfl, write_ok rfl⟩
        · simp [Datum.sum]
        · simp [Datum.sum, Datum.opposite]
      · refine Or.inl ⟨?_, ?_⟩
        · simp [Datum.sum, h]
        · simp [Datum.sum, Datum.opposite, h]
    | number t n j =>
      exact Or.inr ⟨f64.write (.infinity s), f64.write (.infinity (!s)), rfl, rfl, key_write_opp (d := .infinity s) rfl, write_ok rfl⟩
  | number s m i =>
    cases e with
    | nan => exact Or.inl ⟨rfl, rfl⟩
    | infinity t =>
      exact Or.inr ⟨f64.write (.infinity t), f64.write (.infinity (!t)), rfl, rfl, key_write_opp (d := .infinity t) rfl, write_ok rfl⟩
    | number t n j =>
      simp only [Datum.sum, Datum.opposite, signed_not, Option.map_some]
      refine Or.inr ⟨_, _, rfl, rfl, ?_, write_ok rfl⟩
      rw [← Int.neg_add]
      generalize signed s m (i - min i j).toNat + signed t n (j - min i j).toNat = T
      by_cases hT : T = 0
      · subst hT
        simp only [Int.neg_zero, Int.natAbs_zero]
        rw [key_number_zero, key_number_zero]
        rfl
      · rw [if_neg hT, if_neg (by omega), Int.natAbs_neg]
        have : decide (-T < 0) = !decide (T < 0) := by
          by_cases h : T < 0
          · rw [decide_eq_true h, decide_eq_false (by omega)]; rfl
          · rw [decide_eq_false h, decide_eq_true (by omega)]; rfl
        rw [this]
        exact key_write_opp (d := .number (decide (T < 0)) T.natAbs (min i j)) rfl

theorem add_neg (x y : Nat) : NegOut (f64.add x y) (f64.add (negF y) (negF x)) := by
  unfold Format.add
  rw [read_neg_f, read_neg_f]
  exact sum_neg _ _

theorem half_neg (x : Nat) : NegOut (f64.div x TWO) (f64.div (negF x) TWO) := by
  unfold Format.div
  rw [read_neg_f, read_two]
  have hB : B ≠ 0 := by have := B_pos; omega
  cases f64.read x with
  | nan => exact Or.inl ⟨rfl, rfl⟩
  | infinity s =>
    refine Or.inr ⟨f64.write (.infinity (s ^^ false)), f64.write (.infinity (!s ^^ false)), rfl, rfl, ?_, write_ok rfl⟩
    rw [Bool.xor_false, Bool.xor_false]
    exact key_write_opp (d := .infinity s) rfl
  | number s m i =>
    simp only [Datum.quotient, Datum.opposite]
    rw [if_neg hB, if_neg hB]
    refine Or.inr ⟨_, _, rfl, rfl, ?_, write_ok rfl⟩
    rw [Bool.xor_false, Bool.xor_false]
    exact key_write_opp (d := .number s _ _) rfl

theorem nan_of {x : Nat} (h : nanF x = true) : R < x % W := by
  rw [nanF_eq] at h
  simpa using h

/-- The mean of the negated two is the negated mean. -/
theorem mean_neg {x y x' y' m m' : Nat} (hx : key x' = key (negF y)) (hy : key y' = key (negF x)) (h : IsMean x y m) (h' : IsMean x' y' m') : key m' = key (negF m) := by
  obtain ⟨s, h1, h2⟩ := h
  obtain ⟨s', h1', h2'⟩ := h'
  have hs : key s' = key (negF s) := by
    have hc := add_congr hx hy
    rcases add_neg x y with ⟨e, e'⟩ | ⟨r, r', e, e', hk, hr⟩
    · have n1 : nanF s = true := by
        rcases h1 with g | ⟨_, n⟩
        · rw [fmt_eq, e] at g; cases g
        · exact n
      have n2 : nanF s' = true := by
        rw [e'] at hc
        rcases hc with ⟨g, _⟩ | ⟨_, _, _, g, _⟩
        · rcases h1' with k | ⟨_, n⟩
          · rw [fmt_eq, g] at k; cases k
          · exact n
        · cases g
      rw [key_neg_nan (nan_of n1), nan_key n1, nan_key n2]
    · have g1 : s = r := by
        rcases h1 with g | ⟨g, _⟩
        · rw [fmt_eq, e] at g; cases g; rfl
        · rw [fmt_eq, e] at g; cases g
      subst g1
      rw [key_neg hr, ← hk]
      exact out_congr hc h1' (Or.inl e')
  have hc := half_congr hs
  rcases half_neg s with ⟨e, e'⟩ | ⟨r, r', e, e', hk, hr⟩
  · have n1 : nanF m = true := by
      rcases h2 with g | ⟨_, n⟩
      · exact absurd (e.symm.trans g) (by simp)
      · exact n
    have n2 : nanF m' = true := by
      rw [e'] at hc
      rcases hc with ⟨g, _⟩ | ⟨_, _, _, g, _⟩
      · rcases h2' with k | ⟨_, n⟩
        · exact absurd (g.symm.trans k) (by simp)
        · exact n
      · cases g
    rw [key_neg_nan (nan_of n1), nan_key n1, nan_key n2]
  · have g1 : m = r := by
      rcases h2 with g | ⟨g, _⟩
      · exact Option.some.inj (g.symm.trans e)
      · exact absurd (e.symm.trans g) (by simp)
    subst g1
    rw [key_neg hr, ← hk]
    exact out_congr hc h2' (Or.inl e')
end Go.Proofs.Qxb6618238a
