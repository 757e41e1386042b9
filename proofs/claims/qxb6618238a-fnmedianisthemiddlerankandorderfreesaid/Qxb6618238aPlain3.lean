/-
  Plain laws: ranks, the sorted row, the median. No Go in sight.
-/
import Derived.Test.Qxb6618238aPlain2
import Derived.Sort.AssemblyPlain
namespace Go.Proofs.Qxb6618238a
open Go.Sort

/-- How many stand below x, and how many at or below it. -/
def belowC (zs : List Nat) (x : Nat) : Nat := zs.countP (fun y => ltF y x)
def uptoC (zs : List Nat) (x : Nat) : Nat := zs.countP (fun y => !ltF x y)
def AtRank (zs : List Nat) (k x : Nat) : Prop := belowC zs x ≤ k ∧ k < uptoC zs x

theorem belowC_perm {zs ys : List Nat} (h : zs.Perm ys) (x : Nat) : belowC zs x = belowC ys x := h.countP_eq _
theorem uptoC_perm {zs ys : List Nat} (h : zs.Perm ys) (x : Nat) : uptoC zs x = uptoC ys x := h.countP_eq _
theorem AtRank.perm {zs ys : List Nat} (h : zs.Perm ys) {k x : Nat} (a : AtRank zs k x) : AtRank ys k x := by
  unfold AtRank at *
  rw [← belowC_perm h, ← uptoC_perm h]
  exact a

theorem countP_le_of {p : Nat → Bool} {d : List Nat} {k : Nat} (h : ∀ i (hi : i < d.length), k ≤ i → p d[i] = false) : d.countP p ≤ k := by
  have e : d.countP p = (d.take k).countP p + (d.drop k).countP p := by rw [← List.countP_append, List.take_append_drop]
  have e0 : (d.drop k).countP p = 0 := by
    rw [List.countP_eq_zero]
    intro a ha
    obtain ⟨i, hi, rfl⟩ := List.mem_iff_getElem.1 ha
    rw [List.getElem_drop]
    rw [List.length_drop] at hi
    rw [h (k + i) (by omega) (by omega)]
    simp
  have e1 : (d.take k).countP p ≤ k := Nat.le_trans List.countP_le_length (by rw [List.length_take]; omega)
  omega

theorem lt_countP_of {p : Nat → Bool} {d : List Nat} {k : Nat} (hk : k < d.length) (h : ∀ i (hi : i < d.length), i ≤ k → p d[i] = true) : k < d.countP p := by
  have e : d.countP p = (d.take (k + 1)).countP p + (d.drop (k + 1)).countP p := by rw [← List.countP_append, List.take_append_drop]
  have e1 : (d.take (k + 1)).countP p = (d.take (k + 1)).length := by
    rw [List.countP_eq_length]
    intro a ha
    obtain ⟨i, hi, rfl⟩ := List.mem_iff_getElem.1 ha
    rw [List.length_take] at hi
    rw [List.getElem_take]
    exact h i (by omega) (by omega)
  rw [List.length_take] at e1
  omega

/-- Ascending by the keys. -/
def Asc (d : List Nat) : Prop := ∀ i j (_ : i < d.length) (_ : j < d.length), i ≤ j → key d[i] ≤ key d[j]

theorem rank_key {d : List Nat} (hd : Asc d) {k : Nat} (hk : k < d.length) {x : Nat} (h : AtRank d k x) : key x = key d[k] := by
  obtain ⟨h1, h2⟩ := h
  rcases Int.lt_trichotomy (key x) (key d[k]) with hlt | heq | hgt
  · have : uptoC d x ≤ k := countP_le_of fun i hi hki => by
      have := hd k i hk hi hki
      rw [ltF_key]
      simp
      omega
    omega
  · exact heq
  · have : k < belowC d x := lt_countP_of hk fun i hi hik => by
      have := hd i k hi hk hik
      rw [ltF_key]
      simp
      omega
    omega

theorem rank_self {d : List Nat} (hd : Asc d) {k : Nat} (hk : k < d.length) : AtRank d k d[k] := by
  constructor
  · exact countP_le_of fun i hi hki => by
      have := hd k i hk hi hki
      rw [ltF_key]
      simp
      omega
  · exact lt_countP_of hk fun i hi hik => by
      have := hd i k hi hk hik
      rw [ltF_key]
      simp
      omega

/-! ### The sorted row -/
def sortedF (zs : List Nat) : List Nat := (Sort.sort ltF zs.toArray).toList

theorem sorted_facts (zs : List Nat) : (sortedF zs).length = zs.length ∧ (sortedF zs).Perm zs ∧ Asc (sortedF zs) := by
  obtain ⟨⟨hs, _, hp⟩, ha⟩ := sort_sorts ltF swo_ltF zs.toArray
  have hlen : (sortedF zs).length = zs.length := by simpa [sortedF] using hs
  refine ⟨hlen, ?_, ?_⟩
  · have e1 : ((Sort.sort ltF zs.toArray).extract 0 zs.toArray.size).toList = sortedF zs := by
      rw [← hs, Array.extract_size]
      rfl
    have e2 : (zs.toArray.extract 0 zs.toArray.size).toList = zs := by
      rw [Array.extract_size]
    rw [e1, e2] at hp
    exact hp
  · intro i j hi hj hij
    rcases Nat.lt_or_ge i j with h | h
    · have := ha i j (Nat.zero_le _) h (by simpa [hlen] using hj)
      rw [ltF_key] at this
      have e : ∀ t (ht : t < (sortedF zs).length), (Sort.sort ltF zs.toArray)[t]! = (sortedF zs)[t] := fun t ht => by
        have : t < (Sort.sort ltF zs.toArray).size := by simpa [sortedF] using ht
        rw [getElem!_pos _ t this]
        rfl
      rw [e i hi, e j hj] at this
      simpa using this
    · obtain rfl : i = j := by omega
      exact Int.le_refl _

theorem sort_get (zs : List Nat) (t : Nat) (ht : t < zs.length) : (Sort.sort ltF zs.toArray)[t]! = (sortedF zs)[t]'(by rw [(sorted_facts zs).1]; exact ht) := by
  have h : t < (Sort.sort ltF zs.toArray).size := by have := (sorted_facts zs).1; simp [sortedF] at this; omega
  rw [getElem!_pos _ t h]
  rfl

/-- There is an element at every rank. -/
theorem rank_exists (zs : List Nat) (k : Nat) (hk : k < zs.length) : ∃ i, ∃ h : i < zs.length, AtRank zs k zs[i] := by
  obtain ⟨hl, hp, ha⟩ := sorted_facts zs
  have h := (rank_self ha (k := k) (by omega)).perm hp
  have hm : (sortedF zs)[k] ∈ zs := hp.mem_iff.1 (List.getElem_mem _)
  obtain ⟨i, hi, e⟩ := List.mem_iff_getElem.1 hm
  exact ⟨i, hi, by rw [e]; exact h⟩

/-- An element at rank k is the sorted row's element at k, by its key. -/
theorem rank_sorted {zs : List Nat} {k x : Nat} (hk : k < zs.length) (h : AtRank zs k x) : key x = key (Sort.sort ltF zs.toArray)[k]! := by
  obtain ⟨hl, hp, ha⟩ := sorted_facts zs
  rw [sort_get zs k hk]
  exact rank_key ha (by omega) (h.perm hp.symm)

/-- Two rows that are permutations of each other, up to the keys, have one sorted row, by the keys. -/
theorem sorted_perm {zs ys : List Nat} (h : zs.Perm ys) {k : Nat} (hk : k < zs.length) : key (Sort.sort ltF zs.toArray)[k]! = key (Sort.sort ltF ys.toArray)[k]! := by
  obtain ⟨hl, hp, ha⟩ := sorted_facts zs
  have hk' : k < ys.length := by rw [← h.length_eq]; exact hk
  rw [sort_get zs k hk]
  exact rank_sorted hk' ((rank_self ha (by omega)).perm (hp.trans h))

/-- m is the median of zs, as Go reckons it. -/
def MedOf (zs : List Nat) (m : Nat) : Prop :=
  (zs.length % 2 = 1 ∧ m = (Sort.sort ltF zs.toArray)[zs.length / 2]!) ∨
  (zs.length % 2 = 0 ∧ IsMean (Sort.sort ltF zs.toArray)[zs.length / 2 - 1]! (Sort.sort ltF zs.toArray)[zs.length / 2]! m)

/-- m is what the law's model gives. -/
def ModelOf (zs : List Nat) (m : Nat) : Prop :=
  (zs.length % 2 = 1 ∧ AtRank zs (zs.length / 2) m) ∨
  (zs.length % 2 = 0 ∧ ∃ x y, AtRank zs (zs.length / 2 - 1) x ∧ AtRank zs (zs.length / 2) y ∧ IsMean x y m)

theorem med_model {zs : List Nat} (hne : 1 ≤ zs.length) {m m' : Nat} (h : MedOf zs m) (h' : ModelOf zs m') : sameF m m' = true := by
  rw [sameF_key, decide_eq_true_eq]
  rcases h with ⟨ho, rfl⟩ | ⟨he, hm⟩
  · rcases h' with ⟨_, hr⟩ | ⟨he, _⟩
    · exact (rank_sorted (by omega) hr).symm
    · omega
  · rcases h' with ⟨ho, _⟩ | ⟨_, x, y, hx, hy, hm'⟩
    · omega
    · exact mean_congr (rank_sorted (by omega) hx).symm (rank_sorted (by omega) hy).symm hm hm'

theorem med_perm {zs ys : List Nat} (hne : 1 ≤ zs.length) (hp : zs.Perm ys) {m m' : Nat} (h : MedOf zs m) (h' : MedOf ys m') : sameF m' m = true := by
  rw [sameF_key, decide_eq_true_eq]
  have hl := hp.length_eq
  unfold MedOf at h'
  rw [← hl] at h'
  rcases h with ⟨ho, rfl⟩ | ⟨he, hm⟩
  · rcases h' with ⟨_, rfl⟩ | ⟨he, _⟩
    · exact (sorted_perm hp (by omega)).symm
    · omega
  · rcases h' with ⟨ho, _⟩ | ⟨_, hm'⟩
    · omega
    · exact (mean_congr (sorted_perm hp (by omega)) (sorted_perm hp (by omega)) hm hm').symm

/-! ### Negation -/
/-- The sorted row of the negated figures, by the keys, is the sorted row turned round. -/
theorem sorted_neg {zs : List Nat} (hn : ∀ x ∈ zs, x % W ≤ R) {k : Nat} (hk : k < zs.length) :
    key (Sort.sort ltF (zs.map negF).toArray)[k]! = -key (Sort.sort ltF zs.toArray)[zs.length - 1 - k]! := by
  obtain ⟨hl, hp, ha⟩ := sorted_facts zs
  have hk2 : zs.length - 1 - k < zs.length := by omega
  rw [sort_get zs _ hk2]
  have hmem : ∀ t (ht : t < (sortedF zs).length), (sortedF zs)[t] % W ≤ R := fun t ht => hn _ (hp.mem_iff.1 (List.getElem_mem _))
  obtain ⟨d', hd'⟩ : ∃ d', d' = ((sortedF zs).map negF).reverse := ⟨_, rfl⟩
  have hdl : d'.length = zs.length := by rw [hd']; simp [hl]
  have hdp : d'.Perm (zs.map negF) := by rw [hd']; exact (List.reverse_perm _).trans (hp.map negF)
  have hdg : ∀ t (ht : t < d'.length), key d'[t] = -key ((sortedF zs)[zs.length - 1 - t]'(by omega)) := by
    intro t ht
    subst hd'
    rw [List.getElem_reverse, List.getElem_map]
    have e : (List.map negF (sortedF zs)).length - 1 - t = zs.length - 1 - t := by simp [hl]
    simp only [e]
    exact key_neg (hmem _ _)
  have hda : Asc d' := by
    intro i j hi hj hij
    rw [hdg i hi, hdg j hj]
    have := ha (zs.length - 1 - j) (zs.length - 1 - i) (by omega) (by omega) (by omega)
    omega
  have hr := (rank_self hda (k := k) (by omega)).perm hdp
  rw [← rank_sorted (by simpa using hk) hr, hdg k (by omega)]

theorem med_neg {zs : List Nat} (hne : 1 ≤ zs.length) (hn : ∀ x ∈ zs, x % W ≤ R) {m m' : Nat} (h : MedOf zs m) (h' : MedOf (zs.map negF) m') : sameF m' (negF m) = true := by
  rw [sameF_key, decide_eq_true_eq]
  have hsn : ∀ t, t < zs.length → (Sort.sort ltF zs.toArray)[t]! % W ≤ R := fun t ht => by
    rw [sort_get zs t ht]
    exact hn _ ((sorted_facts zs).2.1.mem_iff.1 (List.getElem_mem _))
  unfold MedOf at h'
  rw [List.length_map] at h'
  rcases h with ⟨ho, rfl⟩ | ⟨he, hm⟩
  · rcases h' with ⟨_, rfl⟩ | ⟨he, _⟩
    · rw [key_neg (hsn _ (by omega)), sorted_neg hn (by omega), show zs.length - 1 - zs.length / 2 = zs.length / 2 by omega]
    · omega
  · rcases h' with ⟨ho, _⟩ | ⟨_, hm'⟩
    · omega
    · refine mean_neg ?_ ?_ hm hm'
      · rw [key_neg (hsn _ (by omega)), sorted_neg hn (by omega), show zs.length - 1 - (zs.length / 2 - 1) = zs.length / 2 by omega]
      · rw [key_neg (hsn _ (by omega)), sorted_neg hn (by omega), show zs.length - 1 - zs.length / 2 = zs.length / 2 - 1 by omega]
end Go.Proofs.Qxb6618238a
