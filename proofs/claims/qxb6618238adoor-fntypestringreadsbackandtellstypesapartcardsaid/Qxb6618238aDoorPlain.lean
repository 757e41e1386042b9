/-
  Plain laws: no Go in sight. The text of a column type, its bytes, and that it reads back.
-/
import Derived.Lib.ItoaNum
import Derived.Lib.ItoaLen
import Derived.Laws.Strings
namespace Go.Proofs.Qxb6618238aDoor
open Go Go.Lib

/-- The value of a row of decimal digits. -/
def val (l : List UInt8) : Nat := l.foldl (fun m c => m * 10 + (c.toNat - 48)) 0

theorem val_snoc (l : List UInt8) (c : UInt8) : val (l ++ [c]) = val l * 10 + (c.toNat - 48) := by
  simp [val, List.foldl_append]

theorem foldl_ge (l : List UInt8) : ∀ m : Nat, m ≤ l.foldl (fun m c => m * 10 + (c.toNat - 48)) m := by
  induction l with
  | nil => intro m; simp
  | cons c l ih =>
    intro m
    simp only [List.foldl_cons]
    exact Nat.le_trans (by omega) (ih (m * 10 + (c.toNat - 48)))

theorem val_take_le (l : List UInt8) (j : Nat) : val (l.take j) ≤ val l := by
  have h : val l = (l.drop j).foldl (fun m c => m * 10 + (c.toNat - 48)) (val (l.take j)) := by
    unfold val
    rw [← List.foldl_append, List.take_append_drop]
  rw [h]
  exact foldl_ge _ _

theorem val_take_succ (l : List UInt8) (j : Nat) (h : j < l.length) : val (l.take (j + 1)) = val (l.take j) * 10 + (l[j].toNat - 48) := by
  rw [List.take_succ_eq_append_getElem h, val_snoc]

theorem digit_toNat {d : Nat} (h : d < 10) : (UInt8.ofNat (48 + d)).toNat = 48 + d := by
  rw [UInt8.toNat_ofNat']
  omega

theorem val_decDigits (u : Nat) : val (decDigits u) = u := by
  induction u using Nat.strongRecOn with
  | ind u ih =>
    rw [decDigits]
    split
    · rename_i h
      show 0 * 10 + ((UInt8.ofNat (48 + u)).toNat - 48) = u
      rw [digit_toNat h]
      omega
    · rename_i h
      rw [val_snoc, ih (u / 10) (by omega), digit_toNat (Nat.mod_lt _ (by omega))]
      omega

theorem decDigits_range (u : Nat) : ∀ c ∈ decDigits u, 48 ≤ c.toNat ∧ c.toNat ≤ 57 := by
  induction u using Nat.strongRecOn with
  | ind u ih =>
    intro c hc
    rw [decDigits] at hc
    split at hc
    · rename_i h
      simp only [List.mem_singleton] at hc
      subst hc
      rw [digit_toNat h]
      omega
    · rename_i h
      rw [List.mem_append] at hc
      rcases hc with hc | hc
      · exact ih (u / 10) (by omega) c hc
      · simp only [List.mem_singleton] at hc
        subst hc
        rw [digit_toNat (Nat.mod_lt _ (by omega))]
        omega

theorem decDigits_pos (u : Nat) : 0 < (decDigits u).length := by
  rw [decDigits_length]
  exact nDigits_pos u

/-- No leading nought, but for the number nought. -/
theorem decDigits_head (u : Nat) : (decDigits u)[0]'(decDigits_pos u) = 48 → u = 0 := by
  induction u using Nat.strongRecOn with
  | ind u ih =>
    by_cases h : u < 10
    · intro e
      have e2 : decDigits u = [UInt8.ofNat (48 + u)] := decDigits_one h
      simp only [e2, List.getElem_cons_zero] at e
      have e3 := congrArg UInt8.toNat e
      rw [digit_toNat h] at e3
      have : (48 : UInt8).toNat = 48 := rfl
      omega
    · intro e
      have e2 : decDigits u = decDigits (u / 10) ++ [UInt8.ofNat (48 + u % 10)] := by rw [decDigits, dif_neg h]
      simp only [e2] at e
      rw [List.getElem_append_left (decDigits_pos (u / 10))] at e
      have := ih (u / 10) (by omega) e
      omega

/-- The text of a column type. -/
def tyL (n : Int) : List UInt8 :=
  if n = 0 then [116, 101, 120, 116] else if n = 1 then [105, 110, 116, 101, 103, 101, 114] else if n = 2 then [114, 101, 97, 108] else 84 :: 121 :: 112 :: 101 :: 40 :: (itoa n ++ [41])

def tyS (n : Int) : ByteArray := ⟨(tyL n).toArray⟩

theorem itoa_read {n : Int} : (if (itoa n).headD 0 = 45 then -((val ((itoa n).drop 1) : Nat) : Int) else ((val (itoa n) : Nat) : Int)) = n := by
  unfold itoa
  split
  · rename_i h
    simp only [List.headD_cons, if_pos, List.drop_succ_cons, List.drop_zero]
    rw [val_decDigits]
    omega
  · rename_i h
    have h0 := decDigits_pos n.toNat
    have e : (decDigits n.toNat).headD 0 ≠ 45 := by
      intro e
      have hm : (decDigits n.toNat).headD 0 ∈ decDigits n.toNat := by
        cases hd : decDigits n.toNat with
        | nil => rw [hd] at h0; simp at h0
        | cons c l => simp
      have := decDigits_range n.toNat _ hm
      rw [e] at this
      have : (45 : UInt8).toNat = 45 := rfl
      omega
    rw [if_neg e, val_decDigits]
    omega

theorem itoa_inj {a b : Int} (h : itoa a = itoa b) : a = b := by
  rw [← itoa_read (n := a), ← itoa_read (n := b), h]

theorem tyL_inj {a b : Int} (h : tyL a = tyL b) : a = b := by
  unfold tyL at h
  by_cases a0 : a = 0 <;> by_cases b0 : b = 0 <;> by_cases a1 : a = 1 <;> by_cases b1 : b = 1 <;> by_cases a2 : a = 2 <;> by_cases b2 : b = 2 <;> simp [a0, b0, a1, b1, a2, b2] at h ⊢ <;> first | omega | exact itoa_inj h

theorem tyS_toList (n : Int) : (tyS n).toList = tyL n := ByteArray.toList_mk _

theorem tyS_beq (a b : Int) : ((tyS a).toList == (tyS b).toList) = (a == b) := by
  rw [tyS_toList, tyS_toList]
  by_cases h : a = b
  · subst h; simp
  · have h2 : tyL a ≠ tyL b := fun e => h (tyL_inj e)
    rw [beq_eq_false_iff_ne.2 h, beq_eq_false_iff_ne.2 h2]

theorem tyL_other {n : Int} (h0 : n ≠ 0) (h1 : n ≠ 1) (h2 : n ≠ 2) : tyL n = 84 :: 121 :: 112 :: 101 :: 40 :: (itoa n ++ [41]) := by
  unfold tyL
  rw [if_neg h0, if_neg h1, if_neg h2]

/-! ### The bytes of 'Type(..)' -/
theorem get_mk (l : List UInt8) (k : Nat) (h : k < (ByteArray.mk l.toArray).size) (h' : k < l.length) : (ByteArray.mk l.toArray)[k]'h = l[k] := rfl

/-- What the reader asks of the text 'pre ++ D ++ [41]' where D is a row of digits from place st on. -/
theorem mid_get (pre D : List UInt8) (k : Nat) (h1 : pre.length ≤ k) (h2 : k < pre.length + D.length) (h : k < (pre ++ (D ++ [41])).length) :
    (pre ++ (D ++ [41]))[k] = D[k - pre.length]'(by omega) := by
  rw [List.getElem_append_right h1, List.getElem_append_left (by omega)]

end Go.Proofs.Qxb6618238aDoor
