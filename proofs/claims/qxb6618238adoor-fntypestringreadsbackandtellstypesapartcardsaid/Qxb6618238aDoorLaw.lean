/-
  The walks of String, zzNameMeans and of the law.
-/
import Derived.Test.Qxb6618238aDoorRead
import Derived.Test.Qxb6618238aDoorPlain
import Derived.Test.Qxb6618238aDoorShelf
import Derived.WalkSmall
namespace Go.Proofs.Qxb6618238aDoor
open Go.RowKit Go.Lib

/-! ### Worlds -/
theorem below_grow (w : World) (k : Nat) (os : Array Obj) : Below w.heap.size w (Sort.grow (w.drewN k) os) :=
  ⟨rfl, rfl, rfl, by show w.heap.size ≤ (w.heap ++ os).size; simp, fun j hj => by show (w.heap ++ os)[j]? = w.heap[j]?; rw [Array.getElem?_append_left hj]⟩

theorem tab_below {P : Program} {w w' : World} {n : String} {k : IntKind} {zs : List Int} (h : TabIs P w n k zs) (hb : Below w.heap.size w w') : TabIs P w' n k zs := by
  unfold TabIs at *
  cases hg : P.globalNamed n with
  | none => simp [World.var?, hg] at h
  | some g =>
    by_cases hl : g < w.heap.size
    · exact var?_below hb hg hl h
    · simp [World.var?, hg, Array.getElem?_eq_none (Nat.le_of_not_lt hl)] at h

/-! ### String -/
theorem tyS_0 : tyS 0 = ⟨#[116, 101, 120, 116]⟩ := rfl
theorem tyS_1 : tyS 1 = ⟨#[105, 110, 116, 101, 103, 101, 114]⟩ := rfl
theorem tyS_2 : tyS 2 = ⟨#[114, 101, 97, 108]⟩ := rfl

theorem string_calls (n : Int) (h0 : -9223372036854775808 ≤ n) (h1 : n ≤ 9223372036854775807) (w : World) (htab : TabIs Tryd.prog w tabName .u64 pow10Tab) :
    Calls Tryd.prog 4 #[.int .i64 n] w fun e w' => e = .returned (.string (tyS n)) ∧ Below w.heap.size w w' := by
  by_cases n0 : n = 0
  · subst n0
    rw [tyS_0]
    clear htab
    go_enter Tryd.func4, Tryd.ntmps4
    go_wp2
    go_ret
    exact ⟨rfl, Below.refl _ _⟩
  by_cases n1 : n = 1
  · subst n1
    rw [tyS_1]
    clear htab
    go_enter Tryd.func4, Tryd.ntmps4
    go_wp2
    go_ret
    exact ⟨rfl, Below.refl _ _⟩
  by_cases n2 : n = 2
  · subst n2
    rw [tyS_2]
    clear htab
    go_enter Tryd.func4, Tryd.ntmps4
    go_wp2
    go_ret
    exact ⟨rfl, Below.refl _ _⟩
  have e0 : (n == 0) = false := by rw [beq_eq_false_iff_ne]; exact n0
  have e1 : (n == 1) = false := by rw [beq_eq_false_iff_ne]; exact n1
  have e2 : (n == 2) = false := by rw [beq_eq_false_iff_ne]; exact n2
  have ht := tyL_other n0 n1 n2
  have HT : Hid (tyL n = 84 :: 121 :: 112 :: 101 :: 40 :: (itoa n ++ [41])) := ht
  have HB : Hid (TabIs Tryd.prog w tabName .u64 pow10Tab) := htab
  clear ht htab n0 n1 n2
  go_enter Tryd.func4, Tryd.ntmps4
  go_wp2_with fail
  refine (Tryd.strconv_Itoa n h0 h1 _ HB.out).mono ?_
  rintro e w' ⟨rfl, k, os, rfl⟩
  generalize hl : itoa n = l at *
  have HL : Hid (itoa n = l) := hl
  clear hl
  have hlen : l.length ≤ 21 := by rw [← HL.out]; exact itoa_length_le n h0 h1
  go_wp2
  go_ret
  refine ⟨?_, below_grow _ _ _⟩
  show Ending.returned (.string (ByteArray.mk [84, 121, 112, 101, 40].toArray ++ ByteArray.mk l.toArray ++ ByteArray.mk [41].toArray)) = _
  rw [ByteArray.mk_append_mk, ByteArray.mk_append_mk]
  unfold tyS
  rw [HT.out]
  rfl

/-! ### The reader at the text -/
theorem tyS_size {n : Int} {L : List UInt8} (h : tyL n = L) : (tyS n).size = L.length := by
  unfold tyS
  rw [h]
  rfl
theorem tyS_get {n : Int} {L : List UInt8} (h : tyL n = L) (k : Nat) (hk : k < (tyS n).size) (hk' : k < L.length) : (tyS n)[k]'hk = L[k] := by
  subst h
  rfl

theorem reads_neg (n : Int) (h0 : -9223372036854775808 ≤ n) (h1 : n < 0) (w : World) :
    Calls Tryd.prog 7 #[.string (tyS n)] w fun e w' => e = .returned (.tuple #[.bool true, .int .u64 (-n), .bool true]) ∧ w = w' := by
  have hL : tyL n = [84, 121, 112, 101, 40, 45] ++ (decDigits n.natAbs ++ [41]) := by
    rw [tyL_other (by omega) (by omega) (by omega)]
    unfold itoa
    rw [if_pos h1]
    rfl
  have hD0 := decDigits_pos n.natAbs
  have hDr := decDigits_range n.natAbs
  have hDv := val_decDigits n.natAbs
  have hDh : ∀ h : 0 < (decDigits n.natAbs).length, (decDigits n.natAbs)[0]'h = 48 → n.natAbs = 0 := fun _ => decDigits_head n.natAbs
  have hDl : (decDigits n.natAbs).length ≤ 20 := by rw [decDigits_length]; exact nDigits_le20 _ (by omega)
  generalize decDigits n.natAbs = D at *
  have hsz : (tyS n).size = 7 + D.length := by rw [tyS_size hL]; simp; omega
  have hg : ∀ k (h : k < (tyS n).size), 6 ≤ k → (hk : k < (tyS n).size - 1) → (tyS n)[k] = D[k - 6]'(by omega) := by
    intro k h h6 hk
    rw [tyS_get hL k h (by simp; omega)]
    exact mid_get [84, 121, 112, 101, 40, 45] D k h6 (by simp; omega) (by simp; omega)
  have hf : ∀ k (h : k < (tyS n).size) (h' : k < 6), (tyS n)[k] = [84, 121, 112, 101, 40, 45][k] := by
    intro k h h'
    rw [tyS_get hL k h (by simp; omega)]
    exact List.getElem_append_left h'
  have hlast : (tyS n)[(tyS n).size - 1]'(by omega) = 41 := by
    rw [tyS_get hL _ _ (by simp; omega)]
    simp only [hsz]
    rw [List.getElem_append_right (by simp), List.getElem_append_right (by simp)]
    simp
  have fin : (val (D.take ((tyS n).size - 1 - 6)) : Int) = -n := by
    rw [List.take_of_length_le (by omega), hDv]
    omega
  rw [← fin]
  refine read_neg (tyS n) (by omega) (by omega) ?_ ?_ ?_ ?_ ?_ ?_ ?_ ?_ (fun k => val (D.take (k - 6))) ?_ ?_ ?_ ?_ ?_ w
  · rw [hf 0 (by omega) (by omega)]; rfl
  · rw [hf 1 (by omega) (by omega)]; rfl
  · rw [hf 2 (by omega) (by omega)]; rfl
  · rw [hf 3 (by omega) (by omega)]; rfl
  · rw [hf 4 (by omega) (by omega)]; rfl
  · rw [hf 5 (by omega) (by omega)]; rfl
  · rw [hlast]; rfl
  · intro k h h6 hk
    rw [hg k h h6 hk]
    exact hDr _ (List.getElem_mem _)
  · rfl
  · intro k h h6 hk
    show val (D.take (k + 1 - 6)) = val (D.take (k - 6)) * 10 + _
    rw [hg k h h6 hk, show k + 1 - 6 = k - 6 + 1 by omega]
    exact val_take_succ D (k - 6) (by omega)
  · intro k
    have := val_take_le D (k - 6)
    show val (D.take (k - 6)) ≤ _
    omega
  · intro h48
    rw [hg 6 (by omega) (by omega) (by omega)] at h48
    have := hDh hD0 (UInt8.toNat_inj.1 h48)
    omega
  · show 1 ≤ val (D.take ((tyS n).size - 1 - 6))
    omega

theorem reads_pos (n : Int) (h0 : 3 ≤ n) (h1 : n ≤ 9223372036854775807) (w : World) :
    Calls Tryd.prog 7 #[.string (tyS n)] w fun e w' => e = .returned (.tuple #[.bool false, .int .u64 n, .bool true]) ∧ w = w' := by
  have hL : tyL n = [84, 121, 112, 101, 40] ++ (decDigits n.toNat ++ [41]) := by
    rw [tyL_other (by omega) (by omega) (by omega)]
    unfold itoa
    rw [if_neg (by omega)]
    rfl
  have hD0 := decDigits_pos n.toNat
  have hDr := decDigits_range n.toNat
  have hDv := val_decDigits n.toNat
  have hDh : ∀ h : 0 < (decDigits n.toNat).length, (decDigits n.toNat)[0]'h = 48 → n.toNat = 0 := fun _ => decDigits_head n.toNat
  have hDl : (decDigits n.toNat).length ≤ 20 := by rw [decDigits_length]; exact nDigits_le20 _ (by omega)
  generalize decDigits n.toNat = D at *
  have hsz : (tyS n).size = 6 + D.length := by rw [tyS_size hL]; simp; omega
  have hg : ∀ k (h : k < (tyS n).size), 5 ≤ k → (hk : k < (tyS n).size - 1) → (tyS n)[k] = D[k - 5]'(by omega) := by
    intro k h h6 hk
    rw [tyS_get hL k h (by simp; omega)]
    exact mid_get [84, 121, 112, 101, 40] D k h6 (by simp; omega) (by simp; omega)
  have hf : ∀ k (h : k < (tyS n).size) (h' : k < 5), (tyS n)[k] = [84, 121, 112, 101, 40][k] := by
    intro k h h'
    rw [tyS_get hL k h (by simp; omega)]
    exact List.getElem_append_left h'
  have hlast : (tyS n)[(tyS n).size - 1]'(by omega) = 41 := by
    rw [tyS_get hL _ _ (by simp; omega)]
    simp only [hsz]
    rw [List.getElem_append_right (by simp), List.getElem_append_right (by simp)]
    simp
  have fin : (val (D.take ((tyS n).size - 1 - 5)) : Int) = n := by
    rw [List.take_of_length_le (by omega), hDv]
    omega
  have goal : Calls Tryd.prog 7 #[.string (tyS n)] w fun e w' => e = .returned (.tuple #[.bool false, .int .u64 (val (D.take ((tyS n).size - 1 - 5)) : Int), .bool true]) ∧ w = w' := by
    refine read_pos (tyS n) (by omega) (by omega) ?_ ?_ ?_ ?_ ?_ ?_ ?_ (fun k => val (D.take (k - 5))) ?_ ?_ ?_ ?_ w
    · rw [hf 0 (by omega) (by omega)]; rfl
    · rw [hf 1 (by omega) (by omega)]; rfl
    · rw [hf 2 (by omega) (by omega)]; rfl
    · rw [hf 3 (by omega) (by omega)]; rfl
    · rw [hf 4 (by omega) (by omega)]; rfl
    · rw [hlast]; rfl
    · intro k h h6 hk
      rw [hg k h h6 hk]
      exact hDr _ (List.getElem_mem _)
    · rfl
    · intro k h h6 hk
      show val (D.take (k + 1 - 5)) = val (D.take (k - 5)) * 10 + _
      rw [hg k h h6 hk, show k + 1 - 5 = k - 5 + 1 by omega]
      exact val_take_succ D (k - 5) (by omega)
    · intro k
      have := val_take_le D (k - 5)
      show val (D.take (k - 5)) ≤ _
      omega
    · intro h48
      rw [hg 5 (by omega) (by omega) (by omega)] at h48
      have := hDh hD0 (UInt8.toNat_inj.1 h48)
      omega
  rw [fin] at goal
  exact goal

/-! ### zzNameMeans -/
theorem name_calls (n : Int) (h0 : -9223372036854775808 ≤ n) (h1 : n ≤ 9223372036854775807) (w : World) :
    Calls Tryd.prog 5 #[.string (tyS n), .int .i64 n] w fun e w' => e = .returned (.bool true) ∧ w = w' := by
  by_cases n0 : n = 0
  · subst n0
    rw [tyS_0]
    go_enter Tryd.func5, Tryd.ntmps5
    go_wp2
    go_ret
    exact ⟨rfl, rfl⟩
  by_cases n1 : n = 1
  · subst n1
    rw [tyS_1]
    go_enter Tryd.func5, Tryd.ntmps5
    go_wp2
    go_ret
    exact ⟨rfl, rfl⟩
  by_cases n2 : n = 2
  · subst n2
    rw [tyS_2]
    go_enter Tryd.func5, Tryd.ntmps5
    go_wp2
    go_ret
    exact ⟨rfl, rfl⟩
  have e0 : (n == 0) = false := by rw [beq_eq_false_iff_ne]; exact n0
  have e1 : (n == 1) = false := by rw [beq_eq_false_iff_ne]; exact n1
  have e2 : (n == 2) = false := by rw [beq_eq_false_iff_ne]; exact n2
  have ht : (tyS n).toList = 84 :: 121 :: 112 :: 101 :: 40 :: (itoa n ++ [41]) := by rw [tyS_toList, tyL_other n0 n1 n2]
  have f0 : ((tyS n).toList == [116, 101, 120, 116]) = false := by rw [ht]; rfl
  have f1 : ((tyS n).toList == [105, 110, 116, 101, 103, 101, 114]) = false := by rw [ht]; rfl
  have f2 : ((tyS n).toList == [114, 101, 97, 108]) = false := by rw [ht]; rfl
  clear ht
  by_cases hn : n < 0
  · clear n0 n1 n2
    go_enter Tryd.func5, Tryd.ntmps5
    go_wp2_with fail
    refine (reads_neg n h0 hn _).mono ?_
    rintro e w' ⟨rfl, rfl⟩
    go_wp2_with fail
    refine (sign_neg n h0 hn _).mono ?_
    rintro e w' ⟨rfl, rfl⟩
    go_wp2
    go_ret
    exact ⟨by simp, rfl⟩
  · have h3 : 3 ≤ n := by omega
    clear n0 n1 n2 hn
    go_enter Tryd.func5, Tryd.ntmps5
    go_wp2_with fail
    refine (reads_pos n h3 h1 _).mono ?_
    rintro e w' ⟨rfl, rfl⟩
    go_wp2_with fail
    refine (sign_pos n (by omega) h1 _).mono ?_
    rintro e w' ⟨rfl, rfl⟩
    go_wp2
    go_ret
    exact ⟨by simp, rfl⟩

/-! ### The law -/
theorem law_calls (a b : Int) (a0 : -9223372036854775808 ≤ a) (a1 : a ≤ 9223372036854775807) (b0 : -9223372036854775808 ≤ b) (b1 : b ≤ 9223372036854775807) (w : World) (htab : TabIs Tryd.prog w tabName .u64 pow10Tab) :
    Calls Tryd.prog 3 #[.int .i64 a, .int .i64 b] w fun e w' => e = .returned (.bool true) ∧ Below w.heap.size w w' := by
  have HT : Hid (TabIs Tryd.prog w tabName .u64 pow10Tab) := htab
  have hq := tyS_beq a b
  have HQ : Hid (((tyS a).toList == (tyS b).toList) = (a == b)) := hq
  clear hq htab
  go_enter Tryd.func3, Tryd.ntmps3
  go_wp2_with fail
  refine (string_calls a a0 a1 _ HT.out).mono ?_
  rintro e w1 ⟨rfl, hb1⟩
  have HB1 : Hid (Below w.heap.size w w1) := hb1
  clear hb1
  go_wp2_with fail
  refine (string_calls b b0 b1 _ (tab_below HT.out HB1.out)).mono ?_
  rintro e w2 ⟨rfl, hb2⟩
  have HB2 : Hid (Below w1.heap.size w1 w2) := hb2
  clear hb2
  go_wp2_with fail
  refine (name_calls a a0 a1 _).mono ?_
  rintro e w' ⟨rfl, rfl⟩
  go_wp2_with fail
  refine (name_calls b b0 b1 _).mono ?_
  rintro e w' ⟨rfl, rfl⟩
  go_wp2
  go_ret
  refine ⟨?_, HB1.out.trans (HB2.out.mono HB1.out.size)⟩
  exact congrArg (fun b => Ending.returned (.bool b)) (by rw [HQ.out]; simp)
end Go.Proofs.Qxb6618238aDoor
