/-
  The reader zzReadTypeNumber and zzSignMagnitude: their walks.
-/
import Derived.Test.Qxb6618238aDoorRows
import Derived.WalkKit
import Derived.WalkSpells
import Derived.ProofKit
import Derived.LoopTactic
namespace Go.Proofs.Qxb6618238aDoor
open Go.RowKit

set_option maxHeartbeats 800000 in
/-- The reader at a text without a minus. -/
theorem read_pos (s : ByteArray) (h7 : 7 ≤ s.size) (h8 : s.size ≤ 40) (b0 : s[0].toNat = 84) (b1 : s[1].toNat = 121) (b2 : s[2].toNat = 112) (b3 : s[3].toNat = 101) (b4 : s[4].toNat = 40)
    (bl : s[s.size - 1].toNat = 41) (hd : ∀ k (h : k < s.size), 5 ≤ k → k < s.size - 1 → 48 ≤ s[k].toNat ∧ s[k].toNat ≤ 57)
    (v : Nat → Nat) (hv0 : v 5 = 0) (hvs : ∀ k (h : k < s.size), 5 ≤ k → k < s.size - 1 → v (k + 1) = v k * 10 + (s[k].toNat - 48)) (hvb : ∀ k, v k ≤ 18446744073709551615)
    (hlead : s[5].toNat = 48 → s.size ≤ 7) (w : World) :
    Calls Tryd.prog 7 #[.string s] w fun e w' => e = .returned (.tuple #[.bool false, .int .u64 (v (s.size - 1)), .bool true]) ∧ w = w' := by
  have HD : Hid (∀ k (h : k < s.size), 5 ≤ k → k < s.size - 1 → 48 ≤ s[k].toNat ∧ s[k].toNat ≤ 57) := hd
  have HS : Hid (∀ k (h : k < s.size), 5 ≤ k → k < s.size - 1 → v (k + 1) = v k * 10 + (s[k].toNat - 48)) := hvs
  have HB : Hid (∀ k, v k ≤ 18446744073709551615) := hvb
  have HZ : Hid (v 5 = 0) := hv0
  have q5 := hd 5 (by omega) (by omega) (by omega)
  have e5 : ((s[5].toNat : Int) == 45) = false := by rw [beq_eq_false_iff_ne]; omega
  clear hd hvs hvb hv0
  have hcase : ((s[5].toNat : Int) == 48) = false ∨ (((s[5].toNat : Int) == 48) = true ∧ s.size ≤ 7) := by
    by_cases hl : s[5].toNat = 48
    · exact Or.inr ⟨by rw [beq_iff_eq]; omega, hlead hl⟩
    · exact Or.inl (by rw [beq_eq_false_iff_ne]; omega)
  clear hlead
  rcases hcase with e6 | ⟨e6, hs7⟩
  all_goals
    go_enter Tryd.func7, Tryd.ntmps7
    go_wp2
    go_loop [6, 8, 9, 10] (fun i m c d => ∃ k : Nat, 5 ≤ k ∧ k ≤ s.size - 1 ∧ i = .int .i64 k ∧ m = .int .u64 (v k)) (fun i _ _ _ => s.size - (intOf i).toNat)
    case atStart => exact ⟨5, by omega, by omega, rfl, by rw [HZ.out]; rfl⟩
    case round =>
      obtain ⟨k, hk5, hk, rfl, rfl⟩ := hrel
      by_cases hlt : k < s.size - 1
      · have g1 := HD.out k (by omega) hk5 hlt
        have g3 := HS.out k (by omega) hk5 hlt
        have g2 : v k * 10 + ((s[k]'(by omega)).toNat - 48) ≤ 18446744073709551615 := by
          have := HB.out (k + 1)
          omega
        have G3 : Hid (v (k + 1) = v k * 10 + ((s[k]'(by omega)).toNat - 48)) := g3
        clear g3
        go_wp2
        go_round
        case rel =>
          refine ⟨k + 1, by omega, by omega, by go_num, ?_⟩
          rw [G3.out]
          exact congrArg (Value.int IntKind.u64) (by omega)
        case measure => simp [intOf]; omega
      · obtain rfl : k = s.size - 1 := by omega
        go_wp2
        go_ret3
        exact ⟨rfl, rfl⟩

set_option maxHeartbeats 800000 in
/-- The reader at a text with a minus. -/
theorem read_neg (s : ByteArray) (h7 : 8 ≤ s.size) (h8 : s.size ≤ 40) (b0 : s[0].toNat = 84) (b1 : s[1].toNat = 121) (b2 : s[2].toNat = 112) (b3 : s[3].toNat = 101) (b4 : s[4].toNat = 40)
    (b5 : s[5].toNat = 45) (bl : s[s.size - 1].toNat = 41) (hd : ∀ k (h : k < s.size), 6 ≤ k → k < s.size - 1 → 48 ≤ s[k].toNat ∧ s[k].toNat ≤ 57)
    (v : Nat → Nat) (hv0 : v 6 = 0) (hvs : ∀ k (h : k < s.size), 6 ≤ k → k < s.size - 1 → v (k + 1) = v k * 10 + (s[k].toNat - 48)) (hvb : ∀ k, v k ≤ 18446744073709551615)
    (hlead : s[6].toNat = 48 → s.size ≤ 8) (hnz : 1 ≤ v (s.size - 1)) (w : World) :
    Calls Tryd.prog 7 #[.string s] w fun e w' => e = .returned (.tuple #[.bool true, .int .u64 (v (s.size - 1)), .bool true]) ∧ w = w' := by
  have HD : Hid (∀ k (h : k < s.size), 6 ≤ k → k < s.size - 1 → 48 ≤ s[k].toNat ∧ s[k].toNat ≤ 57) := hd
  have HS : Hid (∀ k (h : k < s.size), 6 ≤ k → k < s.size - 1 → v (k + 1) = v k * 10 + (s[k].toNat - 48)) := hvs
  have HB : Hid (∀ k, v k ≤ 18446744073709551615) := hvb
  have HZ : Hid (v 6 = 0) := hv0
  have q5 := hd 6 (by omega) (by omega) (by omega)
  clear hd hvs hvb hv0
  have hcase : ((s[6].toNat : Int) == 48) = false ∨ (((s[6].toNat : Int) == 48) = true ∧ s.size ≤ 8) := by
    by_cases hl : s[6].toNat = 48
    · exact Or.inr ⟨by rw [beq_iff_eq]; omega, hlead hl⟩
    · exact Or.inl (by rw [beq_eq_false_iff_ne]; omega)
  clear hlead
  rcases hcase with e6 | ⟨e6, hs7⟩
  all_goals
    go_enter Tryd.func7, Tryd.ntmps7
    go_wp2
    go_loop [6, 8, 9, 10] (fun i m c d => ∃ k : Nat, 6 ≤ k ∧ k ≤ s.size - 1 ∧ i = .int .i64 k ∧ m = .int .u64 (v k)) (fun i _ _ _ => s.size - (intOf i).toNat)
    case atStart => exact ⟨6, by omega, by omega, rfl, by rw [HZ.out]; rfl⟩
    case round =>
      obtain ⟨k, hk5, hk, rfl, rfl⟩ := hrel
      by_cases hlt : k < s.size - 1
      · have g1 := HD.out k (by omega) hk5 hlt
        have g3 := HS.out k (by omega) hk5 hlt
        have g2 : v k * 10 + ((s[k]'(by omega)).toNat - 48) ≤ 18446744073709551615 := by
          have := HB.out (k + 1)
          omega
        have G3 : Hid (v (k + 1) = v k * 10 + ((s[k]'(by omega)).toNat - 48)) := g3
        clear g3
        go_wp2
        go_round
        case rel =>
          refine ⟨k + 1, by omega, by omega, by go_num, ?_⟩
          rw [G3.out]
          exact congrArg (Value.int IntKind.u64) (by omega)
        case measure => simp [intOf]; omega
      · obtain rfl : k = s.size - 1 := by omega
        go_wp2
        go_ret3
        exact ⟨rfl, rfl⟩

/-- zzSignMagnitude. -/
theorem sign_neg (n : Int) (h0 : -9223372036854775808 ≤ n) (h1 : n < 0) (w : World) :
    Calls Tryd.prog 8 #[.int .i64 n] w fun e w' => e = .returned (.tuple #[.bool true, .int .u64 (-n)]) ∧ w = w' := by
  go_enter Tryd.func8, Tryd.ntmps8
  go_wp2
  go_ret2
  exact ⟨congrArg (fun m => Ending.returned (Value.tuple #[.bool true, .int .u64 m])) (by omega), rfl⟩
theorem sign_pos (n : Int) (h0 : 0 ≤ n) (h1 : n ≤ 9223372036854775807) (w : World) :
    Calls Tryd.prog 8 #[.int .i64 n] w fun e w' => e = .returned (.tuple #[.bool false, .int .u64 n]) ∧ w = w' := by
  go_enter Tryd.func8, Tryd.ntmps8
  go_wp2
  go_ret2
  exact ⟨rfl, rfl⟩
end Go.Proofs.Qxb6618238aDoor
