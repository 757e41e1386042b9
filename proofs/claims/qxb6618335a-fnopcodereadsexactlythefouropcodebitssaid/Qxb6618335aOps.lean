/-
  The contract of (dns.Header).Opcode, and the plain laws on its four bits.
-/
import Derived.Test.Qxb6618335aRows
import Derived.WalkKit
import Derived.WalkSpells
import Derived.ProofKit
import Derived.RowKit3
import Derived.Laws.BitsAllLaws
namespace Go.Proofs.Qxb6618335a
open Go.RowKit

/-- The four opcode bits of a header's second word. -/
def opc (b : Int) : Int := b / 2048 % 16

theorem mask_nat (n : Nat) : (n &&& 30720) / 2048 = n / 2048 % 16 := by
  have h1 : (n &&& 30720) / 2048 = (n &&& 30720) >>> 11 := by rw [Nat.shiftRight_eq_div_pow]
  have h2 : n / 2048 = n >>> 11 := by rw [Nat.shiftRight_eq_div_pow]
  rw [h1, h2, Nat.shiftRight_and_distrib]
  show (n >>> 11) &&& 15 = (n >>> 11) % 16
  exact Nat.and_two_pow_sub_one_eq_mod _ 4

theorem mask_opc (b : Int) (h0 : 0 ≤ b) (h1 : b ≤ 65535) : wrap64 (bits BinOp.and IntKind.u16 b 30720) / 2048 = opc b := by
  obtain ⟨n, rfl⟩ := Int.eq_ofNat_of_zero_le h0
  have e := u16_and_nat n 30720 (by omega) (by decide)
  have e' : bits BinOp.and IntKind.u16 (n : Int) 30720 = ((n &&& 30720 : Nat) : Int) := e
  have hle : n &&& 30720 ≤ 30720 := Nat.and_le_right
  have hm := mask_nat n
  rw [e', IntWalk.wrap64_in _ ⟨by omega, by omega⟩]
  unfold opc
  omega

theorem op_calls (a b c d e f : Int) (h0 : 0 ≤ b) (h1 : b ≤ 65535) (w : World) :
    Calls Try.prog 4 #[.agg #[.int .u16 a, .int .u16 b, .int .u16 c, .int .u16 d, .int .u16 e, .int .u16 f]] w fun r w' => r = .returned (.int .i64 (opc b)) ∧ ∃ cs : Array Value, w' = w.alloc (.cells cs 24) := by
  have hm := mask_opc b h0 h1
  have HM : Hid (wrap64 (bits BinOp.and IntKind.u16 b 30720) / 2048 = opc b) := hm
  clear hm
  go_enter Try.func4, Try.ntmps4
  go_wp2
  go_ret
  exact ⟨congrArg (fun n => Ending.returned (.int .i64 n)) HM.out, _, rfl⟩

theorem opc_bounds (b : Int) : 0 ≤ opc b ∧ opc b ≤ 15 := by unfold opc; omega

theorem fin32_xor : ∀ q z : Fin 32, (31 ^^^ q.val) % 16 + q.val % 16 = 15 ∧ (q.val ^^^ (z.val &&& 16)) % 16 = q.val % 16 := by decide +kernel
theorem fin32_or : ∀ (q : Fin 32) (k : Fin 4), (q.val ||| 2 ^ k.val) % 16 = (q.val &&& (31 - 2 ^ k.val)) % 16 + 2 ^ k.val := by decide +kernel

theorem shr11 (n : Nat) : n / 2048 = n >>> 11 := by rw [Nat.shiftRight_eq_div_pow]

/-- The complement. -/
theorem opc_not (b : Int) (h0 : 0 ≤ b) (h1 : b ≤ 65535) :
    (0 ≤ bits BinOp.xor IntKind.u16 IntKind.u16.max b ∧ bits BinOp.xor IntKind.u16 IntKind.u16.max b ≤ 65535) ∧ opc b + opc (bits BinOp.xor IntKind.u16 IntKind.u16.max b) = 15 := by
  obtain ⟨n, rfl⟩ := Int.eq_ofNat_of_zero_le h0
  have e : bits BinOp.xor IntKind.u16 IntKind.u16.max (n : Int) = ((65535 ^^^ n : Nat) : Int) := u16_xor_nat 65535 n (by decide) (by omega)
  have hlt : 65535 ^^^ n < 2 ^ 16 := Nat.xor_lt_two_pow (by decide) (by omega)
  have hd : (65535 ^^^ n) / 2048 = 31 ^^^ (n / 2048) := by
    rw [shr11, shr11, Nat.shiftRight_xor_distrib]
    rfl
  have hq := (fin32_xor ⟨n / 2048, by omega⟩ 0).1
  simp only at hq
  rw [← hd] at hq
  rw [e]
  unfold opc
  omega

/-- What lies outside the mask turns nothing. -/
theorem opc_other (b x : Int) (h0 : 0 ≤ b) (h1 : b ≤ 65535) (x0 : 0 ≤ x) (x1 : x ≤ 65535) :
    (0 ≤ bits BinOp.xor IntKind.u16 b (bits BinOp.andNot IntKind.u16 x 30720) ∧ bits BinOp.xor IntKind.u16 b (bits BinOp.andNot IntKind.u16 x 30720) ≤ 65535) ∧ opc (bits BinOp.xor IntKind.u16 b (bits BinOp.andNot IntKind.u16 x 30720)) = opc b := by
  obtain ⟨n, rfl⟩ := Int.eq_ofNat_of_zero_le h0
  obtain ⟨y, rfl⟩ := Int.eq_ofNat_of_zero_le x0
  have e1 : bits BinOp.andNot IntKind.u16 (y : Int) 30720 = ((y &&& 34815 : Nat) : Int) := u16_andNot_nat y 30720 (by omega) (by decide)
  have hle : y &&& 34815 ≤ 34815 := Nat.and_le_right
  rw [e1, u16_xor_nat n (y &&& 34815) (by omega) (by omega)]
  have hlt : n ^^^ (y &&& 34815) < 2 ^ 16 := Nat.xor_lt_two_pow (by omega) (by omega)
  have hd : (n ^^^ (y &&& 34815)) / 2048 = (n / 2048) ^^^ ((y / 2048) &&& 16) := by
    rw [shr11, Nat.shiftRight_xor_distrib, Nat.shiftRight_and_distrib, shr11, shr11]
    rfl
  have hq := (fin32_xor ⟨n / 2048, by omega⟩ ⟨y / 2048, by omega⟩).2
  simp only at hq
  rw [← hd] at hq
  unfold opc
  omega

/-- One bit set against the same bit cleared. -/
theorem opc_bit (b : Int) (k m : Nat) (hk : k < 4) (hm : m = 2048 * 2 ^ k) (h0 : 0 ≤ b) (h1 : b ≤ 65535) :
    (0 ≤ bits BinOp.or IntKind.u16 b (m : Int) ∧ bits BinOp.or IntKind.u16 b (m : Int) ≤ 65535) ∧ (0 ≤ bits BinOp.andNot IntKind.u16 b (m : Int) ∧ bits BinOp.andNot IntKind.u16 b (m : Int) ≤ 65535) ∧
    opc (bits BinOp.or IntKind.u16 b (m : Int)) - opc (bits BinOp.andNot IntKind.u16 b (m : Int)) = ((2 ^ k : Nat) : Int) := by
  obtain ⟨n, rfl⟩ := Int.eq_ofNat_of_zero_le h0
  have hk8 : 2 ^ k ≤ 8 := by
    have : 2 ^ k ≤ 2 ^ 3 := Nat.pow_le_pow_right (by decide) (by omega)
    exact this
  have hk1 : 1 ≤ 2 ^ k := Nat.one_le_two_pow
  rw [u16_or_nat n m (by omega) (by omega), u16_andNot_nat n m (by omega) (by omega)]
  have hlt : n ||| m < 2 ^ 16 := Nat.or_lt_two_pow (by omega) (by omega)
  have hle : n &&& (65535 - m) ≤ n := Nat.and_le_left
  have hm1 : m / 2048 = 2 ^ k := by omega
  have hm2 : (65535 - m) / 2048 = 31 - 2 ^ k := by omega
  have hd : (n ||| m) / 2048 = (n / 2048) ||| 2 ^ k := by
    rw [← hm1, shr11, shr11, shr11, Nat.shiftRight_or_distrib]
  have hd2 : (n &&& (65535 - m)) / 2048 = (n / 2048) &&& (31 - 2 ^ k) := by
    rw [← hm2, shr11, shr11, shr11, Nat.shiftRight_and_distrib]
  have hq := fin32_or ⟨n / 2048, by omega⟩ ⟨k, hk⟩
  simp only at hq
  rw [← hd, ← hd2] at hq
  unfold opc
  omega
end Go.Proofs.Qxb6618335a
