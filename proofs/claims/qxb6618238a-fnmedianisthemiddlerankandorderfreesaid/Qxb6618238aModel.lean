/-
  The laws' own helpers: zzMedianModel, table.ZZMedian, zzBytes.
-/
import Derived.Test.Qxb6618238aRank
namespace Go.Proofs.Qxb6618238a
open Go.RowKit

/-! ### zzMedianModel -/
theorem RowIs.drewN {w : World} {b off : Nat} {zs : List Nat} (h : RowIs w b off zs) (n : Nat) : RowIs (w.drewN n) b off zs := h

set_option maxHeartbeats 1000000 in
theorem model_f (b off cap len : Nat) (zs : List Nat) (hzl : zs.length = len) (hne : 1 ≤ len) (hlen : len ≤ 4096) (w : World) (hI : RowIs w b off zs) :
    Calls Try.prog 8 #[.slice (some ⟨b, off, none⟩) len cap] w fun e w' => ∃ m, e = .returned (.float .f64 m) ∧ ModelOf zs m ∧ ∃ n, w' = w.drewN n := by
  have HI : Hid (RowIs w b off zs) := hI
  have HM : Hid (∀ m, ModelOf zs m ↔ ((len % 2 = 1 ∧ AtRank zs (len / 2) m) ∨ (len % 2 = 0 ∧ ∃ x y, AtRank zs (len / 2 - 1) x ∧ AtRank zs (len / 2) y ∧ IsMean x y m))) := fun m => by unfold ModelOf; rw [hzl]
  clear hI
  by_cases ho : len % 2 = 1
  · have hoz : ((len : Int) % 2 == 1) = true := by rw [beq_iff_eq]; omega
    have HO : Hid (len % 2 = 1) := ho
    clear ho
    go_enter Try.func8, Try.ntmps8
    go_wp2_with fail
    rw [show ((len : Int) / 2) = ((len / 2 : Nat) : Int) by omega]
    refine (atRank_f b off cap (len / 2) len zs hzl (by omega) hlen w HI.out).mono ?_
    rintro e w' ⟨x, rfl, hx, n, rfl⟩
    have HX : Hid (AtRank zs (len / 2) x) := hx
    clear hx
    go_wp2
    go_ret
    exact ⟨x, rfl, (HM.out x).2 (Or.inl ⟨HO.out, HX.out⟩), n, rfl⟩
  · have hoz : ((len : Int) % 2 == 1) = false := by rw [beq_eq_false_iff_ne]; omega
    have ho2 : len % 2 = 0 := by omega
    have hmid : 1 ≤ len / 2 := by omega
    have HO : Hid (len % 2 = 0) := ho2
    clear ho ho2
    go_enter Try.func8, Try.ntmps8
    go_wp2_with fail
    rw [show ((len : Int) / 2 - 1) = ((len / 2 - 1 : Nat) : Int) by omega]
    refine (atRank_f b off cap (len / 2 - 1) len zs hzl (by omega) hlen w HI.out).mono ?_
    rintro e w' ⟨x, rfl, hx, n, rfl⟩
    have HX : Hid (AtRank zs (len / 2 - 1) x) := hx
    clear hx
    go_wp2_with fail
    rw [show ((len : Int) / 2) = ((len / 2 : Nat) : Int) by omega]
    refine (atRank_f b off cap (len / 2) len zs hzl (by omega) hlen _ (HI.out.drewN n)).mono ?_
    rintro e w' ⟨y, rfl, hy, n2, rfl⟩
    have HY : Hid (AtRank zs (len / 2) y) := hy
    clear hy
    rw [World.drewN_drewN]
    cases hA : FloatKind.f64.format.add x y with
    | some s =>
      cases hQ : FloatKind.f64.format.div s 4611686018427387904 with
      | some m =>
        have rA := fun w => run_add_some hA w
        have rQ := fun w => run_half_some hQ w
        have HF : Hid (IsMean x y m) := ⟨s, Or.inl hA, Or.inl hQ⟩
        clear hA hQ
        go_wp2
        go_ret
        exact ⟨m, rfl, (HM.out m).2 (Or.inr ⟨HO.out, x, y, HX.out, HY.out, HF.out⟩), _, rfl⟩
      | none =>
        have rA := fun w => run_add_some hA w
        have rQ := fun w => run_half_none hQ w
        have HF : Hid (∀ u, IsMean x y (nanPick u s 4611686018427387904)) := fun u => ⟨s, Or.inl hA, Or.inr ⟨hQ, nanPick_nan _ _ _⟩⟩
        clear hA hQ
        go_wp2
        go_ret
        exact ⟨_, rfl, (HM.out _).2 (Or.inr ⟨HO.out, x, y, HX.out, HY.out, HF.out _⟩), n + n2 + 1, rfl⟩
    | none =>
      have rA := fun w => run_add_none hA w
      have rQ := fun w u => run_half_none (half_nan (nanPick_nan u x y)) w
      have HF : Hid (∀ u v, IsMean x y (nanPick v (nanPick u x y) 4611686018427387904)) := fun u v => ⟨nanPick u x y, Or.inr ⟨hA, nanPick_nan _ _ _⟩, Or.inr ⟨half_nan (nanPick_nan _ _ _), nanPick_nan _ _ _⟩⟩
      clear hA
      go_wp2
      go_ret
      exact ⟨_, rfl, (HM.out _).2 (Or.inr ⟨HO.out, x, y, HX.out, HY.out, HF.out _ _⟩), n + n2 + 2, rfl⟩

/-! ### table.ZZMedian, zzBytes -/
theorem zzMedian_f (b off cap len : Nat) (zs : List Nat) (hzl : zs.length = len) (hne : 1 ≤ len) (hlen : len ≤ 4096) (w : World) (hb : b < w.heap.size) (hI : RowIs w b off zs) :
    Calls Try.prog 6 #[.slice (some ⟨b, off, none⟩) len cap] w fun e W' => ∃ m, e = .returned (.float .f64 m) ∧ MedOf zs m ∧ Below w.heap.size w W' := by
  subst hzl
  have c := tableMedian_f b off cap zs hne hlen w hb hI
  clear hI
  go_enter Try.func6, Try.ntmps6
  go_wp2_with fail
  refine c.mono ?_
  rintro e w' ⟨m, rfl, hm, hB⟩
  have HM : Hid (MedOf zs m) := hm
  have HB : Hid (Below w.heap.size w w') := hB
  clear hm hB
  go_wp2
  go_ret
  exact ⟨m, rfl, HM.out, HB.out⟩

theorem bytes5_f (a : Option Addr) (len cap : Nat) (k : Int) (hlen : len ≤ 1048576) (w : World) :
    Calls Try.prog 5 #[.slice a len cap, .int .i64 k] w fun e w' => e = .returned (.bool true) ∧ w' = w := by
  go_enter Try.func5, Try.ntmps5
  go_wp2
  go_ret
  exact ⟨rfl, rfl⟩
theorem bytes5_no (a : Option Addr) (len cap : Nat) (k : Int) (hlen : 1048576 < len) (hm : len ≤ 9223372036854775807) (w : World) :
    Calls Try.prog 5 #[.slice a len cap, .int .i64 k] w fun e w' => e = .returned (.bool false) ∧ w' = w := by
  go_enter Try.func5, Try.ntmps5
  go_wp2
  go_ret
  exact ⟨rfl, rfl⟩
theorem bytes9_f (a : Option Addr) (len cap : Nat) (hlen : len ≤ 1048576) (w : World) :
    Calls Try.prog 9 #[.slice a len cap] w fun e w' => e = .returned (.bool true) ∧ w' = w := by
  go_enter Try.func9, Try.ntmps9
  go_wp2
  go_ret
  exact ⟨rfl, rfl⟩
theorem bytes9_no (a : Option Addr) (len cap : Nat) (hlen : 1048576 < len) (hm : len ≤ 9223372036854775807) (w : World) :
    Calls Try.prog 9 #[.slice a len cap] w fun e w' => e = .returned (.bool false) ∧ w' = w := by
  go_enter Try.func9, Try.ntmps9
  go_wp2
  go_ret
  exact ⟨rfl, rfl⟩
end Go.Proofs.Qxb6618238a
