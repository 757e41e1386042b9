/-
  The order of cmp.Less on float64, how an element lies in a cell, and the walks of cmp.isNaN, cmp.Less, math/bits.Len.
-/
import Derived.Test.Qxb6618238aRows
import Derived.Sort.Row
import Derived.Lib.Walk
import Derived.WalkKit
import Derived.WalkLawsBesides
import Derived.Shelf.Strconv.Itoa0
namespace Go.Proofs.Qxb6618238a
open Go.RowKit

/-- An element of a slice of float64, by its bits. -/
abbrev encF : Nat → Value := fun x => Value.float .f64 x

/-- A float64 stored into a cell (the walk's set has the like for ints, bools, strings, pointers and slices). -/
theorem run_store_float (P : Program) (w : World) (a : Addr) (m : Mode) (k : FloatKind) (n : Nat) : (store a (.float k n) m).run P w = stored P w a (.float k n) m := run_store P w a _ m rfl

/-- Is it a NaN? ('x != x'.) -/
def nanF (x : Nat) : Bool := FloatKind.f64.format.order x x != some .eq

/-- cmp.Less at float64: a NaN comes first; else by value. -/
def ltF (x y : Nat) : Bool := (nanF x && !nanF y) || FloatKind.f64.format.order x y == some .lt

theorem isNaN_f (x : Nat) (w : World) : Calls Try.prog 37 #[.float .f64 x] w fun e w' => e = .returned (.bool (nanF x)) ∧ w' = w := by
  go_enter Try.func37, Try.ntmps37
  go_wp2
  go_ret
  exact ⟨rfl, rfl⟩

theorem cmpLess_f (x y : Nat) (w : World) : Calls Try.prog 27 #[.float .f64 x, .float .f64 y] w fun e w' => e = .returned (.bool (ltF x y)) ∧ w' = w := by
  have hx : nanF x = true ∨ nanF x = false := by cases nanF x <;> simp
  have hy : nanF y = true ∨ nanF y = false := by cases nanF y <;> simp
  have H : Hid (ltF x y = ((nanF x && !nanF y) || FloatKind.f64.format.order x y == some .lt)) := rfl
  rcases hx with hx | hx <;> rcases hy with hy | hy
  all_goals
    go_enter Try.func27, Try.ntmps27
    go_wp2_with (go_at_call 37; refine (isNaN_f _ _).mono ?_; rintro e w' ⟨rfl, rfl⟩)
    go_ret
    refine ⟨?_, rfl⟩
    rw [H.out]
    simp [hx, hy]
end Go.Proofs.Qxb6618238a
