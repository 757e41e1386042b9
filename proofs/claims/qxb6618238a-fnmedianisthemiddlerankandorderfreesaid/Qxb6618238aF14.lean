/-
  slices.Sort at float64 (Derived/Sort/WalkA14.lean): the worked walk, turned to this program; the parts put together.
-/
import Derived.Test.Qxb6618238aFA
import Derived.Test.Qxb6618238aFA6
import Derived.Test.Qxb6618238aFB1
import Derived.Test.Qxb6618238aFB3
import Derived.Test.Qxb6618238aFC4
import Derived.Test.Qxb6618238aFC5
import Derived.Test.Qxb6618238aF7
import Derived.Test.Qxb6618238aF11
import Derived.Test.Qxb6618238aF13
import Derived.Sort.AssemblyPlain
import Derived.Sort.WalkA14
namespace Go.Proofs.Qxb6618238a
open Go.RowKit Go.Sort
attribute [local go_sem] run_store_float

def pdqWalk_f : Prop := ∀ (blk off cap a b limit : Nat) (d : Array Nat) (w : World), Holds encF w blk off d → blk < w.heap.size → a ≤ b → b ≤ d.size → d.size < 4611686018427387904 → limit < 4611686018427387904 → Below ltF a b d →
  Calls Try.prog 19 #[.slice (some ⟨blk, off, none⟩) d.size cap, .int .i64 a, .int .i64 b, .int .i64 limit] w fun e w' =>
    e = .returned (.tuple #[]) ∧ ∃ n os, w' = grow (putRow encF (Sort.ahead w n) blk off (Sort.pdq ltF d a b limit true true)) os

set_option maxRecDepth 100000 in
theorem Sort_f (hpdq : pdqWalk_f) (blk off cap : Nat) (d : Array Nat) (w : World) (hH : Holds encF w blk off d) (hblk : blk < w.heap.size) (hsz : d.size < 4611686018427387904) :
    Calls Try.prog 16 #[.slice (some ⟨blk, off, none⟩) d.size cap] w fun e w' => e = .returned (.tuple #[]) ∧ ∃ n os, w' = grow (putRow encF (Sort.ahead w n) blk off (Sort.sort ltF d)) os := by
  have HH : Hid (Holds encF w blk off d) := hH
  clear hH
  have hLen : ∀ w, Calls Try.prog 20 #[.int .u64 (d.size : Int)] w fun e w' => e = .returned (.int .i64 (bitsLen d.size : Nat)) ∧ w' = w := fun w => by
    have h := bits_Len_f (d.size : Int) w (by omega) (by omega)
    rwa [Int.toNat_natCast, bitLen_eq _ (by omega)] at h
  have hk : bitsLen d.size ≤ 62 := (bitsLen_le_iff d.size 62).2 (by omega)
  go_enter Try.func16, Try.ntmps16
  go_wp2_with (first
    | (go_at_call 20; refine (hLen _).mono ?_; rintro e w' ⟨rfl, rfl⟩)
    | (go_at_call 19; refine (hpdq blk off cap 0 d.size (bitsLen d.size) d _ (by exact HH.out) (by exact hblk) (Nat.zero_le _) (Nat.le_refl _) hsz (by omega) (Or.inl rfl)).mono ?_; rintro e w' ⟨rfl, n, os, rfl⟩))
  go_end0
  exact ⟨rfl, n, os, rfl⟩

theorem calleesF : CalleesF where
  ins := insertionSort_f
  brk := breakPatterns_f
  piv := choosePivot_f
  par := partialInsertionSort_f
  peq := partitionEqualOrdered_f
  prt := partitionOrdered_f

theorem plainF (S : SWO ltF) : PlainF where
  swo := S
  ins := insertionSort_holds
  par := partialInsertionSort_holds
  prt := partition_holds _
  peq := partitionEqual_holds _
  pdq := pdq_sorts _

theorem pdqWalkF (S : SWO ltF) : pdqWalk_f := fun blk off cap a b limit d w hH hb hab hbd hsz hl hB =>
  pdqsort_f calleesF (plainF S) (b - a + 1) blk off cap a b limit d w (by omega) hH hb hab hbd hsz hl hB
end Go.Proofs.Qxb6618238a
