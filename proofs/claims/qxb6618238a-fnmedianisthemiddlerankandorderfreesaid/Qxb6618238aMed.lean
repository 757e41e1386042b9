/-
  slices.Sorted(slices.Values(zs)), table.median and table.ZZMedian at float64.
-/
import Derived.Test.Qxb6618238aIt
import Derived.Test.Qxb6618238aF14
import Derived.Test.Qxb6618238aPlain3
import Derived.WalkSpells
import Derived.BigQuiet
import Derived.Laws.FloatArith
namespace Go.Proofs.Qxb6618238a
open Go.RowKit Go.Sort

attribute [local go_sem] run_store_float

theorem holds_block_f {w : World} {g : Nat} {cur : Array Value} {e : TypeId} {zs : List Nat} (hb : w.heap[g]? = some (.cells cur e (0, 0))) (ht : cur.toList.take zs.length = zs.map encF) : Holds encF w g 0 zs.toArray := by
  intro j hj
  have hj' : j < zs.length := by simpa using hj
  refine ⟨?_, by simp [World.frozen?, hb]⟩
  have h1 : (cur.toList.take zs.length)[j]? = (zs.map encF)[j]? := by rw [ht]
  rw [List.getElem?_take_of_lt hj'] at h1
  simp only [World.cell?, hb, Nat.zero_add]
  rw [← Array.getElem?_toList, h1]
  simp [hj', getElem!_pos]

/-- The cells of the row, in a world where it lies. -/
def RowIs (w : World) (blk off : Nat) (zs : List Nat) : Prop := ∀ j, j < zs.length → w.cell? ⟨blk, off + j, none⟩ = some (.float .f64 (zs[j]?.getD 0))

set_option maxHeartbeats 1000000 in
/-- slices.Sorted: a new slice that holds what slices.Sort makes of zs. -/
theorem sorted_f (S : SWO ltF) (Bs b off cap : Nat) (zs : List Nat) (hne : 1 ≤ zs.length) (hlen : zs.length ≤ 4096) (w : World) (hBs : Bs < w.heap.size) (hb : b < w.heap.size)
    (hc : w.cell? ⟨Bs, 0, none⟩ = some (.slice (some ⟨b, off, none⟩) zs.length cap)) (hI : RowIs w b off zs) :
    Calls Try.prog 12 #[.func (.func 17) #[] #[.pointer (some ⟨Bs, 0, none⟩)]] w fun e W' => ∃ g cap', e = .returned (.slice (some ⟨g, 0, none⟩) zs.length cap') ∧ w.heap.size ≤ g ∧ Holds encF W' g 0 (Sort.sort ltF zs.toArray) ∧ Below w.heap.size w W' := by
  have cC := callsIn_wide.1 (collect_in Fence.wide 4 trivial trivial trivial rfl (by omega) Bs b off cap zs (by unfold maxLen; omega) (by omega) w hBs hb hc hI)
  clear hc hI
  go_enter Try.func12, Try.ntmps12
  go_wp2_with fail
  refine cC.mono ?_
  rintro e W ⟨v, rfl, hrow, hbel⟩
  rcases hrow.2 with ⟨rfl, hz⟩ | ⟨gb, cap', cur, rfl, hbase, hgb, r1, r2, r3, r4⟩
  · exact absurd hz (by omega)
  have hH : Holds encF W gb 0 zs.toArray := holds_block_f hgb (by simpa using r4)
  have hgl : gb < W.heap.size := (Array.getElem?_eq_some_iff.1 hgb).1
  have cS := Sort_f (pdqWalkF S) gb 0 cap' zs.toArray W hH hgl (by simp; omega)
  rw [List.size_toArray] at cS
  have HB : Hid (Below w.heap.size w W) := hbel
  have HH : Hid (Holds encF W gb 0 zs.toArray) := hH
  clear hbel hH hrow hgb r4 cC
  go_wp2_with fail
  refine cS.mono ?_
  rintro e w' ⟨rfl, nn, os, rfl⟩
  go_wp2
  go_ret
  have hsz : (Sort.sort ltF zs.toArray).size = zs.toArray.size := (sort_sorts ltF S zs.toArray).1.1
  refine ⟨gb, cap', rfl, hbase, ?_, ?_⟩
  · exact holds_grow _ _ _ _ _ _ (by simpa using hgl) (holds_putRow _ _ _ _ _ _ (holds_ahead _ _ _ _ _ _ HH.out) hsz)
  · refine HB.out.trans ⟨rfl, rfl, rfl, by simp, fun k hk => ?_⟩
    have hgk : gb ≠ k := by omega
    rw [heap_grow_old _ _ (by simp; omega)]
    simp [putRow, mapBlock, Sort.ahead, Array.getElem?_modify, hgk]

/-! ### The float operations of the mean -/
/-- The bits of the NaN that the tape answers with. -/
def nanPick (w : World) (x y : Nat) : Nat := (Question.nanBits .f64 x y).cut (w.tape w.drawn (.nanBits .f64 x y))

theorem nanPick_nan (w : World) (x y : Nat) : nanF (nanPick w x y) = true := by
  rw [nanF_eq]
  unfold nanPick Question.cut
  simp only
  generalize w.tape w.drawn (.nanBits .f64 x y) = t
  have h1 : R = 9218868437227405312 := by unfold R B; rfl
  have h2 : W = 9223372036854775808 := by unfold W B; rfl
  rw [h1, h2, decide_eq_true_eq]
  have hq : t / 2 % (2 ^ 52 - 1) < 2 ^ 52 - 1 := Nat.mod_lt _ (by decide)
  generalize t / 2 % (2 ^ 52 - 1) = q at hq
  rcases Nat.mod_two_eq_zero_or_one t with h | h
  · rw [h]; omega
  · rw [h]; omega

theorem run_add_some {x y s : Nat} (h : FloatKind.f64.format.add x y = some s) (w : World) : (binOp .add 24 (.float .f64 x) (.float .f64 y)).run Try.prog w = .ok (.float .f64 s) w :=
  run_float_arith w .add 24 .f64 x y s h
theorem run_add_none {x y : Nat} (h : FloatKind.f64.format.add x y = none) (w : World) : (binOp .add 24 (.float .f64 x) (.float .f64 y)).run Try.prog w = .ok (.float .f64 (nanPick w x y)) w.drew := by
  simp [binOp, Op.floatArith, h, Question.forced]
  rfl
theorem run_half_some {s m : Nat} (h : FloatKind.f64.format.div s 4611686018427387904 = some m) (w : World) : (binOp .quo 24 (.float .f64 s) (.float .f64 4611686018427387904)).run Try.prog w = .ok (.float .f64 m) w :=
  run_float_arith w .quo 24 .f64 s _ m h
theorem run_half_none {s : Nat} (h : FloatKind.f64.format.div s 4611686018427387904 = none) (w : World) : (binOp .quo 24 (.float .f64 s) (.float .f64 4611686018427387904)).run Try.prog w = .ok (.float .f64 (nanPick w s 4611686018427387904)) w.drew := by
  simp [binOp, Op.floatArith, h, Question.forced]
  rfl

theorem half_nan {s : Nat} (h : nanF s = true) : FloatKind.f64.format.div s 4611686018427387904 = none := by
  obtain ⟨u, v, e⟩ := read_nan (nan_of h)
  show ((f64.read s).quotient (f64.fractionBits + 2) (f64.read TWO)).map f64.write = none
  rw [e]
  rfl

set_option maxHeartbeats 1000000 in
theorem tableMedian_f (b off cap : Nat) (zs : List Nat) (hne : 1 ≤ zs.length) (hlen : zs.length ≤ 4096) (w : World) (hb : b < w.heap.size) (hI : RowIs w b off zs) :
    Calls Try.prog 10 #[.slice (some ⟨b, off, none⟩) zs.length cap] w fun e W' => ∃ m, e = .returned (.float .f64 m) ∧ MedOf zs m ∧ Below w.heap.size w W' := by
  have cV := callsIn_wide.1 (values_in Fence.wide 4 trivial rfl (some ⟨b, off, none⟩) zs.length cap w)
  have hB0 : Below w.heap.size w (w.alloc (.cells #[.slice (some ⟨b, off, none⟩) zs.length cap] 22)) := (Below.refl _ w).alloc (Nat.le_refl _) _
  have bO := Boxed.new w 22 (.slice (some ⟨b, off, none⟩) zs.length cap)
  have hI0 : RowIs (w.alloc (.cells #[.slice (some ⟨b, off, none⟩) zs.length cap] 22)) b off zs := fun j hj => (hB0.cell (p := ⟨b, off + j, none⟩) hb).trans (hI j hj)
  have cS := sorted_f swo_ltF w.heap.size b off cap zs hne hlen (w.alloc (.cells #[.slice (some ⟨b, off, none⟩) zs.length cap] 22)) (by simp) (by simp; omega) bO.cell hI0
  have hsz : (Sort.sort ltF zs.toArray).size = zs.length := by simpa using (sort_sorts ltF swo_ltF zs.toArray).1.1
  have HM : Hid (∀ m, MedOf zs m ↔ ((zs.length % 2 = 1 ∧ m = (Sort.sort ltF zs.toArray)[zs.length / 2]!) ∨ (zs.length % 2 = 0 ∧ IsMean (Sort.sort ltF zs.toArray)[zs.length / 2 - 1]! (Sort.sort ltF zs.toArray)[zs.length / 2]! m))) := fun _ => Iff.rfl
  clear hI hI0 bO
  generalize Sort.sort ltF zs.toArray = d at *
  go_enter Try.func10, Try.ntmps10
  go_wp2_with fail
  refine cV.mono ?_
  rintro e w1 ⟨rfl, rfl⟩
  go_wp2_with fail
  refine cS.mono ?_
  rintro e W ⟨g, cap', rfl, hg, hH, hB⟩
  have HB : Hid (Below w.heap.size w W) := hB0.trans (hB.mono (by simp))
  clear hB hB0 cV cS
  have cm := (hH (zs.length / 2) (by omega)).1
  rw [Nat.zero_add] at cm
  generalize hY : d[zs.length / 2]! = Y at *
  have HY : Hid (d[zs.length / 2]! = Y) := hY
  clear hY
  by_cases ho : zs.length % 2 = 1
  · have hoz : (((zs.length : Nat) : Int) % 2 == 1) = true := by rw [beq_iff_eq]; omega
    have HO : Hid (zs.length % 2 = 1) := ho
    clear ho
    go_wp2
    go_ret
    exact ⟨Y, rfl, (HM.out Y).2 (Or.inl ⟨HO.out, rfl⟩), HB.out⟩
  · have hoz : (((zs.length : Nat) : Int) % 2 == 1) = false := by rw [beq_eq_false_iff_ne]; omega
    have ho2 : zs.length % 2 = 0 := by omega
    have hmid : 1 ≤ zs.length / 2 := by omega
    have cl := (hH (zs.length / 2 - 1) (by omega)).1
    rw [Nat.zero_add] at cl
    generalize hX : d[zs.length / 2 - 1]! = X at *
    clear hX
    have HO : Hid (zs.length % 2 = 0) := ho2
    clear ho2 ho hH
    have cl' : W.cell? ⟨g, zs.length / 2 - 1, none⟩ = some (.float .f64 X) := cl
    have cm' : W.cell? ⟨g, zs.length / 2, none⟩ = some (.float .f64 Y) := cm
    clear cl cm
    cases hA : FloatKind.f64.format.add X Y with
    | some s =>
      cases hQ : FloatKind.f64.format.div s 4611686018427387904 with
      | some m =>
        have rA := fun w => run_add_some hA w
        have rQ := fun w => run_half_some hQ w
        have HF : Hid (IsMean X Y m) := ⟨s, Or.inl hA, Or.inl hQ⟩
        clear hA hQ
        go_wp2
        go_region
        all_goals
          go_wp2
          go_ret
          exact ⟨m, rfl, (HM.out m).2 (Or.inr ⟨HO.out, HF.out⟩), HB.out.drew⟩
      | none => 
        have rA := fun w => run_add_some hA w
        have rQ := fun w => run_half_none hQ w
        have HF : Hid (∀ u, IsMean X Y (nanPick u s 4611686018427387904)) := fun u => ⟨s, Or.inl hA, Or.inr ⟨hQ, nanPick_nan _ _ _⟩⟩
        clear hA hQ
        go_wp2
        go_region
        all_goals
          go_wp2
          go_ret
          exact ⟨_, rfl, (HM.out _).2 (Or.inr ⟨HO.out, HF.out _⟩), HB.out.drew.drew⟩
    | none =>
      have rA := fun w => run_add_none hA w
      have rQ := fun w u => run_half_none (half_nan (nanPick_nan u X Y)) w
      have HF : Hid (∀ u v, IsMean X Y (nanPick v (nanPick u X Y) 4611686018427387904)) := fun u v => ⟨nanPick u X Y, Or.inr ⟨hA, nanPick_nan _ _ _⟩, Or.inr ⟨half_nan (nanPick_nan _ _ _), nanPick_nan _ _ _⟩⟩
      clear hA
      go_wp2
      go_region
      all_goals
        go_wp2
        go_ret
        exact ⟨_, rfl, (HM.out _).2 (Or.inr ⟨HO.out, HF.out _ _⟩), HB.out.drew.drew.drew⟩
end Go.Proofs.Qxb6618238a
