/-
  What both median laws share: rows, copies, stores, and how a slice of float64 that came in is opened.
-/
import Derived.Test.Qxb6618238aModel
import Derived.Laws.CopyOwn
import Derived.Deep.OwnRows
import Derived.OwnWalk
import Derived.Deep.Slices
import Derived.WideShapes
namespace Go.Proofs.Qxb6618238a
open Go.RowKit


theorem size24 : (Try.prog.info? 24).map (·.size) = some 1 := by kernel_rfl

/-- The made row behind the copy holds zs. -/
theorem row_spliced {w : World} {g : Nat} {t : TypeId} {L : List Value} {zs : List Nat} (hl : L.length = zs.length) (h : w.heap[g]? = some (.cells (splice L 0 (zs.map encF)).toArray t (0, 0))) : RowIs w g 0 zs := by
  intro j hj
  have e : splice L 0 (zs.map encF) = zs.map encF := by
    unfold splice
    rw [List.take_zero, List.nil_append, Nat.zero_add, List.drop_eq_nil_of_le (by simp; omega), List.append_nil]
  rw [e] at h
  simp [World.cell?, h, List.getElem?_eq_getElem hj]

/-- '-x' on a float64. -/
theorem unary_neg_float (k : FloatKind) (b : Nat) : Op.unary .neg (.float k b) = pure (.float k (Op.negFloat k b)) := rfl

theorem RowIs.at0 {w : World} {g : Nat} {zs : List Nat} (h : RowIs w g 0 zs) {t : Nat} (ht : t < zs.length) : w.cell? ⟨g, t, none⟩ = some (.float .f64 (zs[t]?.getD 0)) := by
  have := h t ht
  rwa [Nat.zero_add] at this

theorem holds_row {w : World} {g : Nat} {d : Array Nat} (h : Sort.Holds encF w g 0 d) : RowIs w g 0 d.toList := by
  intro j hj
  have hj' : j < d.size := by simpa using hj
  rw [(h j hj').1, getElem!_pos d j hj']
  simp [hj']

theorem holds_made (w : World) (len : Nat) : Sort.Holds encF (w.alloc (.cells (madeCells #[Value.float .f64 0] len) 24)) w.heap.size 0 (Array.replicate len 0) := by
  intro j hj
  have hj' : j < len := by simpa using hj
  constructor
  · have e : (madeCells #[Value.float .f64 0] len)[j]? = some (.float .f64 0) := by
      rw [← Array.getElem?_toList, toList_madeCells_one]
      simp [hj']
    rw [World.cell?_alloc_at _ _ _ _ rfl]
    simp [e, hj']
  · rw [World.frozen?_alloc_at _ _ _ _ rfl]

theorem holds_store {w : World} {g : Nat} {d : Array Nat} (h : Sort.Holds encF w g 0 d) (i x : Nat) (hi : i < d.size) : Sort.Holds encF (w.setCell ⟨g, i, none⟩ (.float .f64 x)) g 0 (d.setIfInBounds i x) := by
  have e := Sort.putRow_set encF w g 0 d i x hi
  rw [Sort.putRow_self _ _ _ _ _ h, Nat.zero_add] at e
  rw [e]
  exact Sort.holds_putRow _ _ _ _ d _ h (by simp)

theorem RowIs.below {B : Nat} {w w' : World} {b off : Nat} {zs : List Nat} (h : RowIs w b off zs) (hB : Below B w w') (hb : b < B) : RowIs w' b off zs :=
  fun j hj => (hB.cell (p := ⟨b, off + j, none⟩) hb).trans (h j hj)

/-! ### A slice of float64 that came in -/
/-- What the walk is told of it: its length fits; where it has elements, it leads to a row of them. -/
def IsRowF (w : World) (a : Option Addr) (len : Nat) : Prop :=
  len ≤ 9223372036854775807 ∧ (1 ≤ len → ∃ b off zs, a = some ⟨b, off, none⟩ ∧ b < w.heap.size ∧ zs.length = len ∧ RowIs w b off zs)

theorem float_of_trod {H : Type} {enc : TypeId × Value → H} {w : World} {base : Nat} {spare : Nat → Bool} {held : Bool} {n : Nat} {v : Value} {x : DataW H × List MemPlace}
    (h : DataW.trod enc Try.prog w base spare held n 24 [v] = some x) : ∃ b, v = .float .f64 b := by
  cases n with
  | zero => simp [DataW.trod] at h
  | succ n =>
    simp only [DataW.trod, Try.underlying24] at h
    cases v <;> simp at h
    obtain ⟨⟨rfl, _⟩, _⟩ := h
    exact ⟨_, rfl⟩

theorem cells24 : Try.prog.cellsOf 24 = 1 := by kernel_rfl

theorem isRow_of {H : Type} {enc : TypeId × Value → H} {W : World} {a : Option Addr} {len cap : Nat} {d : DataW H} {ps : List MemPlace} {spare : Nat → Bool} {held : Bool}
    (h : DataW.Trod enc Try.prog W 0 spare held 22 (.slice a len cap) d ps) : IsRowF W a len := by
  obtain ⟨fuel, hf⟩ := h
  rcases Go.Deep.open_slice1 Try.underlying22 cells24 hf with ⟨hcs, _⟩ | ⟨x, l, c, m, n, V, D, Pl, hcs, _, hl, hm, hmm, _, hx⟩
  · simp [Value.cells] at hcs
    obtain ⟨rfl, rfl, rfl⟩ := hcs
    exact ⟨by omega, fun h => by omega⟩
  · simp [Value.cells] at hcs
    obtain ⟨rfl, rfl, rfl⟩ := hcs
    unfold maxLen at hm
    have hlm : len ≤ m := by rw [hmm]; split <;> omega
    refine ⟨by omega, fun h1 => ?_⟩
    obtain ⟨b, off, spot⟩ := x
    have hspot : spot = none := by simpa [Addr.add] using World.cell?_spot (hx 0 (by omega)).1
    subst hspot
    have hV : ∀ t, t < len → ∃ y, V t = .float .f64 y := fun t ht => float_of_trod (hx t (by omega)).2
    have hcell : ∀ t, t < len → W.cell? ⟨b, off + t, none⟩ = some (V t) := fun t ht => by
      have := (hx t (by omega)).1
      rwa [Go.WideShapes.add_plain] at this
    have hb : b < W.heap.size := by
      have := hcell 0 (by omega)
      unfold World.cell? at this
      split at this
      · rename_i h2
        exact (Array.getElem?_eq_some_iff.1 h2).1
      · simp at this
    refine ⟨b, off, (List.range len).map (fun t => match V t with | .float _ y => y | _ => 0), rfl, hb, by simp, ?_⟩
    intro j hj
    have hj' : j < len := by simpa using hj
    obtain ⟨y, hy⟩ := hV j hj'
    rw [hcell j hj', hy]
    simp [hj', hy]
end Go.Proofs.Qxb6618238a
