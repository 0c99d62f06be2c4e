/-
  Lemmas outside the walk: the metric and its layers in memory.
-/
import Derived.Test.YbulkaepgRows
import Derived.WalkKit
import Derived.Deep.Draws
namespace Go.Proofs.Ybulkaepg
open Go.RowKit

theorem below_drewN {B : Nat} {a w : World} (h : Below B a w) (n : Nat) : Below B a (w.drewN n) := h.trans ⟨rfl, rfl, rfl, Nat.le_refl _, fun _ _ => rfl⟩

/-- A layer, empty. -/
def zeroLayer : Value := .agg #[.int .i64 0, .int .i64 0, .slice none 0 0, .nilIface, .slice none 0 0]
theorem Yba.info61 : (Yba.prog.info? 61).map (fun i => (i.zero, i.size, i.bytes)) = some (some zeroLayer, 5, 80) := by kernel_rfl

theorem made_at (n j : Nat) (hj : j < n) : (madeCells zeroLayer.cells (n * 5)).toList[j * 5 + 1]? = some (.int .i64 0) := by
  have h : j * 5 + 1 < n * 5 := by omega
  have hm : (j * 5 + 1) % 5 = 1 := by omega
  have hz : zeroLayer.cells = #[.int .i64 0, .int .i64 0, .slice none 0 0, .nilIface, .slice none 0 0] := rfl
  simp [madeCells, hz, h, hm]

/-- The metric's block M leads to the layers' block B; the j-th layer's end is f j; below the call's start nothing has turned. -/
structure Lay (w : World) (M B n : Nat) (f : Nat → Int) (wr : World) : Prop where
  hdr : wr.cell? ⟨M, 19, none⟩ = some (.slice (some ⟨B, 0, none⟩) n n)
  cell : ∀ j, j < n → wr.cell? ⟨B, j * 5 + 1, none⟩ = some (.int .i64 (f j))
  free : ∀ j, j < n → wr.frozen? ⟨B, j * 5 + 1, none⟩ = false
  below : Below w.heap.size w wr

theorem Lay.drawn {w : World} {M B n : Nat} {f : Nat → Int} {wr : World} (h : Lay w M B n f wr) (q : Nat) : Lay w M B n f (wr.drewN q) :=
  ⟨h.hdr, h.cell, h.free, below_drewN h.below q⟩

theorem Lay.store {w : World} {M B n : Nat} {f : Nat → Int} {wr : World} (h : Lay w M B n f wr) (hne : M ≠ B) (hB : w.heap.size ≤ B) (k : Nat) (hk : k < n) (x : Int) (g : Nat → Int) (hg : ∀ j, j < n → g j = if j = k then x else f j) :
    Lay w M B n g (wr.setCell ⟨B, k * 5 + 1, none⟩ (.int .i64 x)) := by
  refine ⟨?_, fun j hj => ?_, fun j hj => ?_, h.below.setCell (by exact hB) _⟩
  · rw [World.cell?_setCell_other _ ⟨B, k * 5 + 1, none⟩ ⟨M, 19, none⟩ _ (by intro e; injection e with e1 _ _; exact hne e1.symm)]
    exact h.hdr
  · rw [hg j hj]
    by_cases e : j = k
    · subst e
      rw [if_pos rfl]
      exact World.cell?_setCell_same _ ⟨B, j * 5 + 1, none⟩ _ (h.cell j hk)
    · rw [if_neg e, World.cell?_setCell_other _ ⟨B, k * 5 + 1, none⟩ ⟨B, j * 5 + 1, none⟩ _ (by intro e1; injection e1 with _ e2 _; omega)]
      exact h.cell j hj
  · simpa using h.free j hj

theorem Lay.congr {w : World} {M B n : Nat} {f g : Nat → Int} {wr : World} (h : Lay w M B n f wr) (hg : ∀ j, j < n → g j = f j) : Lay w M B n g wr :=
  ⟨h.hdr, fun j hj => by rw [hg j hj]; exact h.cell j hj, h.free, h.below⟩

theorem lay_start {w w0 : World} {n : Nat} {cs : Array Value} (hown : w0.ownsRow w.heap.size 61 5 (.slice (some ⟨w.heap.size, 0, none⟩) n n) n (madeCells zeroLayer.cells (n * 5)).toList) (hgrow : w.grownBy w0 none)
    (hcs : cs[19]? = some (.slice (some ⟨w.heap.size, 0, none⟩) n n)) : w0.heap.size ≠ w.heap.size ∧ Lay w w0.heap.size w.heap.size n (fun _ => 0) (w0.alloc (.cells cs 59)) := by
  have hlt := (hown.lt w.heap.size rfl).2
  have hb : Below w.heap.size w w0 := (Below.refl _ _).grown hgrow (Nat.le_refl _) (fun k h => by cases h)
  refine ⟨by omega, ?_, fun j hj => ?_, fun j hj => ?_, hb.alloc hb.size _⟩
  · rw [World.cell?_alloc_at _ _ _ _ rfl]; exact hcs
  · rw [World.cell?_alloc_past _ _ _ hlt, hown.cellAt (j * 5 + 1) (by omega)]
    exact made_at n j hj
  · have h1 := hown.frozenAt (j * 5 + 1)
    rw [← h1]
    exact World.frozen?_of_block (Below.heap_alloc _ _ _ hlt)
end Go.Proofs.Ybulkaepg
