/-
  Lemmas for the law's own walk: the open part as the law fills it; memory as it stands at the call of sealChunk.
-/
import Derived.Test.YbulkaepgFmtStage
import Derived.WalkKit
namespace Go.Proofs.YbulkaepgFmt
open Go.RowKit Go.MapKept

def zeroRec : Value := .agg #[.int .i64 0, .slice none 0 0]

theorem made_time (n j : Nat) (hj : j < n) : (madeCells zeroRec.cells (n * 2)).toList[j * 2]? = some (.int .i64 0) := by
  have h : j * 2 < n * 2 := by omega
  have hm : (j * 2) % 2 = 0 := by omega
  have hz : zeroRec.cells = #[.int .i64 0, .slice none 0 0] := rfl
  simp [madeCells, hz, h, hm]
theorem made_rest (n j : Nat) (hj : j < n) : (madeCells zeroRec.cells (n * 2)).toList[j * 2 + 1]? = some (.slice none 0 0) := by
  have h : j * 2 + 1 < n * 2 := by omega
  have hm : (j * 2 + 1) % 2 = 1 := by omega
  have hz : zeroRec.cells = #[.int .i64 0, .slice none 0 0] := rfl
  simp [madeCells, hz, h, hm]

/-- The open part (block O, n records); below the call's start nothing has turned. -/
structure Lay (w : World) (O n : Nat) (f : Nat → Int) (wr : World) : Prop where
  time : ∀ j, j < n → wr.cell? ⟨O, j * 2, none⟩ = some (.int .i64 (f j))
  rest : ∀ j, j < n → wr.cell? ⟨O, j * 2 + 1, none⟩ = some (.slice none 0 0)
  timeF : ∀ j, j < n → wr.frozen? ⟨O, j * 2, none⟩ = false
  restF : ∀ j, j < n → wr.frozen? ⟨O, j * 2 + 1, none⟩ = false
  lt : O < wr.heap.size
  below : Below w.heap.size w wr

theorem lay_start {w w0 : World} {n : Nat} (hown : w0.ownsRow w.heap.size 28 2 (.slice (some ⟨w.heap.size, 0, none⟩) n n) n (madeCells zeroRec.cells (n * 2)).toList) (hgrow : w.grownBy w0 none) : Lay w w.heap.size n (fun _ => 0) w0 := by
  refine ⟨fun j hj => ?_, fun j hj => ?_, fun j _ => hown.frozenAt _, fun j _ => hown.frozenAt _, (hown.lt w.heap.size rfl).2, (Below.refl _ _).grown hgrow (Nat.le_refl _) (fun k h => by cases h)⟩
  · rw [hown.cellAt (j * 2) (by omega)]; exact made_time n j hj
  · rw [hown.cellAt (j * 2 + 1) (by omega)]; exact made_rest n j hj

theorem Lay.store {w : World} {O n : Nat} {f : Nat → Int} {wr : World} (h : Lay w O n f wr) (hO : w.heap.size ≤ O) (k : Nat) (hk : k < n) (x : Int) (g : Nat → Int) (hg : ∀ j, j < n → g j = if j = k then x else f j) :
    Lay w O n g ((wr.setCell ⟨O, k * 2, none⟩ (.int .i64 x)).setCell ⟨O, k * 2 + 1, none⟩ (.slice none 0 0)) := by
  refine ⟨fun j hj => ?_, fun j hj => ?_, fun j hj => ?_, fun j hj => ?_, ?_, (h.below.setCell (by exact hO) _).setCell (by exact hO) _⟩
  · rw [World.cell?_setCell_other _ ⟨O, k * 2 + 1, none⟩ ⟨O, j * 2, none⟩ _ (by intro e1; injection e1 with _ e2 _; omega), hg j hj]
    by_cases e : j = k
    · subst e
      rw [if_pos rfl]
      exact World.cell?_setCell_same _ ⟨O, j * 2, none⟩ _ (h.time j hk)
    · rw [if_neg e, World.cell?_setCell_other _ ⟨O, k * 2, none⟩ ⟨O, j * 2, none⟩ _ (by intro e1; injection e1 with _ e2 _; omega)]
      exact h.time j hj
  · by_cases e : j = k
    · subst e
      refine World.cell?_setCell_same _ ⟨O, j * 2 + 1, none⟩ _ (u := .slice none 0 0) ?_
      rw [World.cell?_setCell_other _ ⟨O, j * 2, none⟩ ⟨O, j * 2 + 1, none⟩ _ (by intro e1; injection e1 with _ e2 _; omega)]
      exact h.rest j hj
    · rw [World.cell?_setCell_other _ ⟨O, k * 2 + 1, none⟩ ⟨O, j * 2 + 1, none⟩ _ (by intro e1; injection e1 with _ e2 _; omega), World.cell?_setCell_other _ ⟨O, k * 2, none⟩ ⟨O, j * 2 + 1, none⟩ _ (by intro e1; injection e1 with _ e2 _; omega)]
      exact h.rest j hj
  · simpa using h.timeF j hj
  · simpa using h.restF j hj
  · simpa [World.setCell] using h.lt

theorem Lay.congr {w : World} {O n : Nat} {f g : Nat → Int} {wr : World} (h : Lay w O n f wr) (hg : ∀ j, j < n → g j = f j) : Lay w O n g wr :=
  ⟨fun j hj => by rw [hg j hj]; exact h.time j hj, h.rest, h.timeF, h.restF, h.lt, h.below⟩

/-- Memory at the call of sealChunk. -/
def atCall (wr : World) (O n : Nat) (nf : Int) : World :=
  ((wr.alloc (.cells (sArr 0 0 (.slice none 0 0) (.slice (some ⟨O, 0, none⟩) n n) 0) 50)).alloc (.map #[{ key := .string ⟨#[115]⟩, val := .pointer (some ⟨wr.heap.size, 0, none⟩), born := 0 }] 1)).alloc (.cells (dArr nf (wr.heap.size + 1)) 77)

theorem heap3 (w : World) (a b c : Obj) : (((w.alloc a).alloc b).alloc c).heap[w.heap.size]? = some a ∧ (((w.alloc a).alloc b).alloc c).heap[w.heap.size + 1]? = some b ∧ (((w.alloc a).alloc b).alloc c).heap[w.heap.size + 2]? = some c ∧ ∀ k, k < w.heap.size → (((w.alloc a).alloc b).alloc c).heap[k]? = w.heap[k]? := by
  show (((w.heap.push a).push b).push c)[w.heap.size]? = some a ∧ (((w.heap.push a).push b).push c)[w.heap.size + 1]? = some b ∧ (((w.heap.push a).push b).push c)[w.heap.size + 2]? = some c ∧ ∀ k, k < w.heap.size → (((w.heap.push a).push b).push c)[k]? = w.heap[k]?
  refine ⟨?_, ?_, ?_, fun k hk => ?_⟩
  · rw [Array.getElem?_push, if_neg (by simp; omega), Array.getElem?_push, if_neg (by simp), Array.getElem?_push, if_pos rfl]
  · rw [Array.getElem?_push, if_neg (by simp), Array.getElem?_push, if_pos (by simp)]
  · rw [Array.getElem?_push, if_pos (by simp)]
  · rw [Array.getElem?_push, if_neg (by simp; omega), Array.getElem?_push, if_neg (by simp; omega), Array.getElem?_push, if_neg (by omega)]

theorem stage_of {w wr : World} {O n : Nat} {E : Nat → Int} (h : Lay w O n E wr) (nf : Int) : Stage (atCall wr O n nf) wr.heap.size (wr.heap.size + 2) (wr.heap.size + 1) O n nf E := by
  obtain ⟨h1, h2, h3, h4⟩ := heap3 wr (.cells (sArr 0 0 (.slice none 0 0) (.slice (some ⟨O, 0, none⟩) n n) 0) 50) (.map #[{ key := .string ⟨#[115]⟩, val := .pointer (some ⟨wr.heap.size, 0, none⟩), born := 0 }] 1) (.cells (dArr nf (wr.heap.size + 1)) 77)
  have hlt := h.lt
  refine ⟨h1, h3, h2, fun j hj => ?_, fun j hj => ?_, by omega, by omega⟩
  · exact (World.cell?_of_block (h4 O hlt)).trans (h.time j hj)
  · exact (World.cell?_of_block (h4 O hlt)).trans (h.rest j hj)
theorem below_call {w wr : World} {O n : Nat} {E : Nat → Int} (h : Lay w O n E wr) (nf : Int) : Below w.heap.size w (atCall wr O n nf) :=
  ((h.below.alloc h.below.size _).alloc (by have := h.below.size; simp; omega) _).alloc (by have := h.below.size; simp; omega) _

/-- What the law reads behind a sealing that failed. -/
theorem failed {w wr w2 : World} {O n : Nat} {E : Nat → Int} (h : Lay w O n E wr) (nf : Int) (hb : Below (atCall wr O n nf).heap.size (atCall wr O n nf) w2) :
    w2.cell? ⟨wr.heap.size, 7, none⟩ = some (.slice none 0 0) ∧ w2.cell? ⟨wr.heap.size, 9, none⟩ = some (.slice (some ⟨O, 0, none⟩) n n) ∧ w2.cell? ⟨wr.heap.size, 10, none⟩ = some (.int .u64 0) ∧
      w2.cell? ⟨wr.heap.size + 1 + 1, 12, none⟩ = some (.int .u64 nf) ∧ Below w.heap.size w w2 := by
  have hs := stage_of h nf
  have h1 := (hb.block _ (lt_blk hs.sblk)).trans hs.sblk
  have h2 := (hb.block _ (lt_blk hs.dblk)).trans hs.dblk
  refine ⟨cell_blk h1, cell_blk h1, cell_blk h1, cell_blk h2, (below_call h nf).trans (hb.mono ?_)⟩
  have := (below_call h nf).size
  omega

theorem put_call (wr : World) (o : Obj) : (Instr.mapUpdate 52 (.map (some (wr.heap.size + 1))) (.string ⟨#[115]⟩) (.pointer (some ⟨wr.heap.size, 0, none⟩))).run Ybaf.prog ((wr.alloc o).alloc (.map #[] 0)) =
    .ok () ((wr.alloc o).alloc (.map #[{ key := .string ⟨#[115]⟩, val := .pointer (some ⟨wr.heap.size, 0, none⟩), born := 0 }] 1)) := by
  have h := run_put ⟨#[115]⟩ (.pointer (some ⟨wr.heap.size, 0, none⟩)) (wr.alloc o)
  have e : (wr.alloc o).heap.size = wr.heap.size + 1 := by simp
  rw [e] at h
  exact h
end Go.Proofs.YbulkaepgFmt
