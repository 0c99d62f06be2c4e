/-
  THE WALK over '(*DB).stream': RLock, the deferred RUnlock, one look-up. Behind it the world is as it was.
-/
import Derived.Test.YbulkaepgFmtMap
import Derived.Test.YbulkaepgFmtLocks
import Derived.Conc.RwLone
import Derived.WalkKit
namespace Go.Proofs.YbulkaepgFmt
open Go.RowKit Go.RwLone
set_option linter.unusedVariables false

theorem setCell_back (w : World) (b o : Nat) (x v : Value) (h : w.cell? ⟨b, o, none⟩ = some v) : (w.setCell ⟨b, o, none⟩ x).setCell ⟨b, o, none⟩ v = w := by
  have hh : ((w.setCell ⟨b, o, none⟩ x).setCell ⟨b, o, none⟩ v).heap = w.heap := by
    apply Array.ext_getElem?
    intro i
    by_cases hi : b = i
    · subst hi
      simp only [World.setCell, Array.getElem?_modify, if_true]
      cases hb : w.heap[b]? with
      | none => rfl
      | some ob =>
        cases ob <;> simp [World.cell?, hb] at h ⊢
        obtain ⟨hlt, hv⟩ := Array.getElem?_eq_some_iff.1 h
        apply Array.ext_getElem?
        intro j
        by_cases hj : o = j
        · subst hj; simp [hlt, hv]
        · simp [hj]
    · simp [World.setCell, Array.getElem?_modify, hi]
  exact congrArg (fun h : Array Obj => ({ w with heap := h } : World)) hh

/-- What is told of a DB in memory: the readers' lock of 'mu' free, 'streams' a map of one entry. -/
structure DBat (w : World) (d m : Nat) (v : Value) : Prop where
  lock : ∃ x, w.cell? ⟨d, 29, none⟩ = some x
  wsem : ∃ x, w.cell? ⟨d, 31, none⟩ = some x
  rsem : ∃ x, w.cell? ⟨d, 32, none⟩ = some x
  count : w.cell? ⟨d, 33, none⟩ = some (.int .i32 0)
  free : w.frozen? ⟨d, 33, none⟩ = false
  streams : w.cell? ⟨d, 36, none⟩ = some (.map (some m))
  entry : w.heap[m]? = some (.map #[{ key := .string ⟨#[115]⟩, val := v, born := 0 }] 1)

theorem up1 : wrap32 (0 + 1) = 1 := by unfold wrap32; omega
theorem down1 : wrap32 (1 + -1) = 0 := by unfold wrap32; omega
theorem rlock0 (d : Nat) (x0 x3 : Value) (w : World) (c0 : w.cell? ⟨d, 29, none⟩ = some x0) (c3 : w.cell? ⟨d, 32, none⟩ = some x3) (c4 : w.cell? ⟨d, 33, none⟩ = some (.int .i32 0)) (f4 : w.frozen? ⟨d, 33, none⟩ = false) :
    Calls Ybaf.prog 12 #[.pointer (some ⟨d, 29, none⟩)] w fun e w' => e = .returned (.tuple #[]) ∧ w' = w.setCell ⟨d, 33, none⟩ (.int .i32 1) := by
  have h := rlock_open Ybaf.rwRLib d 29 0 x0 x3 w c0 c3 c4 f4 (by rw [up1]; decide)
  rw [up1] at h
  exact h
theorem runlock1 (d : Nat) (x0 x2 : Value) (u : FrameMode) (w : World) (c0 : w.cell? ⟨d, 29, none⟩ = some x0) (c2 : w.cell? ⟨d, 31, none⟩ = some x2) (c4 : w.cell? ⟨d, 33, none⟩ = some (.int .i32 1)) (f4 : w.frozen? ⟨d, 33, none⟩ = false) :
    CallsD Ybaf.prog 13 #[.pointer (some ⟨d, 29, none⟩)] u w fun e u' w' => u' = u ∧ (e = .returned (.tuple #[]) ∧ w' = w.setCell ⟨d, 33, none⟩ (.int .i32 0)) := by
  have h := runlock_deferred Ybaf.rwRLib d 29 1 x0 x2 u w c0 c2 c4 f4 (by rw [down1]; decide)
  rw [down1] at h
  exact h

set_option maxHeartbeats 800000 in
theorem stream_any (d m : Nat) (nm : ByteArray) (v r : Value) (w : World) (h : DBat w d m v) (hr : (if (nm == (⟨#[115]⟩ : ByteArray)) = true then v else .pointer none) = r) :
    Calls Ybaf.prog 6 #[.pointer (some ⟨d, 0, none⟩), .string nm] w fun e w' => e = .returned r ∧ w' = w := by
  obtain ⟨⟨x0, c0⟩, ⟨x2, c2⟩, ⟨x3, c3⟩, c4, f4, c7, hm⟩ := h
  have hne : d ≠ m := by
    intro e
    subst e
    simp [World.cell?, hm] at c4
  have c7' : (w.setCell ⟨d, 33, none⟩ (.int .i32 1)).cell? ⟨d, 36, none⟩ = some (.map (some m)) := (World.cell?_setCell_other _ ⟨d, 33, none⟩ ⟨d, 36, none⟩ _ (by simp)).trans c7
  have hm' : (w.setCell ⟨d, 33, none⟩ (.int .i32 1)).heap[m]? = some (.map #[{ key := .string ⟨#[115]⟩, val := v, born := 0 }] 1) := (Below.heap_setCell _ _ _ _ (by simpa using hne.symm)).trans hm
  have hlk := run_look m ⟨#[115]⟩ nm v _ hm'
  rw [hr] at hlk
  have c0' : (w.setCell ⟨d, 33, none⟩ (.int .i32 1)).cell? ⟨d, 29, none⟩ = some x0 := (World.cell?_setCell_other _ ⟨d, 33, none⟩ ⟨d, 29, none⟩ _ (by simp)).trans c0
  have c2' : (w.setCell ⟨d, 33, none⟩ (.int .i32 1)).cell? ⟨d, 31, none⟩ = some x2 := (World.cell?_setCell_other _ ⟨d, 33, none⟩ ⟨d, 31, none⟩ _ (by simp)).trans c2
  have c4' : (w.setCell ⟨d, 33, none⟩ (.int .i32 1)).cell? ⟨d, 33, none⟩ = some (.int .i32 1) := World.cell?_setCell_same w ⟨d, 33, none⟩ (.int .i32 1) c4
  clear hm hm' hr
  go_enter_defers Ybaf.func6, Ybaf.ntmps6
  go_wp2_with (go_at_call 12; refine (rlock0 d x0 x3 _ c0 c3 c4 f4).mono ?_; rintro e w' ⟨rfl, rfl⟩)
  refine leaves_cons (f := 13) (args := #[.pointer (some ⟨d, 29, none⟩)]) (by simp) (by simp [go_sem]) ?_
  refine (runlock1 d x0 x2 .returning _ c0' c2' c4' (by simp [f4])).mono ?_
  rintro e u' w'' ⟨rfl, rfl, rfl⟩
  exact ⟨_, results_tmp rfl _ _ _, rfl, setCell_back w d 33 _ _ c4⟩
end Go.Proofs.YbulkaepgFmt
