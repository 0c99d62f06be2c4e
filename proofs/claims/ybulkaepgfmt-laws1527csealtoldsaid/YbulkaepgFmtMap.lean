/-
  The map of streams: a string-keyed map of pointers that the call itself makes: one store, one look-up.
-/
import Derived.Test.YbulkaepgFmtRows
import Derived.WalkKit
import Derived.MapKept
namespace Go.Proofs.YbulkaepgFmt
open Go.RowKit Go.MapKept

theorem key_string (s : ByteArray) : IsKey .string (.string s) := trivial

theorem run_look (b : Nat) (k s : ByteArray) (v : Value) (w : World) (hb : w.heap[b]? = some (.map #[{ key := .string k, val := v, born := 0 }] 1)) :
    (Instr.lookup 52 (.map (some b)) (.string s) false).run Ybaf.prog w = .ok (if (s == k) = true then v else .pointer none) w := by
  have h1 := MapKept.run_getObj_map (P := Ybaf.prog) hb
  have h2 := fun e => MapKept.run_checkKey (P := Ybaf.prog) (w := w) Ybaf.underlying9 (key_string s) e 9999
  cases h : (s == k) with
  | false =>
    have h3 := MapKept.run_findKey (P := Ybaf.prog) (w := w) (k := .string s) (l := [{ key := .string k, val := v, born := 0 }]) (a := none) Ybaf.underlying9 (by simp [Instr.findNow, Instr.sameNow, h])
    simp [Instr.lookup, Result.andThen, Ybaf.runUnderlying52, h1, h2, h3, Ybaf.zeroValue29]
  | true =>
    have h3 := MapKept.run_findKey (P := Ybaf.prog) (w := w) (k := .string s) (l := [{ key := .string k, val := v, born := 0 }]) (a := some (0, v)) Ybaf.underlying9 (by simp [Instr.findNow, Instr.sameNow, h])
    simp [Instr.lookup, Result.andThen, Ybaf.runUnderlying52, h1, h2, h3]

theorem push_set (a : Array Obj) (x y : Obj) : (a.push x).setIfInBounds a.size y = a.push y := by
  apply Array.ext
  · simp
  · intro i h1 h2
    by_cases h : i = a.size
    · subst h; simp
    · have h3 : i < a.size := by simp at h2; omega
      rw [Array.getElem_setIfInBounds, if_neg (Ne.symm h), Array.getElem_push_lt h3, Array.getElem_push_lt h3]
      simp; omega

theorem run_put (k : ByteArray) (v : Value) (w : World) :
    (Instr.mapUpdate 52 (.map (some w.heap.size)) (.string k) v).run Ybaf.prog (w.alloc (.map #[] 0)) = .ok () (w.alloc (.map #[{ key := .string k, val := v, born := 0 }] 1)) := by
  have hb : (w.alloc (.map #[] 0)).heap[w.heap.size]? = some (.map #[] 0) := (heap_alloc w _).1
  have h1 := MapKept.run_getObj_map (P := Ybaf.prog) hb
  have h2 := fun e => MapKept.run_checkKey (P := Ybaf.prog) (w := w.alloc (.map #[] 0)) Ybaf.underlying9 (key_string k) e 9999
  have h3 := MapKept.run_findKey (P := Ybaf.prog) (w := w.alloc (.map #[] 0)) (k := .string k) (l := []) (a := none) Ybaf.underlying9 rfl
  have h4 := fun o => MapKept.run_setObj_map (P := Ybaf.prog) o hb
  simp [Instr.mapUpdate, Result.andThen, Ybaf.runUnderlying52, h1, h2, h3, h4]
  exact congrArg (fun h : Array Obj => ({ w with heap := h } : World)) (push_set w.heap _ _)
end Go.Proofs.YbulkaepgFmt
