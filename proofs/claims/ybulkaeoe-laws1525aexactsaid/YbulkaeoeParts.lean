/-
  Lemmas outside the walk: 'append' onto a row of the call's own, from a source that may be nil; a source's cells in a later world.
-/
import Derived.Test.YbulkaeoeRows
import Derived.WalkKit
import Derived.OpenShut
import Derived.Laws.AppendOwnNone
namespace Go.Proofs.Ybulkaeoe
open Go.RowKit Go.WideShapes Go.ChangeShapes

/-- 'out = append(out, src...)', out nil or the call's own, src whatever: it may be nil. -/
theorem append_any {P : Program} (w : World) {ops : Array Oper} {rest : List Oper} {o : Oper} {a : Act} {Q : Exit → Act → World → Prop} (hgd : o.guard = none) (s x : Operand) (t : TypeId)
    (ho : o.op = .call { callee := .builtin .append, args := #[s, x], argTypes := #[t, t] })
    (base : Nat) (e : TypeId) (i : TypeInfo) (z : Value) (size bytes : Nat) (ht : P.underlying t = some (.slice e)) (hi : P.info? e = some i) (hz : i.zero = some z)
    (hsize : i.size = size) (hby : i.bytes = bytes) (hzs : z.cells.size = size) (hsz : 0 < size)
    (v : Value) (n : Nat) (xs : List Value) (hs : a.eval s = v) (hown : w.ownsRow base e size v n xs)
    (ao : Option Addr) (m c : Nat) (news : List Value) (hx : a.eval x = .slice ao m c) (hl : news.length = m * size) (hnone : ao = none → m = 0 ∧ c = 0)
    (hnews : ∀ ad, ao = some ad → ∀ j u, news[j]? = some u → w.cell? (ad.add j) = some u) (h1 : ∀ u ∈ news, u.oneCell' = true)
    (h63 : n + m ≤ maxLen) (hbytes : (n + m) * bytes ≤ 140737488355328) (hbase : base ≤ w.heap.size)
    (h : ∀ v' w', w'.ownsRow base e size v' (n + m) (xs ++ news) → Below base w w' → wpList P ops Q rest (a.put o.dst v') w') : wpList P ops Q (o :: rest) a w := by
  cases ao with
  | some ad =>
    refine wpList_append_own w hgd s x t ho base e i z size bytes ht hi hz hsize hby hzs hsz v n xs hs hown ad m c news hx hl (hnews ad rfl) h1 h63 hbytes hbase fun v' w' h2 h3 _ => h v' w' h2 ?_
    exact (Below.refl _ _).grown h3 hbase fun k hk => (hown.lt k hk).1
  | none =>
    obtain ⟨rfl, rfl⟩ := hnone rfl
    have hn : news = [] := List.eq_nil_of_length_eq_zero (by simpa using hl)
    subst hn
    refine wpList_append_own_none hgd s x t ho base e i size ht hi v n xs hs hown hx ?_
    exact h v w (by simpa using hown) (Below.refl _ _)

/-- What is told of a slice of bytes that came in, as far as its length. -/
structure Src (w : World) (p : Option Addr) (b off len cap : Nat) (Z : List Int) : Prop where
  length : Z.length = len
  atNil : p = none → len = 0 ∧ cap = 0
  there : 0 < len → p = some ⟨b, off, none⟩
  cell : ∀ j, j < len → w.cell? ⟨b, off + j, none⟩ = some (.int .u8 (Z[j]?.getD 0))
  range : ∀ j : Nat, 0 ≤ Z[j]?.getD 0 ∧ Z[j]?.getD 0 ≤ 255

theorem Src.later {w w1 : World} {p : Option Addr} {b off len cap : Nat} {Z : List Int} (h : Src w p b off len cap Z) (hb : Below w.heap.size w w1) : Src w1 p b off len cap Z :=
  ⟨h.length, h.atNil, h.there, fun j hj => (hb.cell (block_lt_of_cell (h.cell j hj))).trans (h.cell j hj), h.range⟩

theorem Src.cells {w : World} {p : Option Addr} {b off len cap : Nat} {Z : List Int} (h : Src w p b off len cap Z) :
    ∀ ad, p = some ad → ∀ t u, (Z.map (Value.int .u8))[t]? = some u → w.cell? (ad.add t) = some u := by
  intro ad had t u hu
  have hZ := h.length
  have ht : t < len := by
    rcases Nat.lt_or_ge t len with h | h
    · exact h
    · rw [List.getElem?_eq_none (by simp; omega)] at hu; cases hu
  rw [h.there (by omega)] at had
  cases had
  rw [add_plain, h.cell t ht]
  rw [List.getElem?_map] at hu
  rw [List.getElem?_eq_getElem (by omega)] at hu ⊢
  simpa using hu

theorem src_of {w : World} {p : Option Addr} {len cap : Nat} {zs : List Int}
    (h : (p = none ∧ len = 0 ∧ cap = 0 ∧ zs = []) ∨ ∃ x, p = some x ∧ len ≤ cap ∧ cap ≤ maxLen ∧ zs.length = cap ∧ (∀ i, i < zs.length → w.cell? (x.add i) = some (.int .u8 (zs.getD i 0))) ∧ ∀ n ∈ zs, (Lit.int .u8 n).wf = true) :
    ∃ b off, Src w p b off len cap (zs.take len) := by
  rcases h with ⟨rfl, rfl, rfl, rfl⟩ | ⟨x, rfl, hl, _, hz, hcell, hwz⟩
  · exact ⟨0, 0, rfl, fun _ => ⟨rfl, rfl⟩, fun h => absurd h (by omega), fun j h => absurd h (by omega), fun j => by simp⟩
  · obtain ⟨b, off, spot⟩ := x
    have hr := range_u8 hwz
    have hr' : ∀ j : Nat, 0 ≤ (zs.take len)[j]?.getD 0 ∧ (zs.take len)[j]?.getD 0 ≤ 255 := fun j => by
      rw [List.getElem?_take]
      split
      · exact hr j
      · exact ⟨by decide, by decide⟩
    by_cases h0 : len = 0
    · exact ⟨b, off, by simp; omega, fun h => (by cases h), fun h => absurd h (by omega), fun j h => absurd h (by omega), hr'⟩
    have hspot : spot = none := by simpa [Addr.add] using World.cell?_spot (hcell 0 (by omega))
    subst hspot
    refine ⟨b, off, by simp; omega, fun h => (by cases h), fun _ => rfl, fun j hj => ?_, hr'⟩
    have := hcell j (by omega)
    rw [add_plain] at this
    rw [List.getElem?_take, if_pos hj]
    simpa using this

theorem cells_new (w : World) (l : List Value) (t : TypeId) (H : Nat) (hH : H = w.heap.size) :
    ∀ ad, some (⟨H, 0, none⟩ : Addr) = some ad → ∀ (j : Nat) (u : Value), l[j]? = some u → (w.alloc (.cells l.toArray t)).cell? (ad.add j) = some u := by
  intro ad h j u hu
  cases h
  rw [add_plain, Nat.zero_add, World.cell?_alloc_at _ _ _ _ hH]
  simpa using hu
end Go.Proofs.Ybulkaeoe
