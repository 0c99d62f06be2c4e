/-
  What is told of memory ahead of '(*DB).sealChunk', and the plain mathematics of a chunk's first and last timestamp.
-/
import Derived.Test.YbulkaepgFmtStream
import Derived.WalkKit
namespace Go.Proofs.YbulkaepgFmt
open Go.RowKit

/-- The least of E 0 and the first k. -/
def mn (E : Nat → Int) : Nat → Int
  | 0 => E 0
  | k + 1 => if E k < mn E k then E k else mn E k
/-- The greatest of E 0 and the first k. -/
def mx (E : Nat → Int) : Nat → Int
  | 0 => E 0
  | k + 1 => if mx E k < E k then E k else mx E k

theorem mn_lt {E : Nat → Int} {k : Nat} (h : E k < mn E k) : mn E (k + 1) = E k := if_pos h
theorem mn_ge {E : Nat → Int} {k : Nat} (h : ¬ E k < mn E k) : mn E (k + 1) = mn E k := if_neg h
theorem mx_gt {E : Nat → Int} {k : Nat} (h : mx E k < E k) : mx E (k + 1) = E k := if_pos h
theorem mx_le {E : Nat → Int} {k : Nat} (h : ¬ mx E k < E k) : mx E (k + 1) = mx E k := if_neg h

theorem cell_blk {w : World} {b o : Nat} {arr : Array Value} {t : TypeId} {fr : Nat × Nat} (h : w.heap[b]? = some (.cells arr t fr)) : w.cell? ⟨b, o, none⟩ = arr[o]? := by simp [World.cell?, h]
theorem free_blk {w : World} {b o : Nat} {arr : Array Value} {t : TypeId} (h : w.heap[b]? = some (.cells arr t (0, 0))) : w.frozen? ⟨b, o, none⟩ = false := by simp [World.frozen?, h]
theorem set_blk {w : World} {b o : Nat} {arr : Array Value} {t : TypeId} {fr : Nat × Nat} (h : w.heap[b]? = some (.cells arr t fr)) (v : Value) : (w.setCell ⟨b, o, none⟩ v).heap[b]? = some (.cells (arr.setIfInBounds o v) t fr) := by
  simp [World.setCell, Array.getElem?_modify, h]
theorem lt_blk {w : World} {b : Nat} {o : Obj} (h : w.heap[b]? = some o) : b < w.heap.size := (Array.getElem?_eq_some_iff.1 h).1

/-- The stream's block. -/
def sArr (lock cnt : Int) (chunks opn : Value) (chg : Int) : Array Value :=
  #[.string ⟨#[115]⟩, .int .i32 lock, .int .u32 0, .int .u32 0, .int .u32 0, .int .i32 cnt, .int .i32 0, chunks, .pointer none, opn, .int .u64 chg, .pointer none, .bool false, .bool false]
/-- The DB's block. -/
def dArr (nf : Int) (m : Nat) : Array Value :=
  #[.pointer none, .pointer none, .int .i64 0, .string ⟨#[]⟩, .int .i64 0, .int .i64 0, .string ⟨#[]⟩, .int .i64 0, .int .i32 0, .int .u32 0, .slice none 0 0, .slice none 0 0, .int .u64 nf, .int .i64 0, .pointer none, .string ⟨#[]⟩, .int .i64 0, .int .i64 0, .int .i64 0, .nilIface, .slice none 0 0, .int .i64 0, .int .i64 0, .int .u64 0, .int .u32 0, .int .i32 0, .int .u32 0, .int .u32 0, .pointer none, .int .i32 0, .int .u32 0, .int .u32 0, .int .u32 0, .int .i32 0, .int .i32 0, .map none, .map (some m), .map none]

/-- Memory ahead of the call: the DB (block d), its map (m), its one stream (s), the stream's open part (block O, n records of two cells each). -/
structure Stage (w : World) (s d m O n : Nat) (nf : Int) (E : Nat → Int) : Prop where
  sblk : w.heap[s]? = some (.cells (sArr 0 0 (.slice none 0 0) (.slice (some ⟨O, 0, none⟩) n n) 0) 50 (0, 0))
  dblk : w.heap[d]? = some (.cells (dArr nf m) 77 (0, 0))
  mblk : w.heap[m]? = some (.map #[{ key := .string ⟨#[115]⟩, val := .pointer (some ⟨s, 0, none⟩), born := 0 }] 1)
  time : ∀ j, j < n → w.cell? ⟨O, j * 2, none⟩ = some (.int .i64 (E j))
  rest : ∀ j, j < n → w.cell? ⟨O, j * 2 + 1, none⟩ = some (.slice none 0 0)
  so : s ≠ O
  od : O ≠ d

theorem Stage.sd {w : World} {s d m O n : Nat} {nf : Int} {E : Nat → Int} (h : Stage w s d m O n nf E) : s ≠ d := by
  intro e
  have h1 := h.sblk
  rw [e, h.dblk] at h1
  simp at h1
theorem Stage.db {w : World} {s d m O n : Nat} {nf : Int} {E : Nat → Int} (h : Stage w s d m O n nf E) : DBat w d m (.pointer (some ⟨s, 0, none⟩)) :=
  ⟨⟨_, cell_blk h.dblk⟩, ⟨_, cell_blk h.dblk⟩, ⟨_, cell_blk h.dblk⟩, cell_blk h.dblk, free_blk h.dblk, cell_blk h.dblk, h.mblk⟩
theorem Stage.opn {w : World} {s d m O n : Nat} {nf : Int} {E : Nat → Int} (h : Stage w s d m O n nf E) : w.cell? ⟨s, 9, none⟩ = some (.slice (some ⟨O, 0, none⟩) n n) := cell_blk h.sblk

/-- The chunk in the making (block C); below it nothing has turned. -/
structure Box (w : World) (C : Nat) (number k lo hi : Int) (wr : World) : Prop where
  c0 : wr.cell? ⟨C, 0, none⟩ = some (.int .u64 number)
  c1 : wr.cell? ⟨C, 1, none⟩ = some (.int .i64 k)
  c2 : wr.cell? ⟨C, 2, none⟩ = some (.int .i64 lo)
  c3 : wr.cell? ⟨C, 3, none⟩ = some (.int .i64 hi)
  f2 : wr.frozen? ⟨C, 2, none⟩ = false
  f3 : wr.frozen? ⟨C, 3, none⟩ = false
  below : Below C w wr

theorem Box.drew {w : World} {C : Nat} {number k lo hi : Int} {wr : World} (h : Box w C number k lo hi wr) : Box w C number k lo hi wr.drew :=
  ⟨h.c0, h.c1, h.c2, h.c3, h.f2, h.f3, h.below.drew⟩
theorem Box.alloc {w : World} {C : Nat} {number k lo hi : Int} {wr : World} (h : Box w C number k lo hi wr) (o : Obj) : Box w C number k lo hi (wr.alloc o) := by
  have hlt : C < wr.heap.size := block_lt_of_cell h.c0
  refine ⟨?_, ?_, ?_, ?_, ?_, ?_, h.below.alloc (by omega) o⟩
  · rw [World.cell?_alloc_past _ _ _ hlt]; exact h.c0
  · rw [World.cell?_alloc_past _ _ _ hlt]; exact h.c1
  · rw [World.cell?_alloc_past _ _ _ hlt]; exact h.c2
  · rw [World.cell?_alloc_past _ _ _ hlt]; exact h.c3
  · rw [← h.f2]; exact World.frozen?_of_block (Below.heap_alloc _ _ _ hlt)
  · rw [← h.f3]; exact World.frozen?_of_block (Below.heap_alloc _ _ _ hlt)
theorem Box.store {w : World} {C : Nat} {number k lo hi : Int} {wr : World} (h : Box w C number k lo hi wr) (lo' hi' : Int) :
    Box w C number k lo' hi' ((wr.setCell ⟨C, 2, none⟩ (.int .i64 lo')).setCell ⟨C, 3, none⟩ (.int .i64 hi')) := by
  refine ⟨?_, ?_, ?_, ?_, ?_, ?_, (h.below.setCell (Nat.le_refl _) _).setCell (Nat.le_refl _) _⟩
  · rw [World.cell?_setCell_other _ ⟨C, 3, none⟩ ⟨C, 0, none⟩ _ (by simp), World.cell?_setCell_other _ ⟨C, 2, none⟩ ⟨C, 0, none⟩ _ (by simp)]; exact h.c0
  · rw [World.cell?_setCell_other _ ⟨C, 3, none⟩ ⟨C, 1, none⟩ _ (by simp), World.cell?_setCell_other _ ⟨C, 2, none⟩ ⟨C, 1, none⟩ _ (by simp)]; exact h.c1
  · rw [World.cell?_setCell_other _ ⟨C, 3, none⟩ ⟨C, 2, none⟩ _ (by simp)]; exact World.cell?_setCell_same _ ⟨C, 2, none⟩ _ h.c2
  · refine World.cell?_setCell_same _ ⟨C, 3, none⟩ _ (u := .int .i64 hi) ?_
    rw [World.cell?_setCell_other _ ⟨C, 2, none⟩ ⟨C, 3, none⟩ _ (by simp)]; exact h.c3
  · simpa using h.f2
  · simpa using h.f3

/-- Memory in the middle of the call: the stream's block is 'arr'; the chunk lies in block X; all other blocks that were there (those below C) are as they were; below B nothing has turned. -/
structure Mid (w : World) (B s C X : Nat) (arr : Array Value) (number k lo hi : Int) (wr : World) : Prop where
  sblk : wr.heap[s]? = some (.cells arr 50 (0, 0))
  far : ∀ b, b < C → b ≠ s → wr.heap[b]? = w.heap[b]?
  c0 : wr.cell? ⟨X, 0, none⟩ = some (.int .u64 number)
  c1 : wr.cell? ⟨X, 1, none⟩ = some (.int .i64 k)
  c2 : wr.cell? ⟨X, 2, none⟩ = some (.int .i64 lo)
  c3 : wr.cell? ⟨X, 3, none⟩ = some (.int .i64 hi)
  below : Below B w wr

theorem Mid.of_box {w : World} {B s C : Nat} {arr : Array Value} {number k lo hi : Int} {wr : World} (h : Box w C number k lo hi wr) (hs : w.heap[s]? = some (.cells arr 50 (0, 0))) (hB : B ≤ s) (hC : s < C) : Mid w B s C C arr number k lo hi wr :=
  ⟨(h.below.block s hC).trans hs, fun b hb _ => h.below.block b hb, h.c0, h.c1, h.c2, h.c3, h.below.mono (by omega)⟩
theorem Mid.set {w : World} {B s C X : Nat} {arr : Array Value} {number k lo hi : Int} {wr : World} (h : Mid w B s C X arr number k lo hi wr) (hB : B ≤ s) (hX : s < X) (o : Nat) (v : Value) (arr' : Array Value) (ha : arr.setIfInBounds o v = arr') :
    Mid w B s C X arr' number k lo hi (wr.setCell ⟨s, o, none⟩ v) := by
  have hf : ∀ b, b ≠ s → (wr.setCell ⟨s, o, none⟩ v).heap[b]? = wr.heap[b]? := fun b hb => Below.heap_setCell _ _ _ _ (by simpa using hb)
  refine ⟨by rw [← ha]; exact set_blk h.sblk v, fun b hb hn => (hf b hn).trans (h.far b hb hn), ?_, ?_, ?_, ?_, h.below.setCell (by exact hB) _⟩
  · exact (World.cell?_of_block (hf X (by omega))).trans h.c0
  · exact (World.cell?_of_block (hf X (by omega))).trans h.c1
  · exact (World.cell?_of_block (hf X (by omega))).trans h.c2
  · exact (World.cell?_of_block (hf X (by omega))).trans h.c3
theorem Mid.grown {w : World} {B s C X : Nat} {arr : Array Value} {number k lo hi : Int} {wr w' : World} (h : Mid w B s C X arr number k lo hi wr) (hg : wr.grownBy w' none) (hX : s < X) (hB : B ≤ X) (hC : C ≤ X) : Mid w B s C X arr number k lo hi w' := by
  have hlt : X < wr.heap.size := block_lt_of_cell h.c0
  have hf : ∀ b, b ≤ X → w'.heap[b]? = wr.heap[b]? := fun b hb => hg.block b (by omega) (by simp)
  refine ⟨(hf s (by omega)).trans h.sblk, fun b hb hn => (hf b (by omega)).trans (h.far b hb hn), ?_, ?_, ?_, ?_, h.below.grown hg (by omega) (fun _ e => by cases e)⟩
  · exact (World.cell?_of_block (hf X (Nat.le_refl _))).trans h.c0
  · exact (World.cell?_of_block (hf X (Nat.le_refl _))).trans h.c1
  · exact (World.cell?_of_block (hf X (Nat.le_refl _))).trans h.c2
  · exact (World.cell?_of_block (hf X (Nat.le_refl _))).trans h.c3
theorem Mid.alloc {w : World} {B s C X : Nat} {arr : Array Value} {number k lo hi : Int} {wr : World} (h : Mid w B s C X arr number k lo hi wr) (hX : s < X) (hB : B ≤ X) (hC : C ≤ X) (o : Obj) : Mid w B s C X arr number k lo hi (wr.alloc o) :=
  h.grown ⟨rfl, rfl, rfl, by simp, fun b hb _ => Below.heap_alloc _ _ _ hb⟩ hX hB hC
theorem Mid.drew {w : World} {B s C X : Nat} {arr : Array Value} {number k lo hi : Int} {wr : World} (h : Mid w B s C X arr number k lo hi wr) : Mid w B s C X arr number k lo hi wr.drew :=
  ⟨h.sblk, h.far, h.c0, h.c1, h.c2, h.c3, h.below.drew⟩
/-- The chunk has been appended: it lies in the row's block g. -/
theorem Mid.moved {w : World} {B s C X g cp : Nat} {arr : Array Value} {number k lo hi : Int} {wr : World} (h : Mid w B s C X arr number k lo hi wr)
    (ho : wr.ownsRow C 80 4 (.slice (some ⟨g, 0, none⟩) 1 cp) 1 [.int .u64 number, .int .i64 k, .int .i64 lo, .int .i64 hi]) : Mid w B s C g arr number k lo hi wr :=
  ⟨h.sblk, h.far, ho.cellAt 0 (by omega), ho.cellAt 1 (by omega), ho.cellAt 2 (by omega), ho.cellAt 3 (by omega), h.below⟩

/-- The cells of m records from number j on. -/
def recs (E : Nat → Int) (j : Nat) : Nat → List Value
  | 0 => []
  | m + 1 => .int .i64 (E j) :: .slice none 0 0 :: recs E (j + 1) m
theorem recs_length (E : Nat → Int) (j m : Nat) : (recs E j m).length = m * 2 := by
  induction m generalizing j with
  | zero => rfl
  | succ m ih => simp [recs, ih]; omega
theorem recs_time (E : Nat → Int) (j m i : Nat) (h : i < m) : (recs E j m)[i * 2]? = some (.int .i64 (E (j + i))) := by
  induction m generalizing j i with
  | zero => omega
  | succ m ih =>
    cases i with
    | zero => rfl
    | succ i =>
      have := ih (j + 1) i (by omega)
      rw [show (i + 1) * 2 = i * 2 + 1 + 1 by omega, recs, List.getElem?_cons_succ, List.getElem?_cons_succ, this, show j + 1 + i = j + (i + 1) by omega]
theorem recs_rest (E : Nat → Int) (j m i : Nat) (h : i < m) : (recs E j m)[i * 2 + 1]? = some (.slice none 0 0) := by
  induction m generalizing j i with
  | zero => omega
  | succ m ih =>
    cases i with
    | zero => rfl
    | succ i =>
      have := ih (j + 1) i (by omega)
      rw [show (i + 1) * 2 + 1 = i * 2 + 1 + 1 + 1 by omega, recs, List.getElem?_cons_succ, List.getElem?_cons_succ, this]
theorem recs_one (E : Nat → Int) (j m : Nat) : ∀ u ∈ recs E j m, u.oneCell' = true := by
  induction m generalizing j with
  | zero => intro u hu; cases hu
  | succ m ih =>
    intro u hu
    simp only [recs, List.mem_cons] at hu
    rcases hu with rfl | rfl | hu
    · rfl
    · rfl
    · exact ih (j + 1) u hu

/-- Where the rest of the open part lies. -/
theorem recs_cells {w : World} {O n j : Nat} {E : Nat → Int} (ht : ∀ i, i < n → w.cell? ⟨O, i * 2, none⟩ = some (.int .i64 (E i))) (hr : ∀ i, i < n → w.cell? ⟨O, i * 2 + 1, none⟩ = some (.slice none 0 0)) (hj : j ≤ n) :
    ∃ ad : Addr, (if n = j then some (⟨O, 0, none⟩ : Addr) else some ⟨O, j * 2, none⟩) = some ad ∧ ∀ (i : Nat) (u : Value), (recs E j (n - j))[i]? = some u → w.cell? (ad.add i) = some u := by
  by_cases h : n = j
  · refine ⟨_, by rw [if_pos h], fun i u hu => ?_⟩
    rw [show n - j = 0 by omega] at hu
    simp [recs] at hu
  · refine ⟨_, by rw [if_neg h], fun i u hu => ?_⟩
    have hi : i < (n - j) * 2 := by
      rcases Nat.lt_or_ge i ((n - j) * 2) with h | h
      · exact h
      · rw [List.getElem?_eq_none (by rw [recs_length]; exact h)] at hu; cases hu
    rw [WideShapes.add_plain]
    rcases Nat.mod_two_eq_zero_or_one i with h2 | h2
    · obtain ⟨t, rfl⟩ : ∃ t, i = t * 2 := ⟨i / 2, by omega⟩
      rw [recs_time E j (n - j) t (by omega)] at hu
      rw [show j * 2 + t * 2 = (j + t) * 2 by omega, ht (j + t) (by omega)]
      exact hu
    · obtain ⟨t, rfl⟩ : ∃ t, i = t * 2 + 1 := ⟨i / 2, by omega⟩
      rw [recs_rest E j (n - j) t (by omega)] at hu
      rw [show j * 2 + (t * 2 + 1) = (j + t) * 2 + 1 by omega, hr (j + t) (by omega)]
      exact hu

theorem owns_shape {w : World} {base e size n : Nat} {v : Value} {xs : List Value} (h : w.ownsRow base e size v n xs) : ∃ a c, v = .slice a n c := by
  obtain ⟨_, h2⟩ := h
  rcases h2 with ⟨hv, h0⟩ | ⟨g, cap, cur, hv, _⟩
  · exact ⟨none, 0, by rw [hv, h0]⟩
  · exact ⟨_, cap, hv⟩

/-- 'append(nil, src...)', src's address whatever term. -/
theorem append_nil {P : Program} (w : World) {ops : Array Oper} {rest : List Oper} {o : Oper} {a : Act} {Q : Exit → Act → World → Prop} (hgd : o.guard = none) (s x : Operand) (t : TypeId)
    (ho : o.op = .call { callee := .builtin .append, args := #[s, x], argTypes := #[t, t] })
    (base : Nat) (e : TypeId) (i : TypeInfo) (z : Value) (size bytes : Nat) (ht : P.underlying t = some (.slice e)) (hi : P.info? e = some i) (hz : i.zero = some z)
    (hsize : i.size = size) (hby : i.bytes = bytes) (hzs : z.cells.size = size) (hsz : 0 < size) (hs : a.eval s = .slice none 0 0)
    (ao : Option Addr) (m c : Nat) (news : List Value) (hx : a.eval x = .slice ao m c) (hl : news.length = m * size)
    (hnews : ∃ ad : Addr, ao = some ad ∧ ∀ (j : Nat) (u : Value), news[j]? = some u → w.cell? (ad.add j) = some u) (h1 : ∀ u ∈ news, u.oneCell' = true)
    (h63 : m ≤ maxLen) (hbytes : m * bytes ≤ 140737488355328) (hbase : base ≤ w.heap.size)
    (h : ∀ a' c' w', w'.ownsRow base e size (.slice a' m c') m news → w.grownBy w' none → wpList P ops Q rest (a.put o.dst (.slice a' m c')) w') : wpList P ops Q (o :: rest) a w := by
  obtain ⟨ad, rfl, hc⟩ := hnews
  refine wpList_append_own w hgd s x t ho base e i z size bytes ht hi hz hsize hby hzs hsz (.slice none 0 0) 0 [] hs (World.ownsRow_nil _ _ _ _) ad m c news hx hl hc h1 (by omega) (by rw [Nat.zero_add]; exact hbytes) hbase fun v' w' h2 h3 _ => ?_
  obtain ⟨a', c', rfl⟩ := owns_shape h2
  simp only [Nat.zero_add, List.nil_append] at h2 ⊢
  exact h a' c' w' h2 h3

/-- The new open part: m records from number j on, in a block from N on. -/
def Opn (N : Nat) (a : Option Addr) (m : Nat) (E : Nat → Int) (j : Nat) (w : World) : Prop :=
  0 < m → ∃ g, a = some ⟨g, 0, none⟩ ∧ N ≤ g ∧ ∀ t, t < m → w.cell? ⟨g, t * 2, none⟩ = some (.int .i64 (E (j + t)))
theorem Opn.of_owns {w : World} {N m j c : Nat} {a : Option Addr} {E : Nat → Int} (h : w.ownsRow N 28 2 (.slice a m c) m (recs E j m)) : Opn N a m E j w := by
  intro hm
  have h0 := h
  obtain ⟨_, h2⟩ := h
  rcases h2 with ⟨_, h0⟩ | ⟨g, cap, cur, hv, hN, _⟩
  · omega
  · cases hv
    exact ⟨g, rfl, hN, fun t ht => by rw [h0.cellAt (t * 2) (by omega)]; exact recs_time E j m t ht⟩
theorem Opn.set {w : World} {N m j : Nat} {a : Option Addr} {E : Nat → Int} (h : Opn N a m E j w) {b : Nat} (hb : b < N) (o : Nat) (v : Value) : Opn N a m E j (w.setCell ⟨b, o, none⟩ v) := by
  intro hm
  obtain ⟨g, ha, hN, hc⟩ := h hm
  refine ⟨g, ha, hN, fun t ht => ?_⟩
  rw [World.cell?_of_block (w := w) (a := ⟨g, t * 2, none⟩) (Below.heap_setCell _ _ _ _ (by simp; omega))]
  exact hc t ht

/-- The next file's number behind the call. -/
def nxt (nf number : Int) : Int := if nf < IntKind.u64.wrap (number + 1) then IntKind.u64.wrap (number + 1) else nf

/-- Memory behind a sealing. -/
def Done (w : World) (B s d n k : Nat) (nf number : Int) (E : Nat → Int) (w' : World) : Prop :=
  ∃ (g cp : Nat) (a : Option Addr) (c N : Nat), w'.heap[s]? = some (.cells (sArr 0 0 (.slice (some ⟨g, 0, none⟩) 1 cp) (.slice a (n - k) c) 1) 50 (0, 0)) ∧
    w'.cell? ⟨g, 0, none⟩ = some (.int .u64 number) ∧ w'.cell? ⟨g, 1, none⟩ = some (.int .i64 k) ∧ w'.cell? ⟨g, 2, none⟩ = some (.int .i64 (mn E k)) ∧ w'.cell? ⟨g, 3, none⟩ = some (.int .i64 (mx E k)) ∧
    Opn N a (n - k) E k w' ∧ w'.cell? ⟨d, 12, none⟩ = some (.int .u64 (nxt nf number)) ∧ Below B w w'

theorem done_of {w : World} {B s d n k g cp c N : Nat} {a : Option Addr} {nf number : Int} {E : Nat → Int} {w8 : World}
    (h : Mid w B s w.heap.size g (sArr 0 0 (.slice (some ⟨g, 0, none⟩) 1 cp) (.slice a (n - k) c) 1) number k (mn E k) (mx E k) w8) (ho : Opn N a (n - k) E k w8) (u : Value) (hd : w8.cell? ⟨d, 12, none⟩ = some u) (hsd : s ≠ d) (hgd : d ≠ g) (hdN : d < N) (hB : B ≤ d)
    (x : Int) (hx : nxt nf number = x) : Done w B s d n k nf number E (w8.setCell ⟨d, 12, none⟩ (.int .u64 x)) := by
  have hf : ∀ b, b ≠ d → (w8.setCell ⟨d, 12, none⟩ (.int .u64 x)).heap[b]? = w8.heap[b]? := fun b hb => Below.heap_setCell _ _ _ _ (by simpa using hb)
  refine ⟨g, cp, a, c, N, (hf s hsd).trans h.sblk, ?_, ?_, ?_, ?_, ho.set hdN _ _, ?_, h.below.setCell (by exact hB) _⟩
  · exact (World.cell?_of_block (hf g hgd.symm)).trans h.c0
  · exact (World.cell?_of_block (hf g hgd.symm)).trans h.c1
  · exact (World.cell?_of_block (hf g hgd.symm)).trans h.c2
  · exact (World.cell?_of_block (hf g hgd.symm)).trans h.c3
  · rw [hx]; exact World.cell?_setCell_same _ ⟨d, 12, none⟩ _ hd

theorem Ybaf.info80 : (Ybaf.prog.info? 80).map (fun i => (i.zero, i.size, i.bytes)) = some (some (.agg #[.int .u64 0, .int .i64 0, .int .i64 0, .int .i64 0]), 4, 32) := by kernel_rfl
theorem Ybaf.info28 : (Ybaf.prog.info? 28).map (fun i => (i.zero, i.size, i.bytes)) = some (some (.agg #[.int .i64 0, .slice none 0 0]), 2, 32) := by kernel_rfl
end Go.Proofs.YbulkaepgFmt
