/-
  THE WALK over 'LawS1527CSeal' where the sealing succeeds.
-/
import Derived.Test.YbulkaepgFmtParts
import Derived.Test.YbulkaepgFmtSeal
import Derived.WalkKit
import Derived.WalkSpells
import Derived.Deep.QuietTactic
import Derived.BigQuiet
namespace Go.Proofs.YbulkaepgFmt
open Go.RowKit Go.Extern.Stop Go.Stop Go.Extern
set_option linter.unusedVariables false

set_option maxRecDepth 100000 in
set_option maxHeartbeats 1600000 in
theorem law_good (p : Option Addr) (b off n cap : Nat) (E : Nat → Int) (nf number sel : Int) (w : World) (hn : n ≤ 1024) (hs : 0 < n → p = some ⟨b, off, none⟩)
    (hc : ∀ j, j < n → w.cell? ⟨b, off + j, none⟩ = some (.int .i64 (E j))) (s0 : 0 ≤ sel) (s1 : sel ≤ 65535) (k : Nat) (hK : sel % ((n : Int) + 2) = k) (hk1 : 1 ≤ k) (hkn : k ≤ n) :
    Calls Ybaf.prog 3 #[.slice p n cap, .int .u64 nf, .int .u64 number, .int .u16 sel, .bool false] w fun e w' => e = .returned (.bool true) ∧ Below w.heap.size w w' := by
  have HS : Hid (0 < n → p = some ⟨b, off, none⟩) := hs
  have HC : Hid (∀ j, j < n → w.cell? ⟨b, off + j, none⟩ = some (.int .i64 (E j))) := hc
  clear hs hc
  obtain ⟨i0, hi, hz0, hz1, hz2⟩ := info_parts Ybaf.info28
  go_enter Ybaf.func3, Ybaf.ntmps3
  go_wp2_with (at_make; refine wpList_make_full _ rfl _ _ 25 rfl w.heap.size 28 i0 zeroRec 2 Ybaf.underlying25 hi hz0 hz1 _ _ _ _ n rfl rfl rfl rfl (by rw [hz2]; omega) (by unfold maxLen; omega) (Nat.le_refl _) ?_; intro w0 hown0 hgrow0)
  have HL0 : Hid (Lay w w.heap.size n (fun _ => 0) w0) := lay_start hown0 hgrow0
  clear hown0 hgrow0 hi hz0 hz1 hz2
  go_loopw [33] (fun i wr => ∃ q : Nat, q ≤ n ∧ i = .int .i64 q ∧ Lay w w.heap.size n (fun j => if j < q then E j else 0) wr) (fun i _ => n - (intOf i).toNat)
  case atStart => exact ⟨0, Nat.zero_le _, rfl, HL0.out.congr fun j _ => by simp⟩
  case round =>
    clear HL0
    obtain ⟨q, hq, rfl, hl⟩ := hrel
    have HL : Hid (Lay w w.heap.size n (fun j => if j < q then E j else 0) wr) := hl
    clear hl
    by_cases hlt : q < n
    · obtain rfl := HS.out (by omega)
      have c1 := (HL.out.below.cell (block_lt_of_cell (HC.out q hlt))).trans (HC.out q hlt)
      have c2 := HL.out.time q hlt
      have c3 := HL.out.rest q hlt
      have f2 := HL.out.timeF q hlt
      have f3 := HL.out.restF q hlt
      simp only [Nat.lt_irrefl, if_false] at c2
      have i1 : (0 : Int) ≤ (q : Int) := by omega
      have i2 : (q : Int) < (n : Int) := by omega
      go_wp2
      go_roundw
      case rel => exact ⟨q + 1, by omega, by go_num, HL.out.store (Nat.le_refl _) q hlt (E q) _ (fun j hj => by by_cases e : j = q <;> by_cases e2 : j < q <;> simp [e, e2] <;> omega)⟩
      case measure => simp [intOf]; omega
    · have HL1 : Hid (Lay w w.heap.size n E wr) := HL.out.congr fun j hj => by simp [show j < q by omega]
      clear HL
      have hmm := @run_makeMap Ybaf.prog
      have hput := put_call wr
      go_wp2_with fail
      have hsz := HL1.out.below.size
      refine (seal_good wr.heap.size (wr.heap.size + 1 + 1) (wr.heap.size + 1) w.heap.size n k nf number E (atCall wr w.heap.size n nf) (stage_of HL1.out nf) hk1 hkn hn w.heap.size hsz (by omega)).mono ?_
      rintro e w2 ⟨rfl, hdone⟩
      have HB : Hid (Below w.heap.size w (atCall wr w.heap.size n nf)) := below_call HL1.out nf
      obtain ⟨g, cp, a5, c5, N, sb, g0, g1, g2, g3, ho, c12, hb⟩ := hdone
      have hb2 := HB.out.trans hb
      have HO : Hid (Opn N a5 (n - k) E k w2) := ho
      have c7 : w2.cell? ⟨wr.heap.size, 7, none⟩ = some (.slice (some ⟨g, 0, none⟩) 1 cp) := cell_blk sb
      have c9 : w2.cell? ⟨wr.heap.size, 9, none⟩ = some (.slice a5 (n - k) c5) := cell_blk sb
      have c10 : w2.cell? ⟨wr.heap.size, 10, none⟩ = some (.int .u64 1) := cell_blk sb
      have c11 : w2.cell? ⟨wr.heap.size, 11, none⟩ = some (.pointer none) := cell_blk sb
      clear hmm hput ho hb HB sb HL1
      have hz : ((k : Int) == 0) = false := by simp; omega
      have hle : (k : Int) ≤ (n : Int) := by omega
      obtain rfl := HS.out (by omega)
      go_wp2
      have l7 := block_lt_of_cell c7
      have l12 := block_lt_of_cell c12
      have lg := block_lt_of_cell g0
      have HN : Hid (∀ b o, b < w2.heap.size → (w2.alloc (.cells #[.int .u64 number, .int .i64 k, .int .i64 (mn E k), .int .i64 (mx E k)] 80)).cell? ⟨b, o, none⟩ = w2.cell? ⟨b, o, none⟩) := fun b o h => World.cell?_alloc_past _ _ _ h
      have x0 : (w2.alloc (.cells #[.int .u64 number, .int .i64 k, .int .i64 (mn E k), .int .i64 (mx E k)] 80)).cell? ⟨w2.heap.size, 0, none⟩ = some (.int .u64 number) := World.cell?_alloc_at _ _ _ _ rfl
      have x1 : (w2.alloc (.cells #[.int .u64 number, .int .i64 k, .int .i64 (mn E k), .int .i64 (mx E k)] 80)).cell? ⟨w2.heap.size, 1, none⟩ = some (.int .i64 k) := World.cell?_alloc_at _ _ _ _ rfl
      have x2 : (w2.alloc (.cells #[.int .u64 number, .int .i64 k, .int .i64 (mn E k), .int .i64 (mx E k)] 80)).cell? ⟨w2.heap.size, 2, none⟩ = some (.int .i64 (mn E k)) := World.cell?_alloc_at _ _ _ _ rfl
      have x3 : (w2.alloc (.cells #[.int .u64 number, .int .i64 k, .int .i64 (mn E k), .int .i64 (mx E k)] 80)).cell? ⟨w2.heap.size, 3, none⟩ = some (.int .i64 (mx E k)) := World.cell?_alloc_at _ _ _ _ rfl
      have hb3 : Below w.heap.size w (w2.alloc (.cells #[.int .u64 number, .int .i64 k, .int .i64 (mn E k), .int .i64 (mx E k)] 80)) := hb2.alloc hb2.size _
      generalize w2.alloc (.cells #[.int .u64 number, .int .i64 k, .int .i64 (mn E k), .int .i64 (mx E k)] 80) = w3 at HN x0 x1 x2 x3 hb3 ⊢
      have y9 := (HN.out _ 9 l7).trans c9
      have y10 := (HN.out _ 10 l7).trans c10
      have y11 := (HN.out _ 11 l7).trans c11
      have y12 := (HN.out _ 12 l12).trans c12
      clear c7 c9 c10 c11 c12 g0 g1 g2 g3 l7 l12 lg hb2
      have HT : Hid (∀ j, j < n → w3.cell? ⟨b, off + j, none⟩ = some (.int .i64 (E j))) := fun j hj => (hb3.cell (block_lt_of_cell (HC.out j hj))).trans (HC.out j hj)
      have t0 : w3.cell? ⟨b, off, none⟩ = some (.int .i64 (E 0)) := HT.out 0 (by omega)
      have i0 : (0 : Int) < (n : Int) := by omega
      go_quiet (fail)
      go_wp2
      clear t0
      go_loop [20, 21, 22] (fun lo hi i => ∃ j : Nat, j ≤ k ∧ i = .int .i64 j ∧ lo = .int .i64 (mn E j) ∧ hi = .int .i64 (mx E j)) (fun _ _ i => k - (intOf i).toNat)
      case atStart => exact ⟨0, Nat.zero_le _, rfl, rfl, rfl⟩
      case round =>
        obtain ⟨j, hj, rfl, rfl, rfl⟩ := hrel
        by_cases hjk : j < k
        · have t1 := HT.out j (by omega)
          have i1 : (0 : Int) ≤ (j : Int) := by omega
          have i2 : (j : Int) < (n : Int) := by omega
          clear x0 x1 x2 x3 y9 y10 y11 y12
          by_cases h1 : E j < mn E j
          · by_cases h2 : mx E j < E j
            · go_wp2
              go_round
              case rel => exact ⟨j + 1, by omega, by go_num, by rw [mn_lt h1], by rw [mx_gt h2]⟩
              case measure => simp [intOf]; omega
            · have H2 : Hid (¬ mx E j < E j) := h2
              go_wp2
              go_round
              case rel => exact ⟨j + 1, by omega, by go_num, by rw [mn_lt h1], by rw [mx_le H2.out]⟩
              case measure => simp [intOf]; omega
          · have H1 : Hid (¬ E j < mn E j) := h1
            by_cases h2 : mx E j < E j
            · go_wp2
              go_round
              case rel => exact ⟨j + 1, by omega, by go_num, by rw [mn_ge H1.out], by rw [mx_gt h2]⟩
              case measure => simp [intOf]; omega
            · have H2 : Hid (¬ mx E j < E j) := h2
              go_wp2
              go_round
              case rel => exact ⟨j + 1, by omega, by go_num, by rw [mn_ge H1.out], by rw [mx_le H2.out]⟩
              case measure => simp [intOf]; omega
        · obtain rfl : j = k := by omega
          have hcmp : (((n - j : Nat) : Int) != (n : Int) - (j : Int)) = false := by simp; omega
          go_wp2
          clear x0 x1 x2 x3 hcmp
          go_loopw [198] (fun i wx => ∃ t q : Nat, t ≤ n - j ∧ i = .int .i64 t ∧ wx = w3.drewN q) (fun i _ => (n - j) - (intOf i).toNat)
          case atStart => exact ⟨0, _, Nat.zero_le _, rfl, rfl⟩
          case round =>
            obtain ⟨t, q3, ht, rfl, rfl⟩ := hrel
            by_cases htl : t < n - j
            · obtain ⟨g5, ha5, _, hcs⟩ := HO.out (by omega)
              subst ha5
              have e1 := (HN.out g5 (t * 2) (block_lt_of_cell (hcs t htl))).trans (hcs t htl)
              have e2 := HT.out (j + t) (by omega)
              have i1 : (0 : Int) ≤ (t : Int) := by omega
              have i2 : (t : Int) < ((n - j : Nat) : Int) := by omega
              have i3 : (0 : Int) ≤ (j : Int) + (t : Int) := by omega
              have i4 : (j : Int) + (t : Int) < (n : Int) := by omega
              clear hcs y10 y11 y12
              go_wp2
              go_quiet (fail)
              go_wp2
              go_roundw
              case rel => exact ⟨t + 1, _, by omega, by go_num, rfl⟩
              case measure => simp [intOf]; omega
            · by_cases hmax : nf < IntKind.u64.wrap (number + 1)
              · have en : nxt nf number = IntKind.u64.wrap (number + 1) := if_pos hmax
                rw [en] at y12
                clear en
                go_wp2_with (go_at_call 5; refine (load_any wr.heap.size _ (by simpa using y11)).mono ?_; rintro e w6 ⟨rfl, hw6⟩; subst w6)
                go_ret
                exact ⟨rfl, hb3.trans ⟨rfl, rfl, rfl, Nat.le_refl _, fun _ _ => rfl⟩⟩
              · have en : nxt nf number = nf := if_neg hmax
                rw [en] at y12
                clear en
                go_wp2_with (go_at_call 5; refine (load_any wr.heap.size _ (by simpa using y11)).mono ?_; rintro e w6 ⟨rfl, hw6⟩; subst w6)
                go_ret
                exact ⟨rfl, hb3.trans ⟨rfl, rfl, rfl, Nat.le_refl _, fun _ _ => rfl⟩⟩
end Go.Proofs.YbulkaepgFmt
