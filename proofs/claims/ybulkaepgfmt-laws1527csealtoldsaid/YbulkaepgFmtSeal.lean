/-
  THE WALK over '(*DB).sealChunk' where it succeeds.
-/
import Derived.Test.YbulkaepgFmtStage
import Derived.Test.YbulkaepgFmtOpen
import Derived.Conc.RwLoneW
import Derived.WalkKit
import Derived.WalkSpells
import Derived.Deep.QuietTactic
import Derived.BigQuiet
import Derived.Deep.RegionLaw
import Derived.Deep.AppendLies
namespace Go.Proofs.YbulkaepgFmt
open Go.RowKit Go.RwLone
set_option linter.unusedVariables false

set_option maxRecDepth 100000 in
set_option maxHeartbeats 1600000 in
theorem seal_good (s d m O n k : Nat) (nf number : Int) (E : Nat → Int) (w : World) (hs : Stage w s d m O n nf E) (hk : 1 ≤ k) (hkn : k ≤ n) (hn : n ≤ 1024) (B : Nat) (hBs : B ≤ s) (hBd : B ≤ d) :
    Calls Ybaf.prog 4 #[.pointer (some ⟨d, 0, none⟩), .string ⟨#[115]⟩, .int .u64 number, .int .u64 k] w fun e w' =>
      e = .returned .nilIface ∧ Done w B s d n k nf number E w' := by
  have HS : Hid (Stage w s d m O n nf E) := hs
  have o1 := hs.opn
  have t0 := hs.time 0 (by omega)
  simp only [Nat.zero_mul] at t0
  have hsl : s < w.heap.size := block_lt_of_cell o1
  have hol : O < w.heap.size := block_lt_of_cell t0
  clear hs
  have hn0 : 0 < n := by omega
  have hz : ((k : Int) == 0) = false := by simp; omega
  have hle : (k : Int) ≤ (n : Int) := by omega
  have hl0 : (0 : Int) < (n : Int) := by omega
  go_enter Ybaf.func4, Ybaf.ntmps4
  go_wp2_with (go_at_call 6; refine (stream_any d m ⟨#[115]⟩ _ (.pointer (some ⟨s, 0, none⟩)) _ HS.out.db rfl).mono ?_; rintro e w' ⟨rfl, hw⟩; subst w')
  go_region
  go_wp2
  have hbox : Box w w.heap.size number k (mn E 0) (mx E 0) ((w.alloc (.cells #[.int .u64 number, .int .i64 k, .int .i64 (E 0), .int .i64 (E 0)] 80)).drew) :=
    Box.drew ⟨by go_simp, by go_simp, by go_simp; rfl, by go_simp; rfl, by go_simp, by go_simp, (Below.refl _ _).alloc (Nat.le_refl _) _⟩
  have HB0 := show Hid _ from hbox
  clear hbox
  go_loopw [71] (fun i wr => ∃ j : Nat, j ≤ k ∧ i = .int .i64 j ∧ Box w w.heap.size number k (mn E j) (mx E j) wr) (fun i _ => k - (intOf i).toNat)
  case atStart => exact ⟨0, Nat.zero_le _, rfl, HB0.out⟩
  case round =>
    clear HB0
    obtain ⟨j, hj, rfl, hbox⟩ := hrel
    have HB : Hid (Box w w.heap.size number k (mn E j) (mx E j) wr) := hbox
    clear hbox
    by_cases hlt : j < k
    · have c2 := HB.out.c2
      have c3 := HB.out.c3
      have f2 := HB.out.f2
      have f3 := HB.out.f3
      have hC : w.heap.size < wr.heap.size := block_lt_of_cell c2
      have e1 := (HB.out.below.cell (by exact hol)).trans (HS.out.time j (by omega))
      have e2 := (HB.out.below.cell (by exact hol)).trans (HS.out.rest j (by omega))
      have i1 : (0 : Int) ≤ (j : Int) := by omega
      have i2 : (j : Int) < (k : Int) := by omega
      clear o1 t0
      go_wp2
      go_region
      go_wp2
      go_roundw
      case rel =>
        refine ⟨j + 1, by omega, by go_num, ?_⟩
        exact ((HB.out.store _ _).alloc _).drew
      case measure => simp [intOf]; omega
    · obtain rfl : j = k := by omega
      clear o1 t0
      have hm0 : Mid w B s w.heap.size w.heap.size (sArr 0 0 (.slice none 0 0) (.slice (some ⟨O, 0, none⟩) n n) 0) number j (mn E j) (mx E j) wr := Mid.of_box HB.out HS.out.sblk hBs hsl
      clear HB
      have z1 : wr.cell? ⟨s, 1, none⟩ = some (.int .i32 0) := cell_blk hm0.sblk
      have z3 : wr.cell? ⟨s, 3, none⟩ = some (.int .u32 0) := cell_blk hm0.sblk
      have z4 : wr.cell? ⟨s, 4, none⟩ = some (.int .u32 0) := cell_blk hm0.sblk
      have z5 : wr.cell? ⟨s, 5, none⟩ = some (.int .i32 0) := cell_blk hm0.sblk
      have y1 : wr.frozen? ⟨s, 1, none⟩ = false := free_blk hm0.sblk
      have y5 : wr.frozen? ⟨s, 5, none⟩ = false := free_blk hm0.sblk
      have HM0 : Hid (Mid w B s w.heap.size w.heap.size (sArr 0 0 (.slice none 0 0) (.slice (some ⟨O, 0, none⟩) n n) 0) number j (mn E j) (mx E j) wr) := hm0
      clear hm0
      go_wp2_with fail
      refine (wlock_free Ybaf.rwWLib s 1 _ _ _ z1 z3 z4 z5 y1 y5).mono ?_
      rintro e w2 ⟨rfl, hw2⟩
      have HM2 : Hid (Mid w B s w.heap.size w.heap.size (sArr 1 (-1073741824) (.slice none 0 0) (.slice (some ⟨O, 0, none⟩) n n) 0) number j (mn E j) (mx E j) w2) := by
        rw [hw2]; exact (HM0.out.set hBs hsl 1 _ _ rfl).set hBs hsl 5 _ _ rfl
      clear hw2 HM0 z1 z3 z4 z5 y1 y5
      have hC2 : w.heap.size < w2.heap.size := block_lt_of_cell HM2.out.c0
      have hs2 : s < w2.heap.size := by omega
      have q0 := HM2.out.c0
      have q1 := HM2.out.c1
      have q2 := HM2.out.c2
      have q3 := HM2.out.c3
      have q7 : w2.cell? ⟨s, 7, none⟩ = some (.slice none 0 0) := cell_blk HM2.out.sblk
      have q7f : w2.frozen? ⟨s, 7, none⟩ = false := free_blk HM2.out.sblk
      obtain ⟨i0, hi0, hz0, hz1, hz2⟩ := info_parts Ybaf.info80
      go_wp2_with fail
      go_region_law ((
          refine step_append_lies _ (by rfl) _ _ _ (by rfl) w.heap.size 80 i0 _ 4 32 Ybaf.underlying42 hi0 hz0 hz1 hz2 rfl (by omega) (.slice none 0 0) 0 [] (by simp [Act.eval]) (World.ownsRow_nil _ _ _ _) ⟨w2.heap.size, 0, none⟩ 1 1 [.int .u64 number, .int .i64 j, .int .i64 (mn E j), .int .i64 (mx E j)] (by simp [Act.eval]) (by rfl) (World.news_of_block (cs := #[.int .u64 number, .int .i64 j, .int .i64 (mn E j), .int .i64 (mx E j)]) (t := 80) (fr := (0, 0)) (heap_alloc_new w2 _)) (by simp [Value.oneCell']) (by omega) (by decide) (by decide) (by simp; omega) (w2.heap.size + 1) (by simp) ?_
          intro g cp w3 hown hgrow hat hlt3
          have HM3 : Hid (Mid w B s w.heap.size w.heap.size (sArr 1 (-1073741824) (.slice none 0 0) (.slice (some ⟨O, 0, none⟩) n n) 0) number j (mn E j) (mx E j) w3) := ((HM2.out.alloc hsl (by omega) (Nat.le_refl _) _).drew).grown hgrow hsl (by omega) (Nat.le_refl _)
          have r7 : w3.cell? ⟨s, 7, none⟩ = some (.slice none 0 0) := cell_blk HM3.out.sblk
          have r7f : w3.frozen? ⟨s, 7, none⟩ = false := free_blk HM3.out.sblk))
      all_goals
        have hg : g = w2.heap.size + 1 := hat.resolve_left (fun h => by cases h)
        have hg1 : w.heap.size < g := by omega
        have HM4 : Hid (Mid w B s w.heap.size g (sArr 1 (-1073741824) (.slice (some ⟨g, 0, none⟩) 1 cp) (.slice (some ⟨O, 0, none⟩) n n) 0) number j (mn E j) (mx E j) (w3.setCell ⟨s, 7, none⟩ (.slice (some ⟨g, 0, none⟩) 1 cp))) := (HM3.out.moved hown).set hBs (by omega) 7 _ _ rfl
        generalize w3.setCell ⟨s, 7, none⟩ (.slice (some ⟨g, 0, none⟩) 1 cp) = w4 at HM4 ⊢
        clear hown hgrow hat hlt3 HM3 r7 r7f hg
        have p9 : w4.cell? ⟨s, 9, none⟩ = some (.slice (some ⟨O, 0, none⟩) n n) := cell_blk HM4.out.sblk
        have p9f : w4.frozen? ⟨s, 9, none⟩ = false := free_blk HM4.out.sblk
      all_goals clear q0 q1 q2 q3 q7 q7f hC2 hs2 hi0 hz0 hz1 hz2 HM2
      all_goals
        obtain ⟨ad, had, hcs⟩ := recs_cells (w := w4) (j := j) (fun i hi => (World.cell?_of_block (HM4.out.far O hol HS.out.so.symm)).trans (HS.out.time i hi)) (fun i hi => (World.cell?_of_block (HM4.out.far O hol HS.out.so.symm)).trans (HS.out.rest i hi)) hkn
        have HC : Hid (∀ (i : Nat) (u : Value), (recs E j (n - j))[i]? = some u → w4.cell? (ad.add i) = some u) := hcs
        clear hcs
        obtain ⟨i1, hi1, hz0, hz1, hz2⟩ := info_parts Ybaf.info28
        have HI1 : Hid (Ybaf.prog.info? 28 = some i1) := hi1
        clear hi1
        go_wp2_with (at_builtin; (refine append_nil _ rfl (.const (.slice none 0 0)) (.tmp 108) 25 rfl w4.heap.size 28 i1 _ 2 32 Ybaf.underlying25 HI1.out hz0 hz1 hz2 rfl (by omega) rfl (some ad) (n - j) (n - j) (recs E j (n - j)) rfl (recs_length _ _ _) ⟨ad, rfl, HC.out⟩ (recs_one _ _ _) (by unfold maxLen; omega) (by omega) (Nat.le_refl _) ?_); intro a5 c5 w5 hown5 hgrow5; have HM5 : Hid (Mid w B s w.heap.size g (sArr 1 (-1073741824) (.slice (some ⟨g, 0, none⟩) 1 cp) (.slice (some ⟨O, 0, none⟩) n n) 0) number j (mn E j) (mx E j) w5) := HM4.out.grown hgrow5 (by omega) (by omega) (by omega); have p9' : w5.cell? ⟨s, 9, none⟩ = some (.slice (some ⟨O, 0, none⟩) n n) := cell_blk HM5.out.sblk; have p9f' : w5.frozen? ⟨s, 9, none⟩ = false := free_blk HM5.out.sblk)
        have hN : w.heap.size < w4.heap.size := Nat.lt_trans hg1 (block_lt_of_cell HM4.out.c0)
        have HM6 : Hid (Mid w B s w.heap.size g (sArr 1 (-1073741824) (.slice (some ⟨g, 0, none⟩) 1 cp) (.slice a5 (n - j) c5) 0) number j (mn E j) (mx E j) (w5.setCell ⟨s, 9, none⟩ (.slice a5 (n - j) c5))) := HM5.out.set hBs (by omega) 9 _ _ rfl
        have HO6 : Hid (Opn w4.heap.size a5 (n - j) E j (w5.setCell ⟨s, 9, none⟩ (.slice a5 (n - j) c5))) := (Opn.of_owns hown5).set (by omega) 9 _
        generalize w5.setCell ⟨s, 9, none⟩ (.slice a5 (n - j) c5) = w6 at HM6 HO6 ⊢
        clear hown5 hgrow5 HM5 p9' p9f' HC HI1 hz0 hz1 hz2 p9 p9f HM4
        refine (changed_any s 0 (.pointer none) w6 (by decide) (by decide) (cell_blk HM6.out.sblk) (cell_blk HM6.out.sblk) (free_blk HM6.out.sblk) (free_blk HM6.out.sblk)).mono ?_
        rintro e w7 ⟨rfl, hw7⟩
        have HM7 : Hid (Mid w B s w.heap.size g (sArr 1 (-1073741824) (.slice (some ⟨g, 0, none⟩) 1 cp) (.slice a5 (n - j) c5) 1) number j (mn E j) (mx E j) w7) := by
          rw [hw7]; exact (HM6.out.set hBs (by omega) 10 _ _ rfl).set hBs (by omega) 11 _ _ rfl
        have HO7 : Hid (Opn w4.heap.size a5 (n - j) E j w7) := by rw [hw7]; exact (HO6.out.set (by omega) _ _).set (by omega) _ _
        clear hw7 HM6 HO6
        go_wp2_with fail
        refine (wunlock_held Ybaf.rwWLib s 1 (.int .u32 0) (.int .u32 0) w7 (cell_blk HM7.out.sblk) (cell_blk HM7.out.sblk) (cell_blk HM7.out.sblk) (cell_blk HM7.out.sblk) (free_blk HM7.out.sblk) (free_blk HM7.out.sblk)).mono ?_
        rintro e w8 ⟨rfl, hw8⟩
        have HM8 : Hid (Mid w B s w.heap.size g (sArr 0 0 (.slice (some ⟨g, 0, none⟩) 1 cp) (.slice a5 (n - j) c5) 1) number j (mn E j) (mx E j) w8) := by
          rw [hw8]; exact (HM7.out.set hBs (by omega) 5 _ _ rfl).set hBs (by omega) 1 _ _ rfl
        have HO8 : Hid (Opn w4.heap.size a5 (n - j) E j w8) := by rw [hw8]; exact (HO7.out.set (by omega) _ _).set (by omega) _ _
        clear hw8 HM7 HO7
        have hdl : d < w.heap.size := lt_blk HS.out.dblk
        have d8 : w8.heap[d]? = some (.cells (dArr nf m) 77 (0, 0)) := (HM8.out.far d hdl HS.out.sd.symm).trans HS.out.dblk
        have e12 : w8.cell? ⟨d, 12, none⟩ = some (.int .u64 nf) := cell_blk d8
        have f12 : w8.frozen? ⟨d, 12, none⟩ = false := free_blk d8
        clear d8
        go_wp2
        all_goals
          go_ret
          refine ⟨rfl, done_of HM8.out HO8.out _ e12 HS.out.sd (by omega) (by omega) hBd _ ?_⟩
          unfold nxt
          first | rw [if_pos (by assumption)] | rw [if_neg (by omega)]
end Go.Proofs.YbulkaepgFmt
