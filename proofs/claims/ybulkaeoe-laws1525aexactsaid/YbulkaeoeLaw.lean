/-
  THE WALK over 'LawS1525AExact'.
-/
import Derived.Test.YbulkaeoeWalks
import Derived.WalkKit
import Derived.WalkSpells
import Derived.Deep.QuietTactic
import Derived.BigQuiet
namespace Go.Proofs.Ybulkaeoe
open Go.RowKit
set_option linter.unusedVariables false

theorem below_drewN {B : Nat} {a w : World} (h : Below B a w) (n : Nat) : Below B a (w.drewN n) := h.trans ⟨rfl, rfl, rfl, Nat.le_refl _, fun _ _ => rfl⟩

/-- The i-th byte of an entry. -/
def entryF (T : Int) (Zp : List Int) (n : Nat) (Zc : List Int) (i : Nat) : Int := (entryL T Zp n Zc)[i]?.getD 0

theorem entryL_length (T : Int) (Zp : List Int) (n : Nat) (Zc : List Int) : (entryL T Zp n Zc).length = 2 + Zp.length + 3 + Zc.length := by simp [entryL]; omega
theorem entryF_0 (T : Int) (Zp : List Int) (n : Nat) (Zc : List Int) : entryF T Zp n Zc 0 = T / 256 := by simp [entryF, entryL]
theorem entryF_1 (T : Int) (Zp : List Int) (n : Nat) (Zc : List Int) : entryF T Zp n Zc 1 = T % 256 := by simp [entryF, entryL]
theorem entryF_p (T : Int) (Zp : List Int) (n : Nat) (Zc : List Int) (i : Nat) (h : i < Zp.length) : entryF T Zp n Zc (2 + i) = Zp[i]?.getD 0 := by
  simp only [entryF, entryL]
  rw [List.getElem?_append_left (by simp; omega), List.getElem?_append_left (by simp; omega), List.getElem?_append_right (by simp)]
  simp
theorem entryF_n (T : Int) (Zp : List Int) (n : Nat) (Zc : List Int) (i : Nat) (h : i < 3) : entryF T Zp n Zc (2 + Zp.length + i) = [(n : Int) / 65536, (n : Int) / 256, (n : Int) % 256][i]?.getD 0 := by
  simp only [entryF, entryL]
  rw [List.getElem?_append_left (by simp; omega), List.getElem?_append_right (by simp; omega)]
  congr 2
  simp
  omega
theorem entryF_c (T : Int) (Zp : List Int) (n : Nat) (Zc : List Int) (i : Nat) : entryF T Zp n Zc (2 + Zp.length + 3 + i) = Zc[i]?.getD 0 := by
  simp only [entryF, entryL]
  rw [List.getElem?_append_right (by simp; omega)]
  congr 2
  simp
  omega

theorem owns_form {w : World} {base e size n : Nat} {v : Value} {xs : List Value} (h : w.ownsRow base e size v n xs) (hn : 0 < n) : ∃ g cap, v = .slice (some ⟨g, 0, none⟩) n cap := by
  obtain ⟨_, h2⟩ := h
  rcases h2 with ⟨_, h0⟩ | ⟨g, cap, cur, hv, _⟩
  · omega
  · exact ⟨g, cap, hv⟩

theorem entry_law (T : Int) (p : Option Addr) (bp op lp cp : Nat) (Zp : List Int) (c : Option Addr) (bc oc lc cc : Nat) (Zc : List Int) (w : World) (h0 : 0 ≤ T) (h1 : T ≤ 65535) (hp : lp ≤ 1024) (hc : lc ≤ 1024)
    (sp : Src w p bp op lp cp Zp) (sc : Src w c bc oc lc cc Zc) :
    Calls Yba.prog 4 #[.int .u16 T, .slice p lp cp, .slice c lc cc] w fun e w' =>
      ∃ g cap, e = .returned (.tuple #[.slice (some ⟨g, 0, none⟩) (2 + lp + 3 + lc) cap, .nilIface]) ∧ (∀ i, i < 2 + lp + 3 + lc → w'.cell? ⟨g, i, none⟩ = some (.int .u8 (entryF T Zp lc Zc i))) ∧ Below w.heap.size w w' := by
  refine (entry_any T p bp op lp cp Zp c bc oc lc cc Zc w h0 h1 hp hc sp sc).mono ?_
  rintro e w' ⟨v, rfl, hown, hb⟩
  obtain ⟨g, cap, rfl⟩ := owns_form hown (by omega)
  refine ⟨g, cap, rfl, fun i hi => ?_, hb⟩
  have hl := entryL_length T Zp lc Zc
  rw [sp.length, sc.length] at hl
  rw [hown.cellAt i (by omega), List.getElem?_map, entryF, List.getElem?_eq_getElem (by omega)]
  rfl

theorem law_long (T : Int) (p c : Option Addr) (lp cp lc cc : Nat) (w : World) (h : 1024 < lp ∨ 1024 < lc) :
    Calls Yba.prog 3 #[.int .u16 T, .slice p lp cp, .slice c lc cc] w fun e w' => e = .returned (.bool true) ∧ Below w.heap.size w w' := by
  by_cases h1 : 1024 < lp
  · go_enter Yba.func3, Yba.ntmps3
    go_wp2
    go_ret
    exact ⟨rfl, Below.refl _ _⟩
  · have h2 : 1024 < lc := by omega
    clear h
    go_enter Yba.func3, Yba.ntmps3
    go_wp2
    go_ret
    exact ⟨rfl, Below.refl _ _⟩

theorem got_fin : ∀ n : Fin 1025, bits .or .i64 (bits .or .i64 (((n.val : Nat) : Int) / 65536 * 65536) (((n.val : Nat) : Int) / 256 * 256)) (((n.val : Nat) : Int) % 256) = ((n.val : Nat) : Int) := by decide +kernel

/-- The three length bytes, and what they make together. -/
theorem got_any (n : Nat) (h : n ≤ 1024) : ∃ x y z : Int, x = (n : Int) / 65536 ∧ y = (n : Int) / 256 ∧ z = (n : Int) % 256 ∧ 0 ≤ x ∧ x ≤ 255 ∧ 0 ≤ y ∧ y ≤ 255 ∧ 0 ≤ z ∧ z ≤ 255 ∧ bits .or .i64 (bits .or .i64 (x * 65536) (y * 256)) z = n :=
  ⟨_, _, _, rfl, rfl, rfl, by omega, by omega, by omega, by omega, by omega, by omega, got_fin ⟨n, by omega⟩⟩

set_option maxHeartbeats 1600000 in
theorem law_any (T : Int) (p : Option Addr) (bp op lp cp : Nat) (Zp : List Int) (c : Option Addr) (bc oc lc cc : Nat) (Zc : List Int) (w : World) (h0 : 0 ≤ T) (h1 : T ≤ 65535) (hp : lp ≤ 1024) (hc : lc ≤ 1024)
    (sp : Src w p bp op lp cp Zp) (sc : Src w c bc oc lc cc Zc) :
    Calls Yba.prog 3 #[.int .u16 T, .slice p lp cp, .slice c lc cc] w fun e w' => e = .returned (.bool true) ∧ Below w.heap.size w w' := by
  have HP : Hid (Src w p bp op lp cp Zp) := sp
  have HC : Hid (Src w c bc oc lc cc Zc) := sc
  clear sp sc
  go_enter Yba.func3, Yba.ntmps3
  go_wp2_with (go_at_call 4; refine (entry_law T p bp op lp cp Zp c bc oc lc cc Zc _ h0 h1 hp hc HP.out HC.out).mono ?_; rintro e w1 ⟨g, cap, rfl, hcell, hb⟩; have g0 := hcell 0 (by omega); have g1 := hcell 1 (by omega); rw [entryF_0] at g0; rw [entryF_1] at g1; have HE : Hid (∀ i, i < 2 + lp + 3 + lc → w1.cell? ⟨g, i, none⟩ = some (.int .u8 (entryF T Zp lc Zc i))) := hcell; clear hcell)
  clear g0 g1
  go_loopw [10] (fun i wr => ∃ k q : Nat, k ≤ lp ∧ i = .int .i64 k ∧ wr = w1.drewN q) (fun i _ => lp - (intOf i).toNat)
  case atStart => exact ⟨0, 0, Nat.zero_le _, rfl, rfl⟩
  case round =>
    obtain ⟨k, q, hk, rfl, rfl⟩ := hrel
    by_cases hlt : k < lp
    · obtain rfl := HP.out.there (by omega)
      have c1 := (hb.cell (block_lt_of_cell (HP.out.cell k hlt))).trans (HP.out.cell k hlt)
      have c2 := HE.out (2 + k) (by omega)
      rw [entryF_p T Zp lc Zc k (by rw [HP.out.length]; exact hlt)] at c2
      have i1 : (0 : Int) ≤ (k : Int) := by omega
      have i2 : (k : Int) < (lp : Int) := by omega
      go_wp2
      go_quiet (fail)
      go_wp2
      go_roundw
      case rel => exact ⟨k + 1, _, by omega, by go_num, rfl⟩
      case measure => simp [intOf]; omega
    · have c1 := HE.out (2 + lp) (by omega)
      have c2 := HE.out (2 + lp + 1) (by omega)
      have c3 := HE.out (2 + lp + 2) (by omega)
      have n0 := entryF_n T Zp lc Zc 0 (by omega)
      have n1 := entryF_n T Zp lc Zc 1 (by omega)
      have n2 := entryF_n T Zp lc Zc 2 (by omega)
      rw [HP.out.length] at n0 n1 n2
      obtain ⟨x, y, z, hx, hy, hz, x0, x1, y0, y1, z0, z1, hgot⟩ := got_any lc hc
      have e0 : entryF T Zp lc Zc (2 + lp) = x := by rw [hx]; simpa using n0
      have e1 : entryF T Zp lc Zc (2 + lp + 1) = y := by rw [hy]; simpa using n1
      have e2 : entryF T Zp lc Zc (2 + lp + 2) = z := by rw [hz]; simpa using n2
      rw [e0] at c1
      rw [e1] at c2
      rw [e2] at c3
      clear n0 n1 n2 e0 e1 e2 hx hy hz
      go_wp2
      go_quiet (fail)
      go_wp2
      clear c1 c2 c3
      go_loopw [13] (fun i wr => ∃ k q : Nat, k ≤ lc ∧ i = .int .i64 k ∧ wr = w1.drewN q) (fun i _ => lc - (intOf i).toNat)
      case atStart => exact ⟨0, _, Nat.zero_le _, rfl, rfl⟩
      case round =>
        obtain ⟨k2, q2, hk2, rfl, rfl⟩ := hrel
        by_cases hlt2 : k2 < lc
        · obtain rfl := HC.out.there (by omega)
          have c1 := (hb.cell (block_lt_of_cell (HC.out.cell k2 hlt2))).trans (HC.out.cell k2 hlt2)
          have c2 := HE.out (2 + lp + 3 + k2) (by omega)
          have n0 := entryF_c T Zp lc Zc k2
          rw [HP.out.length] at n0
          rw [n0] at c2
          clear n0
          have i1 : (0 : Int) ≤ (k2 : Int) := by omega
          have i2 : (k2 : Int) < (lc : Int) := by omega
          go_wp2
          go_quiet (fail)
          go_wp2
          go_roundw
          case rel => exact ⟨k2 + 1, _, by omega, by go_num, rfl⟩
          case measure => simp [intOf]; omega
        · go_wp2
          go_ret
          exact ⟨rfl, below_drewN hb _⟩
end Go.Proofs.Ybulkaeoe
