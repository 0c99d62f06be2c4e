/-
  THE PROOF OF 'Rows.LawS1527CSealToldSaid' ('example.com/sloyka/sloyka.LawS1527CSeal'): the told card, by the builder 'Claim7.holds_of_told_any' (the guide's 10.14), the frame after the worked HexbadTold.lean and the guide's shell for laws.
-/
import Derived.Test.YbulkaepgFmtCards
import Derived.Test.YbulkaepgFmtLawBad
import Derived.Test.YbulkaepgFmtLawGood
import Derived.WalkKit
import Derived.ProofKit
import Derived.OpenShut
import Derived.ShutString
import Derived.ChangeOld
import Derived.Below
import Derived.Stop.JoinedAt
import Derived.Stop.Texts
import Derived.Stop.JoinedTold
import Derived.SevenToldRow
namespace Go.Proofs.YbulkaepgFmt.lawS1527CSeal
open Go.ChangeShapes Go.WideShapes Go.ChangeAt Go.RowKit
open Go.Extern.Stop Go.Stop Go.Extern
set_option linter.unusedVariables false

theorem own : ownKnob Ybaf.prog.godebug = none := by kernel_rfl
theorem laidOut : laidOutB Ybaf.prog = true := by kernel_rfl
theorem laidOut' : laidOutB Ybaf.pinned.checked.prog = true := by kernel_rfl
theorem stops : Ybaf.pinned.checked.prog.stops = ["fmt.errorf"] := by kernel_rfl
theorem stopKnobs : Ybaf.pinned.checked.prog.stopKnobs = [] := by kernel_rfl
theorem quiet (os : Os) : Stop.quiet Ybaf.pinned.checked.prog os := by
  intro k hk
  rw [stopKnobs] at hk
  cases hk

/-- WHAT THE WALK IS TOLD OF A SLICE OF INTEGERS THAT CAME IN. -/
def IsRow (k : IntKind) (w : World) (a : Option Addr) (len cap : Nat) (zs : List Int) : Prop :=
  (a = none ∧ len = 0 ∧ cap = 0 ∧ zs = []) ∨
  ∃ x, a = some x ∧ len ≤ cap ∧ cap ≤ maxLen ∧ zs.length = cap ∧ (∀ i, i < zs.length → w.cell? (x.add i) = some (.int k (zs.getD i 0))) ∧ ∀ n ∈ zs, (Lit.int k n).wf = true

/-- All ways of the law, the slice's cells known. -/
theorem walk_at (F : Interp) (p : Option Addr) (b off n cap : Nat) (E : Nat → Int) (nf number sel : Int) (missing : Bool) (w : World) (hF : F.answers w.tape) (hn : n ≤ 1024) (hs : 0 < n → p = some ⟨b, off, none⟩)
    (hc : ∀ j, j < n → w.cell? ⟨b, off + j, none⟩ = some (.int .i64 (E j))) (s0 : 0 ≤ sel) (s1 : sel ≤ 65535) :
    Calls Ybaf.prog 3 #[.slice p n cap, .int .u64 nf, .int .u64 number, .int .u16 sel, .bool missing] w fun e w' => e = .returned (.bool true) ∧ Below w.heap.size w w' := by
  cases missing with
  | true => exact law_missing F p b off n cap E nf number sel w hF hn hs hc s0 s1
  | false =>
    have h0 : 0 ≤ sel % ((n : Int) + 2) := Int.emod_nonneg _ (by omega)
    by_cases hbad : sel % ((n : Int) + 2) = 0 ∨ (n : Int) < sel % ((n : Int) + 2)
    · exact law_count F p b off n cap E nf number sel w hF hn hs hc s0 s1 _ rfl hbad
    · obtain ⟨k, hk⟩ := Int.eq_ofNat_of_zero_le h0
      rw [hk] at hbad
      exact law_good p b off n cap E nf number sel w hn hs hc s0 s1 k hk (by omega) (by omega)

theorem walk (F : Interp) (a0 : Option Addr) (len0 cap0 : Nat) (z0 : List Int) (a1 a2 a3 : Int) (a4 : Bool) (w : World) (hF : F.answers w.tape) (w0 : IsRow .i64 w a0 len0 cap0 z0) (w3 : (Lit.int .u16 a3).wf = true) :
    Calls Ybaf.prog 3 #[.slice a0 len0 cap0, .int .u64 a1, .int .u64 a2, .int .u16 a3, .bool a4] w fun e w' => e = .returned (.bool true) ∧ Below w.heap.size w w' := by
  by_cases hlong : 1024 < len0
  · exact law_long a0 len0 cap0 a1 a2 a3 a4 w hlong
  have hbd := bounds_u16 w3
  rcases w0 with ⟨rfl, rfl, rfl, rfl⟩ | ⟨x, rfl, hl, hm, hz, hcell, hwz⟩
  · exact walk_at F none 0 0 0 0 (fun _ => 0) a1 a2 a3 a4 w hF (by omega) (fun h => absurd h (by omega)) (fun j h => absurd h (by omega)) hbd.1 hbd.2
  · obtain ⟨b, off, spot⟩ := x
    by_cases h0 : len0 = 0
    · exact walk_at F _ b off len0 cap0 (fun _ => 0) a1 a2 a3 a4 w hF (by omega) (fun h => absurd h (by omega)) (fun j h => absurd h (by omega)) hbd.1 hbd.2
    have hspot : spot = none := by simpa [Addr.add] using World.cell?_spot (hcell 0 (by omega))
    subst hspot
    refine walk_at F _ b off len0 cap0 (fun j => z0[j]?.getD 0) a1 a2 a3 a4 w hF (by omega) (fun _ => rfl) (fun j hj => ?_) hbd.1 hbd.2
    have := hcell j (by omega)
    rw [add_plain] at this
    simpa using this

set_option maxRecDepth 100000 in
theorem lifted (os : Os) (started : os.Started) (H : Type) (enc : TypeId × Value → H) :
    ReturnsInTold none {} Ybaf.checked os 3 .any Input.okWide ((OpenSpec.ofChange Rows.lawS1527CSealSpec).preRow enc Ybaf.prog Ybaf.f3 [] false []) (fun F => ((OpenSpec.ofChange Rows.lawS1527CSealSpec).at F).post enc Ybaf.prog Ybaf.f3 false true false false) (aloneAtReturn Ybaf.prog) nothingAlways := by
  refine returnsInTold_of_row (C := Ybaf.checked) (s := OpenSpec.ofChange Rows.lawS1527CSealSpec) (by kernel_rfl) own started (by kernel_rfl) Ybaf.func3
    (OpenSpec.witness_stopped (enc := enc) (C := Ybaf.checked) false ⟨#[], #[.slice none 0 0, .int .u64 0, .int .u64 0, .int .u16 0, .bool false], []⟩ 8 (by kernel_rfl) (by kernel_rfl) (by kernel_rfl) (by kernel_rfl)) ?_
  intro F W base args ds gs before _ hF hval0 hW _ _ _ _ _
  have hval : ∀ (j : Nat) t v, Ybaf.f3.params[j]? = some t → args[j]? = some v → Value.okWide Ybaf.prog W .any base t v := hval0
  have hW' := hW
  obtain ⟨p, q, hA0, hV, rfl, hfz, hnd⟩ := hW
  have hA : DataW.TrodAll enc Ybaf.prog W 0 (fun _ => true) true Ybaf.f3.params.toList args.toList ds p := hA0
  rw [Ybaf.params3] at hA hval
  obtain ⟨v0, vs0, d0, ds0, p0, q0, hargs, rfl, rfl, h0, r0⟩ := trodAll_cons hA
  obtain ⟨v1, vs1, d1, ds1, p1, q1, rfl, rfl, rfl, h1, r1⟩ := trodAll_cons r0
  obtain ⟨v2, vs2, d2, ds2, p2, q2, rfl, rfl, rfl, h2, r2⟩ := trodAll_cons r1
  obtain ⟨v3, vs3, d3, ds3, p3, q3, rfl, rfl, rfl, h3, r3⟩ := trodAll_cons r2
  obtain ⟨v4, vs4, d4, ds4, p4, q4, rfl, rfl, rfl, h4, r4⟩ := trodAll_cons r3
  obtain ⟨rfl, rfl, rfl⟩ := trodAll_nil r4
  obtain rfl : args = #[v0, v1, v2, v3, v4] := by cases args; simp_all
  obtain ⟨rfl, rfl⟩ := trodVars_none hV
  obtain ⟨a0, len0, cap0, rfl⟩ := okWide_slice Ybaf.underlying22 (hval 0 22 v0 rfl rfl)
  have k0 := h0
  have lt0 : ∀ x ∈ p0, x.block < W.heap.size := by obtain ⟨m, hm⟩ := k0; exact DataW.trod_lt m _ _ _ hm
  obtain ⟨z0, w0⟩ : ∃ zs, IsRow .i64 W a0 len0 cap0 zs := by
    obtain ⟨fuel, hf⟩ := h0
    rcases open_ints Ybaf.underlying22 Ybaf.underlying2 (by kernel_rfl) hf with ⟨hcs, _⟩ | ⟨x, l, c, zs, hcs, _, hl, hm, hz, _, hcell, hwz⟩
    · simp [Value.cells] at hcs
      obtain ⟨rfl, rfl, rfl⟩ := hcs
      exact ⟨[], .inl ⟨rfl, rfl, rfl, rfl⟩⟩
    · simp [Value.cells] at hcs
      obtain ⟨rfl, rfl, rfl⟩ := hcs
      exact ⟨zs, .inr ⟨_, rfl, hl, hm, by simpa using hz, hcell, hwz⟩⟩
  obtain ⟨a1, rfl, rfl, rfl, w1⟩ := open_int Ybaf.underlying23 (hval 1 23 v1 rfl rfl) h1
  obtain ⟨a2, rfl, rfl, rfl, w2⟩ := open_int Ybaf.underlying23 (hval 2 23 v2 rfl rfl) h2
  obtain ⟨a3, rfl, rfl, rfl, w3⟩ := open_int Ybaf.underlying24 (hval 3 24 v3 rfl rfl) h3
  obtain ⟨a4, rfl, rfl, rfl⟩ := open_bool Ybaf.underlying4 (hval 4 4 v4 rfl rfl) h4
  clear hA0 hval0
  refine (walk F.told a0 len0 cap0 z0 a1 a2 a3 a4 W hF w0 w3).mono fun e W' ⟨he, bel⟩ => ?_
  subst he
  exact ⟨_, rfl, _, _, _, [], _, [], hW', trodAll_mk1 (shut_bool Ybaf.underlying4 _), (trodAll_cons_mk (Below.trod laidOut (by kernel_rfl) (of_decide_eq_true (by kernel_rfl)) k0 bel lt0) (trodAll_cons_mk (shut_int Ybaf.underlying23 w1) (trodAll_cons_mk (shut_int Ybaf.underlying23 w2) (trodAll_cons_mk (shut_int Ybaf.underlying24 w3) (trodAll_cons_mk (shut_bool Ybaf.underlying4 _) trodAll_mk0))))), rfl, bel.frame _, fun h => by cases h⟩

/-- ████ THE STATEMENT ████ -/
theorem proved : Rows.LawS1527CSealToldSaid :=
  Claim7.holds_of_told_any 3 Ybaf.f3 "fmt.errorf" [] [] _ _ _ (by kernel_rfl) rfl rfl rfl laidOut' (by kernel_rfl) rfl ⟨rfl, rfl, rfl, rfl, rfl, rfl, rfl⟩ rfl rfl (by kernel_rfl) (by kernel_rfl) Ybaf.func3 (by kernel_rfl)
    (of_decide_eq_true (by kernel_rfl)) (of_decide_eq_true (by kernel_rfl)) stops.symm rfl stopKnobs.symm (by kernel_rfl)
    (by kernel_rfl) (by kernel_rfl) (by kernel_rfl) (by kernel_rfl) (by kernel_rfl) (by kernel_rfl) (by kernel_rfl) (by kernel_rfl) (by kernel_rfl) rfl (by kernel_rfl) rfl rfl
    rfl rfl
    rfl (by kernel_rfl) (by kernel_rfl) (by kernel_rfl) (by decide) (by kernel_rfl)
    (OpenClaim.moreEntering_of (by kernel_rfl) (by kernel_rfl) (by kernel_rfl) (by kernel_rfl) (by kernel_rfl) (by kernel_rfl) (by kernel_rfl) (by kernel_rfl) (by kernel_rfl) (by kernel_rfl))
    ⟨_, WideRow.started_initial, quiet _⟩
    (fun os started _ H enc _ => lifted os started H enc)
end Go.Proofs.YbulkaepgFmt.lawS1527CSeal
