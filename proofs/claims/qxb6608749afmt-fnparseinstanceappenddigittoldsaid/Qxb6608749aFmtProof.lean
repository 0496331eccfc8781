/-
  THE PROOF OF 'Rows.FnParseInstanceAppendDigitToldSaid' (told and tied): the law's walk (Qxb6608749aFmtLaw) under the wrap for a row over fmt's stop; the witness starts in the heap that the program's own start-up text leaves; the tie is the given one.
-/
import Derived.Test.Qxb6608749aFmtLaw
import Derived.Test.Qxb6608749aFmtTie
import Derived.Test.Qxb6608749aFmtCards
import Derived.ProofKit
import Derived.LaidMore
import Derived.MakeChecks
import Derived.Deep.DeepWitnessRef
import Derived.Deep.DeepLaidRun
import Derived.Stop.LaidErr
import Derived.Stop.JoinedAt
import Derived.Stop.JoinedTold
import Derived.SevenToldRow
import Derived.SevenTiedAt
namespace Go.Proofs.Qxb6608749aFmt.AppendDigit
open Go.ChangeShapes Go.WideShapes Go.ChangeAt Go.RowKit Go.Kit
open Go.ChangeMaps (open_string shut_string)
open Go.Extern.Stop Go.Stop Go.Extern
open Go.Proofs.Qxb6608749aFmt.W
set_option linter.unusedVariables false

theorem own : ownKnob Tryf.prog.godebug = none := by kernel_rfl
/-- The name that a datum's interface bears. -/
def nmOf : DataW Unit → String
  | .iface n _ => n
  | _ => ""
theorem row48 (u : TypeId) (h : Tryf.prog.typeName? 3 u = some (nmOf Rows.laid_strconv_ErrRange)) : u = 48 := by
  refine typeName_ptr_named (P := Tryf.prog) (nm := "errors.errorString") (by kernel_rfl) (by kernel_rfl) (by decide) u ?_
  rw [h]
  exact congrArg some (by decide)
theorem g1 : Tryf.prog.globalNamed "strconv.ErrSyntax" = some 1 := by kernel_rfl
theorem g2 : Tryf.prog.globalNamed "strconv.ErrRange" = some 2 := by kernel_rfl

/-- What 'laid' gives the walk: the two sentinels' cells. -/
theorem of_laid {W : World} (h : laidMetH Tryf.prog Rows.fnParseInstanceAppendDigitRow.laid W) :
    (∃ t p, W.cell? ⟨1, 0, none⟩ = some (.iface t p)) ∧ ∃ t p, W.cell? ⟨2, 0, none⟩ = some (.iface t p) := by
  rw [MakeChecks.laidMetH_plain _ _ _ (by kernel_rfl)] at h
  have h3 := h.tail.tail.tail
  obtain ⟨a2, s2, hv2, hc2, _, _⟩ := laid_sentinel (g := 2) h3 g2 (by kernel_rfl) Tryf.underlying25 row48 Tryf.underlying48 Tryf.underlying50 rfl rfl Tryf.underlying9 (by kernel_rfl) (by kernel_rfl)
  obtain ⟨a1, s1, hv1, hc1, _, _⟩ := laid_sentinel (g := 1) h3.tail g1 (by kernel_rfl) Tryf.underlying25 row48 Tryf.underlying48 Tryf.underlying50 rfl rfl Tryf.underlying9 (by kernel_rfl) (by kernel_rfl)
  exact ⟨⟨48, .pointer (some a1), by simpa using World.var?_cell g1 hv1 0⟩, ⟨48, .pointer (some a2), by simpa using World.var?_cell g2 hv2 0⟩⟩

set_option maxRecDepth 100000 in
/-- The heap that the start-up text leaves meets the row's 'laid'. -/
theorem door_met (os : Os) (args : Array Value) : laidMetH Tryf.prog Rows.fnParseInstanceAppendDigitRow.laid ((World.doorLaid Tryf.prog 100 os).forCall (fun _ _ => 0) ⟨#[], args, []⟩).memory :=
  laidMetH_of_parts3 (fuel := 8) (laidMet_of_run3 8 (by kernel_rfl) (by kernel_rfl) (by kernel_rfl)) (by kernel_rfl) (by kernel_rfl)

set_option maxRecDepth 100000 in
set_option maxHeartbeats 4000000 in
theorem lifted (os : Os) (started : os.Started) (H : Type) (enc : TypeId × Value → H) :
    ReturnsInTold none {} Tryf.checked os 4 .any Input.okWide ((OpenSpec.ofChange Rows.fnParseInstanceAppendDigitSpec).preRow enc Tryf.prog Tryf.f4 Rows.fnParseInstanceAppendDigitRow.domain false Rows.fnParseInstanceAppendDigitRow.laid)
      (fun F => ((OpenSpec.ofChange Rows.fnParseInstanceAppendDigitSpec).at F).post enc Tryf.prog Tryf.f4 false true false false) (aloneAtReturn Tryf.prog) nothingAlways := by
  refine returnsInTold_of_row (C := Tryf.checked) (s := OpenSpec.ofChange Rows.fnParseInstanceAppendDigitSpec) (by kernel_rfl) own started (by kernel_rfl) Tryf.func4
    (OpenSpec.witness_stopped_atRef (enc := enc) (C := Tryf.checked) false (World.doorLaid Tryf.prog 100 os) #[.string ⟨#[]⟩, .int .i64 0] rfl (by kernel_rfl) (by kernel_rfl) (by kernel_rfl)
      (OpenSpec.preRow_of_B rfl 8 (by kernel_rfl) (by kernel_rfl) (door_met os _))) ?_
  intro F W base args ds gs before _ hF hval0 hW _ _ _ hL _
  have hval : ∀ (j : Nat) t v, Tryf.f4.params[j]? = some t → args[j]? = some v → Value.okWide Tryf.prog W .any base t v := hval0
  have hW' := hW
  obtain ⟨p, q, hA0, hV0, rfl, _, _⟩ := hW
  have hA : DataW.TrodAll enc Tryf.prog W 0 (fun _ => true) true Tryf.f4.params.toList args.toList ds p := hA0
  rw [Tryf.params4] at hA hval
  obtain ⟨v0, v1, d0, d1, p0, p1, rfl, rfl, rfl, h0, h1⟩ := trodAll_two hA
  obtain ⟨rfl, rfl⟩ := trodVars_none hV0
  obtain ⟨s, rfl, rfl, rfl, ws⟩ := open_string Tryf.underlying9 (hval 0 9 v0 rfl rfl) h0
  obtain ⟨d, rfl, rfl, rfl, wd⟩ := open_int Tryf.underlying3 (hval 1 3 v1 rfl rfl) h1
  clear hA0 hV0 hval0
  obtain ⟨⟨t1, q1, hv1⟩, t2, q2, hv2⟩ := of_laid hL
  refine (law_any F.told s d ws wd t1 t2 q1 q2 W hF hv1 hv2).mono ?_
  rintro e W' ⟨rfl, bel⟩
  have e1 : ((OpenSpec.ofChange Rows.fnParseInstanceAppendDigitSpec).at F.told).fn H ([.lit (.string s.data.toList), .lit (.int .i64 d)] ++ []) = { results := [.lit (.bool true)], args := [.lit (.string s.data.toList), .lit (.int .i64 d)] } := rfl
  refine ⟨_, rfl, _, _, _, [], [], [], hW', ?_, ?_, ?_, bel.frame _, fun h => by cases h⟩
  · rw [e1]; exact trodAll_mk1 (shut_bool Tryf.underlying4 true)
  · rw [e1]; exact trodAll_mk2 (shut_string Tryf.underlying9 ws) (shut_int Tryf.underlying3 wd)
  · rw [e1]; rfl

theorem laidOut : laidOutB Tryf.pinned.checked.prog = true := by kernel_rfl
theorem stops : Tryf.pinned.checked.prog.stops = ["fmt.errorf"] := by kernel_rfl
theorem stopKnobs : Tryf.pinned.checked.prog.stopKnobs = [] := by kernel_rfl
theorem quiet (os : Os) : Stop.quiet Tryf.pinned.checked.prog os := by
  intro k hk
  rw [stopKnobs] at hk
  cases hk

set_option maxRecDepth 100000 in
theorem proved : Rows.FnParseInstanceAppendDigitToldSaid :=
  Claim7.holds_of_told_tied_any_at .later 4 Tryf.f4 "fmt.errorf" [] [] _ _ _ _ _ (by kernel_rfl) rfl rfl rfl laidOut (by kernel_rfl) rfl ⟨rfl, rfl, rfl, rfl, rfl, rfl, rfl⟩ rfl rfl (by kernel_rfl) (by kernel_rfl) Tryf.func4 (by kernel_rfl)
    (of_decide_eq_true (by kernel_rfl)) (of_decide_eq_true (by kernel_rfl)) stops.symm rfl stopKnobs.symm (by kernel_rfl)
    (by kernel_rfl) (by kernel_rfl) (by kernel_rfl) (by kernel_rfl) (by kernel_rfl) (by kernel_rfl) (by kernel_rfl) (by kernel_rfl) (by kernel_rfl) rfl (by kernel_rfl) rfl rfl
    rfl rfl
    rfl (by kernel_rfl) (by kernel_rfl) (by kernel_rfl) (by decide) (by kernel_rfl) fnParseInstanceAppendDigit_row_tie
    (OpenClaim.moreEntering_of (by kernel_rfl) (by kernel_rfl) (by kernel_rfl) (by kernel_rfl) (by kernel_rfl) (by kernel_rfl) (by kernel_rfl) (by kernel_rfl) (by kernel_rfl) (by kernel_rfl))
    ⟨_, WideRow.started_initial, quiet _⟩
    (fun os started _ H enc _ => lifted os started H enc)
#print axioms proved
end Go.Proofs.Qxb6608749aFmt.AppendDigit
