/-
  THE PROOF OF 'Rows.FnLineReaderEndTellsEndOfLogOrTooLongLineToldSaid' (told and tied): the law's walk (Qxb6612715aFmtLaw2) under the wrap for a row over fmt's stop; the witness starts in the heap that the program's own start-up text leaves; the tie is the given one.
-/
import Derived.Test.Qxb6612715aFmtLaw2
import Derived.Test.Qxb6612715aFmtTie
import Derived.Test.Qxb6612715aFmtCards
import Derived.ProofKit
import Derived.LaidMore
import Derived.MakeChecks
import Derived.Deep.DeepWitnessRef
import Derived.Deep.DeepLaidRun
import Derived.Stop.LaidErr
import Derived.Stop.LaidTwo
import Derived.Stop.JoinedAt
import Derived.Stop.JoinedTold
import Derived.SevenToldRow
import Derived.SevenTiedAt
namespace Go.Proofs.Qxb6612715aFmt.EndTells
open Go.ChangeShapes Go.WideShapes Go.ChangeAt Go.RowKit Go.Kit
open Go.ChangeMaps (open_string shut_string)
open Go.Extern.Stop Go.Stop Go.Extern
open Go.Proofs.Qxb6612715aFmt.W
set_option linter.unusedVariables false

theorem own : ownKnob Tryf.prog.godebug = none := by kernel_rfl
/-- The name that a datum's interface bears. -/
def nameOf : DataW Unit → String
  | .iface n _ => n
  | _ => ""
/-- The listed variable's name. -/
def nv : String := Rows.fnLineReaderEndTellsEndOfLogOrTooLongLineSpec.vars.headD ""
theorem row76 (u : TypeId) (h : Tryf.prog.typeName? 3 u = some (nameOf Rows.laid_io_EOF)) : u = 76 := by
  refine typeName_ptr_named (P := Tryf.prog) (nm := "errors.errorString") (by kernel_rfl) (by kernel_rfl) (by decide) u ?_
  rw [h]
  exact congrArg some (by decide)
theorem n0 : Tryf.prog.globalNamed nv = some 0 := by kernel_rfl
theorem n1 : Tryf.prog.globalNamed "io.EOF" = some 1 := by kernel_rfl
theorem n2 : Tryf.prog.globalNamed "bufio.ErrTooLong" = some 2 := by kernel_rfl
theorem t0 : (Tryf.prog.globals[0]?).map (·.type) = some 32 := by kernel_rfl

theorem ne_of_text {W : World} {a b : Addr} {s u : ByteArray} {x y : List UInt8} (ha : W.cell? a = some (.string s)) (hb : W.cell? b = some (.string u)) (hs : s.data.toList = x) (hu : u.data.toList = y) (h : x ≠ y) : a ≠ b := by
  rintro rfl
  rw [ha] at hb
  injection hb with hb
  injection hb with hb
  subst hb
  exact h (hs.symm.trans hu)

/-- What 'laid' gives the walk: the sentinels. -/
theorem of_laid {W : World} (h : laidMetH Tryf.prog Rows.fnLineReaderEndTellsEndOfLogOrTooLongLineRow.laid W) :
    ∃ a0 a1 a2 t2, Sents W a0 a1 a2 t2 ∧ W.var? Tryf.prog nv = some #[.iface 76 (.pointer (some a0))] := by
  rw [MakeChecks.laidMetH_plain _ _ _ (by kernel_rfl)] at h
  obtain ⟨a1, _, s1, _, c1, _, k1, _, hv1, _, hc1, hs1, _, _, _, _, _, hh1, _⟩ := laid_sentinels2 (g0 := 1) h n1 (by kernel_rfl) (g1 := (Tryf.prog.globalNamed "io.ErrNoProgress").getD 0) (by kernel_rfl) (by kernel_rfl) Tryf.underlying32 row76 Tryf.underlying76 Tryf.underlying78 rfl rfl Tryf.underlying9 (by kernel_rfl) (by kernel_rfl)
  obtain ⟨a2, _, s2, _, c2, _, k2, _, hv2, _, hc2, hs2, _, _, _, _, _, hh2, _⟩ := laid_sentinels2 (g0 := 2) h.tail.tail n2 (by kernel_rfl) (g1 := (Tryf.prog.globalNamed "bufio.ErrNegativeAdvance").getD 0) (by kernel_rfl) (by kernel_rfl) Tryf.underlying32 row76 Tryf.underlying76 Tryf.underlying78 rfl rfl Tryf.underlying9 (by kernel_rfl) (by kernel_rfl)
  obtain ⟨_, a0, _, s0, _, c0, _, k0, _, hv0, _, _, _, hc0, hs0, _, _, _, hh0⟩ := laid_sentinels2 (g0 := (Tryf.prog.globalNamed "bufio.ErrFinalToken").getD 0) h.tail.tail.tail.tail.tail.tail (by kernel_rfl) (by kernel_rfl) (g1 := 0) n0 (by kernel_rfl) Tryf.underlying32 row76 Tryf.underlying76 Tryf.underlying78 rfl rfl Tryf.underlying9 (by kernel_rfl) (by kernel_rfl)
  refine ⟨a0, a1, a2, s2, ⟨by simpa using World.var?_cell n0 hv0 0, by simpa using World.var?_cell n1 hv1 0, by simpa using World.var?_cell n2 hv2 0, hc2, ⟨_, _, hh0⟩, ⟨_, _, hh1⟩, ⟨_, _, hh2⟩, ?_, ?_, ?_⟩, hv0⟩
  · exact ne_of_text hc0 hc1 hs0 hs1 (by decide)
  · exact ne_of_text hc0 hc2 hs0 hs2 (by decide)
  · exact ne_of_text hc1 hc2 hs1 hs2 (by decide)

set_option maxRecDepth 100000 in
/-- The heap that the start-up text leaves meets the row's 'laid'. -/
theorem door_met (os : Os) (args : Array Value) : laidMetH Tryf.prog Rows.fnLineReaderEndTellsEndOfLogOrTooLongLineRow.laid ((World.doorLaid Tryf.prog 161 os).forCall (fun _ _ => 0) ⟨#[], args, []⟩).memory :=
  laidMetH_of_parts3 (fuel := 8) (laidMet_of_run3 8 (by kernel_rfl) (by kernel_rfl) (by kernel_rfl)) (by kernel_rfl) (by kernel_rfl)

theorem var_kept {P : Program} {B g : Nat} {W W' : World} {n : String} {cs : Array Value} (h : Below B W W') (hg : P.globalNamed n = some g) (hgB : g < B) (hv : W.var? P n = some cs) : W'.var? P n = some cs := by
  unfold World.var? at hv ⊢
  simp only [hg, Option.bind_some] at hv ⊢
  rw [h.block g hgB]
  exact hv

set_option maxRecDepth 100000 in
set_option maxHeartbeats 4000000 in
theorem lifted (os : Os) (started : os.Started) (H : Type) (enc : TypeId × Value → H) :
    ReturnsInTold none {} Tryf.checked os 3 .any Input.okWide ((OpenSpec.ofChange Rows.fnLineReaderEndTellsEndOfLogOrTooLongLineSpec).preRow enc Tryf.prog Tryf.f3 Rows.fnLineReaderEndTellsEndOfLogOrTooLongLineRow.domain false Rows.fnLineReaderEndTellsEndOfLogOrTooLongLineRow.laid)
      (fun F => ((OpenSpec.ofChange Rows.fnLineReaderEndTellsEndOfLogOrTooLongLineSpec).at F).post enc Tryf.prog Tryf.f3 false true false false) (aloneAtReturn Tryf.prog) nothingAlways := by
  refine returnsInTold_of_row (C := Tryf.checked) (s := OpenSpec.ofChange Rows.fnLineReaderEndTellsEndOfLogOrTooLongLineSpec) (by kernel_rfl) own started (by kernel_rfl) Tryf.func3
    (OpenSpec.witness_stopped_atRef (enc := enc) (C := Tryf.checked) false (World.doorLaid Tryf.prog 161 os) #[.string ⟨#[]⟩, .int .i64 0] rfl (by kernel_rfl) (by kernel_rfl) (by kernel_rfl)
      (OpenSpec.preRow_of_B rfl 8 (by kernel_rfl) (by kernel_rfl) (door_met os _))) ?_
  intro F W base args ds gs before _ hF hval0 hW _ _ _ hL _
  have hval : ∀ (j : Nat) t v, Tryf.f3.params[j]? = some t → args[j]? = some v → Value.okWide Tryf.prog W .any base t v := hval0
  have hW' := hW
  obtain ⟨p, q, hA0, hV0, rfl, _, _⟩ := hW
  have hA : DataW.TrodAll enc Tryf.prog W 0 (fun _ => true) true Tryf.f3.params.toList args.toList ds p := hA0
  have hV : DataW.TrodVars enc Tryf.prog W (fun _ => true) [nv] gs q := hV0
  rw [Tryf.params3] at hA hval
  obtain ⟨v0, v1, d0, d1, p0, p1, rfl, rfl, rfl, h0, h1⟩ := trodAll_two hA
  obtain ⟨s, rfl, rfl, rfl, ws⟩ := open_string Tryf.underlying9 (hval 0 9 v0 rfl rfl) h0
  obtain ⟨d, rfl, rfl, rfl, wd⟩ := open_int Tryf.underlying3 (hval 1 3 v1 rfl rfl) h1
  obtain ⟨a0, a1, a2, t2, sn, hv⟩ := of_laid hL
  obtain ⟨rfl, rfl⟩ := hV.unique (vars_read1 enc n0 t0 Tryf.underlying32 hv trivial _)
  clear hA0 hV0 hval0
  have h0lt : 0 < W.heap.size := Lib.lt_of_cell sn.g0
  refine (law_any F.told d ws hF sn).mono ?_
  rintro e W' ⟨rfl, bel⟩
  have e1 : ((OpenSpec.ofChange Rows.fnLineReaderEndTellsEndOfLogOrTooLongLineSpec).at F.told).fn H ([.lit (.string s.data.toList), .lit (.int .i64 d)] ++ [tok enc (.iface 76 (.pointer (some a0)))]) = { results := [.lit (.bool true)], args := [.lit (.string s.data.toList), .lit (.int .i64 d)], vars := [tok enc (.iface 76 (.pointer (some a0)))] } := rfl
  refine ⟨_, rfl, _, _, _, [], [], [.cell 0 0], hW', ?_, ?_, ?_, bel.frame _, fun h => by cases h⟩
  · rw [e1]; exact trodAll_mk1 (shut_bool Tryf.underlying4 true)
  · rw [e1]; exact trodAll_mk2 (shut_string Tryf.underlying9 ws) (shut_int Tryf.underlying3 wd)
  · rw [e1]; exact vars_read1 enc n0 t0 Tryf.underlying32 (var_kept bel n0 h0lt hv) trivial _

theorem laidOut : laidOutB Tryf.pinned.checked.prog = true := by kernel_rfl
theorem stops : Tryf.pinned.checked.prog.stops = ["fmt.errorf"] := by kernel_rfl
theorem stopKnobs : Tryf.pinned.checked.prog.stopKnobs = [] := by kernel_rfl
theorem quiet (os : Os) : Stop.quiet Tryf.pinned.checked.prog os := by
  intro k hk
  rw [stopKnobs] at hk
  cases hk

set_option maxRecDepth 100000 in
theorem proved : Rows.FnLineReaderEndTellsEndOfLogOrTooLongLineToldSaid :=
  Claim7.holds_of_told_tied_any_at .later 3 Tryf.f3 "fmt.errorf" [] [] _ _ _ _ _ (by kernel_rfl) rfl rfl rfl laidOut (by kernel_rfl) rfl ⟨rfl, rfl, rfl, rfl, rfl, rfl, rfl⟩ rfl rfl (by kernel_rfl) (by kernel_rfl) Tryf.func3 (by kernel_rfl)
    (of_decide_eq_true (by kernel_rfl)) (of_decide_eq_true (by kernel_rfl)) stops.symm rfl stopKnobs.symm (by kernel_rfl)
    (by kernel_rfl) (by kernel_rfl) (by kernel_rfl) (by kernel_rfl) (by kernel_rfl) (by kernel_rfl) (by kernel_rfl) (by kernel_rfl) (by kernel_rfl) rfl (by kernel_rfl) rfl rfl
    rfl rfl
    rfl (by kernel_rfl) (by kernel_rfl) (by kernel_rfl) (by decide) (by kernel_rfl) fnLineReaderEndTellsEndOfLogOrTooLongLine_row_tie
    (OpenClaim.moreEntering_of (by kernel_rfl) (by kernel_rfl) (by kernel_rfl) (by kernel_rfl) (by kernel_rfl) (by kernel_rfl) (by kernel_rfl) (by kernel_rfl) (by kernel_rfl) (by kernel_rfl))
    ⟨_, WideRow.started_initial, quiet _⟩
    (fun os started _ H enc _ => lifted os started H enc)
#print axioms proved
end Go.Proofs.Qxb6612715aFmt.EndTells
