/-
  The proof of 'Rows.FnNextReferenceStepsFindEveryOpeningSaid', out of the guide's shell: its walk filled.
-/
import Derived.Test.Qxb6606024aRows
import Derived.WalkKit
import Derived.ProofKit
import Derived.OpenShut
import Derived.ShutString
import Derived.Test.Qxb6606024aWalks
namespace Go.Proofs.Qxb6606024a.fnNextReferenceStepsFindEveryOpening
open Go.ChangeShapes Go.WideShapes Go.ChangeAt Go.RowKit
open Go.Proofs.Qxb6606024a.W Go.Proofs.Qxb6606024a.Plain
open Go.ChangeMaps (open_string shut_string)
set_option linter.unusedVariables false      -- a walk need not use every 'w<i>' (that an integer argument fits its kind)

theorem own : ownKnob Try.prog.godebug = none := by kernel_rfl

/-! ### STEP 1: THE WALK: the Go text returns true. 'Grown w w'': the world has at most new blocks (Derived/RowKit3.lean). Part the cases AHEAD of 'go_enter' where a test parts the walk; take each callee by a contract of your own. -/
set_option maxHeartbeats 2000000 in
theorem main (s : ByteArray) (i e : Nat) (w : World) (hs : s.size ≤ 1048576) (he : e ≤ s.size) (hi : i < 9223372036854775808) :
    Calls Try.prog 4 #[.string s, .int .i64 i, .int .i64 e] w fun x w' => x = .returned (.bool true) ∧ Grown w w' := by
  generalize hf : cntL s.data.toList i (e-1-i) = c
  have Hf := hide hf
  have hz := count_any s i e
  rw [hf] at hz
  clear hf
  go_enter Try.func4, Try.ntmps4
  go_wp2_with (first | (go_at_call 9; refine (bytes2_any _ _ _ _ hs).mono ?_; rintro x w' ⟨rfl, rfl⟩) | (go_at_call 7; refine (new_any _ _).mono ?_; rintro x w' ⟨rfl, rfl⟩) | (go_at_call 10; refine (hz _ he hs hi).mono ?_; rintro x w' ⟨rfl, rfl⟩))
  go_loop [9, 10, 11] (fun a k st => ∃ (fn an sn : Nat), i ≤ an ∧ (an ≤ e - 1 ∧ sn ≤ an ∨ an = i ∧ sn = 0) ∧ fn ≤ sn ∧ fn + cntL s.data.toList an (e-1-an) = c ∧ a = .int .i64 fn ∧ k = .int .i64 an ∧ st = .int .i64 sn) (fun _ _ k => e + 1 - (intOf k).toNat)
  case atStart => exact ⟨0, i, 0, Nat.le_refl _, Or.inr ⟨rfl, rfl⟩, by omega, by have := unhide Hf; omega, rfl, rfl, rfl⟩
  case round =>
    obtain ⟨fn, an, sn, h1, h2, h3, h4, rfl, rfl, rfl⟩ := hrel
    have H4 := hide h4
    clear h4
    have hnx := fun b => zznext_any s b an e
    rcases firstL_ge s.data.toList (e-1-an) an with hn | ⟨j, hj, hj2, hj3, hj4⟩
    · rw [hn] at hnx
      have hcn := cntL_none _ _ _ hn
      have hfc : fn = c := by have := unhide H4; omega
      clear hn hcn
      subst hfc
      go_wp2_with (go_at_call 6; refine (hnx _ _ he hs (by omega) (by go_simp)).mono ?_; rintro x w' ⟨rfl, rfl⟩)
      go_ret
      exact ⟨rfl, by repeat (first | exact Grown.refl _ | apply Grown.drew | apply Grown.alloc)⟩
    · rw [hj] at hnx
      have H5 : Hid (fn + 1 + cntL s.data.toList (an+j+1) (e-1-(an+j+1)) = c) := hide (by
        have := unhide H4
        rw [hj4, show e - 1 - an - (j+1) = e-1-(an+j+1) from by omega] at this
        omega)
      have hop := opens_any s (an+j)
      rw [hj3] at hop
      clear hj hj3 hj4
      go_wp2_with (first | (go_at_call 6; refine (hnx _ _ he hs (by omega) (by go_simp)).mono ?_; rintro x w' ⟨rfl, rfl⟩) | (go_at_call 8; refine (hop _ (by omega) hs).mono ?_; rintro e w' ⟨rfl, rfl⟩))
      exact ⟨⟨fn + 1, an + j + 1, sn + 1, by omega, by omega, by omega, unhide H5, by go_num, by go_num, by go_num⟩, by simp [intOf]; omega⟩

set_option maxHeartbeats 1000000 in
theorem walk (a0 : ByteArray) (a1 : Int) (a2 : Int) (w0 : a0.size ≤ maxLen) (w1 : (Lit.int .i64 a1).wf = true) (w2 : (Lit.int .i64 a2).wf = true) (w : World) :
    Calls Try.prog 4 #[.string a0, .int .i64 a1, .int .i64 a2] w fun e w' => e = .returned (.bool true) ∧ Grown w w' := by
  have b1 := bounds_i64 w1
  have b2 := bounds_i64 w2
  have w0' := w0
  unfold maxLen at w0'
  by_cases hs : a0.size ≤ 1048576
  · by_cases h1 : a1 < 0
    · go_enter Try.func4, Try.ntmps4
      go_wp2_with (go_at_call 9; refine (bytes2_any _ _ _ _ hs).mono ?_; rintro x w' ⟨rfl, rfl⟩)
      go_ret
      exact ⟨rfl, Grown.refl _⟩
    · by_cases h2 : a2 < 0
      · go_enter Try.func4, Try.ntmps4
        go_wp2_with (go_at_call 9; refine (bytes2_any _ _ _ _ hs).mono ?_; rintro x w' ⟨rfl, rfl⟩)
        go_ret
        exact ⟨rfl, Grown.refl _⟩
      · by_cases h3 : a2 > a0.size
        · go_enter Try.func4, Try.ntmps4
          go_wp2_with (go_at_call 9; refine (bytes2_any _ _ _ _ hs).mono ?_; rintro x w' ⟨rfl, rfl⟩)
          go_ret
          exact ⟨rfl, Grown.refl _⟩
        · obtain ⟨i, rfl⟩ := Int.eq_ofNat_of_zero_le (a := a1) (by omega)
          obtain ⟨e, rfl⟩ := Int.eq_ofNat_of_zero_le (a := a2) (by omega)
          exact main a0 i e w hs (by omega) (by omega)
  · go_enter Try.func4, Try.ntmps4
    go_wp2_with (go_at_call 9; refine (bytes2_no _ _ _ _ hs w0).mono ?_; rintro x w' ⟨rfl, rfl⟩)
    go_ret
    exact ⟨rfl, Grown.refl _⟩

/-! ### THE ROW's STEP: WRITTEN OUT: LEAVE IT -/
set_option maxRecDepth 100000 in
theorem lifted (os : Os) (started : os.Started) (H : Type) (enc : TypeId × Value → H) :
    ReturnsInHanded {} Try.checked os 4 .any (Rows.fnNextReferenceStepsFindEveryOpeningSpec.pre6 enc Try.prog Try.f4 Rows.fnNextReferenceStepsFindEveryOpeningRow.domain false) (Rows.fnNextReferenceStepsFindEveryOpeningSpec.post enc Try.prog Try.f4 false true false false) := by
  refine returnsInHanded_of_change (C := Try.checked) own started (by kernel_rfl) Try.func4
    (ChangeSpec.witness6 (enc := enc) (C := Try.checked) false ⟨#[], #[.string ByteArray.empty, .int .i64 0, .int .i64 0], []⟩ 8 (by kernel_rfl) (by kernel_rfl) (by kernel_rfl) (by kernel_rfl)) ?_
  intro W base args ds gs before hval0 hW hcnd _
  have hval : ∀ (j : Nat) t v, Try.f4.params[j]? = some t → args[j]? = some v → Value.okWide Try.prog W .any base t v := hval0
  have hW' := hW
  obtain ⟨p, q, hA0, hV, rfl, hfz, hnd⟩ := hW
  have hA : DataW.TrodAll enc Try.prog W 0 (fun _ => true) true Try.f4.params.toList args.toList ds p := hA0
  rw [Try.params4] at hA hval
  obtain ⟨v0, vs0, d0, ds0, p0, q0, hargs, rfl, rfl, h0, r0⟩ := trodAll_cons hA
  obtain ⟨v1, vs1, d1, ds1, p1, q1, rfl, rfl, rfl, h1, r1⟩ := trodAll_cons r0
  obtain ⟨v2, vs2, d2, ds2, p2, q2, rfl, rfl, rfl, h2, r2⟩ := trodAll_cons r1
  obtain ⟨rfl, rfl, rfl⟩ := trodAll_nil r2
  obtain rfl : args = #[v0, v1, v2] := by cases args; simp_all
  obtain ⟨rfl, rfl⟩ := trodVars_none hV
  obtain ⟨a0, rfl, rfl, rfl, w0⟩ := open_string Try.underlying9 (hval 0 9 v0 rfl rfl) h0
  obtain ⟨a1, rfl, rfl, rfl, w1⟩ := open_int Try.underlying3 (hval 1 3 v1 rfl rfl) h1
  obtain ⟨a2, rfl, rfl, rfl, w2⟩ := open_int Try.underlying3 (hval 2 3 v2 rfl rfl) h2
  clear hA0 hval0
  simp only [List.append_nil] at hW'
  refine (walk a0 a1 a2 w0 w1 w2 W).mono fun e W' ⟨he, hg⟩ => ?_
  subst he
  exact ⟨_, rfl, post_of_same (pa := []) (pv := []) hW' (fun _ _ _ => (trodAll_cons_mk (shut_bool Try.underlying4 _) trodAll_mk0)) (fun sp _ => (trodAll_cons_mk (shut_string Try.underlying9 w0) (trodAll_cons_mk (shut_int Try.underlying3 w1) (trodAll_cons_mk (shut_int Try.underlying3 w2) trodAll_mk0)))) (fun _ _ => rfl) rfl
    (hg.frame _) hg.2.1 (ok_one (by kernel_rfl) rfl (okWide_bool_mk Try.underlying4 _))⟩

theorem over : Rows.fnNextReferenceStepsFindEveryOpeningRow.holds Try.pinned (OpenSpec.ofChange Rows.fnNextReferenceStepsFindEveryOpeningSpec) :=
  OpenClaim.holds_of_wide 4 Try.f4 rfl rfl rfl rfl rfl rfl rfl ⟨rfl, rfl, rfl, rfl, rfl⟩ rfl rfl rfl rfl rfl (by kernel_rfl) Try.func4 (by kernel_rfl)
    (of_decide_eq_true (by kernel_rfl)) (by unfold Func.isWrapper; first | (rw [if_pos (by decide +kernel)]; kernel_rfl) | (rw [if_neg (by decide +kernel)]; exact ⟨rfl, rfl⟩))
    (fun os started H enc _ => lifted os started H enc)

/-- ████ THE STATEMENT ████ -/
theorem proved : Rows.FnNextReferenceStepsFindEveryOpeningSaid :=
  over
#print axioms proved
end Go.Proofs.Qxb6606024a.fnNextReferenceStepsFindEveryOpening
