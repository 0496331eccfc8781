/-
  The proof of 'Rows.FnNextReferenceIsFirstOpeningInWindowSaid', out of the guide's shell: its walk filled.
-/
import Derived.Test.Qxb6606024aRows
import Derived.WalkKit
import Derived.ProofKit
import Derived.OpenShut
import Derived.ShutString
import Derived.Test.Qxb6606024aWalks
namespace Go.Proofs.Qxb6606024a.fnNextReferenceIsFirstOpeningInWindow
open Go.ChangeShapes Go.WideShapes Go.ChangeAt Go.RowKit
open Go.Proofs.Qxb6606024a.W Go.Proofs.Qxb6606024a.Plain
open Go.ChangeMaps (open_string shut_string)
set_option linter.unusedVariables false      -- a walk need not use every 'w<i>' (that an integer argument fits its kind)

theorem own : ownKnob Try.prog.godebug = none := by kernel_rfl

/-! ### STEP 1: THE WALK: the Go text returns true. 'Grown w w'': the world has at most new blocks (Derived/RowKit3.lean). Part the cases AHEAD of 'go_enter' where a test parts the walk; take each callee by a contract of your own. -/
theorem at_hit (l : List UInt8) (i k e : Nat) (hk : k + 1 < e) (h : firstL l k (e-1-k) = firstL l i (e-1-i)) (ho : opensL l k = true) : firstL l i (e-1-i) = k := by
  rw [← h]
  obtain ⟨m, hm⟩ : ∃ m, e - 1 - k = m + 1 := ⟨e-1-k-1, by omega⟩
  rw [hm, firstL, ho]; simp
theorem at_miss (l : List UInt8) (i k e : Nat) (hk : k + 1 < e) (h : firstL l k (e-1-k) = firstL l i (e-1-i)) (ho : opensL l k = false) : firstL l (k+1) (e-1-(k+1)) = firstL l i (e-1-i) := by
  rw [← h]
  obtain ⟨m, hm⟩ : ∃ m, e - 1 - k = m + 1 := ⟨e-1-k-1, by omega⟩
  rw [hm, firstL, ho, show e-1-(k+1) = m from by omega]; simp

set_option maxHeartbeats 1000000 in
theorem main (s : ByteArray) (i e : Nat) (w : World) (hs : s.size ≤ 1048576) (he : e ≤ s.size) (hi : i < 9223372036854775808) :
    Calls Try.prog 3 #[.string s, .int .i64 i, .int .i64 e] w fun x w' => x = .returned (.bool true) ∧ Grown w w' := by
  generalize hf : firstL s.data.toList i (e-1-i) = f
  have Hf := hide hf
  have hz := zznext_any s w.heap.size i e
  rw [hf] at hz
  clear hf
  go_enter Try.func3, Try.ntmps3
  go_wp2_with (first | (go_at_call 5; refine (bytes1_any _ _ _ _ hs).mono ?_; rintro x w' ⟨rfl, rfl⟩) | (go_at_call 7; refine (new_any _ _).mono ?_; rintro x w' ⟨rfl, rfl⟩) | (go_at_call 6; refine (hz _ he hs hi (by go_simp)).mono ?_; rintro x w' ⟨rfl, rfl⟩))
  go_loop [8, 9] (fun a k => ∃ (kn : Nat), i ≤ kn ∧ (kn ≤ e - 1 ∨ kn = i) ∧ firstL s.data.toList kn (e-1-kn) = firstL s.data.toList i (e-1-i) ∧ k = .int .i64 kn ∧ a = .int .i64 (-1)) (fun _ k => e - (intOf k).toNat)
  case atStart => exact ⟨i, Nat.le_refl _, Or.inr rfl, rfl, rfl, rfl⟩
  case round =>
    obtain ⟨kn, h1, h2, h3, rfl, rfl⟩ := hrel
    have H3 := hide h3
    clear h3
    by_cases hlt : kn + 1 < e
    · cases hb : opensL s.data.toList kn with
      | true =>
        have hfk := (unhide Hf).symm.trans (at_hit s.data.toList i kn e hlt (unhide H3) hb)
        have hop := opens_any s kn
        rw [hb] at hop
        clear hb
        subst hfk
        go_wp2_with (go_at_call 8; refine (hop _ (by omega) hs).mono ?_; rintro e w' ⟨rfl, rfl⟩)
        go_ret
        exact ⟨rfl, by repeat (first | exact Grown.refl _ | apply Grown.drew | apply Grown.alloc)⟩
      | false =>
        have h4 := at_miss s.data.toList i kn e hlt (unhide H3) hb
        have H4 := hide h4
        have hop := opens_any s kn
        rw [hb] at hop
        clear hb h4
        go_wp2_with (go_at_call 8; refine (hop _ (by omega) hs).mono ?_; rintro e w' ⟨rfl, rfl⟩)
        exact ⟨⟨kn + 1, by omega, by omega, unhide H4, by go_num, rfl⟩, by simp [intOf]; omega⟩
    · have hfk : f = -1 := by
        rw [← unhide Hf, ← unhide H3, show e - 1 - kn = 0 from by omega]; rfl
      subst hfk
      go_wp2
      go_ret
      exact ⟨rfl, by repeat (first | exact Grown.refl _ | apply Grown.drew | apply Grown.alloc)⟩

set_option maxHeartbeats 1000000 in
theorem walk (a0 : ByteArray) (a1 : Int) (a2 : Int) (w0 : a0.size ≤ maxLen) (w1 : (Lit.int .i64 a1).wf = true) (w2 : (Lit.int .i64 a2).wf = true) (w : World) :
    Calls Try.prog 3 #[.string a0, .int .i64 a1, .int .i64 a2] w fun e w' => e = .returned (.bool true) ∧ Grown w w' := by
  have b1 := bounds_i64 w1
  have b2 := bounds_i64 w2
  have w0' := w0
  unfold maxLen at w0'
  by_cases hs : a0.size ≤ 1048576
  · by_cases h1 : a1 < 0
    · go_enter Try.func3, Try.ntmps3
      go_wp2_with (go_at_call 5; refine (bytes1_any _ _ _ _ hs).mono ?_; rintro x w' ⟨rfl, rfl⟩)
      go_ret
      exact ⟨rfl, Grown.refl _⟩
    · by_cases h2 : a2 < 0
      · go_enter Try.func3, Try.ntmps3
        go_wp2_with (go_at_call 5; refine (bytes1_any _ _ _ _ hs).mono ?_; rintro x w' ⟨rfl, rfl⟩)
        go_ret
        exact ⟨rfl, Grown.refl _⟩
      · by_cases h3 : a2 > a0.size
        · go_enter Try.func3, Try.ntmps3
          go_wp2_with (go_at_call 5; refine (bytes1_any _ _ _ _ hs).mono ?_; rintro x w' ⟨rfl, rfl⟩)
          go_ret
          exact ⟨rfl, Grown.refl _⟩
        · obtain ⟨i, rfl⟩ := Int.eq_ofNat_of_zero_le (a := a1) (by omega)
          obtain ⟨e, rfl⟩ := Int.eq_ofNat_of_zero_le (a := a2) (by omega)
          exact main a0 i e w hs (by omega) (by omega)
  · go_enter Try.func3, Try.ntmps3
    go_wp2_with (go_at_call 5; refine (bytes1_no _ _ _ _ hs w0).mono ?_; rintro x w' ⟨rfl, rfl⟩)
    go_ret
    exact ⟨rfl, Grown.refl _⟩

/-! ### THE ROW's STEP: WRITTEN OUT: LEAVE IT -/
set_option maxRecDepth 100000 in
theorem lifted (os : Os) (started : os.Started) (H : Type) (enc : TypeId × Value → H) :
    ReturnsInHanded {} Try.checked os 3 .any (Rows.fnNextReferenceIsFirstOpeningInWindowSpec.pre6 enc Try.prog Try.f3 Rows.fnNextReferenceIsFirstOpeningInWindowRow.domain false) (Rows.fnNextReferenceIsFirstOpeningInWindowSpec.post enc Try.prog Try.f3 false true false false) := by
  refine returnsInHanded_of_change (C := Try.checked) own started (by kernel_rfl) Try.func3
    (ChangeSpec.witness6 (enc := enc) (C := Try.checked) false ⟨#[], #[.string ByteArray.empty, .int .i64 0, .int .i64 0], []⟩ 8 (by kernel_rfl) (by kernel_rfl) (by kernel_rfl) (by kernel_rfl)) ?_
  intro W base args ds gs before hval0 hW hcnd _
  have hval : ∀ (j : Nat) t v, Try.f3.params[j]? = some t → args[j]? = some v → Value.okWide Try.prog W .any base t v := hval0
  have hW' := hW
  obtain ⟨p, q, hA0, hV, rfl, hfz, hnd⟩ := hW
  have hA : DataW.TrodAll enc Try.prog W 0 (fun _ => true) true Try.f3.params.toList args.toList ds p := hA0
  rw [Try.params3] at hA hval
  obtain ⟨v0, vs0, d0, ds0, p0, q0, hargs, rfl, rfl, h0, r0⟩ := trodAll_cons hA
  obtain ⟨v1, vs1, d1, ds1, p1, q1, rfl, rfl, rfl, h1, r1⟩ := trodAll_cons r0
  obtain ⟨v2, vs2, d2, ds2, p2, q2, rfl, rfl, rfl, h2, r2⟩ := trodAll_cons r1
  obtain ⟨rfl, rfl, rfl⟩ := trodAll_nil r2
  obtain rfl : args = #[v0, v1, v2] := by cases args; simp_all
  obtain ⟨rfl, rfl⟩ := trodVars_none hV
  obtain ⟨a0, rfl, rfl, rfl, w0⟩ := open_string Try.underlying9 (hval 0 9 v0 rfl rfl) h0
  obtain ⟨a1, rfl, rfl, rfl, w1⟩ := open_int Try.underlying3 (hval 1 3 v1 rfl rfl) h1
  obtain ⟨a2, rfl, rfl, rfl, w2⟩ := open_int Try.underlying3 (hval 2 3 v2 rfl rfl) h2
  clear hA0 hval0
  simp only [List.append_nil] at hW'
  refine (walk a0 a1 a2 w0 w1 w2 W).mono fun e W' ⟨he, hg⟩ => ?_
  subst he
  exact ⟨_, rfl, post_of_same (pa := []) (pv := []) hW' (fun _ _ _ => (trodAll_cons_mk (shut_bool Try.underlying4 _) trodAll_mk0)) (fun sp _ => (trodAll_cons_mk (shut_string Try.underlying9 w0) (trodAll_cons_mk (shut_int Try.underlying3 w1) (trodAll_cons_mk (shut_int Try.underlying3 w2) trodAll_mk0)))) (fun _ _ => rfl) rfl
    (hg.frame _) hg.2.1 (ok_one (by kernel_rfl) rfl (okWide_bool_mk Try.underlying4 _))⟩

theorem over : Rows.fnNextReferenceIsFirstOpeningInWindowRow.holds Try.pinned (OpenSpec.ofChange Rows.fnNextReferenceIsFirstOpeningInWindowSpec) :=
  OpenClaim.holds_of_wide 3 Try.f3 rfl rfl rfl rfl rfl rfl rfl ⟨rfl, rfl, rfl, rfl, rfl⟩ rfl rfl rfl rfl rfl (by kernel_rfl) Try.func3 (by kernel_rfl)
    (of_decide_eq_true (by kernel_rfl)) (by unfold Func.isWrapper; first | (rw [if_pos (by decide +kernel)]; kernel_rfl) | (rw [if_neg (by decide +kernel)]; exact ⟨rfl, rfl⟩))
    (fun os started H enc _ => lifted os started H enc)

/-- ████ THE STATEMENT ████ -/
theorem proved : Rows.FnNextReferenceIsFirstOpeningInWindowSaid :=
  over
#print axioms proved
end Go.Proofs.Qxb6606024a.fnNextReferenceIsFirstOpeningInWindow
