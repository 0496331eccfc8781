/-
  Seat b6613674a: ZZunquote and the law's own function.
-/
import Derived.Test.Qxb6613674aUnq
namespace Go.Proofs.Qxb6613674a.W
open Go.RowKit
open Go.Proofs.Qxb6613674a.Plain
set_option linter.unusedVariables false

section
variable (text delim : ByteArray) (kind closing : Int) (m db hx : Bool)

set_option maxHeartbeats 1000000 in
theorem zunq_any (p : Int) (r : ByteArray) (w : World)
    (hU : ∀ W, Calls Try.prog 28 #[.string text, .agg #[.int .u8 kind, .int .i64 p, .string delim, .int .u8 closing, .nilFunc, .bool m, .bool db, .bool hx]] W fun e w' => e = .returned (.string r) ∧ Below W.heap.size W w') :
    Calls Try.prog 21 #[.string text, .agg #[.int .u8 kind, .int .i64 p, .string delim, .int .u8 closing, .nilFunc, .bool m, .bool db, .bool hx]] w fun e w' => e = .returned (.string r) ∧ Below w.heap.size w w' := by
  go_enter Try.func21, Try.ntmps21
  go_wp2_with (go_at_call 28; refine (hU _).mono ?_; rintro e w' ⟨rfl, hb⟩)
  go_ret
  refine ⟨rfl, ((Below.refl _ w).alloc (Nat.le_refl _) _).trans (hb.mono ?_)⟩
  simp only [World.alloc, Array.size_push]; omega

theorem two_allocs {w w3 : World} {A B : Obj} (b3 : Below ((w.alloc A).alloc B).heap.size ((w.alloc A).alloc B) w3) : Below w.heap.size w w3 := by
  have e1 : (w.alloc A).heap.size = w.heap.size + 1 := Array.size_push ..
  have e2 : ((w.alloc A).alloc B).heap.size = w.heap.size + 1 + 1 := by rw [← e1]; exact Array.size_push ..
  exact (((Below.refl _ w).alloc (Nat.le_refl _) A).alloc (by omega) B).trans (b3.mono (by omega))

/-- The guards. -/
theorem law_guard (p : Int) (w : World) (wp : (Lit.int .i64 p).wf = true) (ht : text.size ≤ maxLen) (hd : delim.size ≤ maxLen) (h : ¬ (text.size ≤ 524288 ∧ delim.size ≤ 524288 ∧ 0 ≤ p ∧ p ≤ 1073741824)) :
    Calls Try.prog 9 #[.string text, .int .u8 kind, .int .i64 p, .string delim, .int .u8 closing, .bool m, .bool db, .bool hx] w fun e w' => e = .returned (.bool true) ∧ Below w.heap.size w w' := by
  have ht' := ht
  have hd' := hd
  unfold maxLen at ht' hd'
  by_cases h1 : text.size + delim.size ≤ 1048576
  · have hb := fun W => bytes_yes text delim kind p closing m db hx W h1
    by_cases h2 : text.size ≤ 524288
    · by_cases h3 : delim.size ≤ 524288
      · by_cases h4 : p < 0
        · go_enter Try.func9, Try.ntmps9
          go_wp2_with (go_at_call 18; refine (hb _).mono ?_; rintro e w ⟨rfl, rfl⟩)
          go_ret
          exact ⟨rfl, Below.refl _ _⟩
        · have h5 : (1073741824 : Int) < p := by omega
          go_enter Try.func9, Try.ntmps9
          go_wp2_with (go_at_call 18; refine (hb _).mono ?_; rintro e w ⟨rfl, rfl⟩)
          go_ret
          exact ⟨rfl, Below.refl _ _⟩
      · go_enter Try.func9, Try.ntmps9
        go_wp2_with (go_at_call 18; refine (hb _).mono ?_; rintro e w ⟨rfl, rfl⟩)
        go_ret
        exact ⟨rfl, Below.refl _ _⟩
    · go_enter Try.func9, Try.ntmps9
      go_wp2_with (go_at_call 18; refine (hb _).mono ?_; rintro e w ⟨rfl, rfl⟩)
      go_ret
      exact ⟨rfl, Below.refl _ _⟩
  · have hb := fun W => bytes_no text delim kind p closing m db hx W h1 ht hd
    go_enter Try.func9, Try.ntmps9
    go_wp2_with (go_at_call 18; refine (hb _).mono ?_; rintro e w ⟨rfl, rfl⟩)
    go_ret
    exact ⟨rfl, Below.refl _ _⟩

set_option maxHeartbeats 2000000 in
/-- No delimiter. -/
theorem law_empty (p : Nat) (w : World) (hT : text.size ≤ 524288) (hL : delim.size = 0) (hp : (p : Int) ≤ 1073741824) :
    Calls Try.prog 9 #[.string text, .int .u8 kind, .int .i64 p, .string delim, .int .u8 closing, .bool m, .bool db, .bool hx] w fun e w' => e = .returned (.bool true) ∧ Below w.heap.size w w' := by
  obtain rfl : delim = ⟨#[]⟩ := by
    cases delim with
    | mk d => cases d with
      | mk l => cases l with
        | nil => rfl
        | cons a b => cases hL
  have hTI : (text.size : Int) ≤ 524288 := by omega
  have hb := fun W => bytes_yes text ⟨#[]⟩ kind p closing m db hx W (by rw [hL]; omega)
  have hz := fun W => zunq_any text ⟨#[]⟩ kind closing m db hx p ⟨#[]⟩ W (fun W => unq_empty text ⟨#[]⟩ kind closing p m db hx W hp hL)
  have hq := fun W => newQuoting_any kind p closing ⟨#[]⟩ m db hx W
  go_enter Try.func9, Try.ntmps9
  go_wp2_with (first | (go_at_call 18; refine (hb _).mono ?_; rintro e w ⟨rfl, rfl⟩) | (go_at_call 20; refine (hq _).mono ?_; rintro e w2 ⟨rfl, rfl⟩) | (go_at_call 21; refine (hz _).mono ?_; rintro e w3 ⟨rfl, b3⟩))
  go_ret
  exact ⟨rfl, two_allocs b3⟩

set_option maxHeartbeats 2000000 in
/-- Too short. -/
theorem law_short (p : Nat) (w : World) (hT : text.size ≤ 524288) (hL : delim.size ≤ 524288) (h0 : 0 < delim.size) (hp : (p : Int) ≤ 1073741824) (hs : (text.size : Int) < (p : Int) + (delim.size : Int) + (delim.size : Int)) :
    Calls Try.prog 9 #[.string text, .int .u8 kind, .int .i64 p, .string delim, .int .u8 closing, .bool m, .bool db, .bool hx] w fun e w' => e = .returned (.bool true) ∧ Below w.heap.size w w' := by
  have hTI : (text.size : Int) ≤ 524288 := by omega
  have hLI : (delim.size : Int) ≤ 524288 := by omega
  have hne := ne_empty h0
  have hb := fun W => bytes_yes text delim kind p closing m db hx W (by omega)
  have hz := fun W => zunq_any text delim kind closing m db hx p ⟨#[]⟩ W (fun W => unq_short text delim kind closing p m db hx W hp hTI hLI h0 hs)
  have hq := fun W => newQuoting_any kind p closing delim m db hx W
  by_cases hpt : (text.size : Int) < (p : Int)
  · go_enter Try.func9, Try.ntmps9
    go_wp2_with (first | (go_at_call 18; refine (hb _).mono ?_; rintro e w ⟨rfl, rfl⟩) | (go_at_call 20; refine (hq _).mono ?_; rintro e w2 ⟨rfl, rfl⟩) | (go_at_call 21; refine (hz _).mono ?_; rintro e w3 ⟨rfl, b3⟩))
    go_ret
    exact ⟨rfl, two_allocs b3⟩
  · have hs2 : (text.size : Int) - (p : Int) < 2 * (delim.size : Int) := by omega
    go_enter Try.func9, Try.ntmps9
    go_wp2_with (first | (go_at_call 18; refine (hb _).mono ?_; rintro e w ⟨rfl, rfl⟩) | (go_at_call 20; refine (hq _).mono ?_; rintro e w2 ⟨rfl, rfl⟩) | (go_at_call 21; refine (hz _).mono ?_; rintro e w3 ⟨rfl, b3⟩))
    go_ret
    exact ⟨rfl, two_allocs b3⟩

set_option maxHeartbeats 2000000 in
/-- Delimiters are not doubled. -/
theorem law_plain (p : Nat) (w : World) (hT : text.size ≤ 524288) (hL : delim.size ≤ 524288) (h0 : 0 < delim.size) (hp : (p : Int) ≤ 1073741824) (hs : (p : Int) + (delim.size : Int) + (delim.size : Int) ≤ (text.size : Int)) :
    Calls Try.prog 9 #[.string text, .int .u8 kind, .int .i64 p, .string delim, .int .u8 closing, .bool m, .bool false, .bool hx] w fun e w' => e = .returned (.bool true) ∧ Below w.heap.size w w' := by
  have hTI : (text.size : Int) ≤ 524288 := by omega
  have hLI : (delim.size : Int) ≤ 524288 := by omega
  have hne := ne_empty h0
  have hb := fun W => bytes_yes text delim kind p closing m false hx W (by omega)
  have hz := fun W => zunq_any text delim kind closing m false hx p _ W (fun W => unq_plain text delim kind closing p m hx W hp hTI hLI h0 hs)
  have hq := fun W => newQuoting_any kind p closing delim m false hx W
  have hs1 : decide (text.size < p) = false := by rw [decide_eq_false_iff_not]; omega
  have hs2 : decide ((text.size : Int) - (p : Int) < 2 * (delim.size : Int)) = false := by rw [decide_eq_false_iff_not]; omega
  go_enter Try.func9, Try.ntmps9
  go_wp2_with (first | (go_at_call 18; refine (hb _).mono ?_; rintro e w ⟨rfl, rfl⟩) | (go_at_call 20; refine (hq _).mono ?_; rintro e w2 ⟨rfl, rfl⟩) | (go_at_call 21; refine (hz _).mono ?_; rintro e w3 ⟨rfl, b3⟩))
  go_ret
  exact ⟨rfl, two_allocs b3⟩

/-- What unquote gives where the delimiters stand in pairs. -/
theorem unq_pairs (p : Nat) (W : World) (hp : (p : Int) ≤ 1073741824) (hT : (text.size : Int) ≤ 524288) (hL : (delim.size : Int) ≤ 524288) (h0 : 0 < delim.size) (hs : (p : Int) + (delim.size : Int) + (delim.size : Int) ≤ (text.size : Int))
    (o : List UInt8) (hP : Pairs delim[0] (text.extract (p + delim.size) (text.size - delim.size)).data.toList o) :
    Calls Try.prog 28 #[.string text, .agg #[.int .u8 kind, .int .i64 p, .string delim, .int .u8 closing, .nilFunc, .bool m, .bool true, .bool hx]] W fun e w' => e = .returned (.string ⟨o.toArray⟩) ∧ Below W.heap.size W w' := by
  by_cases h : Lib.indexByte (text.extract (p + delim.size) (text.size - delim.size)).data.toList delim[0] = -1
  · have e : o = (text.extract (p + delim.size) (text.size - delim.size)).data.toList := hP.same (Lib.indexByte_none h)
    have e2 : (⟨o.toArray⟩ : ByteArray) = text.extract (p + delim.size) (text.size - delim.size) := by rw [e]
    rw [e2]
    exact unq_none text delim kind closing p m hx W hp hT hL h0 hs h
  · have hge := Lib.indexByte_ge (text.extract (p + delim.size) (text.size - delim.size)).data.toList delim[0]
    exact unq_loop text delim kind closing p m hx W hp hT hL h0 hs (Lib.indexByte (text.extract (p + delim.size) (text.size - delim.size)).data.toList delim[0]).toNat (by omega) o hP

set_option maxHeartbeats 2000000 in
/-- Delimiters are doubled. -/
theorem law_doubled (p : Nat) (w : World) (hT : text.size ≤ 524288) (hL : delim.size ≤ 524288) (h0 : 0 < delim.size) (hp : (p : Int) ≤ 1073741824) (hs : (p : Int) + (delim.size : Int) + (delim.size : Int) ≤ (text.size : Int)) :
    Calls Try.prog 9 #[.string text, .int .u8 kind, .int .i64 p, .string delim, .int .u8 closing, .bool m, .bool true, .bool hx] w fun e w' => e = .returned (.bool true) ∧ Below w.heap.size w w' := by
  have hTI : (text.size : Int) ≤ 524288 := by omega
  have hLI : (delim.size : Int) ≤ 524288 := by omega
  have hne := ne_empty h0
  have hb := fun W => bytes_yes text delim kind p closing m true hx W (by omega)
  have hq := fun W => newQuoting_any kind p closing delim m true hx W
  have hs1 : decide (text.size < p) = false := by rw [decide_eq_false_iff_not]; omega
  have hs2 : decide ((text.size : Int) - (p : Int) < 2 * (delim.size : Int)) = false := by rw [decide_eq_false_iff_not]; omega
  have hbs : (text.extract (p + delim.size) (text.size - delim.size)).size ≤ 1048576 := by rw [ByteArray.size_extract]; omega
  have he := fun W => evens_any (text.extract (p + delim.size) (text.size - delim.size)) delim[0] W hbs
  go_enter Try.func9, Try.ntmps9
  go_wp2_with (first | (go_at_call 18; refine (hb _).mono ?_; rintro e w ⟨rfl, rfl⟩) | (go_at_call 19; refine (he _).mono ?_))
  rintro e w1 ⟨rfl, rfl | ⟨rfl, o, hP⟩⟩
  · go_wp2
    go_ret
    exact ⟨rfl, Below.refl _ _⟩
  · have hz := fun W => zunq_any text delim kind closing m true hx p _ W (fun W => unq_pairs text delim kind closing m hx p W hp hTI hLI h0 hs o hP)
    have hh := fun W => halve_any (text.extract (p + delim.size) (text.size - delim.size)) delim[0] o W hbs hP
    clear he hP
    go_wp2_with (first | (go_at_call 20; refine (hq _).mono ?_; rintro e w2 ⟨rfl, rfl⟩) | (go_at_call 21; refine (hz _).mono ?_; rintro e w3 ⟨rfl, b3⟩) | (go_at_call 22; refine (hh _).mono ?_; rintro e w4 ⟨rfl, b4⟩))
    go_ret
    have b5 := two_allocs b3
    exact ⟨rfl, b5.trans (b4.mono b5.size)⟩

theorem law_any (p : Int) (w : World) (wp : (Lit.int .i64 p).wf = true) (ht : text.size ≤ maxLen) (hd : delim.size ≤ maxLen) :
    Calls Try.prog 9 #[.string text, .int .u8 kind, .int .i64 p, .string delim, .int .u8 closing, .bool m, .bool db, .bool hx] w fun e w' => e = .returned (.bool true) ∧ Below w.heap.size w w' := by
  by_cases h : text.size ≤ 524288 ∧ delim.size ≤ 524288 ∧ 0 ≤ p ∧ p ≤ 1073741824
  · obtain ⟨h1, h2, h3, h4⟩ := h
    obtain ⟨q, rfl⟩ := Int.eq_ofNat_of_zero_le h3
    by_cases h5 : delim.size = 0
    · exact law_empty text delim kind closing m db hx q w h1 h5 h4
    · by_cases h6 : (text.size : Int) < (q : Int) + (delim.size : Int) + (delim.size : Int)
      · exact law_short text delim kind closing m db hx q w h1 h2 (by omega) h4 h6
      · cases db
        · exact law_plain text delim kind closing m hx q w h1 h2 (by omega) h4 (by omega)
        · exact law_doubled text delim kind closing m hx q w h1 h2 (by omega) h4 (by omega)
  · exact law_guard text delim kind closing m db hx p w wp ht hd h
end
end Go.Proofs.Qxb6613674a.W
