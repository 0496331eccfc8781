/-
  The walks of seat b6606024a: each Go function on the road computes a plain function of Qxb6606024aPlain.
-/
import Derived.Test.Qxb6606024aRows
import Derived.Test.Qxb6606024aPlain
import Derived.WalkKit
import Derived.WalkSpells
namespace Go.Proofs.Qxb6606024a.W
open Go.RowKit Go.Lib
open Go.Proofs.Qxb6606024a.Plain
set_option linter.unusedVariables false

theorem get_iff (s : ByteArray) (k : Nat) (hk : k < s.size) (c : UInt8) : s.data.toList[k]? = some c ↔ (s[k].toNat : Int) = (c.toNat : Int) := by
  rw [data_getElem? s k hk]
  constructor
  · intro h; injection h with h; rw [h]
  · intro h; rw [byte_eq_of_toNat h]

theorem opensL_yes1 (s : ByteArray) (k : Nat) (hk : k + 1 < s.size) (h1 : (s[k].toNat : Int) = 36) (h2 : (s[k+1].toNat : Int) = 123) : true = opensL s.data.toList k := by
  have a := (get_iff s k (by omega) 36).2 h1
  have b := (get_iff s (k+1) hk 123).2 h2
  simp [opensL, a, b]
theorem opensL_yes2 (s : ByteArray) (k : Nat) (hk : k + 1 < s.size) (h1 : (s[k].toNat : Int) = 36) : ((s[k+1].toNat : Int) == 123 || (s[k+1].toNat : Int) == 91) = opensL s.data.toList k := by
  have a := (get_iff s k (by omega) 36).2 h1
  have b := get_iff s (k+1) hk 123
  have c := get_iff s (k+1) hk 91
  rw [opensL_at a]
  generalize s.data.toList = l at *
  rw [Bool.eq_iff_iff]
  simp only [Bool.or_eq_true, beq_iff_eq, b, c]
  rfl
theorem opensL_no (s : ByteArray) (k : Nat) (hk : k + 1 < s.size) (h1 : ¬ (s[k].toNat : Int) = 36) : false = opensL s.data.toList k :=
  (opensL_not fun e => h1 ((get_iff s k (by omega) 36).1 e)).symm

theorem ret_bool {a b : Bool} (h : a = b) : Ending.returned (.bool a) = .returned (.bool b) := by rw [h]
theorem ret_int {k : IntKind} {a b : Int} (h : a = b) : Ending.returned (.int k a) = .returned (.int k b) := by rw [h]

set_option maxHeartbeats 400000 in
theorem opens_any (s : ByteArray) (k : Nat) (w : World) (hk : k + 1 < s.size) (hs : s.size ≤ 1048576) :
    Calls Try.prog 8 #[.string s, .int .i64 k] w fun e w' => e = .returned (.bool (opensL s.data.toList k)) ∧ w' = w := by
  go_enter Try.func8, Try.ntmps8
  go_wp2
  · go_ret; exact ⟨ret_bool (opensL_yes1 s k hk ‹_› ‹_›), rfl⟩
  · go_ret; exact ⟨ret_bool (opensL_yes2 s k hk ‹_›), rfl⟩
  · go_ret; exact ⟨ret_bool (opensL_no s k hk ‹_›), rfl⟩

set_option maxHeartbeats 400000 in
theorem bytes1_any (s : ByteArray) (i e : Int) (w : World) (hs : s.size ≤ 1048576) :
    Calls Try.prog 5 #[.string s, .int .i64 i, .int .i64 e] w fun e w' => e = .returned (.bool true) ∧ w' = w := by
  go_enter Try.func5, Try.ntmps5
  go_wp2
  go_ret; exact ⟨rfl, rfl⟩
set_option maxHeartbeats 400000 in
theorem bytes2_any (s : ByteArray) (i e : Int) (w : World) (hs : s.size ≤ 1048576) :
    Calls Try.prog 9 #[.string s, .int .i64 i, .int .i64 e] w fun e w' => e = .returned (.bool true) ∧ w' = w := by
  go_enter Try.func9, Try.ntmps9
  go_wp2
  go_ret; exact ⟨rfl, rfl⟩
set_option maxHeartbeats 400000 in
theorem bytes1_no (s : ByteArray) (i e : Int) (w : World) (hs : ¬ s.size ≤ 1048576) (hm : s.size ≤ maxLen) :
    Calls Try.prog 5 #[.string s, .int .i64 i, .int .i64 e] w fun e w' => e = .returned (.bool false) ∧ w' = w := by
  unfold maxLen at hm
  go_enter Try.func5, Try.ntmps5
  go_wp2
  go_ret; exact ⟨rfl, rfl⟩
set_option maxHeartbeats 400000 in
theorem bytes2_no (s : ByteArray) (i e : Int) (w : World) (hs : ¬ s.size ≤ 1048576) (hm : s.size ≤ maxLen) :
    Calls Try.prog 9 #[.string s, .int .i64 i, .int .i64 e] w fun e w' => e = .returned (.bool false) ∧ w' = w := by
  unfold maxLen at hm
  go_enter Try.func9, Try.ntmps9
  go_wp2
  go_ret; exact ⟨rfl, rfl⟩

/-- countOpenings: the loop. -/
theorem hide {p : Prop} (h : p) : Hid p := h
theorem unhide {p : Prop} (h : Hid p) : p := h
theorem cnt_step (l : List UInt8) (i k n : Nat) (hkn : k < n) (c : Nat) (hc : c + cntL l k (n-k) = cntL l i (n-i)) :
    (c + if opensL l k then 1 else 0) + cntL l (k+1) (n-(k+1)) = cntL l i (n-i) := by
  obtain ⟨m, hm⟩ : ∃ m, n - k = m + 1 := ⟨n-k-1, by omega⟩
  rw [hm, cntL] at hc
  rw [show n-(k+1) = m from by omega]
  omega

set_option maxHeartbeats 800000 in
theorem count_any (s : ByteArray) (i e : Nat) (w : World) (he : e ≤ s.size) (hs : s.size ≤ 1048576) (hi : i < 9223372036854775808) :
    Calls Try.prog 10 #[.string s, .int .i64 i, .int .i64 e] w fun x w' => x = .returned (.int .i64 (cntL s.data.toList i (e-1-i))) ∧ w' = w := by
  go_enter Try.func10, Try.ntmps10
  go_wp2
  go_loop [7, 8] (fun c k => ∃ (cn kn : Nat), i ≤ kn ∧ (kn ≤ e - 1 ∨ kn = i) ∧ cn ≤ kn ∧ cn + cntL s.data.toList kn (e-1-kn) = cntL s.data.toList i (e-1-i) ∧ c = .int .i64 cn ∧ k = .int .i64 kn) (fun _ k => e - (intOf k).toNat)
  case atStart => exact ⟨0, i, Nat.le_refl _, Or.inr rfl, by omega, by omega, rfl, rfl⟩
  case round =>
    obtain ⟨cn, kn, h1, h2, h3, h4, rfl, rfl⟩ := hrel
    by_cases hlt : kn + 1 < e
    · have H4 := hide h4
      clear h4
      have hst := cnt_step s.data.toList i kn (e-1) (by omega) cn (unhide H4)
      have Hst := hide hst
      clear hst
      generalize hb : opensL s.data.toList kn = b at *
      have Hb := hide hb
      clear hb
      have hop := opens_any s kn
      rw [unhide Hb] at hop
      go_wp2_with (go_at_call 8; refine (hop _ (by omega) hs).mono ?_; rintro e w' ⟨rfl, rfl⟩)
      · rename_i hbt
        subst hbt
        exact ⟨⟨cn + 1, kn + 1, by omega, by omega, by omega, by have := unhide Hst; simpa using this, by go_num, by go_num⟩, by simp [intOf]; omega⟩
      · rename_i hbt
        subst hbt
        exact ⟨⟨cn, kn + 1, by omega, by omega, by omega, by have := unhide Hst; simpa using this, by go_num, by go_num⟩, by simp [intOf]; omega⟩
    · go_wp2
      go_ret
      refine ⟨ret_int ?_, rfl⟩
      rw [show e - 1 - kn = 0 from by omega] at h4
      rw [← h4]; simp [cntL]

set_option maxHeartbeats 400000 in
theorem new_any (s : ByteArray) (w : World) :
    Calls Try.prog 7 #[.string s] w fun x w' => x = .returned (.pointer (some ⟨w.heap.size, 0, none⟩)) ∧ w' = w.alloc (.cells #[.pointer none, .string s, .slice none 0 0] 32) := by
  go_enter Try.func7, Try.ntmps7
  go_wp2
  go_ret
  exact ⟨rfl, rfl⟩

set_option maxHeartbeats 400000 in
theorem lite_any (s : ByteArray) (w : World) :
    Calls Try.prog 13 #[.string s, .int .u8 36] w fun x w' => x = .returned (.int .i64 (indexByte s.data.toList 36)) ∧ w' = w := by
  go_enter Try.func13, Try.ntmps13
  go_wp2
  rw [run_callFunc_extern Try.func14 (by kernel_rfl) (by kernel_rfl) (by kernel_rfl) (e := Extern.BytealgIndexByte.indexByte) (by kernel_rfl), run_indexByteString]
  simp only [Result.andThen]
  rw [Oper.upon_value]
  go_wp2
  go_ret
  exact ⟨rfl, rfl⟩

set_option maxHeartbeats 400000 in
theorem index_any (s : ByteArray) (w : World) :
    Calls Try.prog 12 #[.string s, .int .u8 36] w fun x w' => x = .returned (.int .i64 (indexByte s.data.toList 36)) ∧ w' = w := by
  go_enter Try.func12, Try.ntmps12
  go_wp2_with (go_at_call 13; refine (lite_any _ _).mono ?_; rintro e w' ⟨rfl, rfl⟩)
  go_ret
  exact ⟨rfl, rfl⟩

theorem or_of {a b c : Int} (h : (a == b) = true ∨ (a == c) = true) : a = b ∨ a = c := by simpa using h
theorem nor_of {a b c : Int} (h : (a == b) = false ∧ (a == c) = false) : ¬ a = b ∧ ¬ a = c := by simpa using h

theorem hit (s : ByteArray) (i e k j : Nat) (h3 : firstL s.data.toList k (e-1-k) = firstL s.data.toList i (e-1-i)) (hj : indexByte (s.extract k (e-1)).data.toList 36 = j) (hlt : k + j < e - 1) (hs : k + j + 1 < s.size)
    (h : (s[k+j+1].toNat : Int) = 123 ∨ (s[k+j+1].toNat : Int) = 91) : (k : Int) + j = firstL s.data.toList i (e-1-i) := by
  rw [← h3, first_some s k e j hlt hj, if_pos]
  · omega
  · rcases h with h | h
    · exact Or.inl ((get_iff s _ hs 123).2 h)
    · exact Or.inr ((get_iff s _ hs 91).2 h)
theorem miss (s : ByteArray) (i e k j : Nat) (h3 : firstL s.data.toList k (e-1-k) = firstL s.data.toList i (e-1-i)) (hj : indexByte (s.extract k (e-1)).data.toList 36 = j) (hlt : k + j < e - 1) (hs : k + j + 1 < s.size)
    (h : ¬ (s[k+j+1].toNat : Int) = 123) (h' : ¬ (s[k+j+1].toNat : Int) = 91) : firstL s.data.toList (k+j+1) (e-1-(k+j+1)) = firstL s.data.toList i (e-1-i) := by
  rw [← h3, first_some s k e j hlt hj, if_neg]
  rintro (a | a)
  · exact h ((get_iff s _ hs 123).1 a)
  · exact h' ((get_iff s _ hs 91).1 a)

set_option maxHeartbeats 800000 in
theorem next_any (s : ByteArray) (b i e : Nat) (w : World) (he : e ≤ s.size) (hs : s.size ≤ 1048576) (hi : i < 9223372036854775808) (hc : w.cell? ⟨b, 1, none⟩ = some (.string s)) :
    Calls Try.prog 11 #[.pointer (some ⟨b, 0, none⟩), .int .i64 i, .int .i64 e] w fun x w' => x = .returned (.int .i64 (firstL s.data.toList i (e-1-i))) ∧ w' = w := by
  go_enter Try.func11, Try.ntmps11
  go_wp2
  go_loop [1] (fun k => ∃ (kn : Nat), i ≤ kn ∧ (kn ≤ e - 1 ∨ kn = i) ∧ firstL s.data.toList kn (e-1-kn) = firstL s.data.toList i (e-1-i) ∧ k = .int .i64 kn) (fun k => e - (intOf k).toNat)
  case atStart => exact ⟨i, Nat.le_refl _, Or.inr rfl, rfl, rfl⟩
  case round =>
    obtain ⟨kn, h1, h2, h3, rfl⟩ := hrel
    by_cases hlt : kn + 1 < e
    · have H3 := hide h3
      clear h3
      have e1 : ((e : Int) - 1).toNat = e - 1 := by omega
      rcases indexByte_piece s kn (e-1) 36 with hn | ⟨j, hj, hjlt⟩
      · have Hn := hide hn
        have hx := index_any (s.extract kn (e-1))
        rw [hn] at hx
        clear hn
        go_wp2_with (go_at_call 12; refine (hx _).mono ?_; rintro x w' ⟨rfl, rfl⟩)
        go_ret
        refine ⟨ret_int ?_, rfl⟩
        rw [← unhide H3, first_none s kn e (unhide Hn)]
      · have Hj := hide hj
        have hx := index_any (s.extract kn (e-1))
        rw [hj] at hx
        clear hj
        go_wp2_with (go_at_call 12; refine (hx _).mono ?_; rintro x w' ⟨rfl, rfl⟩)
        · go_ret
          exact ⟨ret_int (hit s i e kn j (unhide H3) (unhide Hj) hjlt (by omega) (Or.inl ‹_›)), rfl⟩
        · go_ret
          exact ⟨ret_int (hit s i e kn j (unhide H3) (unhide Hj) hjlt (by omega) (or_of ‹_›)), rfl⟩
        · exact ⟨⟨kn + j + 1, by omega, by omega, miss s i e kn j (unhide H3) (unhide Hj) hjlt (by omega) (nor_of ‹_›).1 (nor_of ‹_›).2, by go_num⟩, by simp [intOf]; omega⟩
    · go_wp2
      go_ret
      refine ⟨ret_int ?_, rfl⟩
      rw [show e - 1 - kn = 0 from by omega] at h3
      rw [← h3]; simp [firstL]
set_option maxHeartbeats 400000 in
theorem zznext_any (s : ByteArray) (b i e : Nat) (w : World) (he : e ≤ s.size) (hs : s.size ≤ 1048576) (hi : i < 9223372036854775808) (hc : w.cell? ⟨b, 1, none⟩ = some (.string s)) :
    Calls Try.prog 6 #[.pointer (some ⟨b, 0, none⟩), .int .i64 i, .int .i64 e] w fun x w' => x = .returned (.int .i64 (firstL s.data.toList i (e-1-i))) ∧ w' = w := by
  go_enter Try.func6, Try.ntmps6
  go_wp2_with (go_at_call 11; refine (next_any s b i e _ he hs hi hc).mono ?_; rintro x w' ⟨rfl, rfl⟩)
  go_ret
  exact ⟨rfl, rfl⟩
end Go.Proofs.Qxb6606024a.W
