/-
  Seat b6613674a: unquote, ZZunquote.
-/
import Derived.Test.Qxb6613674aHalve
namespace Go.Proofs.Qxb6613674a.W
open Go.RowKit
open Go.Proofs.Qxb6613674a.Plain
set_option linter.unusedVariables false

set_option maxHeartbeats 400000 in
theorem lite_any (s : ByteArray) (d : UInt8) (w : World) :
    Calls Try.prog 31 #[.string s, .int .u8 d.toNat] w fun x w' => x = .returned (.int .i64 (Lib.indexByte s.data.toList d)) ∧ w' = w := by
  go_enter Try.func31, Try.ntmps31
  go_wp2
  rw [run_callFunc_extern Try.func33 (by kernel_rfl) (by kernel_rfl) (by kernel_rfl) (e := Extern.BytealgIndexByte.indexByte) (by kernel_rfl), Lib.run_indexByteString, show ((d.toNat : Int).toNat).toUInt8 = d from by simp]
  simp only [Result.andThen]
  rw [Oper.upon_value]
  go_wp2
  go_ret
  exact ⟨rfl, rfl⟩

set_option maxHeartbeats 400000 in
theorem index_any (s : ByteArray) (d : UInt8) (w : World) :
    Calls Try.prog 29 #[.string s, .int .u8 d.toNat] w fun x w' => x = .returned (.int .i64 (Lib.indexByte s.data.toList d)) ∧ w' = w := by
  go_enter Try.func29, Try.ntmps29
  go_wp2_with (go_at_call 31; refine (lite_any _ _ _).mono ?_; rintro e w' ⟨rfl, rfl⟩)
  go_ret
  exact ⟨rfl, rfl⟩

/-- The boxed quoting's cells that the loop reads. -/
def Boxed (N : Nat) (delim : ByteArray) (wr : World) : Prop := wr.cell? ⟨N, 2, none⟩ = some (.string delim) ∧ wr.cell? ⟨N, 4, none⟩ = some .nilFunc ∧ wr.cell? ⟨N, 6, none⟩ = some (.bool true)

theorem pairs_two {d : UInt8} {l o : List UInt8} (h : Pairs d (d :: l) o) : ∃ l' o', l = d :: l' ∧ o = d :: o' ∧ Pairs d l' o' := by
  cases h with
  | other hb _ => exact absurd rfl hb
  | two h => exact ⟨_, _, rfl, rfl, h⟩

theorem cell_grown {wr w2 : World} {ob : Obj} {row : Option Nat} {b k : Nat} {v : Value} (h : wr.cell? ⟨b, k, none⟩ = some v) (hgr : (wr.alloc ob).grownBy w2 row) (hne : some b ≠ row) : w2.cell? ⟨b, k, none⟩ = some v := by
  refine hgr.cell ?_ hne
  rw [((Below.refl wr.heap.size wr).alloc (Nat.le_refl _) ob).cell (p := ⟨b, k, none⟩) (World.block_lt_of_cell? wr ⟨b, k, none⟩ h)]
  exact h

theorem Boxed.next {N g : Nat} {delim : ByteArray} {wr w2 : World} {ob : Obj} (h : Boxed N delim wr) (hgr : (wr.alloc ob).grownBy w2 (some g)) (hne : N ≠ g) : Boxed N delim w2 :=
  ⟨cell_grown h.1 hgr (fun e => hne (Option.some.inj e)), cell_grown h.2.1 hgr (fun e => hne (Option.some.inj e)), cell_grown h.2.2 hgr (fun e => hne (Option.some.inj e))⟩

section
variable (text delim : ByteArray) (kind closing : Int) (p : Nat) (m db hx : Bool) (w : World)

set_option maxHeartbeats 1000000 in
theorem unq_empty (hp : (p : Int) ≤ 1073741824) (hd : delim.size = 0) : Calls Try.prog 28 #[.string text, .agg #[.int .u8 kind, .int .i64 p, .string delim, .int .u8 closing, .nilFunc, .bool m, .bool db, .bool hx]] w fun e w' => e = .returned (.string ⟨#[]⟩) ∧ Below w.heap.size w w' := by
  obtain rfl : delim = ⟨#[]⟩ := by
    cases delim with
    | mk d => cases d with
      | mk l => cases l with
        | nil => rfl
        | cons a b => cases hd
  go_enter Try.func28, Try.ntmps28
  go_wp2
  go_ret
  exact ⟨rfl, (Below.refl _ _).alloc (Nat.le_refl _) _⟩

theorem ne_empty {delim : ByteArray} (h : 0 < delim.size) : delim.toList.isEmpty = false := by
  rw [ByteArray.toList_eq]
  have hl : delim.data.toList.length = delim.size := rfl
  cases hd : delim.data.toList with
  | nil => rw [hd] at hl; simp at hl; omega
  | cons _ _ => rfl
theorem qf (W : World) : (binOp .eql 36 .nilFunc .nilFunc).run Try.prog W = .ok (.bool true) W := by kernel_rfl
theorem qn (W : World) : (binOp .neq 36 .nilFunc .nilFunc).run Try.prog W = .ok (.bool false) W := by kernel_rfl

set_option maxHeartbeats 1000000 in
theorem unq_short (hp : (p : Int) ≤ 1073741824) (hT : (text.size : Int) ≤ 524288) (hL : (delim.size : Int) ≤ 524288) (hd : 0 < delim.size) (hs : (text.size : Int) < (p : Int) + (delim.size : Int) + (delim.size : Int)) :
    Calls Try.prog 28 #[.string text, .agg #[.int .u8 kind, .int .i64 p, .string delim, .int .u8 closing, .nilFunc, .bool m, .bool db, .bool hx]] w fun e w' => e = .returned (.string ⟨#[]⟩) ∧ Below w.heap.size w w' := by
  have hne := ne_empty hd
  go_enter Try.func28, Try.ntmps28
  go_wp2
  go_ret
  exact ⟨rfl, (Below.refl _ _).alloc (Nat.le_refl _) _⟩

set_option maxHeartbeats 1000000 in
theorem unq_plain (hp : (p : Int) ≤ 1073741824) (hT : (text.size : Int) ≤ 524288) (hL : (delim.size : Int) ≤ 524288) (hd : 0 < delim.size) (hs : (p : Int) + (delim.size : Int) + (delim.size : Int) ≤ (text.size : Int)) :
    Calls Try.prog 28 #[.string text, .agg #[.int .u8 kind, .int .i64 p, .string delim, .int .u8 closing, .nilFunc, .bool m, .bool false, .bool hx]] w fun e w' => e = .returned (.string (text.extract (p + delim.size) (text.size - delim.size))) ∧ Below w.heap.size w w' := by
  have hne := ne_empty hd
  have qf' := qf
  go_enter Try.func28, Try.ntmps28
  go_wp2
  go_ret
  exact ⟨rfl, (Below.refl _ _).alloc (Nat.le_refl _) _⟩

set_option maxHeartbeats 1000000 in
theorem unq_none (hp : (p : Int) ≤ 1073741824) (hT : (text.size : Int) ≤ 524288) (hL : (delim.size : Int) ≤ 524288) (hd : 0 < delim.size) (hs : (p : Int) + (delim.size : Int) + (delim.size : Int) ≤ (text.size : Int))
    (hx' : Lib.indexByte (text.extract (p + delim.size) (text.size - delim.size)).data.toList delim[0] = -1) :
    Calls Try.prog 28 #[.string text, .agg #[.int .u8 kind, .int .i64 p, .string delim, .int .u8 closing, .nilFunc, .bool m, .bool true, .bool hx]] w fun e w' => e = .returned (.string (text.extract (p + delim.size) (text.size - delim.size))) ∧ Below w.heap.size w w' := by
  have hne := ne_empty hd
  have qf' := qf
  have hi := fun W => index_any (text.extract (p + delim.size) (text.size - delim.size)) delim[0] W
  rw [hx'] at hi
  go_enter Try.func28, Try.ntmps28
  go_wp2_with (go_at_call 29; refine (hi _).mono ?_; rintro e w' ⟨rfl, rfl⟩)
  go_ret
  exact ⟨rfl, (Below.refl _ _).alloc (Nat.le_refl _) _⟩

set_option maxHeartbeats 4000000 in
set_option maxRecDepth 100000 in
theorem unq_loop (hp : (p : Int) ≤ 1073741824) (hT : (text.size : Int) ≤ 524288) (hL : (delim.size : Int) ≤ 524288) (hd : 0 < delim.size) (hs : (p : Int) + (delim.size : Int) + (delim.size : Int) ≤ (text.size : Int))
    (j : Nat) (hx' : Lib.indexByte (text.extract (p + delim.size) (text.size - delim.size)).data.toList delim[0] = (j : Int))
    (o : List UInt8) (hP : Pairs delim[0] (text.extract (p + delim.size) (text.size - delim.size)).data.toList o) :
    Calls Try.prog 28 #[.string text, .agg #[.int .u8 kind, .int .i64 p, .string delim, .int .u8 closing, .nilFunc, .bool m, .bool true, .bool hx]] w fun e w' => e = .returned (.string ⟨o.toArray⟩) ∧ Below w.heap.size w w' := by
  have hne := ne_empty hd
  have qf' := qf
  have qn' := qn
  have hi := fun W => index_any (text.extract (p + delim.size) (text.size - delim.size)) delim[0] W
  rw [hx'] at hi
  have hbs : (text.extract (p + delim.size) (text.size - delim.size)).size ≤ 524288 := by rw [ByteArray.size_extract]; omega
  obtain ⟨b, hb⟩ : ∃ b, b = text.extract (p + delim.size) (text.size - delim.size) := ⟨_, rfl⟩
  rw [← hb] at hP hbs hi
  have hol := hP.length
  have hbl : b.data.toList.length = b.size := rfl
  have hbI : (b.size : Int) ≤ 524288 := by omega
  obtain ⟨i0, hi0, hz0, hz1, hz2⟩ := info_parts info5
  go_enter Try.func28, Try.ntmps28
  rw [hb] at hi
  go_wp2_with (first | (go_at_call 29; refine (hi _).mono ?_; rintro e w' ⟨rfl, rfl⟩) | (at_make; refine wpList_make_own _ rfl _ _ 28 rfl w.heap.size 5 i0 (.int .u8 0) 1 Try.underlying28 hi0 hz0 hz1 _ _ _ (text.size - delim.size - (p + delim.size)) rfl rfl rfl ?b2 ?b3 ?b4 ?_))
  case b2 => rw [hz2]; omega
  case b3 => unfold maxLen; omega
  case b4 => simp only [World.alloc, Array.size_push]; omega
  intro w1 hown1 hgrow1
  have hbz : text.size - delim.size - (p + delim.size) = b.size := by rw [hb, ByteArray.size_extract]; omega
  have hsz : (w.alloc (.cells #[.int .u8 kind, .int .i64 (p : Int), .string delim, .int .u8 closing, .nilFunc, .bool m, .bool true, .bool hx] 38)).heap.size = w.heap.size + 1 := Array.size_push ..
  have hnew : (w.alloc (.cells #[.int .u8 kind, .int .i64 (p : Int), .string delim, .int .u8 closing, .nilFunc, .bool m, .bool true, .bool hx] 38)).heap[w.heap.size]? = some (.cells #[.int .u8 kind, .int .i64 (p : Int), .string delim, .int .u8 closing, .nilFunc, .bool m, .bool true, .bool hx] 38) := heap_alloc_new w _
  have cB : Hid (Boxed w.heap.size delim w1) := by
    refine ⟨hgrow1.cell ?_ (by simp), hgrow1.cell ?_ (by simp), hgrow1.cell ?_ (by simp)⟩ <;> (simp only [World.cell?, hnew]; rfl)
  have bB : Below w.heap.size w w1 := ((Below.refl _ w).alloc (Nat.le_refl _) _).grown hgrow1 (by rw [hsz]; omega) (fun k h => by cases h)
  rw [hbz] at hown1 ⊢
  rw [← hb]
  have O1 : Hid (Own w (w.heap.size + 1) b.size [] w1) := ⟨hown1, bB⟩
  clear hb hi hx' hbz hne hnew hown1 hgrow1 bB hsz
  go_wp2
  go_loopw [7, 8] (fun out iv wr => ∃ (i : Nat) (pre rest : List UInt8), iv = .int .i64 i ∧ i ≤ b.size ∧ out = .slice (some ⟨w.heap.size + 1, 0, none⟩) pre.length b.size ∧ Hid (Own w (w.heap.size + 1) b.size pre wr) ∧ Hid (Boxed w.heap.size delim wr) ∧ Hid (Pairs delim[0] (b.data.toList.drop i) rest) ∧ Hid (pre ++ rest = o))
    (fun _ iv _ => b.size - (intOf iv).toNat)
  case atStart => exact ⟨0, [], o, rfl, Nat.zero_le _, rfl, O1, cB, hP, rfl⟩
  case round =>
    obtain ⟨i, pre, rest, rfl, hi, rfl, O, C, HP, E⟩ := hrel
    by_cases hlt : i < b.size
    · have k2 := C.out.1
      have k4 := C.out.2.1
      have k6 := C.out.2.2
      have ho := O.out.1
      by_cases hc : (b[i].toNat : Int) = (delim[0].toNat : Int)
      · obtain ⟨l', rest', hl', rfl, HP'⟩ := pairs_two (by have := HP.out; rwa [drop_at b i hlt, byte_eq hc] at this)
        have hlt2 : i + 1 < b.size := by
          rcases Nat.lt_or_ge (i + 1) b.size with h | h
          · exact h
          · rw [drop_end b (i + 1) h] at hl'; cases hl'
        rw [drop_at b (i + 1) hlt2] at hl'
        have hl2 : l' = b.data.toList.drop (i + 2) := (List.cons.inj hl').2.symm
        rw [hl2] at HP'
        have hcb : ((b[i].toNat : Int) == (delim[0].toNat : Int)) = true := by rw [beq_iff_eq]; exact hc
        have hlen : pre.length + 1 ≤ b.size := by
          have := congrArg List.length E.out
          simp only [List.length_append, List.length_cons] at this
          omega
        have E' : Hid (pre ++ [b[i]] ++ rest' = o) := by show _ = _; rw [List.append_assoc, byte_eq hc]; exact E.out
        have HP2 := Lib.hid HP'
        clear HP' HP E hl' hl2 hc
        cases hbb : ((b[i].toNat : Int) == 92)
        all_goals
          go_wp2_with (at_builtin; refine wpList_append_fits _ rfl (.tmp 121) (.tmp 123) 28 rfl w.heap.size 5 i0 1 Try.underlying28 hi0 hz1 (w.heap.size + 1) pre.length b.size _ rfl (ho.alloc _) ⟨wr.heap.size, 0, none⟩ 1 1 [.int .u8 (b[i].toNat : Int)] rfl rfl one_cell (one_one _) (by omega) ?_; intro w2 hown2 hgrow2)
          exact ⟨⟨i + 2, pre ++ [b[i]], rest', by go_num, by omega, by rw [List.length_append]; rfl, O.out.next (by omega) hown2 hgrow2, C.out.next hgrow2 (by omega), HP2, E'⟩, by simp [intOf]; omega⟩
      · obtain ⟨rest', rfl, HP'⟩ := pairs_other (by have := HP.out; rwa [drop_at b i hlt] at this) (fun e => hc (by rw [e]))
        have hcb : ((b[i].toNat : Int) == (delim[0].toNat : Int)) = false := by rw [beq_eq_false_iff_ne]; exact hc
        have hlen : pre.length + 1 ≤ b.size := by
          have := congrArg List.length E.out
          simp only [List.length_append, List.length_cons] at this
          omega
        have E' : Hid (pre ++ [b[i]] ++ rest' = o) := by show _ = _; rw [List.append_assoc]; exact E.out
        have HP2 := Lib.hid HP'
        clear HP' HP E
        clear hc
        cases hbb : ((b[i].toNat : Int) == 92)
        all_goals
          go_wp2_with (at_builtin; refine wpList_append_fits _ rfl (.tmp 75) (.tmp 77) 28 rfl w.heap.size 5 i0 1 Try.underlying28 hi0 hz1 (w.heap.size + 1) pre.length b.size _ rfl (ho.alloc _) ⟨wr.heap.size, 0, none⟩ 1 1 [.int .u8 (b[i].toNat : Int)] rfl rfl one_cell (one_one _) (by omega) ?_; intro w2 hown2 hgrow2)
          exact ⟨⟨i + 1, pre ++ [b[i]], rest', by go_num, by omega, by rw [List.length_append]; rfl, O.out.next (by omega) hown2 hgrow2, C.out.next hgrow2 (by omega), HP2, E'⟩, by simp [intOf]; omega⟩
    · obtain rfl : rest = [] := pairs_nil (by have := HP.out; rwa [drop_end b i (by omega)] at this)
      have e : pre = o := by have := E.out; rwa [List.append_nil] at this
      subst e
      have hcv := own_string O.out
      go_wp2
      go_ret
      exact ⟨rfl, O.out.2⟩
end
end Go.Proofs.Qxb6613674a.W
