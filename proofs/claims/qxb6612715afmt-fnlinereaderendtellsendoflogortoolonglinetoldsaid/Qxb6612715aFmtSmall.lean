/-
  Seat b6612715aF: the small functions: the law's own guards, hasLongLine, the making of a reader, a scanner and a line reader.
-/
import Derived.Test.Qxb6612715aFmtRows
import Derived.Test.Qxb6612715aFmtPlain
import Derived.Lib.Hide
import Derived.WalkKit
import Derived.WalkSpells
namespace Go.Proofs.Qxb6612715aFmt.W
open Go.RowKit
open Go.Proofs.Qxb6612715aFmt.Plain
set_option linter.unusedVariables false

set_option maxHeartbeats 400000 in
theorem bytes_any (s : ByteArray) (d : Int) (w : World) (hs : s.size ≤ 1048576) :
    Calls Tryf.prog 5 #[.string s, .int .i64 d] w fun e w' => e = .returned (.bool true) ∧ w' = w := by
  go_enter Tryf.func5, Tryf.ntmps5
  go_wp2
  go_ret; exact ⟨rfl, rfl⟩
set_option maxHeartbeats 400000 in
theorem bytes_no (s : ByteArray) (d : Int) (w : World) (hs : ¬ s.size ≤ 1048576) (hm : s.size ≤ maxLen) :
    Calls Tryf.prog 5 #[.string s, .int .i64 d] w fun e w' => e = .returned (.bool false) ∧ w' = w := by
  unfold maxLen at hm
  go_enter Tryf.func5, Tryf.ntmps5
  go_wp2
  go_ret; exact ⟨rfl, rfl⟩

theorem ret_bool {a b : Bool} (h : a = b) : Ending.returned (.bool a) = .returned (.bool b) := by rw [h]

theorem drop_at (s : ByteArray) (k : Nat) (h : k < s.size) : s.data.toList.drop k = s[k] :: s.data.toList.drop (k + 1) := by
  have hk : k < s.data.toList.length := by simpa using h
  rw [List.drop_eq_getElem_cons hk]
  rfl
theorem long_nl (s : ByteArray) (k run : Nat) (h : k < s.size) (hc : (s[k].toNat : Int) = 10) : longFrom run (s.data.toList.drop k) = longFrom 0 (s.data.toList.drop (k + 1)) := by
  rw [drop_at s k h, longFrom, if_pos (Lib.byte_eq_of_toNat (b := 10) hc)]
theorem long_no (s : ByteArray) (k run : Nat) (h : k < s.size) (hc : ¬ (s[k].toNat : Int) = 10) (hr : ¬ 65536 ≤ run + 1) : longFrom run (s.data.toList.drop k) = longFrom (run + 1) (s.data.toList.drop (k + 1)) := by
  rw [drop_at s k h, longFrom, if_neg (fun e => hc (by rw [e]; rfl)), if_neg hr]
theorem long_yes (s : ByteArray) (k run : Nat) (h : k < s.size) (hc : ¬ (s[k].toNat : Int) = 10) (hr : 65536 ≤ run + 1) : longFrom run (s.data.toList.drop k) = true := by
  rw [drop_at s k h, longFrom, if_neg (fun e => hc (by rw [e]; rfl)), if_pos hr]

set_option maxHeartbeats 400000 in
theorem hasLong_any (s : ByteArray) (w : World) (hs : s.size ≤ 1048576) :
    Calls Tryf.prog 9 #[.string s] w fun e w' => e = .returned (.bool (longFrom 0 s.data.toList)) ∧ w' = w := by
  go_enter Tryf.func9, Tryf.ntmps9
  go_wp2
  go_loop [3, 4] (fun r i => ∃ (rn k : Nat), k ≤ s.size ∧ (rn : Int) < 65536 ∧ r = .int .i64 rn ∧ i = .int .i64 k ∧ Hid (longFrom 0 s.data.toList = longFrom rn (s.data.toList.drop k))) (fun _ i => s.size - (intOf i).toNat)
  case atStart => exact ⟨0, 0, Nat.zero_le _, by omega, rfl, rfl, rfl⟩
  case round =>
    obtain ⟨rn, k, hk, hr, rfl, rfl, H⟩ := hrel
    by_cases hlt : k < s.size
    · by_cases hc : (s[k].toNat : Int) = 10
      · have H' := Lib.hid (H.out.trans (long_nl s k rn hlt hc))
        clear H
        go_wp2
        exact ⟨⟨0, k + 1, by omega, by omega, rfl, by go_num, H'⟩, by simp [intOf]; omega⟩
      · by_cases hr' : 65536 ≤ rn + 1
        · have H' := Lib.hid (H.out.trans (long_yes s k rn hlt hc hr'))
          clear H
          have hr1 : (65536 : Int) ≤ (rn : Int) + 1 := by omega
          clear hr'
          have hcb : ((s[k].toNat : Int) == 10) = false := by rw [beq_eq_false_iff_ne]; exact hc
          go_wp2
          go_ret
          exact ⟨ret_bool H'.out.symm, rfl⟩
        · have H' := Lib.hid (H.out.trans (long_no s k rn hlt hc hr'))
          clear H
          have hr1 : ¬ (65536 : Int) ≤ (rn : Int) + 1 := by omega
          clear hr'
          have hcb : ((s[k].toNat : Int) == 10) = false := by rw [beq_eq_false_iff_ne]; exact hc
          go_wp2
          exact ⟨⟨rn + 1, k + 1, by omega, by omega, by go_num, by go_num, H'⟩, by simp [intOf]; omega⟩
    · go_wp2
      go_ret
      refine ⟨ret_bool ?_, rfl⟩
      rw [H.out, List.drop_of_length_le (by rw [← Lib.size_eq]; omega)]
      rfl

set_option maxHeartbeats 400000 in
theorem newReader_any (s : ByteArray) (w : World) :
    Calls Tryf.prog 16 #[.string s] w fun e w' => e = .returned (.pointer (some ⟨w.heap.size, 0, none⟩)) ∧ w' = w.alloc (.cells #[.string s, .int .i64 0, .int .i64 (-1)] 55) := by
  go_enter Tryf.func16, Tryf.ntmps16
  go_wp2
  go_ret; exact ⟨rfl, rfl⟩

/-- A scanner's cells. -/
def scanCells (R : Nat) (tok buf : Value) (st en : Int) (err : Value) (emp : Int) (sc : Bool) : Array Value :=
  #[.iface 40 (.pointer (some ⟨R, 0, none⟩)), .func (Fn.func 22) #[] #[], .int .i64 65536, tok, buf, .int .i64 st, .int .i64 en, err, .int .i64 emp, .bool sc, .bool false]

set_option maxHeartbeats 400000 in
theorem newScanner_any (R : Nat) (w : World) :
    Calls Tryf.prog 15 #[.iface 40 (.pointer (some ⟨R, 0, none⟩))] w fun e w' => e = .returned (.pointer (some ⟨w.heap.size, 0, none⟩)) ∧ w' = w.alloc (.cells (scanCells R (.slice none 0 0) (.slice none 0 0) 0 0 .nilIface 0 false) 53) := by
  go_enter Tryf.func15, Tryf.ntmps15
  go_wp2
  go_ret; exact ⟨rfl, rfl⟩

set_option maxHeartbeats 400000 in
theorem none_any (w : World) :
    Calls Tryf.prog 8 #[] w fun e w' => e = .returned (.pointer (some ⟨w.heap.size, 0, none⟩)) ∧ w' = w.alloc (.cells #[.pointer none, .int .i64 0, .slice none 0 0, .bool false, .bool false, .bool false] 38) := by
  go_enter Tryf.func8, Tryf.ntmps8
  go_wp2
  go_ret; exact ⟨rfl, rfl⟩

set_option maxHeartbeats 400000 in
theorem newLine_any (s : ByteArray) (line : Int) (w : World) :
    Calls Tryf.prog 11 #[.string s, .int .i64 line] w fun e w' => e = .returned (.pointer (some ⟨w.heap.size + 2, 0, none⟩)) ∧
      w' = ((w.alloc (.cells #[.string s, .int .i64 0, .int .i64 (-1)] 55)).alloc (.cells (scanCells w.heap.size (.slice none 0 0) (.slice none 0 0) 0 0 .nilIface 0 false) 53)).alloc
        (.cells #[.pointer (some ⟨w.heap.size + 1, 0, none⟩), .int .i64 line, .slice none 0 0, .bool false, .bool false, .bool false] 38) := by
  go_enter Tryf.func11, Tryf.ntmps11
  go_wp2_with (first | (go_at_call 16; refine (newReader_any _ _).mono ?_; rintro e w' ⟨rfl, rfl⟩) | (go_at_call 15; refine (newScanner_any _ _).mono ?_; rintro e w' ⟨rfl, rfl⟩))
  go_ret; exact ⟨rfl, rfl⟩
end Go.Proofs.Qxb6612715aFmt.W
