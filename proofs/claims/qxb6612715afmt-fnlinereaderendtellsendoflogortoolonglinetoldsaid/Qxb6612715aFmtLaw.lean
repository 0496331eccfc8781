/-
  Seat b6612715aF: readToEnd, and the law's own function.
-/
import Derived.Test.Qxb6612715aFmtScanS
namespace Go.Proofs.Qxb6612715aFmt.W
open Go.RowKit
open Go.Proofs.Qxb6612715aFmt.Plain
set_option linter.unusedVariables false

section
variable {w0 w : World} {t : ByteArray} {line : Int} {a0 a1 a2 : Addr} {t2 : ByteArray}

/-- Behind readToEnd: the line reader's blocks, and its error. -/
def Ended (w0 : World) (t : ByteArray) (line : Int) (a1 a2 : Addr) (w : World) : Prop :=
  ∃ ri tok buf st en err emp sc, Mm w0 w t line ri tok buf st en err emp sc ∧
    ((err = .iface 76 (.pointer (some a1)) ∧ longFrom 0 t.data.toList = false) ∨ (err = .iface 76 (.pointer (some a2)) ∧ longFrom 0 t.data.toList = true))

/-- A state at which Scan may be called: i lines have been read. -/
def Ready (w0 : World) (t : ByteArray) (line : Int) (a1 : Addr) (i : Nat) (w : World) : Prop :=
  ∃ p ri st en n err, i ≤ p ∧ p ≤ t.size ∧ St w0 w t line p ri st en n err ∧ ErrOk err a1 t ri en n

theorem scanLine_any (hs : t.size ≤ 1048576) (sn : Sents w0 a0 a1 a2 t2) (i : Nat) (h : Ready w0 t line a1 i w) :
    Calls Tryf.prog 12 #[.pointer (some ⟨w0.heap.size + 2, 0, none⟩)] w fun e w' => (e = .returned (.bool true) ∧ Ready w0 t line a1 (i + 1) w') ∨ (e = .returned (.bool false) ∧ Ended w0 t line a1 a2 w') := by
  obtain ⟨p, ri, st, en, n, err, hi, hp, h, ho⟩ := h
  have hsc := scan_any hs sn h ho
  obtain ⟨tok, buf, emp, sc, hm, hb⟩ := h.mm
  have c0 := cell_at (k := 0) hm.hL
  have c0' : w.cell? ⟨w0.heap.size + 2, 0, none⟩ = some (.pointer (some ⟨w0.heap.size + 1, 0, none⟩)) := by rw [c0]; rfl
  clear c0 hm hb
  go_enter Tryf.func12, Tryf.ntmps12
  go_wp2_with (go_at_call 17; refine hsc.mono ?_)
  rintro e w1 (⟨rfl, p', ri', st', en', n', err', g1, g2, g3, g4⟩ | ⟨rfl, ri', tok', buf', st', en', err', emp', sc', g1, g2⟩)
  · go_wp2
    go_ret
    exact .inl ⟨rfl, p', ri', st', en', n', err', by omega, g2, g3, g4⟩
  · go_wp2
    go_ret
    exact .inr ⟨rfl, ri', tok', buf', st', en', err', emp', sc', g1, g2⟩

theorem size_alloc1 (w : World) (o : Obj) : (w.alloc o).heap.size = w.heap.size + 1 := Array.size_push ..

theorem ready0 (w0 : World) (t : ByteArray) (line : Int) (a1 : Addr) : Ready w0 t line a1 0
    (((w0.alloc (.cells #[.string t, .int .i64 0, .int .i64 (-1)] 55)).alloc (.cells (scanCells w0.heap.size (.slice none 0 0) (.slice none 0 0) 0 0 .nilIface 0 false) 53)).alloc
        (.cells #[.pointer (some ⟨w0.heap.size + 1, 0, none⟩), .int .i64 line, .slice none 0 0, .bool false, .bool false, .bool false] 38)) := by
  refine ⟨0, 0, 0, 0, 0, .nilIface, Nat.le_refl _, Nat.zero_le _, ⟨⟨.slice none 0 0, .slice none 0 0, 0, false, ⟨?_, ⟨-1, ?_⟩, ?_, ?_⟩, .inl ⟨rfl, rfl⟩⟩, rfl, Nat.le_refl _, Nat.le_refl _, Nat.zero_le _, Nat.zero_le _, rfl⟩, .inl rfl⟩
  · refine (((Below.refl _ w0).alloc (Nat.le_refl _) _).alloc ?_ _).alloc ?_ _
    · rw [size_alloc1]; omega
    · rw [size_alloc1, size_alloc1]; omega
  · rw [Below.heap_alloc _ _ _ (by rw [size_alloc1, size_alloc1]; omega), Below.heap_alloc _ _ _ (by rw [size_alloc1]; omega)]
    exact heap_new _ _
  · rw [Below.heap_alloc _ _ _ (by rw [size_alloc1, size_alloc1]; omega)]
    have := heap_new (w0.alloc (.cells #[.string t, .int .i64 0, .int .i64 (-1)] 55)) (.cells (scanCells w0.heap.size (.slice none 0 0) (.slice none 0 0) 0 0 .nilIface 0 false) 53)
    rw [size_alloc1] at this
    exact this
  · have := heap_new ((w0.alloc (.cells #[.string t, .int .i64 0, .int .i64 (-1)] 55)).alloc (.cells (scanCells w0.heap.size (.slice none 0 0) (.slice none 0 0) 0 0 .nilIface 0 false) 53)) (.cells #[.pointer (some ⟨w0.heap.size + 1, 0, none⟩), .int .i64 line, .slice none 0 0, .bool false, .bool false, .bool false] 38)
    rw [size_alloc1, size_alloc1] at this
    exact this

set_option maxHeartbeats 1000000 in
theorem toEnd_any (hs : t.size ≤ 1048576) (sn : Sents w0 a0 a1 a2 t2) :
    Calls Tryf.prog 6 #[.string t, .int .i64 line] w0 fun e w' => e = .returned (.pointer (some ⟨w0.heap.size + 2, 0, none⟩)) ∧ Ended w0 t line a1 a2 w' := by
  have hN := newLine_any t line w0
  go_enter Tryf.func6, Tryf.ntmps6
  go_wp2_with (go_at_call 11; refine hN.mono ?_)
  rintro e w1 ⟨rfl, hw1⟩
  have hR : Ready w0 t line a1 0 w1 := by rw [hw1]; exact ready0 w0 t line a1
  clear hw1 hN
  go_wp2
  go_loopg [6] (t.size + 1) (fun k i wr => ∃ j : Nat, i = .int .i64 j ∧ Hid (Ready w0 t line a1 j wr) ∧ Hid (k + j = t.size + 1))
  case atStart => exact ⟨0, rfl, hR, rfl⟩
  case round =>
    obtain ⟨j, rfl, H, hk⟩ := hrel
    have hj : (j : Int) ≤ (t.size : Int) := by obtain ⟨p, ri, st, en, n, err, h1, h2, _⟩ := H.out; omega
    have hc := scanLine_any hs sn j H.out
    go_wp2_with (go_at_call 12; refine hc.mono ?_)
    rintro e w2 (⟨rfl, hR2⟩ | ⟨rfl, hE⟩)
    · have hl : (t.size : Int) ≤ 1048576 := by omega
      have H2 := Lib.hid hR2
      clear hR2 H hc hR
      go_wp2
      go_roundg (gk - 1)
      case measure => have := hk.out; omega
      case rel => exact ⟨j + 1, by go_num, H2, by have := hk.out; show gk - 1 + (j + 1) = t.size + 1; omega⟩
    · go_wp2
      go_ret
      exact ⟨rfl, hE⟩
end
end Go.Proofs.Qxb6612715aFmt.W
