/-
  Seat b6612715aF: the law's own function, walked.
-/
import Derived.Test.Qxb6612715aFmtLaw
namespace Go.Proofs.Qxb6612715aFmt.W
open Go.RowKit
open Go.Extern.Stop Go.Stop Go.Extern
open Go.Proofs.Qxb6612715aFmt.Plain
set_option linter.unusedVariables false

section
variable {w : World} {t : ByteArray} {a0 a1 a2 : Addr} {t2 : ByteArray}

/-- ZZend behind readToEnd. -/
theorem end_of (F : Interp) (line : Int) (w0 : World) (hF : F.answers w0.tape) (hl0 : 0 ≤ line) (hl1 : line ≤ 1048576) (sn : Sents w0 a0 a1 a2 t2) (h : Ended w0 t line a1 a2 w) :
    Calls Tryf.prog 7 #[.pointer (some ⟨w0.heap.size + 2, 0, none⟩)] w fun e w' =>
      e = .returned (.tuple #[.bool true, .bool false, .bool (!longFrom 0 t.data.toList), .bool (longFrom 0 t.data.toList)]) ∧ Below w0.heap.size w0 w' := by
  obtain ⟨ri, tok, buf, st, en, err, emp, sc, hm, h⟩ := h
  have sn1 := sn.below (Nat.le_refl _) hm.below
  obtain ⟨c0, c1, c2, c3, c4, c5, c6, c7, c8, c9, c10, cz⟩ := sc_cells hm.hS
  have e0 : w.cell? ⟨w0.heap.size + 2, 0, none⟩ = some (.pointer (some ⟨w0.heap.size + 1, 0, none⟩)) := by rw [cell_at hm.hL]; rfl
  have e1 : w.cell? ⟨w0.heap.size + 2, 1, none⟩ = some (.int .i64 line) := by rw [cell_at hm.hL]; rfl
  have hF1 : F.answers w.tape := by rw [hm.below.tape]; exact hF
  rcases h with ⟨rfl, hl⟩ | ⟨rfl, hl⟩
  · have hh := zzend_eof _ _ a0 a1 a2 t2 w e0 c7 sn1
    refine hh.mono ?_
    rintro e w' ⟨rfl, hb⟩
    rw [hl]
    exact ⟨rfl, hm.below.trans (hb.mono hm.below.size)⟩
  · have hh := zzend_long F _ _ line a0 a1 a2 t2 w hF1 hl0 hl1 e0 e1 c7 sn1
    refine hh.mono ?_
    rintro e w' ⟨rfl, hb⟩
    rw [hl]
    exact ⟨rfl, hm.below.trans (hb.mono hm.below.size)⟩

set_option maxHeartbeats 1000000 in
theorem law_main (F : Interp) (line : Int) (hs : t.size ≤ 1048576) (hF : F.answers w.tape) (hl0 : 0 ≤ line) (hl1 : line ≤ (t.size : Int)) (sn : Sents w a0 a1 a2 t2) :
    Calls Tryf.prog 3 #[.string t, .int .i64 line] w fun e w' => e = .returned (.bool true) ∧ Below w.heap.size w w' := by
  have hT := toEnd_any (line := line) hs sn
  have hB := bytes_any t line w hs
  have hsI : (t.size : Int) ≤ 1048576 := by omega
  go_enter Tryf.func3, Tryf.ntmps3
  go_wp2_with (go_at_call 5; refine hB.mono ?_; rintro e w ⟨rfl, rfl⟩)
  go_wp2_with (go_at_call 6; refine hT.mono ?_)
  rintro e w1 ⟨rfl, hE⟩
  have hZ := end_of F line w hF hl0 (by omega) sn hE
  clear hE hT hB
  go_wp2_with (go_at_call 7; refine hZ.mono ?_)
  rintro e w2 ⟨rfl, hb2⟩
  clear hZ
  have hNo := none_any w2
  go_wp2_with (go_at_call 8; refine hNo.mono ?_)
  rintro e w3 ⟨rfl, hw3⟩
  clear hNo
  have hb3 : Below w.heap.size w w3 := by rw [hw3]; exact hb2.alloc hb2.size _
  have c3 : w3.cell? ⟨w2.heap.size, 0, none⟩ = some (.pointer none) := by
    have := heap_new w2 (.cells #[.pointer none, .int .i64 0, .slice none 0 0, .bool false, .bool false, .bool false] 38)
    rw [← hw3] at this
    rw [cell_at this]; rfl
  have hz3 : w.heap.size ≤ w3.heap.size := hb3.size
  have hZ2 := zzend_none w2.heap.size a0 a1 a2 t2 w3 c3 (sn.below (Nat.le_refl _) hb3)
  clear c3 hw3
  go_wp2_with (go_at_call 7; refine hZ2.mono ?_)
  rintro e w4 ⟨rfl, hb4⟩
  clear hZ2
  have hb := hb3.trans (hb4.mono hz3)
  have hL := hasLong_any t w4 hs
  clear hb3 hb4 hz3 hb2
  generalize longFrom 0 t.data.toList = b at hL ⊢
  go_wp2_with (go_at_call 9; refine hL.mono ?_)
  rintro e w5 ⟨rfl, rfl⟩
  clear hL
  cases b
  · go_wp2
    go_ret
    exact ⟨rfl, hb⟩
  · go_wp2
    go_ret
    exact ⟨rfl, hb⟩

set_option maxHeartbeats 1000000 in
theorem law_any (F : Interp) (line : Int) (hs : t.size ≤ maxLen) (hF : F.answers w.tape) (sn : Sents w a0 a1 a2 t2) :
    Calls Tryf.prog 3 #[.string t, .int .i64 line] w fun e w' => e = .returned (.bool true) ∧ Below w.heap.size w w' := by
  have hs' := hs
  unfold maxLen at hs'
  by_cases h : t.size ≤ 1048576
  · have hsI : (t.size : Int) ≤ 1048576 := by omega
    have hB := bytes_any t line w h
    by_cases h0 : line < 0
    · go_enter Tryf.func3, Tryf.ntmps3
      go_wp2_with (go_at_call 5; refine hB.mono ?_; rintro e w ⟨rfl, rfl⟩)
      go_ret
      exact ⟨rfl, Below.refl _ _⟩
    · by_cases h9 : (t.size : Int) < line
      · go_enter Tryf.func3, Tryf.ntmps3
        go_wp2_with (go_at_call 5; refine hB.mono ?_; rintro e w ⟨rfl, rfl⟩)
        go_ret
        exact ⟨rfl, Below.refl _ _⟩
      · exact law_main F line h hF (by omega) (by omega) sn
  · have hB := bytes_no t line w h hs
    go_enter Tryf.func3, Tryf.ntmps3
    go_wp2_with (go_at_call 5; refine hB.mono ?_; rintro e w ⟨rfl, rfl⟩)
    go_ret
    exact ⟨rfl, Below.refl _ _⟩
end
end Go.Proofs.Qxb6612715aFmt.W
