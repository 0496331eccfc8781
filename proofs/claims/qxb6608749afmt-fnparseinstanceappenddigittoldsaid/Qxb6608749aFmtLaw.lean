/-
  Seat b6608749aF: the law FnParseInstanceAppendDigit, walked: it returns true.
-/
import Derived.Test.Qxb6608749aFmtInst1
namespace Go.Proofs.Qxb6608749aFmt.W
open Go.RowKit
open Go.Extern.Stop Go.Stop Go.Extern
open Go.Proofs.Qxb6608749aFmt.Plain
set_option linter.unusedVariables false

theorem append_data (s : ByteArray) (c : UInt8) : (s ++ (⟨#[c]⟩ : ByteArray)).data.toList = s.data.toList ++ [c] := by
  rw [ByteArray.data_append, Array.toList_append]
theorem append_size (s : ByteArray) (c : UInt8) : (s ++ (⟨#[c]⟩ : ByteArray)).size = s.size + 1 := by
  rw [ByteArray.size_append]; rfl

set_option maxHeartbeats 8000000 in
set_option maxRecDepth 100000 in
theorem law_main (F : Interp) (s : ByteArray) (d : Nat) (hs : s.size ≤ 1048576) (hd : d ≤ 9) (t1 t2 : TypeId) (p1 p2 : Value) (w : World) (hF : F.answers w.tape)
    (hv1 : w.cell? ⟨1, 0, none⟩ = some (.iface t1 p1)) (hv2 : w.cell? ⟨2, 0, none⟩ = some (.iface t2 p2)) :
    Calls Tryf.prog 4 #[.string s, .int .i64 d] w fun e w' => e = .returned (.bool true) ∧ Below w.heap.size w w' := by
  obtain ⟨c, hc, hcs⟩ := digit_byte d hd
  have hdt := fun w => digitText_any d w hd
  rw [hcs] at hdt
  have Hc := Lib.hid hc
  clear hc hcs
  go_enter Tryf.func4, Tryf.ntmps4
  go_wp2_with (go_at_call 8; refine (bytes_any _ _ _ hs).mono ?_; rintro e w ⟨rfl, rfl⟩)
  have hG1 : 1 < w.heap.size := Lib.lt_of_cell hv1
  have hG2 : 2 < w.heap.size := Lib.lt_of_cell hv2
  refine (inst_any F s (by omega) t1 t2 p1 p2 w hF hv1 hv2).mono ?_
  rintro e W1 ⟨he1, hb1⟩
  have ha : ∃ (x1 : ByteArray) (n1 : Int) (i1 : Value), e = .returned (.tuple #[.string x1, .int .i64 n1, i1]) := by
    rcases he1 with ⟨x, n, hx, rfl⟩ | ⟨hx, N, rfl⟩
    · exact ⟨_, _, _, rfl⟩
    · exact ⟨_, _, _, rfl⟩
  obtain ⟨x1, n1, i1, rfl⟩ := ha
  go_wp2_with fail
  refine (hdt W1).mono ?_
  rintro e W2 ⟨rfl, hb2⟩
  have hb12 : Below w.heap.size w W2 := hb1.trans (hb2.mono hb1.size)
  have hv1' : W2.cell? ⟨1, 0, none⟩ = some (.iface t1 p1) := (hb12.cell (show (⟨1, 0, none⟩ : Addr).block < w.heap.size from hG1)).trans hv1
  have hv2' : W2.cell? ⟨2, 0, none⟩ = some (.iface t2 p2) := (hb12.cell (show (⟨2, 0, none⟩ : Addr).block < w.heap.size from hG2)).trans hv2
  have hF2 : F.answers W2.tape := by rw [hb12.tape]; exact hF
  go_wp2_with fail
  have hh := inst_any F (s ++ ⟨#[c]⟩) (by rw [append_size]; omega) t1 t2 p1 p2 W2 hF2 hv1' hv2'
  rw [append_data] at hh
  refine hh.mono ?_
  clear hh
  rintro e W3 ⟨he2, hb3⟩
  have hb : Below w.heap.size w W3 := hb12.trans (hb3.mono hb12.size)
  clear hb3 hb2 hb1 hb12 hv1' hv2' hF2 hv1 hv2 hdt
  rcases he1 with ⟨x, n, hx, he⟩ | ⟨hx, N, he⟩
  · simp only [Ending.returned.injEq, Value.tuple.injEq, Array.mk.injEq, List.cons.injEq, Value.string.injEq, Value.int.injEq, true_and, and_true] at he
    obtain ⟨rfl, rfl, rfl⟩ := he
    obtain ⟨hn1, hn2, hxne, hin⟩ := inst_snoc s.data.toList c d Hc.out hd hx
    have hxe : x1.toList.isEmpty = false := by
      rw [Lib.toList_data]
      cases h : x1.data.toList with
      | nil => exact absurd h hxne
      | cons a l => rfl
    rw [hin] at he2
    clear hx hin hxne
    by_cases hle : n * 10 + d ≤ 9223372036854775807
    · rw [if_pos hle] at he2
      rcases he2 with ⟨x, m, hx, rfl⟩ | ⟨hx, _⟩
      · simp only [Option.some.injEq, Prod.mk.injEq] at hx
        obtain ⟨hx1, rfl⟩ := hx
        obtain rfl : x1 = x := ByteArray.ext (Array.toList_inj.1 hx1)
        clear hx1
        go_wp2_with fail
        go_ret
        exact ⟨rfl, hb⟩
      · cases hx
    · rw [if_neg hle] at he2
      rcases he2 with ⟨x, m, hx, rfl⟩ | ⟨hx, N, rfl⟩
      · cases hx
      · clear hx
        go_wp2_with fail
        go_ret
        exact ⟨rfl, hb⟩
  · simp only [Ending.returned.injEq, Value.tuple.injEq, Array.mk.injEq, List.cons.injEq, Value.string.injEq, Value.int.injEq, true_and, and_true] at he
    obtain ⟨rfl, rfl, rfl⟩ := he
    have Hs := fun h => Lib.hid (inst_nohash_snoc s.data.toList c d Hc.out hd h)
    clear hx
    rcases he2 with ⟨x, m, hx, rfl⟩ | ⟨hx, N2, rfl⟩
    · have Hx := Lib.hid hx
      clear hx
      go_wp2_with fail
      refine (hasHash_any s W3 hs).mono ?_
      rintro e W3 ⟨⟨b, rfl, hbb⟩, rfl⟩
      cases b with
      | false =>
        have h1 := (Hs (hbb rfl)).out
        have h2 := Hx.out
        rw [h1] at h2; cases h2
      | true =>
        clear Hs hbb
        go_wp2_with fail
        go_ret
        exact ⟨rfl, hb⟩
    · clear hx Hs
      go_wp2_with fail
      refine (hasHash_any s W3 hs).mono ?_
      rintro e W3 ⟨⟨b, rfl, hbb⟩, rfl⟩
      clear hbb
      cases b
      · go_wp2_with fail
        go_ret
        exact ⟨rfl, hb⟩
      · go_wp2_with fail
        go_ret
        exact ⟨rfl, hb⟩

set_option maxHeartbeats 1000000 in
theorem law_any (F : Interp) (s : ByteArray) (d : Int) (hs : s.size ≤ maxLen) (wd : (Lit.int .i64 d).wf = true) (t1 t2 : TypeId) (p1 p2 : Value) (w : World) (hF : F.answers w.tape)
    (hv1 : w.cell? ⟨1, 0, none⟩ = some (.iface t1 p1)) (hv2 : w.cell? ⟨2, 0, none⟩ = some (.iface t2 p2)) :
    Calls Tryf.prog 4 #[.string s, .int .i64 d] w fun e w' => e = .returned (.bool true) ∧ Below w.heap.size w w' := by
  have hs' := hs
  unfold maxLen at hs'
  by_cases h : s.size ≤ 1048576
  · by_cases h0 : d < 0
    · go_enter Tryf.func4, Tryf.ntmps4
      go_wp2_with (go_at_call 8; refine (bytes_any _ _ _ h).mono ?_; rintro e w ⟨rfl, rfl⟩)
      go_ret
      exact ⟨rfl, Below.refl _ _⟩
    · by_cases h9 : 9 < d
      · go_enter Tryf.func4, Tryf.ntmps4
        go_wp2_with (go_at_call 8; refine (bytes_any _ _ _ h).mono ?_; rintro e w ⟨rfl, rfl⟩)
        go_ret
        exact ⟨rfl, Below.refl _ _⟩
      · obtain ⟨n, rfl⟩ := Int.eq_ofNat_of_zero_le (a := d) (by omega)
        exact law_main F s n h (by omega) t1 t2 p1 p2 w hF hv1 hv2
  · go_enter Tryf.func4, Tryf.ntmps4
    go_wp2_with (go_at_call 8; refine (bytes_no _ _ _ h hs).mono ?_; rintro e w ⟨rfl, rfl⟩)
    go_ret
    exact ⟨rfl, Below.refl _ _⟩
end Go.Proofs.Qxb6608749aFmt.W
