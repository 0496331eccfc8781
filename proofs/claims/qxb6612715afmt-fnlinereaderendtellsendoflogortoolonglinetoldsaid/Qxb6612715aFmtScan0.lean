/-
  Seat b6612715aF: the small methods beneath (*bufio.Scanner).Scan: setErr, advance, bytes.IndexByte, dropCR, ScanLines.
-/
import Derived.Test.Qxb6612715aFmtEnd
import Derived.Lib.BytesEntry
namespace Go.Proofs.Qxb6612715aFmt.W
open Go.RowKit
open Go.Proofs.Qxb6612715aFmt.Plain
set_option linter.unusedVariables false

/-- What a block's cells give a walk. -/
theorem cell_at {w : World} {b k : Nat} {c : Array Value} {t : TypeId} (h : w.heap[b]? = some (.cells c t (0, 0))) : w.cell? ⟨b, k, none⟩ = c[k]? := by simp [World.cell?, h]
theorem froz_at {w : World} {b k : Nat} {c : Array Value} {t : TypeId} (h : w.heap[b]? = some (.cells c t (0, 0))) : w.frozen? ⟨b, k, none⟩ = false := by simp [World.frozen?, h]

set_option maxHeartbeats 1000000 in
theorem setErr_any (S : Nat) (te : TypeId) (pe : Value) (w : World) (h7 : w.cell? ⟨S, 7, none⟩ = some .nilIface) (hz : w.frozen? ⟨S, 7, none⟩ = false) :
    Calls Tryf.prog 23 #[.pointer (some ⟨S, 0, none⟩), .iface te pe] w fun e w' => e = .returned (.tuple #[]) ∧ ∃ k, w' = (w.setCell ⟨S, 7, none⟩ (.iface te pe)).drewN k := by
  go_enter Tryf.func23, Tryf.ntmps23
  go_wp2
  go_quiet (fail)
  go_wp2
  go_end0
  exact ⟨rfl, nq, rfl⟩

set_option maxHeartbeats 1000000 in
theorem advance_any (S : Nat) (st en : Nat) (m : Int) (w : World) (h0 : 0 ≤ m) (hse : (st : Int) + m ≤ (en : Int)) (hle : (en : Int) ≤ 1048576) (h5 : w.cell? ⟨S, 5, none⟩ = some (.int .i64 st)) (h6 : w.cell? ⟨S, 6, none⟩ = some (.int .i64 en)) (hz : w.frozen? ⟨S, 5, none⟩ = false) :
    Calls Tryf.prog 24 #[.pointer (some ⟨S, 0, none⟩), .int .i64 m] w fun e w' => e = .returned (.bool true) ∧ ∃ k, w' = (w.setCell ⟨S, 5, none⟩ (.int .i64 ((st : Int) + m))).drewN k := by
  go_enter Tryf.func24, Tryf.ntmps24
  go_wp2
  go_quiet (fail)
  go_wp2
  go_ret
  exact ⟨rfl, _, rfl⟩

/-- The bytes ps lie in block b from place o on. -/
def Lies (w : World) (b o : Nat) (ps : List UInt8) : Prop := ∀ j x, ps[j]? = some x → w.cell? ⟨b, o + j, none⟩ = some (.int .u8 x.toNat)

theorem bytesOf_nums (ps : List UInt8) : Lib.bytesOf (ps.map fun x => (x.toNat : Int)) = ps := by
  unfold Lib.bytesOf
  rw [List.map_map]
  conv => rhs; rw [← List.map_id ps]
  apply List.map_congr_left
  intro x _
  simp

set_option maxHeartbeats 1000000 in
theorem indexByte_any (b o c : Nat) (ps : List UInt8) (w : World) (h : Lies w b o ps) :
    Calls Tryf.prog 27 #[.slice (some ⟨b, o, none⟩) ps.length c, .int .u8 10] w fun e w' => e = .returned (.int .i64 (Lib.indexByte ps 10)) ∧ w' = w := by
  have hrun := Lib.run_indexByteSlice (P := Tryf.prog) (w := w) b o ps.length c (ps.map fun x => (x.toNat : Int)) (by simp) (fun i hi => by
    rw [h i ps[i] (List.getElem?_eq_getElem hi)]
    simp [List.getD, hi]) 10
  rw [bytesOf_nums] at hrun
  go_enter Tryf.func27, Tryf.ntmps27
  go_wp2
  rw [run_callFunc_extern Tryf.func29 (by kernel_rfl) (by kernel_rfl) (by kernel_rfl) (e := Extern.BytealgIndexByte.indexByte) (by kernel_rfl), hrun]
  simp only [Result.andThen]
  rw [Oper.upon_value]
  go_wp2
  go_ret
  exact ⟨rfl, rfl⟩

/-- The length of a line without its carriage return. -/
def crLen (ps : List UInt8) : Nat := if ps[ps.length - 1]? = some 13 then ps.length - 1 else ps.length

set_option maxRecDepth 10000 in
set_option maxHeartbeats 1000000 in
theorem dropCR_any (b o c : Nat) (ps : List UInt8) (w : World) (h : Lies w b o ps) (hl : (ps.length : Int) ≤ 1048576) (hc : ps.length ≤ c) (hc0 : 0 < c) :
    Calls Tryf.prog 28 #[.slice (some ⟨b, o, none⟩) ps.length c] w fun e w' => e = .returned (.slice (some ⟨b, o, none⟩) (crLen ps) c) ∧ w' = w := by
  by_cases h0 : ps.length = 0
  · have hcr : crLen ps = 0 := by
      obtain rfl := List.eq_nil_of_length_eq_zero h0
      rfl
    rw [h0, hcr]
    go_enter Tryf.func28, Tryf.ntmps28
    go_wp2
    go_ret
    exact ⟨rfl, rfl⟩
  · have hpos : (0 : Int) < (ps.length : Int) := by omega
    have hlast : ps[ps.length - 1]? = some (ps[ps.length - 1]'(by omega)) := List.getElem?_eq_getElem (by omega)
    have hcell := h (ps.length - 1) (ps[ps.length - 1]'(by omega)) hlast
    have hcr : crLen ps = if (ps[ps.length - 1]'(by omega)) = 13 then ps.length - 1 else ps.length := by
      unfold crLen
      rw [hlast]
      simp only [Option.some.injEq]
    rw [hcr]
    clear hcr hlast
    generalize (ps[ps.length - 1]'(by omega)) = x at hcell ⊢
    generalize ps.length = n at *
    have hcell : w.cell? ⟨b, o + ((n : Int) - 1).toNat, none⟩ = some (.int .u8 x.toNat) := by rw [show ((n : Int) - 1).toNat = n - 1 from by omega]; exact hcell
    have hl' : (n : Int) ≤ 1048576 := by omega
    have hc' : (n : Int) ≤ (c : Int) := by omega
    clear h h0 hl hc
    by_cases hx : x = 13
    · have hxb : ((x.toNat : Int) == 13) = true := by rw [hx]; rfl
      rw [if_pos hx]
      clear hx
      go_enter Tryf.func28, Tryf.ntmps28
      go_wp2
      go_ret
      exact ⟨rfl, rfl⟩
    · have hxb : ((x.toNat : Int) == 13) = false := by
        rw [beq_eq_false_iff_ne]
        exact fun e => hx (Lib.byte_eq_of_toNat (b := 13) e)
      rw [if_neg hx]
      clear hx
      go_enter Tryf.func28, Tryf.ntmps28
      go_wp2
      go_ret
      exact ⟨rfl, rfl⟩

theorem dropCR_n (b o c n : Nat) (ps : List UInt8) (w : World) (hn : ps.length = n) (h : Lies w b o ps) (hl : (n : Int) ≤ 1048576) (hc : n ≤ c) (hc0 : 0 < c) :
    Calls Tryf.prog 28 #[.slice (some ⟨b, o, none⟩) n c] w fun e w' => e = .returned (.slice (some ⟨b, o, none⟩) (crLen ps) c) ∧ w' = w := by
  subst hn
  exact dropCR_any b o c ps w h hl hc hc0
theorem index_n (b o c n : Nat) (ps : List UInt8) (w : World) (hn : ps.length = n) (h : Lies w b o ps) :
    Calls Tryf.prog 27 #[.slice (some ⟨b, o, none⟩) n c, .int .u8 10] w fun e w' => e = .returned (.int .i64 (Lib.indexByte ps 10)) ∧ w' = w := by
  subst hn
  exact indexByte_any b o c ps w h

set_option maxHeartbeats 1000000 in
theorem split_hit (b o c n i : Nat) (ps : List UInt8) (eof : Bool) (w : World) (hn : ps.length = n) (h : Lies w b o ps) (hi : Lib.indexByte ps 10 = i) (hil : i < n) (hl : (n : Int) ≤ 1048576) (hc : n ≤ c) :
    Calls Tryf.prog 22 #[.slice (some ⟨b, o, none⟩) n c, .bool eof] w fun e w' => e = .returned (.tuple #[.int .i64 ((i : Int) + 1), .slice (some ⟨b, o, none⟩) (crLen (ps.take i)) c, .nilIface]) ∧ w' = w := by
  have hx := fun w (h : Lies w b o ps) => index_n b o c n ps w hn h
  rw [hi] at hx
  have hd := fun w (h : Lies w b o ps) => dropCR_n b o c i (ps.take i) w (by rw [List.length_take]; omega) (fun j x hj => h j x (by
    rw [List.getElem?_take] at hj
    split at hj
    · exact hj
    · cases hj)) (by omega) (by omega) (by omega)
  generalize crLen (ps.take i) = cl at hd ⊢
  have H := Lib.hid h
  have hn0 : ((n : Int) == 0) = false := by rw [beq_eq_false_iff_ne]; omega
  have hi1 : (i : Int) ≤ (c : Int) := by omega
  have hi2 : (i : Int) ≤ 1048576 := by omega
  clear hi hn h hc hil
  cases eof
  · go_enter Tryf.func22, Tryf.ntmps22
    go_wp2_with (first | (go_at_call 27; refine (hx _ H).mono ?_; rintro e w ⟨rfl, rfl⟩) | (go_at_call 28; refine (hd _ H).mono ?_; rintro e w ⟨rfl, rfl⟩))
    go_ret3
    exact ⟨rfl, rfl⟩
  · go_enter Tryf.func22, Tryf.ntmps22
    go_wp2_with (first | (go_at_call 27; refine (hx _ H).mono ?_; rintro e w ⟨rfl, rfl⟩) | (go_at_call 28; refine (hd _ H).mono ?_; rintro e w ⟨rfl, rfl⟩))
    go_ret3
    exact ⟨rfl, rfl⟩

set_option maxHeartbeats 1000000 in
theorem split_miss (b o c n : Nat) (ps : List UInt8) (w : World) (hn : ps.length = n) (h : Lies w b o ps) (hi : Lib.indexByte ps 10 = -1) :
    Calls Tryf.prog 22 #[.slice (some ⟨b, o, none⟩) n c, .bool false] w fun e w' => e = .returned (.tuple #[.int .i64 0, .slice none 0 0, .nilIface]) ∧ w' = w := by
  have hx := fun w (h : Lies w b o ps) => index_n b o c n ps w hn h
  rw [hi] at hx
  have H := Lib.hid h
  clear hi hn h
  go_enter Tryf.func22, Tryf.ntmps22
  go_wp2_with (first | (go_at_call 27; refine (hx _ H).mono ?_; rintro e w ⟨rfl, rfl⟩))
  go_ret3
  exact ⟨rfl, rfl⟩

set_option maxHeartbeats 1000000 in
theorem split_last (b o c n : Nat) (ps : List UInt8) (w : World) (hn : ps.length = n) (h : Lies w b o ps) (hi : Lib.indexByte ps 10 = -1) (h0 : 0 < n) (hl : (n : Int) ≤ 1048576) (hc : n ≤ c) :
    Calls Tryf.prog 22 #[.slice (some ⟨b, o, none⟩) n c, .bool true] w fun e w' => e = .returned (.tuple #[.int .i64 n, .slice (some ⟨b, o, none⟩) (crLen ps) c, .nilIface]) ∧ w' = w := by
  have hx := fun w (h : Lies w b o ps) => index_n b o c n ps w hn h
  rw [hi] at hx
  have hd := fun w (h : Lies w b o ps) => dropCR_n b o c n ps w hn h hl hc (by omega)
  generalize crLen ps = cl at hd ⊢
  have H := Lib.hid h
  have hn0 : ((n : Int) == 0) = false := by rw [beq_eq_false_iff_ne]; omega
  clear hi hn h hc h0
  go_enter Tryf.func22, Tryf.ntmps22
  go_wp2_with (first | (go_at_call 27; refine (hx _ H).mono ?_; rintro e w ⟨rfl, rfl⟩) | (go_at_call 28; refine (hd _ H).mono ?_; rintro e w ⟨rfl, rfl⟩))
  go_ret3
  exact ⟨rfl, rfl⟩

set_option maxHeartbeats 1000000 in
theorem split_end (d : Option Addr) (c : Nat) (w : World) :
    Calls Tryf.prog 22 #[.slice d 0 c, .bool true] w fun e w' => e = .returned (.tuple #[.int .i64 0, .slice none 0 0, .nilIface]) ∧ w' = w := by
  go_enter Tryf.func22, Tryf.ntmps22
  go_wp2
  go_ret3
  exact ⟨rfl, rfl⟩
end Go.Proofs.Qxb6612715aFmt.W
