/-
  Seat b6612715aF: (*bufio.Scanner).Err, fmt.Errorf at its one format, (*lineReader).end, ZZend.
-/
import Derived.Test.Qxb6612715aFmtIs
import Derived.Stop.CallBack
import Derived.Stop.IfaceNil
import Derived.BigQuiet
import Derived.Deep.QuietTactic
import Derived.Deep.RegionWith
import Derived.Lib.AtoiErrMem
namespace Go.Proofs.Qxb6612715aFmt.W
open Go.RowKit Go.Extern.Stop Go.Stop Go.Extern
set_option linter.unusedVariables false

/-- The three sentinels that a run compares: errNoLog (a0), io.EOF (a1), bufio.ErrTooLong (a2). -/
structure Sents (w : World) (a0 a1 a2 : Addr) (t2 : ByteArray) : Prop where
  g0 : w.cell? ⟨0, 0, none⟩ = some (.iface 76 (.pointer (some a0)))
  g1 : w.cell? ⟨1, 0, none⟩ = some (.iface 76 (.pointer (some a1)))
  g2 : w.cell? ⟨2, 0, none⟩ = some (.iface 76 (.pointer (some a2)))
  c2 : w.cell? a2 = some (.string t2)
  h0 : ∃ c t, w.heap[a0.block]? = some (.cells c t (0, 0))
  h1 : ∃ c t, w.heap[a1.block]? = some (.cells c t (0, 0))
  h2 : ∃ c t, w.heap[a2.block]? = some (.cells c t (0, 0))
  n01 : a0 ≠ a1
  n02 : a0 ≠ a2
  n12 : a1 ≠ a2

theorem lt_of_heap {w : World} {b : Nat} {o : Obj} (h : w.heap[b]? = some o) : b < w.heap.size := by
  rcases Nat.lt_or_ge b w.heap.size with h' | h'
  · exact h'
  · rw [Array.getElem?_eq_none h'] at h; cases h

/-- They stay. -/
theorem Sents.below {w w' : World} {a0 a1 a2 : Addr} {t2 : ByteArray} {N : Nat} (h : Sents w a0 a1 a2 t2) (hN : w.heap.size ≤ N) (hb : Below N w w') : Sents w' a0 a1 a2 t2 where
  g0 := (hb.cell (p := ⟨0, 0, none⟩) (Nat.lt_of_lt_of_le (Lib.lt_of_cell h.g0) hN)).trans h.g0
  g1 := (hb.cell (p := ⟨1, 0, none⟩) (Nat.lt_of_lt_of_le (Lib.lt_of_cell h.g1) hN)).trans h.g1
  g2 := (hb.cell (p := ⟨2, 0, none⟩) (Nat.lt_of_lt_of_le (Lib.lt_of_cell h.g2) hN)).trans h.g2
  c2 := (hb.cell (p := a2) (Nat.lt_of_lt_of_le (Lib.lt_of_cell h.c2) hN)).trans h.c2
  h0 := by obtain ⟨c, t, hh⟩ := h.h0; exact ⟨c, t, by rw [hb.block _ (Nat.lt_of_lt_of_le (lt_of_heap hh) hN)]; exact hh⟩
  h1 := by obtain ⟨c, t, hh⟩ := h.h1; exact ⟨c, t, by rw [hb.block _ (Nat.lt_of_lt_of_le (lt_of_heap hh) hN)]; exact hh⟩
  h2 := by obtain ⟨c, t, hh⟩ := h.h2; exact ⟨c, t, by rw [hb.block _ (Nat.lt_of_lt_of_le (lt_of_heap hh) hN)]; exact hh⟩
  n01 := h.n01
  n02 := h.n02
  n12 := h.n12

/-- '==' between two sentinels. -/
theorem eql_other {w : World} {a b : Addr} (hne : a ≠ b) (ha : ∃ c t, w.heap[a.block]? = some (.cells c t (0, 0))) (hb : ∃ c t, w.heap[b.block]? = some (.cells c t (0, 0))) (k : Nat) :
    (binOp .eql 32 (.iface 76 (.pointer (some a))) (.iface 76 (.pointer (some b)))).run Tryf.prog (w.drewN k) = .ok (.bool false) (w.drewN k) := by
  obtain ⟨i, hi, hcmp⟩ := Option.map_eq_some_iff.1 is_Comp
  obtain ⟨j, hj, hjs⟩ := Option.map_eq_some_iff.1 is_Size
  obtain ⟨ca, ta, ha⟩ := ha
  obtain ⟨cb, tb, hb⟩ := hb
  exact run_eql_iface_ptr_other (P := Tryf.prog) (w.drewN k) Tryf.underlying32 Tryf.underlying76 hi hcmp hj (by rw [hjs]; decide) hne ha hb
theorem eql_same (w : World) (a : Addr) :
    (binOp .eql 32 (.iface 76 (.pointer (some a))) (.iface 76 (.pointer (some a)))).run Tryf.prog w = .ok (.bool true) w := by
  obtain ⟨i, hi, hcmp⟩ := Option.map_eq_some_iff.1 is_Comp
  obtain ⟨j, hj, hjs⟩ := Option.map_eq_some_iff.1 is_Size
  exact run_eql_iface_ptr_same (P := Tryf.prog) w a Tryf.underlying32 Tryf.underlying76 hi hcmp hj

set_option maxHeartbeats 1000000 in
theorem err_eof (S : Nat) (a1 : Addr) (w : World) (h7 : w.cell? ⟨S, 7, none⟩ = some (.iface 76 (.pointer (some a1)))) (hg : w.cell? ⟨1, 0, none⟩ = some (.iface 76 (.pointer (some a1)))) :
    Calls Tryf.prog 18 #[.pointer (some ⟨S, 0, none⟩)] w fun e w' => e = .returned .nilIface ∧ ∃ k, w' = w.drewN k := by
  have heq := fun W => eql_same W a1
  go_enter Tryf.func18, Tryf.ntmps18
  go_wp2
  go_quiet (fail)
  go_wp2
  go_ret
  exact ⟨rfl, _, rfl⟩

set_option maxHeartbeats 1000000 in
theorem err_long (S : Nat) (a1 a2 : Addr) (w : World) (hne : a2 ≠ a1) (h7 : w.cell? ⟨S, 7, none⟩ = some (.iface 76 (.pointer (some a2)))) (hg : w.cell? ⟨1, 0, none⟩ = some (.iface 76 (.pointer (some a1))))
    (h1 : ∃ c t, w.heap[a1.block]? = some (.cells c t (0, 0))) (h2 : ∃ c t, w.heap[a2.block]? = some (.cells c t (0, 0))) :
    Calls Tryf.prog 18 #[.pointer (some ⟨S, 0, none⟩)] w fun e w' => e = .returned (.iface 76 (.pointer (some a2))) ∧ ∃ k, w' = w.drewN k := by
  have heq := eql_other hne h2 h1
  clear h1 h2
  go_enter Tryf.func18, Tryf.ntmps18
  go_wp2
  go_quiet (fail)
  go_wp2
  go_ret
  exact ⟨rfl, _, rfl⟩

/-! ### fmt.Errorf -/
theorem call25 (args : Array Value) (w : World) : (callFunc 25 args).run Tryf.prog w = ((FmtStop.errorf #[9, 61] #[32] args).run Tryf.prog w).andThen fun v w' => .ok (.value v) w' :=
  run_callFunc_extern Tryf.func25 (by kernel_rfl) (by kernel_rfl) (by kernel_rfl) (by kernel_rfl) args w
theorem guardF (name : String) (w : World) : (FmtStop.guard name).run Tryf.prog w = .ok () w := by kernel_rfl
theorem fmt0 : FmtStop.printed? ⟨#[97, 110, 116, 101, 99, 101, 100, 101, 58, 32, 114, 101, 97, 100, 105, 110, 103, 32, 108, 111, 103, 32, 108, 105, 110, 101, 32, 37, 100, 58, 32, 37, 119]⟩ 2 = some [(0, 100, false), (1, 119, false)] := by kernel_rfl
theorem fmt0r (w : World) : (FmtDoors.printed ⟨#[97, 110, 116, 101, 99, 101, 100, 101, 58, 32, 114, 101, 97, 100, 105, 110, 103, 32, 108, 111, 103, 32, 108, 105, 110, 101, 32, 37, 100, 58, 32, 37, 119]⟩ 2).run Tryf.prog w = .ok [(0, 100, false), (1, 119, false)] w := by kernel_rfl
def shape3 : List UInt8 := [5, 3, 0, 0, 0, 0, 0, 0, 0, 105, 110, 116]
theorem op3 (name : String) (x : Int) (w : World) : (FmtStop.operand name true 100 false (.iface 3 (.int .i64 x))).run Tryf.prog w = .ok (shape3, Go.Extern.Stop.digits 8 (x % 2 ^ 64).toNat) w := by kernel_rfl
theorem ptr63 (w : World) : (FmtStop.ptrTo "fmt.wrapError").run Tryf.prog w = .ok 63 w := by kernel_rfl
theorem elem63 (w : World) : (elemOf 63).run Tryf.prog w = .ok 103 w := by kernel_rfl
theorem isError76 (w : World) : (FmtDoors.textMethod 76 "Error").run Tryf.prog w = .ok true w := by kernel_rfl
/-- The name that a datum's interface bears. -/
def nmOf : DataW Unit → String
  | .iface n _ => n
  | _ => ""
def plain76 : List UInt8 := 14 :: FmtStop.pack (nmOf Rows.laid_io_EOF).toUTF8.data.toList
theorem str76 (w : World) : (typeStr 76).run Tryf.prog w = .ok (nmOf Rows.laid_io_EOF) w := by kernel_rfl
theorem opPlain (name : String) (a : Addr) (s : ByteArray) (w : World) (hc : w.cell? a = some (.string s)) :
    (FmtStop.operand name true 119 false (.iface 76 (.pointer (some a)))).run Tryf.prog w = .ok (plain76, s.data.toList) w := by
  have h1 := str76 w
  have d2 : Tryf.t76.desc = .pointer 78 := rfl
  have d3 : Tryf.t78.desc = .named "errors.errorString" 77 := rfl
  simp [FmtStop.operand, h1, d2, d3, run_load, hc, plain76]

attribute [local go_sem] call25 guardF fmt0 fmt0r op3 ptr63 elem63 isError76

set_option maxHeartbeats 2000000 in
theorem errorf_any (F : Interp) (x : Int) (a2 : Addr) (t2 : ByteArray) (blk : Nat) (w : World) (hF : F.answers w.tape) (hc0 : w.cell? ⟨blk, 0, none⟩ = some (.iface 3 (.int .i64 x)))
    (hc1 : w.cell? ⟨blk, 1, none⟩ = some (.iface 76 (.pointer (some a2)))) (hs : w.cell? a2 = some (.string t2)) :
    Calls Tryf.prog 19 #[.string ⟨#[97, 110, 116, 101, 99, 101, 100, 101, 58, 32, 114, 101, 97, 100, 105, 110, 103, 32, 108, 111, 103, 32, 108, 105, 110, 101, 32, 37, 100, 58, 32, 37, 119]⟩, .slice (some ⟨blk, 0, none⟩) 2 2] w fun e w' =>
      ∃ txt, e = .returned (.iface 63 (.pointer (some ⟨w.heap.size, 0, none⟩))) ∧ w' = (w.alloc (.cells #[.string txt, .iface 76 (.pointer (some a2))] 103)).drew := by
  have hF' := answers_open hF
  have hop := opPlain "fmt.errorf" a2 t2 w hs
  go_enter Tryf.func19, Tryf.ntmps19
  go_wp2
  go_ret
  exact ⟨_, rfl, rfl⟩

/-! ### (*lineReader).end -/
set_option maxHeartbeats 1000000 in
theorem end_none (L : Nat) (a0 : Addr) (w : World) (h0 : w.cell? ⟨L, 0, none⟩ = some (.pointer none)) (hg : w.cell? ⟨0, 0, none⟩ = some (.iface 76 (.pointer (some a0)))) :
    Calls Tryf.prog 13 #[.pointer (some ⟨L, 0, none⟩)] w fun e w' => e = .returned (.iface 76 (.pointer (some a0))) ∧ w' = w := by
  go_enter Tryf.func13, Tryf.ntmps13
  go_wp2
  go_ret
  exact ⟨rfl, rfl⟩

set_option maxHeartbeats 1000000 in
theorem end_eof (L S : Nat) (a1 : Addr) (w : World) (h0 : w.cell? ⟨L, 0, none⟩ = some (.pointer (some ⟨S, 0, none⟩)))
    (h7 : w.cell? ⟨S, 7, none⟩ = some (.iface 76 (.pointer (some a1)))) (hg : w.cell? ⟨1, 0, none⟩ = some (.iface 76 (.pointer (some a1)))) :
    Calls Tryf.prog 13 #[.pointer (some ⟨L, 0, none⟩)] w fun e w' => e = .returned (.iface 76 (.pointer (some a1))) ∧ ∃ k, w' = w.drewN k := by
  go_enter Tryf.func13, Tryf.ntmps13
  go_wp2_with (go_at_call 18; refine (err_eof S a1 _ h7 hg).mono ?_; rintro e w1 ⟨rfl, k, rfl⟩)
  go_ret
  exact ⟨rfl, _, rfl⟩

set_option maxHeartbeats 1000000 in
theorem end_long (F : Interp) (L S : Nat) (line : Int) (a0 a1 a2 : Addr) (t2 : ByteArray) (w : World) (hF : F.answers w.tape) (hl0 : 0 ≤ line) (hl1 : line ≤ 1048576) (h0 : w.cell? ⟨L, 0, none⟩ = some (.pointer (some ⟨S, 0, none⟩))) (h1 : w.cell? ⟨L, 1, none⟩ = some (.int .i64 line))
    (h7 : w.cell? ⟨S, 7, none⟩ = some (.iface 76 (.pointer (some a2)))) (hS : Sents w a0 a1 a2 t2) :
    Calls Tryf.prog 13 #[.pointer (some ⟨L, 0, none⟩)] w fun e w' => ∃ K, w.heap.size ≤ K ∧ e = .returned (.iface 63 (.pointer (some ⟨K, 0, none⟩))) ∧ w'.cell? ⟨K, 0 + 1, none⟩ = some (.iface 76 (.pointer (some a2))) ∧ Below w.heap.size w w' := by
  have hE := fun w' => err_long S a1 a2 w' (Ne.symm hS.n12)
  have hE := hE w h7 hS.g1 hS.h1 hS.h2
  go_enter Tryf.func13, Tryf.ntmps13
  go_wp2_with (go_at_call 18; refine hE.mono ?_; rintro e w1 ⟨rfl, k, rfl⟩)
  have hbk : Below w.heap.size w (w.drewN k) := ⟨rfl, rfl, rfl, Nat.le_refl _, fun _ _ => rfl⟩
  have hbA : Below w.heap.size w ((w.drewN k).alloc (.cells #[.iface 3 (.int .i64 (line + 1)), .iface 76 (.pointer (some a2))] 20)) := hbk.alloc (Nat.le_refl _) _
  have ha2 : a2.block < w.heap.size := Lib.lt_of_cell hS.c2
  have hh := errorf_any F (line + 1) a2 t2 w.heap.size ((w.drewN k).alloc (.cells #[.iface 3 (.int .i64 (line + 1)), .iface 76 (.pointer (some a2))] 20)) (by rw [hbA.tape]; exact hF) (by rw [World.cell?_alloc_at (hn := by simp)]; rfl) (by rw [World.cell?_alloc_at (hn := by simp)]; rfl)
    (by rw [hbA.cell ha2]; exact hS.c2)
  refine hh.mono ?_
  rintro e w2 ⟨txt, rfl, rfl⟩
  go_wp2
  go_ret
  refine ⟨_, ?_, rfl, ?_, ?_⟩
  · simp
  · go_simp
  · exact (hbA.alloc (by simp) _).drew

/-! ### ZZend -/
theorem quiet_calls (k : Nat) (w : World) : (w.drewN k).heap = w.heap := rfl

set_option maxHeartbeats 2000000 in
theorem zzend_none (L : Nat) (a0 a1 a2 : Addr) (t2 : ByteArray) (w : World) (h0 : w.cell? ⟨L, 0, none⟩ = some (.pointer none)) (hS : Sents w a0 a1 a2 t2) :
    Calls Tryf.prog 7 #[.pointer (some ⟨L, 0, none⟩)] w fun e w' => e = .returned (.tuple #[.bool true, .bool true, .bool false, .bool false]) ∧ Below w.heap.size w w' := by
  have q00 := fun W => eql_same W a0
  have q01 := eql_other hS.n01 hS.h0 hS.h1
  have g0 := hS.g0
  have g1 := hS.g1
  have g2 := hS.g2
  obtain ⟨c0, t0, hb0⟩ := hS.h0
  obtain ⟨c2, t2', hb2⟩ := hS.h2
  have hIs := fun k => is_other a0 a2 c0 c2 t0 t2' (w.drewN k) hS.n02 hb0 hb2
  clear hb0 hb2 hS
  go_enter Tryf.func7, Tryf.ntmps7
  go_wp2_with (go_at_call 13; refine (end_none L a0 _ h0 g0).mono ?_; rintro e w ⟨rfl, rfl⟩)
  go_quiet ((go_at_call 14; exact Calls.quiet_of_same (hIs _)))
  go_wp2
  exact bodyPost_ret (v := .tuple #[.bool true, .bool true, .bool false, .bool false]) (by simp [results, Tryf.results7, go_sem]) rfl ⟨rfl, ⟨rfl, rfl, rfl, Nat.le_refl _, fun _ _ => rfl⟩⟩

set_option maxHeartbeats 2000000 in
theorem zzend_eof (L S : Nat) (a0 a1 a2 : Addr) (t2 : ByteArray) (w : World) (h0 : w.cell? ⟨L, 0, none⟩ = some (.pointer (some ⟨S, 0, none⟩)))
    (h7 : w.cell? ⟨S, 7, none⟩ = some (.iface 76 (.pointer (some a1)))) (hS : Sents w a0 a1 a2 t2) :
    Calls Tryf.prog 7 #[.pointer (some ⟨L, 0, none⟩)] w fun e w' => e = .returned (.tuple #[.bool true, .bool false, .bool true, .bool false]) ∧ Below w.heap.size w w' := by
  have hend := end_eof L S a1 w h0 h7 hS.g1
  go_enter Tryf.func7, Tryf.ntmps7
  go_wp2_with (go_at_call 13; refine hend.mono ?_)
  rintro e w1 ⟨rfl, k, hk⟩
  have hb : Below w.heap.size w w1 := by rw [hk]; exact ⟨rfl, rfl, rfl, Nat.le_refl _, fun _ _ => rfl⟩
  clear hk
  have hS1 := hS.below (Nat.le_refl _) hb
  have g0 := hS1.g0
  have g1 := hS1.g1
  have g2 := hS1.g2
  have q11 := fun W => eql_same W a1
  have q10 := eql_other (w := w1) (Ne.symm hS1.n01) hS1.h1 hS1.h0
  obtain ⟨c1, t1, hb1⟩ := hS1.h1
  obtain ⟨c2, t2', hb2⟩ := hS1.h2
  have hIs := fun W (hW : W.heap = w1.heap) => is_other a1 a2 c1 c2 t1 t2' W hS1.n12 (by rw [hW]; exact hb1) (by rw [hW]; exact hb2)
  clear hb1 hb2 hS1 hS hend h0 h7
  go_wp2
  go_quiet ((go_at_call 14; exact Calls.quiet_of_same (hIs _ rfl)))
  go_wp2
  exact bodyPost_ret (v := .tuple #[.bool true, .bool false, .bool true, .bool false]) (by simp [results, Tryf.results7, go_sem]) rfl ⟨rfl, hb.trans ⟨rfl, rfl, rfl, Nat.le_refl _, fun _ _ => rfl⟩⟩

set_option maxHeartbeats 2000000 in
theorem zzend_long (F : Interp) (L S : Nat) (line : Int) (a0 a1 a2 : Addr) (t2 : ByteArray) (w : World) (hF : F.answers w.tape) (hl0 : 0 ≤ line) (hl1 : line ≤ 1048576) (h0 : w.cell? ⟨L, 0, none⟩ = some (.pointer (some ⟨S, 0, none⟩))) (h1 : w.cell? ⟨L, 1, none⟩ = some (.int .i64 line))
    (h7 : w.cell? ⟨S, 7, none⟩ = some (.iface 76 (.pointer (some a2)))) (hS : Sents w a0 a1 a2 t2) :
    Calls Tryf.prog 7 #[.pointer (some ⟨L, 0, none⟩)] w fun e w' => e = .returned (.tuple #[.bool true, .bool false, .bool false, .bool true]) ∧ Below w.heap.size w w' := by
  have hend := end_long F L S line a0 a1 a2 t2 w hF hl0 hl1 h0 h1 h7 hS
  go_enter Tryf.func7, Tryf.ntmps7
  go_wp2_with (go_at_call 13; refine hend.mono ?_)
  rintro e w1 ⟨K, hK, rfl, hK1, hb⟩
  have hS1 := hS.below (Nat.le_refl _) hb
  have g0 := hS1.g0
  have g1 := hS1.g1
  have g2 := hS1.g2
  have q0 := run_eql_iface_types (P := Tryf.prog) 63 76 (.pointer (some ⟨K, 0, none⟩)) (.pointer (some a0)) Tryf.underlying32 (by decide)
  have q1 := run_eql_iface_types (P := Tryf.prog) 63 76 (.pointer (some ⟨K, 0, none⟩)) (.pointer (some a1)) Tryf.underlying32 (by decide)
  have hIs := fun W (hW : W.heap = w1.heap) => is_wrap_same K 0 a2 W (by rw [← hK1]; simp only [World.cell?, hW])
  clear hS1 hS hK1 hend h0 h1 h7
  go_wp2
  go_quiet ((go_at_call 14; exact Calls.quiet_of_same (hIs _ rfl)))
  go_wp2
  exact bodyPost_ret (v := .tuple #[.bool true, .bool false, .bool false, .bool true]) (by simp [results, Tryf.results7, go_sem]) rfl ⟨rfl, hb.trans ⟨rfl, rfl, rfl, Nat.le_refl _, fun _ _ => rfl⟩⟩
end Go.Proofs.Qxb6612715aFmt.W
