/-
  Seat b6608749aF: strconv.ParseUint(s, 10, 63) with its errors: internal/stringslite.Clone, strconv.syntaxError, rangeError, toError (after the kit's shelf texts, turned to this program).
-/
import Derived.Test.Qxb6608749aFmtNum
import Derived.Shelf.Pu.Clone
import Derived.Lib.IfaceEq
import Derived.RegionTactic
import Derived.Deep.RegionWith
namespace Go.Proofs.Qxb6608749aFmt.W
open Go.RowKit Go.Shelf
open Go.Proofs.Qxb6608749aFmt.Plain
set_option linter.unusedVariables false

/-- The shelf's numbers for internal/stringslite.Clone, in this program. -/
def ren : Ren := { f := fun n => if n = 25 then 29 else n, t := fun n => if n = 37 then 36 else if n = 47 then 59 else n, g := fun n => n }
theorem cloneLays : LaysPu.n25 Tryf.prog ren where
  mixed := by kernel_rfl
  f25 := by kernel_rfl
  t0 := by kernel_rfl
  a0 := fun _ => by kernel_rfl
  z0 := fun _ => by kernel_rfl
  v0 := fun _ => by kernel_rfl
  i0 := by kernel_rfl
  t3 := by kernel_rfl
  a3 := fun _ => by kernel_rfl
  z3 := fun _ => by kernel_rfl
  v3 := fun _ => by kernel_rfl
  i3 := by kernel_rfl
  t4 := by kernel_rfl
  a4 := fun _ => by kernel_rfl
  z4 := fun _ => by kernel_rfl
  v4 := fun _ => by kernel_rfl
  i4 := by kernel_rfl
  t5 := by kernel_rfl
  a5 := fun _ => by kernel_rfl
  z5 := fun _ => by kernel_rfl
  v5 := fun _ => by kernel_rfl
  i5 := by kernel_rfl
  t9 := by kernel_rfl
  a9 := fun _ => by kernel_rfl
  z9 := fun _ => by kernel_rfl
  v9 := fun _ => by kernel_rfl
  i9 := by kernel_rfl
  t37 := by kernel_rfl
  a37 := fun _ => by kernel_rfl
  z37 := fun _ => by kernel_rfl
  v37 := fun _ => by kernel_rfl
  i37 := by kernel_rfl
  t47 := by kernel_rfl
  a47 := fun _ => by kernel_rfl
  z47 := fun _ => by kernel_rfl
  v47 := fun _ => by kernel_rfl
  i47 := by kernel_rfl
theorem clone_any (s : ByteArray) (w : World) (hlim : s.size ≤ 281474976710656) :
    Calls Tryf.prog 29 #[.string s] w fun e w' => e = .returned (.string s) ∧ Below w.heap.size w w' :=
  AnyPu.stringslite_Clone cloneLays s w hlim

set_option maxHeartbeats 6400000 in
set_option maxRecDepth 100000 in
theorem syntaxError_any (fn s : ByteArray) (te : TypeId) (pe : Value) (w : World) (hlim : s.size ≤ 281474976710656) (hv : w.cell? ⟨1, 0, none⟩ = some (.iface te pe)) :
    Calls Tryf.prog 21 #[.string fn, .string s] w fun e w' => ∃ N, e = .returned (.pointer (some ⟨N, 0, none⟩)) ∧ Below w.heap.size w w' := by
  have hG : 1 < w.heap.size := Lib.lt_of_cell hv
  have hvd : w.drew.cell? ⟨1, 0, none⟩ = some _ := hv
  go_enter Tryf.func21, Tryf.ntmps21
  go_wp2
  go_region_with (
      go_at_call 29
      refine (clone_any s _ hlim).mono ?_
      rintro e w2 ⟨rfl, hbel⟩
      have hv2 : w2.cell? ⟨1, 0, none⟩ = some _ := (hbel.cell (show (⟨1, 0, none⟩ : Addr).block < w.drew.heap.size from hG)).trans hvd)
  all_goals (
    go_wp2
    go_ret
    have hs2 : w.heap.size ≤ w2.heap.size := hbel.size
    exact ⟨_, rfl, ((Below.drew (Below.refl _ w)).trans hbel).alloc hs2 _⟩)

set_option maxHeartbeats 6400000 in
set_option maxRecDepth 100000 in
theorem rangeError_any (fn s : ByteArray) (te : TypeId) (pe : Value) (w : World) (hlim : s.size ≤ 281474976710656) (hv : w.cell? ⟨2, 0, none⟩ = some (.iface te pe)) :
    Calls Tryf.prog 22 #[.string fn, .string s] w fun e w' => ∃ N, e = .returned (.pointer (some ⟨N, 0, none⟩)) ∧ Below w.heap.size w w' := by
  have hG : 2 < w.heap.size := Lib.lt_of_cell hv
  have hvd : w.drew.cell? ⟨2, 0, none⟩ = some _ := hv
  go_enter Tryf.func22, Tryf.ntmps22
  go_wp2
  go_region_with (
      go_at_call 29
      refine (clone_any s _ hlim).mono ?_
      rintro e w2 ⟨rfl, hbel⟩
      have hv2 : w2.cell? ⟨2, 0, none⟩ = some _ := (hbel.cell (show (⟨2, 0, none⟩ : Addr).block < w.drew.heap.size from hG)).trans hvd)
  all_goals (
    go_wp2
    go_ret
    have hs2 : w.heap.size ≤ w2.heap.size := hbel.size
    exact ⟨_, rfl, ((Below.drew (Below.refl _ w)).trans hbel).alloc hs2 _⟩)

theorem comp42 : (Tryf.prog.info? 42).map (·.comparable) = some true := by kernel_rfl

set_option maxHeartbeats 4000000 in
set_option maxRecDepth 100000 in
/-- strconv.toError at the inner package's ErrRange (1) or ErrSyntax (2): an error that is not nil. -/
theorem toError_any (fn s : ByteArray) (base bits k : Int) (hk : k = 1 ∨ k = 2) (t1 t2 : TypeId) (p1 p2 : Value) (w : World) (hlim : s.size ≤ 281474976710656)
    (hv1 : w.cell? ⟨1, 0, none⟩ = some (.iface t1 p1)) (hv2 : w.cell? ⟨2, 0, none⟩ = some (.iface t2 p2)) :
    Calls Tryf.prog 15 #[.string fn, .string s, .int .i64 base, .int .i64 bits, .iface 42 (.int .i64 k)] w fun e w' => ∃ N, e = .returned (.iface 45 (.pointer (some ⟨N, 0, none⟩))) ∧ Below w.heap.size w w' := by
  rcases hk with rfl | rfl
  · have hq12 : ∀ W, (binOp .eql 25 (.iface 42 (.int .i64 1)) (.iface 42 (.int .i64 2))).run Tryf.prog W = .ok (.bool false) W := fun W => Lib.run_eql_iface_int W 1 2 Tryf.underlying25 comp42 Tryf.underlying42
    have hq11 : ∀ W, (binOp .eql 25 (.iface 42 (.int .i64 1)) (.iface 42 (.int .i64 1))).run Tryf.prog W = .ok (.bool true) W := fun W => Lib.run_eql_iface_int W 1 1 Tryf.underlying25 comp42 Tryf.underlying42
    go_enter Tryf.func15, Tryf.ntmps15
    go_wp2_with (go_at_call 22; refine (rangeError_any fn s t2 p2 _ hlim ?_).mono ?_)
    · exact hv2
    rintro e w2 ⟨N, rfl, h3⟩
    go_wp2
    go_ret
    exact ⟨N, rfl, h3⟩
  · have heq : ∀ W, (binOp .eql 25 (.iface 42 (.int .i64 2)) (.iface 42 (.int .i64 2))).run Tryf.prog W = .ok (.bool true) W := fun W => Lib.run_eql_iface_int W 2 2 Tryf.underlying25 comp42 Tryf.underlying42
    go_enter Tryf.func15, Tryf.ntmps15
    go_wp2_with (go_at_call 21; refine (syntaxError_any fn s t1 p1 _ hlim ?_).mono ?_)
    · exact hv1
    rintro e w2 ⟨N, rfl, h3⟩
    go_wp2
    go_ret
    exact ⟨N, rfl, h3⟩

/-- How ParseUint(s, 10, 63) ends. -/
def EndedP (r : Option Nat) (e : Ending) : Prop :=
  (∃ u : Nat, r = some u ∧ e = .returned (.tuple #[.int .u64 u, .nilIface])) ∨
  (r = none ∧ ∃ (v : Int) (N : Nat), e = .returned (.tuple #[.int .u64 v, .iface 45 (.pointer (some ⟨N, 0, none⟩))]))

set_option maxHeartbeats 4000000 in
set_option maxRecDepth 100000 in
theorem parseInEmpty_any (w : World) :
    Calls Tryf.prog 14 #[.string ⟨#[]⟩, .int .i64 10, .int .i64 63] w fun e w' => e = .returned (.tuple #[.int .u64 0, .iface 42 (.int .i64 2)]) ∧ w' = w := by
  go_enter Tryf.func14, Tryf.ntmps14
  go_wp2
  go_ret2
  exact ⟨rfl, rfl⟩

theorem parseInAll_any (t : ByteArray) (hmax : t.size ≤ 1048577) (w : World) :
    Calls Tryf.prog 14 #[.string t, .int .i64 10, .int .i64 63] w fun e w' => Ended (numTop t.data.toList) e ∧ Below w.heap.size w w' := by
  by_cases h0 : t.size = 0
  · have hs : t = ⟨#[]⟩ := by
      apply ByteArray.ext
      exact Array.eq_empty_of_size_eq_zero h0
    subst hs
    refine (parseInEmpty_any w).mono ?_
    rintro e w' ⟨rfl, rfl⟩
    exact ⟨ended_none _ _ (Or.inr rfl) rfl, Below.refl _ _⟩
  · refine (parseIn_any t h0 hmax w).mono ?_
    rintro e w' ⟨he, rfl⟩
    have hn : numTop t.data.toList = num 0 t.data.toList := by
      unfold numTop
      rw [if_neg]
      intro h
      rw [List.isEmpty_iff] at h
      exact h0 (by rw [Lib.size_eq, h]; rfl)
    rw [hn]
    exact ⟨he, Lib.bytesWorld_below _ _ _⟩

set_option maxHeartbeats 4000000 in
set_option maxRecDepth 100000 in
theorem parse_any (s : ByteArray) (hmax : s.size ≤ 1048577) (t1 t2 : TypeId) (p1 p2 : Value) (w : World)
    (hv1 : w.cell? ⟨1, 0, none⟩ = some (.iface t1 p1)) (hv2 : w.cell? ⟨2, 0, none⟩ = some (.iface t2 p2)) :
    Calls Tryf.prog 11 #[.string s, .int .i64 10, .int .i64 63] w fun e w' => EndedP (numTop s.data.toList) e ∧ Below w.heap.size w w' := by
  have hG1 : 1 < w.heap.size := Lib.lt_of_cell hv1
  have hG2 : 2 < w.heap.size := Lib.lt_of_cell hv2
  go_enter Tryf.func11, Tryf.ntmps11
  go_wp2_with (go_at_call 14; refine (parseInAll_any s hmax _).mono ?_)
  rintro e W1 ⟨he, hb1⟩
  have hv1' : W1.cell? ⟨1, 0, none⟩ = some (.iface t1 p1) := (hb1.cell (show (⟨1, 0, none⟩ : Addr).block < w.heap.size from hG1)).trans hv1
  have hv2' : W1.cell? ⟨2, 0, none⟩ = some (.iface t2 p2) := (hb1.cell (show (⟨2, 0, none⟩ : Addr).block < w.heap.size from hG2)).trans hv2
  rcases he with ⟨u, hu, rfl⟩ | ⟨hn, v, k, hk, rfl⟩
  · have Hu := Lib.hid hu
    clear hu
    go_wp2
    go_ret2
    exact ⟨Or.inl ⟨u, Hu.out, rfl⟩, hb1⟩
  · have Hn := Lib.hid hn
    clear hn
    go_wp2_with (go_at_call 15; refine (toError_any _ s 10 63 k hk t1 t2 p1 p2 _ (by omega) ?_ ?_).mono ?_)
    · exact hv1'
    · exact hv2'
    rintro e W2 ⟨N, rfl, h3⟩
    go_wp2
    go_ret2
    exact ⟨Or.inr ⟨Hn.out, v, N, rfl⟩, hb1.trans (h3.mono hb1.size)⟩
end Go.Proofs.Qxb6608749aFmt.W
