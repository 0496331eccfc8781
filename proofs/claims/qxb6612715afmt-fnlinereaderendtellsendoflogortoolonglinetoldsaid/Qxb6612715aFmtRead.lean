/-
  Seat b6612715aF: (*strings.Reader).Read.
-/
import Derived.Test.Qxb6612715aFmtScan0
import Derived.Laws.CopyOwn
import Derived.Lib.BufferWrite
namespace Go.Proofs.Qxb6612715aFmt.W
open Go.RowKit
open Go.Proofs.Qxb6612715aFmt.Plain
set_option linter.unusedVariables false

/-- The same memory; only the count of draws may differ. -/
def Mem (x w : World) : Prop := w.heap = x.heap ∧ w.os = x.os ∧ w.tape = x.tape ∧ w.output = x.output

theorem Mem.setCell {x w : World} (h : Mem x w) (a : Addr) (v : Value) : Mem (x.setCell a v) (w.setCell a v) := by
  obtain ⟨h1, h2, h3, h4⟩ := h
  exact ⟨by simp [World.setCell, h1], h2, h3, h4⟩
theorem Mem.drew {x w : World} (h : Mem x w) : Mem x w.drew := h
theorem Mem.refl (w : World) : Mem w w := ⟨rfl, rfl, rfl, rfl⟩
theorem Mem.trans {x y z : World} (h : Mem x y) (g : Mem y z) : Mem x z := ⟨g.1.trans h.1, g.2.1.trans h.2.1, g.2.2.1.trans h.2.2.1, g.2.2.2.trans h.2.2.2⟩
theorem Mem.below {N : Nat} {x w : World} (h : Mem x w) : Below N x w := ⟨h.2.1, h.2.2.1, h.2.2.2, by rw [h.1]; exact Nat.le_refl _, fun _ _ => by rw [h.1]⟩

theorem size5 : (Tryf.prog.info? 5).map (·.size) = some 1 := by kernel_rfl

/-- 'copy(dst, s)', s a string, dst in row g from place o on: as many bytes as the shorter has. -/
theorem run_copy_str (w : World) (g o dLen dCap m : Nat) (s : ByteArray) (cur : Array Value) (t : TypeId)
    (hg : w.heap[g]? = some (.cells cur t (0, 0))) (hm : m = Nat.min s.size dLen) (hfit : o + m ≤ cur.size) :
    (Builtin.copy_ #[36, 9] 3 #[.slice (some ⟨g, o, none⟩) dLen dCap, .string s]).run Tryf.prog w =
      .ok (.int .i64 m) (w.setRow g (cur.toList.take o ++ Lib.byteCells (s.data.toList.take m) ++ cur.toList.drop (o + m)).toArray) := by
  have hlen : (Lib.byteCells (s.data.toList.take m)).length = m := by
    rw [Lib.byteCells_length, List.length_take, ← Lib.size_eq, hm]
    exact Nat.min_eq_left (Nat.min_le_left _ _)
  have hst := run_storeCells_at Tryf.prog g o t (Lib.byteCells (s.data.toList.take m)) 0 cur w hg (by rw [hlen]; simpa using hfit) (Lib.byteCells_one _)
  rw [hlen] at hst
  simp only [Nat.add_zero] at hst
  have htk : List.take m (List.map (fun b : UInt8 => Value.int IntKind.u8 (b.toNat : Int)) s.data.toList) = Lib.byteCells (s.data.toList.take m) := by
    rw [← List.map_take]; rfl
  have hu := Tryf.underlying36
  cases hq : Tryf.prog.info? 5 with
  | none => have := size5; simp [hq] at this
  | some i =>
    simp [Builtin.copy_, run_underlying hu, Builtin.lenOf, Builtin.firstCells, sizeOf, typeInfo, hq, ← hm]
    rw [htk, hst]
    simp [Result.andThen, goInt]

set_option maxHeartbeats 1000000 in
theorem read_eof (R : Nat) (t : ByteArray) (ri : Nat) (b : Value) (a1 : Addr) (w : World) (hs : t.size ≤ 1048576) (hri : t.size ≤ ri) (hr : (ri : Int) ≤ 1048576) (h0 : w.cell? ⟨R, 0, none⟩ = some (.string t)) (h1 : w.cell? ⟨R, 1, none⟩ = some (.int .i64 ri))
    (hg : w.cell? ⟨1, 0, none⟩ = some (.iface 76 (.pointer (some a1)))) :
    Calls Tryf.prog 47 #[.pointer (some ⟨R, 0, none⟩), b] w fun e w' => e = .returned (.tuple #[.int .i64 0, .iface 76 (.pointer (some a1))]) ∧ Mem w w' := by
  go_enter Tryf.func47, Tryf.ntmps47
  go_wp2
  go_quiet (fail)
  go_wp2
  go_quiet (fail)
  go_wp2
  go_ret2
  exact ⟨rfl, rfl, rfl, rfl, rfl⟩

set_option maxHeartbeats 2000000 in
theorem read_some (R B o dl dc m : Nat) (t : ByteArray) (ri : Nat) (pr : Int) (M : Array Value) (w : World) (hs : t.size ≤ 1048576) (hri : ri < t.size) (hm : m = Nat.min (t.size - ri) dl) (hfit : o + m ≤ M.size) (hne : B ≠ R)
    (hR : w.heap[R]? = some (.cells #[.string t, .int .i64 ri, .int .i64 pr] 55 (0, 0))) (hB : w.heap[B]? = some (.cells M 5 (0, 0))) :
    Calls Tryf.prog 47 #[.pointer (some ⟨R, 0, none⟩), .slice (some ⟨B, o, none⟩) dl dc] w fun e w' => e = .returned (.tuple #[.int .i64 m, .nilIface]) ∧
      Mem (((w.setCell ⟨R, 2, none⟩ (.int .i64 (-1))).setRow B (M.toList.take o ++ Lib.byteCells ((t.data.toList.drop ri).take m) ++ M.toList.drop (o + m)).toArray).setCell ⟨R, 1, none⟩ (.int .i64 ((ri : Int) + m))) w' := by
  have h0 := cell_at (k := 0) hR
  have h1 := cell_at (k := 1) hR
  have h2 := cell_at (k := 2) hR
  have hz := fun k => froz_at (k := k) hR
  simp at h0 h1 h2
  have hB1 : (w.setCell ⟨R, 2, none⟩ (.int .i64 (-1))).heap[B]? = some (.cells M 5 (0, 0)) := by rw [heap_setCell_other _ _ _ _ hne]; exact hB
  have hcp := fun (W : World) (hW : W.heap = (w.setCell ⟨R, 2, none⟩ (.int .i64 (-1))).heap) => run_copy_str W B o dl dc m (t.extract ri t.size) M 5 (by rw [hW]; exact hB1) (by rw [hm, ByteArray.size_extract]; congr 1; omega) hfit
  have hex : (t.extract ri t.size).data.toList.take m = (t.data.toList.drop ri).take m := by
    rw [Lib.extract_data, List.take_take]
    congr 1
    rw [hm]
    have := Nat.min_le_left (t.size - ri) dl
    exact Nat.min_eq_left this
  rw [hex] at hcp
  generalize (M.toList.take o ++ Lib.byteCells ((t.data.toList.drop ri).take m) ++ M.toList.drop (o + m)).toArray = Y at hcp
  have c1 : (0 : Int) ≤ (ri : Int) := by omega
  have c2 : (ri : Int) < (t.size : Int) := by omega
  have c3 : (ri : Int) + (m : Int) ≤ 1048576 := by
    have : m ≤ t.size - ri := by rw [hm]; exact Nat.min_le_left _ _
    omega
  clear hm hex
  go_enter Tryf.func47, Tryf.ntmps47
  go_wp2
  go_quiet (fail)
  go_wp2
  have hcp' := hcp (((w.drewN nq).setCell ⟨R, 2, none⟩ (.int .i64 (-1))).drew) rfl
  clear hcp
  obtain ⟨W2, hW2⟩ : ∃ W2, W2 = (((w.drewN nq).setCell ⟨R, 2, none⟩ (.int .i64 (-1))).drew).setRow B Y := ⟨_, rfl⟩
  rw [← hW2] at hcp'
  have hR1 : (w.setCell ⟨R, 2, none⟩ (.int .i64 (-1))).heap[R]? = some (.cells #[.string t, .int .i64 ri, .int .i64 (-1)] 55 (0, 0)) := by
    rw [heap_setCell_same _ _ _ _ _ _ hR]; rfl
  have hR2 : W2.heap[R]? = some (.cells #[.string t, .int .i64 ri, .int .i64 (-1)] 55 (0, 0)) := by
    rw [hW2, setRow_other _ _ _ _ (Ne.symm hne)]; exact hR1
  have k1 := cell_at (k := 1) hR2
  have kz := fun k => froz_at (k := k) hR2
  simp at k1
  have hMem : Mem ((w.setCell ⟨R, 2, none⟩ (.int .i64 (-1))).setRow B Y) W2 := by rw [hW2]; exact ⟨rfl, rfl, rfl, rfl⟩
  have HM := Lib.hid hMem
  clear hR1 hR2 hW2 hMem hR hB hB1 h2
  go_region
  clear h0 h1 hz hcp'
  go_wp2
  go_ret2
  exact ⟨rfl, HM.out.setCell _ _⟩
end Go.Proofs.Qxb6612715aFmt.W
