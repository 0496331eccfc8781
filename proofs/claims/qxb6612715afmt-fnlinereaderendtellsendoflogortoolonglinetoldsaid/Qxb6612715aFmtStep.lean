/-
  Seat b6612715aF: how a line reader's state in memory changes: the laws of Mm, Buf and St. No Go in sight.
-/
import Derived.Test.Qxb6612715aFmtScan1
namespace Go.Proofs.Qxb6612715aFmt.W
open Go.RowKit
open Go.Proofs.Qxb6612715aFmt.Plain
set_option linter.unusedVariables false

section
variable {w0 w w' : World} {t : ByteArray} {line : Int} {p ri st en n : Nat} {tok buf err : Value} {emp : Int} {sc : Bool}

theorem Mm.mem (h : Mm w0 w t line ri tok buf st en err emp sc) (g : Mem w w') : Mm w0 w' t line ri tok buf st en err emp sc :=
  ⟨h.below.trans g.below, by rw [g.1]; exact h.hR, by rw [g.1]; exact h.hS, by rw [g.1]; exact h.hL⟩

theorem Mm.setS (h : Mm w0 w t line ri tok buf st en err emp sc) (k : Nat) (v : Value) {tok' buf' err' : Value} {st' en' : Nat} {emp' : Int} {sc' : Bool}
    (hc : (scanCells w0.heap.size tok buf st en err emp sc).setIfInBounds k v = scanCells w0.heap.size tok' buf' st' en' err' emp' sc') :
    Mm w0 (w.setCell ⟨w0.heap.size + 1, k, none⟩ v) t line ri tok' buf' st' en' err' emp' sc' := by
  refine ⟨h.below.setCell (by simp) v, ?_, ?_, ?_⟩
  · rw [heap_setCell_other _ _ _ _ (by simp)]; exact h.hR
  · rw [← hc]; exact heap_setCell_same _ _ _ _ _ _ h.hS
  · rw [heap_setCell_other _ _ _ _ (by simp)]; exact h.hL

theorem Mm.set3 (h : Mm w0 w t line ri tok buf st en err emp sc) (v : Value) : Mm w0 (w.setCell ⟨w0.heap.size + 1, 3, none⟩ v) t line ri v buf st en err emp sc := h.setS 3 v rfl
theorem Mm.set4 (h : Mm w0 w t line ri tok buf st en err emp sc) (v : Value) : Mm w0 (w.setCell ⟨w0.heap.size + 1, 4, none⟩ v) t line ri tok v st en err emp sc := h.setS 4 v rfl
theorem Mm.set5 (h : Mm w0 w t line ri tok buf st en err emp sc) (k : Nat) (z : Int) (hz : z = (k : Int)) : Mm w0 (w.setCell ⟨w0.heap.size + 1, 5, none⟩ (.int .i64 z)) t line ri tok buf k en err emp sc := h.setS 5 _ (by subst hz; rfl)
theorem Mm.set6 (h : Mm w0 w t line ri tok buf st en err emp sc) (k : Nat) (z : Int) (hz : z = (k : Int)) : Mm w0 (w.setCell ⟨w0.heap.size + 1, 6, none⟩ (.int .i64 z)) t line ri tok buf st k err emp sc := h.setS 6 _ (by subst hz; rfl)
theorem Mm.set7 (h : Mm w0 w t line ri tok buf st en err emp sc) (v : Value) : Mm w0 (w.setCell ⟨w0.heap.size + 1, 7, none⟩ v) t line ri tok buf st en v emp sc := h.setS 7 v rfl
theorem Mm.set8 (h : Mm w0 w t line ri tok buf st en err emp sc) (z : Int) : Mm w0 (w.setCell ⟨w0.heap.size + 1, 8, none⟩ (.int .i64 z)) t line ri tok buf st en err z sc := h.setS 8 _ rfl

theorem Mm.setRow (h : Mm w0 w t line ri tok buf st en err emp sc) (B : Nat) (Y : Array Value) (hB : w0.heap.size + 3 ≤ B) : Mm w0 (w.setRow B Y) t line ri tok buf st en err emp sc := by
  refine ⟨⟨h.below.os, h.below.tape, h.below.output, by rw [setRow_size]; exact h.below.size, fun k hk => ?_⟩, ?_, ?_, ?_⟩
  · rw [setRow_other _ _ _ _ (by omega)]; exact h.below.block k hk
  · rw [setRow_other _ _ _ _ (by omega)]; exact h.hR
  · rw [setRow_other _ _ _ _ (by omega)]; exact h.hS
  · rw [setRow_other _ _ _ _ (by omega)]; exact h.hL

theorem lt_heap {w : World} {b : Nat} {o : Obj} (h : w.heap[b]? = some o) : b < w.heap.size := by
  rcases Nat.lt_or_ge b w.heap.size with h' | h'
  · exact h'
  · rw [Array.getElem?_eq_none h'] at h; cases h

theorem Mm.alloc (h : Mm w0 w t line ri tok buf st en err emp sc) (o : Obj) : Mm w0 (w.alloc o) t line ri tok buf st en err emp sc := by
  have hl := lt_heap h.hL
  refine ⟨h.below.alloc (by omega) o, ?_, ?_, ?_⟩
  · rw [Below.heap_alloc _ _ _ (by omega)]; exact h.hR
  · rw [Below.heap_alloc _ _ _ (by omega)]; exact h.hS
  · rw [Below.heap_alloc _ _ _ (by omega)]; exact h.hL

theorem Mm.setR2 (h : Mm w0 w t line ri tok buf st en err emp sc) (z : Int) : Mm w0 (w.setCell ⟨w0.heap.size, 2, none⟩ (.int .i64 z)) t line ri tok buf st en err emp sc := by
  obtain ⟨pr, hR⟩ := h.hR
  refine ⟨h.below.setCell (by simp) _, ⟨z, ?_⟩, ?_, ?_⟩
  · rw [heap_setCell_same _ _ _ _ _ _ hR]; rfl
  · rw [heap_setCell_other _ _ _ _ (by simp)]; exact h.hS
  · rw [heap_setCell_other _ _ _ _ (by simp)]; exact h.hL

theorem Mm.setR1 (h : Mm w0 w t line ri tok buf st en err emp sc) (m : Nat) : Mm w0 (w.setCell ⟨w0.heap.size, 1, none⟩ (.int .i64 ((ri : Int) + (m : Int)))) t line (ri + m) tok buf st en err emp sc := by
  obtain ⟨pr, hR⟩ := h.hR
  refine ⟨h.below.setCell (by simp) _, ⟨pr, ?_⟩, ?_, ?_⟩
  · rw [heap_setCell_same _ _ _ _ _ _ hR]; rfl
  · rw [heap_setCell_other _ _ _ _ (by simp)]; exact h.hS
  · rw [heap_setCell_other _ _ _ _ (by simp)]; exact h.hL


theorem Win.same {B : Nat} (h : Win w t B p st en n) (hh : w'.heap[B]? = w.heap[B]?) : Win w' t B p st en n := by
  obtain ⟨M, hM, a, b⟩ := h
  exact ⟨M, hh.trans hM, a, b⟩

theorem Buf.mem (h : Buf w0 w t buf p st en n) (g : Mem w w') : Buf w0 w' t buf p st en n := by
  rcases h with h | ⟨B, hB, e, h0, hw⟩
  · exact .inl h
  · exact .inr ⟨B, hB, e, h0, hw.same (by rw [g.1])⟩

theorem Buf.setS (h : Buf w0 w t buf p st en n) (b k : Nat) (v : Value) (hb : b < w0.heap.size + 3) : Buf w0 (w.setCell ⟨b, k, none⟩ v) t buf p st en n := by
  rcases h with h | ⟨B, hB, e, h0, hw⟩
  · exact .inl h
  · exact .inr ⟨B, hB, e, h0, hw.same (heap_setCell_other _ _ _ _ (by simp only; omega))⟩

theorem Buf.slice (h : Buf w0 w t buf p st en n) : ∃ bo, buf = .slice bo n n := by
  rcases h with ⟨rfl, rfl⟩ | ⟨B, hB, rfl, h0, hw⟩
  · exact ⟨none, rfl⟩
  · exact ⟨_, rfl⟩

/-- The window's head is eaten. -/
theorem Buf.eat (h : Buf w0 w t buf p st en n) (k : Nat) (hk : st + k ≤ en) : Buf w0 w t buf (p + k) (st + k) en n := by
  rcases h with h | ⟨B, hB, e, h0, M, hM, hs, hw⟩
  · exact .inl h
  · refine .inr ⟨B, hB, e, h0, M, hM, hs, fun j h1 h2 => ?_⟩
    obtain ⟨x, hx, hx'⟩ := hw j (by omega) h2
    exact ⟨x, by rw [show p + k + (j - (st + k)) = p + (j - st) from by omega]; exact hx, hx'⟩

/-- An empty window. -/
theorem Buf.void (h : Buf w0 w t buf p st en n) (p' k : Nat) : Buf w0 w t buf p' k k n := by
  rcases h with h | ⟨B, hB, e, h0, M, hM, hs, hw⟩
  · exact .inl h
  · exact .inr ⟨B, hB, e, h0, M, hM, hs, fun j h1 h2 => by omega⟩

/-- The window's bytes. -/
def bytes (t : ByteArray) (p k : Nat) : List UInt8 := (t.data.toList.drop p).take k
theorem bytes_length (hk : p + (en - st) = ri) (h : ri ≤ t.size) : (bytes t p (en - st)).length = en - st := by
  unfold bytes
  have : t.data.toList.length = t.size := rfl
  rw [List.length_take, List.length_drop]; omega
theorem bytes_get {k j : Nat} (h : j < k) : (bytes t p k)[j]? = t.data.toList[p + j]? := by
  unfold bytes
  rw [List.getElem?_take_of_lt h, List.getElem?_drop]

theorem Win.lies {B : Nat} (h : Win w t B p st en n) : Lies w B st (bytes t p (en - st)) := by
  obtain ⟨M, hM, hs, hw⟩ := h
  intro j x hx
  rcases Nat.lt_or_ge j (en - st) with hj | hj
  · rw [bytes_get hj] at hx
    obtain ⟨y, hy, hy'⟩ := hw (st + j) (by omega) (by omega)
    rw [show p + (st + j - st) = p + j from by omega, hx] at hy
    injection hy with hy
    rw [cell_at hM, hy', hy]
  · rw [List.getElem?_eq_none] at hx
    · cases hx
    · unfold bytes; rw [List.length_take]; omega

/-- The window's cells, as they lie. -/
theorem Win.cut {B : Nat} (h : Win w t B p st en n) (h1 : st ≤ en) (h2 : en ≤ n) : ∃ (M : Array Value) (cs : List Value), w.heap[B]? = some (.cells M 5 (0, 0)) ∧ M.size = n ∧ cs.length = en - st ∧
    (∀ j v, cs[j]? = some v → w.cell? ⟨B, st + j, none⟩ = some v) ∧ (∀ v ∈ cs, v.oneCell' = true) ∧ (∀ j, j < en - st → ∃ x, t.data.toList[p + j]? = some x ∧ cs[j]? = some (.int .u8 x.toNat)) := by
  obtain ⟨M, hM, hs, hw⟩ := h
  have hl : M.toList.length = n := by simp [hs]
  have key : ∀ j, j < en - st → ∃ x, t.data.toList[p + j]? = some x ∧ ((M.toList.drop st).take (en - st))[j]? = some (.int .u8 x.toNat) := by
    intro j hj
    obtain ⟨y, hy, hy'⟩ := hw (st + j) (by omega) (by omega)
    rw [show p + (st + j - st) = p + j from by omega] at hy
    refine ⟨y, hy, ?_⟩
    rw [List.getElem?_take_of_lt hj, List.getElem?_drop, Array.getElem?_toList]; exact hy'
  refine ⟨M, (M.toList.drop st).take (en - st), hM, hs, by rw [List.length_take, List.length_drop]; omega, fun j v hv => ?_, fun v hv => ?_, key⟩
  · rcases Nat.lt_or_ge j (en - st) with hj | hj
    · rw [List.getElem?_take_of_lt hj, List.getElem?_drop, Array.getElem?_toList] at hv
      rw [cell_at hM]; exact hv
    · rw [List.getElem?_eq_none (by rw [List.length_take]; omega)] at hv; cases hv
  · obtain ⟨j, hj⟩ := List.mem_iff_getElem?.1 hv
    rcases Nat.lt_or_ge j (en - st) with hj' | hj'
    · obtain ⟨x, _, hx⟩ := key j hj'
      rw [hx] at hj; injection hj with hj; subst hj; rfl
    · rw [List.getElem?_eq_none (by rw [List.length_take]; omega)] at hj; cases hj

theorem oneCell_u8 (x : UInt8) : (Value.int .u8 x.toNat).oneCell' = true := rfl
end
end Go.Proofs.Qxb6612715aFmt.W
