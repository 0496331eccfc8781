/-
  Seat b6612715aF: one round of Scan's loop, in words of the state St.
-/
import Derived.Test.Qxb6612715aFmtStage
import Derived.Test.Qxb6612715aFmtScanA
import Derived.Test.Qxb6612715aFmtScanE
import Derived.Test.Qxb6612715aFmtEnd
namespace Go.Proofs.Qxb6612715aFmt.W
open Go.RowKit
open Go.Proofs.Qxb6612715aFmt.Plain
set_option linter.unusedVariables false

theorem Mem.setRow {x w : World} (h : Mem x w) (B : Nat) (Y : Array Value) : Mem (x.setRow B Y) (w.setRow B Y) := by
  obtain ⟨h1, h2, h3, h4⟩ := h
  refine ⟨?_, h2, h3, h4⟩
  simp only [World.setRow]; rw [h1]

/-- The measure: the bytes not read yet. -/
def Ms (t : ByteArray) (ri : Nat) (err : Value) (k : Nat) : Prop := (err = .nilIface ∧ k = t.size - ri + 1) ∨ (err ≠ .nilIface ∧ k = 0)

section
variable {w0 w : World} {t : ByteArray} {line : Int} {p ri st en n : Nat} {a : Act} {Q : Exit → Act → World → Prop}

theorem stageE (a1 : Addr) (hF : Fr (w0.heap.size + 1) a) (h : St w0 w t line p ri st en n .nilIface) (hlt : en < n) (hs : t.size ≤ 1048576) (hg : w0.cell? ⟨1, 0, none⟩ = some (.iface 76 (.pointer (some a1))))
    (hK : ∀ a w' ri' en' err', Fr (w0.heap.size + 1) a → St w0 w' t line p ri' st en' n err' → ErrOk err' a1 t ri' en' n → (∃ k, k < t.size - ri + 1 ∧ Ms t ri' err' k) → Q .normal a w') :
    Code.wp Tryf.prog (pE Tryf.f17.body) Q a w := by
  obtain ⟨⟨tok, buf, emp, sc, hm0, hb⟩, hwin, l1, l2, l3, hmax, hlong⟩ := h
  rcases hb with ⟨rfl, rfl⟩ | ⟨B, hB, rfl, hn, M, hM0, hsz, hw⟩
  · omega
  rw [pE_eq]
  refine wp_seq (pieceE0 _ w a _ _ hF (fun b1 w1 f1 m1 => ?_) trivial)
  refine wp_block ?_
  refine wp_loop_rounds 1 ?_
  rw [rounds_succ]
  refine wp_block ?_
  have hm := hm0.mem m1
  have hM : w1.heap[B]? = some (.cells M 5 (0, 0)) := by rw [m1.1]; exact hM0
  obtain ⟨c0, c1, c2, c3, c4, c5, c6, c7, c8, c9, c10, cz⟩ := sc_cells hm.hS
  obtain ⟨pr, hR⟩ := hm.hR
  rcases Nat.lt_or_ge ri t.size with hri | hri
  · obtain ⟨m, hm'⟩ : ∃ m, m = Nat.min (t.size - ri) (n - en) := ⟨_, rfl⟩
    have hm1 : m ≤ t.size - ri := by rw [hm']; exact Nat.min_le_left _ _
    have hm2 : m ≤ n - en := by rw [hm']; exact Nat.min_le_right _ _
    have hm3 : 0 < m := by rw [hm']; exact Nat.lt_min.2 ⟨by omega, by omega⟩
    obtain ⟨Y, hY⟩ : ∃ Y, Y = (M.toList.take en ++ Lib.byteCells ((t.data.toList.drop ri).take m) ++ M.toList.drop (en + m)).toArray := ⟨_, rfl⟩
    have hmR : ∀ w', Mem (((w1.setCell ⟨w0.heap.size, 2, none⟩ (.int .i64 (-1))).setRow B Y).setCell ⟨w0.heap.size, 1, none⟩ (.int .i64 ((ri : Int) + m))) w' → Mm w0 w' t line (ri + m) tok (.slice (some ⟨B, 0, none⟩) n n) st en .nilIface emp sc :=
      fun w' hV => (((hm.setR2 (-1)).setRow B Y hB).setR1 m).mem hV
    refine wp_seq (pieceE1 _ w1 b1 _ _ f1 w0.heap.size B n en (fun x w' => Mem (((x.setCell ⟨w0.heap.size, 2, none⟩ (.int .i64 (-1))).setRow B Y).setCell ⟨w0.heap.size, 1, none⟩ (.int .i64 ((ri : Int) + m))) w') m .nilIface hlt
      (fun w' hV => ?_) (fun w' hV => hV.drew) (fun W hW => ?_) c0 c4 c6 (fun b2 w2 f2 s9 s10 hV => ?_) trivial)
    · have := sc_cells (hmR w' hV).hS
      exact ⟨this.1, this.2.2.2.2.1, this.2.2.2.2.2.2.1⟩
    · have hh := read_some w0.heap.size B en (n - en) (n - en) m t ri pr M W hs hri hm' (by omega) (by omega) (by rw [hW.1]; exact hR) (by rw [hW.1]; exact hM)
      refine hh.mono ?_
      rintro e w' ⟨rfl, hV⟩
      rw [← hY] at hV
      exact ⟨rfl, (((hW.setCell _ _).setRow _ _).setCell _ _).trans hV⟩
    have hmm := hmR w2 hV
    have hYs : Y.size = n := by
      rw [hY, List.size_toArray]
      have : t.data.size = t.size := rfl
      simp only [List.length_append, List.length_take, List.length_drop, Lib.byteCells, List.length_map, Array.length_toList]
      omega
    have hbb : Buf w0 w2 t (.slice (some ⟨B, 0, none⟩) n n) p st (en + m) n := by
      refine .inr ⟨B, hB, rfl, hn, Y, ?_, hYs, ?_⟩
      · rw [hV.1, heap_setCell_other _ _ _ _ (by simp only; omega)]
        exact setRow_heap _ B M Y 5 (0, 0) (by rw [heap_setCell_other _ _ _ _ (by simp only; omega)]; exact hM)
      · intro j h1 h2
        have hl1 : (M.toList.take en).length = en := by rw [List.length_take, Array.length_toList]; omega
        have hl0 : t.data.toList.length = t.size := rfl
        have hl2 : (Lib.byteCells ((t.data.toList.drop ri).take m)).length = m := by
          simp only [Lib.byteCells, List.length_map, List.length_take, List.length_drop]; omega
        rcases Nat.lt_or_ge j en with hj | hj
        · obtain ⟨x, hx, hx'⟩ := hw j h1 hj
          refine ⟨x, hx, ?_⟩
          rw [hY, List.getElem?_toArray, List.append_assoc, List.getElem?_append_left (by omega), List.getElem?_take_of_lt hj, Array.getElem?_toList]
          exact hx'
        · have hlt' : ri + (j - en) < t.data.toList.length := by omega
          refine ⟨t.data.toList[ri + (j - en)], ?_, ?_⟩
          · rw [show p + (j - st) = ri + (j - en) from by omega]
            exact List.getElem?_eq_getElem hlt'
          · rw [hY, List.getElem?_toArray, List.getElem?_append_left (by rw [List.length_append]; omega), List.getElem?_append_right (by omega), hl1]
            simp only [Lib.byteCells, List.getElem?_map]
            rw [List.getElem?_take_of_lt (by omega), List.getElem?_drop, List.getElem?_eq_getElem hlt']
            rfl
    obtain ⟨d0, d1, d2, d3, d4, d5, d6, d7, d8, d9, d10, dz⟩ := sc_cells hmm.hS
    refine wp_seq (pieceE2 _ w2 b2 _ _ f2 (some ⟨B, 0, none⟩) n en m (by rw [decide_eq_false_iff_not]; omega) (by rw [IntKind.wrap_i64]; omega) (by rw [decide_eq_false_iff_not]; omega) d4 d6 _ s9 s10 (fun b3 w3 f3 s9 s10 m3 => ?_) trivial)
    obtain ⟨d0, d1, d2, d3, d4, d5, d6, d7, d8, d9, d10, dz⟩ := sc_cells (hmm.mem m3).hS
    refine wp_seq (pieceE3 _ w3 b3 _ _ f3 en m ((en : Int) + (m : Int)) (by rw [IntKind.wrap_i64]; omega) d6 dz _ s9 s10 (fun b4 w4 f4 s9 s10 m4 => ?_) trivial)
    have hm4 := ((hmm.mem m3).set6 (en + m) ((en : Int) + (m : Int)) rfl).mem m4
    have hb4 := ((hbb.mem m3).setS (w0.heap.size + 1) 6 (.int .i64 ((en : Int) + (m : Int))) (by omega)).mem m4
    refine wp_seq (pieceE4 _ w4 b4 _ _ f4 m s9 s10 (fun b5 w5 f5 s9 m5 => ?_) trivial)
    obtain ⟨d0, d1, d2, d3, d4, d5, d6, d7, d8, d9, d10, dz⟩ := sc_cells (hm4.mem m5).hS
    refine wp_seq (pieceE5 _ w5 b5 _ _ f5 m _ (by rw [decide_eq_true_iff]; omega) s9 d8 dz trivial (fun b6 w6 f6 m6 => ?_))
    show Q .normal b6 w6
    exact hK b6 w6 (ri + m) (en + m) .nilIface f6 ⟨⟨tok, _, _, sc, ((hm4.mem m5).set8 0).mem m6, ((hb4.mem m5).setS (w0.heap.size + 1) 8 _ (by omega)).mem m6⟩, by omega, by omega, by omega, by omega, hmax, hlong⟩ (.inl rfl)
      ⟨t.size - (ri + m) + 1, by omega, .inl ⟨rfl, rfl⟩⟩
  · refine wp_seq (pieceE1 _ w1 b1 _ _ f1 w0.heap.size B n en Mem 0 (.iface 76 (.pointer (some a1))) hlt
      (fun w' hV => ?_) (fun w' hV => hV.drew) (fun W hW => ?_) c0 c4 c6 (fun b2 w2 f2 s9 s10 hV => ?_) trivial)
    · have := sc_cells (hm.mem hV).hS
      exact ⟨this.1, this.2.2.2.2.1, this.2.2.2.2.2.2.1⟩
    · have hR' : W.heap[w0.heap.size]? = some (.cells #[.string t, .int .i64 ri, .int .i64 pr] 55 (0, 0)) := by rw [hW.1]; exact hR
      have hgW : W.cell? ⟨1, 0, none⟩ = some (.iface 76 (.pointer (some a1))) := by
        rw [cell_mem hW, hm.below.cell (p := ⟨1, 0, none⟩) (Lib.lt_of_cell hg)]; exact hg
      have hh := read_eof w0.heap.size t ri (.slice (some ⟨B, en, none⟩) (n - en) (n - en)) a1 W hs hri (by omega) (by rw [cell_at hR']; rfl) (by rw [cell_at hR']; rfl) hgW
      refine hh.mono ?_
      rintro e w' ⟨rfl, hV⟩
      exact ⟨rfl, hW.trans hV⟩
    have hmm := hm.mem hV
    have hbb : Buf w0 w2 t (.slice (some ⟨B, 0, none⟩) n n) p st en n := Buf.mem (.inr ⟨B, hB, rfl, hn, M, hM, hsz, hw⟩) hV
    obtain ⟨d0, d1, d2, d3, d4, d5, d6, d7, d8, d9, d10, dz⟩ := sc_cells hmm.hS
    refine wp_seq (pieceE2 _ w2 b2 _ _ f2 (some ⟨B, 0, none⟩) n en 0 (by simp) (by rw [IntKind.wrap_i64]; omega) (by rw [decide_eq_false_iff_not]; omega) d4 d6 _ s9 s10 (fun b3 w3 f3 s9 s10 m3 => ?_) trivial)
    obtain ⟨d0, d1, d2, d3, d4, d5, d6, d7, d8, d9, d10, dz⟩ := sc_cells (hmm.mem m3).hS
    refine wp_seq (pieceE3 _ w3 b3 _ _ f3 en 0 (en : Int) (by rw [IntKind.wrap_i64]; omega) d6 dz _ s9 s10 (fun b4 w4 f4 s9 s10 m4 => ?_) trivial)
    have hm4 := ((hmm.mem m3).set6 en (en : Int) rfl).mem m4
    have hb4 := ((hbb.mem m3).setS (w0.heap.size + 1) 6 (.int .i64 (en : Int)) (by omega)).mem m4
    obtain ⟨d0, d1, d2, d3, d4, d5, d6, d7, d8, d9, d10, dz⟩ := sc_cells hm4.hS
    refine wp_seq (pieceE4e _ w4 b4 _ _ f4 _ s10 d7 dz trivial (fun b5 w5 f5 m5 => ?_))
    show Q .normal b5 w5
    exact hK b5 w5 ri en (.iface 76 (.pointer (some a1))) f5 ⟨⟨tok, _, _, sc, (hm4.set7 _).mem m5, (hb4.setS (w0.heap.size + 1) 7 _ (by omega)).mem m5⟩, hwin, l1, l2, l3, hmax, hlong⟩ (.inr ⟨rfl, hlt, by omega⟩)
      ⟨0, by omega, .inr ⟨by simp, rfl⟩⟩

theorem found {k i : Nat} (h : Lib.indexByte (bytes t p k) 10 = (i : Int)) : i < k ∧ t.data.toList[p + i]? = some 10 ∧ NoNl t p i := by
  obtain ⟨h1, h2⟩ := Lib.indexByte_some h
  have hlt : i < k := by
    rcases Nat.lt_or_ge i k with hj | hj
    · exact hj
    · rw [List.getElem?_eq_none (by unfold bytes; rw [List.length_take]; omega)] at h1; cases h1
  refine ⟨hlt, ?_, fun j hj => ?_⟩
  · rw [← bytes_get hlt]; exact h1
  · rw [← bytes_get (Nat.lt_trans hj hlt)]; exact h2 j hj

theorem missed {k : Nat} (h : Lib.indexByte (bytes t p k) 10 = -1) : NoNl t p k := by
  intro j hj
  rw [← bytes_get hj]; exact Lib.indexByte_none h j

theorem either (l : List UInt8) : Lib.indexByte l 10 = -1 ∨ ∃ i : Nat, Lib.indexByte l 10 = (i : Int) := by
  have := Lib.indexByte_ge l 10
  by_cases h : Lib.indexByte l 10 = -1
  · exact .inl h
  · exact .inr ⟨(Lib.indexByte l 10).toNat, by omega⟩

/-- The loop's relation. -/
def Inv (w0 : World) (t : ByteArray) (line : Int) (p : Nat) (a1 : Addr) (k : Nat) (a : Act) (w : World) : Prop :=
  Fr (w0.heap.size + 1) a ∧ ∃ ri st en n err, St w0 w t line p ri st en n err ∧ ErrOk err a1 t ri en n ∧ Ms t ri err k

/-- The loop's end. -/
def Done (w0 : World) (t : ByteArray) (line : Int) (p : Nat) (a1 a2 : Addr) (e : Exit) (a : Act) (w : World) : Prop :=
  e = .ret ∧ Fr (w0.heap.size + 1) a ∧ ∃ b, a.tmps[2]? = some (.bool b) ∧ Scanned w0 t line p a1 a2 (.returned (.bool b)) w

theorem tailNil {J : Act → World → Prop} {a0 a1 a2 : Addr} {t2 : ByteArray} (hs : t.size ≤ 1048576) (sn : Sents w0 a0 a1 a2 t2) (hF : Fr (w0.heap.size + 1) a) (h : St w0 w t line p ri st en n .nilIface) (hno : NoNl t p (en - st))
    (hJ : ∀ a w' k, k < t.size - ri + 1 → Inv w0 t line p a1 k a w' → J a w') :
    Code.wp Tryf.prog (.seq (pB Tryf.f17.body) (.seq (pC Tryf.f17.body) (.seq (pD Tryf.f17.body) (pE Tryf.f17.body)))) (Exit.inBlock 1 (Exit.then J (Done w0 t line p a1 a2))) a w := by
  have hbel : ∀ {w' : World} {st en n : Nat} {e : Value}, St w0 w' t line p ri st en n e → Below w0.heap.size w0 w' := fun h => by obtain ⟨_, _, _, _, hm, _⟩ := h.mm; exact hm.below
  have h' := h
  obtain ⟨⟨tok, buf, emp, sc, hm, hb⟩, hwin, l1, l2, l3, hmax, hlong⟩ := h
  obtain ⟨c0, c1, c2, c3, c4, c5, c6, c7, c8, c9, c10, cz⟩ := sc_cells hm.hS
  refine wp_seq (pieceB1 _ w a _ _ hF c7 (fun b1 w1 f1 m1 => ?_) trivial)
  have h1 : St w0 w1 t line p ri st en n .nilIface := ⟨⟨_, _, _, _, hm.mem m1, hb.mem m1⟩, hwin, l1, l2, l3, hmax, hlong⟩
  refine wp_seq (stageC f1 h1 (fun b2 w2 st2 en2 f2 h2 e2 g2 => ?_))
  refine wp_seq (stageD a2 f2 h2 g2 (by rw [e2]; exact hno) ?_ (fun b3 w3 n3 f3 h3 g3 => ?_) (fun b3 w3 f3 e3 hmm hl => ?_))
  · rw [(hbel h2).cell (p := ⟨2, 0, none⟩) (Lib.lt_of_cell sn.g2)]; exact sn.g2
  · refine stageE a1 f3 h3 g3 hs sn.g1 (fun b4 w4 ri4 en4 err4 f4 h4 o4 k4 => ?_)
    obtain ⟨k, hk, hM⟩ := k4
    exact hJ b4 w4 k hk ⟨f4, _, _, _, _, _, h4, o4, hM⟩
  · obtain ⟨tok, buf, emp, sc, hm3⟩ := hmm
    exact ⟨rfl, f3, false, e3, .inr ⟨rfl, _, _, _, _, _, _, _, _, hm3, .inr ⟨rfl, hl⟩⟩⟩

theorem round {J : Act → World → Prop} {a0 a1 a2 : Addr} {t2 : ByteArray} (hs : t.size ≤ 1048576) (sn : Sents w0 a0 a1 a2 t2) (k : Nat) (hI : Inv w0 t line p a1 k a w)
    (hJ : ∀ a w' k', k' < k → Inv w0 t line p a1 k' a w' → J a w') :
    Code.wp Tryf.prog ((Tryf.f17.body.bind firstLoop).getD .skip) (Exit.then J (Done w0 t line p a1 a2)) a w := by
  obtain ⟨hF, ri, st, en, n, err, h, ho, hM⟩ := hI
  rw [body_eq]
  refine wp_block ?_
  have h' := h
  obtain ⟨⟨tok, buf, emp, sc, hm, hb⟩, hwin, l1, l2, l3, hmax, hlong⟩ := h
  obtain ⟨c0, c1, c2, c3, c4, c5, c6, c7, c8, c9, c10, cz⟩ := sc_cells hm.hS
  have hI : (n : Int) ≤ 65536 := by omega
  have hlen := bytes_length hwin l3
  -- a line feed at i
  have hit : ∀ i : Nat, Lib.indexByte (bytes t p (en - st)) 10 = (i : Int) → ∀ b w' tok', Fr (w0.heap.size + 1) b → b.tmps[2]? = some (.bool true) →
      Mem (((w.setCell ⟨w0.heap.size + 1, 5, none⟩ (.int .i64 ((st : Int) + ((i : Int) + 1)))).setCell ⟨w0.heap.size + 1, 3, none⟩ tok').setCell ⟨w0.heap.size + 1, 8, none⟩ (.int .i64 0)) w' →
      Done w0 t line p a1 a2 .ret b w' := by
    intro i hi b w' tok' f e m
    obtain ⟨i1, i2, i3⟩ := found hi
    refine ⟨rfl, f, true, e, .inl ⟨rfl, p + (i + 1), ri, st + (i + 1), en, n, err, by omega, by omega, ⟨⟨tok', buf, 0, sc, (((hm.set5 (st + (i + 1)) _ rfl).set3 tok').set8 0).mem m, ((((hb.eat (i + 1) (by omega)).setS _ 5 _ (by omega)).setS _ 3 _ (by omega)).setS _ 8 _ (by omega)).mem m⟩, by omega, by omega, l2, l3, hmax, ?_⟩, ho⟩⟩
    rw [hlong, long_line i _ (by omega) (fun m hm => by rw [List.getElem?_drop]; exact i3 m hm) (by rw [List.getElem?_drop]; exact i2), List.drop_drop]
  rcases ho with rfl | ⟨rfl, hen, hri⟩
  · -- no error yet
    have hk : k = t.size - ri + 1 := by rcases hM with ⟨_, e⟩ | ⟨e, _⟩; exact e; exact absurd rfl e
    rcases Nat.lt_or_ge st en with hlt | hge
    · rcases hb with ⟨rfl, rfl⟩ | ⟨B, hB, rfl, hn, hw⟩
      · omega
      rcases either (bytes t p (en - st)) with hx | ⟨i, hi⟩
      · refine wp_seq (pieceA3 _ w a _ _ hF B st en n (bytes t p (en - st)) hlt l2 hI hlen hx hw.lies c1 c4 c5 c6 c7 _ _ c3 c8 cz (fun b1 w1 f1 m1 => ?_) trivial)
        refine tailNil hs sn f1 (st := st) (en := en) (n := n) (ri := ri) ⟨⟨_, _, _, _, ((hm.set5 st _ rfl).set3 _).mem m1, (((Buf.setS (.inr ⟨B, hB, rfl, hn, hw⟩) _ 5 _ (by omega)).setS _ 3 _ (by omega))).mem m1⟩, hwin, l1, l2, l3, hmax, hlong⟩ (missed hx) (fun a w' k' hk' hI' => hJ a w' k' (by omega) hI')
      · exact wp_seq (pieceA2 _ w a _ _ hF B st en n i (bytes t p (en - st)) hlt l2 hI hlen hi (found hi).1 hw.lies c1 c4 c5 c6 c7 _ _ c3 c8 cz trivial (fun b w' tok' f e m => hit i hi b w' tok' f e m))
    · obtain rfl : st = en := by omega
      refine wp_seq (pieceA1 _ w a _ _ hF st c5 c6 c7 (fun b1 w1 f1 m1 => ?_) trivial)
      refine tailNil hs sn f1 (st := st) (en := st) (n := n) (ri := ri) ⟨⟨_, _, _, _, hm.mem m1, hb.mem m1⟩, hwin, l1, l2, l3, hmax, hlong⟩ (fun j hj => by omega) (fun a w' k' hk' hI' => hJ a w' k' (by omega) hI')
  · -- the reader has ended
    rcases hb with ⟨rfl, rfl⟩ | ⟨B, hB, rfl, hn, hw⟩
    · omega
    have hd0 : longFrom 0 (t.data.toList.drop t.size) = false := by
      rw [List.drop_eq_nil_of_le (by exact Nat.le_refl _)]; rfl
    rcases Nat.lt_or_ge st en with hlt | hge
    · rcases either (bytes t p (en - st)) with hx | ⟨i, hi⟩
      · refine wp_seq (pieceA5 _ w a _ _ hF B st en n (bytes t p (en - st)) a1 hlt l2 hI hlen hx hw.lies c1 c4 c5 c6 c7 _ _ c3 c8 cz trivial (fun b w' tok' f e m => ?_))
        have hlf : longFrom 0 (t.data.toList.drop p) = false := by
          have hl0 : t.data.toList.length = t.size := rfl
          refine long_last _ (by rw [List.length_drop]; omega) (fun m hm => ?_)
          rw [List.length_drop] at hm
          rw [List.getElem?_drop]
          exact missed hx m (by omega)
        refine ⟨rfl, f, true, e, .inl ⟨rfl, p + (en - st), ri, st + (en - st), en, n, _, by omega, by omega, ⟨⟨tok', _, 0, sc, (((hm.set5 (st + (en - st)) _ rfl).set3 tok').set8 0).mem m, ((((Buf.eat (.inr ⟨B, hB, rfl, hn, hw⟩) (en - st) (by omega)).setS _ 5 _ (by omega)).setS _ 3 _ (by omega)).setS _ 8 _ (by omega)).mem m⟩, by omega, by omega, l2, l3, hmax, ?_⟩, .inr ⟨rfl, hen, hri⟩⟩⟩
        rw [hlong, hlf, show p + (en - st) = t.size from by omega, hd0]
      · exact wp_seq (pieceA4 _ w a _ _ hF B st en n i (bytes t p (en - st)) a1 hlt l2 hI hlen hi (found hi).1 hw.lies c1 c4 c5 c6 c7 _ _ c3 c8 cz trivial (fun b w' tok' f e m => hit i hi b w' tok' f e m))
    · obtain rfl : st = en := by omega
      refine wp_seq (pieceA6 _ w a _ _ hF B st n a1 hen hI c1 c4 c5 c6 c7 _ _ c3 c8 cz (fun b1 w1 f1 m1 => ?_) trivial)
      have hm1 := ((hm.set5 st _ rfl).set3 (.slice none 0 0)).mem m1
      obtain ⟨d0, d1, d2, d3, d4, d5, d6, d7, d8, d9, d10, dz⟩ := sc_cells hm1.hS
      refine wp_seq (pieceB2 _ w1 b1 _ _ f1 76 _ _ _ d7 d5 d6 dz trivial (fun b w' f e m => ?_))
      exact ⟨rfl, f, false, e, .inr ⟨rfl, _, _, _, _, _, _, _, _, ((hm1.set5 0 _ rfl).set6 0 _ rfl).mem m, .inl ⟨rfl, by rw [hlong, show p = t.size from by omega, hd0]⟩⟩⟩
end
end Go.Proofs.Qxb6612715aFmt.W
