/-
  Seat b6612715aF: the stages of one round of Scan's loop, in words of the state St.
-/
import Derived.Test.Qxb6612715aFmtStep
import Derived.Test.Qxb6612715aFmtScanC
import Derived.Test.Qxb6612715aFmtScanD
import Derived.Test.Qxb6612715aFmtScanD2
namespace Go.Proofs.Qxb6612715aFmt.W
open Go.RowKit
open Go.Proofs.Qxb6612715aFmt.Plain
set_option linter.unusedVariables false

/-- No line feed in k bytes from p on. -/
def NoNl (t : ByteArray) (p k : Nat) : Prop := ∀ j, j < k → t.data.toList[p + j]? ≠ some 10

section
variable {w0 w : World} {t : ByteArray} {line : Int} {p ri st en n : Nat} {a : Act} {K : Act → World → Prop} {Q : Exit → Act → World → Prop}

theorem stageC (hF : Fr (w0.heap.size + 1) a) (h : St w0 w t line p ri st en n .nilIface)
    (hK : ∀ a w' st' en', Fr (w0.heap.size + 1) a → St w0 w' t line p ri st' en' n .nilIface → en' - st' = en - st → (en' = n → st' = 0) → K a w') :
    Code.wp Tryf.prog (pC Tryf.f17.body) (Exit.then K Q) a w := by
  obtain ⟨⟨tok, buf, emp, sc, hm, hb⟩, hwin, l1, l2, l3, hmax, hlong⟩ := h
  obtain ⟨c0, c1, c2, c3, c4, c5, c6, c7, c8, c9, c10, cz⟩ := sc_cells hm.hS
  have hI : (n : Int) ≤ 65536 := by omega
  by_cases h0 : st = 0
  · subst h0
    obtain ⟨bo, rfl⟩ := hb.slice
    exact pieceC1 _ w a K Q hF bo n en c4 c5 c6 (fun a w' f m => hK a w' 0 en f ⟨⟨_, _, _, _, hm.mem m, hb.mem m⟩, hwin, l1, l2, l3, hmax, hlong⟩ rfl (fun _ => rfl)) trivial
  by_cases hsh : en = n ∨ n / 2 < st
  · rcases hb with ⟨rfl, rfl⟩ | ⟨B, hB, rfl, hn, hw⟩
    · omega
    rcases Nat.lt_or_ge st en with hlt | hge
    · obtain ⟨M, cs, hM, hs, hl, h1, h2, h3⟩ := hw.cut l1 l2
      have hsz : (cs ++ M.toList.drop (en - st)).toArray.size = n := by
        rw [List.size_toArray, List.length_append, List.length_drop, hl, Array.length_toList, hs]; omega
      have fin : ∀ a w', Fr (w0.heap.size + 1) a → Mem (((w.setRow B (cs ++ M.toList.drop (en - st)).toArray).setCell ⟨w0.heap.size + 1, 6, none⟩ (.int .i64 ((en : Int) - (st : Int)))).setCell ⟨w0.heap.size + 1, 5, none⟩ (.int .i64 0)) w' → K a w' := by
        intro a w' f m
        refine hK a w' 0 (en - st) f ⟨⟨tok, _, emp, sc, (((hm.setRow B _ hB).set6 (en - st) _ (Int.ofNat_sub l1).symm).set5 0 _ rfl).mem m, Buf.mem (.inr ⟨B, hB, rfl, hn, _, ?_, hsz, ?_⟩) m⟩, by omega, by omega, by omega, l3, hmax, hlong⟩ (by omega) (fun _ => rfl)
        · rw [heap_setCell_other _ _ _ _ (by simp only; omega), heap_setCell_other _ _ _ _ (by simp only; omega)]
          exact setRow_heap w B M _ 5 (0, 0) hM
        · intro j _ hj
          obtain ⟨x, hx, hx'⟩ := h3 j hj
          refine ⟨x, hx, ?_⟩
          rw [List.getElem?_toArray, List.getElem?_append_left (by omega)]
          exact hx'
      by_cases he : en = n
      · exact pieceC3 _ w a K Q hF B n st en M cs (by omega) hlt he hI l2 (by omega) hM hs hl h1 h2 c4 c5 c6 cz fin trivial
      · exact pieceC4 _ w a K Q hF B n st en M cs (by omega) hlt he (hsh.resolve_left he) hI l2 (by omega) hM hs hl h1 h2 c4 c5 c6 cz fin trivial
    · obtain rfl : st = en := by omega
      have fin : ∀ a w', Fr (w0.heap.size + 1) a → Mem ((w.setCell ⟨w0.heap.size + 1, 6, none⟩ (.int .i64 0)).setCell ⟨w0.heap.size + 1, 5, none⟩ (.int .i64 0)) w' → K a w' := by
        intro a w' f m
        refine hK a w' 0 0 f ⟨⟨tok, _, emp, sc, ((hm.set6 0 _ rfl).set5 0 _ rfl).mem m, Buf.mem (((Buf.void (.inr ⟨B, hB, rfl, hn, hw⟩) p 0).setS _ 6 _ (by omega)).setS _ 5 _ (by omega)) m⟩, by omega, by omega, by omega, l3, hmax, hlong⟩ (by omega) (fun _ => rfl)
      by_cases he : st = n
      · exact pieceC5 _ w a K Q hF B n st (by omega) he hI l2 c4 c5 c6 cz fin trivial
      · exact pieceC6 _ w a K Q hF B n st (by omega) he (hsh.resolve_left he) hI l2 c4 c5 c6 cz fin trivial
  · obtain ⟨bo, rfl⟩ := hb.slice
    exact pieceC2 _ w a K Q hF bo n st en (by omega) (fun e => hsh (.inl e)) (fun e => hsh (.inr e)) hI l2 c4 c5 c6
      (fun a w' f m => hK a w' st en f ⟨⟨_, _, _, _, hm.mem m, hb.mem m⟩, hwin, l1, l2, l3, hmax, hlong⟩ rfl (fun e => absurd (.inl e) hsh)) trivial

theorem info5 : (Tryf.prog.info? 5).map (fun i => (i.zero, i.size, i.bytes)) = some (some (.int .u8 0), 1, 1) := by kernel_rfl

theorem make5 (ns : Nat) (h : ns ≤ 65536) (W : World) : (Instr.makeSlice 36 (.int .i64 (ns : Int)) (.int .i64 (ns : Int))).run Tryf.prog W = .ok (.slice (some ⟨W.heap.size, 0, none⟩) ns ns) (W.alloc (.cells (madeCells #[.int .u8 0] ns) 5)) := by
  have h5 := info5
  cases hi : Tryf.prog.info? 5 with
  | none => rw [hi] at h5; cases h5
  | some i =>
    rw [hi] at h5
    simp only [Option.map_some, Option.some.injEq, Prod.mk.injEq] at h5
    obtain ⟨z, s, b⟩ := h5
    have := run_make (P := Tryf.prog) W 36 5 i (.int .u8 0) Tryf.underlying36 hi z .i64 .i64 ns ns (by omega) (by omega) (by rw [b]; omega) (by omega)
    rw [s] at this
    simpa [Value.cells] using this

theorem cell_mem {x y : World} (m : Mem x y) (b : Addr) : y.cell? b = x.cell? b := by simp only [World.cell?]; rw [m.1]

theorem heap_new (w : World) (o : Obj) : (w.alloc o).heap[w.heap.size]? = some o := Array.getElem?_push_size

/-- The buffer grows: n > 0. -/
theorem grow_more (ns : Nat) (hns : (2 * n ≤ 65536 ∧ ns = 2 * n) ∨ (65536 < 2 * n ∧ ns = 65536)) (hpos : 0 < n) (hlt : n < 65536) (hF : Fr (w0.heap.size + 1) a) (h : St w0 w t line p ri 0 n n .nilIface)
    (hK : ∀ a w' n', Fr (w0.heap.size + 1) a → St w0 w' t line p ri 0 n n' .nilIface → n < n' → (Exit.then K Q) .normal a w') :
    Code.wp Tryf.prog (.seq (g1 Tryf.f17.body) (.seq (g2 Tryf.f17.body) (.seq (g3 Tryf.f17.body) (.seq (g4 Tryf.f17.body) (.seq (g5 Tryf.f17.body) (g6 Tryf.f17.body)))))) (Exit.then K Q) a w := by
  obtain ⟨⟨tok, buf, emp, sc, hm, hb⟩, hwin, l1, l2, l3, hmax, hlong⟩ := h
  rcases hb with ⟨rfl, rfl⟩ | ⟨B, hB, rfl, hn, hw⟩
  · omega
  obtain ⟨M, cs, hM, hs, hl, h1, h2, h3⟩ := hw.cut l1 l2
  have hnsB : ns ≤ 65536 := by omega
  have hnslt : n < ns := by omega
  have hX : (madeCells #[Value.int .u8 0] ns).size = ns := size_madeCells _ _
  have cX := fun {x : World} (m : Mem w x) => sc_cells (hm.mem m).hS
  refine wp_seq (pieceG1 _ w a _ _ hF (some ⟨B, 0, none⟩) n ((n : Int) * 2) (by rw [IntKind.wrap_i64]; omega) (cX (Mem.refl w)).2.2.2.2.1 (fun a1 w1 f1 s1 m1 => ?_) trivial)
  refine wp_seq (pieceG2 _ w1 a1 _ _ f1 ((n : Int) * 2) (by rw [beq_eq_false_iff_ne]; omega) s1 (fun a2 w2 f2 s2 m2 => ?_) trivial)
  have m2' := m1.trans m2
  refine wp_seq (pieceG3 _ w2 a2 _ _ f2 ((n : Int) * 2) 65536 (ns : Int) (by split <;> omega) s2 (cX m2').2.2.1 (fun a3 w3 f3 s3 m3 => ?_) trivial)
  have m3' := m2'.trans m3
  refine wp_seq (pieceG4 _ w3 a3 _ _ f3 ns _ (make5 ns hnsB) s3 (fun a4 w4 f4 s4 m4 => ?_) trivial)
  have hm4 := ((hm.mem m3').alloc (.cells (madeCells #[.int .u8 0] ns) 5)).mem m4
  have c4' := sc_cells hm4.hS
  have hC : w0.heap.size + 3 ≤ w3.heap.size := lt_heap (hm.mem m3').hL
  have hBC : B < w3.heap.size := by have := lt_heap hM; rw [m3'.1]; exact this
  have hsz : (cs ++ (madeCells #[Value.int .u8 0] ns).toList.drop n).toArray.size = ns := by
    rw [List.size_toArray, List.length_append, List.length_drop, hl, Array.length_toList, hX]; omega
  have hcp : ∀ W : World, W.heap = w4.heap → (Builtin.copy_ #[36, 36] 3 #[.slice (some ⟨w3.heap.size, 0, none⟩) ns ns, .slice (some ⟨B, 0, none⟩) n n]).run Tryf.prog W = .ok (goInt n) (W.setRow w3.heap.size (cs ++ (madeCells #[Value.int .u8 0] ns).toList.drop n).toArray) := by
    intro W hW
    have hcl : cs.length = n := by omega
    have := run_copy_row Tryf.prog W 36 36 3 5 w3.heap.size 0 ns ns ⟨B, 0, none⟩ n n (madeCells #[.int .u8 0] ns) 5 cs Tryf.underlying36 size5 (by rw [hW, m4.1]; exact heap_new _ _) (by rw [hcl]; exact (Nat.min_eq_left (by omega)).symm)
      (fun j v hj => by
        have e := h1 j v hj
        have ea : (⟨B, 0, none⟩ : Addr).add j = ⟨B, 0 + j, none⟩ := by unfold Addr.add; split <;> simp_all
        rw [ea]
        simp only [World.cell?] at e ⊢
        rw [hW, m4.1, Below.heap_alloc _ _ _ hBC, m3'.1]; exact e) (by rw [hX]; omega) h2
    rw [hcl] at this
    simpa only [List.take_zero, List.nil_append, Nat.zero_add] using this
  refine wp_seq (pieceG5 _ w4 a4 _ _ f4 B w3.heap.size n ns _ (by omega) hcp c4'.2.2.2.2.1 c4'.2.2.2.2.2.1 c4'.2.2.2.2.2.2.1 s4 (fun a5 w5 f5 s5 m5 => ?_) trivial)
  have hm5 := (hm4.setRow w3.heap.size (cs ++ (madeCells #[Value.int .u8 0] ns).toList.drop n).toArray hC).mem m5
  obtain ⟨d0, d1, d2, d3, d4, d5, d6, d7, d8, d9, d10, dz⟩ := sc_cells hm5.hS
  refine pieceG6 _ w5 a5 _ _ f5 _ _ ns n d4 d5 d6 dz (by rw [IntKind.wrap_i64]; omega) s5 (fun a6 w6 f6 m6 => ?_) trivial
  refine hK a6 w6 ns f6 ⟨⟨tok, .slice (some ⟨w3.heap.size, 0, none⟩) ns ns, emp, sc, (((hm5.set4 _).set6 n _ rfl).set5 0 _ rfl).mem m6, Buf.mem (.inr ⟨w3.heap.size, hC, rfl, by omega, _, ?_, hsz, ?_⟩) m6⟩, hwin, by omega, by omega, l3, hnsB, hlong⟩ hnslt
  · rw [heap_setCell_other _ _ _ _ (by simp only; omega), heap_setCell_other _ _ _ _ (by simp only; omega), heap_setCell_other _ _ _ _ (by simp only; omega), m5.1]
    exact setRow_heap w4 w3.heap.size _ _ 5 (0, 0) (by rw [m4.1]; exact heap_new _ _)
  · intro j _ hj
    obtain ⟨x, hx, hx'⟩ := h3 j (by omega)
    refine ⟨x, hx, ?_⟩
    rw [List.getElem?_toArray, List.getElem?_append_left (by omega)]
    exact hx'

/-- The first buffer is made. -/
theorem grow_first (hF : Fr (w0.heap.size + 1) a) (h : St w0 w t line p ri 0 0 0 .nilIface)
    (hK : ∀ a w' n', Fr (w0.heap.size + 1) a → St w0 w' t line p ri 0 0 n' .nilIface → 0 < n' → (Exit.then K Q) .normal a w') :
    Code.wp Tryf.prog (.seq (g1 Tryf.f17.body) (.seq (g2 Tryf.f17.body) (.seq (g3 Tryf.f17.body) (.seq (g4 Tryf.f17.body) (.seq (g5 Tryf.f17.body) (g6 Tryf.f17.body)))))) (Exit.then K Q) a w := by
  obtain ⟨⟨tok, buf, emp, sc, hm, hb⟩, hwin, l1, l2, l3, hmax, hlong⟩ := h
  rcases hb with ⟨_, rfl⟩ | ⟨B, hB, rfl, hn, hw⟩
  rotate_left
  · omega
  have hX : (madeCells #[Value.int .u8 0] 4096).size = 4096 := size_madeCells _ _
  have cX := fun {x : World} (m : Mem w x) => sc_cells (hm.mem m).hS
  refine wp_seq (pieceG1 _ w a _ _ hF none 0 0 (by rfl) (cX (Mem.refl w)).2.2.2.2.1 (fun a1 w1 f1 s1 m1 => ?_) trivial)
  refine wp_seq (pieceG2z _ w1 a1 _ _ f1 s1 (fun a2 w2 f2 s2 m2 => ?_) trivial)
  have m2' := m1.trans m2
  refine wp_seq (pieceG3 _ w2 a2 _ _ f2 4096 65536 4096 (by rfl) s2 (cX m2').2.2.1 (fun a3 w3 f3 s3 m3 => ?_) trivial)
  have m3' := m2'.trans m3
  refine wp_seq (pieceG4 _ w3 a3 _ _ f3 4096 _ (make5 4096 (by omega)) s3 (fun a4 w4 f4 s4 m4 => ?_) trivial)
  have hm4 := ((hm.mem m3').alloc (.cells (madeCells #[.int .u8 0] 4096) 5)).mem m4
  have c4' := sc_cells hm4.hS
  have hC : w0.heap.size + 3 ≤ w3.heap.size := lt_heap (hm.mem m3').hL
  refine wp_seq (pieceG5z _ w4 a4 _ _ f4 w3.heap.size 4096 (fun W => run_copy_none W 36 36 3 5 (some ⟨w3.heap.size, 0, none⟩) none 4096 4096 0 0 Tryf.underlying36 size5 (by simp)) c4'.2.2.2.2.1 c4'.2.2.2.2.2.1 c4'.2.2.2.2.2.2.1 s4 (fun a5 w5 f5 s5 m5 => ?_) trivial)
  have hm5 := hm4.mem m5
  obtain ⟨d0, d1, d2, d3, d4, d5, d6, d7, d8, d9, d10, dz⟩ := sc_cells hm5.hS
  refine pieceG6 _ w5 a5 _ _ f5 _ _ 4096 0 d4 d5 d6 dz (by rfl) s5 (fun a6 w6 f6 m6 => ?_) trivial
  refine hK a6 w6 4096 f6 ⟨⟨tok, .slice (some ⟨w3.heap.size, 0, none⟩) 4096 4096, emp, sc, (((hm5.set4 _).set6 0 _ rfl).set5 0 _ rfl).mem m6, Buf.mem (.inr ⟨w3.heap.size, hC, rfl, by omega, _, ?_, hX, fun j _ hj => by omega⟩) m6⟩, hwin, by omega, by omega, l3, by omega, hlong⟩ (by omega)
  rw [heap_setCell_other _ _ _ _ (by simp only; omega), heap_setCell_other _ _ _ _ (by simp only; omega), heap_setCell_other _ _ _ _ (by simp only; omega), m5.1, m4.1]
  exact heap_new _ _

theorem stageD (a2 : Addr) (hF : Fr (w0.heap.size + 1) a) (h : St w0 w t line p ri st en n .nilIface) (hfull : en = n → st = 0) (hno : NoNl t p (en - st)) (hg : w.cell? ⟨2, 0, none⟩ = some (.iface 76 (.pointer (some a2))))
    (hK : ∀ a w' n', Fr (w0.heap.size + 1) a → St w0 w' t line p ri st en n' .nilIface → en < n' → K a w')
    (hQ : ∀ a w', Fr (w0.heap.size + 1) a → a.tmps[2]? = some (.bool false) → (∃ tok buf emp sc, Mm w0 w' t line ri tok buf st en (.iface 76 (.pointer (some a2))) emp sc) → longFrom 0 t.data.toList = true → Q .ret a w') :
    Code.wp Tryf.prog (pD Tryf.f17.body) (Exit.then K Q) a w := by
  have h' := h
  obtain ⟨⟨tok, buf, emp, sc, hm, hb⟩, hwin, l1, l2, l3, hmax, hlong⟩ := h
  obtain ⟨c0, c1, c2, c3, c4, c5, c6, c7, c8, c9, c10, cz⟩ := sc_cells hm.hS
  obtain ⟨bo, rfl⟩ := hb.slice
  by_cases he : en = n
  rotate_left
  · exact pieceD0 _ w a K Q hF bo n en he c4 c6 (fun a w' f m => hK a w' n f ⟨⟨_, _, _, _, hm.mem m, hb.mem m⟩, hwin, l1, l2, l3, hmax, hlong⟩ (by omega)) trivial
  obtain rfl := hfull he
  subst he
  by_cases hbig : en = 65536
  · refine pieceD1 _ w a K Q hF bo en a2 (by omega) (by omega) c2 c4 c6 c7 cz hg trivial (fun a w' f e m => hQ a w' f e ⟨tok, _, emp, sc, (hm.set7 _).mem m⟩ ?_)
    rw [hlong]
    refine long_long _ ?_ ?_
    · have : t.data.toList.length = t.size := rfl
      rw [List.length_drop]; omega
    · intro m hm'
      rw [List.getElem?_drop]
      exact hno m (by omega)
  · rw [pD_eq]
    refine wp_seq (pieceDA _ w a _ _ hF bo en c4 c6 (fun a1 w1 f1 e1 m1 => wp_cond_true e1 ?_) trivial)
    obtain ⟨d0, d1, d2, d3, d4, d5, d6, d7, d8, d9, d10, dz⟩ := sc_cells (hm.mem m1).hS
    refine wp_seq (pieceDB _ w1 a1 _ _ f1 bo en 65536 (by rw [decide_eq_false_iff_not]; omega) (by rw [decide_eq_false_iff_not]; omega) d2 d4 (fun a2 w2 f2 m2 => ?_) trivial)
    have m12 := m1.trans m2
    have h2 : St w0 w2 t line p ri 0 en en .nilIface := ⟨⟨tok, _, emp, sc, hm.mem m12, hb.mem m12⟩, hwin, l1, l2, l3, hmax, hlong⟩
    rcases Nat.eq_zero_or_pos en with rfl | hpos
    · exact grow_first f2 h2 (fun a w' n' f s l => hK a w' n' f s l)
    · rcases Nat.lt_or_ge 65536 (2 * en) with hc | hc
      · exact grow_more 65536 (.inr ⟨hc, rfl⟩) hpos (by omega) f2 h2 (fun a w' n' f s l => hK a w' n' f s l)
      · exact grow_more (2 * en) (.inl ⟨hc, rfl⟩) hpos (by omega) f2 h2 (fun a w' n' f s l => hK a w' n' f s l)
end
end Go.Proofs.Qxb6612715aFmt.W
