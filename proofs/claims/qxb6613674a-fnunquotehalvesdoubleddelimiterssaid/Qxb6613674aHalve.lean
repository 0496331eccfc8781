/-
  Seat b6613674a: zzb1HalveRuns.
-/
import Derived.Test.Qxb6613674aSmall
import Derived.Laws.IdiomStrings
namespace Go.Proofs.Qxb6613674a.W
open Go.RowKit
open Go.Proofs.Qxb6613674a.Plain
set_option linter.unusedVariables false

theorem info5 : (Try.prog.info? 5).map (fun i => (i.zero, i.size, i.bytes)) = some (some (.int .u8 0), 1, 1) := by kernel_rfl

/-- The bytes as cells. -/
def cellsOf (l : List UInt8) : List Value := l.map fun x => Value.int .u8 x.toNat
theorem cellsOf_append (a b : List UInt8) : cellsOf (a ++ b) = cellsOf a ++ cellsOf b := List.map_append ..
theorem cellsOf_length (a : List UInt8) : (cellsOf a).length = a.length := List.length_map ..

/-- A row that the call itself made, k of its n bytes filled: g its block. -/
def Own (w : World) (g n : Nat) (l : List UInt8) (wr : World) : Prop :=
  wr.ownsRow w.heap.size 5 1 (.slice (some ⟨g, 0, none⟩) l.length n) l.length (cellsOf l) ∧ Below w.heap.size w wr

theorem Own.next {w wr w2 : World} {g n : Nat} {pre : List UInt8} {x : UInt8} {ob : Obj} (O : Own w g n pre wr) (hg : w.heap.size ≤ g)
    (h : w2.ownsRow w.heap.size 5 1 (.slice (some ⟨g, 0, none⟩) (pre.length + 1) n) (pre.length + 1) (cellsOf pre ++ [.int .u8 (x.toNat : Int)])) (hgr : (wr.alloc ob).grownBy w2 (some g)) : Own w g n (pre ++ [x]) w2 := by
  refine ⟨?_, (O.2.alloc O.2.size ob).grown hgr ?_ (fun k hk => by cases hk; exact hg)⟩
  · rw [List.length_append, cellsOf_append]; exact h
  · have := O.2.size
    simp only [World.alloc, Array.size_push]; omega

theorem one_cell {wr : World} {c : Value} {T : TypeId} : ∀ (j : Nat) (u : Value), [c][j]? = some u → (wr.alloc (.cells #[c] T)).cell? ((⟨wr.heap.size, 0, none⟩ : Addr).add j) = some u := by
  intro j u hj
  match j, hj with
  | 0, hj =>
    have hj' : c = u := by simpa using hj
    subst hj'
    have ea : (⟨wr.heap.size, 0, none⟩ : Addr).add 0 = ⟨wr.heap.size, 0, none⟩ := by unfold Addr.add; split <;> simp_all
    rw [ea]
    simp only [World.cell?, heap_alloc_new]
    rfl

theorem one_one (x : UInt8) : ∀ u ∈ [Value.int .u8 (x.toNat : Int)], u.oneCell' = true := by
  intro u hu
  simp at hu; subst hu; rfl

theorem own_string {w wr : World} {g n : Nat} {l : List UInt8} (O : Own w g n l wr) : (convert 28 9 (.slice (some ⟨g, 0, none⟩) l.length n)).run Try.prog wr = .ok (.string ⟨l.toArray⟩) wr :=
  run_convert_bytes_back wr 28 9 5 ⟨g, 0, none⟩ n l Try.underlying28 Try.underlying5 Try.underlying9 (fun j hj => O.1.cells (g := g) rfl j _ (by unfold cellsOf; rw [List.getElem?_map, List.getElem?_eq_getElem hj]; rfl))

theorem pairs_other {d b : UInt8} {l o : List UInt8} (h : Pairs d (b :: l) o) (hb : b ≠ d) : ∃ o', o = b :: o' ∧ Pairs d l o' := by
  cases h with
  | other _ h => exact ⟨_, rfl, h⟩
  | two h => exact absurd rfl hb
theorem pairs_nil {d : UInt8} {o : List UInt8} (h : Pairs d [] o) : o = [] := by cases h; rfl

set_option maxHeartbeats 4000000 in
theorem halve_any (s : ByteArray) (d : UInt8) (o : List UInt8) (w : World) (hs : s.size ≤ 1048576) (hP : Pairs d s.data.toList o) :
    Calls Try.prog 22 #[.string s, .int .u8 d.toNat] w fun e w' => e = .returned (.string ⟨o.toArray⟩) ∧ Below w.heap.size w w' := by
  have hsI : (s.size : Int) ≤ 1048576 := by omega
  have hol := hP.length
  have hsl : s.data.toList.length = s.size := rfl
  obtain ⟨i0, hi0, hz0, hz1, hz2⟩ := info_parts info5
  go_enter Try.func22, Try.ntmps22
  go_wp2_with (at_make; refine wpList_make_own _ rfl _ _ 28 rfl w.heap.size 5 i0 (.int .u8 0) 1 Try.underlying28 hi0 hz0 hz1 _ _ _ s.size rfl rfl (by omega) ?b2 ?b3 (Nat.le_refl _) ?_)
  case b2 => rw [hz2]; omega
  case b3 => unfold maxLen; omega
  intro w1 hown1 hgrow1
  have O1 : Hid (Own w w.heap.size s.size [] w1) := ⟨hown1, (Below.refl _ _).grown hgrow1 (Nat.le_refl _) (fun k h => by cases h)⟩
  clear hown1 hgrow1
  go_wp2
  go_loopw [5, 6] (fun out iv wr => ∃ (i : Nat) (pre rest : List UInt8), iv = .int .i64 i ∧ i ≤ s.size ∧ out = .slice (some ⟨w.heap.size, 0, none⟩) pre.length s.size ∧ Hid (Own w w.heap.size s.size pre wr) ∧ Hid (Pairs d (s.data.toList.drop i) rest) ∧ Hid (pre ++ rest = o))
    (fun _ iv _ => s.size - (intOf iv).toNat)
  case atStart => exact ⟨0, [], o, rfl, Nat.zero_le _, rfl, O1, hP, rfl⟩
  case round =>
    obtain ⟨i, pre, rest, rfl, hi, rfl, O, HP, E⟩ := hrel
    by_cases hlt : i < s.size
    · by_cases hc : (s[i].toNat : Int) = (d.toNat : Int)
      · go_wp2
        go_loop [7] (fun jv => ∃ j : Nat, jv = .int .i64 j ∧ i ≤ j ∧ j ≤ s.size ∧ Hid (s.data.toList.drop i = List.replicate (j - i) d ++ s.data.toList.drop j)) (fun jv => s.size - (intOf jv).toNat)
        case atStart => exact ⟨i, rfl, Nat.le_refl _, hi, by show _ = List.replicate (i - i) d ++ _; rw [Nat.sub_self]; rfl⟩
        case round =>
          obtain ⟨j, rfl, hij, hj, G⟩ := hrel
          by_cases hgo : ∃ hjl : j < s.size, s[j] = d
          · obtain ⟨hjl, hjd⟩ := hgo
            have hjc : (s[j].toNat : Int) = (d.toNat : Int) := by rw [hjd]
            have G' : Hid (s.data.toList.drop i = List.replicate (j + 1 - i) d ++ s.data.toList.drop (j + 1)) := by
              show _ = _
              rw [show j + 1 - i = (j - i) + 1 from by omega]
              exact step_run G.out (by rw [drop_at s j hjl, hjd])
            clear G
            go_wp2
            exact ⟨⟨j + 1, by go_num, by omega, by omega, G'⟩, by simp [intOf]; omega⟩
          · have hne : i < j := by
              rcases Nat.lt_or_ge i j with h | h
              · exact h
              · obtain rfl : i = j := by omega
                exact absurd ⟨hlt, byte_eq hc⟩ hgo
            obtain ⟨rest', hev, hr, HP'⟩ := Pairs.unrun (j - i) (l := s.data.toList.drop j) (o := rest) (by rw [← G.out]; exact HP.out) (head_drop s j d (by
              by_cases hjl : j < s.size
              · exact .inr ⟨hjl, fun e => hgo ⟨hjl, e⟩⟩
              · exact .inl hjl))
            obtain ⟨h, hh⟩ : ∃ h, h = (j - i) / 2 := ⟨_, rfl⟩
            rw [← hh] at hr
            have hq : ((j : Int) - (i : Int)) / 2 = (h : Int) := by omega
            have hlen : pre.length + h ≤ s.size := by
              have := congrArg List.length E.out
              rw [hr] at this
              simp only [List.length_append, List.length_replicate] at this
              omega
            have E' : Hid (pre ++ List.replicate h d ++ rest' = o) := by show _ = _; rw [List.append_assoc, ← hr]; exact E.out
            have HP2 := Lib.hid HP'
            clear HP' HP E G hr hev hh
            by_cases hjl : j < s.size
            · have hjb : ((s[j].toNat : Int) == (d.toNat : Int)) = false := by rw [beq_eq_false_iff_ne]; exact fun e => hgo ⟨hjl, byte_eq e⟩
              clear hgo
              go_wp2
              go_loopw [5, 8] (fun out kv wv => ∃ k : Nat, kv = .int .i64 k ∧ k ≤ h ∧ out = .slice (some ⟨w.heap.size, 0, none⟩) (pre.length + k) s.size ∧ Hid (Own w w.heap.size s.size (pre ++ List.replicate k d) wv)) (fun _ kv _ => h - (intOf kv).toNat)
              case atStart => exact ⟨0, rfl, Nat.zero_le _, rfl, by show Own _ _ _ (pre ++ []) _; rw [List.append_nil]; exact O⟩
              case round =>
                obtain ⟨k, rfl, hk, rfl, P⟩ := hrel
                by_cases hkl : k < h
                · have hpl : (pre ++ List.replicate k d).length = pre.length + k := by simp
                  have ho := P.out.1
                  rw [hpl] at ho
                  have hkI : (k : Int) < (h : Int) := by omega
                  go_wp2_with (at_builtin; refine wpList_append_fits _ rfl (.tmp 51) (.tmp 53) 28 rfl w.heap.size 5 i0 1 Try.underlying28 hi0 hz1 w.heap.size (pre.length + k) s.size _ rfl (ho.alloc _) ⟨wr.heap.size, 0, none⟩ 1 1 [.int .u8 (d.toNat : Int)] rfl rfl one_cell (one_one d) (by omega) ?_; intro w2 hown2 hgrow2)
                  have P2 : Hid (Own w w.heap.size s.size (pre ++ List.replicate (k + 1) d) w2) := by
                    show Own _ _ _ _ _
                    rw [List.replicate_succ', ← List.append_assoc]
                    exact P.out.next (Nat.le_refl _) (by rw [hpl]; exact hown2) hgrow2
                  exact ⟨⟨k + 1, by go_num, by omega, by rw [Nat.add_assoc], P2⟩, by simp [intOf]; omega⟩
                · obtain rfl : k = h := by omega
                  have hkI : ¬ ((k : Int) < (k : Int)) := by omega
                  go_wp2
                  exact ⟨⟨j, pre ++ List.replicate k d, rest', rfl, hj, by rw [List.length_append, List.length_replicate], P, HP2, E'⟩, by simp [intOf]; omega⟩
            · clear hgo
              go_wp2
              go_loopw [5, 8] (fun out kv wv => ∃ k : Nat, kv = .int .i64 k ∧ k ≤ h ∧ out = .slice (some ⟨w.heap.size, 0, none⟩) (pre.length + k) s.size ∧ Hid (Own w w.heap.size s.size (pre ++ List.replicate k d) wv)) (fun _ kv _ => h - (intOf kv).toNat)
              case atStart => exact ⟨0, rfl, Nat.zero_le _, rfl, by show Own _ _ _ (pre ++ []) _; rw [List.append_nil]; exact O⟩
              case round =>
                obtain ⟨k, rfl, hk, rfl, P⟩ := hrel
                by_cases hkl : k < h
                · have hpl : (pre ++ List.replicate k d).length = pre.length + k := by simp
                  have ho := P.out.1
                  rw [hpl] at ho
                  have hkI : (k : Int) < (h : Int) := by omega
                  go_wp2_with (at_builtin; refine wpList_append_fits _ rfl (.tmp 51) (.tmp 53) 28 rfl w.heap.size 5 i0 1 Try.underlying28 hi0 hz1 w.heap.size (pre.length + k) s.size _ rfl (ho.alloc _) ⟨wr.heap.size, 0, none⟩ 1 1 [.int .u8 (d.toNat : Int)] rfl rfl one_cell (one_one d) (by omega) ?_; intro w2 hown2 hgrow2)
                  have P2 : Hid (Own w w.heap.size s.size (pre ++ List.replicate (k + 1) d) w2) := by
                    show Own _ _ _ _ _
                    rw [List.replicate_succ', ← List.append_assoc]
                    exact P.out.next (Nat.le_refl _) (by rw [hpl]; exact hown2) hgrow2
                  exact ⟨⟨k + 1, by go_num, by omega, by rw [Nat.add_assoc], P2⟩, by simp [intOf]; omega⟩
                · obtain rfl : k = h := by omega
                  have hkI : ¬ ((k : Int) < (k : Int)) := by omega
                  go_wp2
                  exact ⟨⟨j, pre ++ List.replicate k d, rest', rfl, hj, by rw [List.length_append, List.length_replicate], P, HP2, E'⟩, by simp [intOf]; omega⟩
      · obtain ⟨rest', rfl, HP'⟩ := pairs_other (by have := HP.out; rwa [drop_at s i hlt] at this) (fun e => hc (by rw [e]))
        have hcb : ((s[i].toNat : Int) == (d.toNat : Int)) = false := by rw [beq_eq_false_iff_ne]; exact hc
        have hlen : pre.length + 1 ≤ s.size := by
          have := congrArg List.length E.out
          simp only [List.length_append, List.length_cons] at this
          omega
        have E' : Hid (pre ++ [s[i]] ++ rest' = o) := by show _ = _; rw [List.append_assoc]; exact E.out
        have HP2 := Lib.hid HP'
        have ho := O.out.1
        clear HP' HP E
        go_wp2_with (at_builtin; refine wpList_append_fits _ rfl (.tmp 21) (.tmp 25) 28 rfl w.heap.size 5 i0 1 Try.underlying28 hi0 hz1 w.heap.size pre.length s.size _ rfl (ho.alloc _) ⟨wr.heap.size, 0, none⟩ 1 1 [.int .u8 (s[i].toNat : Int)] rfl rfl one_cell (one_one _) (by omega) ?_; intro w2 hown2 hgrow2)
        exact ⟨⟨i + 1, pre ++ [s[i]], rest', by go_num, by omega, by rw [List.length_append]; rfl, O.out.next (Nat.le_refl _) hown2 hgrow2, HP2, E'⟩, by simp [intOf]; omega⟩
    · obtain rfl : rest = [] := pairs_nil (by have := HP.out; rwa [drop_end s i (by omega)] at this)
      have e : pre = o := by have := E.out; rwa [List.append_nil] at this
      subst e
      have hcv := own_string O.out
      go_wp2
      go_ret
      exact ⟨rfl, O.out.2⟩
end Go.Proofs.Qxb6613674a.W
