/-
  Seat b6608749aF: trace.ParseInstance computes 'Plain.inst'.
-/
import Derived.Test.Qxb6608749aFmtInst0
namespace Go.Proofs.Qxb6608749aFmt.W
open Go.RowKit
open Go.Extern.Stop Go.Stop Go.Extern
open Go.Proofs.Qxb6608749aFmt.Plain
set_option linter.unusedVariables false

/-- How ParseInstance ends. -/
def EndedI (r : Option (List UInt8 × Nat)) (e : Ending) : Prop :=
  (∃ (x : ByteArray) (n : Nat), r = some (x.data.toList, n) ∧ e = .returned (.tuple #[.string x, .int .i64 n, .nilIface])) ∨
  (r = none ∧ ∃ N : Nat, e = .returned (.tuple #[.string ⟨#[]⟩, .int .i64 0, .iface 48 (.pointer (some ⟨N, 0, none⟩))]))

theorem ended_ref {r : Option (List UInt8 × Nat)} (h : r = none) (N : Nat) : EndedI r (.returned (.tuple #[.string ⟨#[]⟩, .int .i64 0, .iface 48 (.pointer (some ⟨N, 0, none⟩))])) := Or.inr ⟨h, N, rfl⟩

theorem numTop_empty : numTop (⟨#[]⟩ : ByteArray).data.toList = none := rfl

theorem err1_behind (F : Interp) (s : ByteArray) (w W1 : World) (hF : F.answers w.tape) (hb : Below w.heap.size w W1) :
    Calls Tryf.prog 12 #[.string ⟨#[105, 110, 115, 116, 97, 110, 99, 101, 32, 110, 97, 109, 101, 32, 37, 113, 32, 105, 115, 32, 110, 111, 116, 32, 88, 35, 78]⟩, .slice (some ⟨W1.heap.size, 0, none⟩) 1 1] (W1.alloc (.cells #[.iface 9 (.string s)] 20)) fun e w' =>
      ∃ N, e = .returned (.iface 48 (.pointer (some ⟨N, 0, none⟩))) ∧ Below w.heap.size w w' := by
  have hbW : Below w.heap.size w (W1.alloc (.cells #[.iface 9 (.string s)] 20)) := hb.alloc hb.size _
  refine (errorf1 F s W1.heap.size _ (by rw [hbW.tape]; exact hF) (by go_simp)).mono ?_
  rintro e w' ⟨N, rfl, h⟩
  exact ⟨N, rfl, hbW.trans (h.mono hbW.size)⟩

theorem err2_behind (F : Interp) (s : ByteArray) (w W1 : World) (hF : F.answers w.tape) (hb : Below w.heap.size w W1) :
    Calls Tryf.prog 12 #[.string ⟨#[105, 110, 115, 116, 97, 110, 99, 101, 32, 110, 97, 109, 101, 32, 37, 113, 58, 32, 105, 110, 115, 116, 97, 110, 99, 101, 115, 32, 99, 111, 117, 110, 116, 32, 102, 114, 111, 109, 32, 49]⟩, .slice (some ⟨W1.heap.size, 0, none⟩) 1 1] (W1.alloc (.cells #[.iface 9 (.string s)] 20)) fun e w' =>
      ∃ N, e = .returned (.iface 48 (.pointer (some ⟨N, 0, none⟩))) ∧ Below w.heap.size w w' := by
  have hbW : Below w.heap.size w (W1.alloc (.cells #[.iface 9 (.string s)] 20)) := hb.alloc hb.size _
  refine (errorf2 F s W1.heap.size _ (by rw [hbW.tape]; exact hF) (by go_simp)).mono ?_
  rintro e w' ⟨N, rfl, h⟩
  exact ⟨N, rfl, hbW.trans (h.mono hbW.size)⟩

set_option maxHeartbeats 4000000 in
set_option maxRecDepth 100000 in
theorem inst_miss (F : Interp) (s : ByteArray) (hs : s.size ≤ 1048577) (t1 t2 : TypeId) (p1 p2 : Value) (w : World) (hF : F.answers w.tape)
    (hv1 : w.cell? ⟨1, 0, none⟩ = some (.iface t1 p1)) (hv2 : w.cell? ⟨2, 0, none⟩ = some (.iface t2 p2)) (h : Lib.indexByte s.data.toList 35 = -1) :
    Calls Tryf.prog 7 #[.string s] w fun e w' => EndedI (inst s.data.toList) e ∧ Below w.heap.size w w' := by
  have hcut := fun w => cut_miss s w h
  have hi := Lib.hid (inst_nohash _ h)
  clear h
  go_enter Tryf.func7, Tryf.ntmps7
  go_wp2_with (go_at_call 10; refine (hcut _).mono ?_; rintro e w ⟨rfl, rfl⟩)
  refine (parse_any ⟨#[]⟩ (by decide) t1 t2 p1 p2 _ hv1 hv2).mono ?_
  rintro e W1 ⟨he, hb1⟩
  rcases he with ⟨u, hu, rfl⟩ | ⟨_, v, N, rfl⟩
  · rw [numTop_empty] at hu; cases hu
  go_wp2_with fail
  refine (err1_behind F s w W1 hF hb1).mono ?_
  rintro e w' ⟨N, rfl, hb2⟩
  go_wp2
  go_ret3
  exact ⟨ended_ref hi.out _, hb2⟩

theorem inst_hit_eq (s : ByteArray) (i : Nat) (h : Lib.indexByte s.data.toList 35 = i) : inst s.data.toList =
    if i = 0 then none else match numTop (s.extract (i + 1) s.size).data.toList with
    | some (u + 1) => some ((s.extract 0 i).data.toList, u + 1)
    | _ => none := by
  unfold inst
  rw [h, Lib.extract_data, Lib.extract_data]
  have e1 : (s.data.toList.drop (i + 1)).take (s.size - (i + 1)) = s.data.toList.drop (i + 1) := List.take_of_length_le (by rw [List.length_drop, ← Lib.size_eq]; omega)
  rw [e1]
  simp only [List.drop_zero, Nat.sub_zero]
  rfl

theorem empty_iff (s : ByteArray) (i : Nat) (hi : i ≤ s.size) : (s.extract 0 i).toList.isEmpty = decide (i = 0) := by
  rw [Lib.toList_data, Lib.extract_data, Bool.eq_iff_iff]
  simp only [List.isEmpty_iff, decide_eq_true_iff, List.drop_zero, Nat.sub_zero]
  rw [List.take_eq_nil_iff, ← List.length_eq_zero_iff, ← Lib.size_eq]
  omega

set_option maxHeartbeats 4000000 in
set_option maxRecDepth 100000 in
theorem inst_hit (F : Interp) (s : ByteArray) (i : Nat) (hs : s.size ≤ 1048577) (t1 t2 : TypeId) (p1 p2 : Value) (w : World) (hF : F.answers w.tape)
    (hv1 : w.cell? ⟨1, 0, none⟩ = some (.iface t1 p1)) (hv2 : w.cell? ⟨2, 0, none⟩ = some (.iface t2 p2)) (h : Lib.indexByte s.data.toList 35 = i) :
    Calls Tryf.prog 7 #[.string s] w fun e w' => EndedI (inst s.data.toList) e ∧ Below w.heap.size w w' := by
  have hlt : i < s.size := by have := indexByte_lt h; rw [← Lib.size_eq] at this; exact this
  have hcut := fun w => cut_hit s i w h hlt hs
  have hi := Lib.hid (inst_hit_eq s i h)
  clear h
  have hemp := empty_iff s i (by omega)
  have hsz : (s.extract (i + 1) s.size).size ≤ 1048577 := by rw [ByteArray.size_extract]; omega
  have hsz0 : (s.extract 0 i).data.toList.length = i := by rw [Lib.extract_data]; simp; omega
  generalize s.extract (i + 1) s.size = nm at *
  generalize s.extract 0 i = x at *
  go_enter Tryf.func7, Tryf.ntmps7
  go_wp2_with (go_at_call 10; refine (hcut _).mono ?_; rintro e w' ⟨rfl, rfl⟩)
  refine (parse_any nm hsz t1 t2 p1 p2 w.drew (by exact hv1) (by exact hv2)).mono ?_
  rintro e W1 ⟨he, hb1⟩
  have hb1 : Below w.heap.size w W1 := (Below.drew (Below.refl _ w)).trans hb1
  by_cases h0 : i = 0
  · have hz : x.toList.isEmpty = true := by rw [hemp]; exact decide_eq_true h0
    have hi2 : Hid (inst s.data.toList = none) := by have := hi.out; rw [if_pos h0] at this; exact this
    clear hi hemp hsz0 h0 hlt
    rcases he with ⟨u, hu, rfl⟩ | ⟨_, v, N, rfl⟩
    · clear hu
      go_wp2_with fail
      refine (err1_behind F s w W1 hF hb1).mono ?_
      rintro e w' ⟨N, rfl, hb2⟩
      go_wp2
      go_ret3
      exact ⟨ended_ref hi2.out _, hb2⟩
    · go_wp2_with fail
      refine (err1_behind F s w W1 hF hb1).mono ?_
      rintro e w' ⟨N, rfl, hb2⟩
      go_wp2
      go_ret3
      exact ⟨ended_ref hi2.out _, hb2⟩
  · have hz : x.toList.isEmpty = false := by rw [hemp]; exact decide_eq_false h0
    have hi1 := hi.out
    rw [if_neg h0] at hi1
    clear hi hemp hsz0 h0 hlt
    rcases he with ⟨u, hu, rfl⟩ | ⟨hn, v, N, rfl⟩
    · rw [hu] at hi1
      have hle := numTop_le hu
      clear hu
      cases u with
      | zero =>
        have hi2 := Lib.hid hi1
        clear hi1
        go_wp2_with fail
        refine (err2_behind F s w W1 hF hb1).mono ?_
        rintro e w' ⟨N, rfl, hb2⟩
        go_wp2
        go_ret3
        exact ⟨ended_ref hi2.out _, hb2⟩
      | succ u =>
        have hi2 := Lib.hid hi1
        clear hi1
        have hne : (((u + 1 : Nat) : Int) == 0) = false := by rw [beq_eq_false_iff_ne]; omega
        go_wp2_with fail
        go_ret3
        exact ⟨Or.inl ⟨x, u + 1, hi2.out, rfl⟩, hb1⟩
    · rw [hn] at hi1
      have hi2 := Lib.hid hi1
      clear hi1 hn
      go_wp2_with fail
      refine (err1_behind F s w W1 hF hb1).mono ?_
      rintro e w' ⟨N, rfl, hb2⟩
      go_wp2
      go_ret3
      exact ⟨ended_ref hi2.out _, hb2⟩

/-- ParseInstance, at every text. -/
theorem inst_any (F : Interp) (s : ByteArray) (hs : s.size ≤ 1048577) (t1 t2 : TypeId) (p1 p2 : Value) (w : World) (hF : F.answers w.tape)
    (hv1 : w.cell? ⟨1, 0, none⟩ = some (.iface t1 p1)) (hv2 : w.cell? ⟨2, 0, none⟩ = some (.iface t2 p2)) :
    Calls Tryf.prog 7 #[.string s] w fun e w' => EndedI (inst s.data.toList) e ∧ Below w.heap.size w w' := by
  have hge := Lib.indexByte_ge s.data.toList 35
  by_cases h : Lib.indexByte s.data.toList 35 = -1
  · exact inst_miss F s hs t1 t2 p1 p2 w hF hv1 hv2 h
  · obtain ⟨i, hi⟩ : ∃ i : Nat, Lib.indexByte s.data.toList 35 = i := ⟨(Lib.indexByte s.data.toList 35).toNat, by omega⟩
    exact inst_hit F s i hs t1 t2 p1 p2 w hF hv1 hv2 hi
end Go.Proofs.Qxb6608749aFmt.W
