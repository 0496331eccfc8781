/-
  Seat b6608749aF: trace.ParseInstance and what it calls beside strconv: strings.Cut at "#", fmt.Errorf (its stop), and the law's own helpers.
-/
import Derived.Test.Qxb6608749aFmtErr
import Derived.Stop.CallBack
import Derived.Stop.IfaceNil
import Derived.WalkSpells
import Derived.Laws.BytesArg
namespace Go.Proofs.Qxb6608749aFmt.W
open Go.RowKit
open Go.Extern.Stop Go.Stop Go.Extern
open Go.Proofs.Qxb6608749aFmt.Plain
set_option linter.unusedVariables false

/-! ### fmt.Errorf -/
theorem call16 (args : Array Value) (w : World) : (callFunc 16 args).run Tryf.prog w = ((FmtStop.errorf #[9, 38] #[25] args).run Tryf.prog w).andThen fun v w' => .ok (.value v) w' :=
  run_callFunc_extern Tryf.func16 (by kernel_rfl) (by kernel_rfl) (by kernel_rfl) (by kernel_rfl) args w
theorem guardF (name : String) (w : World) : (FmtStop.guard name).run Tryf.prog w = .ok () w := by kernel_rfl
theorem fmt0 : FmtStop.printed? ⟨#[105, 110, 115, 116, 97, 110, 99, 101, 32, 110, 97, 109, 101, 32, 37, 113, 32, 105, 115, 32, 110, 111, 116, 32, 88, 35, 78]⟩ 1 = some [(0, 113, false)] := by kernel_rfl
theorem fmt0r (w : World) : (FmtDoors.printed ⟨#[105, 110, 115, 116, 97, 110, 99, 101, 32, 110, 97, 109, 101, 32, 37, 113, 32, 105, 115, 32, 110, 111, 116, 32, 88, 35, 78]⟩ 1).run Tryf.prog w = .ok [(0, 113, false)] w := by kernel_rfl
theorem fmt1 : FmtStop.printed? ⟨#[105, 110, 115, 116, 97, 110, 99, 101, 32, 110, 97, 109, 101, 32, 37, 113, 58, 32, 105, 110, 115, 116, 97, 110, 99, 101, 115, 32, 99, 111, 117, 110, 116, 32, 102, 114, 111, 109, 32, 49]⟩ 1 = some [(0, 113, false)] := by kernel_rfl
theorem fmt1r (w : World) : (FmtDoors.printed ⟨#[105, 110, 115, 116, 97, 110, 99, 101, 32, 110, 97, 109, 101, 32, 37, 113, 58, 32, 105, 110, 115, 116, 97, 110, 99, 101, 115, 32, 99, 111, 117, 110, 116, 32, 102, 114, 111, 109, 32, 49]⟩ 1).run Tryf.prog w = .ok [(0, 113, false)] w := by kernel_rfl
def shape9 : List UInt8 := [12, 6, 0, 0, 0, 0, 0, 0, 0, 115, 116, 114, 105, 110, 103]
theorem op9 (name : String) (x : ByteArray) (w : World) : (FmtStop.operand name true 113 false (.iface 9 (.string x))).run Tryf.prog w = .ok (shape9, FmtStop.pack x.data.toList) w := by kernel_rfl
theorem ptr48 (w : World) : (FmtStop.ptrTo "errors.errorString").run Tryf.prog w = .ok 48 w := by kernel_rfl
theorem elem48 (w : World) : (elemOf 48).run Tryf.prog w = .ok 50 w := by kernel_rfl

attribute [local go_sem] call16 guardF fmt0 fmt0r fmt1 fmt1r op9 ptr48 elem48

set_option maxHeartbeats 2000000 in
theorem errorf1 (F : Interp) (s : ByteArray) (blk : Nat) (w : World) (hF : F.answers w.tape) (hc0 : w.cell? ⟨blk, 0, none⟩ = some (.iface 9 (.string s))) :
    Calls Tryf.prog 12 #[.string ⟨#[105, 110, 115, 116, 97, 110, 99, 101, 32, 110, 97, 109, 101, 32, 37, 113, 32, 105, 115, 32, 110, 111, 116, 32, 88, 35, 78]⟩, .slice (some ⟨blk, 0, none⟩) 1 1] w fun e w' =>
      ∃ N, e = .returned (.iface 48 (.pointer (some ⟨N, 0, none⟩))) ∧ Below w.heap.size w w' := by
  have hF' := answers_open hF
  go_enter Tryf.func12, Tryf.ntmps12
  go_wp2
  go_ret
  exact ⟨_, rfl, ((Below.refl _ w).alloc (Nat.le_refl _) _).drew⟩

set_option maxHeartbeats 2000000 in
theorem errorf2 (F : Interp) (s : ByteArray) (blk : Nat) (w : World) (hF : F.answers w.tape) (hc0 : w.cell? ⟨blk, 0, none⟩ = some (.iface 9 (.string s))) :
    Calls Tryf.prog 12 #[.string ⟨#[105, 110, 115, 116, 97, 110, 99, 101, 32, 110, 97, 109, 101, 32, 37, 113, 58, 32, 105, 110, 115, 116, 97, 110, 99, 101, 115, 32, 99, 111, 117, 110, 116, 32, 102, 114, 111, 109, 32, 49]⟩, .slice (some ⟨blk, 0, none⟩) 1 1] w fun e w' =>
      ∃ N, e = .returned (.iface 48 (.pointer (some ⟨N, 0, none⟩))) ∧ Below w.heap.size w w' := by
  have hF' := answers_open hF
  go_enter Tryf.func12, Tryf.ntmps12
  go_wp2
  go_ret
  exact ⟨_, rfl, ((Below.refl _ w).alloc (Nat.le_refl _) _).drew⟩

/-! ### strings.Cut(s, "#") -/
set_option maxHeartbeats 400000 in
theorem lite_any (s : ByteArray) (w : World) :
    Calls Tryf.prog 25 #[.string s, .int .u8 35] w fun x w' => x = .returned (.int .i64 (Lib.indexByte s.data.toList 35)) ∧ w' = w := by
  go_enter Tryf.func25, Tryf.ntmps25
  go_wp2
  rw [run_callFunc_extern Tryf.func31 (by kernel_rfl) (by kernel_rfl) (by kernel_rfl) (e := Extern.BytealgIndexByte.indexByte) (by kernel_rfl), Lib.run_indexByteString]
  simp only [Result.andThen]
  rw [Oper.upon_value]
  go_wp2
  go_ret
  exact ⟨rfl, rfl⟩

set_option maxHeartbeats 4000000 in
set_option maxRecDepth 100000 in
theorem index_any (s : ByteArray) (w : World) :
    Calls Tryf.prog 18 #[.string s, .string ⟨#[35]⟩] w fun e w' => e = .returned (.int .i64 (Lib.indexByte s.data.toList 35)) ∧ w' = w := by
  go_enter Tryf.func18, Tryf.ntmps18
  go_wp2_with (go_at_call 25; refine (lite_any _ _).mono ?_; rintro e w' ⟨rfl, rfl⟩)
  · have h : ([35] == s.toList) = true := by assumption
    go_ret
    refine ⟨?_, rfl⟩
    have e : s.data.toList = [35] := by rw [← Lib.toList_data]; exact (beq_iff_eq.1 h).symm
    rw [e]
    simp [Lib.indexByte]
  · go_ret
    exact ⟨rfl, rfl⟩

set_option maxHeartbeats 1000000 in
theorem cutIn_miss (s : ByteArray) (w : World) (h : Lib.indexByte s.data.toList 35 = -1) :
    Calls Tryf.prog 13 #[.string s, .string ⟨#[35]⟩] w fun e w' => e = .returned (.tuple #[.string s, .string ⟨#[]⟩, .bool false]) ∧ w' = w := by
  have hx := index_any s
  rw [h] at hx
  clear h
  go_enter Tryf.func13, Tryf.ntmps13
  go_wp2_with (go_at_call 18; refine (hx _).mono ?_; rintro e w' ⟨rfl, rfl⟩)
  go_ret3
  exact ⟨rfl, rfl⟩

set_option maxHeartbeats 1000000 in
theorem cutIn_hit (s : ByteArray) (i : Nat) (w : World) (h : Lib.indexByte s.data.toList 35 = i) (hi : i < s.size) (hs : s.size ≤ 1048577) :
    Calls Tryf.prog 13 #[.string s, .string ⟨#[35]⟩] w fun e w' => e = .returned (.tuple #[.string (s.extract 0 i), .string (s.extract (i + 1) s.size), .bool true]) ∧ w' = w.drew := by
  have hx := index_any s
  rw [h] at hx
  clear h
  have c1 : (0 : Int) ≤ ↑i := by omega
  have c2 : (↑i : Int) ≤ ↑s.size := by omega
  have c3 : (0 : Int) ≤ ↑i + 1 := by omega
  have c4 : (↑i + 1 : Int) ≤ ↑s.size := by omega
  go_enter Tryf.func13, Tryf.ntmps13
  go_wp2_with (go_at_call 18; refine (hx _).mono ?_; rintro e w' ⟨rfl, rfl⟩)
  go_region
  go_wp2
  go_ret3
  exact ⟨rfl, rfl⟩

set_option maxHeartbeats 1000000 in
theorem cut_miss (s : ByteArray) (w : World) (h : Lib.indexByte s.data.toList 35 = -1) :
    Calls Tryf.prog 10 #[.string s, .string ⟨#[35]⟩] w fun e w' => e = .returned (.tuple #[.string s, .string ⟨#[]⟩, .bool false]) ∧ w' = w := by
  go_enter Tryf.func10, Tryf.ntmps10
  go_wp2_with (go_at_call 13; refine (cutIn_miss s _ h).mono ?_; rintro e w' ⟨rfl, rfl⟩)
  go_ret3
  exact ⟨rfl, rfl⟩
set_option maxHeartbeats 1000000 in
theorem cut_hit (s : ByteArray) (i : Nat) (w : World) (h : Lib.indexByte s.data.toList 35 = i) (hi : i < s.size) (hs : s.size ≤ 1048577) :
    Calls Tryf.prog 10 #[.string s, .string ⟨#[35]⟩] w fun e w' => e = .returned (.tuple #[.string (s.extract 0 i), .string (s.extract (i + 1) s.size), .bool true]) ∧ w' = w.drew := by
  have hx := fun w => cutIn_hit s i w h hi hs
  clear h
  go_enter Tryf.func10, Tryf.ntmps10
  go_wp2_with (go_at_call 13; refine (hx _).mono ?_; rintro e w' ⟨rfl, rfl⟩)
  go_ret3
  exact ⟨rfl, rfl⟩

/-! ### the law's helpers -/
set_option maxHeartbeats 400000 in
theorem bytes_any (s : ByteArray) (d : Int) (w : World) (hs : s.size ≤ 1048576) :
    Calls Tryf.prog 8 #[.string s, .int .i64 d] w fun e w' => e = .returned (.bool true) ∧ w' = w := by
  go_enter Tryf.func8, Tryf.ntmps8
  go_wp2
  go_ret; exact ⟨rfl, rfl⟩
set_option maxHeartbeats 400000 in
theorem bytes_no (s : ByteArray) (d : Int) (w : World) (hs : ¬ s.size ≤ 1048576) (hm : s.size ≤ maxLen) :
    Calls Tryf.prog 8 #[.string s, .int .i64 d] w fun e w' => e = .returned (.bool false) ∧ w' = w := by
  unfold maxLen at hm
  go_enter Tryf.func8, Tryf.ntmps8
  go_wp2
  go_ret; exact ⟨rfl, rfl⟩

theorem ret_bool {a b : Bool} (h : a = b) : Ending.returned (.bool a) = .returned (.bool b) := by rw [h]
theorem no_hash (l : List UInt8) (h : ∀ m : Nat, l[m]? ≠ some 35) : Lib.indexByte l 35 = -1 := by
  have hge := Lib.indexByte_ge l 35
  by_cases h' : Lib.indexByte l 35 = -1
  · exact h'
  · obtain ⟨o, ho⟩ : ∃ o : Nat, Lib.indexByte l 35 = o := ⟨(Lib.indexByte l 35).toNat, by omega⟩
    exact absurd (Lib.indexByte_some ho).1 (h o)
/-- What hasHash answers: false: then there is none. -/
def HashSaid (s : ByteArray) (e : Ending) : Prop := ∃ b : Bool, e = .returned (.bool b) ∧ (b = false → Lib.indexByte s.data.toList 35 = -1)
set_option maxHeartbeats 400000 in
theorem hasHash_any (s : ByteArray) (w : World) (hs : s.size ≤ 1048576) :
    Calls Tryf.prog 6 #[.string s] w fun e w' => HashSaid s e ∧ w' = w := by
  go_enter Tryf.func6, Tryf.ntmps6
  go_wp2
  go_loop [3] (fun i => ∃ k : Nat, k ≤ s.size ∧ i = .int .i64 k ∧ ∀ m : Nat, m < k → s.data.toList[m]? ≠ some 35) (fun i => s.size - (intOf i).toNat)
  case atStart => exact ⟨0, Nat.zero_le _, rfl, fun m hm => by omega⟩
  case round =>
    obtain ⟨k, hk, rfl, hno⟩ := hrel
    have Hno : Hid (∀ m : Nat, m < k → s.data.toList[m]? ≠ some 35) := hno
    clear hno
    by_cases hlt : k < s.size
    · go_wp2
      · go_ret
        exact ⟨⟨true, rfl, fun h => by cases h⟩, rfl⟩
      · rename_i hne
        have hne' : ¬ (s[k].toNat : Int) = 35 := by simpa using hne
        refine ⟨⟨k + 1, by omega, by go_num, fun m hm => ?_⟩, by simp [intOf]; omega⟩
        rcases Nat.lt_or_ge m k with h | h
        · exact Hno.out m h
        · obtain rfl : m = k := by omega
          rw [Lib.data_getElem? s m hlt]
          intro e
          injection e with e
          exact hne' (by rw [e]; rfl)
    · go_wp2
      go_ret
      refine ⟨⟨false, rfl, fun _ => no_hash _ fun m => ?_⟩, rfl⟩
      rcases Nat.lt_or_ge m k with h | h
      · exact Hno.out m h
      · rw [List.getElem?_eq_none (by rw [← Lib.size_eq]; omega)]
        exact fun h => by cases h

set_option maxHeartbeats 400000 in
theorem digitText_any (d : Nat) (w : World) (hd : d ≤ 9) :
    Calls Tryf.prog 9 #[.int .i64 d] w fun e w' => e = .returned (.string (strOfNums [48 + (d : Int)])) ∧ Below w.heap.size w w' := by
  have hcv := run_convert_bytes_arg (P := Tryf.prog) (w.alloc (.cells #[.int .u8 (48 + (d : Int))] 5)) 36 5 Tryf.underlying36 Tryf.underlying5 w.heap.size 0 1 1 [48 + (d : Int)] rfl (fun j hj => by
    obtain rfl : j = 0 := by omega
    go_simp) 9 Tryf.underlying9
  go_enter Tryf.func9, Tryf.ntmps9
  go_wp2
  go_ret
  exact ⟨rfl, (Below.refl _ w).alloc (Nat.le_refl _) _⟩

theorem digit_byte (d : Nat) (hd : d ≤ 9) : ∃ c : UInt8, c.toNat = 48 + d ∧ strOfNums [48 + (d : Int)] = ⟨#[c]⟩ := by
  refine ⟨UInt8.ofNat (48 + d), ?_, ?_⟩
  · rw [UInt8.toNat_ofNat']
    exact Nat.mod_eq_of_lt (by omega)
  · apply ByteArray.ext
    apply Array.toList_inj.1
    rw [strOfNums_data]
    simp only [List.map_cons, List.map_nil]
    rw [show ((48 : Int) + (d : Int)).toNat = 48 + d from by omega]
end Go.Proofs.Qxb6608749aFmt.W
