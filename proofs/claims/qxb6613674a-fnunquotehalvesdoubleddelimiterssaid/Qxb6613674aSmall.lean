/-
  Seat b6613674a: the small functions: the bound on lengths, ZZnewQuoting, zzb1EvenRuns.
-/
import Derived.Test.Qxb6613674aRows
import Derived.Test.Qxb6613674aPlain
import Derived.WalkKit
import Derived.RowKit3
import Derived.Below
import Derived.LoopTactic
import Derived.OwnWalk
import Derived.Lib.Hide
import Derived.Laws.EntriesVeiled
import Derived.WalkSpells
import Derived.Deep.Light
namespace Go.Proofs.Qxb6613674a.W
open Go.RowKit
open Go.Proofs.Qxb6613674a.Plain
set_option linter.unusedVariables false

section
variable (text delim : ByteArray) (kind prefix_ closing : Int) (m db hx : Bool) (w : World)
set_option maxHeartbeats 1000000 in
theorem bytes_yes (h1 : text.size + delim.size ≤ 1048576) :
    Calls Try.prog 18 #[.string text, .int .u8 kind, .int .i64 prefix_, .string delim, .int .u8 closing, .bool m, .bool db, .bool hx] w fun e w' => e = .returned (.bool true) ∧ w' = w := by
  go_enter Try.func18, Try.ntmps18
  go_wp2
  go_ret
  exact ⟨rfl, rfl⟩

set_option maxHeartbeats 1000000 in
theorem bytes_no (h1 : ¬ (text.size + delim.size ≤ 1048576)) (ht : text.size ≤ maxLen) (hd : delim.size ≤ maxLen) :
    Calls Try.prog 18 #[.string text, .int .u8 kind, .int .i64 prefix_, .string delim, .int .u8 closing, .bool m, .bool db, .bool hx] w fun e w' => e = .returned (.bool false) ∧ w' = w := by
  unfold maxLen at ht hd
  by_cases a1 : text.size ≤ 1048576
  · by_cases a2 : delim.size ≤ 1048576
    · go_enter Try.func18, Try.ntmps18
      go_wp2
      go_ret
      exact ⟨rfl, rfl⟩
    · go_enter Try.func18, Try.ntmps18
      go_wp2
      go_ret
      exact ⟨rfl, rfl⟩
  · go_enter Try.func18, Try.ntmps18
    go_wp2
    go_ret
    exact ⟨rfl, rfl⟩
end

set_option maxHeartbeats 1000000 in
theorem newQuoting_any (kind prefix_ closing : Int) (delim : ByteArray) (m db hx : Bool) (w : World) :
    Calls Try.prog 20 #[.int .u8 kind, .int .i64 prefix_, .string delim, .int .u8 closing, .bool m, .bool db, .bool hx] w fun e w' =>
      e = .returned (.agg #[.int .u8 kind, .int .i64 prefix_, .string delim, .int .u8 closing, .nilFunc, .bool m, .bool db, .bool hx]) ∧
      w' = w.alloc (.cells #[.int .u8 kind, .int .i64 prefix_, .string delim, .int .u8 closing, .nilFunc, .bool m, .bool db, .bool hx] 38) := by
  go_enter Try.func20, Try.ntmps20
  go_wp2
  refine bodyPost_ret (v := .agg #[.int .u8 kind, .int .i64 prefix_, .string delim, .int .u8 closing, .nilFunc, .bool m, .bool db, .bool hx]) (by simp [results, Try.results20, go_sem]; try rfl) rfl ?_
  exact ⟨rfl, rfl⟩

theorem even_step {s : ByteArray} {d : UInt8} {i j : Nat} (H : Hid (∀ o', Pairs d (s.data.toList.drop i) o' → ∃ o, Pairs d s.data.toList o)) (G : Hid (s.data.toList.drop i = List.replicate (j - i) d ++ s.data.toList.drop j)) (hij : i ≤ j)
    (hp : ((j : Int) - (i : Int)) % 2 = 0) : Hid (∀ o', Pairs d (s.data.toList.drop j) o' → ∃ o, Pairs d s.data.toList o) := by
  intro o' ho
  refine H.out (List.replicate ((j - i) / 2) d ++ o') ?_
  rw [G.out]
  have := ho.run ((j - i) / 2)
  rw [show 2 * ((j - i) / 2) = j - i from by omega] at this
  exact this

/-- How zzb1EvenRuns ends. -/
def Evens (s : ByteArray) (d : UInt8) (w : World) (e : Ending) (w' : World) : Prop := w' = w ∧ (e = .returned (.bool false) ∨ (e = .returned (.bool true) ∧ ∃ o, Pairs d s.data.toList o))

set_option maxHeartbeats 2000000 in
theorem evens_any (s : ByteArray) (d : UInt8) (w : World) (hs : s.size ≤ 1048576) :
    Calls Try.prog 19 #[.string s, .int .u8 d.toNat] w (Evens s d w) := by
  have hsI : (s.size : Int) ≤ 1048576 := by omega
  go_enter Try.func19, Try.ntmps19
  go_wp2
  go_loop [5] (fun iv => ∃ i : Nat, iv = .int .i64 i ∧ i ≤ s.size ∧ Hid (∀ o', Pairs d (s.data.toList.drop i) o' → ∃ o, Pairs d s.data.toList o)) (fun iv => s.size - (intOf iv).toNat)
  case atStart => exact ⟨0, rfl, Nat.zero_le _, fun o' h => ⟨o', h⟩⟩
  case round =>
    obtain ⟨i, rfl, hi, H⟩ := hrel
    by_cases hlt : i < s.size
    · by_cases hc : (s[i].toNat : Int) = (d.toNat : Int)
      · go_wp2
        go_loop [6] (fun jv => ∃ j : Nat, jv = .int .i64 j ∧ i ≤ j ∧ j ≤ s.size ∧ Hid (s.data.toList.drop i = List.replicate (j - i) d ++ s.data.toList.drop j)) (fun jv => s.size - (intOf jv).toNat)
        case atStart => exact ⟨i, rfl, Nat.le_refl _, hi, by show _ = List.replicate (i - i) d ++ _; rw [Nat.sub_self]; rfl⟩
        case round =>
          obtain ⟨j, rfl, hij, hj, G⟩ := hrel
          by_cases hjl : j < s.size
          · by_cases hjc : (s[j].toNat : Int) = (d.toNat : Int)
            · have G' : Hid (s.data.toList.drop i = List.replicate (j + 1 - i) d ++ s.data.toList.drop (j + 1)) := by
                show _ = _
                rw [show j + 1 - i = (j - i) + 1 from by omega]
                exact step_run G.out (by rw [drop_at s j hjl, byte_eq hjc])
              clear G
              go_wp2
              exact ⟨⟨j + 1, by go_num, by omega, by omega, G'⟩, by simp [intOf]; omega⟩
            · have hjb : ((s[j].toNat : Int) == (d.toNat : Int)) = false := by rw [beq_eq_false_iff_ne]; exact hjc
              have hne : i < j := by
                rcases Nat.lt_or_ge i j with h | h
                · exact h
                · obtain rfl : i = j := by omega
                  exact absurd hc hjc
              by_cases hp : ((j : Int) - (i : Int)) % 2 = 0
              · have H' := even_step H G hij hp
                clear H G
                go_wp2
                exact ⟨⟨j, rfl, hj, H'⟩, by simp [intOf]; omega⟩
              · clear H G
                have hpb : (((j : Int) - (i : Int)) % 2 == 0) = false := by rw [beq_eq_false_iff_ne]; exact hp
                go_wp2
                go_ret
                exact ⟨rfl, .inl rfl⟩
          · have hne : i < j := by omega
            by_cases hp : ((j : Int) - (i : Int)) % 2 = 0
            · have H' := even_step H G hij hp
              clear H G
              go_wp2
              exact ⟨⟨j, rfl, hj, H'⟩, by simp [intOf]; omega⟩
            · clear H G
              have hpb : (((j : Int) - (i : Int)) % 2 == 0) = false := by rw [beq_eq_false_iff_ne]; exact hp
              go_wp2
              go_ret
              exact ⟨rfl, .inl rfl⟩
      · have hcb : ((s[i].toNat : Int) == (d.toNat : Int)) = false := by rw [beq_eq_false_iff_ne]; exact hc
        have H' : Hid (∀ o', Pairs d (s.data.toList.drop (i + 1)) o' → ∃ o, Pairs d s.data.toList o) := fun o' ho => H.out (s[i] :: o') (by rw [drop_at s i hlt]; exact .other (fun e => hc (by rw [e])) ho)
        clear H
        go_wp2
        exact ⟨⟨i + 1, by go_num, by omega, H'⟩, by simp [intOf]; omega⟩
    · have H' : ∃ o, Pairs d s.data.toList o := H.out [] (by rw [drop_end s i (by omega)]; exact .nil)
      clear H
      go_wp2
      go_ret
      exact ⟨rfl, .inr ⟨rfl, H'⟩⟩
end Go.Proofs.Qxb6613674a.W
