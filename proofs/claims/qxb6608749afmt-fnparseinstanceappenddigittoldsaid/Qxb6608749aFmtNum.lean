/-
  Seat b6608749aF: internal/strconv.ParseUint(s, 10, 63), walked at every string (after the kit's shelf texts on the sizes 64, 32, 16 and 8, which do not serve 63).
-/
import Derived.Test.Qxb6608749aFmtRows
import Derived.Test.Qxb6608749aFmtPlain
import Derived.Lib.Strings
import Derived.Lib.Walk
import Derived.Lib.ConvBytes
import Derived.Lib.AtoiErrMem
import Derived.Lib.Hide
import Derived.Laws.Strings3
import Derived.Laws.Closers25
import Derived.Laws.Closers25b
import Derived.WalkKit
import Derived.BigCall
import Derived.BigGuard
namespace Go.Proofs.Qxb6608749aFmt.W
open Go.RowKit
open Go.Proofs.Qxb6608749aFmt.Plain
set_option linter.unusedVariables false

theorem lower_any (c : Int) (w : World) : Calls Tryf.prog 19 #[.int .u8 c] w fun e w' => e = .returned (.int .u8 (bits .or .u8 c 32)) ∧ w' = w := by
  go_enter Tryf.func19, Tryf.ntmps19
  go_wp2
  go_ret
  exact ⟨rfl, rfl⟩

/-- How the inner ParseUint ends. -/
def Ended (r : Option Nat) (e : Ending) : Prop :=
  (∃ u : Nat, r = some u ∧ e = .returned (.tuple #[.int .u64 u, .nilIface])) ∨
  (r = none ∧ ∃ v k : Int, (k = 1 ∨ k = 2) ∧ e = .returned (.tuple #[.int .u64 v, .iface 42 (.int .i64 k)]))

theorem ended_some {r : Option Nat} (u : Nat) (h : r = some u) : Ended r (.returned (.tuple #[.int .u64 u, .nilIface])) := Or.inl ⟨u, h, rfl⟩
theorem ended_none {r : Option Nat} (v k : Int) (hk : k = 1 ∨ k = 2) (h : r = none) : Ended r (.returned (.tuple #[.int .u64 v, .iface 42 (.int .i64 k)])) := Or.inr ⟨h, v, k, hk, rfl⟩

set_option maxHeartbeats 32000000 in
set_option maxRecDepth 100000 in
theorem parseIn_any (t : ByteArray) (hne : t.size ≠ 0) (hmax : t.size ≤ 1048577) (w : World) :
    Calls Tryf.prog 14 #[.string t, .int .i64 10, .int .i64 63] w fun e w' => Ended (num 0 t.data.toList) e ∧ w' = Lib.bytesWorld w 5 t := by
  have hemp : t.toList.isEmpty = false := by
    rw [← decide_eq_emptyBytes]
    exact decide_eq_false (fun h => hne (by rw [h]; rfl))
  have hcv := Lib.run_convert_string_bytes (P := Tryf.prog) w 9 36 5 t (u := .string) Tryf.underlying9 Tryf.underlying36 Tryf.underlying5
  have hB : ∀ j, j < t.size → (Lib.bytesWorld w 5 t).cell? ⟨w.heap.size, j, none⟩ = some (.int .u8 (t.data.toList.getD j 0).toNat) := fun j hj => Lib.bytesWorld_cell w 5 t j hj
  obtain ⟨W1, hW1⟩ : ∃ W1, W1 = Lib.bytesWorld w 5 t := ⟨_, rfl⟩
  rw [← hW1] at hcv hB ⊢
  clear hW1
  obtain ⟨bs, hL⟩ : ∃ bs, bs = t.data.toList := ⟨_, rfl⟩
  have hLn : bs.length = t.size := by rw [hL, Lib.size_eq]
  rw [← hL] at hB ⊢
  clear hL
  have hmv : IntKind.u64.wrap (IntKind.u64.wrap 9223372036854775808 - 1) = 9223372036854775807 := by
    rw [IntKind.wrap_u64, IntKind.wrap_u64]
    decide
  go_enter Tryf.func14, Tryf.ntmps14
  go_wp2
  go_loop [12, 13, 101] (fun vu vn vi => ∃ (k acc : Nat) (a : Int), vu = .bool false ∧ vn = .int .u64 a ∧ vi = .int .i64 k ∧ k ≤ t.size ∧ Hid (a = (acc : Int) ∧ acc ≤ 9223372036854775807 ∧ num 0 bs = num acc (bs.drop k)))
    (fun _ _ vi => t.size - (intOf vi).toNat)
  case atStart => exact ⟨0, 0, 0, rfl, rfl, rfl, by omega, rfl, by omega, rfl⟩
  case round =>
    obtain ⟨k, acc, a, rfl, rfl, rfl, hk, hh⟩ := hrel
    obtain ⟨ha, hacc, hdec⟩ := hh.out
    clear hh
    have a0 : 0 ≤ a := by omega
    have a1 : a ≤ 9223372036854775807 := by omega
    by_cases hkn : k < t.size
    · have hc := hB k hkn
      have hdrop : bs.drop k = bs[k]'(by omega) :: bs.drop (k + 1) := List.drop_eq_getElem_cons (by omega)
      have hget : bs.getD k 0 = bs[k]'(by omega) := by simp [List.getD, List.getElem?_eq_getElem (show k < bs.length by omega)]
      rw [hdrop] at hdec
      rw [hget] at hc
      generalize bs[k]'(by omega) = c at hc hdec
      have hc256 : c.toNat < 256 := c.toNat_lt
      clear hB hdrop hget
      by_cases hdig : 48 ≤ c.toNat ∧ c.toNat ≤ 57
      · obtain ⟨hd0, hd1⟩ := hdig
        by_cases hcut : 1844674407370955162 ≤ acc
        · have hF : num acc (c :: bs.drop (k + 1)) = none := by
            rw [num, if_pos ⟨hd0, hd1⟩, if_neg (by omega)]
          rw [hF] at hdec
          have icut : 1844674407370955162 ≤ a := by omega
          have H := Lib.hid hdec
          clear hcut hacc hF ha hdec
          go_wp2
          go_ret2
          exact ⟨ended_none _ _ (Or.inl rfl) H.out, rfl⟩
        · have icut : a < 1844674407370955162 := by omega
          by_cases hov : 18446744073709551616 ≤ acc * 10 + (c.toNat - 48)
          · have hF : num acc (c :: bs.drop (k + 1)) = none := by
              rw [num, if_pos ⟨hd0, hd1⟩, if_neg (by omega)]
            rw [hF] at hdec
            have iov : 18446744073709551616 ≤ a * 10 + ((c.toNat : Int) - 48) := by omega
            have hwr : IntKind.u64.wrap (a * 10 + ((c.toNat : Int) - 48)) = a * 10 + ((c.toNat : Int) - 48) - 18446744073709551616 := by
              rw [IntKind.wrap_u64]
              omega
            have H := Lib.hid hdec
            clear hcut hacc hF hov ha hdec
            go_wp2
            go_ret2
            exact ⟨ended_none _ _ (Or.inl rfl) H.out, rfl⟩
          · by_cases hmx : acc * 10 + (c.toNat - 48) ≤ 9223372036854775807
            · have hF : num acc (c :: bs.drop (k + 1)) = num (acc * 10 + (c.toNat - 48)) (bs.drop (k + 1)) := by
                rw [num, if_pos ⟨hd0, hd1⟩, if_pos hmx]
              have HN : Hid (a * 10 + ((c.toNat : Int) - 48) = ((acc * 10 + (c.toNat - 48) : Nat) : Int) ∧ acc * 10 + (c.toNat - 48) ≤ 9223372036854775807 ∧ num 0 bs = num (acc * 10 + (c.toNat - 48)) (bs.drop (k + 1))) := Lib.hid ⟨by omega, by omega, hdec.trans hF⟩
              have iov : a * 10 + ((c.toNat : Int) - 48) ≤ 9223372036854775807 := by omega
              clear hcut hacc hF hov hdec ha hmx
              go_wp2
              refine ⟨⟨k + 1, acc * 10 + (c.toNat - 48), a * 10 + ((c.toNat : Int) - 48), rfl, (by first | rfl | (congr 1; omega)), (by first | rfl | (congr 1; omega)), by omega, HN⟩, by simp [intOf]; omega⟩
            · have hF : num acc (c :: bs.drop (k + 1)) = none := by
                rw [num, if_pos ⟨hd0, hd1⟩, if_neg hmx]
              rw [hF] at hdec
              have iov : a * 10 + ((c.toNat : Int) - 48) < 18446744073709551616 := by omega
              have imx : 9223372036854775807 < a * 10 + ((c.toNat : Int) - 48) := by omega
              have H := Lib.hid hdec
              clear hcut hacc hF hov ha hdec hmx
              go_wp2
              go_ret2
              exact ⟨ended_none _ _ (Or.inl rfl) H.out, rfl⟩
      · have hF : num acc (c :: bs.drop (k + 1)) = none := by rw [num, if_neg hdig]
        rw [hF] at hdec
        have H := Lib.hid hdec
        clear hacc hF ha hdec
        have hv0 := bits_lo_u8 .or (c.toNat : Int) 32
        have hv1 := bits_hi_u8 .or (c.toNat : Int) 32
        have hu0 := bits_lo_u8 .or 95 32
        have hu1 := bits_hi_u8 .or 95 32
        go_wp2_with (go_at_call 19; refine (lower_any _ _).mono ?_; rintro e w' ⟨rfl, rfl⟩)
        all_goals go_ret2
        all_goals exact ⟨ended_none _ _ (Or.inr rfl) H.out, rfl⟩
    · have hkk : k = t.size := by omega
      subst hkk
      have hF : num acc (bs.drop t.size) = some acc := by rw [List.drop_eq_nil_of_le (by omega)]; rfl
      rw [hF] at hdec
      subst ha
      have H := Lib.hid hdec
      clear hacc hF a0 a1 hdec
      go_wp2
      go_ret2
      exact ⟨ended_some acc H.out, rfl⟩
end Go.Proofs.Qxb6608749aFmt.W
