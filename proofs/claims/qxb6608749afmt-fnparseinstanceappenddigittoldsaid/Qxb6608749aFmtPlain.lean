/-
  The plain mathematics of seat b6608749aF: decimal numerals that fit an int, and a digit put behind one. No Go in sight.
-/
import Derived.Lib.IndexBytes
namespace Go.Proofs.Qxb6608749aFmt.Plain
open Go.Lib

/-- What strconv.ParseUint(., 10, 63) makes of the bytes that are left, 'acc' gathered so far: none: an error (a byte that is no digit, or too great). -/
def num (acc : Nat) : List UInt8 → Option Nat
  | [] => some acc
  | c :: l => if 48 ≤ c.toNat ∧ c.toNat ≤ 57 then (if acc * 10 + (c.toNat - 48) ≤ 9223372036854775807 then num (acc * 10 + (c.toNat - 48)) l else none) else none

/-- .. of a whole text: the empty one is no numeral. -/
def numTop (l : List UInt8) : Option Nat := if l.isEmpty then none else num 0 l

theorem num_snoc (c : UInt8) (d : Nat) (hc : c.toNat = 48 + d) (hd : d ≤ 9) : ∀ (l : List UInt8) (acc : Nat),
    num acc (l ++ [c]) = (num acc l).bind fun u => if u * 10 + d ≤ 9223372036854775807 then some (u * 10 + d) else none
  | [], acc => by
    simp only [List.nil_append, num, Option.bind_some]
    rw [if_pos (by omega), show c.toNat - 48 = d from by omega]
  | b :: l, acc => by
    simp only [List.cons_append, num]
    split
    · split
      · exact num_snoc c d hc hd l _
      · rfl
    · rfl

theorem num_le : ∀ (l : List UInt8) (acc u : Nat), acc ≤ 9223372036854775807 → num acc l = some u → u ≤ 9223372036854775807
  | [], acc, u, h, e => by simp only [num, Option.some.injEq] at e; omega
  | c :: l, acc, u, h, e => by
    simp only [num] at e
    split at e
    · split at e
      · exact num_le l _ u (by assumption) e
      · cases e
    · cases e

theorem numTop_le {l : List UInt8} {u : Nat} (h : numTop l = some u) : u ≤ 9223372036854775807 := by
  unfold numTop at h
  split at h
  · cases h
  · exact num_le l 0 u (by omega) h

theorem numTop_snoc (c : UInt8) (d : Nat) (hc : c.toNat = 48 + d) (hd : d ≤ 9) {l : List UInt8} {u : Nat} (h : numTop l = some u) :
    numTop (l ++ [c]) = if u * 10 + d ≤ 9223372036854775807 then some (u * 10 + d) else none := by
  unfold numTop at h ⊢
  split at h
  · cases h
  · rw [if_neg (by simp)]
    rw [num_snoc c d hc hd, h]
    rfl

/-- What ParseInstance answers: the name and the number; none: a refusal. -/
def inst (s : List UInt8) : Option (List UInt8 × Nat) :=
  match indexByte s 35 with
  | .ofNat i => if i = 0 then none else match numTop (s.drop (i + 1)) with
    | some (u + 1) => some (s.take i, u + 1)
    | _ => none
  | .negSucc _ => none

theorem index_snoc (c : UInt8) (hc : c ≠ 35) : ∀ s : List UInt8, indexByte (s ++ [c]) 35 = indexByte s 35
  | [] => by simp [indexByte, hc]
  | b :: l => by
    simp only [List.cons_append, indexByte]
    rw [index_snoc c hc l]

theorem indexByte_lt {l : List UInt8} {c : UInt8} {i : Nat} (h : indexByte l c = i) : i < l.length := by
  have := (indexByte_some h).1
  rcases Nat.lt_or_ge i l.length with h | h
  · exact h
  · rw [List.getElem?_eq_none h] at this; cases this

/-- A digit put behind a text that is an instance's name. -/
theorem inst_snoc (s : List UInt8) (c : UInt8) (d : Nat) (hc : c.toNat = 48 + d) (hd : d ≤ 9) {x : List UInt8} {n : Nat} (h : inst s = some (x, n)) :
    1 ≤ n ∧ n ≤ 9223372036854775807 ∧ x ≠ [] ∧ inst (s ++ [c]) = if n * 10 + d ≤ 9223372036854775807 then some (x, n * 10 + d) else none := by
  have hne : c ≠ 35 := fun e => by rw [e] at hc; have : (35 : UInt8).toNat = 35 := rfl; omega
  unfold inst at h ⊢
  rw [index_snoc c hne]
  cases hi : indexByte s 35 with
  | negSucc k => rw [hi] at h; cases h
  | ofNat i =>
    rw [hi] at h
    simp only at h ⊢
    have hlt := indexByte_lt (i := i) hi
    by_cases h0 : i = 0
    · rw [if_pos h0] at h; cases h
    · rw [if_neg h0] at h ⊢
      have hdrop : (s ++ [c]).drop (i + 1) = s.drop (i + 1) ++ [c] := by rw [List.drop_append_of_le_length (by omega)]
      have htake : (s ++ [c]).take i = s.take i := by rw [List.take_append_of_le_length (by omega)]
      rw [hdrop, htake]
      cases hn : numTop (s.drop (i + 1)) with
      | none => rw [hn] at h; cases h
      | some u =>
        cases u with
        | zero => rw [hn] at h; cases h
        | succ u =>
          rw [hn] at h
          simp only [Option.some.injEq, Prod.mk.injEq] at h
          obtain ⟨rfl, rfl⟩ := h
          refine ⟨by omega, numTop_le hn, fun e => ?_, ?_⟩
          · have := congrArg List.length e
            rw [List.length_take] at this
            simp only [List.length_nil] at this
            omega
          · rw [numTop_snoc c d hc hd hn]
            by_cases hle : (u + 1) * 10 + d ≤ 9223372036854775807
            · rw [if_pos hle, if_pos hle]
              obtain ⟨m, hm⟩ : ∃ m, (u + 1) * 10 + d = m + 1 := ⟨(u + 1) * 10 + d - 1, by omega⟩
              rw [hm]
            · rw [if_neg hle, if_neg hle]

/-- A text without '#' is refused, with a digit behind it too. -/
theorem inst_nohash (s : List UInt8) (h : indexByte s 35 = -1) : inst s = none := by
  unfold inst; rw [h]; rfl
theorem inst_nohash_snoc (s : List UInt8) (c : UInt8) (d : Nat) (hc : c.toNat = 48 + d) (hd : d ≤ 9) (h : indexByte s 35 = -1) : inst (s ++ [c]) = none := by
  have hne : c ≠ 35 := fun e => by rw [e] at hc; have : (35 : UInt8).toNat = 35 := rfl; omega
  apply inst_nohash
  rw [index_snoc c hne, h]
end Go.Proofs.Qxb6608749aFmt.Plain
