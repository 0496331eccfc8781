/-
  The plain mathematics of seat b6612715aF: is some line of a text 65536 bytes or longer? No Go in sight.
-/
import Derived.Lib.IndexBytes
namespace Go.Proofs.Qxb6612715aFmt.Plain
open Go.Lib

/-- Is some line too long, 'run' bytes of the first one read already? -/
def longFrom : Nat → List UInt8 → Bool
  | _, [] => false
  | run, c :: l => if c = 10 then longFrom 0 l else if 65536 ≤ run + 1 then true else longFrom (run + 1) l

theorem long_skip : ∀ (i run : Nat) (l : List UInt8), i ≤ l.length → run + i < 65536 → (∀ m, m < i → l[m]? ≠ some 10) → longFrom run l = longFrom (run + i) (l.drop i)
  | 0, run, l, _, _, _ => by simp
  | i + 1, run, [], h, _, _ => by simp at h
  | i + 1, run, c :: l, h, hr, hn => by
    have h0 : c ≠ 10 := fun e => hn 0 (by omega) (by simp [e])
    have ih := long_skip i (run + 1) l (by simpa using h) (by omega) (fun m hm => by have := hn (m + 1) (by omega); simpa using this)
    rw [longFrom, if_neg h0, if_neg (by omega), ih, List.drop_succ_cons, show run + 1 + i = run + (i + 1) from by omega]

/-- A line of i bytes, i < 65536, and its line feed. -/
theorem long_line (i : Nat) (l : List UInt8) (hi : i < 65536) (hn : ∀ m, m < i → l[m]? ≠ some 10) (h : l[i]? = some 10) : longFrom 0 l = longFrom 0 (l.drop (i + 1)) := by
  have hlt : i < l.length := by
    rcases Nat.lt_or_ge i l.length with h' | h'
    · exact h'
    · rw [List.getElem?_eq_none h'] at h; cases h
  rw [long_skip i 0 l (by omega) (by omega) hn]
  have hd : l.drop i = 10 :: l.drop (i + 1) := by
    rw [List.drop_eq_getElem_cons hlt]
    rw [List.getElem?_eq_getElem hlt] at h
    injection h with h
    rw [h]
  rw [hd, longFrom, if_pos rfl]

/-- A last line without a line feed, shorter than 65536 bytes. -/
theorem long_last (l : List UInt8) (hl : l.length < 65536) (hn : ∀ m, m < l.length → l[m]? ≠ some 10) : longFrom 0 l = false := by
  rw [long_skip l.length 0 l (Nat.le_refl _) (by omega) hn, List.drop_length]
  rfl

/-- 65536 bytes without a line feed. -/
theorem long_long (l : List UInt8) (hl : 65536 ≤ l.length) (hn : ∀ m, m < 65536 → l[m]? ≠ some 10) : longFrom 0 l = true := by
  rw [long_skip 65535 0 l (by omega) (by omega) (fun m hm => hn m (by omega))]
  rw [List.drop_eq_getElem_cons (by omega), longFrom]
  have h := hn 65535 (by omega)
  rw [List.getElem?_eq_getElem (by omega)] at h
  rw [if_neg (fun e => h (by rw [e])), if_pos (by omega)]
end Go.Proofs.Qxb6612715aFmt.Plain
