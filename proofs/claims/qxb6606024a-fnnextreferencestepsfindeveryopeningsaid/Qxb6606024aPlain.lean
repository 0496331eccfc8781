/-
  The plain mathematics of seat b6606024a: openings in a list of bytes, the first of them in a window, and how many there are. No Go in sight.
-/
import Derived.Lib.IndexBytes
namespace Go.Proofs.Qxb6606024a.Plain
open Go.Lib

/-- '${' or '$[' stands at place k. -/
def opensL (l : List UInt8) (k : Nat) : Bool := l[k]? == some 36 && (l[k+1]? == some 123 || l[k+1]? == some 91)

/-- The first opening among the n places from k on; -1: none. -/
def firstL (l : List UInt8) : Nat → Nat → Int
  | _, 0 => -1
  | k, n+1 => if opensL l k then (k : Int) else firstL l (k+1) n

/-- How many openings stand among the n places from k on. -/
def cntL (l : List UInt8) : Nat → Nat → Nat
  | _, 0 => 0
  | k, n+1 => (if opensL l k then 1 else 0) + cntL l (k+1) n

theorem firstL_skip (l : List UInt8) : ∀ (j k n : Nat), j ≤ n → (∀ m, m < j → opensL l (k+m) = false) → firstL l k n = firstL l (k+j) (n-j)
  | 0, k, n, _, _ => by simp
  | j+1, k, n, hj, h => by
    obtain ⟨n', rfl⟩ : ∃ n', n = n'+1 := ⟨n-1, by omega⟩
    have h0 : opensL l k = false := h 0 (by omega)
    rw [firstL, h0]
    simp only [Bool.false_eq_true, if_false]
    rw [firstL_skip l j (k+1) n' (by omega) (fun m hm => by have := h (m+1) (by omega); rwa [show k + (m+1) = k + 1 + m from by omega] at this)]
    rw [show k + 1 + j = k + (j+1) from by omega, show n' + 1 - (j+1) = n' - j from by omega]

theorem firstL_ge (l : List UInt8) : ∀ (n k : Nat), firstL l k n = -1 ∨ ∃ j : Nat, firstL l k n = ((k + j : Nat) : Int) ∧ j < n ∧ opensL l (k+j) = true ∧ cntL l k n = 1 + cntL l (k+j+1) (n-(j+1))
  | 0, k => Or.inl rfl
  | n+1, k => by
    by_cases h : opensL l k = true
    · refine Or.inr ⟨0, ?_, by omega, h, ?_⟩
      · rw [firstL, h]; simp
      · rw [cntL, h]; simp
    · have h' : opensL l k = false := by simpa using h
      rw [firstL, cntL, h']
      simp only [Bool.false_eq_true, if_false]
      rcases firstL_ge l n (k+1) with h1 | ⟨j, h1, h2, h3, h4⟩
      · exact Or.inl h1
      · refine Or.inr ⟨j+1, ?_, by omega, ?_, ?_⟩
        · rw [h1]; congr 1; omega
        · rw [show k + (j+1) = k + 1 + j from by omega]; exact h3
        · rw [h4, show k + 1 + j + 1 = k + (j+1) + 1 from by omega, show n - (j+1) = n + 1 - (j+1+1) from by omega]; omega

theorem cntL_none (l : List UInt8) : ∀ (n k : Nat), firstL l k n = -1 → cntL l k n = 0
  | 0, _, _ => rfl
  | n+1, k, h => by
    rw [firstL] at h
    by_cases ho : opensL l k = true
    · rw [if_pos ho] at h; omega
    · rw [if_neg ho] at h
      rw [cntL, cntL_none l n (k+1) h]
      simp [ho]

theorem cntL_le (l : List UInt8) : ∀ (n k : Nat), cntL l k n ≤ n
  | 0, _ => Nat.le_refl _
  | n+1, k => by
    have := cntL_le l n (k+1)
    rw [cntL]; split <;> omega

theorem opensL_not {l : List UInt8} {k : Nat} (h : l[k]? ≠ some 36) : opensL l k = false := by simp [opensL, h]
theorem opensL_at {l : List UInt8} {k : Nat} (h : l[k]? = some 36) : opensL l k = (l[k+1]? == some 123 || l[k+1]? == some 91) := by simp [opensL, h]

theorem piece_get (s : ByteArray) (i e m : Nat) (hm : i + m < e) : (s.extract i e).data.toList[m]? = s.data.toList[i+m]? := by
  rw [extract_data, List.getElem?_take]
  rw [if_pos (by omega), List.getElem?_drop]

/-- No '$' in the window: no opening. -/
theorem first_none (s : ByteArray) (i e : Nat) (h : indexByte (s.extract i (e-1)).data.toList 36 = -1) : firstL s.data.toList i (e-1-i) = -1 := by
  have hn : ∀ m, m < e-1-i → opensL s.data.toList (i+m) = false := fun m hm => by
    have h1 := indexByte_none h m
    rw [piece_get s i (e-1) m (by omega)] at h1
    exact opensL_not h1
  rw [firstL_skip s.data.toList (e-1-i) i (e-1-i) (Nat.le_refl _) hn]
  simp [firstL]

/-- The first '$' of the window stands at i+j: the search goes on there. -/
theorem first_some (s : ByteArray) (i e j : Nat) (hj : i + j < e - 1) (h : indexByte (s.extract i (e-1)).data.toList 36 = j) :
    firstL s.data.toList i (e-1-i) = if s.data.toList[i+j+1]? = some 123 ∨ s.data.toList[i+j+1]? = some 91 then ((i+j : Nat) : Int) else firstL s.data.toList (i+j+1) (e-1-(i+j+1)) := by
  have h1 := indexByte_some h
  have hn : ∀ m, m < j → opensL s.data.toList (i+m) = false := fun m hm => by
    have h2 := h1.2 m hm
    rw [piece_get s i (e-1) m (by omega)] at h2
    exact opensL_not h2
  have h3 := h1.1
  rw [piece_get s i (e-1) j (by omega)] at h3
  rw [firstL_skip s.data.toList j i (e-1-i) (by omega) hn]
  obtain ⟨n, hn2⟩ : ∃ n, e-1-i-j = n+1 := ⟨e-1-i-j-1, by omega⟩
  rw [hn2, firstL, show e-1-(i+j+1) = n from by omega]
  rw [opensL_at h3]
  generalize s.data.toList = l
  simp
end Go.Proofs.Qxb6606024a.Plain
