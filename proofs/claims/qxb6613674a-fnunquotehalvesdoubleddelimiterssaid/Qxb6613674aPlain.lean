/-
  The plain mathematics of seat b6613674a: doubled delimiters. No Go in sight.
-/
import Derived.Lib.IndexBytes
namespace Go.Proofs.Qxb6613674a.Plain
open Go.Lib

/-- A body whose delimiters d stand in pairs, and its value: each pair cut to one. -/
inductive Pairs (d : UInt8) : List UInt8 → List UInt8 → Prop
  | nil : Pairs d [] []
  | other {b : UInt8} {l o : List UInt8} : b ≠ d → Pairs d l o → Pairs d (b :: l) (b :: o)
  | two {l o : List UInt8} : Pairs d l o → Pairs d (d :: d :: l) (d :: o)

theorem Pairs.length {d : UInt8} {l o : List UInt8} (h : Pairs d l o) : o.length ≤ l.length := by
  induction h with
  | nil => exact Nat.le_refl _
  | other _ _ ih => simp only [List.length_cons]; omega
  | two _ ih => simp only [List.length_cons]; omega

/-- An even run ahead. -/
theorem Pairs.run {d : UInt8} {l o : List UInt8} (h : Pairs d l o) : ∀ k, Pairs d (List.replicate (2 * k) d ++ l) (List.replicate k d ++ o)
  | 0 => h
  | k + 1 => by
    rw [show 2 * (k + 1) = 2 * k + 1 + 1 from by omega, List.replicate_succ, List.replicate_succ, List.replicate_succ]
    exact .two (Pairs.run h k)

/-- A whole run ahead is even. -/
theorem Pairs.unrun {d : UInt8} : ∀ (k : Nat) {l o : List UInt8}, Pairs d (List.replicate k d ++ l) o → l.head? ≠ some d → ∃ o', k % 2 = 0 ∧ o = List.replicate (k / 2) d ++ o' ∧ Pairs d l o'
  | 0, l, o, h, _ => ⟨o, rfl, rfl, h⟩
  | 1, l, o, h, hl => by
    cases h with
    | other hb _ => exact absurd rfl hb
    | two _ => exact absurd rfl hl
  | k + 2, l, o, h, hl => by
    rw [List.replicate_succ, List.replicate_succ] at h
    cases h with
    | other hb _ => exact absurd rfl hb
    | two h' =>
      obtain ⟨o', h1, h2, h3⟩ := Pairs.unrun k h' hl
      refine ⟨o', by omega, ?_, h3⟩
      rw [show (k + 2) / 2 = k / 2 + 1 from by omega, List.replicate_succ, h2]
      rfl

/-- No delimiter at all. -/
theorem Pairs.same {d : UInt8} {l o : List UInt8} (h : Pairs d l o) (hn : ∀ k : Nat, l[k]? ≠ some d) : o = l := by
  induction h with
  | nil => rfl
  | other _ _ ih => rw [ih (fun k => by have := hn (k + 1); simpa using this)]
  | two _ _ => exact absurd rfl (hn 0)

theorem step_run {d : UInt8} {l x r : List UInt8} {k : Nat} (h : l = List.replicate k d ++ x) (hx : x = d :: r) : l = List.replicate (k + 1) d ++ r := by
  rw [h, hx, List.replicate_succ', List.append_assoc]
  rfl

theorem drop_at (s : ByteArray) (k : Nat) (h : k < s.size) : s.data.toList.drop k = s[k] :: s.data.toList.drop (k + 1) := by
  have hk : k < s.data.toList.length := by simpa using h
  rw [List.drop_eq_getElem_cons hk]
  rfl

theorem drop_end (s : ByteArray) (k : Nat) (h : s.size ≤ k) : s.data.toList.drop k = [] := List.drop_eq_nil_of_le h

theorem head_drop (s : ByteArray) (k : Nat) (d : UInt8) (h : ¬ (k < s.size) ∨ ∃ hk : k < s.size, s[k] ≠ d) : (s.data.toList.drop k).head? ≠ some d := by
  rcases h with h | ⟨hk, h⟩
  · rw [drop_end s k (by omega)]; simp
  · rw [drop_at s k hk]; simpa using h

theorem byte_eq {a b : UInt8} (h : (a.toNat : Int) = (b.toNat : Int)) : a = b := UInt8.toNat_inj.1 (by omega)
end Go.Proofs.Qxb6613674a.Plain
