/- The plain model of escapeLength: no Go in sight. -/
import Derived.Test.Qxb6601451aBase
namespace Go.Proofs.Qxb6601451a

def singB (c : Int) : Bool := decide (c = 34) || decide (c = 92) || decide (c = 47) || decide (c = 98) || decide (c = 102) || decide (c = 110) || decide (c = 114) || decide (c = 116)

/-- Of the places j, j+1, .. (k of them) the first that is the end n or holds no hexadecimal digit. -/
def hexRun (g : Nat → Int) (n : Nat) : Nat → Nat → Option Nat
  | 0, _ => none
  | k + 1, j => if j = n then some j else if hexB (g j) = false then some j else hexRun g n k (j + 1)

/-- What escapeLength answers: the length, the fault's kind, the fault's place. -/
def escLen (g : Nat → Int) (n i : Nat) : Nat × Nat × Nat :=
  if i + 1 = n then (0, 1, i + 1)
  else if singB (g (i + 1)) = true then (2, 0, 0)
  else if g (i + 1) = 117 then
    match hexRun g n 4 (i + 2) with
    | none => (6, 0, 0)
    | some j => (0, 1, j)
  else (0, 1, i + 1)

theorem hexRun_shift (g : Nat → Int) (n i : Nat) : ∀ k j, i ≤ n → hexRun g n k (i + j) = (hexRun (fun t => g (i + t)) (n - i) k j).map (i + ·)
  | 0, j, _ => rfl
  | k + 1, j, h => by
    simp only [hexRun]
    by_cases h1 : i + j = n
    · rw [if_pos h1, if_pos (by omega)]; rfl
    · rw [if_neg h1, if_neg (show ¬ j = n - i by omega)]
      by_cases h2 : hexB (g (i + j)) = false
      · rw [if_pos h2, if_pos h2]; rfl
      · rw [if_neg h2, if_neg h2]; exact hexRun_shift g n i k (j + 1) h

theorem hexRun_none_le (g : Nat → Int) (n : Nat) : ∀ k j, j ≤ n → hexRun g n k j = none → j + k ≤ n
  | 0, j, h, _ => by omega
  | k + 1, j, h, e => by
    simp only [hexRun] at e
    by_cases h1 : j = n
    · rw [if_pos h1] at e; cases e
    · rw [if_neg h1] at e
      by_cases h2 : hexB (g j) = false
      · rw [if_pos h2] at e; cases e
      · rw [if_neg h2] at e
        have := hexRun_none_le g n k (j + 1) (by omega) e
        omega

theorem hexRun_some (g : Nat → Int) (n : Nat) : ∀ k j t, j ≤ n → hexRun g n k j = some t → j ≤ t ∧ t < j + k ∧ t ≤ n
  | 0, j, t, h, e => by cases e
  | k + 1, j, t, h, e => by
    simp only [hexRun] at e
    by_cases h1 : j = n
    · rw [if_pos h1] at e; cases e; omega
    · rw [if_neg h1] at e
      by_cases h2 : hexB (g j) = false
      · rw [if_pos h2] at e; cases e; omega
      · rw [if_neg h2] at e
        have := hexRun_some g n k (j + 1) t (by omega) e
        omega

theorem hexRun_cut (g : Nat → Int) (n m : Nat) : ∀ k j, j + k ≤ m → hexRun g n k j = none → hexRun g m k j = none
  | 0, j, h, _ => rfl
  | k + 1, j, h, e => by
    simp only [hexRun] at e ⊢
    by_cases h1 : j = n
    · rw [if_pos h1] at e; cases e
    · rw [if_neg h1] at e
      by_cases h2 : hexB (g j) = false
      · rw [if_pos h2] at e; cases e
      · rw [if_neg h2] at e
        rw [if_neg (by omega), if_neg h2]
        exact hexRun_cut g n m k (j + 1) (by omega) e

/-- The law FnEscapeLengthLocalAndBounded, on the model. -/
theorem escLen_law (g : Nat → Int) (n i : Nat) (hi : i < n) :
    (∃ l, (l = 2 ∨ l = 6) ∧ i + l ≤ n ∧ escLen g n i = (l, 0, 0) ∧ escLen (fun t => g (i + t)) (n - i) 0 = (l, 0, 0) ∧ escLen g (i + l) i = (l, 0, 0)) ∨
    (∃ a, 1 ≤ a ∧ a ≤ 5 ∧ i + a ≤ n ∧ escLen g n i = (0, 1, i + a) ∧ escLen (fun t => g (i + t)) (n - i) 0 = (0, 1, a)) := by
  unfold escLen
  by_cases h1 : i + 1 = n
  · right
    exact ⟨1, by omega, by omega, by omega, by rw [if_pos h1], by rw [if_pos (by omega)]⟩
  · rw [if_neg h1, if_neg (show ¬ 0 + 1 = n - i by omega)]
    simp only [Nat.zero_add]
    by_cases h2 : singB (g (i + 1)) = true
    · left
      exact ⟨2, .inl rfl, by omega, by rw [if_pos h2], by rw [if_pos h2], by rw [if_neg (by omega), if_pos h2]⟩
    · rw [if_neg h2, if_neg h2]
      by_cases h3 : g (i + 1) = 117
      · rw [if_pos h3, if_pos h3, hexRun_shift g n i 4 2 (by omega)]
        cases h4 : hexRun (fun t => g (i + t)) (n - i) 4 2 with
        | none =>
          left
          have hl := hexRun_none_le _ _ 4 2 (by omega) h4
          have h5 : hexRun g n 4 (i + 2) = none := by rw [hexRun_shift g n i 4 2 (by omega), h4]; rfl
          have h6 := hexRun_cut g n (i + 6) 4 (i + 2) (by omega) h5
          refine ⟨6, .inr rfl, by omega, rfl, rfl, ?_⟩
          rw [if_neg (by omega), if_neg h2, if_pos h3, h6]
        | some t =>
          right
          have hl := hexRun_some _ _ 4 2 t (by omega) h4
          exact ⟨t, by omega, by omega, by omega, rfl, rfl⟩
      · rw [if_neg h3, if_neg h3]
        right
        exact ⟨1, by omega, by omega, by omega, rfl, rfl⟩

end Go.Proofs.Qxb6601451a
