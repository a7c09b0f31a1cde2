/- The prefix model of an escape's body: the plain model, and that it agrees with the plain model of escapeLength. -/
import Derived.Test.Qxb6601451aPlainEsc
namespace Go.Proofs.Qxb6601451a

/-- Of h 1, .., h k each is a hexadecimal digit. -/
def hexUpto (h : Nat → Int) : Nat → Bool
  | 0 => true
  | k + 1 => hexUpto h k && hexB (h (k + 1))
theorem hexUpto_iff (h : Nat → Int) : ∀ k, hexUpto h k = true ↔ ∀ j, 1 ≤ j → j ≤ k → hexB (h j) = true
  | 0 => by simp [hexUpto]; intro j h1 h2; omega
  | k + 1 => by
    simp only [hexUpto, Bool.and_eq_true, hexUpto_iff h k]
    constructor
    · intro ⟨h1, h2⟩ j h3 h4
      by_cases hj : j = k + 1
      · rw [hj]; exact h2
      · exact h1 j h3 (by omega)
    · intro h1
      exact ⟨fun j h2 h3 => h1 j h2 (by omega), h1 (k + 1) (by omega) (Nat.le_refl _)⟩

/-- What b1EscapeBodyPrefix answers where m is 1 or more. -/
def preB (h : Nat → Int) (m : Nat) : Bool :=
  if singB (h 0) = true then decide (m = 1) else if h 0 = 117 ∧ m ≤ 5 then hexUpto h (m - 1) else false
/-- The greatest m up to k at which h is still the start of an escape's body; 0 if none. -/
def lastP (h : Nat → Int) : Nat → Nat
  | 0 => 0
  | k + 1 => if preB h (k + 1) = true then k + 1 else lastP h k
theorem lastP_le (h : Nat → Int) : ∀ k, lastP h k ≤ k
  | 0 => Nat.le_refl _
  | k + 1 => by
    unfold lastP
    have := lastP_le h k
    split <;> omega
/-- What b1EscapeWholeBody answers. -/
def wholeB (h : Nat → Int) (m : Nat) : Bool :=
  if m = 1 then singB (h 0) else if m = 5 ∧ h 0 = 117 then preB h 5 else false

theorem lastP_none (h : Nat → Int) (hp : ∀ m, 1 ≤ m → preB h m = false) : ∀ k, lastP h k = 0
  | 0 => rfl
  | k + 1 => by
    unfold lastP
    rw [if_neg (by rw [hp (k + 1) (by omega)]; simp)]
    exact lastP_none h hp k

theorem lastP_sing (h : Nat → Int) (hs : singB (h 0) = true) : ∀ k, lastP h (k + 1) = 1
  | 0 => by simp [lastP, preB, hs]
  | k + 1 => by
    unfold lastP
    rw [if_neg (by simp [preB, hs]), lastP_sing h hs k]

theorem preB_u (h : Nat → Int) (m : Nat) (hs : singB (h 0) = false) (hu : h 0 = 117) (hm : m ≤ 5) : preB h m = hexUpto h (m - 1) := by
  unfold preB
  rw [if_neg (by rw [hs]; simp), if_pos ⟨hu, hm⟩]

/-- The law FnEscapeLengthMatchesPrefixModel, on the models: r bytes lie behind b[i]. -/
theorem escLen_pre (g : Nat → Int) (i r : Nat) (p : Nat) (hp : lastP (fun t => g (i + 1 + t)) (if 5 < r then 5 else r) = p) :
    (wholeB (fun t => g (i + 1 + t)) p = true ∧ escLen g (i + 1 + r) i = (p + 1, 0, 0)) ∨ (wholeB (fun t => g (i + 1 + t)) p = false ∧ escLen g (i + 1 + r) i = (0, 1, i + 1 + p)) := by
  generalize hh : (fun t => g (i + 1 + t)) = h at *
  have h0 : g (i + 1) = h 0 := by rw [← hh]
  have h1 : g (i + 2) = h 1 := by rw [← hh]
  have h2 : g (i + 2 + 1) = h 2 := by rw [← hh]
  have h3 : g (i + 2 + 1 + 1) = h 3 := by rw [← hh]
  have h4 : g (i + 2 + 1 + 1 + 1) = h 4 := by rw [← hh]
  rcases Nat.eq_zero_or_pos r with rfl | hr
  · right
    have hp0 : p = 0 := by rw [← hp]; rfl
    subst hp0
    exact ⟨rfl, by unfold escLen; rw [if_pos rfl]⟩
  · have hne : ¬ i + 1 = i + 1 + r := by omega
    cases hs : singB (h 0) with
    | true =>
      left
      have hp1 : p = 1 := by
        obtain ⟨k, hk⟩ : ∃ k, (if 5 < r then 5 else r) = k + 1 := ⟨(if 5 < r then 5 else r) - 1, by split <;> omega⟩
        rw [← hp, hk]; exact lastP_sing h hs k
      subst hp1
      exact ⟨by simp [wholeB, hs], by unfold escLen; rw [if_neg hne, h0, if_pos hs]⟩
    | false =>
      by_cases hu : h 0 = 117
      · have he : escLen g (i + 1 + r) i = match hexRun g (i + 1 + r) 4 (i + 2) with | none => (6, 0, 0) | some j => (0, 1, j) := by
          unfold escLen; rw [if_neg hne, h0, if_neg (by rw [hs]; simp), if_pos hu]; rfl
        rw [he]
        have q1 := preB_u h 1 hs hu (by omega)
        have q2 := preB_u h 2 hs hu (by omega)
        have q3 := preB_u h 3 hs hu (by omega)
        have q4 := preB_u h 4 hs hu (by omega)
        have q5 := preB_u h 5 hs hu (by omega)
        have hw : wholeB h p = if p = 5 then hexUpto h 4 else false := by
          unfold wholeB
          by_cases hp1 : p = 1
          · rw [if_pos hp1, hp1, hs]; rfl
          · rw [if_neg hp1]
            by_cases hp5 : p = 5
            · rw [if_pos ⟨hp5, hu⟩, if_pos hp5, q5]
            · rw [if_neg (fun h => hp5 h.1), if_neg hp5]
        rw [hw]
        simp only [hexRun, h1, h2, h3, h4]
        rcases (show r = 1 ∨ r = 2 ∨ r = 3 ∨ r = 4 ∨ 5 ≤ r by omega) with rfl | rfl | rfl | rfl | h5
        · rw [if_neg (by omega)] at hp
          simp [lastP, q1, hexUpto] at hp
          subst hp
          simp
        · rw [if_neg (by omega)] at hp
          cases x1 : hexB (h 1) <;> simp [lastP, q1, q2, hexUpto, x1] at hp <;> subst hp <;> simp
        · rw [if_neg (by omega)] at hp
          cases x1 : hexB (h 1) <;> cases x2 : hexB (h 2) <;> simp [lastP, q1, q2, q3, hexUpto, x1, x2] at hp <;> subst hp <;> simp
        · rw [if_neg (by omega)] at hp
          cases x1 : hexB (h 1) <;> cases x2 : hexB (h 2) <;> cases x3 : hexB (h 3) <;> simp [lastP, q1, q2, q3, q4, hexUpto, x1, x2, x3] at hp <;> subst hp <;> simp
        · have hl : (if 5 < r then 5 else r) = 5 := by split <;> omega
          rw [hl] at hp
          have n2 : ¬ i + 2 = i + 1 + r := by omega
          have n3 : ¬ i + 2 + 1 = i + 1 + r := by omega
          have n4 : ¬ i + 2 + 1 + 1 = i + 1 + r := by omega
          have n5 : ¬ i + 2 + 1 + 1 + 1 = i + 1 + r := by omega
          rw [if_neg n2, if_neg n3, if_neg n4, if_neg n5]
          cases x1 : hexB (h 1) <;> cases x2 : hexB (h 2) <;> cases x3 : hexB (h 3) <;> cases x4 : hexB (h 4) <;> simp [lastP, q1, q2, q3, q4, q5, hexUpto, x1, x2, x3, x4] at hp <;> subst hp <;> simp [hexUpto, x1, x2, x3, x4]
      · right
        have hp0 : p = 0 := by
          rw [← hp]
          refine lastP_none h (fun m _ => ?_) _
          unfold preB
          rw [if_neg (by rw [hs]; simp), if_neg (fun h => hu h.1)]
        subst hp0
        refine ⟨rfl, ?_⟩
        unfold escLen
        rw [if_neg hne, h0, if_neg (by rw [hs]; simp), if_neg hu]

end Go.Proofs.Qxb6601451a
