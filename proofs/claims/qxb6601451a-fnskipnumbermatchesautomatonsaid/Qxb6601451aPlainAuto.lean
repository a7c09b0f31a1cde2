/- The number automaton: the plain model, and that it agrees with the plain model of skipNumber. -/
import Derived.Test.Qxb6601451aPlainNum
namespace Go.Proofs.Qxb6601451a

def expB (c : Int) : Bool := decide (c = 101) || decide (c = 69)

/-- The transition table; 9 is the dead state. -/
def stepN (s : Nat) (c : Int) : Nat :=
  if s = 0 then (if c = 45 then 1 else if c = 48 then 2 else if digB c = true then 3 else 9)
  else if s = 1 then (if c = 48 then 2 else if digB c = true then 3 else 9)
  else if s = 2 then (if c = 46 then 4 else if expB c = true then 6 else 9)
  else if s = 3 then (if digB c = true then 3 else if c = 46 then 4 else if expB c = true then 6 else 9)
  else if s = 4 then (if digB c = true then 5 else 9)
  else if s = 5 then (if digB c = true then 5 else if expB c = true then 6 else 9)
  else if s = 6 then (if c = 43 ∨ c = 45 then 7 else if digB c = true then 8 else 9)
  else if s = 7 ∨ s = 8 then (if digB c = true then 8 else 9)
  else 9

theorem stepN_le (s : Nat) (c : Int) : stepN s c ≤ 9 := by
  unfold stepN
  repeat' split
  all_goals omega

def accB (s : Nat) : Bool := decide (s = 2) || decide (s = 3) || decide (s = 5) || decide (s = 8)

def autoF (g : Nat → Int) (n : Nat) : Nat → Nat → Nat → Nat × Nat
  | 0, s, j => (s, j)
  | k + 1, s, j => if j < n then (if stepN s (g j) = 9 then (s, j) else autoF g n k (stepN s (g j)) (j + 1)) else (s, j)
/-- Where the automaton stops from state s at place j. -/
def auto (g : Nat → Int) (n s j : Nat) : Nat × Nat := autoF g n (n - j) s j

theorem auto_step (g : Nat → Int) (n s j : Nat) (h : j < n) (h9 : stepN s (g j) ≠ 9) : auto g n s j = auto g n (stepN s (g j)) (j + 1) := by
  unfold auto
  rw [show n - j = (n - (j + 1)) + 1 by omega, autoF, if_pos h, if_neg h9]
theorem auto_dead (g : Nat → Int) (n s j : Nat) (h9 : j < n → stepN s (g j) = 9) : auto g n s j = (s, j) := by
  unfold auto
  cases hk : n - j with
  | zero => rfl
  | succ k => rw [autoF, if_pos (by omega), if_pos (h9 (by omega))]

theorem auto_run (g : Nat → Int) (n s : Nat) (hs : ∀ c, digB c = true → stepN s c = s) (h9 : s ≠ 9) : ∀ d j, j + d ≤ n → (∀ t, j ≤ t → t < j + d → digB (g t) = true) → auto g n s j = auto g n s (j + d)
  | 0, j, _, _ => rfl
  | d + 1, j, h1, h2 => by
    have e := hs (g j) (h2 j (Nat.le_refl _) (by omega))
    rw [auto_step g n s j (by omega) (by rw [e]; exact h9), e, auto_run g n s hs h9 d (j + 1) (by omega) (fun t h3 h4 => h2 t (by omega) (by omega))]
    rw [show j + 1 + d = j + (d + 1) by omega]

theorem auto_sd (g : Nat → Int) (n s j : Nat) (hs : ∀ c, digB c = true → stepN s c = s) (h9 : s ≠ 9) (hj : j ≤ n) : auto g n s j = auto g n s (sd g n j) := by
  obtain ⟨r1, r2, r3, r4⟩ := sd_spec g n j hj
  have := auto_run g n s hs h9 (sd g n j - j) j (by omega) (fun t h1 h2 => r3 t h1 (by omega))
  rwa [show j + (sd g n j - j) = sd g n j by omega] at this

theorem dig3 (c : Int) (h : digB c = true) : stepN 3 c = 3 := by simp [stepN, h]
theorem dig5 (c : Int) (h : digB c = true) : stepN 5 c = 5 := by simp [stepN, h]
theorem dig8 (c : Int) (h : digB c = true) : stepN 8 c = 8 := by simp [stepN, h]

/-- The automaton's stop and skipNumber's answer say the same. -/
def Agree (p : Nat × Nat) (r : Nat × Nat × Nat) : Prop := (accB p.1 = true ∧ r = (p.2, 0, 0)) ∨ (accB p.1 = false ∧ r = (0, 1, p.2))

theorem expo_agree (g : Nat → Int) (n s j : Nat) (_hj : j ≤ n) (ha : accB s = true) (h9 : j < n → expB (g j) = false → stepN s (g j) = 9) (h6 : j < n → expB (g j) = true → stepN s (g j) = 6) :
    Agree (auto g n s j) (expo g n j) := by
  by_cases h1 : j < n ∧ (g j = 101 ∨ g j = 69)
  · have he : expB (g j) = true := by simp [expB, h1.2]
    have e6 := h6 h1.1 he
    rw [auto_step g n s j h1.1 (by rw [e6]; omega), e6]
    have hex : expo g n j = if signAt g n (j + 1) = n ∨ digB (g (signAt g n (j + 1))) = false then (0, 1, signAt g n (j + 1)) else (sd g n (signAt g n (j + 1)), 0, 0) := by
      unfold expo; rw [if_pos h1]
    rw [hex]
    obtain ⟨q, hq, hd8, hd9, hrun⟩ : ∃ q, accB q = false ∧ (∀ c, digB c = true → stepN q c = 8) ∧ (signAt g n (j + 1) < n → digB (g (signAt g n (j + 1))) = false → stepN q (g (signAt g n (j + 1))) = 9) ∧
        auto g n 6 (j + 1) = auto g n q (signAt g n (j + 1)) := by
      by_cases h2 : j + 1 < n ∧ (g (j + 1) = 43 ∨ g (j + 1) = 45)
      · have es : signAt g n (j + 1) = j + 1 + 1 := by unfold signAt; exact if_pos h2
        have e7 : stepN 6 (g (j + 1)) = 7 := by simp [stepN, h2.2]
        rw [es]
        refine ⟨7, rfl, fun c h => by simp [stepN, h], fun _ h => by simp [stepN, h], ?_⟩
        rw [auto_step g n 6 (j + 1) h2.1 (by rw [e7]; omega), e7]
      · have es : signAt g n (j + 1) = j + 1 := by unfold signAt; exact if_neg h2
        rw [es]
        refine ⟨6, rfl, fun c h => ?_, fun h3 h => ?_, rfl⟩
        · have : ¬ (c = 43 ∨ c = 45) := by simp [digB] at h; omega
          simp [stepN, h, this]
        · have : ¬ (g (j + 1) = 43 ∨ g (j + 1) = 45) := fun h4 => h2 ⟨h3, h4⟩
          simp [stepN, h, this]
    have hm := signAt_le g n (j + 1) (by omega)
    rw [hrun]
    generalize signAt g n (j + 1) = m at *
    by_cases h3 : m = n ∨ digB (g m) = false
    · rw [if_pos h3]
      right
      rw [auto_dead g n q m (fun h => h3.elim (fun h' => by omega) (fun h' => hd9 h h'))]
      exact ⟨hq, rfl⟩
    · rw [if_neg h3]
      left
      have hdm : digB (g m) = true := by
        cases hd : digB (g m) with
        | true => rfl
        | false => exact absurd (.inr hd) h3
      have e8 := hd8 _ hdm
      have hmn : m < n := by omega
      obtain ⟨r1, r2, r3, r4⟩ := sd_spec g n m (by omega)
      have hgt : m < sd g n m := by
        rcases Nat.lt_or_ge m (sd g n m) with h4 | h4
        · exact h4
        · have h5 : sd g n m = m := by omega
          have h6 := r4 (by omega)
          rw [h5, hdm] at h6
          cases h6
      have run8 := auto_run g n 8 dig8 (by omega) (sd g n m - (m + 1)) (m + 1) (by omega) (fun t h1 h2 => r3 t (by omega) (by omega))
      rw [show m + 1 + (sd g n m - (m + 1)) = sd g n m by omega] at run8
      rw [auto_step g n q m hmn (by rw [e8]; omega), e8, run8, auto_dead g n 8 _ (fun h => by simp [stepN, r4 h])]
      exact ⟨rfl, rfl⟩
  · have hex : expo g n j = (j, 0, 0) := by unfold expo; exact if_neg h1
    rw [hex, auto_dead g n s j (fun h => h9 h (by simp only [expB, Bool.or_eq_false_iff, decide_eq_false_iff_not]; exact ⟨fun h2 => h1 ⟨h, .inl h2⟩, fun h2 => h1 ⟨h, .inr h2⟩⟩))]
    exact .inl ⟨ha, rfl⟩

theorem frac_agree (g : Nat → Int) (n s j : Nat) (hj : j ≤ n) (hs : s = 2 ∨ s = 3 ∧ (j < n → digB (g j) = false)) : Agree (auto g n s j) (frac g n j) := by
  have ha : accB s = true := by rcases hs with rfl | ⟨rfl, _⟩ <;> rfl
  by_cases h1 : j < n ∧ g j = 46
  · have e4 : stepN s (g j) = 4 := by
      rw [h1.2]
      rcases hs with rfl | ⟨rfl, _⟩ <;> simp [stepN, digB]
    rw [auto_step g n s j h1.1 (by rw [e4]; omega), e4]
    have hf : frac g n j = if j + 1 = n ∨ digB (g (j + 1)) = false then (0, 1, j + 1) else expo g n (sd g n (j + 1)) := by unfold frac; exact if_pos h1
    rw [hf]
    by_cases h2 : j + 1 = n ∨ digB (g (j + 1)) = false
    · rw [if_pos h2]
      right
      rw [auto_dead g n 4 (j + 1) (fun h => by
        have h3 : digB (g (j + 1)) = false := h2.elim (fun h' => by omega) id
        simp [stepN, h3])]
      exact ⟨rfl, rfl⟩
    · rw [if_neg h2]
      have hd : digB (g (j + 1)) = true := by
        cases hd : digB (g (j + 1)) with
        | true => rfl
        | false => exact absurd (.inr hd) h2
      have e5 : stepN 4 (g (j + 1)) = 5 := by simp [stepN, hd]
      obtain ⟨r1, r2, r3, r4⟩ := sd_spec g n (j + 1) (by omega)
      have hgt : j + 1 < sd g n (j + 1) := by
        rcases Nat.lt_or_ge (j + 1) (sd g n (j + 1)) with h4 | h4
        · exact h4
        · have h5 : sd g n (j + 1) = j + 1 := by omega
          have h6 := r4 (by omega)
          rw [h5, hd] at h6
          cases h6
      have run5 := auto_run g n 5 dig5 (by omega) (sd g n (j + 1) - (j + 1 + 1)) (j + 1 + 1) (by omega) (fun t h1 h2 => r3 t (by omega) (by omega))
      rw [show j + 1 + 1 + (sd g n (j + 1) - (j + 1 + 1)) = sd g n (j + 1) by omega] at run5
      rw [auto_step g n 4 (j + 1) (by omega) (by rw [e5]; omega), e5, run5]
      exact expo_agree g n 5 _ r2 rfl (fun h he => by simp [stepN, r4 h, he]) (fun h he => by simp [stepN, r4 h, he])
  · have hf : frac g n j = expo g n j := by unfold frac; exact if_neg h1
    rw [hf]
    refine expo_agree g n s j hj ha (fun h he => ?_) (fun h he => ?_)
    all_goals
      have h46 : ¬ g j = 46 := fun h' => h1 ⟨h, h'⟩
      rcases hs with rfl | ⟨rfl, hd⟩
      · simp [stepN, h46, he]
      · simp [stepN, h46, he, hd h]

theorem intp_agree (g : Nat → Int) (n s j : Nat) (hj : j ≤ n) (hs : s = 1 ∨ s = 0 ∧ (j < n → g j ≠ 45)) : Agree (auto g n s j) (intp g n j) := by
  have hna : accB s = false := by rcases hs with rfl | ⟨rfl, _⟩ <;> rfl
  by_cases h1 : j < n ∧ g j = 48
  · have e2 : stepN s (g j) = 2 := by
      rw [h1.2]
      rcases hs with rfl | ⟨rfl, _⟩ <;> simp [stepN]
    have hi : intp g n j = frac g n (j + 1) := by unfold intp; exact if_pos h1
    rw [auto_step g n s j h1.1 (by rw [e2]; omega), e2, hi]
    exact frac_agree g n 2 (j + 1) (by omega) (.inl rfl)
  · by_cases h2 : j < n ∧ 49 ≤ g j ∧ g j ≤ 57
    · have hd : digB (g j) = true := by simp [digB]; omega
      have e3 : stepN s (g j) = 3 := by
        have a : ¬ g j = 45 := by omega
        have b : ¬ g j = 48 := by omega
        rcases hs with rfl | ⟨rfl, _⟩ <;> simp [stepN, a, b, hd]
      have hi : intp g n j = frac g n (sd g n j) := by unfold intp; rw [if_neg h1, if_pos h2]
      obtain ⟨r1, r2, r3, r4⟩ := sd_spec g n j (by omega)
      have hgt : j < sd g n j := by
        rcases Nat.lt_or_ge j (sd g n j) with h4 | h4
        · exact h4
        · have h5 : sd g n j = j := by omega
          have h6 := r4 (by omega)
          rw [h5, hd] at h6
          cases h6
      have run3 := auto_run g n 3 dig3 (by omega) (sd g n j - (j + 1)) (j + 1) (by omega) (fun t h1 h2 => r3 t (by omega) (by omega))
      rw [show j + 1 + (sd g n j - (j + 1)) = sd g n j by omega] at run3
      rw [auto_step g n s j h2.1 (by rw [e3]; omega), e3, hi, run3]
      exact frac_agree g n 3 _ r2 (.inr ⟨rfl, r4⟩)
    · have hi : intp g n j = (0, 1, j) := by unfold intp; rw [if_neg h1, if_neg h2]
      rw [hi]
      right
      rw [auto_dead g n s j (fun h => by
        have a : ¬ g j = 48 := fun h' => h1 ⟨h, h'⟩
        have b : digB (g j) = false := by simp [digB]; omega
        rcases hs with rfl | ⟨rfl, hm⟩
        · simp [stepN, a, b]
        · simp [stepN, a, b, hm h])]
      exact ⟨hna, rfl⟩

/-- The law FnSkipNumberMatchesAutomaton, on the models. -/
theorem skipNum_agree (g : Nat → Int) (n i : Nat) (h : i < n) : Agree (auto g n 0 i) (skipNum g n i) := by
  unfold skipNum
  by_cases h45 : g i = 45
  · have hm : mind g i = i + 1 := by unfold mind; exact if_pos h45
    have e1 : stepN 0 (g i) = 1 := by simp [stepN, h45]
    rw [hm, auto_step g n 0 i h (by rw [e1]; omega), e1]
    exact intp_agree g n 1 (i + 1) (by omega) (.inl rfl)
  · have hm : mind g i = i := by unfold mind; exact if_neg h45
    rw [hm]
    exact intp_agree g n 0 i (by omega) (.inr ⟨rfl, fun _ => h45⟩)

end Go.Proofs.Qxb6601451a
