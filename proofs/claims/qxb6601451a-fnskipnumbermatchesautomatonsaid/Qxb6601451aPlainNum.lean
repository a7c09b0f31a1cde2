/- The plain model of skipNumber: no Go in sight. -/
import Derived.Test.Qxb6601451aBase
namespace Go.Proofs.Qxb6601451a

def sdF (g : Nat → Int) (n : Nat) : Nat → Nat → Nat
  | 0, i => i
  | k + 1, i => if i < n then (if digB (g i) = true then sdF g n k (i + 1) else i) else i
/-- The first place at or after i that holds no digit, or n. -/
def sd (g : Nat → Int) (n i : Nat) : Nat := sdF g n (n - i) i

theorem sdF_spec (g : Nat → Int) (n : Nat) : ∀ k i, i ≤ n → n ≤ i + k →
    i ≤ sdF g n k i ∧ sdF g n k i ≤ n ∧ (∀ j, i ≤ j → j < sdF g n k i → digB (g j) = true) ∧ (sdF g n k i < n → digB (g (sdF g n k i)) = false)
  | 0, i, h1, h2 => ⟨Nat.le_refl _, h1, fun j h3 h4 => by simp only [sdF] at h4; omega, fun h => by simp only [sdF] at h; omega⟩
  | k + 1, i, h1, h2 => by
    by_cases h : i < n
    · cases hd : digB (g i) with
      | true =>
        have e : sdF g n (k + 1) i = sdF g n k (i + 1) := by rw [sdF, if_pos h, if_pos hd]
        rw [e]
        obtain ⟨r1, r2, r3, r4⟩ := sdF_spec g n k (i + 1) (by omega) (by omega)
        refine ⟨by omega, r2, fun j h3 h4 => ?_, r4⟩
        by_cases hj : j = i
        · rw [hj]; exact hd
        · exact r3 j (by omega) h4
      | false =>
        have e : sdF g n (k + 1) i = i := by rw [sdF, if_pos h, if_neg (by rw [hd]; simp)]
        rw [e]
        exact ⟨Nat.le_refl _, h1, fun j h3 h4 => by omega, fun _ => hd⟩
    · have e : sdF g n (k + 1) i = i := by rw [sdF, if_neg h]
      rw [e]
      exact ⟨Nat.le_refl _, h1, fun j h3 h4 => by omega, fun h' => absurd h' h⟩

theorem sd_spec (g : Nat → Int) (n i : Nat) (h : i ≤ n) :
    i ≤ sd g n i ∧ sd g n i ≤ n ∧ (∀ j, i ≤ j → j < sd g n i → digB (g j) = true) ∧ (sd g n i < n → digB (g (sd g n i)) = false) :=
  sdF_spec g n (n - i) i h (by omega)

theorem sd_unique (g : Nat → Int) (n i e : Nat) (h1 : i ≤ e) (h2 : e ≤ n) (h3 : ∀ j, i ≤ j → j < e → digB (g j) = true) (h4 : e < n → digB (g e) = false) : sd g n i = e := by
  obtain ⟨r1, r2, r3, r4⟩ := sd_spec g n i (by omega)
  rcases Nat.lt_trichotomy (sd g n i) e with h | h | h
  · have a := h3 _ r1 h
    rw [r4 (by omega)] at a
    cases a
  · exact h
  · have a := r3 _ h1 h
    rw [h4 (by omega)] at a
    cases a

theorem sd_shift (g : Nat → Int) (n i j : Nat) (h : i + j ≤ n) : sd g n (i + j) = i + sd (fun t => g (i + t)) (n - i) j := by
  obtain ⟨r1, r2, r3, r4⟩ := sd_spec (fun t => g (i + t)) (n - i) j (by omega)
  refine sd_unique g n (i + j) _ (by omega) (by omega) (fun t h1 h2 => ?_) (fun h1 => r4 (by omega))
  have := r3 (t - i) (by omega) (by omega)
  rwa [show i + (t - i) = t by omega] at this

theorem sd_cut (g : Nat → Int) (n m i : Nat) (h : i ≤ n) (h1 : sd g n i ≤ m) (h2 : m ≤ n) : sd g m i = sd g n i := by
  obtain ⟨r1, r2, r3, r4⟩ := sd_spec g n i h
  exact sd_unique g m i _ r1 h1 r3 (fun h3 => r4 (by omega))

def signAt (g : Nat → Int) (n i : Nat) : Nat := if i < n ∧ (g i = 43 ∨ g i = 45) then i + 1 else i
def expo (g : Nat → Int) (n i : Nat) : Nat × Nat × Nat :=
  if i < n ∧ (g i = 101 ∨ g i = 69) then
    (if signAt g n (i + 1) = n ∨ digB (g (signAt g n (i + 1))) = false then (0, 1, signAt g n (i + 1)) else (sd g n (signAt g n (i + 1)), 0, 0))
  else (i, 0, 0)
def frac (g : Nat → Int) (n i : Nat) : Nat × Nat × Nat :=
  if i < n ∧ g i = 46 then
    (if i + 1 = n ∨ digB (g (i + 1)) = false then (0, 1, i + 1) else expo g n (sd g n (i + 1)))
  else expo g n i
def intp (g : Nat → Int) (n i : Nat) : Nat × Nat × Nat :=
  if i < n ∧ g i = 48 then frac g n (i + 1)
  else if i < n ∧ 49 ≤ g i ∧ g i ≤ 57 then frac g n (sd g n i)
  else (0, 1, i)
def mind (g : Nat → Int) (i : Nat) : Nat := if g i = 45 then i + 1 else i
/-- What skipNumber answers: the end, the fault's kind, the fault's place. -/
def skipNum (g : Nat → Int) (n i : Nat) : Nat × Nat × Nat := intp g n (mind g i)

/-- What an answer is good for: shifted by i, cut behind its end. -/
def NumLaw (g : Nat → Int) (n i lo : Nat) (f : (Nat → Int) → Nat → Nat → Nat × Nat × Nat) (j : Nat) : Prop :=
  (∃ e, lo ≤ e ∧ i + e ≤ n ∧ f g n (i + j) = (i + e, 0, 0) ∧ f (fun t => g (i + t)) (n - i) j = (e, 0, 0) ∧ f g (i + e) (i + j) = (i + e, 0, 0)) ∨
  (∃ a, i + a ≤ n ∧ f g n (i + j) = (0, 1, i + a) ∧ f (fun t => g (i + t)) (n - i) j = (0, 1, a))

theorem signAt_le (g : Nat → Int) (n i : Nat) (h : i ≤ n) : i ≤ signAt g n i ∧ signAt g n i ≤ n ∧ signAt g n i ≤ i + 1 := by
  unfold signAt; split <;> omega
theorem signAt_shift (g : Nat → Int) (n i j : Nat) (h : i + j ≤ n) : signAt g n (i + j) = i + signAt (fun t => g (i + t)) (n - i) j := by
  unfold signAt
  by_cases h1 : i + j < n ∧ (g (i + j) = 43 ∨ g (i + j) = 45)
  · rw [if_pos h1, if_pos ⟨by omega, h1.2⟩]; omega
  · rw [if_neg h1, if_neg (fun h2 => h1 ⟨by omega, h2.2⟩)]
theorem signAt_cut (g : Nat → Int) (n m i : Nat) (h2 : m ≤ n) (h3 : i < m) : signAt g m i = signAt g n i := by
  unfold signAt
  by_cases h4 : i < n ∧ (g i = 43 ∨ g i = 45)
  · rw [if_pos h4, if_pos ⟨h3, h4.2⟩]
  · rw [if_neg h4, if_neg (fun h5 => h4 ⟨by omega, h5.2⟩)]

theorem expo_law (g : Nat → Int) (n i j : Nat) (h : i + j ≤ n) : NumLaw g n i j expo j := by
  unfold NumLaw expo
  by_cases h1 : i + j < n ∧ (g (i + j) = 101 ∨ g (i + j) = 69)
  · have h1' : j < n - i ∧ (g (i + j) = 101 ∨ g (i + j) = 69) := ⟨by omega, h1.2⟩
    have es := signAt_shift g n i (j + 1) (by omega)
    have hs := signAt_le g n (i + j + 1) (by omega)
    simp only [Nat.add_assoc] at es hs ⊢
    rw [if_pos h1, if_pos h1']
    generalize hs0 : signAt (fun t => g (i + t)) (n - i) (j + 1) = s at es ⊢
    rw [es] at hs ⊢
    by_cases h2 : i + s = n ∨ digB (g (i + s)) = false
    · right
      rw [if_pos h2, if_pos (h2.elim (fun h => .inl (by omega)) .inr)]
      exact ⟨s, by omega, rfl, rfl⟩
    · left
      have h2' : ¬ (s = n - i ∨ digB (g (i + s)) = false) := fun h3 => h2 (h3.elim (fun h => .inl (by omega)) .inr)
      rw [if_neg h2, if_neg h2']
      have ed := sd_shift g n i s (by omega)
      have hd := sd_spec g n (i + s) (by omega)
      have hgt : i + s < sd g n (i + s) := by
        rcases Nat.lt_or_ge (i + s) (sd g n (i + s)) with h3 | h3
        · exact h3
        · have h4 : sd g n (i + s) = i + s := by omega
          have h5 := hd.2.2.2 (by rw [h4]; omega)
          rw [h4] at h5
          exact absurd (.inr h5) h2
      refine ⟨sd (fun t => g (i + t)) (n - i) s, by omega, by omega, by rw [← ed], rfl, ?_⟩
      rw [← ed]
      have hc := signAt_cut g n (sd g n (i + s)) (i + (j + 1)) (by omega) (by omega)
      rw [hc, es, if_pos ⟨by omega, h1.2⟩, if_neg (fun h3 => h2 (h3.elim (fun h => by omega) .inr)), sd_cut g n _ (i + s) (by omega) (Nat.le_refl _) (by omega)]
  · left
    rw [if_neg h1, if_neg (show ¬ (j < n - i ∧ (g (i + j) = 101 ∨ g (i + j) = 69)) from fun h2 => h1 ⟨by omega, h2.2⟩)]
    exact ⟨j, Nat.le_refl _, h, rfl, rfl, by rw [if_neg (by omega)]⟩

theorem frac_law (g : Nat → Int) (n i j : Nat) (h : i + j ≤ n) : NumLaw g n i j frac j := by
  by_cases h1 : i + j < n ∧ g (i + j) = 46
  · have h1' : j < n - i ∧ g (i + j) = 46 := ⟨by omega, h1.2⟩
    by_cases h2 : i + (j + 1) = n ∨ digB (g (i + (j + 1))) = false
    · right
      refine ⟨j + 1, by omega, ?_, ?_⟩
      · unfold frac; rw [if_pos h1, Nat.add_assoc, if_pos h2]
      · unfold frac; rw [if_pos h1', if_pos (h2.elim (fun h => .inl (by omega)) .inr)]
    · have h2' : ¬ (j + 1 = n - i ∨ digB (g (i + (j + 1))) = false) := fun h3 => h2 (h3.elim (fun h => .inl (by omega)) .inr)
      have ed := sd_shift g n i (j + 1) (by omega)
      have hd := sd_spec g n (i + (j + 1)) (by omega)
      have hgt : i + (j + 1) < sd g n (i + (j + 1)) := by
        rcases Nat.lt_or_ge (i + (j + 1)) (sd g n (i + (j + 1))) with h3 | h3
        · exact h3
        · have h4 : sd g n (i + (j + 1)) = i + (j + 1) := by omega
          have h5 := hd.2.2.2 (by rw [h4]; omega)
          rw [h4] at h5
          exact absurd (.inr h5) h2
      have f1 : frac g n (i + j) = expo g n (i + sd (fun t => g (i + t)) (n - i) (j + 1)) := by unfold frac; rw [if_pos h1, Nat.add_assoc, if_neg h2, ed]
      have f2 : frac (fun t => g (i + t)) (n - i) j = expo (fun t => g (i + t)) (n - i) (sd (fun t => g (i + t)) (n - i) (j + 1)) := by unfold frac; rw [if_pos h1', if_neg h2']
      rcases expo_law g n i (sd (fun t => g (i + t)) (n - i) (j + 1)) (by omega) with ⟨e, r1, r2, r3, r4, r5⟩ | ⟨a, r1, r2, r3⟩
      · left
        refine ⟨e, by omega, r2, by rw [f1, r3], by rw [f2, r4], ?_⟩
        have f3 : frac g (i + e) (i + j) = expo g (i + e) (sd g (i + e) (i + (j + 1))) := by
          unfold frac; rw [if_pos ⟨by omega, h1.2⟩, Nat.add_assoc, if_neg (fun h3 => h2 (h3.elim (fun h => by omega) .inr))]
        rw [f3, sd_cut g n (i + e) (i + (j + 1)) (by omega) (by omega) (by omega), ed, r5]
      · right
        exact ⟨a, r1, by rw [f1, r2], by rw [f2, r3]⟩
  · have f1 : frac g n (i + j) = expo g n (i + j) := by unfold frac; rw [if_neg h1]
    have f2 : frac (fun t => g (i + t)) (n - i) j = expo (fun t => g (i + t)) (n - i) j := by unfold frac; rw [if_neg (fun h2 => h1 ⟨by omega, h2.2⟩)]
    rcases expo_law g n i j h with ⟨e, r1, r2, r3, r4, r5⟩ | ⟨a, r1, r2, r3⟩
    · left
      refine ⟨e, r1, r2, by rw [f1, r3], by rw [f2, r4], ?_⟩
      have f3 : frac g (i + e) (i + j) = expo g (i + e) (i + j) := by unfold frac; rw [if_neg (fun h2 => h1 ⟨by omega, h2.2⟩)]
      rw [f3, r5]
    · right
      exact ⟨a, r1, by rw [f1, r2], by rw [f2, r3]⟩

theorem intp_law (g : Nat → Int) (n i j : Nat) (h : i + j ≤ n) : NumLaw g n i (j + 1) intp j := by
  by_cases h1 : i + j < n ∧ g (i + j) = 48
  · have h1' : j < n - i ∧ g (i + j) = 48 := ⟨by omega, h1.2⟩
    have f1 : intp g n (i + j) = frac g n (i + (j + 1)) := by unfold intp; rw [if_pos h1]; rfl
    have f2 : intp (fun t => g (i + t)) (n - i) j = frac (fun t => g (i + t)) (n - i) (j + 1) := by unfold intp; rw [if_pos h1']
    rcases frac_law g n i (j + 1) (by omega) with ⟨e, r1, r2, r3, r4, r5⟩ | ⟨a, r1, r2, r3⟩
    · left
      refine ⟨e, by omega, r2, by rw [f1, r3], by rw [f2, r4], ?_⟩
      have f3 : intp g (i + e) (i + j) = frac g (i + e) (i + (j + 1)) := by unfold intp; rw [if_pos ⟨by omega, h1.2⟩]; rfl
      rw [f3, r5]
    · right
      exact ⟨a, r1, by rw [f1, r2], by rw [f2, r3]⟩
  · have h1' : ¬ (j < n - i ∧ g (i + j) = 48) := fun h2 => h1 ⟨by omega, h2.2⟩
    by_cases h2 : i + j < n ∧ 49 ≤ g (i + j) ∧ g (i + j) ≤ 57
    · have h2' : j < n - i ∧ 49 ≤ g (i + j) ∧ g (i + j) ≤ 57 := ⟨by omega, h2.2⟩
      have hdg : digB (g (i + j)) = true := by simp [digB]; omega
      have ed := sd_shift g n i j (by omega)
      have hd := sd_spec g n (i + j) (by omega)
      have hgt : i + j < sd g n (i + j) := by
        rcases Nat.lt_or_ge (i + j) (sd g n (i + j)) with h3 | h3
        · exact h3
        · have h4 : sd g n (i + j) = i + j := by omega
          have h5 := hd.2.2.2 (by rw [h4]; omega)
          rw [h4, hdg] at h5
          cases h5
      have f1 : intp g n (i + j) = frac g n (i + sd (fun t => g (i + t)) (n - i) j) := by unfold intp; rw [if_neg h1, if_pos h2, ed]
      have f2 : intp (fun t => g (i + t)) (n - i) j = frac (fun t => g (i + t)) (n - i) (sd (fun t => g (i + t)) (n - i) j) := by unfold intp; rw [if_neg h1', if_pos h2']
      rcases frac_law g n i (sd (fun t => g (i + t)) (n - i) j) (by omega) with ⟨e, r1, r2, r3, r4, r5⟩ | ⟨a, r1, r2, r3⟩
      · left
        refine ⟨e, by omega, r2, by rw [f1, r3], by rw [f2, r4], ?_⟩
        have f3 : intp g (i + e) (i + j) = frac g (i + e) (sd g (i + e) (i + j)) := by unfold intp; rw [if_neg (fun h3 => h1 ⟨by omega, h3.2⟩), if_pos ⟨by omega, h2.2⟩]
        rw [f3, sd_cut g n (i + e) (i + j) (by omega) (by omega) (by omega), ed, r5]
      · right
        exact ⟨a, r1, by rw [f1, r2], by rw [f2, r3]⟩
    · right
      refine ⟨j, h, ?_, ?_⟩
      · unfold intp; rw [if_neg h1, if_neg h2]
      · unfold intp; rw [if_neg h1', if_neg (fun h3 => h2 ⟨by omega, h3.2⟩)]

/-- The law FnSkipNumberLocalAndSelfDelimiting, on the model. -/
theorem skipNum_law (g : Nat → Int) (n i : Nat) (h : i < n) :
    (∃ e, 1 ≤ e ∧ i + e ≤ n ∧ skipNum g n i = (i + e, 0, 0) ∧ skipNum (fun t => g (i + t)) (n - i) 0 = (e, 0, 0) ∧ skipNum g (i + e) i = (i + e, 0, 0)) ∨
    (∃ a, i + a ≤ n ∧ skipNum g n i = (0, 1, i + a) ∧ skipNum (fun t => g (i + t)) (n - i) 0 = (0, 1, a)) := by
  have hm : mind g i = i + mind (fun t => g (i + t)) 0 := by
    unfold mind; simp only [Nat.add_zero]; split <;> rfl
  have hm1 : mind (fun t => g (i + t)) 0 ≤ 1 := by unfold mind; split <;> omega
  unfold skipNum
  rw [hm]
  rcases intp_law g n i (mind (fun t => g (i + t)) 0) (by omega) with ⟨e, r1, r2, r3, r4, r5⟩ | ⟨a, r1, r2, r3⟩
  · exact .inl ⟨e, by omega, r2, r3, r4, r5⟩
  · exact .inr ⟨a, r1, r2, r3⟩

end Go.Proofs.Qxb6601451a
