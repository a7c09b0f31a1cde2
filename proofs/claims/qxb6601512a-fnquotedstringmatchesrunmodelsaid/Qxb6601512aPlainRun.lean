/- The run model: the plain model, and that it agrees with the plain model of quotedString. -/
import Derived.Test.Qxb6601512aQuoted
namespace Go.Proofs.Qxb6601512a

/-- Where the closing quote lies; 'p': an odd run of backslashes stands right ahead. -/
def shutAt : Bool → List UInt8 → Option Nat
  | _, [] => none
  | p, c :: r => if c = 92 then (shutAt (!p) r).map (· + 1) else if c = 34 ∧ p = false then some 0 else (shutAt false r).map (· + 1)

theorem shutAt_back (x : UInt8) (r : List UInt8) : shutAt false (92 :: x :: r) = (shutAt false r).map (· + 2) := by
  rw [shutAt, if_pos rfl]
  have : shutAt (!false) (x :: r) = (shutAt false r).map (· + 1) := by
    rw [shutAt]
    by_cases h : x = 92
    · rw [if_pos h]; rfl
    · rw [if_neg h, if_neg (by simp)]
  rw [this]
  cases shutAt false r <;> rfl
theorem shutAt_other (c : UInt8) (r : List UInt8) (h1 : c ≠ 34) (h2 : c ≠ 92) : shutAt false (c :: r) = (shutAt false r).map (· + 1) := by
  rw [shutAt, if_neg h2, if_neg (fun h => h1 h.1)]
theorem shutAt_quote (r : List UInt8) : shutAt false (34 :: r) = some 0 := by
  rw [shutAt, if_neg (by decide), if_pos ⟨rfl, rfl⟩]

/-- What the closing quote's place says of the text and the span. -/
def Shuts (l : List UInt8) : Option Nat → Prop
  | some k => (rd l).2 = k + 1 ∧ k < l.length ∧ (rd l).1 = (rd (l.take k)).1 ∧ shutAt false (l.take k) = none
  | none => (rd l).2 = l.length

theorem shuts (l : List UInt8) : Shuts l (shutAt false l) := by
  refine rd_cases (fun l => Shuts l (shutAt false l)) ?_ ?_ ?_ ?_ ?_ l
  · rfl
  · intro r
    rw [shutAt_quote, Shuts, rd_quote]
    exact ⟨rfl, by simp, rfl, rfl⟩
  · rfl
  · intro x r ih
    rw [shutAt_back]
    cases h : shutAt false r with
    | none =>
      rw [h, Shuts] at ih
      show (rd (92 :: x :: r)).2 = (92 :: x :: r).length
      rw [rd_back]; simp [ih]
    | some k =>
      rw [h, Shuts] at ih
      obtain ⟨a, b, c, d⟩ := ih
      refine ⟨by rw [rd_back]; simp [a], by simp; omega, ?_, ?_⟩
      · rw [rd_back, List.take_succ_cons, List.take_succ_cons, rd_back, c]
      · rw [List.take_succ_cons, List.take_succ_cons, shutAt_back, d]; rfl
  · intro c r h1 h2 ih
    rw [shutAt_other c r h1 h2]
    cases h : shutAt false r with
    | none =>
      rw [h, Shuts] at ih
      show (rd (c :: r)).2 = (c :: r).length
      rw [rd_other c r h1 h2]; simp [ih]
    | some k =>
      rw [h, Shuts] at ih
      obtain ⟨a, b, e, d⟩ := ih
      refine ⟨by rw [rd_other c r h1 h2]; simp [a], by simp; omega, ?_, ?_⟩
      · rw [rd_other c r h1 h2, List.take_succ_cons, rd_other c _ h1 h2, e]
      · rw [List.take_succ_cons, shutAt_other c _ h1 h2, d]; rfl

theorem rd_even (m : Nat) (r : List UInt8) : (rd (List.replicate (2 * m) 92 ++ r)).1 = List.replicate m 92 ++ (rd r).1 := by
  induction m with
  | zero => simp
  | succ m ih =>
    rw [show 2 * (m + 1) = 2 * m + 1 + 1 by omega, List.replicate_succ, List.replicate_succ, List.cons_append, List.cons_append, rd_back, List.replicate_succ, List.cons_append, ih]
theorem shutAt_even (m : Nat) (r : List UInt8) (h : shutAt false (List.replicate (2 * m) 92 ++ r) = none) : shutAt false r = none := by
  induction m with
  | zero => simpa using h
  | succ m ih =>
    rw [show 2 * (m + 1) = 2 * m + 1 + 1 by omega, List.replicate_succ, List.replicate_succ, List.cons_append, List.cons_append, shutAt_back, Option.map_eq_none_iff] at h
    exact ih h

/-- Where the reading loop stands: place i of the region R, the bytes acc read. -/
def Reads (R : List UInt8) (i : Nat) (acc : List UInt8) : Prop := (rd R).1 = acc ++ (rd (R.drop i)).1 ∧ shutAt false (R.drop i) = none

theorem reads_plain {R : List UInt8} {i : Nat} {acc r : List UInt8} {c : UInt8} (h : Reads R i acc) (hd : R.drop i = c :: r) (hr : R.drop (i + 1) = r) (hc : c ≠ 92) : Reads R (i + 1) (acc ++ [c]) := by
  obtain ⟨h1, h2⟩ := h
  have h34 : c ≠ 34 := by
    intro e
    rw [hd, e, shutAt_quote] at h2
    cases h2
  rw [hd, rd_other c r h34 hc] at h1
  rw [hd, shutAt_other c r h34 hc, Option.map_eq_none_iff] at h2
  refine ⟨?_, by rw [hr]; exact h2⟩
  rw [h1, hr]; simp
theorem reads_even {R : List UInt8} {i m : Nat} {acc : List UInt8} (h : Reads R i acc) (hd : R.drop i = List.replicate (2 * m) 92 ++ R.drop (i + 2 * m)) : Reads R (i + 2 * m) (acc ++ List.replicate m 92) := by
  obtain ⟨h1, h2⟩ := h
  rw [hd, rd_even] at h1
  rw [hd] at h2
  exact ⟨by rw [h1]; simp, shutAt_even m _ h2⟩
theorem repl_odd (m : Nat) (X : List UInt8) : List.replicate (2 * m + 1) (92 : UInt8) ++ X = List.replicate (2 * m) 92 ++ (92 :: X) := by
  rw [List.replicate_succ', List.append_assoc]; rfl
theorem reads_odd {R r : List UInt8} {i m : Nat} {acc : List UInt8} {x : UInt8} (h : Reads R i acc) (hd : R.drop i = List.replicate (2 * m + 1) 92 ++ R.drop (i + (2 * m + 1))) (hx : R.drop (i + (2 * m + 1)) = x :: r) (hr : R.drop (i + (2 * m + 1) + 1) = r) :
    Reads R (i + (2 * m + 1) + 1) (acc ++ List.replicate m 92 ++ [x]) := by
  obtain ⟨h1, h2⟩ := h
  rw [hd, repl_odd, rd_even, hx, rd_back] at h1
  rw [hd, repl_odd] at h2
  have h3 := shutAt_even m _ h2
  rw [hx, shutAt_back, Option.map_eq_none_iff] at h3
  exact ⟨by rw [h1, hr]; simp, by rw [hr]; exact h3⟩
theorem reads_odd_end {R : List UInt8} {i m : Nat} {acc : List UInt8} (h : Reads R i acc) (hd : R.drop i = List.replicate (2 * m + 1) 92 ++ R.drop (i + (2 * m + 1))) (hx : R.drop (i + (2 * m + 1)) = []) :
    Reads R (i + (2 * m + 1)) (acc ++ List.replicate m 92) := by
  obtain ⟨h1, h2⟩ := h
  rw [hd, repl_odd, rd_even, hx, rd_lone] at h1
  exact ⟨by rw [h1, hx, rd_nil]; simp, by rw [hx]; rfl⟩
theorem run_more {R r : List UInt8} {i k : Nat} (hd : R.drop i = List.replicate k 92 ++ R.drop (i + k)) (hx : R.drop (i + k) = 92 :: r) (hr : R.drop (i + (k + 1)) = r) : R.drop i = List.replicate (k + 1) 92 ++ R.drop (i + (k + 1)) := by
  rw [hd, hx, hr, List.replicate_succ', List.append_assoc]; rfl

end Go.Proofs.Qxb6601512a
