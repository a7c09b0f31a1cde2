/- The plain model of quotedString: no Go in sight. 'rd' reads what lies behind the opening quote: the text, and how many bytes it spans. -/
import Derived.Test.Qxb6601512aRows
namespace Go.Proofs.Qxb6601512a

def rd : List UInt8 → List UInt8 × Nat
  | [] => ([], 0)
  | [c] => if c = 34 then ([], 1) else if c = 92 then ([], 1) else ([c], 1)
  | c :: x :: r => if c = 34 then ([], 1) else if c = 92 then (x :: (rd r).1, (rd r).2 + 2) else (c :: (rd (x :: r)).1, (rd (x :: r)).2 + 1)

theorem rd_quote (r : List UInt8) : rd (34 :: r) = ([], 1) := by
  cases r with
  | nil => rfl
  | cons x r => rw [rd, if_pos rfl]
theorem rd_back (x : UInt8) (r : List UInt8) : rd (92 :: x :: r) = (x :: (rd r).1, (rd r).2 + 2) := by
  rw [rd, if_neg (by decide), if_pos rfl]
theorem rd_other (c : UInt8) (r : List UInt8) (h1 : c ≠ 34) (h2 : c ≠ 92) : rd (c :: r) = (c :: (rd r).1, (rd r).2 + 1) := by
  cases r with
  | nil => simp [rd, h1, h2]
  | cons x r => rw [rd, if_neg h1, if_neg h2]

/-- By what lies in front: nothing; a quote; a lone backslash; a backslash and a byte; another byte. -/
theorem rd_cases (P : List UInt8 → Prop) (h0 : P []) (h1 : ∀ r, P (34 :: r)) (h2 : P [92]) (h3 : ∀ x r, P r → P (92 :: x :: r)) (h4 : ∀ c r, c ≠ 34 → c ≠ 92 → P r → P (c :: r)) : ∀ l, P l
  | [] => h0
  | [c] => by
    by_cases hc : c = 34
    · rw [hc]; exact h1 []
    · by_cases hd : c = 92
      · rw [hd]; exact h2
      · exact h4 c [] hc hd h0
  | c :: x :: r => by
    by_cases hc : c = 34
    · rw [hc]; exact h1 _
    · by_cases hd : c = 92
      · rw [hd]; exact h3 x r (rd_cases P h0 h1 h2 h3 h4 r)
      · exact h4 c _ hc hd (rd_cases P h0 h1 h2 h3 h4 (x :: r))

theorem rd_bounds (l : List UInt8) : (rd l).1.length ≤ (rd l).2 ∧ (rd l).2 ≤ l.length ∧ (l ≠ [] → 1 ≤ (rd l).2) := by
  refine rd_cases (fun l => (rd l).1.length ≤ (rd l).2 ∧ (rd l).2 ≤ l.length ∧ (l ≠ [] → 1 ≤ (rd l).2)) ?_ ?_ ?_ ?_ ?_ l
  · simp [rd]
  · intro r; rw [rd_quote]; simp
  · simp [rd]
  · intro x r ⟨a, b, _⟩; rw [rd_back]; simp; omega
  · intro c r h1 h2 ⟨a, b, _⟩; rw [rd_other c r h1 h2]; simp; omega

/-- Cut to its span it reads the same. -/
theorem rd_take (l : List UInt8) : rd (l.take (rd l).2) = rd l := by
  refine rd_cases (fun l => rd (l.take (rd l).2) = rd l) ?_ ?_ ?_ ?_ ?_ l
  · rfl
  · intro r; rw [rd_quote]; rfl
  · rfl
  · intro x r ih
    rw [rd_back]
    show rd ((92 :: x :: r).take ((rd r).2 + 2)) = _
    rw [List.take_succ_cons, List.take_succ_cons, rd_back, ih]
  · intro c r h1 h2 ih
    rw [rd_other c r h1 h2]
    show rd ((c :: r).take ((rd r).2 + 1)) = _
    rw [List.take_succ_cons, rd_other c _ h1 h2, ih]

end Go.Proofs.Qxb6601512a
