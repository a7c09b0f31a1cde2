/- The walk of FnQuotedStringSpanStandsAlone. -/
import Derived.Test.Qxb6601512aQuoted
namespace Go.Proofs.Qxb6601512a
open Go.RowKit

theorem qs_take (l : List UInt8) : qs (l.take (qs l).2) = qs l := by
  cases l with
  | nil => rfl
  | cons c t =>
    show qs ((c :: t).take ((rd t).2 + 1)) = _
    rw [List.take_succ_cons]
    show ((rd (t.take (rd t).2)).1, (rd (t.take (rd t).2)).2 + 1) = ((rd t).1, (rd t).2 + 1)
    rw [rd_take]
theorem qs_bounds (l : List UInt8) : (qs l).2 ≤ l.length ∧ (l.length ≤ 1 → (qs l).2 = l.length) ∧ (2 ≤ l.length → 2 ≤ (qs l).2) ∧ ((qs l).2 = 0 → (qs l).1 = []) ∧ (1 ≤ (qs l).2 → (qs l).1.length + 1 ≤ (qs l).2) := by
  cases l with
  | nil => simp [qs]
  | cons c t =>
    have := rd_bounds t
    refine ⟨by simp [qs]; omega, ?_, ?_, by simp [qs], by simp [qs]; omega⟩
    · intro h
      simp at h
      obtain rfl : t = [] := h
      rfl
    · intro h
      simp at h
      have h1 := this.2.2 (by intro e; rw [e] at h; simp at h)
      simp [qs]; omega

set_option maxHeartbeats 400000 in
theorem law5_early (s : ByteArray) (h : 1048576 < s.size) (w : World) :
    Calls Try.prog 5 #[.string s] w fun e w' => e = .returned (.bool true) ∧ Below w.heap.size w w' := by
  go_enter Try.func5, Try.ntmps5
  go_wp2
  go_ret
  exact ⟨rfl, Below.refl _ _⟩

set_option maxHeartbeats 1000000 in
theorem law5_zero (s : ByteArray) (h : s.size = 0) (w : World) (e1 : qs s.data.toList = ([], 0)) :
    Calls Try.prog 5 #[.string s] w fun e w' => e = .returned (.bool true) ∧ Below w.heap.size w w' := by
  have K := ZZquoted_any s w (by omega) [] 0 e1
  have e2 : s = ByteArray.empty := by simpa using h
  subst e2
  clear h e1
  go_enter Try.func5, Try.ntmps5
  go_wp2_with (first | (go_at_call 14; go_in))
  refine K.mono ?_
  rintro e w1 ⟨rfl, hb1⟩
  clear K
  go_wp2_with fail
  refine (ZZquoted_any ByteArray.empty w1 (by decide) [] 0 rfl).mono ?_
  rintro e w2 ⟨rfl, hb2⟩
  go_wp2
  go_ret
  exact ⟨rfl, hb1.trans (hb2.mono hb1.size)⟩

set_option maxHeartbeats 1000000 in
theorem law5_pos (s : ByteArray) (hn : s.size ≤ 1048576) (w : World) (text : List UInt8) (N : Nat) (e1 : qs s.data.toList = (text, N)) (e2 : qs (s.data.toList.take N) = (text, N))
    (b1 : N ≤ s.size) (b2 : 1 ≤ N) (b3 : 2 ≤ s.size → 2 ≤ N) (b4 : text.length + 1 ≤ N) :
    Calls Try.prog 5 #[.string s] w fun e w' => e = .returned (.bool true) ∧ Below w.heap.size w w' := by
  have K := ZZquoted_any s w (by omega) text N e1
  have H2 := show Hid _ from e2
  clear e1 e2
  go_enter Try.func5, Try.ntmps5
  go_wp2_with (first | (go_at_call 14; go_in))
  refine K.mono ?_
  rintro e w1 ⟨rfl, hb1⟩
  clear K
  have H3 : Hid (qs (s.extract 0 N).data.toList = (text, N)) := by
    rw [Lib.extract_data, List.drop_zero, Nat.sub_zero]; exact H2.out
  clear H2
  go_wp2_with fail
  all_goals
    refine (ZZquoted_any (s.extract 0 N) w1 (by simp; omega) text N H3.out).mono ?_
    rintro e w2 ⟨rfl, hb2⟩
    go_wp2
    go_ret
    exact ⟨rfl, hb1.trans (hb2.mono hb1.size)⟩

theorem law5_all (s : ByteArray) (w : World) :
    Calls Try.prog 5 #[.string s] w fun e w' => e = .returned (.bool true) ∧ Below w.heap.size w w' := by
  by_cases hn : s.size ≤ 1048576
  · have hs : s.size = s.data.toList.length := by simp
    obtain ⟨c1, c2, c3, c4, c5⟩ := qs_bounds s.data.toList
    have ht := qs_take s.data.toList
    generalize hq : qs s.data.toList = q at *
    obtain ⟨text, N⟩ := q
    by_cases h0 : s.size = 0
    · have hN : N = 0 := by simp only at c2; omega
      subst hN
      have h1 : text = [] := c4 rfl
      subst h1
      exact law5_zero s h0 w hq
    · have hN : 1 ≤ N := by
        simp only at c2 c3
        rcases (show s.size = 1 ∨ 2 ≤ s.size by omega) with h | h
        · have := c2 (by omega); omega
        · have := c3 (by omega); omega
      exact law5_pos s hn w text N hq ht (by simp only at c1; omega) hN (fun h => c3 (by omega)) (c5 hN)
  · exact law5_early s (by omega) w
end Go.Proofs.Qxb6601512a
