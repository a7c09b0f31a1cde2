/- The walk of FnQuotedStringReadsBackWhatQuotingWrote. -/
import Derived.Test.Qxb6601512aQuoteAll
namespace Go.Proofs.Qxb6601512a
open Go.RowKit

theorem rd_escs (l rest : List UInt8) : rd (escs l ++ 34 :: rest) = (l, (escs l).length + 1) := by
  induction l with
  | nil => exact rd_quote rest
  | cons c r ih =>
    unfold escs
    split
    · simp only [List.cons_append]
      rw [rd_back, ih]; rfl
    · rename_i h
      simp only [List.cons_append]
      rw [rd_other c _ (fun e => h (.inl e)) (fun e => h (.inr e)), ih]; rfl
theorem qs_quoted (l rest : List UInt8) : qs (34 :: escs l ++ [34] ++ rest) = (l, (34 :: escs l ++ [34]).length) := by
  show qs (34 :: (escs l ++ [34] ++ rest)) = _
  unfold qs
  rw [List.append_assoc]
  show ((rd (escs l ++ 34 :: rest)).1, (rd (escs l ++ 34 :: rest)).2 + 1) = _
  rw [rd_escs]
  simp

set_option maxHeartbeats 400000 in
theorem law4_early (t rest : ByteArray) (ht : t.size ≤ maxLen) (hr : rest.size ≤ maxLen) (h : 1048576 < t.size + rest.size) (w : World) :
    Calls Try.prog 4 #[.string t, .string rest] w fun e w' => e = .returned (.bool true) ∧ Below w.heap.size w w' := by
  unfold maxLen at ht hr
  rcases (show 1048576 < t.size ∨ (t.size ≤ 1048576 ∧ 1048576 < rest.size) ∨ (t.size ≤ 1048576 ∧ rest.size ≤ 1048576 ∧ 1048576 < t.size + rest.size) by omega) with h | ⟨h, h'⟩ | ⟨h, h', h''⟩
  all_goals
    go_enter Try.func4, Try.ntmps4
    go_wp2
    go_ret
    exact ⟨rfl, Below.refl _ _⟩

set_option maxHeartbeats 1000000 in
theorem law4_main (t rest : ByteArray) (h : t.size + rest.size ≤ 1048576) (w : World) (out : List UInt8) (HO : Hid (34 :: escs t.data.toList ++ [34] = out)) :
    Calls Try.prog 4 #[.string t, .string rest] w fun e w' => e = .returned (.bool true) ∧ Below w.heap.size w w' := by
  have K := quoteAll_any t w (by omega) out HO
  have hlen : out.length ≤ 2 * t.size + 2 := by
    rw [← HO.out]; have := escs_len t.data.toList; simp at this ⊢; omega
  have ht : t.size ≤ 1048576 := by omega
  have hr : rest.size ≤ 1048576 := by omega
  go_enter Try.func4, Try.ntmps4
  go_wp2_with (first | (go_at_call 12; go_in))
  refine K.mono ?_
  rintro e w1 ⟨rfl, hb1⟩
  clear K
  have K2 : Hid (Calls Try.prog 10 #[.string ((⟨out.toArray⟩ : ByteArray) ++ rest)] w1 fun e w' => e = .returned (.tuple #[.string t, .int .i64 out.length]) ∧ Below w1.heap.size w1 w') := by
    have e1 : (⟨t.data.toList.toArray⟩ : ByteArray) = t := by cases t; simp
    have e2 : ((⟨out.toArray⟩ : ByteArray) ++ rest).data.toList = out ++ rest.data.toList := by simp
    have e3 : ((⟨out.toArray⟩ : ByteArray) ++ rest).size = out.length + rest.size := by rw [ByteArray.size_append]; rfl
    have := ZZquoted_any ((⟨out.toArray⟩ : ByteArray) ++ rest) w1 (by rw [e3]; omega) t.data.toList out.length (by rw [e2, ← HO.out]; exact qs_quoted t.data.toList rest.data.toList)
    rw [e1] at this
    exact this
  clear HO
  go_wp2_with fail
  refine K2.out.mono ?_
  rintro e w2 ⟨rfl, hb2⟩
  clear K2
  go_wp2
  go_ret
  exact ⟨rfl, hb1.trans (hb2.mono hb1.size)⟩

theorem law4_all (t rest : ByteArray) (ht : t.size ≤ maxLen) (hr : rest.size ≤ maxLen) (w : World) :
    Calls Try.prog 4 #[.string t, .string rest] w fun e w' => e = .returned (.bool true) ∧ Below w.heap.size w w' := by
  by_cases h : t.size + rest.size ≤ 1048576
  · exact law4_main t rest h w _ rfl
  · exact law4_early t rest ht hr (by omega) w
end Go.Proofs.Qxb6601512a
