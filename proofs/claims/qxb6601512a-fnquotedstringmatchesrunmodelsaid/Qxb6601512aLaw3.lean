/- The walk of FnQuotedStringMatchesRunModel. -/
import Derived.Test.Qxb6601512aRunModel
namespace Go.Proofs.Qxb6601512a
open Go.RowKit

set_option maxHeartbeats 400000 in
theorem law3_early (s : ByteArray) (h : 1048576 < s.size) (w : World) :
    Calls Try.prog 3 #[.string s] w fun e w' => e = .returned (.bool true) ∧ Below w.heap.size w w' := by
  go_enter Try.func3, Try.ntmps3
  go_wp2
  go_ret
  exact ⟨rfl, Below.refl _ _⟩

set_option maxHeartbeats 1000000 in
theorem law3_walk (s : ByteArray) (hn : s.size ≤ 1048576) (w : World) (text : List UInt8) (N : Nat) (e1 : qs s.data.toList = (text, N))
    (K2 : ∀ w : World, Calls Try.prog 11 #[.string s] w fun e w' => e = .returned (.tuple #[.string ⟨text.toArray⟩, .int .i64 N]) ∧ Below w.heap.size w w') :
    Calls Try.prog 3 #[.string s] w fun e w' => e = .returned (.bool true) ∧ Below w.heap.size w w' := by
  have K := ZZquoted_any s w (by omega) text N e1
  have HK := show Hid _ from K2
  clear e1 K2
  go_enter Try.func3, Try.ntmps3
  go_wp2_with (first | (go_at_call 9; go_in))
  refine K.mono ?_
  rintro e w1 ⟨rfl, hb1⟩
  clear K
  go_wp2_with fail
  refine (HK.out w1).mono ?_
  rintro e w2 ⟨rfl, hb2⟩
  clear HK
  go_wp2
  go_ret
  exact ⟨rfl, hb1.trans (hb2.mono hb1.size)⟩

theorem law3_all (s : ByteArray) (w : World) :
    Calls Try.prog 3 #[.string s] w fun e w' => e = .returned (.bool true) ∧ Below w.heap.size w w' := by
  by_cases hn : s.size ≤ 1048576
  · have hs : s.size = s.data.toList.length := by simp
    by_cases h1 : s.size ≤ 1
    · have hq : qs s.data.toList = ([], s.size) := by
        rw [hs] at h1 ⊢
        match s.data.toList, h1 with
        | [], _ => rfl
        | [_], _ => rfl
        | _ :: _ :: _, h => simp at h
      exact law3_walk s hn w [] s.size hq (fun w => (runModel_short s h1 w).mono fun e w' ⟨he, hw⟩ => ⟨he, by rw [hw]; exact Below.refl _ _⟩)
    · obtain ⟨c, t, hl⟩ : ∃ c t, s.data.toList = c :: t := by
        match hh : s.data.toList with
        | [] =>
          have h0 : s.size = 0 := by rw [hs, hh]; rfl
          omega
        | c :: t => exact ⟨c, t, rfl⟩
      have ht : s.data.toList.drop 1 = t := by rw [hl]; rfl
      have hlen : s.size = t.length + 1 := by rw [hs, hl]; simp
      have hq : qs s.data.toList = ((rd t).1, (rd t).2 + 1) := by rw [hl]; rfl
      have hx : ∀ E, (s.extract 1 E).data.toList = t.take (E - 1) := fun E => by rw [Lib.extract_data, ht]
      have sh := shuts t
      cases hsh : shutAt false t with
      | some k =>
        rw [hsh] at sh
        obtain ⟨a, b, d, f⟩ := sh
        refine law3_walk s hn w _ _ hq (fun w => runModel_any s hn (by omega) (k + 1) ((rd t).2 + 1) (rd t).1 w ?_ (by omega) (by omega) ?_ ?_)
        · rw [ht, hsh, a]; exact rfl
        · rw [hx]; exact f
        · rw [hx]; exact d.symm
      | none =>
        rw [hsh] at sh
        have e0 : t.take (s.size - 1) = t := List.take_of_length_le (by omega)
        have sh' : (rd t).2 = t.length := sh
        refine law3_walk s hn w _ _ hq (fun w => runModel_any s hn (by omega) s.size ((rd t).2 + 1) (rd t).1 w ?_ (by omega) (by omega) ?_ ?_)
        · rw [ht, hsh, sh', ← hlen]; exact rfl
        · rw [hx, e0]; exact hsh
        · rw [hx, e0]; exact rfl
  · exact law3_early s (by omega) w
end Go.Proofs.Qxb6601512a
