/- The contract of escapeLength. -/
import Derived.Test.Qxb6601451aPlainEsc
import Derived.Deep.Light
namespace Go.Proofs.Qxb6601451a
open Go.RowKit

set_option maxHeartbeats 400000 in
theorem esc_end (b off n cap i : Nat) (w : World) (hn : n ≤ 1048576) (hi : i + 1 = n) :
    Calls Try.prog 23 #[.slice (some ⟨b, off, none⟩) n cap, .int .i64 i] w fun e w' => e = .returned (.tuple #[.int .i64 0, .agg #[.int .u8 1, .int .i64 (i + 1)]]) ∧ Below w.heap.size w w' := by
  subst hi
  go_enter Try.func23, Try.ntmps23
  go_wp2_with fail
  refine (badByteAt_any _ _).mono ?_
  rintro e w1 ⟨rfl, hb1⟩
  obtain ⟨hc1, hf1⟩ := bcell hb1
  have hz : w.heap.size < w1.heap.size := by have := hb1.size; simp at this; omega
  go_wp2
  refine bodyPost_ret (v := .tuple #[.int .i64 0, .agg #[.int .u8 1, .int .i64 (i + 1)]]) ?_ rfl ⟨rfl, below_two hb1 _ _⟩
  go_light
  simp [results, Try.results23, go_sem, hc1]

set_option maxHeartbeats 400000 in
theorem esc_sing (b off n cap i : Nat) (c : Int) (w : World) (hn : n ≤ 1048576) (hi : i + 1 < n) (hb : b < w.heap.size) (hc : w.cell? ⟨b, off + (i + 1), none⟩ = some (.int .u8 c)) (hs : singB c = true) :
    Calls Try.prog 23 #[.slice (some ⟨b, off, none⟩) n cap, .int .i64 i] w fun e w' => e = .returned (.tuple #[.int .i64 2, .agg #[.int .u8 0, .int .i64 0]]) ∧ Below w.heap.size w w' := by
  have h8 : c = 34 ∨ c = 92 ∨ c = 47 ∨ c = 98 ∨ c = 102 ∨ c = 110 ∨ c = 114 ∨ c = 116 := by simpa [singB, or_assoc] using hs
  clear hs
  rcases h8 with rfl | rfl | rfl | rfl | rfl | rfl | rfl | rfl
  all_goals
    go_enter Try.func23, Try.ntmps23
    go_wp2
    refine bodyPost_ret (v := .tuple #[.int .i64 2, .agg #[.int .u8 0, .int .i64 0]]) ?_ rfl ⟨rfl, ?_⟩
    · simp [results, Try.results23, go_sem]
    · exact (Below.refl _ _).alloc (Nat.le_refl _) _

set_option maxHeartbeats 400000 in
theorem esc_bad (b off n cap i : Nat) (c : Int) (w : World) (hn : n ≤ 1048576) (hi : i + 1 < n) (hb : b < w.heap.size) (hc : w.cell? ⟨b, off + (i + 1), none⟩ = some (.int .u8 c)) (hs : singB c = false) (hu : c ≠ 117) :
    Calls Try.prog 23 #[.slice (some ⟨b, off, none⟩) n cap, .int .i64 i] w fun e w' => e = .returned (.tuple #[.int .i64 0, .agg #[.int .u8 1, .int .i64 (i + 1)]]) ∧ Below w.heap.size w w' := by
  simp only [singB, Bool.or_eq_false_iff, decide_eq_false_iff_not] at hs
  obtain ⟨⟨⟨⟨⟨⟨⟨h1, h2⟩, h3⟩, h4⟩, h5⟩, h6⟩, h7⟩, h8⟩ := hs
  replace h1 : (c == 34) = false := by simp [h1]
  replace h2 : (c == 92) = false := by simp [h2]
  replace h3 : (c == 47) = false := by simp [h3]
  replace h4 : (c == 98) = false := by simp [h4]
  replace h5 : (c == 102) = false := by simp [h5]
  replace h6 : (c == 110) = false := by simp [h6]
  replace h7 : (c == 114) = false := by simp [h7]
  replace h8 : (c == 116) = false := by simp [h8]
  replace hu : (c == 117) = false := by simp [hu]
  go_enter Try.func23, Try.ntmps23
  go_wp2_with fail
  refine (badByteAt_any _ _).mono ?_
  rintro e w1 ⟨rfl, hb1⟩
  obtain ⟨hc1, hf1⟩ := bcell hb1
  have hz : w.heap.size < w1.heap.size := by have := hb1.size; simp at this; omega
  go_wp2
  refine bodyPost_ret (v := .tuple #[.int .i64 0, .agg #[.int .u8 1, .int .i64 (i + 1)]]) ?_ rfl ⟨rfl, below_two hb1 _ _⟩
  go_light
  simp [results, Try.results23, go_sem, hc1]

set_option maxHeartbeats 1000000 in
theorem esc_u (b off n cap i : Nat) (g : Nat → Int) (w : World) (hn : n ≤ 1048576) (hi : i + 1 < n) (hb : b < w.heap.size) (hc : ∀ j, j < n → w.cell? ⟨b, off + j, none⟩ = some (.int .u8 (g j))) (hu : g (i + 1) = 117)
    (l k a : Nat) (H : Hid ((match hexRun g n 4 (i + 2) with | none => (6, 0, 0) | some j => (0, 1, j)) = (l, k, a))) :
    Calls Try.prog 23 #[.slice (some ⟨b, off, none⟩) n cap, .int .i64 i] w fun e w' => e = .returned (.tuple #[.int .i64 l, .agg #[.int .u8 k, .int .i64 a]]) ∧ Below w.heap.size w w' := by
  have hc117 : w.cell? ⟨b, off + (i + 1), none⟩ = some (.int .u8 117) := by rw [hc _ hi, hu]
  clear hu
  have HC : Hid (∀ j, j < n → w.cell? ⟨b, off + j, none⟩ = some (.int .u8 (g j))) := hc
  clear hc
  have hne : (((i : Int) + 1) == (n : Int)) = false := by rw [beq_eq_false_iff_ne]; omega
  go_enter Try.func23, Try.ntmps23
  go_wp2
  go_loop [6] (fun j => ∃ t : Nat, t ≤ 4 ∧ i + 2 + t ≤ n ∧ j = .int .i64 ((i : Int) + 2 + t) ∧ Hid (hexRun g n 4 (i + 2) = hexRun g n (4 - t) (i + 2 + t))) (fun j => (i + 6 - (intOf j).toNat))
  case atStart => exact ⟨0, by omega, by omega, by go_num, rfl⟩
  case round =>
    obtain ⟨t, ht, htn, rfl, HR⟩ := hrel
    clear hc117
    by_cases hlt : t < 4
    · by_cases hend : i + 2 + t = n
      · have hv : l = 0 ∧ k = 1 ∧ a = n := by
          have := H.out; rw [HR.out, show 4 - t = (3 - t) + 1 by omega, hexRun, if_pos hend] at this; simp at this; omega
        obtain ⟨rfl, rfl, rfl⟩ := hv
        clear HR H
        have hend' : a ≤ i + 2 + t := by omega
        clear hend
        go_wp2_with fail
        refine (badByteAt_any _ _).mono ?_
        rintro e w1 ⟨rfl, hb1⟩
        obtain ⟨hc1, hf1⟩ := bcell hb1
        have hz : w.heap.size < w1.heap.size := by have := hb1.size; simp at this; omega
        go_wp2
        refine bodyPost_ret (v := .tuple #[.int .i64 0, .agg #[.int .u8 1, .int .i64 a]]) ?_ rfl ⟨rfl, below_two hb1 _ _⟩
        go_light
        simp [results, Try.results23, go_sem, hc1]
      · have hcj := HC.out (i + 2 + t) (by omega)
        have hend' : i + 2 + t < n := by omega
        cases hx : hexB (g (i + 2 + t)) with
        | true =>
          have HN : Hid (hexRun g n 4 (i + 2) = hexRun g n (4 - (t + 1)) (i + 2 + (t + 1))) := by
            refine HR.out.trans ?_
            rw [show 4 - t = (3 - t) + 1 by omega, hexRun, if_neg hend, if_neg (by rw [hx]; simp), show 4 - (t + 1) = 3 - t by omega]; rfl
          clear hend HR
          go_wp2_with fail
          refine (isHex_any _ _).mono ?_
          rintro e w1 ⟨rfl, hw1⟩
          subst hw1
          go_wp2
          go_round
          case rel => exact ⟨t + 1, by omega, by omega, by go_num, HN⟩
          case measure => simp [intOf]; omega
        | false =>
          have hv : l = 0 ∧ k = 1 ∧ a = i + 2 + t := by
            have := H.out; rw [HR.out, show 4 - t = (3 - t) + 1 by omega, hexRun, if_neg hend, if_pos hx] at this; simp at this; omega
          obtain ⟨rfl, rfl, rfl⟩ := hv
          clear hend HR H
          go_wp2_with fail
          refine (isHex_any _ _).mono ?_
          rintro e w1 ⟨rfl, hw1⟩
          subst hw1
          go_wp2_with fail
          refine (badByteAt_any _ _).mono ?_
          rintro e w1 ⟨rfl, hb1⟩
          obtain ⟨hc1, hf1⟩ := bcell hb1
          have hz : w.heap.size < w1.heap.size := by have := hb1.size; simp at this; omega
          go_wp2
          refine bodyPost_ret (v := .tuple #[.int .i64 0, .agg #[.int .u8 1, .int .i64 ((i : Int) + 2 + t)]]) ?_ rfl ⟨by simp, below_two hb1 _ _⟩
          go_light
          simp [results, Try.results23, go_sem, hc1]
    · obtain rfl : t = 4 := by omega
      have hv : l = 6 ∧ k = 0 ∧ a = 0 := by
        have := H.out; rw [HR.out] at this; simp [hexRun] at this; omega
      obtain ⟨rfl, rfl, rfl⟩ := hv
      go_wp2
      refine bodyPost_ret (v := .tuple #[.int .i64 6, .agg #[.int .u8 0, .int .i64 0]]) ?_ rfl ⟨rfl, ?_⟩
      · simp [results, Try.results23, go_sem]
      · exact (Below.refl _ _).alloc (Nat.le_refl _) _

theorem escapeLength_any (b off n cap i : Nat) (g : Nat → Int) (w : World) (hn : n ≤ 1048576) (hi : i < n) (hb : b < w.heap.size) (hc : ∀ j, j < n → w.cell? ⟨b, off + j, none⟩ = some (.int .u8 (g j)))
    (l k a : Nat) (H : escLen g n i = (l, k, a)) :
    Calls Try.prog 23 #[.slice (some ⟨b, off, none⟩) n cap, .int .i64 i] w fun e w' => e = .returned (.tuple #[.int .i64 l, .agg #[.int .u8 k, .int .i64 a]]) ∧ Below w.heap.size w w' := by
  unfold escLen at H
  by_cases h1 : i + 1 = n
  · rw [if_pos h1] at H
    cases H
    exact esc_end b off n cap i w hn h1
  · rw [if_neg h1] at H
    cases h2 : singB (g (i + 1)) with
    | true =>
      rw [if_pos h2] at H
      cases H
      exact esc_sing b off n cap i (g (i + 1)) w hn (by omega) hb (hc _ (by omega)) h2
    | false =>
      rw [if_neg (by rw [h2]; simp)] at H
      by_cases h3 : g (i + 1) = 117
      · rw [if_pos h3] at H
        exact esc_u b off n cap i g w hn (by omega) hb hc h3 l k a H
      · rw [if_neg h3] at H
        cases H
        exact esc_bad b off n cap i (g (i + 1)) w hn (by omega) hb (hc _ (by omega)) h2 h3

end Go.Proofs.Qxb6601451a
