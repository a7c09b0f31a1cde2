/- The contract of b1RunNumberAutomaton and the walk of FnSkipNumberMatchesAutomaton. -/
import Derived.Test.Qxb6601451aStep
import Derived.Test.Qxb6601451aLaw4
namespace Go.Proofs.Qxb6601451a
open Go.RowKit

set_option maxRecDepth 100000 in
set_option maxHeartbeats 1000000 in
theorem run_any (b off n cap i s j : Nat) (g : Nat → Int) (w : World) (hn : n ≤ 1048576) (hi : i ≤ n) (hc : ∀ j, j < n → w.cell? ⟨b, off + j, none⟩ = some (.int .u8 (g j))) (H : auto g n 0 i = (s, j)) :
    Calls Try.prog 11 #[.slice (some ⟨b, off, none⟩) n cap, .int .i64 i] w fun e w' => e = .returned (.tuple #[.int .i64 j, .bool (accB s)]) ∧ w' = w := by
  have HC := show Hid _ from hc
  have HA : Hid (auto g n 0 i = (s, j)) := H
  clear hc H
  go_enter Try.func11, Try.ntmps11
  go_wp2
  go_loop [6, 7] (fun q v => ∃ a t : Nat, a ≤ 8 ∧ i ≤ t ∧ t ≤ n ∧ q = .int .i64 a ∧ v = .int .i64 t ∧ Hid (auto g n a t = (s, j))) (fun _ v => n - (intOf v).toNat)
  case atStart => exact ⟨0, i, by omega, Nat.le_refl _, hi, rfl, rfl, HA⟩
  case round =>
    obtain ⟨a, t, ha, h1, h2, rfl, rfl, HR⟩ := hrel
    clear HA
    by_cases hlt : t < n
    · have hct := HC.out t hlt
      by_cases h9 : stepN a (g t) = 9
      · have hv : s = a ∧ j = t := by
          have := HR.out; rw [auto_dead g n a t (fun _ => h9)] at this; simp at this; omega
        obtain ⟨rfl, rfl⟩ := hv
        have HK : Hid (∀ w : World, Calls Try.prog 22 #[.int .i64 s, .int .u8 (g j)] w fun e w' => e = .returned (.int .i64 9) ∧ w' = w) := fun w => by
          have := step_any s ha (g j) w; rwa [h9] at this
        clear h9 HR HC
        rcases (show s = 0 ∨ s = 1 ∨ s = 2 ∨ s = 3 ∨ s = 4 ∨ s = 5 ∨ s = 6 ∨ s = 7 ∨ s = 8 by omega) with rfl | rfl | rfl | rfl | rfl | rfl | rfl | rfl | rfl
        all_goals
          go_wp2_with fail
          refine (HK.out _).mono ?_
          rintro e w1 ⟨rfl, hw1⟩
          subst hw1
          go_wp2
          go_ret2
          exact ⟨rfl, rfl⟩
      · obtain ⟨a', ha'⟩ : ∃ a', stepN a (g t) = a' := ⟨_, rfl⟩
        have h8 : a' ≤ 8 := by have := stepN_le a (g t); omega
        have HN : Hid (auto g n a' (t + 1) = (s, j)) := by
          have := HR.out; rw [auto_step g n a t hlt h9, ha'] at this; exact this
        have HK : Hid (∀ w : World, Calls Try.prog 22 #[.int .i64 a, .int .u8 (g t)] w fun e w' => e = .returned (.int .i64 a') ∧ w' = w) := fun w => by
          have := step_any a ha (g t) w; rwa [ha'] at this
        clear h9 HR HC ha'
        have h9' : ((a' : Int) == 9) = false := by rw [beq_eq_false_iff_ne]; omega
        go_wp2_with fail
        refine (HK.out _).mono ?_
        rintro e w1 ⟨rfl, hw1⟩
        subst hw1
        go_wp2
        go_round
        case rel => exact ⟨a', t + 1, h8, by omega, by omega, rfl, by go_num, HN⟩
        case measure => simp [intOf]; omega
    · have hv : s = a ∧ j = t := by
        have := HR.out; rw [auto_dead g n a t (fun h => absurd h hlt)] at this; simp at this; omega
      obtain ⟨rfl, rfl⟩ := hv
      clear HR HC
      rcases (show s = 0 ∨ s = 1 ∨ s = 2 ∨ s = 3 ∨ s = 4 ∨ s = 5 ∨ s = 6 ∨ s = 7 ∨ s = 8 by omega) with rfl | rfl | rfl | rfl | rfl | rfl | rfl | rfl | rfl
      all_goals
        go_wp2
        go_ret2
        exact ⟨rfl, rfl⟩

set_option maxHeartbeats 400000 in
theorem law3_early (a0 : Option Addr) (n cap : Nat) (i : Int) (h : 1048576 < n ∨ i < 0 ∨ (n : Int) ≤ i) (w : World) :
    Calls Try.prog 3 #[.slice a0 n cap, .int .i64 i] w fun e w' => e = .returned (.bool true) ∧ Below w.heap.size w w' := by
  rcases (show 1048576 < n ∨ (n ≤ 1048576 ∧ i < 0) ∨ (n ≤ 1048576 ∧ 0 ≤ i ∧ (n : Int) ≤ i) by omega) with h | ⟨h, h'⟩ | ⟨h, h', h''⟩
  all_goals
    go_enter Try.func3, Try.ntmps3
    go_wp2
    go_ret
    exact ⟨rfl, Below.refl _ _⟩

set_option maxHeartbeats 400000 in
theorem law3_walk (b off n cap i s j l k a : Nat) (A : Bool) (g : Nat → Int) (w : World) (hn : n ≤ 1048576) (hi : i < n) (hb : b < w.heap.size) (hc : ∀ j, j < n → w.cell? ⟨b, off + j, none⟩ = some (.int .u8 (g j)))
    (e1 : skipNum g n i = (l, k, a)) (e2 : auto g n 0 i = (s, j)) (e3 : accB s = A) (e4 : (A = true ∧ l = j ∧ k = 0 ∧ a = 0) ∨ (A = false ∧ l = 0 ∧ k = 1 ∧ a = j)) :
    Calls Try.prog 3 #[.slice (some ⟨b, off, none⟩) n cap, .int .i64 i] w fun e w' => e = .returned (.bool true) ∧ Below w.heap.size w w' := by
  have K := clone_row b off n cap g w hn hb hc
  have H1 := show Hid _ from e1
  have H2 := show Hid _ from e2
  have H3 := show Hid _ from e3
  clear hc e1 e2 e3
  rcases e4 with ⟨rfl, rfl, rfl, rfl⟩ | ⟨rfl, rfl, rfl, rfl⟩
  all_goals
    go_enter Try.func3, Try.ntmps3
    go_wp2_with (first | (go_at_call 8; go_in))
    refine K.mono ?_
    rintro e w1 ⟨rfl, hs1, hc1, hb1⟩
    clear K
    have hc1' : ∀ j, j < n → w1.cell? ⟨w.heap.size, 0 + j, none⟩ = some (.int .u8 (g j)) := by intro j hj; rw [Nat.zero_add]; exact hc1 j hj
    have HC1 := show Hid _ from hc1'
    clear hc1 hc1'
    go_wp2_with fail
    refine (ZZskipNumber_any w.heap.size 0 n n i g w1 hn hi hs1 HC1.out _ _ _ H1.out).mono ?_
    rintro e w2 ⟨rfl, hb2⟩
    have hs2 := hb2.size
    have HC2 := show Hid _ from cells_on hb2 hs1 HC1.out
    go_wp2_with fail
    refine (run_any w.heap.size 0 n n i s _ g w2 hn (by omega) HC2.out H2.out).mono ?_
    rintro e w3 ⟨rfl, hw3⟩
    subst hw3
    rw [H3.out]
    clear HC1 HC2
    go_wp2
    go_ret
    exact ⟨rfl, hb1.trans (hb2.mono (by omega))⟩

theorem law3_main (b off n cap i : Nat) (g : Nat → Int) (w : World) (hn : n ≤ 1048576) (hi : i < n) (hb : b < w.heap.size) (hc : ∀ j, j < n → w.cell? ⟨b, off + j, none⟩ = some (.int .u8 (g j))) :
    Calls Try.prog 3 #[.slice (some ⟨b, off, none⟩) n cap, .int .i64 i] w fun e w' => e = .returned (.bool true) ∧ Below w.heap.size w w' := by
  obtain ⟨⟨s, j⟩, ha⟩ : ∃ p, auto g n 0 i = p := ⟨_, rfl⟩
  have ag := skipNum_agree g n i hi
  rw [ha] at ag
  rcases ag with ⟨h1, h2⟩ | ⟨h1, h2⟩
  · exact law3_walk b off n cap i s j j 0 0 true g w hn hi hb hc h2 ha h1 (.inl ⟨rfl, rfl, rfl, rfl⟩)
  · exact law3_walk b off n cap i s j 0 1 j false g w hn hi hb hc h2 ha h1 (.inr ⟨rfl, rfl, rfl, rfl⟩)

end Go.Proofs.Qxb6601451a
