/- The contract of b1NumberStep. -/
import Derived.Test.Qxb6601451aPlainAuto
import Derived.Deep.Light
namespace Go.Proofs.Qxb6601451a
open Go.RowKit
set_option linter.unusedSimpArgs false

theorem classes (c : Int) : c = 43 ∨ c = 45 ∨ c = 46 ∨ c = 48 ∨ c = 69 ∨ c = 101 ∨ (49 ≤ c ∧ c ≤ 57) ∨ (c < 43) ∨ (43 < c ∧ c < 45) ∨ (46 < c ∧ c < 48) ∨ (57 < c ∧ c < 69) ∨ (69 < c ∧ c < 101) ∨ 101 < c := by omega
theorem clD (c : Int) (h1 : 49 ≤ c) (h2 : c ≤ 57) : digB c = true ∧ expB c = false ∧ ¬ c = 43 ∧ ¬ c = 45 ∧ ¬ c = 46 ∧ ¬ c = 48 := by
  refine ⟨by simp [digB]; omega, by simp [expB]; omega, by omega, by omega, by omega, by omega⟩
theorem clO (c : Int) (h : c < 43 ∨ (43 < c ∧ c < 45) ∨ (46 < c ∧ c < 48) ∨ (57 < c ∧ c < 69) ∨ (69 < c ∧ c < 101) ∨ 101 < c) : digB c = false ∧ expB c = false ∧ ¬ c = 43 ∧ ¬ c = 45 ∧ ¬ c = 46 ∧ ¬ c = 48 := by
  refine ⟨by simp [digB]; omega, by simp [expB]; omega, by omega, by omega, by omega, by omega⟩

theorem neither (c a b : Int) (h : (c == a) = true ∨ (c == b) = true) (h1 : c ≠ a) (h2 : c ≠ b) : False :=
  h.elim (fun h => h1 (beq_iff_eq.1 h)) (fun h => h2 (beq_iff_eq.1 h))

set_option maxRecDepth 100000 in
set_option maxHeartbeats 2000000 in
theorem step0 (c : Int) (w : World) : Calls Try.prog 22 #[.int .i64 0, .int .u8 c] w fun e w' => e = .returned (.int .i64 (stepN 0 c : Nat)) ∧ w' = w := by
  obtain ⟨x, H⟩ : ∃ x, Hid (stepN 0 c = x) := ⟨_, rfl⟩
  rw [H.out]
  rcases classes c with rfl | rfl | rfl | rfl | rfl | rfl | h | h | h | h | h | h | h
  all_goals
    try obtain ⟨h1, h2⟩ := h
    go_enter Try.func22, Try.ntmps22
    go_wp2
    all_goals
      go_ret
      refine ⟨ret_int ?_, rfl⟩
      rw [← H.out]
      clear H
      go_light
      first
      | rfl
      | (exfalso; apply neither c 101 69; assumption; omega; omega)
      | (exfalso; apply neither c 43 45; assumption; omega; omega)
      | (by_cases hD : 49 ≤ c ∧ c ≤ 57
         · first
           | (exfalso; omega)
           | (obtain ⟨a1, a2, a3, a4, a5, a6⟩ := clD c hD.1 hD.2; simp [stepN, a1, a2, a3, a4, a5, a6])
         · first
           | (exfalso; omega)
           | (obtain ⟨a1, a2, a3, a4, a5, a6⟩ := clO c (by omega); simp [stepN, a1, a2, a3, a4, a5, a6]))

set_option maxRecDepth 100000 in
set_option maxHeartbeats 2000000 in
theorem step1 (c : Int) (w : World) : Calls Try.prog 22 #[.int .i64 1, .int .u8 c] w fun e w' => e = .returned (.int .i64 (stepN 1 c : Nat)) ∧ w' = w := by
  obtain ⟨x, H⟩ : ∃ x, Hid (stepN 1 c = x) := ⟨_, rfl⟩
  rw [H.out]
  rcases classes c with rfl | rfl | rfl | rfl | rfl | rfl | h | h | h | h | h | h | h
  all_goals
    try obtain ⟨h1, h2⟩ := h
    go_enter Try.func22, Try.ntmps22
    go_wp2
    all_goals
      go_ret
      refine ⟨ret_int ?_, rfl⟩
      rw [← H.out]
      clear H
      go_light
      first
      | rfl
      | (exfalso; apply neither c 101 69; assumption; omega; omega)
      | (exfalso; apply neither c 43 45; assumption; omega; omega)
      | (by_cases hD : 49 ≤ c ∧ c ≤ 57
         · first
           | (exfalso; omega)
           | (obtain ⟨a1, a2, a3, a4, a5, a6⟩ := clD c hD.1 hD.2; simp [stepN, a1, a2, a3, a4, a5, a6])
         · first
           | (exfalso; omega)
           | (obtain ⟨a1, a2, a3, a4, a5, a6⟩ := clO c (by omega); simp [stepN, a1, a2, a3, a4, a5, a6]))

set_option maxRecDepth 100000 in
set_option maxHeartbeats 2000000 in
theorem step2 (c : Int) (w : World) : Calls Try.prog 22 #[.int .i64 2, .int .u8 c] w fun e w' => e = .returned (.int .i64 (stepN 2 c : Nat)) ∧ w' = w := by
  obtain ⟨x, H⟩ : ∃ x, Hid (stepN 2 c = x) := ⟨_, rfl⟩
  rw [H.out]
  rcases classes c with rfl | rfl | rfl | rfl | rfl | rfl | h | h | h | h | h | h | h
  all_goals
    try obtain ⟨h1, h2⟩ := h
    go_enter Try.func22, Try.ntmps22
    go_wp2
    all_goals
      go_ret
      refine ⟨ret_int ?_, rfl⟩
      rw [← H.out]
      clear H
      go_light
      first
      | rfl
      | (exfalso; apply neither c 101 69; assumption; omega; omega)
      | (exfalso; apply neither c 43 45; assumption; omega; omega)
      | (by_cases hD : 49 ≤ c ∧ c ≤ 57
         · first
           | (exfalso; omega)
           | (obtain ⟨a1, a2, a3, a4, a5, a6⟩ := clD c hD.1 hD.2; simp [stepN, a1, a2, a3, a4, a5, a6])
         · first
           | (exfalso; omega)
           | (obtain ⟨a1, a2, a3, a4, a5, a6⟩ := clO c (by omega); simp [stepN, a1, a2, a3, a4, a5, a6]))

set_option maxRecDepth 100000 in
set_option maxHeartbeats 2000000 in
theorem step3 (c : Int) (w : World) : Calls Try.prog 22 #[.int .i64 3, .int .u8 c] w fun e w' => e = .returned (.int .i64 (stepN 3 c : Nat)) ∧ w' = w := by
  obtain ⟨x, H⟩ : ∃ x, Hid (stepN 3 c = x) := ⟨_, rfl⟩
  rw [H.out]
  rcases classes c with rfl | rfl | rfl | rfl | rfl | rfl | h | h | h | h | h | h | h
  all_goals
    try obtain ⟨h1, h2⟩ := h
    go_enter Try.func22, Try.ntmps22
    go_wp2
    all_goals
      go_ret
      refine ⟨ret_int ?_, rfl⟩
      rw [← H.out]
      clear H
      go_light
      first
      | rfl
      | (exfalso; apply neither c 101 69; assumption; omega; omega)
      | (exfalso; apply neither c 43 45; assumption; omega; omega)
      | (by_cases hD : 49 ≤ c ∧ c ≤ 57
         · first
           | (exfalso; omega)
           | (obtain ⟨a1, a2, a3, a4, a5, a6⟩ := clD c hD.1 hD.2; simp [stepN, a1, a2, a3, a4, a5, a6])
         · first
           | (exfalso; omega)
           | (obtain ⟨a1, a2, a3, a4, a5, a6⟩ := clO c (by omega); simp [stepN, a1, a2, a3, a4, a5, a6]))

set_option maxRecDepth 100000 in
set_option maxHeartbeats 2000000 in
theorem step4 (c : Int) (w : World) : Calls Try.prog 22 #[.int .i64 4, .int .u8 c] w fun e w' => e = .returned (.int .i64 (stepN 4 c : Nat)) ∧ w' = w := by
  obtain ⟨x, H⟩ : ∃ x, Hid (stepN 4 c = x) := ⟨_, rfl⟩
  rw [H.out]
  rcases classes c with rfl | rfl | rfl | rfl | rfl | rfl | h | h | h | h | h | h | h
  all_goals
    try obtain ⟨h1, h2⟩ := h
    go_enter Try.func22, Try.ntmps22
    go_wp2
    all_goals
      go_ret
      refine ⟨ret_int ?_, rfl⟩
      rw [← H.out]
      clear H
      go_light
      first
      | rfl
      | (exfalso; apply neither c 101 69; assumption; omega; omega)
      | (exfalso; apply neither c 43 45; assumption; omega; omega)
      | (by_cases hD : 49 ≤ c ∧ c ≤ 57
         · first
           | (exfalso; omega)
           | (obtain ⟨a1, a2, a3, a4, a5, a6⟩ := clD c hD.1 hD.2; simp [stepN, a1, a2, a3, a4, a5, a6])
         · first
           | (exfalso; omega)
           | (obtain ⟨a1, a2, a3, a4, a5, a6⟩ := clO c (by omega); simp [stepN, a1, a2, a3, a4, a5, a6]))

set_option maxRecDepth 100000 in
set_option maxHeartbeats 2000000 in
theorem step5 (c : Int) (w : World) : Calls Try.prog 22 #[.int .i64 5, .int .u8 c] w fun e w' => e = .returned (.int .i64 (stepN 5 c : Nat)) ∧ w' = w := by
  obtain ⟨x, H⟩ : ∃ x, Hid (stepN 5 c = x) := ⟨_, rfl⟩
  rw [H.out]
  rcases classes c with rfl | rfl | rfl | rfl | rfl | rfl | h | h | h | h | h | h | h
  all_goals
    try obtain ⟨h1, h2⟩ := h
    go_enter Try.func22, Try.ntmps22
    go_wp2
    all_goals
      go_ret
      refine ⟨ret_int ?_, rfl⟩
      rw [← H.out]
      clear H
      go_light
      first
      | rfl
      | (exfalso; apply neither c 101 69; assumption; omega; omega)
      | (exfalso; apply neither c 43 45; assumption; omega; omega)
      | (by_cases hD : 49 ≤ c ∧ c ≤ 57
         · first
           | (exfalso; omega)
           | (obtain ⟨a1, a2, a3, a4, a5, a6⟩ := clD c hD.1 hD.2; simp [stepN, a1, a2, a3, a4, a5, a6])
         · first
           | (exfalso; omega)
           | (obtain ⟨a1, a2, a3, a4, a5, a6⟩ := clO c (by omega); simp [stepN, a1, a2, a3, a4, a5, a6]))

set_option maxRecDepth 100000 in
set_option maxHeartbeats 2000000 in
theorem step6 (c : Int) (w : World) : Calls Try.prog 22 #[.int .i64 6, .int .u8 c] w fun e w' => e = .returned (.int .i64 (stepN 6 c : Nat)) ∧ w' = w := by
  obtain ⟨x, H⟩ : ∃ x, Hid (stepN 6 c = x) := ⟨_, rfl⟩
  rw [H.out]
  rcases classes c with rfl | rfl | rfl | rfl | rfl | rfl | h | h | h | h | h | h | h
  all_goals
    try obtain ⟨h1, h2⟩ := h
    go_enter Try.func22, Try.ntmps22
    go_wp2
    all_goals
      go_ret
      refine ⟨ret_int ?_, rfl⟩
      rw [← H.out]
      clear H
      go_light
      first
      | rfl
      | (exfalso; apply neither c 101 69; assumption; omega; omega)
      | (exfalso; apply neither c 43 45; assumption; omega; omega)
      | (by_cases hD : 49 ≤ c ∧ c ≤ 57
         · first
           | (exfalso; omega)
           | (obtain ⟨a1, a2, a3, a4, a5, a6⟩ := clD c hD.1 hD.2; simp [stepN, a1, a2, a3, a4, a5, a6])
         · first
           | (exfalso; omega)
           | (obtain ⟨a1, a2, a3, a4, a5, a6⟩ := clO c (by omega); simp [stepN, a1, a2, a3, a4, a5, a6]))

set_option maxRecDepth 100000 in
set_option maxHeartbeats 2000000 in
theorem step7 (c : Int) (w : World) : Calls Try.prog 22 #[.int .i64 7, .int .u8 c] w fun e w' => e = .returned (.int .i64 (stepN 7 c : Nat)) ∧ w' = w := by
  obtain ⟨x, H⟩ : ∃ x, Hid (stepN 7 c = x) := ⟨_, rfl⟩
  rw [H.out]
  rcases classes c with rfl | rfl | rfl | rfl | rfl | rfl | h | h | h | h | h | h | h
  all_goals
    try obtain ⟨h1, h2⟩ := h
    go_enter Try.func22, Try.ntmps22
    go_wp2
    all_goals
      go_ret
      refine ⟨ret_int ?_, rfl⟩
      rw [← H.out]
      clear H
      go_light
      first
      | rfl
      | (exfalso; apply neither c 101 69; assumption; omega; omega)
      | (exfalso; apply neither c 43 45; assumption; omega; omega)
      | (by_cases hD : 49 ≤ c ∧ c ≤ 57
         · first
           | (exfalso; omega)
           | (obtain ⟨a1, a2, a3, a4, a5, a6⟩ := clD c hD.1 hD.2; simp [stepN, a1, a2, a3, a4, a5, a6])
         · first
           | (exfalso; omega)
           | (obtain ⟨a1, a2, a3, a4, a5, a6⟩ := clO c (by omega); simp [stepN, a1, a2, a3, a4, a5, a6]))

set_option maxRecDepth 100000 in
set_option maxHeartbeats 2000000 in
theorem step8 (c : Int) (w : World) : Calls Try.prog 22 #[.int .i64 8, .int .u8 c] w fun e w' => e = .returned (.int .i64 (stepN 8 c : Nat)) ∧ w' = w := by
  obtain ⟨x, H⟩ : ∃ x, Hid (stepN 8 c = x) := ⟨_, rfl⟩
  rw [H.out]
  rcases classes c with rfl | rfl | rfl | rfl | rfl | rfl | h | h | h | h | h | h | h
  all_goals
    try obtain ⟨h1, h2⟩ := h
    go_enter Try.func22, Try.ntmps22
    go_wp2
    all_goals
      go_ret
      refine ⟨ret_int ?_, rfl⟩
      rw [← H.out]
      clear H
      go_light
      first
      | rfl
      | (exfalso; apply neither c 101 69; assumption; omega; omega)
      | (exfalso; apply neither c 43 45; assumption; omega; omega)
      | (by_cases hD : 49 ≤ c ∧ c ≤ 57
         · first
           | (exfalso; omega)
           | (obtain ⟨a1, a2, a3, a4, a5, a6⟩ := clD c hD.1 hD.2; simp [stepN, a1, a2, a3, a4, a5, a6])
         · first
           | (exfalso; omega)
           | (obtain ⟨a1, a2, a3, a4, a5, a6⟩ := clO c (by omega); simp [stepN, a1, a2, a3, a4, a5, a6]))

theorem step_any (s : Nat) (hs : s ≤ 8) (c : Int) (w : World) : Calls Try.prog 22 #[.int .i64 s, .int .u8 c] w fun e w' => e = .returned (.int .i64 (stepN s c : Nat)) ∧ w' = w := by
  match s, hs with
  | 0, _ => exact step0 c w
  | 1, _ => exact step1 c w
  | 2, _ => exact step2 c w
  | 3, _ => exact step3 c w
  | 4, _ => exact step4 c w
  | 5, _ => exact step5 c w
  | 6, _ => exact step6 c w
  | 7, _ => exact step7 c w
  | 8, _ => exact step8 c w
end Go.Proofs.Qxb6601451a
