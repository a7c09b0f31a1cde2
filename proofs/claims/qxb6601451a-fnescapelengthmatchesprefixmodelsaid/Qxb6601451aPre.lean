/- The contracts of the prefix model's functions. -/
import Derived.Test.Qxb6601451aPlainPre
import Derived.Deep.Light
namespace Go.Proofs.Qxb6601451a
open Go.RowKit

theorem low_fin : ∀ k : Fin 256, decide (97 ≤ bits BinOp.or IntKind.u8 ((k.val : Nat) : Int) 32 ∧ bits BinOp.or IntKind.u8 ((k.val : Nat) : Int) 32 ≤ 102) = decide ((65 ≤ k.val ∧ k.val ≤ 70) ∨ (97 ≤ k.val ∧ k.val ≤ 102)) := by decide +kernel
theorem low_hex (c : Int) (h0 : 0 ≤ c) (h1 : c ≤ 255) : (97 ≤ bits BinOp.or IntKind.u8 c 32 ∧ bits BinOp.or IntKind.u8 c 32 ≤ 102) ↔ ((65 ≤ c ∧ c ≤ 70) ∨ (97 ≤ c ∧ c ≤ 102)) := by
  obtain ⟨k, rfl⟩ := Int.eq_ofNat_of_zero_le h0
  have := low_fin ⟨k, by omega⟩
  simp only [decide_eq_decide] at this
  rw [this]
  omega

set_option maxHeartbeats 400000 in
theorem b1Hex_any (c : Int) (hc0 : 0 ≤ c) (hc1 : c ≤ 255) (w : World) :
    Calls Try.prog 25 #[.int .u8 c] w fun e w' => e = .returned (.bool (hexB c)) ∧ w' = w := by
  obtain ⟨hx, H⟩ : ∃ hx, Hid (hexB c = hx) := ⟨_, rfl⟩
  rw [H.out]
  have HL := show Hid _ from low_hex c hc0 hc1
  by_cases h : 48 ≤ c ∧ c ≤ 57
  · obtain ⟨h1, h2⟩ := h
    go_enter Try.func25, Try.ntmps25
    go_wp2
    go_ret
    refine ⟨ret_bool ?_, rfl⟩
    rw [← H.out, Bool.eq_iff_iff]; simp [hexB]; omega
  · have hd : (decide (48 ≤ c) && decide (c ≤ 57)) = false := by simp; omega
    have Hd := show Hid _ from hd
    clear hd
    rcases (show bits BinOp.or IntKind.u8 c 32 < 97 ∨ (97 ≤ bits BinOp.or IntKind.u8 c 32 ∧ bits BinOp.or IntKind.u8 c 32 ≤ 102) ∨ 102 < bits BinOp.or IntKind.u8 c 32 by omega) with hb | ⟨hb, hb'⟩ | hb
    all_goals
      rcases (show c < 48 ∨ 57 < c by omega) with h1 | h1
      all_goals
        clear h
        go_enter Try.func25, Try.ntmps25
        go_wp2
        go_ret
        refine ⟨ret_bool ?_, rfl⟩
        have h := HL.out
        rw [← H.out, Bool.eq_iff_iff]
        clear H HL Hd
        go_light
        generalize bits BinOp.or IntKind.u8 c 32 = x at *
        simp [hexB]
        omega

set_option maxHeartbeats 400000 in
theorem single_any (c : Int) (w : World) :
    Calls Try.prog 24 #[.int .u8 c] w fun e w' => e = .returned (.bool (singB c)) ∧ w' = w := by
  cases hs : singB c with
  | true =>
    have h8 : c = 34 ∨ c = 92 ∨ c = 47 ∨ c = 98 ∨ c = 102 ∨ c = 110 ∨ c = 114 ∨ c = 116 := by simpa [singB, or_assoc] using hs
    clear hs
    rcases h8 with rfl | rfl | rfl | rfl | rfl | rfl | rfl | rfl
    all_goals
      go_enter Try.func24, Try.ntmps24
      go_wp2
      go_ret
      exact ⟨rfl, rfl⟩
  | false =>
    simp only [singB, Bool.or_eq_false_iff, decide_eq_false_iff_not] at hs
    obtain ⟨⟨⟨⟨⟨⟨⟨h1, h2⟩, h3⟩, h4⟩, h5⟩, h6⟩, h7⟩, h8⟩ := hs
    replace h1 : (c == 34) = false := by simp [h1]
    replace h2 : (c == 92) = false := by simp [h2]
    replace h3 : (c == 47) = false := by simp [h3]
    replace h4 : (c == 98) = false := by simp [h4]
    replace h5 : (c == 102) = false := by simp [h5]
    replace h6 : (c == 110) = false := by simp [h6]
    replace h7 : (c == 114) = false := by simp [h7]
    replace h8 : (c == 116) = false := by simp [h8]
    go_enter Try.func24, Try.ntmps24
    go_wp2
    go_ret
    exact ⟨rfl, rfl⟩

set_option maxHeartbeats 1000000 in
theorem prefix_any (b off n cap m : Nat) (h : Nat → Int) (w : World) (hn : n ≤ 1048576) (hm1 : 1 ≤ m) (hm5 : m ≤ 5) (hmn : m ≤ n) (hc : ∀ j, j < n → w.cell? ⟨b, off + j, none⟩ = some (.int .u8 (h j))) (hby : ∀ j, 0 ≤ h j ∧ h j ≤ 255) :
    Calls Try.prog 15 #[.slice (some ⟨b, off, none⟩) n cap, .int .i64 m] w fun e w' => e = .returned (.bool (preB h m)) ∧ w' = w := by
  have HC := show Hid _ from hc
  have HB := show Hid _ from hby
  have h0 : w.cell? ⟨b, off, none⟩ = some (.int .u8 (h 0)) := by simpa using hc 0 (by omega)
  have hpos : (0 : Int) < (n : Int) := by omega
  have hm0 : ((m : Int) == 0) = false := by rw [beq_eq_false_iff_ne]; omega
  clear hc hby
  cases hs : singB (h 0) with
  | true =>
    have HP : Hid (preB h m = decide (m = 1)) := by unfold preB; exact if_pos hs
    rw [HP.out]
    go_enter Try.func15, Try.ntmps15
    go_wp2_with fail
    refine (single_any _ _).mono ?_
    rintro e w1 ⟨rfl, hw1⟩
    subst hw1
    go_wp2
    go_ret
    refine ⟨ret_bool ?_, rfl⟩
    rw [Bool.eq_iff_iff]; simp; omega
  | false =>
    by_cases hu : h 0 = 117
    · have HP : Hid (preB h m = hexUpto h (m - 1)) := preB_u h m hs hu hm5
      rw [HP.out]
      rw [hu] at h0 hs
      clear hu
      go_enter Try.func15, Try.ntmps15
      go_wp2_with fail
      refine (single_any _ _).mono ?_
      rintro e w1 ⟨rfl, hw1⟩
      subst hw1
      go_wp2_with fail
      go_loop [5] (fun v => ∃ t : Nat, 1 ≤ t ∧ t ≤ m ∧ v = .int .i64 t ∧ Hid (∀ j, 1 ≤ j → j < t → hexB (h j) = true)) (fun v => m - (intOf v).toNat)
      case atStart => exact ⟨1, Nat.le_refl _, hm1, rfl, fun j h1 h2 => by omega⟩
      case round =>
        obtain ⟨t, ht1, htm, rfl, HR⟩ := hrel
        by_cases hlt : t < m
        · have hct := HC.out t (by omega)
          have hbt := HB.out t
          cases hd : hexB (h t) with
          | true =>
            have HN : Hid (∀ j, 1 ≤ j → j < t + 1 → hexB (h j) = true) := fun j h3 h4 => by
              by_cases hj : j = t
              · rw [hj]; exact hd
              · exact HR.out j h3 (by omega)
            clear HR HP
            go_wp2_with fail
            refine (b1Hex_any _ hbt.1 hbt.2 _).mono ?_
            rintro e w1 ⟨rfl, hw1⟩
            subst hw1
            go_wp2
            go_round
            case rel => exact ⟨t + 1, by omega, by omega, by go_num, HN⟩
            case measure => simp [intOf]; omega
          | false =>
            have HE : Hid (hexUpto h (m - 1) = false) := by
              cases hx : hexUpto h (m - 1) with
              | false => rfl
              | true =>
                have := (hexUpto_iff h (m - 1)).1 hx t ht1 (by omega)
                rw [hd] at this; cases this
            clear HR HP
            go_wp2_with fail
            refine (b1Hex_any _ hbt.1 hbt.2 _).mono ?_
            rintro e w1 ⟨rfl, hw1⟩
            subst hw1
            go_wp2
            go_ret
            exact ⟨by rw [HE.out]; rfl, rfl⟩
        · have HE : Hid (hexUpto h (m - 1) = true) := (hexUpto_iff h (m - 1)).2 (fun j h1 h2 => HR.out j h1 (by omega))
          clear HR HP
          go_wp2
          go_ret
          exact ⟨by rw [HE.out]; rfl, rfl⟩
    · have HP : Hid (preB h m = false) := by unfold preB; rw [if_neg (by rw [hs]; simp), if_neg (fun h => hu h.1)]; exact rfl
      rw [HP.out]
      have hu' : (h 0 != 117) = true := by rw [bne_iff_ne]; exact hu
      clear hu
      go_enter Try.func15, Try.ntmps15
      go_wp2_with fail
      refine (single_any _ _).mono ?_
      rintro e w1 ⟨rfl, hw1⟩
      subst hw1
      go_wp2
      go_ret
      exact ⟨rfl, rfl⟩

set_option maxHeartbeats 400000 in
theorem whole_zero (ao : Option Addr) (n cap : Nat) (w : World) :
    Calls Try.prog 16 #[.slice ao n cap, .int .i64 0] w fun e w' => e = .returned (.bool false) ∧ w' = w := by
  go_enter Try.func16, Try.ntmps16
  go_wp2
  go_ret
  exact ⟨rfl, rfl⟩

set_option maxHeartbeats 1000000 in
theorem whole_any (b off n cap m : Nat) (h : Nat → Int) (w : World) (hn : n ≤ 1048576) (hm5 : m ≤ 5) (hmn : m ≤ n) (hc : ∀ j, j < n → w.cell? ⟨b, off + j, none⟩ = some (.int .u8 (h j))) (hby : ∀ j, 0 ≤ h j ∧ h j ≤ 255) :
    Calls Try.prog 16 #[.slice (some ⟨b, off, none⟩) n cap, .int .i64 m] w fun e w' => e = .returned (.bool (wholeB h m)) ∧ w' = w := by
  rcases (show m = 0 ∨ m = 1 ∨ (m = 2 ∨ m = 3 ∨ m = 4) ∨ m = 5 by omega) with rfl | rfl | h3 | rfl
  · exact whole_zero _ n cap w
  · have h0 : w.cell? ⟨b, off, none⟩ = some (.int .u8 (h 0)) := by simpa using hc 0 (by omega)
    have hpos : (0 : Int) < (n : Int) := by omega
    have HP : Hid (wholeB h 1 = singB (h 0)) := rfl
    rw [HP.out]
    clear hc hby HP
    go_enter Try.func16, Try.ntmps16
    go_wp2_with fail
    refine (single_any _ _).mono ?_
    rintro e w1 ⟨rfl, hw1⟩
    subst hw1
    go_wp2
    go_ret
    exact ⟨rfl, rfl⟩
  · have HP : Hid (wholeB h m = false) := by rcases h3 with rfl | rfl | rfl <;> simp [wholeB, Hid]
    rw [HP.out]
    clear hc hby HP
    rcases h3 with rfl | rfl | rfl
    all_goals
      go_enter Try.func16, Try.ntmps16
      go_wp2
      go_ret
      exact ⟨rfl, rfl⟩
  · have h0 : w.cell? ⟨b, off, none⟩ = some (.int .u8 (h 0)) := by simpa using hc 0 (by omega)
    have hpos : (0 : Int) < (n : Int) := by omega
    have HK : Hid (∀ w' : World, w' = w → Calls Try.prog 15 #[.slice (some ⟨b, off, none⟩) n cap, .int .i64 5] w' fun e w' => e = .returned (.bool (preB h 5)) ∧ w' = w) := fun w' hw => by
      rw [hw]; exact prefix_any b off n cap 5 h w hn (by omega) (by omega) hmn hc hby
    clear hc hby
    by_cases hu : h 0 = 117
    · have HP : Hid (wholeB h 5 = preB h 5) := by unfold wholeB; rw [if_neg (by omega), if_pos ⟨rfl, hu⟩]; exact rfl
      rw [HP.out]
      rw [hu] at h0
      clear hu HP
      go_enter Try.func16, Try.ntmps16
      go_wp2_with fail
      refine (HK.out _ rfl).mono ?_
      rintro e w1 ⟨rfl, hw1⟩
      subst hw1
      go_wp2
      go_ret
      exact ⟨rfl, rfl⟩
    · have HP : Hid (wholeB h 5 = false) := by unfold wholeB; rw [if_neg (by omega), if_neg (fun h => hu h.2)]; exact rfl
      rw [HP.out]
      have hu' : (h 0 == 117) = false := by rw [beq_eq_false_iff_ne]; exact hu
      clear hu HP
      go_enter Try.func16, Try.ntmps16
      go_wp2
      go_ret
      exact ⟨rfl, rfl⟩
end Go.Proofs.Qxb6601451a
