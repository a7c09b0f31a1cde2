/- The contracts of skipDigits and skipNumber. -/
import Derived.Test.Qxb6601451aPlainNum
import Derived.Deep.Light
import Derived.Deep.CutRange
import Derived.Deep.CutBlock
import Derived.Deep.DeepCutAuto
namespace Go.Proofs.Qxb6601451a
open Go.RowKit

set_option maxHeartbeats 400000 in
theorem skipDigits_any (b off n cap i : Nat) (g : Nat → Int) (w : World) (hn : n ≤ 1048576) (hi : i ≤ n) (hc : ∀ j, j < n → w.cell? ⟨b, off + j, none⟩ = some (.int .u8 (g j))) :
    Calls Try.prog 27 #[.slice (some ⟨b, off, none⟩) n cap, .int .i64 i] w fun e w' => e = .returned (.int .i64 (sd g n i : Nat)) ∧ w' = w := by
  have HC := show Hid _ from hc
  clear hc
  go_enter Try.func27, Try.ntmps27
  go_wp2
  go_loop [1] (fun v => ∃ t : Nat, i ≤ t ∧ t ≤ n ∧ v = .int .i64 t ∧ Hid (∀ j, i ≤ j → j < t → digB (g j) = true)) (fun v => n - (intOf v).toNat)
  case atStart => exact ⟨i, Nat.le_refl _, hi, rfl, fun j h1 h2 => by omega⟩
  case round =>
    obtain ⟨t, h1, h2, rfl, HR⟩ := hrel
    by_cases hlt : t < n
    · have hct := HC.out t hlt
      cases hd : digB (g t) with
      | true =>
        have HN : Hid (∀ j, i ≤ j → j < t + 1 → digB (g j) = true) := fun j h3 h4 => by
          by_cases hj : j = t
          · rw [hj]; exact hd
          · exact HR.out j h3 (by omega)
        clear HR
        go_wp2_with fail
        refine (isDigit_any _ _).mono ?_
        rintro e w1 ⟨rfl, hw1⟩
        subst hw1
        go_wp2
        go_round
        case rel => exact ⟨t + 1, by omega, by omega, by go_num, HN⟩
        case measure => simp [intOf]; omega
      | false =>
        have HE : Hid (sd g n i = t) := sd_unique g n i t h1 h2 HR.out (fun _ => hd)
        clear HR
        go_wp2_with fail
        refine (isDigit_any _ _).mono ?_
        rintro e w1 ⟨rfl, hw1⟩
        subst hw1
        go_wp2
        go_ret
        exact ⟨by rw [HE.out]; rfl, rfl⟩
    · have HE : Hid (sd g n i = t) := sd_unique g n i t h1 h2 HR.out (fun h => absurd h hlt)
      clear HR
      go_wp2
      go_ret
      exact ⟨by rw [HE.out]; rfl, rfl⟩

set_option maxRecDepth 100000 in
set_option maxHeartbeats 1000000 in
theorem skipNumber_any (b off n cap i : Nat) (g : Nat → Int) (w : World) (hn : n ≤ 1048576) (hi : i < n) (hb : b < w.heap.size) (hc : ∀ j, j < n → w.cell? ⟨b, off + j, none⟩ = some (.int .u8 (g j)))
    (l k a : Nat) (H : skipNum g n i = (l, k, a)) :
    Calls Try.prog 21 #[.slice (some ⟨b, off, none⟩) n cap, .int .i64 i] w fun e w' => e = .returned (.tuple #[.int .i64 l, .agg #[.int .u8 k, .int .i64 a]]) ∧ Below w.heap.size w w' := by
  have H0 : Hid (skipNum g n i = (l, k, a)) := H
  have HC := show Hid _ from hc
  have hci := hc i hi
  clear hc H
  go_enter Try.func21, Try.ntmps21
  go_upto_if 10 with fail
  go_cut [1] (fun s1 wx => s1 = .int .i64 (mind g i : Nat) ∧ wx = w.alloc (.cells #[.int .u8 0, .int .i64 0] 37))
  case first =>
    by_cases h45 : g i = 45
    · have hm : Hid (mind g i = i + 1) := by unfold mind; exact if_pos h45
      have h45' : (g i == 45) = true := by simp [h45]
      clear h45
      go_wp2
      go_meet
      case rel => exact ⟨by rw [hm.out]; go_num, rfl⟩
    · have hm : Hid (mind g i = i) := by unfold mind; exact if_neg h45
      have h45' : (g i == 45) = false := by simp [h45]
      clear h45
      go_wp2
      go_meet
      case rel => exact ⟨by rw [hm.out], rfl⟩
  case rest =>
    obtain ⟨rfl, rfl⟩ := hcut
    have hm1 : mind g i ≤ n := by unfold mind; split <;> omega
    have H1 : Hid (intp g n (mind g i) = (l, k, a)) := H0.out
    clear H0
    generalize mind g i = i1 at *
    clear hci
    go_upto_block 0 with fail
    go_cut [1] (fun s1 wx => (∃ j : Nat, j ≤ n ∧ s1 = .int .i64 j ∧ Hid (frac g n j = (l, k, a))) ∧ wx = w.alloc (.cells #[.int .u8 0, .int .i64 0] 37))
    case first =>
      by_cases hlt : i1 < n
      · have hc1 := HC.out i1 hlt
        by_cases h48 : g i1 = 48
        · have HN : Hid (frac g n (i1 + 1) = (l, k, a)) := by
            have := H1.out; unfold intp at this; rwa [if_pos ⟨hlt, h48⟩] at this
          have h48' : (g i1 == 48) = true := by simp [h48]
          clear h48 H1
          go_wp2
          go_meet
          case rel => exact ⟨⟨i1 + 1, by omega, by go_num, HN⟩, rfl⟩
        · have h48' : (g i1 == 48) = false := by simp [h48]
          by_cases hd : 49 ≤ g i1 ∧ g i1 ≤ 57
          · have HN : Hid (frac g n (sd g n i1) = (l, k, a)) := by
              have := H1.out; unfold intp at this; rwa [if_neg (fun h => h48 h.2), if_pos ⟨hlt, hd⟩] at this
            have hs := (sd_spec g n i1 (by omega)).2.1
            obtain ⟨hd1, hd2⟩ := hd
            clear h48 H1
            go_wp2_with fail
            refine (skipDigits_any b off n cap i1 g _ hn (by omega) (old_cells hb HC.out)).mono ?_
            rintro e w1 ⟨rfl, hw1⟩
            subst hw1
            go_wp2
            go_meet
            case rel => exact ⟨⟨sd g n i1, hs, rfl, HN⟩, rfl⟩
          · have hv : l = 0 ∧ k = 1 ∧ a = i1 := by
              have := H1.out; unfold intp at this; rw [if_neg (fun h => h48 h.2), if_neg (fun h => hd h.2)] at this; simp at this; omega
            obtain ⟨rfl, rfl, rfl⟩ := hv
            clear h48 H1
            by_cases h49 : 49 ≤ g a
            all_goals
              go_wp2_with fail
              refine (badByteAt_any _ _).mono ?_
              rintro e w1 ⟨rfl, hb1⟩
              obtain ⟨hc1, hf1⟩ := bcell hb1
              have hz : w.heap.size < w1.heap.size := by have := hb1.size; simp at this; omega
              go_wp2
              refine bodyPost_ret (v := .tuple #[.int .i64 0, .agg #[.int .u8 1, .int .i64 a]]) ?_ rfl ⟨rfl, below_two hb1 _ _⟩
              go_light
              simp [results, Try.results21, go_sem, hc1]
      · have hv : l = 0 ∧ k = 1 ∧ a = i1 := by
          have := H1.out; unfold intp at this; rw [if_neg (fun h => hlt h.1), if_neg (fun h => hlt h.1)] at this; simp at this; omega
        obtain ⟨rfl, rfl, rfl⟩ := hv
        clear H1
        go_wp2_with fail
        refine (badByteAt_any _ _).mono ?_
        rintro e w1 ⟨rfl, hb1⟩
        obtain ⟨hc1, hf1⟩ := bcell hb1
        have hz : w.heap.size < w1.heap.size := by have := hb1.size; simp at this; omega
        go_wp2
        refine bodyPost_ret (v := .tuple #[.int .i64 0, .agg #[.int .u8 1, .int .i64 a]]) ?_ rfl ⟨rfl, below_two hb1 _ _⟩
        go_light
        simp [results, Try.results21, go_sem, hc1]
    case rest =>
      obtain ⟨⟨j0, hj0, rfl, H2⟩, rfl⟩ := hcut
      clear H1 hm1
      go_upto_region 8 with fail
      go_cut [61] (fun s61 wx => (∃ d : Bool, s61 = .bool d ∧ Hid (d = true ↔ (j0 < n ∧ g j0 = 46))) ∧ wx = w.alloc (.cells #[.int .u8 0, .int .i64 0] 37))
      case first =>
        by_cases hlt : j0 < n
        · have hc1 := HC.out j0 hlt
          go_wp2
          go_meet
          case rel => exact ⟨⟨g j0 == 46, rfl, by simp [Hid, hlt]⟩, rfl⟩
        · go_wp2
          go_meet
          case rel => exact ⟨⟨false, rfl, by simp [Hid, hlt]⟩, rfl⟩
      case rest =>
        obtain ⟨⟨d, rfl, HD⟩, rfl⟩ := hcut
        go_upto_if 61 with fail
        go_cut [1] (fun s1 wx => (∃ j : Nat, j ≤ n ∧ s1 = .int .i64 j ∧ Hid (expo g n j = (l, k, a))) ∧ wx = w.alloc (.cells #[.int .u8 0, .int .i64 0] 37))
        case first =>
          cases d with
          | false =>
            have HN : Hid (expo g n j0 = (l, k, a)) := by
              have := H2.out; unfold frac at this; rwa [if_neg (fun h => by simpa using HD.out.2 h)] at this
            go_wp2
            go_meet
            case rel => exact ⟨⟨j0, hj0, rfl, HN⟩, rfl⟩
          | true =>
            obtain ⟨hlt, h46⟩ := HD.out.1 rfl
            have H3 : Hid ((if j0 + 1 = n ∨ digB (g (j0 + 1)) = false then (0, 1, j0 + 1) else expo g n (sd g n (j0 + 1))) = (l, k, a)) := by
              have := H2.out; unfold frac at this; rwa [if_pos ⟨hlt, h46⟩] at this
            clear h46 HD H2
            by_cases hend : j0 + 1 = n
            · have hv : l = 0 ∧ k = 1 ∧ a = j0 + 1 := by
                have := H3.out; rw [if_pos (.inl hend)] at this; simp at this; omega
              obtain ⟨rfl, rfl, rfl⟩ := hv
              have hend' : n ≤ j0 + 1 := by omega
              clear H3 hend
              go_wp2_with fail
              refine (badByteAt_any _ _).mono ?_
              rintro e w1 ⟨rfl, hb1⟩
              obtain ⟨hc1, hf1⟩ := bcell hb1
              have hz : w.heap.size < w1.heap.size := by have := hb1.size; simp at this; omega
              go_wp2
              refine bodyPost_ret (v := .tuple #[.int .i64 0, .agg #[.int .u8 1, .int .i64 n]]) ?_ rfl ⟨by simp; omega, below_two hb1 _ _⟩
              go_light
              simp [results, Try.results21, go_sem, hc1]
            · have hc1 := HC.out (j0 + 1) (by omega)
              have hlt1 : j0 + 1 < n := by omega
              cases hd : digB (g (j0 + 1)) with
              | true =>
                have HN : Hid (expo g n (sd g n (j0 + 1)) = (l, k, a)) := by
                  have := H3.out; rwa [if_neg (by rw [hd]; simp [hend])] at this
                have hs := (sd_spec g n (j0 + 1) (by omega)).2.1
                clear hend H3
                go_wp2_with fail
                refine (isDigit_any _ _).mono ?_
                rintro e w1 ⟨rfl, hw1⟩
                subst hw1
                go_wp2_with fail
                refine (skipDigits_any b off n cap (j0 + 1) g _ hn (by omega) (old_cells hb HC.out)).mono ?_
                rintro e w1 ⟨rfl, hw1⟩
                subst hw1
                go_wp2
                go_meet
                case rel => exact ⟨⟨sd g n (j0 + 1), hs, rfl, HN⟩, rfl⟩
              | false =>
                have hv : l = 0 ∧ k = 1 ∧ a = j0 + 1 := by
                  have := H3.out; rw [if_pos (.inr hd)] at this; simp at this; omega
                obtain ⟨rfl, rfl, rfl⟩ := hv
                clear hend H3
                go_wp2_with fail
                refine (isDigit_any _ _).mono ?_
                rintro e w1 ⟨rfl, hw1⟩
                subst hw1
                go_wp2_with fail
                refine (badByteAt_any _ _).mono ?_
                rintro e w1 ⟨rfl, hb1⟩
                obtain ⟨hc1, hf1⟩ := bcell hb1
                have hz : w.heap.size < w1.heap.size := by have := hb1.size; simp at this; omega
                go_wp2
                refine bodyPost_ret (v := .tuple #[.int .i64 0, .agg #[.int .u8 1, .int .i64 ((j0 : Int) + 1)]]) ?_ rfl ⟨by simp, below_two hb1 _ _⟩
                go_light
                simp [results, Try.results21, go_sem, hc1]
        case rest =>
          obtain ⟨⟨j1, hj1, rfl, H3⟩, rfl⟩ := hcut
          clear H2 hj0 HD
          go_upto_region 13 with fail
          go_cut [98] (fun s98 wx => (∃ d : Bool, s98 = .bool d ∧ Hid (d = true ↔ (j1 < n ∧ (g j1 = 101 ∨ g j1 = 69)))) ∧ wx = w.alloc (.cells #[.int .u8 0, .int .i64 0] 37))
          case first =>
            by_cases hlt : j1 < n
            · have hc1 := HC.out j1 hlt
              cases he : (g j1 == 101) with
              | true =>
                go_wp2
                go_meet
                case rel => exact ⟨⟨true, rfl, by simp at he; simp [Hid, hlt, he]⟩, rfl⟩
              | false =>
                go_wp2
                go_meet
                case rel => exact ⟨⟨g j1 == 69, rfl, by simp at he; simp [Hid, hlt, he]⟩, rfl⟩
            · go_wp2
              go_meet
              case rel => exact ⟨⟨false, rfl, by simp [Hid, hlt]⟩, rfl⟩
          case rest =>
            obtain ⟨⟨d2, rfl, HD⟩, rfl⟩ := hcut
            cases d2 with
            | false =>
              have hv : l = j1 ∧ k = 0 ∧ a = 0 := by
                have := H3.out; unfold expo at this; rw [if_neg (fun h => by simpa using HD.out.2 h)] at this; simp at this; omega
              obtain ⟨rfl, rfl, rfl⟩ := hv
              clear H3 HD
              go_wp2
              refine bodyPost_ret (v := .tuple #[.int .i64 l, .agg #[.int .u8 0, .int .i64 0]]) ?_ rfl ⟨rfl, ?_⟩
              · go_light
                simp [results, Try.results21, go_sem]
              · exact (Below.refl _ _).alloc (Nat.le_refl _) _
            | true =>
              have hj : j1 < n := (HD.out.1 rfl).1
              have H4 : Hid ((if signAt g n (j1 + 1) = n ∨ digB (g (signAt g n (j1 + 1))) = false then (0, 1, signAt g n (j1 + 1)) else (sd g n (signAt g n (j1 + 1)), 0, 0)) = (l, k, a)) := by
                have := H3.out; unfold expo at this; rwa [if_pos (HD.out.1 rfl)] at this
              clear H3 HD
              go_upto_region 15 with fail
              go_cut [118] (fun s118 wx => (∃ d : Bool, s118 = .bool d ∧ Hid (d = true ↔ (j1 + 1 < n ∧ (g (j1 + 1) = 43 ∨ g (j1 + 1) = 45)))) ∧ wx = w.alloc (.cells #[.int .u8 0, .int .i64 0] 37))
              case first =>
                by_cases hlt : j1 + 1 < n
                · have hc1 := HC.out (j1 + 1) hlt
                  cases he : (g (j1 + 1) == 43) with
                  | true =>
                    go_wp2
                    go_meet
                    case rel => exact ⟨⟨true, rfl, by simp at he; simp [Hid, hlt, he]⟩, rfl⟩
                  | false =>
                    go_wp2
                    go_meet
                    case rel => exact ⟨⟨g (j1 + 1) == 45, rfl, by simp at he; simp [Hid, hlt, he]⟩, rfl⟩
                · go_wp2
                  go_meet
                  case rel => exact ⟨⟨false, rfl, by simp [Hid, hlt]⟩, rfl⟩
              case rest =>
                obtain ⟨⟨d3, rfl, HD⟩, rfl⟩ := hcut
                go_upto_if 118 with fail
                go_cut [1] (fun s1 wx => s1 = .int .i64 (signAt g n (j1 + 1) : Nat) ∧ wx = w.alloc (.cells #[.int .u8 0, .int .i64 0] 37))
                case first =>
                  cases d3 with
                  | true =>
                    have hm : Hid (signAt g n (j1 + 1) = j1 + 1 + 1) := by unfold signAt; exact if_pos (HD.out.1 rfl)
                    clear HD H4
                    go_wp2
                    go_meet
                    case rel => exact ⟨by rw [hm.out]; go_num, rfl⟩
                  | false =>
                    have hm : Hid (signAt g n (j1 + 1) = j1 + 1) := by unfold signAt; exact if_neg (fun h => by simpa using HD.out.2 h)
                    clear HD H4
                    go_wp2
                    go_meet
                    case rel => exact ⟨by rw [hm.out]; go_num, rfl⟩
                case rest =>
                  obtain ⟨rfl, rfl⟩ := hcut
                  clear HD
                  have hm1 : signAt g n (j1 + 1) ≤ n := (signAt_le g n (j1 + 1) (by omega)).2.1
                  generalize signAt g n (j1 + 1) = m at *
                  by_cases hend : m = n
                  · have hv : l = 0 ∧ k = 1 ∧ a = m := by
                      have := H4.out; rw [if_pos (.inl hend)] at this; simp at this; omega
                    obtain ⟨rfl, rfl, rfl⟩ := hv
                    have hend' : n ≤ a := by omega
                    clear H4 hend
                    go_wp2_with fail
                    refine (badByteAt_any _ _).mono ?_
                    rintro e w1 ⟨rfl, hb1⟩
                    obtain ⟨hc1, hf1⟩ := bcell hb1
                    have hz : w.heap.size < w1.heap.size := by have := hb1.size; simp at this; omega
                    go_wp2
                    refine bodyPost_ret (v := .tuple #[.int .i64 0, .agg #[.int .u8 1, .int .i64 n]]) ?_ rfl ⟨by simp; omega, below_two hb1 _ _⟩
                    go_light
                    simp [results, Try.results21, go_sem, hc1]
                  · have hc1 := HC.out m (by omega)
                    have hlt1 : m < n := by omega
                    cases hd : digB (g m) with
                    | true =>
                      have hv : l = sd g n m ∧ k = 0 ∧ a = 0 := by
                        have := H4.out; rw [if_neg (by rw [hd]; simp [hend])] at this; simp at this; omega
                      obtain ⟨rfl, rfl, rfl⟩ := hv
                      clear hend H4
                      go_wp2_with fail
                      refine (isDigit_any _ _).mono ?_
                      rintro e w1 ⟨rfl, hw1⟩
                      subst hw1
                      go_wp2_with fail
                      refine (skipDigits_any b off n cap m g _ hn (by omega) (old_cells hb HC.out)).mono ?_
                      rintro e w1 ⟨rfl, hw1⟩
                      subst hw1
                      go_wp2
                      refine bodyPost_ret (v := .tuple #[.int .i64 (sd g n m : Nat), .agg #[.int .u8 0, .int .i64 0]]) ?_ rfl ⟨rfl, ?_⟩
                      · go_light
                        simp [results, Try.results21, go_sem]
                      · exact (Below.refl _ _).alloc (Nat.le_refl _) _
                    | false =>
                      have hv : l = 0 ∧ k = 1 ∧ a = m := by
                        have := H4.out; rw [if_pos (.inr hd)] at this; simp at this; omega
                      obtain ⟨rfl, rfl, rfl⟩ := hv
                      clear hend H4
                      go_wp2_with fail
                      refine (isDigit_any _ _).mono ?_
                      rintro e w1 ⟨rfl, hw1⟩
                      subst hw1
                      go_wp2_with fail
                      refine (badByteAt_any _ _).mono ?_
                      rintro e w1 ⟨rfl, hb1⟩
                      obtain ⟨hc1, hf1⟩ := bcell hb1
                      have hz : w.heap.size < w1.heap.size := by have := hb1.size; simp at this; omega
                      go_wp2
                      refine bodyPost_ret (v := .tuple #[.int .i64 0, .agg #[.int .u8 1, .int .i64 a]]) ?_ rfl ⟨by simp, below_two hb1 _ _⟩
                      go_light
                      simp [results, Try.results21, go_sem, hc1]
end Go.Proofs.Qxb6601451a
