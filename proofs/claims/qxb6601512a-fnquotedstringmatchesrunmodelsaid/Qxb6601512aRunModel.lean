/- The contract of quotedRunModel. -/
import Derived.Test.Qxb6601512aPlainRun
import Derived.Test.Qxb6601512aQuoteAll
import Derived.Deep.Light
import Derived.Deep.CutBlock
namespace Go.Proofs.Qxb6601512a
open Go.RowKit

theorem eq34 {c : UInt8} (h : c ≠ 34) : ((c.toNat : Int) == 34) = false := by
  rw [beq_eq_false_iff_ne]; intro e; exact h (UInt8.toNat_inj.1 (show c.toNat = 34 by omega))
theorem eq92 {c : UInt8} (h : c ≠ 92) : ((c.toNat : Int) == 92) = false := by
  rw [beq_eq_false_iff_ne]; intro e; exact h (UInt8.toNat_inj.1 (show c.toNat = 92 by omega))

/-- Where the region ends and how far the string spans: by the closing quote's place behind s[0]. -/
def endOf (n : Nat) : Option Nat → Nat × Nat
  | some k => (k + 1, k + 2)
  | none => (n, n)

theorem step_odd {L r : List UInt8} {i m : Nat} {acc : List UInt8} {x : UInt8} (h : Reads L i acc) (ho : m % 2 = 1) (hd : L.drop i = List.replicate m 92 ++ L.drop (i + m)) (hx : L.drop (i + m) = x :: r) (hr : L.drop (i + m + 1) = r) :
    Reads L (i + m + 1) (acc ++ List.replicate (m / 2) 92 ++ [x]) := by
  have e : 2 * (m / 2) + 1 = m := by omega
  have := @reads_odd L r i (m / 2) acc x h (by rw [e]; exact hd) (by rw [e]; exact hx) (by rw [e]; exact hr)
  rwa [e] at this
theorem step_odd_end {L : List UInt8} {i m : Nat} {acc : List UInt8} (h : Reads L i acc) (ho : m % 2 = 1) (hd : L.drop i = List.replicate m 92 ++ L.drop (i + m)) (hx : L.drop (i + m) = []) :
    Reads L (i + m) (acc ++ List.replicate (m / 2) 92) := by
  have e : 2 * (m / 2) + 1 = m := by omega
  have := @reads_odd_end L i (m / 2) acc h (by rw [e]; exact hd) (by rw [e]; exact hx)
  rwa [e] at this
theorem step_even {L : List UInt8} {i m : Nat} {acc : List UInt8} (h : Reads L i acc) (ho : m % 2 = 0) (hd : L.drop i = List.replicate m 92 ++ L.drop (i + m)) :
    Reads L (i + m) (acc ++ List.replicate (m / 2) 92) := by
  have e : 2 * (m / 2) = m := by omega
  have := @reads_even L i (m / 2) acc h (by rw [e]; exact hd)
  rwa [e] at this
theorem buf_more {B cap j : Nat} {acc : List UInt8} {w : World} (h : Buf B cap (acc ++ (List.replicate j 92 ++ [92])) w) : Buf B cap (acc ++ List.replicate (j + 1) 92) w := by
  rw [List.replicate_succ']; exact h

set_option maxHeartbeats 400000 in
theorem runModel_short (s : ByteArray) (h : s.size ≤ 1) (w : World) :
    Calls Try.prog 11 #[.string s] w fun e w' => e = .returned (.tuple #[.string ⟨#[]⟩, .int .i64 s.size]) ∧ w' = w := by
  go_enter Try.func11, Try.ntmps11
  go_wp2
  go_ret2
  exact ⟨rfl, rfl⟩

set_option maxRecDepth 100000 in
set_option maxHeartbeats 2000000 in
theorem runModel_any (s : ByteArray) (hn : s.size ≤ 1048576) (h2 : 2 ≤ s.size) (E N : Nat) (text : List UInt8) (w : World)
    (HE : Hid (endOf s.size (shutAt false (s.data.toList.drop 1)) = (E, N))) (hE1 : 1 ≤ E) (hEn : E ≤ s.size)
    (HR : Hid (shutAt false (s.extract 1 E).data.toList = none)) (HT : Hid ((rd (s.extract 1 E).data.toList).1 = text)) :
    Calls Try.prog 11 #[.string s] w fun e w' => e = .returned (.tuple #[.string ⟨text.toArray⟩, .int .i64 N]) ∧ Below w.heap.size w w' := by
  obtain ⟨i0, hi, hz0, hz1, hz2⟩ := info_parts info5
  go_enter Try.func11, Try.ntmps11
  go_upto_block 0 with fail
  go_cut [4, 5] (fun s4 s5 wx => s4 = .int .i64 E ∧ s5 = .int .i64 N ∧ wx = w)
  case first =>
    go_wp2_with fail
    go_loop [4, 5, 6, 7] (fun s4 s5 rn v => ∃ t r : Nat, 1 ≤ t ∧ t ≤ s.size ∧ r ≤ t ∧ s4 = .int .i64 s.size ∧ s5 = .int .i64 s.size ∧ rn = .int .i64 r ∧ v = .int .i64 t ∧ Hid (shutAt false (s.data.toList.drop 1) = (shutAt (decide (r % 2 = 1)) (s.data.toList.drop t)).map (· + (t - 1)))) (fun _ _ _ v => s.size - (intOf v).toNat)
    case atStart => exact ⟨1, 0, Nat.le_refl _, by omega, by omega, rfl, rfl, rfl, rfl, by show _ = Option.map (fun x => x + 0) _; simp⟩
    case round =>
      obtain ⟨t, r, ht1, ht, hrt, rfl, rfl, rfl, rfl, HS⟩ := hrel
      clear HR HT hi hz0 hz1 hz2
      by_cases hlt : t < s.size
      · have hd := drop_at s t hlt
        by_cases hb : s[t] = 92
        · have hb' : ((s[t].toNat : Int) == 92) = true := by rw [hb]; rfl
          have HN : Hid (shutAt false (s.data.toList.drop 1) = (shutAt (decide ((r + 1) % 2 = 1)) (s.data.toList.drop (t + 1))).map (· + (t + 1 - 1))) := by
            refine HS.out.trans ?_
            rw [hd, shutAt, if_pos hb, Option.map_map]
            have : (!decide (r % 2 = 1)) = decide ((r + 1) % 2 = 1) := by
              rcases (show r % 2 = 0 ∨ r % 2 = 1 by omega) with h | h
              · rw [h, show (r + 1) % 2 = 1 by omega]; rfl
              · rw [h, show (r + 1) % 2 = 0 by omega]; rfl
            rw [this]
            congr 1
            funext x
            simp only [Function.comp]
            omega
          clear HS hd hb
          go_wp2
          go_round
          case rel => exact ⟨t + 1, r + 1, by omega, by omega, by omega, rfl, rfl, by go_num, by go_num, HN⟩
          case measure => simp [intOf]; omega
        · have hb' := eq92 hb
          by_cases hq : s[t] = 34 ∧ r % 2 = 0
          · have hv : E = t ∧ N = t + 1 := by
              have h1 := HS.out
              rw [hd, shutAt, if_neg hb, if_pos ⟨hq.1, by simp [hq.2]⟩] at h1
              have h3 := HE.out
              rw [h1] at h3
              simp [endOf] at h3
              omega
            obtain ⟨rfl, rfl⟩ := hv
            have hq1 : ((s[E].toNat : Int) == 34) = true := by rw [hq.1]; rfl
            have hq2 : ((r : Int) % 2 == 0) = true := by rw [beq_iff_eq]; omega
            clear HS hd hb hq HE
            go_wp2
            go_meet
            case rel => exact ⟨rfl, by go_num, rfl⟩
          · have HN : Hid (shutAt false (s.data.toList.drop 1) = (shutAt (decide (0 % 2 = 1)) (s.data.toList.drop (t + 1))).map (· + (t + 1 - 1))) := by
              refine HS.out.trans ?_
              rw [hd, shutAt, if_neg hb, if_neg (fun h => hq ⟨h.1, by have := h.2; simp at this; omega⟩), Option.map_map]
              show _ = Option.map (fun x => x + (t + 1 - 1)) (shutAt false (s.data.toList.drop (t + 1)))
              congr 1
              funext x
              simp only [Function.comp]
              omega
            have hq' : ((s[t].toNat : Int) == 34) = false ∨ ((s[t].toNat : Int) == 34) = true ∧ ((r : Int) % 2 == 0) = false := by
              by_cases h34 : s[t] = 34
              · right
                exact ⟨by rw [h34]; rfl, by rw [beq_eq_false_iff_ne]; intro h; exact hq ⟨h34, by omega⟩⟩
              · left; exact eq34 h34
            clear HS hd hb hq
            rcases hq' with hq1 | ⟨hq1, hq2⟩
            all_goals
              go_wp2
              go_round
              case rel => exact ⟨t + 1, 0, by omega, by omega, by omega, rfl, rfl, rfl, by go_num, HN⟩
              case measure => simp [intOf]; omega
      · have hv : E = s.size ∧ N = s.size := by
          have h1 := HS.out
          rw [List.drop_eq_nil_of_le (show s.data.toList.length ≤ t by simp; omega)] at h1
          have h3 := HE.out
          rw [h1] at h3
          simp [shutAt, endOf] at h3
          omega
        obtain ⟨rfl, rfl⟩ := hv
        clear HS HE
        go_wp2
        go_meet
        case rel => exact ⟨rfl, rfl, rfl⟩
  case rest =>
    obtain ⟨rfl, rfl, rfl⟩ := hcut
    clear HE
    go_upto_region 16 with fail
    generalize hR : s.extract 1 E = R at *
    have hRs : R.size ≤ 1048576 := by rw [← hR]; simp; omega
    clear hR
    go_wp2_with (at_make; refine wpList_make_own _ rfl _ _ 35 rfl wc.heap.size 5 i0 (.int .u8 0) 1 Try.underlying35 hi hz0 hz1 _ _ _ R.size rfl rfl rfl ?b1 ?b2 ?b3 ?_)
    case b1 => rw [hz2]; omega
    case b2 => unfold maxLen; omega
    case b3 => exact Nat.le_refl _
    intro w1 hown hgrow
    have hbel : Below wc.heap.size wc w1 := (Below.refl _ _).grown hgrow (Nat.le_refl _) (by intro k h; cases h)
    have hB1 : Buf wc.heap.size R.size [] w1 := hown
    clear hgrow hown hi hz0 hz1 hz2
    go_wp2_with fail
    go_loopw [9, 10, 11, 12] (fun o v _ _ wr => ∃ (i : Nat) (acc : List UInt8), i ≤ R.size ∧ acc.length ≤ i ∧ v = .int .i64 i ∧ o = .slice (some ⟨wc.heap.size, 0, none⟩) acc.length R.size ∧ Buf wc.heap.size R.size acc wr ∧ Below wc.heap.size wc wr ∧ Hid (Reads R.data.toList i acc)) (fun _ v _ _ _ => R.size - (intOf v).toNat)
    case atStart => exact ⟨0, [], Nat.zero_le _, Nat.le_refl _, rfl, rfl, hB1, hbel, ⟨rfl, HR.out⟩⟩
    case round =>
      obtain ⟨i, acc, hiR, hacc, rfl, rfl, hB, hb, HA⟩ := hrel
      clear hB1 hbel HR
      by_cases hlt : i < R.size
      · have hd := drop_at R i hlt
        by_cases hbs : R[i] = 92
        · have hbs' : ((R[i].toNat : Int) != 92) = false := by rw [hbs]; rfl
          go_wp2_with fail
          go_loop [10, 11] (fun v q => ∃ m : Nat, i + m ≤ R.size ∧ v = .int .i64 ((i : Int) + m) ∧ q = .int .i64 m ∧ Hid (R.data.toList.drop i = List.replicate m 92 ++ R.data.toList.drop (i + m))) (fun v _ => R.size - (intOf v).toNat)
          case atStart => exact ⟨0, by omega, by simp, rfl, by simp [Hid]⟩
          case round =>
            obtain ⟨m, hm, rfl, rfl, HM⟩ := hrel
            by_cases hc : ∃ h : i + m < R.size, R[i + m] = 92
            · obtain ⟨hl, h92⟩ := hc
              have HN : Hid (R.data.toList.drop i = List.replicate (m + 1) 92 ++ R.data.toList.drop (i + (m + 1))) :=
                run_more (r := R.data.toList.drop (i + m + 1)) HM.out (by rw [drop_at R (i + m) hl, h92]) rfl
              have h92' : ((R[i + m].toNat : Int) == 92) = true := by rw [h92]; rfl
              clear HM h92 hd hbs HA HT hB
              go_wp2
              go_round
              case rel => exact ⟨m + 1, by omega, by go_num, by go_num, HN⟩
              case measure => simp [intOf]; omega
            · have hm1 : 1 ≤ m := by
                rcases Nat.eq_zero_or_pos m with h0 | h0
                · subst h0
                  exact absurd ⟨by omega, hbs⟩ hc
                · exact h0
              by_cases hl : i + m < R.size
              · have h92' : ((R[i + m].toNat : Int) == 92) = false := eq92 (fun h => hc ⟨hl, h⟩)
                have hdm := drop_at R (i + m) hl
                clear hc hd hbs
                go_wp2_with fail
                go_loopw [9, 12] (fun o h wx => ∃ j : Nat, j ≤ m / 2 ∧ h = .int .i64 j ∧ o = .slice (some ⟨wc.heap.size, 0, none⟩) (acc.length + j) R.size ∧ Buf wc.heap.size R.size (acc ++ List.replicate j 92) wx ∧ Below wc.heap.size wc wx) (fun _ h _ => m / 2 - (intOf h).toNat)
                case atStart => exact ⟨0, Nat.zero_le _, rfl, rfl, by simpa using hB, hb⟩
                case round =>
                  obtain ⟨j, hj, rfl, rfl, hBj, hbj⟩ := hrel
                  clear hB hb
                  by_cases hjl : j < m / 2
                  · have hjl' : (j : Int) < (m : Int) / 2 := by omega
                    have hll : (acc ++ List.replicate j 92).length = acc.length + j := by simp
                    have Hll := show Hid _ from hll
                    clear hll HA HM HT
                    go_wp2_with (at_builtin; refine wp_push _ rfl _ _ rfl wc.heap.size R.size (acc ++ List.replicate j 92) 92 92 rfl (by rw [Hll.out]; rfl) rfl hBj (by rw [Hll.out]; omega) ?_)
                    intro w3 hB3 hb3
                    have hB4 := buf_more hB3
                    clear hBj hB3
                    go_wp2
                    go_roundw
                    case rel => exact ⟨j + 1, by omega, by go_num, by simp; omega, hB4, hbj.trans hb3⟩
                    case measure => simp [intOf]; omega
                  · obtain rfl : j = m / 2 := by omega
                    have hjl' : ¬ (((m / 2 : Nat) : Int) < (m : Int) / 2) := by omega
                    have hll : (acc ++ List.replicate (m / 2) 92).length = acc.length + m / 2 := by simp
                    have Hll := show Hid _ from hll
                    clear hll hjl
                    by_cases hodd : m % 2 = 1
                    · have HN : Hid (Reads R.data.toList (i + m + 1) (acc ++ (List.replicate (m / 2) 92 ++ [R[i + m]]))) := by
                        rw [← List.append_assoc]; exact step_odd HA.out hodd HM.out hdm rfl
                      have hodd' : ((m : Int) % 2 == 1) = true := by rw [beq_iff_eq]; omega
                      have hl' : (i : Int) + (m : Int) < (R.size : Int) := by omega
                      clear HA HM HT hdm
                      go_wp2_with (at_builtin; refine wp_push _ rfl _ _ rfl wc.heap.size R.size (acc ++ List.replicate (m / 2) 92) _ R[i + m] rfl (by rw [Hll.out]; rfl) rfl hBj (by rw [Hll.out]; omega) ?_)
                      intro w3 hB3 hb3
                      clear hBj
                      go_wp2
                      go_roundw
                      case rel => exact ⟨i + m + 1, acc ++ (List.replicate (m / 2) 92 ++ [R[i + m]]), by omega, by simp; omega, by go_num, by simp; omega, hB3, hbj.trans hb3, HN⟩
                      case measure => simp [intOf]; omega
                    · have HN : Hid (Reads R.data.toList (i + m) (acc ++ List.replicate (m / 2) 92)) := step_even HA.out (by omega) HM.out
                      have hodd' : ((m : Int) % 2 == 1) = false := by rw [beq_eq_false_iff_ne]; omega
                      clear HA HM HT hdm
                      go_wp2
                      go_roundw
                      case rel => exact ⟨i + m, acc ++ List.replicate (m / 2) 92, by omega, by simp; omega, by go_num, by simp, hBj, hbj, HN⟩
                      case measure => simp [intOf]; omega
              · have hdm : R.data.toList.drop (i + m) = [] := List.drop_eq_nil_of_le (by simp; omega)
                clear hc hd hbs
                go_wp2_with fail
                go_loopw [9, 12] (fun o h wx => ∃ j : Nat, j ≤ m / 2 ∧ h = .int .i64 j ∧ o = .slice (some ⟨wc.heap.size, 0, none⟩) (acc.length + j) R.size ∧ Buf wc.heap.size R.size (acc ++ List.replicate j 92) wx ∧ Below wc.heap.size wc wx) (fun _ h _ => m / 2 - (intOf h).toNat)
                case atStart => exact ⟨0, Nat.zero_le _, rfl, rfl, by simpa using hB, hb⟩
                case round =>
                  obtain ⟨j, hj, rfl, rfl, hBj, hbj⟩ := hrel
                  clear hB hb
                  by_cases hjl : j < m / 2
                  · have hjl' : (j : Int) < (m : Int) / 2 := by omega
                    have hll : (acc ++ List.replicate j 92).length = acc.length + j := by simp
                    have Hll := show Hid _ from hll
                    clear hll HA HM HT
                    go_wp2_with (at_builtin; refine wp_push _ rfl _ _ rfl wc.heap.size R.size (acc ++ List.replicate j 92) 92 92 rfl (by rw [Hll.out]; rfl) rfl hBj (by rw [Hll.out]; omega) ?_)
                    intro w3 hB3 hb3
                    have hB4 := buf_more hB3
                    clear hBj hB3
                    go_wp2
                    go_roundw
                    case rel => exact ⟨j + 1, by omega, by go_num, by simp; omega, hB4, hbj.trans hb3⟩
                    case measure => simp [intOf]; omega
                  · obtain rfl : j = m / 2 := by omega
                    have hjl' : ¬ (((m / 2 : Nat) : Int) < (m : Int) / 2) := by omega
                    have hll : (acc ++ List.replicate (m / 2) 92).length = acc.length + m / 2 := by simp
                    have Hll := show Hid _ from hll
                    clear hll hjl
                    have HN : Hid (Reads R.data.toList (i + m) (acc ++ List.replicate (m / 2) 92)) := by
                      by_cases hodd : m % 2 = 1
                      · exact step_odd_end HA.out hodd HM.out hdm
                      · exact step_even HA.out (by omega) HM.out
                    have hl' : ¬ (i : Int) + (m : Int) < (R.size : Int) := by omega
                    clear HA HM HT hdm
                    by_cases hodd : m % 2 = 1
                    · have hodd' : ((m : Int) % 2 == 1) = true := by rw [beq_iff_eq]; omega
                      go_wp2
                      go_roundw
                      case rel => exact ⟨i + m, acc ++ List.replicate (m / 2) 92, by omega, by simp; omega, by go_num, by simp, hBj, hbj, HN⟩
                      case measure => simp [intOf]; omega
                    · have hodd' : ((m : Int) % 2 == 1) = false := by rw [beq_eq_false_iff_ne]; omega
                      go_wp2
                      go_roundw
                      case rel => exact ⟨i + m, acc ++ List.replicate (m / 2) 92, by omega, by simp; omega, by go_num, by simp, hBj, hbj, HN⟩
                      case measure => simp [intOf]; omega
        · have HN : Hid (Reads R.data.toList (i + 1) (acc ++ [R[i]])) := reads_plain HA.out hd rfl hbs
          have hbs' : ((R[i].toNat : Int) != 92) = true := by rw [bne, eq92 hbs]; rfl
          clear hd hbs HA
          go_wp2_with (at_builtin; refine wp_push wr rfl _ _ rfl wc.heap.size R.size acc _ R[i] rfl rfl rfl hB (by omega) ?_)
          intro w3 hB3 hb3
          clear hB
          go_wp2
          go_roundw
          case rel => exact ⟨i + 1, acc ++ [R[i]], by omega, by simp; omega, by go_num, by simp, hB3, hb.trans hb3, HN⟩
          case measure => simp [intOf]; omega
      · have hv : acc = text := by
          have h1 := HA.out.1
          rw [List.drop_eq_nil_of_le (show R.data.toList.length ≤ i by simp; omega), rd_nil] at h1
          rw [← HT.out, h1]; simp
        subst hv
        have hconv := hB.text
        clear HA HT hB
        go_wp2
        go_ret2
        exact ⟨rfl, hb⟩
end Go.Proofs.Qxb6601512a
