/- The walk of FnEscapeLengthMatchesPrefixModel. -/
import Derived.Test.Qxb6601451aPre
import Derived.Test.Qxb6601451aLaw6
import Derived.Deep.DeepCutAuto
import Derived.OpenShut
namespace Go.Proofs.Qxb6601451a
open Go.RowKit

set_option maxHeartbeats 400000 in
theorem law5_early (a0 : Option Addr) (n cap : Nat) (i : Int) (h : 1048576 < n ∨ i < 0 ∨ (n : Int) ≤ i) (w : World) :
    Calls Try.prog 5 #[.slice a0 n cap, .int .i64 i] w fun e w' => e = .returned (.bool true) ∧ Below w.heap.size w w' := by
  rcases (show 1048576 < n ∨ (n ≤ 1048576 ∧ i < 0) ∨ (n ≤ 1048576 ∧ 0 ≤ i ∧ (n : Int) ≤ i) by omega) with h | ⟨h, h'⟩ | ⟨h, h', h''⟩
  all_goals
    go_enter Try.func5, Try.ntmps5
    go_wp2
    go_ret
    exact ⟨rfl, Below.refl _ _⟩

set_option maxRecDepth 100000 in
set_option maxHeartbeats 1000000 in
theorem law5_end (b off n cap i : Nat) (g : Nat → Int) (w : World) (hn : n ≤ 1048576) (hi : i < n) (hi' : n ≤ i + 1) (hb : b < w.heap.size) (hc : ∀ j, j < n → w.cell? ⟨b, off + j, none⟩ = some (.int .u8 (g j)))
    (e1 : escLen g n i = (0, 1, i + 1)) :
    Calls Try.prog 5 #[.slice (some ⟨b, off, none⟩) n cap, .int .i64 i] w fun e w' => e = .returned (.bool true) ∧ Below w.heap.size w w' := by
  have K := clone_row b off n cap g w hn hb hc
  have H1 := show Hid _ from e1
  clear hc e1
  go_enter Try.func5, Try.ntmps5
  go_wp2_with (first | (go_at_call 13; go_in))
  refine K.mono ?_
  rintro e w1 ⟨rfl, hs1, hc1, hb1⟩
  clear K
  have hc1' : ∀ j, j < n → w1.cell? ⟨w.heap.size, 0 + j, none⟩ = some (.int .u8 (g j)) := by intro j hj; rw [Nat.zero_add]; exact hc1 j hj
  have HC1 := show Hid _ from hc1'
  clear hc1 hc1'
  go_wp2_with fail
  refine (ZZescapeLength_any w.heap.size 0 n n i g w1 hn (by omega) hs1 HC1.out _ _ _ H1.out).mono ?_
  rintro e w2 ⟨rfl, hb2⟩
  clear HC1
  go_wp2_with fail
  refine wp_loop_rounds 1 ?_
  rw [rounds_succ]
  go_wp2_with fail
  refine (whole_zero _ _ _ _).mono ?_
  rintro e w3 ⟨rfl, hw3⟩
  subst hw3
  go_wp2
  go_ret
  exact ⟨rfl, hb1.trans (hb2.mono (Nat.le_of_lt hs1))⟩

set_option maxRecDepth 100000 in
set_option maxHeartbeats 1000000 in
theorem law5_walk (b off n cap i r lim p l k a : Nat) (W : Bool) (g : Nat → Int) (w : World) (hn : n ≤ 1048576) (hr : n = i + 1 + r) (hr1 : 1 ≤ r) (hlim : lim = if 5 < r then 5 else r) (hb : b < w.heap.size) (hc : ∀ j, j < n → w.cell? ⟨b, off + j, none⟩ = some (.int .u8 (g j)))
    (hby : ∀ j, 0 ≤ g j ∧ g j ≤ 255) (e1 : escLen g n i = (l, k, a)) (e2 : lastP (fun t => g (i + 1 + t)) lim = p) (e3 : wholeB (fun t => g (i + 1 + t)) p = W)
    (e4 : (W = true ∧ l = p + 1 ∧ k = 0 ∧ a = 0) ∨ (W = false ∧ l = 0 ∧ k = 1 ∧ a = i + 1 + p)) :
    Calls Try.prog 5 #[.slice (some ⟨b, off, none⟩) n cap, .int .i64 i] w fun e w' => e = .returned (.bool true) ∧ Below w.heap.size w w' := by
  have K := clone_row b off n cap g w hn hb hc
  have H1 := show Hid _ from e1
  have H2 := show Hid _ from e2
  have H3 := show Hid _ from e3
  have H4 := show Hid _ from e4
  have HB : Hid (∀ j, 0 ≤ g (i + 1 + j) ∧ g (i + 1 + j) ≤ 255) := fun j => hby _
  have hl5 : lim ≤ 5 := by rw [hlim]; split <;> omega
  have hlr : lim ≤ r := by rw [hlim]; split <;> omega
  have hl : lim = 5 ∧ 5 < r ∨ lim = r ∧ r ≤ 5 := by rw [hlim]; split <;> omega
  have HLim := show Hid _ from hl
  clear hc e1 e2 e3 e4 hby hlim hl
  subst hr
  go_enter Try.func5, Try.ntmps5
  go_wp2_with (first | (go_at_call 13; go_in))
  refine K.mono ?_
  rintro e w1 ⟨rfl, hs1, hc1, hb1⟩
  clear K
  have hc1' : ∀ j, j < i + 1 + r → w1.cell? ⟨w.heap.size, 0 + j, none⟩ = some (.int .u8 (g j)) := by intro j hj; rw [Nat.zero_add]; exact hc1 j hj
  have HC1 := show Hid _ from hc1'
  clear hc1 hc1'
  go_wp2_with fail
  refine (ZZescapeLength_any w.heap.size 0 _ _ i g w1 hn (by omega) hs1 HC1.out _ _ _ H1.out).mono ?_
  rintro e w2 ⟨rfl, hb2⟩
  have hs2 := hb2.size
  have HC2 := show Hid _ from cells_on hb2 hs1 HC1.out
  have HC2' : Hid (∀ j, j < r → w2.cell? ⟨w.heap.size, i + 1 + j, none⟩ = some (.int .u8 (g (i + 1 + j)))) := fun j hj => by
    have := HC2.out (i + 1 + j) (by omega); rwa [Nat.zero_add] at this
  clear HC1 HC2
  go_upto_if 43 with fail
  go_cut [9] (fun s9 wx => s9 = .int .i64 (lim : Nat) ∧ wx = w2)
  case first =>
    rcases HLim.out with ⟨rfl, hl⟩ | ⟨rfl, hl⟩
    · have hl' : (5 : Int) < (r : Int) := by omega
      clear HLim
      go_wp2
      go_meet
      case rel => exact ⟨rfl, rfl⟩
    · have hl' : ¬ (5 : Int) < (lim : Int) := by omega
      clear HLim
      go_wp2
      go_meet
      case rel => exact ⟨rfl, rfl⟩
  case rest =>
    obtain ⟨rfl, rfl⟩ := hcut
    clear HLim
    generalize hh : (fun t => g (i + 1 + t)) = h at *
    have HC3 : Hid (∀ j, j < r → wc.cell? ⟨w.heap.size, i + 1 + j, none⟩ = some (.int .u8 (h j))) := by rw [← hh]; exact HC2'.out
    have HB3 : Hid (∀ j, 0 ≤ h j ∧ h j ≤ 255) := by rw [← hh]; exact HB.out
    clear HC2' HB hh
    go_wp2_with fail
    go_loop [10, 11] (fun q v => ∃ t : Nat, t ≤ lim ∧ v = .int .i64 ((t : Int) + 1) ∧ q = .int .i64 (lastP h t : Nat)) (fun _ v => lim + 1 - (intOf v).toNat)
    case atStart => exact ⟨0, Nat.zero_le _, rfl, rfl⟩
    case round =>
      obtain ⟨t, ht, rfl, rfl⟩ := hrel
      by_cases hlt : t < lim
      · have HK : Hid (Calls Try.prog 15 #[.slice (some ⟨w.heap.size, i + 1, none⟩) r r, .int .i64 ((t : Int) + 1)] wc fun e w' => e = .returned (.bool (preB h (t + 1))) ∧ w' = wc) :=
          prefix_any w.heap.size (i + 1) r r (t + 1) h wc (by omega) (by omega) (by omega) (by omega) HC3.out HB3.out
        cases hp : preB h (t + 1) with
        | true =>
          have HN : Hid (lastP h (t + 1) = t + 1) := by unfold lastP; exact if_pos hp
          go_wp2_with fail
          refine (HK.out).mono ?_
          rintro e w1 ⟨rfl, hw1⟩
          subst hw1
          rw [hp]
          go_wp2
          go_round
          case rel => exact ⟨t + 1, by omega, by go_num, by rw [HN.out]; go_num⟩
          case measure => simp [intOf]; omega
        | false =>
          have HN : Hid (lastP h (t + 1) = lastP h t) := by show (if preB h (t + 1) = true then t + 1 else lastP h t) = lastP h t; exact if_neg (by rw [hp]; simp)
          go_wp2_with fail
          refine (HK.out).mono ?_
          rintro e w1 ⟨rfl, hw1⟩
          subst hw1
          rw [hp]
          go_wp2
          go_round
          case rel => exact ⟨t + 1, by omega, by go_num, by rw [HN.out]⟩
          case measure => simp [intOf]; omega
      · obtain rfl : t = lim := by omega
        have hple : p ≤ t := by have := lastP_le h t; rw [H2.out] at this; exact this
        rw [H2.out]
        have HK : Hid (Calls Try.prog 16 #[.slice (some ⟨w.heap.size, i + 1, none⟩) r r, .int .i64 (p : Nat)] wc fun e w' => e = .returned (.bool W) ∧ w' = wc) := by
          have := whole_any w.heap.size (i + 1) r r p h wc (by omega) (by omega) (by omega) HC3.out HB3.out
          rw [H3.out] at this; exact this
        clear HC3 HB3 H3 H2 H1
        go_wp2_with fail
        refine (HK.out).mono ?_
        rintro e w1 ⟨rfl, hw1⟩
        subst hw1
        clear HK
        rcases H4.out with ⟨rfl, rfl, rfl, rfl⟩ | ⟨rfl, rfl, rfl, rfl⟩
        · clear H4
          go_wp2
          go_ret
          exact ⟨rfl, hb1.trans (hb2.mono (by omega))⟩
        · clear H4
          go_wp2
          go_ret
          exact ⟨rfl, hb1.trans (hb2.mono (by omega))⟩

theorem law5_main (b off n cap i : Nat) (g : Nat → Int) (w : World) (hn : n ≤ 1048576) (hi : i < n) (hb : b < w.heap.size) (hc : ∀ j, j < n → w.cell? ⟨b, off + j, none⟩ = some (.int .u8 (g j))) (hby : ∀ j, 0 ≤ g j ∧ g j ≤ 255) :
    Calls Try.prog 5 #[.slice (some ⟨b, off, none⟩) n cap, .int .i64 i] w fun e w' => e = .returned (.bool true) ∧ Below w.heap.size w w' := by
  obtain ⟨r, rfl⟩ : ∃ r, n = i + 1 + r := ⟨n - (i + 1), by omega⟩
  rcases Nat.eq_zero_or_pos r with rfl | hr
  · exact law5_end b off _ cap i g w hn hi (by omega) hb hc (by unfold escLen; rw [if_pos rfl])
  · rcases escLen_pre g i r _ rfl with ⟨h1, h2⟩ | ⟨h1, h2⟩
    · exact law5_walk b off _ cap i r _ _ _ 0 0 true g w hn rfl hr rfl hb hc hby h2 rfl h1 (.inl ⟨rfl, rfl, rfl, rfl⟩)
    · exact law5_walk b off _ cap i r _ _ 0 1 _ false g w hn rfl hr rfl hb hc hby h2 rfl h1 (.inr ⟨rfl, rfl, rfl, rfl⟩)

theorem byte_getD {zs : List Int} (hw : ∀ n ∈ zs, (Lit.int .u8 n).wf = true) (j : Nat) : 0 ≤ zs.getD j 0 ∧ zs.getD j 0 ≤ 255 := by
  by_cases h : j < zs.length
  · have hm := hw (zs.getD j 0) (by rw [List.getD_eq_getElem?_getD, List.getElem?_eq_getElem h]; exact List.getElem_mem h)
    exact bounds_u8 hm
  · rw [List.getD_eq_getElem?_getD, List.getElem?_eq_none (by omega)]
    decide
end Go.Proofs.Qxb6601451a
