/- The walk of FnWalkMatchesModel. -/
import Derived.Test.Qxb6601451aWalkFn
import Derived.LaidEqlPtr
namespace Go.Proofs.Qxb6601451a
open Go.RowKit

theorem sp_yes (g : Nat → Int) (n t : Nat) (h : t < n) (hs : spB (g t) = true) : sp g n t = sp g n (t + 1) := by
  obtain ⟨r1, r2, r3, r4⟩ := sp_spec g n (t + 1) (by omega)
  refine sp_unique g n t _ (by omega) r2 (fun j h1 h2 => ?_) r4
  by_cases hj : j = t
  · rw [hj]; exact hs
  · exact r3 j (by omega) h2
theorem sp_not (g : Nat → Int) (n t : Nat) (h : t < n) (hs : spB (g t) = false) : sp g n t = t :=
  sp_unique g n t t (Nat.le_refl _) (by omega) (fun j h1 h2 => by omega) (fun _ => hs)
theorem sp_top (g : Nat → Int) (n : Nat) : sp g n n = n := sp_unique g n n n (Nat.le_refl _) (Nat.le_refl _) (fun j h1 h2 => by omega) (fun h => by omega)

theorem neq_nil : ∀ (w : World) (a : Option Addr) (n c n' c' : Nat), (binOp .neq 22 (.slice a n c) (.slice none n' c')).run Try.prog w = .ok (.bool (!a.isNone)) w := by
  intro w a n c n' c'
  exact run_neq_slice_nil_any w _ _ a n c n' c' Try.underlying22

theorem neq_ptr_same (w : World) (a : Addr) : (binOp .neq 34 (.pointer (some a)) (.pointer (some a))).run Try.prog w = .ok (.bool false) w := by
  obtain ⟨j, hte, -⟩ := info_parts Try.info5
  have h : ∀ d : Nat, (Op.equalIn (d + 1) 34 (.pointer (some a)) (.pointer (some a))).run Try.prog w = .ok true w := fun d => by
    simp [Op.equalIn, run_underlying Try.underlying34, sizeOf, typeInfo, hte, run_sameAddr_same]
  simp only [binOp]
  simp [Op.equal, Op.maxDepth, h 9999]

set_option maxRecDepth 100000 in
set_option maxHeartbeats 1000000 in
theorem law7_pos (a0 : Option Addr) (n cap : Nat) (o c k : Int) (g : Nat → Int) (w : World) (hn : n ≤ 1048576) (hpos : 0 < n)
    (K : Calls Try.prog 9 #[.slice a0 n cap] w fun e w' => ∃ ao c1, e = .returned (.slice ao n c1) ∧ Bytes w' ao n g ∧ Below w.heap.size w w') :
    Calls Try.prog 7 #[.slice a0 n cap, .int .u8 o, .int .u8 c, .int .u8 k] w fun e w' => e = .returned (.bool true) ∧ Below w.heap.size w w' := by
  have q22 := eql_nil
  have p22 := neq_nil
  have p34 := neq_ptr_same
  obtain ⟨s, hs0⟩ : ∃ s, sp g n 0 = s := ⟨_, rfl⟩
  have hsn : s ≤ n := by have := (sp_spec g n 0 (Nat.zero_le _)).2.1; omega
  have HS : Hid (sp g n 0 = s) := hs0
  obtain ⟨I, KK, D, HH⟩ : ∃ (I KK : Int) (D : Bool), Hid ((s < n ∧ g s = o ∧ I = (s : Nat) + 1 ∧ KK = 0 ∧ D = false) ∨ (¬ (s < n ∧ g s = o) ∧ I = 0 ∧ KK = k ∧ D = true)) := by
    by_cases h : s < n ∧ g s = o
    · exact ⟨_, _, _, .inl ⟨h.1, h.2, rfl, rfl, rfl⟩⟩
    · exact ⟨_, _, _, .inr ⟨h, rfl, rfl, rfl⟩⟩
  clear hs0
  go_enter Try.func7, Try.ntmps7
  go_wp2_with (first | (go_at_call 18; go_in))
  refine K.mono ?_
  rintro e w1 ⟨ao, c1, rfl, HC, hb1⟩
  clear K
  obtain ⟨b, off, rfl, hb, -⟩ := HC 0 hpos
  have HC1 : Hid (Bytes w1 (some ⟨b, off, none⟩) n g) := HC
  clear HC
  go_wp2_with fail
  refine (ZZwalk_any _ n c1 o c k g w1 hn HC1.out I KK D (by rw [HS.out]; exact HH.out)).mono ?_
  rintro e w2 ⟨rfl, hb2⟩
  have HC2 : Hid (Bytes w2 (some ⟨b, off, none⟩) n g) := HC1.out.on hb2
  have hs2 : b < w2.heap.size := Nat.lt_of_lt_of_le hb hb2.size
  have hcell2 : ∀ j, j < n → w2.cell? ⟨b, off + j, none⟩ = some (.int .u8 (g j)) := fun j hj => by
    obtain ⟨b', off', h1, h2, h3⟩ := HC2.out j hj
    simp at h1
    obtain ⟨rfl, rfl⟩ := h1
    exact h3
  have HCell := show Hid _ from hcell2
  clear hcell2 HC1 HC2
  unfold iterV
  have hpos' : (0 : Int) < (n : Int) := by omega
  go_wp2_with fail
  go_loop [10, 11] (fun f j => ∃ t : Nat, t ≤ n ∧ j = .int .i64 ((t : Int) - 1) ∧ f = .int .i64 (sp g n t : Nat)) (fun _ j => ((intOf j) + 1).toNat)
  case atStart => exact ⟨n, Nat.le_refl _, rfl, by rw [sp_top]⟩
  case round =>
    obtain ⟨t, ht, rfl, rfl⟩ := hrel
    by_cases h0 : 0 < t
    · have hct := HCell.out (t - 1) (by omega)
      obtain ⟨u, rfl⟩ : ∃ u, t = u + 1 := ⟨t - 1, by omega⟩
      simp only [Nat.add_sub_cancel] at hct
      cases hsb : spB (g u) with
      | true =>
        have HN : Hid (sp g n u = sp g n (u + 1)) := sp_yes g n u (by omega) hsb
        go_wp2_with fail
        refine (jsonSpace_any _ _).mono ?_
        rintro e w1 ⟨rfl, hw1⟩
        subst hw1
        go_wp2
        go_round
        case rel => exact ⟨u, by omega, by go_num, by rw [HN.out]⟩
        case measure => simp [intOf]
      | false =>
        have HN : Hid (sp g n u = u) := sp_not g n u (by omega) hsb
        go_wp2_with fail
        refine (jsonSpace_any _ _).mono ?_
        rintro e w1 ⟨rfl, hw1⟩
        subst hw1
        go_wp2
        go_round
        case rel => exact ⟨u, by omega, by go_num, by rw [HN.out]⟩
        case measure => simp [intOf]
    · obtain rfl : t = 0 := by omega
      rw [HS.out]
      have hc0 : w2.cell? ⟨b, off, none⟩ = some (.int .u8 (g 0)) := by simpa using HCell.out 0 hpos
      go_wp2_with fail
      go_quiet (fail)
      go_wp2_with fail
      clear hc0
      go_loopw [12] (fun j wr => ∃ t m : Nat, t ≤ n ∧ j = .int .i64 t ∧ wr = (w2.alloc (.cells #[.slice (some ⟨b, off, none⟩) n c1, .int .i64 I, .int .u8 c, .int .i64 1, .bool true, .int .i64 0, .slice none 0 0, .slice none 0 0, .slice none 0 0, .int .u8 KK, .int .i64 0, .bool D] 31)).drewN m) (fun j _ => n - (intOf j).toNat)
      case atStart => exact ⟨0, nq, Nat.zero_le _, rfl, rfl⟩
      case round =>
        obtain ⟨t, m, ht, rfl, rfl⟩ := hrel
        by_cases hlt : t < n
        · have hct := HCell.out t hlt
          have hlt' : (t : Int) < (n : Int) := by omega
          go_wp2_with fail
          go_quiet (fail)
          go_wp2_with fail
          go_roundw
          case rel => exact ⟨t + 1, _, by omega, by go_num, rfl⟩
          case measure => simp [intOf]; omega
        · rcases HH.out with ⟨h1, h2, rfl, rfl, rfl⟩ | ⟨h1, rfl, rfl, rfl⟩
          · have hct := HCell.out s h1
            rw [h2] at hct
            clear h2 HH
            go_wp2
            go_ret
            exact ⟨rfl, below_drewN ((hb1.trans (hb2.mono hb1.size)).alloc (Nat.le_trans hb1.size hb2.size) _) _⟩
          · by_cases h2 : s < n
            · have hct := HCell.out s h2
              have h3 : (g s == o) = false := by simp; exact fun h => h1 ⟨h2, h⟩
              clear h1 HH
              go_wp2
              go_ret
              exact ⟨rfl, below_drewN ((hb1.trans (hb2.mono hb1.size)).alloc (Nat.le_trans hb1.size hb2.size) _) _⟩
            · clear h1 HH
              go_wp2
              go_ret
              exact ⟨rfl, below_drewN ((hb1.trans (hb2.mono hb1.size)).alloc (Nat.le_trans hb1.size hb2.size) _) _⟩

set_option maxRecDepth 100000 in
set_option maxHeartbeats 1000000 in
theorem law7_zero (a0 : Option Addr) (cap : Nat) (o c k : Int) (g : Nat → Int) (w : World)
    (K : Calls Try.prog 9 #[.slice a0 0 cap] w fun e w' => ∃ ao c1, e = .returned (.slice ao 0 c1) ∧ Bytes w' ao 0 g ∧ Below w.heap.size w w') :
    Calls Try.prog 7 #[.slice a0 0 cap, .int .u8 o, .int .u8 c, .int .u8 k] w fun e w' => e = .returned (.bool true) ∧ Below w.heap.size w w' := by
  have q22 := eql_nil
  have p22 := neq_nil
  go_enter Try.func7, Try.ntmps7
  go_wp2_with (first | (go_at_call 18; go_in))
  refine K.mono ?_
  rintro e w1 ⟨ao, c1, rfl, HC, hb1⟩
  clear K
  have HC1 : Hid (Bytes w1 ao 0 g) := HC
  clear HC
  go_wp2_with fail
  refine (ZZwalk_any _ 0 c1 o c k g w1 (by omega) HC1.out 0 k true (.inr ⟨by omega, rfl, rfl, rfl⟩)).mono ?_
  rintro e w2 ⟨rfl, hb2⟩
  clear HC1
  unfold iterV
  go_wp2_with fail
  refine wp_loop_rounds 1 ?_
  rw [rounds_succ]
  go_wp2_with fail
  go_quiet (fail)
  go_wp2_with fail
  refine wp_loop_rounds 1 ?_
  rw [rounds_succ]
  go_wp2
  go_ret
  exact ⟨rfl, below_drewN ((hb1.trans (hb2.mono hb1.size)).alloc (Nat.le_trans hb1.size hb2.size) _) _⟩

set_option maxHeartbeats 400000 in
theorem law7_early (a0 : Option Addr) (n cap : Nat) (o c k : Int) (h : 1048576 < n) (w : World) :
    Calls Try.prog 7 #[.slice a0 n cap, .int .u8 o, .int .u8 c, .int .u8 k] w fun e w' => e = .returned (.bool true) ∧ Below w.heap.size w w' := by
  go_enter Try.func7, Try.ntmps7
  go_wp2
  go_ret
  exact ⟨rfl, Below.refl _ _⟩

set_option maxHeartbeats 400000 in
theorem clone_empty (x : Addr) (cap : Nat) (w : World) :
    Calls Try.prog 9 #[.slice (some x) 0 cap] w fun e w' => e = .returned (.slice (some ⟨w.heap.size, 0, none⟩) 0 0) ∧ Below w.heap.size w w' := by
  have q22 := eql_nil
  obtain ⟨i0, hi, hz0, hz1, hz2⟩ := info_parts Try.info5
  go_enter Try.func9, Try.ntmps9
  go_wp2_with (at_make; refine wpList_make_full _ rfl _ _ 22 rfl w.heap.size 5 i0 (.int .u8 0) 1 Try.underlying22 hi hz0 hz1 _ _ _ _ 0 rfl rfl rfl rfl ?b1 ?b2 ?b3 ?_)
  case b1 => omega
  case b2 => unfold maxLen; omega
  case b3 => exact Nat.le_refl _
  intro w1 hown hgrow
  have hbel : Below w.heap.size w w1 := (Below.refl _ _).grown hgrow (Nat.le_refl _) (by intro k h; cases h)
  clear hgrow hi hz0 hz1 hz2 hown
  go_wp2
  refine wp_loop_rounds 1 ?_
  rw [rounds_succ]
  go_wp2
  go_ret
  exact ⟨rfl, hbel⟩

theorem law7_all (a0 : Option Addr) (n cap : Nat) (o c k : Int) (g : Nat → Int) (w : World)
    (K : n ≤ 1048576 → Calls Try.prog 9 #[.slice a0 n cap] w fun e w' => ∃ ao c1, e = .returned (.slice ao n c1) ∧ Bytes w' ao n g ∧ Below w.heap.size w w') :
    Calls Try.prog 7 #[.slice a0 n cap, .int .u8 o, .int .u8 c, .int .u8 k] w fun e w' => e = .returned (.bool true) ∧ Below w.heap.size w w' := by
  by_cases hn : n ≤ 1048576
  · rcases Nat.eq_zero_or_pos n with rfl | hpos
    · exact law7_zero a0 cap o c k g w (K hn)
    · exact law7_pos a0 n cap o c k g w hn hpos (K hn)
  · exact law7_early a0 n cap o c k (by omega) w
end Go.Proofs.Qxb6601451a
