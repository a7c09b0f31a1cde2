/- The contract of quoteAll. -/
import Derived.Test.Qxb6601512aPush
import Derived.Deep.DeepCutAuto
namespace Go.Proofs.Qxb6601512a
open Go.RowKit

/-- t with each quote and backslash escaped. -/
def escs : List UInt8 → List UInt8
  | [] => []
  | c :: r => if c = 34 ∨ c = 92 then 92 :: c :: escs r else c :: escs r
theorem escs_snoc (l : List UInt8) (c : UInt8) : escs (l ++ [c]) = escs l ++ (if c = 34 ∨ c = 92 then [92, c] else [c]) := by
  induction l with
  | nil => simp [escs]
  | cons a r ih =>
    simp only [List.cons_append, escs, ih]
    split <;> simp
theorem escs_len (l : List UInt8) : l.length ≤ (escs l).length ∧ (escs l).length ≤ 2 * l.length := by
  induction l with
  | nil => simp [escs]
  | cons a r ih =>
    simp only [escs]
    split <;> simp <;> omega
theorem take_snoc (s : ByteArray) (k : Nat) (h : k < s.size) : s.data.toList.take (k + 1) = s.data.toList.take k ++ [s[k]] := by
  rw [List.take_succ_eq_append_getElem (by simpa using h)]; rfl

set_option maxRecDepth 100000 in
set_option maxHeartbeats 1000000 in
theorem quoteAll_any (t : ByteArray) (w : World) (hn : t.size ≤ 1048576) (out : List UInt8) (HO : Hid (34 :: escs t.data.toList ++ [34] = out)) :
    Calls Try.prog 13 #[.string t] w fun e w' => e = .returned (.string ⟨out.toArray⟩) ∧ Below w.heap.size w w' := by
  obtain ⟨i0, hi, hz0, hz1, hz2⟩ := info_parts info5
  go_enter Try.func13, Try.ntmps13
  go_wp2_with (first | (at_make; refine wpList_make_own _ rfl _ _ 35 rfl w.heap.size 5 i0 (.int .u8 0) 1 Try.underlying35 hi hz0 hz1 _ _ _ (2 * t.size + 2) rfl rfl (by omega) ?b1 ?b2 ?b3 ?_))
  case b1 => rw [hz2]; omega
  case b2 => unfold maxLen; omega
  case b3 => exact Nat.le_refl _
  intro w1 hown hgrow
  have hbel : Below w.heap.size w w1 := (Below.refl _ _).grown hgrow (Nat.le_refl _) (by intro k h; cases h)
  have hsz := hbel.size
  clear hgrow
  have hB1 : Buf w.heap.size (2 * t.size + 2) [] w1 := hown
  clear hown hi hz0 hz1 hz2
  go_wp2_with (at_builtin; refine wp_push w1 rfl _ _ rfl w.heap.size (2 * t.size + 2) [] 34 34 rfl rfl rfl hB1 (show 0 + 1 ≤ 2 * t.size + 2 by omega) ?_)
  intro w2 hB2 hbel2
  have hbel' := hbel.trans hbel2
  clear hB1 hbel hbel2 hsz
  go_wp2_with fail
  go_loopw [3, 4] (fun v i wr => ∃ (k : Nat) (acc : List UInt8), k ≤ t.size ∧ i = .int .i64 k ∧ v = .slice (some ⟨w.heap.size, 0, none⟩) acc.length (2 * t.size + 2) ∧ acc.length ≤ 2 * k + 1 ∧ Buf w.heap.size (2 * t.size + 2) acc wr ∧ Below w.heap.size w wr ∧ Hid (acc = 34 :: escs (t.data.toList.take k))) (fun _ i _ => t.size - (intOf i).toNat)
  case atStart => exact ⟨0, [34], Nat.zero_le _, rfl, rfl, by simp, hB2, hbel', by simp [Hid, escs]⟩
  case round =>
    obtain ⟨k, acc, hk, rfl, rfl, hlen, hB, hb, HA⟩ := hrel
    clear hB2 hbel'
    by_cases hlt : k < t.size
    · by_cases hq : t[k] = 34 ∨ t[k] = 92
      · have HN : Hid (acc ++ [92, t[k]] = 34 :: escs (t.data.toList.take (k + 1))) := by
          rw [HA.out, take_snoc t k hlt, escs_snoc, if_pos hq]; simp [Hid]
        have hq' : ((t[k].toNat : Int) == 34) = true ∨ ((t[k].toNat : Int) == 34) = false ∧ ((t[k].toNat : Int) == 92) = true := by
          rcases hq with h | h
          · left; rw [h]; rfl
          · right; rw [h]; exact ⟨rfl, rfl⟩
        clear hq HA
        rcases hq' with hq | ⟨hq, hq2⟩
        all_goals
          go_wp2_with (at_builtin; refine wp_push wr rfl _ _ rfl w.heap.size (2 * t.size + 2) acc 92 92 rfl rfl rfl hB (by omega) ?_)
          intro w3 hB3 hb3
          have hl3 : (acc ++ [92]).length = acc.length + 1 := by simp
          have Hl3 := show Hid _ from hl3
          clear hl3
          go_wp2_with (at_builtin; refine wp_push w3 rfl _ _ rfl w.heap.size (2 * t.size + 2) (acc ++ [92]) _ t[k] rfl (by rw [Hl3.out]; rfl) rfl hB3 (by rw [Hl3.out]; omega) ?_)
          intro w4 hB4 hb4
          clear hB hB3
          go_wp2
          go_roundw
          case rel => exact ⟨k + 1, acc ++ [92, t[k]], by omega, by go_num, by simp, by simp; omega, hB4, hb.trans (hb3.trans hb4), HN⟩
          case measure => simp [intOf]; omega
      · have HN : Hid (acc ++ [t[k]] = 34 :: escs (t.data.toList.take (k + 1))) := by
          rw [HA.out, take_snoc t k hlt, escs_snoc, if_neg hq]; simp [Hid]
        have hq1 : ((t[k].toNat : Int) == 34) = false := by
          rw [beq_eq_false_iff_ne]; intro h; exact hq (.inl (UInt8.toNat_inj.1 (show t[k].toNat = 34 by omega)))
        have hq2 : ((t[k].toNat : Int) == 92) = false := by
          rw [beq_eq_false_iff_ne]; intro h; exact hq (.inr (UInt8.toNat_inj.1 (show t[k].toNat = 92 by omega)))
        clear hq HA
        go_wp2_with (at_builtin; refine wp_push wr rfl _ _ rfl w.heap.size (2 * t.size + 2) acc _ t[k] rfl rfl rfl hB (by omega) ?_)
        intro w3 hB3 hb3
        clear hB
        go_wp2
        go_roundw
        case rel => exact ⟨k + 1, acc ++ [t[k]], by omega, by go_num, by simp, by simp; omega, hB3, hb.trans hb3, HN⟩
        case measure => simp [intOf]; omega
    · obtain rfl : k = t.size := by omega
      have HE : out = acc ++ [34] := by
        rw [← HO.out, HA.out, List.take_of_length_le (by simp)]
      subst HE
      clear HA HO
      go_wp2_with (at_builtin; refine wp_push wr rfl _ _ rfl w.heap.size (2 * t.size + 2) acc 34 34 rfl rfl rfl hB (by omega) ?_)
      intro w3 hB3 hb3
      have hconv := hB3.text
      have hl3 : (acc ++ [34]).length = acc.length + 1 := by simp
      rw [hl3] at hconv
      clear hB hl3
      go_wp2
      go_ret
      exact ⟨rfl, hb.trans hb3⟩
end Go.Proofs.Qxb6601512a
