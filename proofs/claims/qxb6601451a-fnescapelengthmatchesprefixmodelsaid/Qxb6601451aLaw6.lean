/- ZZescapeLength and the walk of FnEscapeLengthLocalAndBounded. -/
import Derived.Test.Qxb6601451aEsc
import Derived.Deep.QuietTactic
import Derived.BigQuiet
namespace Go.Proofs.Qxb6601451a
open Go.RowKit

set_option maxHeartbeats 400000 in
theorem ZZescapeLength_any (b off n cap i : Nat) (g : Nat → Int) (w : World) (hn : n ≤ 1048576) (hi : i < n) (hb : b < w.heap.size) (hc : ∀ j, j < n → w.cell? ⟨b, off + j, none⟩ = some (.int .u8 (g j)))
    (l k a : Nat) (H : escLen g n i = (l, k, a)) :
    Calls Try.prog 14 #[.slice (some ⟨b, off, none⟩) n cap, .int .i64 i] w fun e w' => e = .returned (.tuple #[.int .i64 l, .int .u8 k, .int .i64 a]) ∧ Below w.heap.size w w' := by
  have K := escapeLength_any b off n cap i g w hn hi hb hc l k a H
  clear hc H
  go_enter Try.func14, Try.ntmps14
  go_wp2_with fail
  refine K.mono ?_
  rintro e w1 ⟨rfl, hb1⟩
  clear K
  go_wp2
  go_region
  all_goals go_wp2
  all_goals go_ret3
  all_goals exact ⟨rfl, (hb1.alloc hb1.size _).drew⟩

set_option maxHeartbeats 400000 in
theorem law6_early (a0 : Option Addr) (n cap : Nat) (i : Int) (h : 1048576 < n ∨ i < 0 ∨ (n : Int) ≤ i) (w : World) :
    Calls Try.prog 6 #[.slice a0 n cap, .int .i64 i] w fun e w' => e = .returned (.bool true) ∧ Below w.heap.size w w' := by
  rcases (show 1048576 < n ∨ (n ≤ 1048576 ∧ i < 0) ∨ (n ≤ 1048576 ∧ 0 ≤ i ∧ (n : Int) ≤ i) by omega) with h | ⟨h, h'⟩ | ⟨h, h', h''⟩
  all_goals
    go_enter Try.func6, Try.ntmps6
    go_wp2
    go_ret
    exact ⟨rfl, Below.refl _ _⟩

set_option maxHeartbeats 400000 in
theorem law6_ok (b off n cap i l : Nat) (g : Nat → Int) (w : World) (hn : n ≤ 1048576) (hi : i < n) (hb : b < w.heap.size) (hc : ∀ j, j < n → w.cell? ⟨b, off + j, none⟩ = some (.int .u8 (g j)))
    (hl : l = 2 ∨ l = 6) (hln : i + l ≤ n) (e1 : escLen g n i = (l, 0, 0)) (e2 : escLen (fun t => g (i + t)) (n - i) 0 = (l, 0, 0)) (e3 : escLen g (i + l) i = (l, 0, 0)) :
    Calls Try.prog 6 #[.slice (some ⟨b, off, none⟩) n cap, .int .i64 i] w fun e w' => e = .returned (.bool true) ∧ Below w.heap.size w w' := by
  have K := clone_row b off n cap g w hn hb hc
  have H1 := show Hid _ from e1
  have H2 := show Hid _ from e2
  have H3 := show Hid _ from e3
  clear hc e1 e2 e3
  rcases hl with rfl | rfl
  all_goals
    go_enter Try.func6, Try.ntmps6
    go_wp2_with (first | (go_at_call 17; go_in))
    refine K.mono ?_
    rintro e w1 ⟨rfl, hs1, hc1, hb1⟩
    clear K
    have hc1' : ∀ j, j < n → w1.cell? ⟨w.heap.size, 0 + j, none⟩ = some (.int .u8 (g j)) := by intro j hj; rw [Nat.zero_add]; exact hc1 j hj
    have HC1 := show Hid _ from hc1'
    clear hc1 hc1'
    go_wp2_with fail
    refine (ZZescapeLength_any w.heap.size 0 n n i g w1 hn hi hs1 HC1.out _ _ _ H1.out).mono ?_
    rintro e w2 ⟨rfl, hb2⟩
    have hs2 := hb2.size
    have HC2 := show Hid _ from cells_on hb2 hs1 HC1.out
    have HC2' : Hid (∀ j, j < n - i → w2.cell? ⟨w.heap.size, i + j, none⟩ = some (.int .u8 (g (i + j)))) := fun j hj => by
      have := HC2.out (i + j) (by omega); rwa [Nat.zero_add] at this
    go_wp2_with fail
    refine (ZZescapeLength_any w.heap.size i (n - i) (n - i) 0 (fun t => g (i + t)) w2 (by omega) (by omega) (by omega) HC2'.out _ _ _ H2.out).mono ?_
    rintro e w3 ⟨rfl, hb3⟩
    have hs3 := hb3.size
    have HC3 := show Hid _ from cells_on hb3 (by omega) HC2.out
    clear HC2 HC2'
    go_wp2_with fail
    refine (ZZescapeLength_any w.heap.size 0 (i + _) n i g w3 (by omega) (by omega) (by omega) (fun j hj => HC3.out j (by omega)) _ _ _ H3.out).mono ?_
    rintro e w4 ⟨rfl, hb4⟩
    clear HC3 HC1
    go_wp2
    go_ret
    exact ⟨rfl, hb1.trans ((hb2.mono (by omega)).trans ((hb3.mono (by omega)).trans (hb4.mono (by omega))))⟩

set_option maxHeartbeats 400000 in
theorem law6_bad (b off n cap i a : Nat) (g : Nat → Int) (w : World) (hn : n ≤ 1048576) (hi : i < n) (hb : b < w.heap.size) (hc : ∀ j, j < n → w.cell? ⟨b, off + j, none⟩ = some (.int .u8 (g j)))
    (ha1 : 1 ≤ a) (ha5 : a ≤ 5) (han : i + a ≤ n) (e1 : escLen g n i = (0, 1, i + a)) (e2 : escLen (fun t => g (i + t)) (n - i) 0 = (0, 1, a)) :
    Calls Try.prog 6 #[.slice (some ⟨b, off, none⟩) n cap, .int .i64 i] w fun e w' => e = .returned (.bool true) ∧ Below w.heap.size w w' := by
  have K := clone_row b off n cap g w hn hb hc
  have H1 := show Hid _ from e1
  have H2 := show Hid _ from e2
  clear hc e1 e2
  go_enter Try.func6, Try.ntmps6
  go_wp2_with (first | (go_at_call 17; go_in))
  refine K.mono ?_
  rintro e w1 ⟨rfl, hs1, hc1, hb1⟩
  clear K
  have hc1' : ∀ j, j < n → w1.cell? ⟨w.heap.size, 0 + j, none⟩ = some (.int .u8 (g j)) := by intro j hj; rw [Nat.zero_add]; exact hc1 j hj
  have HC1 := show Hid _ from hc1'
  clear hc1 hc1'
  go_wp2_with fail
  refine (ZZescapeLength_any w.heap.size 0 n n i g w1 hn hi hs1 HC1.out _ _ _ H1.out).mono ?_
  rintro e w2 ⟨rfl, hb2⟩
  have hs2 := hb2.size
  have HC2 := show Hid _ from cells_on hb2 hs1 HC1.out
  have HC2' : Hid (∀ j, j < n - i → w2.cell? ⟨w.heap.size, i + j, none⟩ = some (.int .u8 (g (i + j)))) := fun j hj => by
    have := HC2.out (i + j) (by omega); rwa [Nat.zero_add] at this
  go_wp2_with fail
  refine (ZZescapeLength_any w.heap.size i (n - i) (n - i) 0 (fun t => g (i + t)) w2 (by omega) (by omega) (by omega) HC2'.out _ _ _ H2.out).mono ?_
  rintro e w3 ⟨rfl, hb3⟩
  have hs3 := hb3.size
  clear HC2 HC2' HC1
  go_wp2
  go_ret
  refine ⟨ret_bool ?_, hb1.trans ((hb2.mono (by omega)).trans (hb3.mono (by omega)))⟩
  simp
  omega

theorem law6_main (b off n cap i : Nat) (g : Nat → Int) (w : World) (hn : n ≤ 1048576) (hi : i < n) (hb : b < w.heap.size) (hc : ∀ j, j < n → w.cell? ⟨b, off + j, none⟩ = some (.int .u8 (g j))) :
    Calls Try.prog 6 #[.slice (some ⟨b, off, none⟩) n cap, .int .i64 i] w fun e w' => e = .returned (.bool true) ∧ Below w.heap.size w w' := by
  rcases escLen_law g n i hi with ⟨l, hl, hln, e1, e2, e3⟩ | ⟨a, ha1, ha5, han, e1, e2⟩
  · exact law6_ok b off n cap i l g w hn hi hb hc hl hln e1 e2 e3
  · exact law6_bad b off n cap i a g w hn hi hb hc ha1 ha5 han e1 e2

end Go.Proofs.Qxb6601451a
