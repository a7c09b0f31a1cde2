/- White space: the plain model, b1JSONSpace, skipSpace. -/
import Derived.Test.Qxb6601451aBase
import Derived.Deep.Light
import Derived.Deep.QuietTactic
import Derived.BigQuiet
namespace Go.Proofs.Qxb6601451a
open Go.RowKit

def spB (c : Int) : Bool := decide (c = 32) || decide (c = 10) || decide (c = 13) || decide (c = 9)

/-- What is known of a slice of bytes: each of its n cells. -/
def Bytes (w : World) (ao : Option Addr) (n : Nat) (g : Nat → Int) : Prop :=
  ∀ j, j < n → ∃ b off, ao = some ⟨b, off, none⟩ ∧ b < w.heap.size ∧ w.cell? ⟨b, off + j, none⟩ = some (.int .u8 (g j))

theorem Bytes.on {w w1 : World} {ao : Option Addr} {n : Nat} {g : Nat → Int} (h : Bytes w ao n g) (hb : Below w.heap.size w w1) : Bytes w1 ao n g := fun j hj => by
  obtain ⟨b, off, h1, h2, h3⟩ := h j hj
  exact ⟨b, off, h1, Nat.lt_of_lt_of_le h2 hb.size, (hb.cell (p := ⟨b, off + j, none⟩) h2).trans h3⟩

set_option maxHeartbeats 400000 in
theorem jsonSpace_any (c : Int) (w : World) :
    Calls Try.prog 20 #[.int .u8 c] w fun e w' => e = .returned (.bool (spB c)) ∧ w' = w := by
  cases hs : spB c with
  | true =>
    have h4 : c = 32 ∨ c = 10 ∨ c = 13 ∨ c = 9 := by simpa [spB, or_assoc] using hs
    clear hs
    rcases h4 with rfl | rfl | rfl | rfl
    all_goals
      go_enter Try.func20, Try.ntmps20
      go_wp2
      go_ret
      exact ⟨rfl, rfl⟩
  | false =>
    simp only [spB, Bool.or_eq_false_iff, decide_eq_false_iff_not] at hs
    obtain ⟨⟨⟨h1, h2⟩, h3⟩, h4⟩ := hs
    replace h1 : (c == 32) = false := by simp [h1]
    replace h2 : (c == 10) = false := by simp [h2]
    replace h3 : (c == 13) = false := by simp [h3]
    replace h4 : (c == 9) = false := by simp [h4]
    go_enter Try.func20, Try.ntmps20
    go_wp2
    go_ret
    exact ⟨rfl, rfl⟩

def spF (g : Nat → Int) (n : Nat) : Nat → Nat → Nat
  | 0, i => i
  | k + 1, i => if i < n then (if spB (g i) = true then spF g n k (i + 1) else i) else i
/-- The first place at or after i that holds no white space, or n. -/
def sp (g : Nat → Int) (n i : Nat) : Nat := spF g n (n - i) i
theorem spF_spec (g : Nat → Int) (n : Nat) : ∀ k i, i ≤ n → n ≤ i + k →
    i ≤ spF g n k i ∧ spF g n k i ≤ n ∧ (∀ j, i ≤ j → j < spF g n k i → spB (g j) = true) ∧ (spF g n k i < n → spB (g (spF g n k i)) = false)
  | 0, i, h1, h2 => ⟨Nat.le_refl _, h1, fun j h3 h4 => by simp only [spF] at h4; omega, fun h => by simp only [spF] at h; omega⟩
  | k + 1, i, h1, h2 => by
    by_cases h : i < n
    · cases hd : spB (g i) with
      | true =>
        have e : spF g n (k + 1) i = spF g n k (i + 1) := by rw [spF, if_pos h, if_pos hd]
        rw [e]
        obtain ⟨r1, r2, r3, r4⟩ := spF_spec g n k (i + 1) (by omega) (by omega)
        refine ⟨by omega, r2, fun j h3 h4 => ?_, r4⟩
        by_cases hj : j = i
        · rw [hj]; exact hd
        · exact r3 j (by omega) h4
      | false =>
        have e : spF g n (k + 1) i = i := by rw [spF, if_pos h, if_neg (by rw [hd]; simp)]
        rw [e]
        exact ⟨Nat.le_refl _, h1, fun j h3 h4 => by omega, fun _ => hd⟩
    · have e : spF g n (k + 1) i = i := by rw [spF, if_neg h]
      rw [e]
      exact ⟨Nat.le_refl _, h1, fun j h3 h4 => by omega, fun h' => absurd h' h⟩
theorem sp_spec (g : Nat → Int) (n i : Nat) (h : i ≤ n) :
    i ≤ sp g n i ∧ sp g n i ≤ n ∧ (∀ j, i ≤ j → j < sp g n i → spB (g j) = true) ∧ (sp g n i < n → spB (g (sp g n i)) = false) :=
  spF_spec g n (n - i) i h (by omega)
theorem sp_unique (g : Nat → Int) (n i e : Nat) (h1 : i ≤ e) (h2 : e ≤ n) (h3 : ∀ j, i ≤ j → j < e → spB (g j) = true) (h4 : e < n → spB (g e) = false) : sp g n i = e := by
  obtain ⟨r1, r2, r3, r4⟩ := sp_spec g n i (by omega)
  rcases Nat.lt_trichotomy (sp g n i) e with h | h | h
  · have a := h3 _ r1 h
    rw [r4 (by omega)] at a
    cases a
  · exact h
  · have a := r3 _ h1 h
    rw [h4 (by omega)] at a
    cases a

set_option maxRecDepth 100000 in
set_option maxHeartbeats 1000000 in
theorem skipSpace_any (ao : Option Addr) (n cap i : Nat) (g : Nat → Int) (w : World) (hn : n ≤ 1048576) (hi : i ≤ n) (hc : Bytes w ao n g) :
    Calls Try.prog 31 #[.slice ao n cap, .int .i64 i] w fun e w' => e = .returned (.int .i64 (sp g n i : Nat)) ∧ w' = w := by
  have HC := show Hid _ from hc
  clear hc
  go_enter Try.func31, Try.ntmps31
  go_wp2
  go_loop [1] (fun v => ∃ t : Nat, i ≤ t ∧ t ≤ n ∧ v = .int .i64 t ∧ Hid (∀ j, i ≤ j → j < t → spB (g j) = true)) (fun v => n - (intOf v).toNat)
  case atStart => exact ⟨i, Nat.le_refl _, hi, rfl, fun j h1 h2 => by omega⟩
  case round =>
    obtain ⟨t, h1, h2, rfl, HR⟩ := hrel
    by_cases hlt : t < n
    · obtain ⟨b, off, rfl, hb, hct⟩ := HC.out t hlt
      cases hd : spB (g t) with
      | true =>
        have HN : Hid (∀ j, i ≤ j → j < t + 1 → spB (g j) = true) := fun j h3 h4 => by
          by_cases hj : j = t
          · rw [hj]; exact hd
          · exact HR.out j h3 (by omega)
        have h4 : g t = 32 ∨ g t = 10 ∨ g t = 13 ∨ g t = 9 := by simpa [spB, or_assoc] using hd
        clear HR hd HC
        rcases h4 with h | h | h | h
        all_goals
          rw [h] at hct
          clear h
          go_wp2
          go_round
          case rel => exact ⟨t + 1, by omega, by omega, by go_num, HN⟩
          case measure => simp [intOf]; omega
      | false =>
        have HE : Hid (sp g n i = t) := sp_unique g n i t h1 h2 HR.out (fun _ => hd)
        simp only [spB, Bool.or_eq_false_iff, decide_eq_false_iff_not] at hd
        obtain ⟨⟨⟨h1, h2⟩, h3⟩, h4⟩ := hd
        replace h1 : (g t == 32) = false := by simp [h1]
        replace h2 : (g t == 10) = false := by simp [h2]
        replace h3 : (g t == 13) = false := by simp [h3]
        replace h4 : (g t == 9) = false := by simp [h4]
        clear HR HC
        go_wp2
        go_ret
        exact ⟨by rw [HE.out]; rfl, rfl⟩
    · have HE : Hid (sp g n i = t) := sp_unique g n i t h1 h2 HR.out (fun h => absurd h hlt)
      clear HR
      go_wp2
      go_ret
      exact ⟨by rw [HE.out]; rfl, rfl⟩
end Go.Proofs.Qxb6601451a
