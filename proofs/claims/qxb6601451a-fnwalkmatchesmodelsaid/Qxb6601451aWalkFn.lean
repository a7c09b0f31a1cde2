/- The contracts of walk and ZZwalk. -/
import Derived.Test.Qxb6601451aSpace
namespace Go.Proofs.Qxb6601451a
open Go.RowKit

/-- An Iter (a ZZIter too) as a row of cells. -/
def iterV (ao : Option Addr) (n cap : Nat) (i : Int) (close kind : Int) (done : Bool) : Value :=
  .agg #[.slice ao n cap, .int .i64 i, .int .u8 close, .int .i64 1, .bool true, .int .i64 0, .slice none 0 0, .slice none 0 0, .slice none 0 0, .int .u8 kind, .int .i64 0, .bool done]

theorem Bytes.alloc {w : World} {ao : Option Addr} {n : Nat} {g : Nat → Int} (h : Bytes w ao n g) (o : Obj) : Bytes (w.alloc o) ao n g :=
  h.on ((Below.refl _ _).alloc (Nat.le_refl _) o)

set_option maxRecDepth 100000 in
set_option maxHeartbeats 1000000 in
theorem walk_yes (ao : Option Addr) (n cap s : Nat) (o c k : Int) (g : Nat → Int) (w : World) (hn : n ≤ 1048576) (hc : Bytes w ao n g) (HS : Hid (sp g n 0 = s)) (hs : s < n) (ho : g s = o) :
    Calls Try.prog 26 #[.slice ao n cap, .int .u8 o, .int .u8 c, .int .u8 k] w fun e w' => e = .returned (iterV ao n cap ((s : Nat) + 1) c 0 false) ∧ Below w.heap.size w w' := by
  have HC : Hid (Bytes w ao n g) := hc
  obtain ⟨b, off, rfl, hb, hct⟩ := hc _ hs
  rw [ho] at hct
  clear ho hc
  unfold iterV
  go_enter Try.func26, Try.ntmps26
  go_wp2_with fail
  refine (skipSpace_any (some ⟨b, off, none⟩) n cap 0 g _ hn (Nat.zero_le _) (((HC.out).alloc _).alloc _)).mono ?_
  rintro e w1 ⟨rfl, hw1⟩
  subst hw1
  rw [HS.out]
  clear HC
  go_wp2
  refine bodyPost_ret (v := .agg #[.slice (some ⟨b, off, none⟩) n cap, .int .i64 ((s : Nat) + 1), .int .u8 c, .int .i64 1, .bool true, .int .i64 0, .slice none 0 0, .slice none 0 0, .slice none 0 0, .int .u8 0, .int .i64 0, .bool false]) ?_ rfl ⟨rfl, ?_⟩
  · go_light
    simp [results, Try.results26, go_sem]
  · exact ((Below.refl _ _).alloc (Nat.le_refl _) _).alloc (by simp) _

set_option maxRecDepth 100000 in
set_option maxHeartbeats 1000000 in
theorem walk_end (ao : Option Addr) (n cap : Nat) (o c k : Int) (g : Nat → Int) (w : World) (hn : n ≤ 1048576) (hc : Bytes w ao n g) (HS : Hid (sp g n 0 = n)) :
    Calls Try.prog 26 #[.slice ao n cap, .int .u8 o, .int .u8 c, .int .u8 k] w fun e w' => e = .returned (iterV ao n cap 0 c k true) ∧ Below w.heap.size w w' := by
  have HC : Hid (Bytes w ao n g) := hc
  clear hc
  unfold iterV
  go_enter Try.func26, Try.ntmps26
  go_wp2_with fail
  refine (skipSpace_any ao n cap 0 g _ hn (Nat.zero_le _) (((HC.out).alloc _).alloc _)).mono ?_
  rintro e w1 ⟨rfl, hw1⟩
  subst hw1
  rw [HS.out]
  clear HC
  go_wp2
  go_region
  all_goals go_wp2
  all_goals refine bodyPost_ret (v := .agg #[.slice ao n cap, .int .i64 0, .int .u8 c, .int .i64 1, .bool true, .int .i64 0, .slice none 0 0, .slice none 0 0, .slice none 0 0, .int .u8 k, .int .i64 0, .bool true]) ?_ rfl ⟨rfl, ?_⟩
  all_goals go_light
  · simp [results, Try.results26, go_sem]
  · exact ((((Below.refl _ _).alloc (Nat.le_refl _) _).alloc (by simp) _).alloc (by simp; omega) _).drew

set_option maxRecDepth 100000 in
set_option maxHeartbeats 1000000 in
theorem walk_no (ao : Option Addr) (n cap s : Nat) (o c k x : Int) (g : Nat → Int) (w : World) (hn : n ≤ 1048576) (hc : Bytes w ao n g) (HS : Hid (sp g n 0 = s)) (hs : s < n) (hx : g s = x) (ho : (x != o) = true) :
    Calls Try.prog 26 #[.slice ao n cap, .int .u8 o, .int .u8 c, .int .u8 k] w fun e w' => e = .returned (iterV ao n cap 0 c k true) ∧ Below w.heap.size w w' := by
  have HC : Hid (Bytes w ao n g) := hc
  obtain ⟨b, off, rfl, hb, hct⟩ := hc _ hs
  rw [hx] at hct
  clear hx hc
  unfold iterV
  go_enter Try.func26, Try.ntmps26
  go_wp2_with fail
  refine (skipSpace_any (some ⟨b, off, none⟩) n cap 0 g _ hn (Nat.zero_le _) (((HC.out).alloc _).alloc _)).mono ?_
  rintro e w1 ⟨rfl, hw1⟩
  subst hw1
  rw [HS.out]
  clear HC
  go_wp2
  go_region
  all_goals go_wp2
  all_goals refine bodyPost_ret (v := .agg #[.slice (some ⟨b, off, none⟩) n cap, .int .i64 0, .int .u8 c, .int .i64 1, .bool true, .int .i64 0, .slice none 0 0, .slice none 0 0, .slice none 0 0, .int .u8 k, .int .i64 0, .bool true]) ?_ rfl ⟨rfl, ?_⟩
  all_goals go_light
  · simp [results, Try.results26, go_sem]
  · exact ((((Below.refl _ _).alloc (Nat.le_refl _) _).alloc (by simp) _).alloc (by simp; omega) _).drew

theorem walk_any (ao : Option Addr) (n cap : Nat) (o c k : Int) (g : Nat → Int) (w : World) (hn : n ≤ 1048576) (hc : Bytes w ao n g) (I K : Int) (D : Bool)
    (H : (sp g n 0 < n ∧ g (sp g n 0) = o ∧ I = (sp g n 0 : Nat) + 1 ∧ K = 0 ∧ D = false) ∨ (¬ (sp g n 0 < n ∧ g (sp g n 0) = o) ∧ I = 0 ∧ K = k ∧ D = true)) :
    Calls Try.prog 26 #[.slice ao n cap, .int .u8 o, .int .u8 c, .int .u8 k] w fun e w' => e = .returned (iterV ao n cap I c K D) ∧ Below w.heap.size w w' := by
  rcases H with ⟨h1, h2, rfl, rfl, rfl⟩ | ⟨h1, rfl, rfl, rfl⟩
  · exact walk_yes ao n cap (sp g n 0) o c k g w hn hc rfl h1 h2
  · by_cases h2 : sp g n 0 < n
    · exact walk_no ao n cap (sp g n 0) o c K (g (sp g n 0)) g w hn hc rfl h2 rfl (by rw [bne_iff_ne]; exact fun h => h1 ⟨h2, h⟩)
    · exact walk_end ao n cap o c K g w hn hc (by have := (sp_spec g n 0 (Nat.zero_le _)).2.1; unfold Hid; omega)

set_option maxRecDepth 100000 in
set_option maxHeartbeats 1000000 in
theorem ZZwalk_any (ao : Option Addr) (n cap : Nat) (o c k : Int) (g : Nat → Int) (w : World) (hn : n ≤ 1048576) (hc : Bytes w ao n g) (I K : Int) (D : Bool)
    (H : (sp g n 0 < n ∧ g (sp g n 0) = o ∧ I = (sp g n 0 : Nat) + 1 ∧ K = 0 ∧ D = false) ∨ (¬ (sp g n 0 < n ∧ g (sp g n 0) = o) ∧ I = 0 ∧ K = k ∧ D = true)) :
    Calls Try.prog 19 #[.slice ao n cap, .int .u8 o, .int .u8 c, .int .u8 k] w fun e w' => e = .returned (iterV ao n cap I c K D) ∧ Below w.heap.size w w' := by
  have HC : Hid (Bytes w ao n g) := hc
  have HH := show Hid _ from H
  clear H hc
  unfold iterV
  go_enter Try.func19, Try.ntmps19
  go_wp2_with fail
  refine (walk_any ao n cap o c k g _ hn ((HC.out).alloc _) I K D HH.out).mono ?_
  rintro e w1 ⟨rfl, hb1⟩
  clear HC HH
  obtain ⟨hc1, hf1⟩ := bcell hb1
  have hz : w.heap.size < w1.heap.size := by have := hb1.size; simp at this; omega
  unfold iterV
  go_wp2
  refine bodyPost_ret (v := .agg #[.slice ao n cap, .int .i64 I, .int .u8 c, .int .i64 1, .bool true, .int .i64 0, .slice none 0 0, .slice none 0 0, .slice none 0 0, .int .u8 K, .int .i64 0, .bool D]) ?_ rfl ⟨rfl, ?_⟩
  all_goals go_light
  · simp [results, Try.results19, go_sem, hc1, hz]
  · refine Below.alloc ?_ (by simp; omega) _
    iterate 12 refine Below.setCell ?_ (by exact Nat.le_refl _) _
    exact ((Below.refl _ _).alloc (Nat.le_refl _) _).trans (hb1.mono (by simp))
end Go.Proofs.Qxb6601451a
