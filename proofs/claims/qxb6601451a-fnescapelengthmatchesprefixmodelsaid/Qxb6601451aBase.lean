/- Contracts of the small functions that the laws of this seat share. -/
import Derived.Test.Qxb6601451aRows
import Derived.WalkKit
import Derived.WalkSpells
import Derived.WalkLawsBesides
namespace Go.Proofs.Qxb6601451a
open Go.RowKit

def digB (c : Int) : Bool := decide (48 ≤ c) && decide (c ≤ 57)
def hexB (c : Int) : Bool := (decide (48 ≤ c) && decide (c ≤ 57)) || ((decide (97 ≤ c) && decide (c ≤ 102)) || (decide (65 ≤ c) && decide (c ≤ 70)))

theorem ret_bool {a b : Bool} (h : a = b) : Ending.returned (.bool a) = .returned (.bool b) := by rw [h]
theorem ret_int {k : IntKind} {a b : Int} (h : a = b) : Ending.returned (.int k a) = .returned (.int k b) := by rw [h]

set_option maxHeartbeats 400000 in
theorem badByteAt_any (i : Int) (w : World) :
    Calls Try.prog 28 #[.int .i64 i] w fun e w' => e = .returned (.agg #[.int .u8 1, .int .i64 i]) ∧ Below w.heap.size w w' := by
  go_enter Try.func28, Try.ntmps28
  go_wp2
  exact bodyPost_ret (v := .agg #[.int .u8 1, .int .i64 i]) (by simp [results, Try.results28, go_sem]) rfl ⟨rfl, (Below.refl _ _).alloc (Nat.le_refl _) _⟩

set_option maxHeartbeats 400000 in
theorem isDigit_any (c : Int) (w : World) :
    Calls Try.prog 29 #[.int .u8 c] w fun e w' => e = .returned (.bool (digB c)) ∧ w' = w := by
  by_cases h1 : 48 ≤ c
  · by_cases h2 : c ≤ 57
    · have hd : digB c = true := by simp [digB, h1, h2]
      rw [hd]; clear hd
      go_enter Try.func29, Try.ntmps29
      go_wp2
      go_ret
      exact ⟨ret_bool (by simp), rfl⟩
    · have hd : digB c = false := by simp [digB, h2]
      rw [hd]; clear hd
      go_enter Try.func29, Try.ntmps29
      go_wp2
      go_ret
      exact ⟨ret_bool (by simp), rfl⟩
  · have hd : digB c = false := by simp [digB, h1]
    rw [hd]; clear hd
    go_enter Try.func29, Try.ntmps29
    go_wp2
    go_ret
    exact ⟨ret_bool (by simp), rfl⟩

set_option maxHeartbeats 400000 in
theorem isHex_any (c : Int) (w : World) :
    Calls Try.prog 30 #[.int .u8 c] w fun e w' => e = .returned (.bool (hexB c)) ∧ w' = w := by
  obtain ⟨hx, H⟩ : ∃ hx, Hid (hexB c = hx) := ⟨_, rfl⟩
  rw [H.out]
  rcases (show (48 ≤ c ∧ c ≤ 57) ∨ (97 ≤ c ∧ c ≤ 102) ∨ (65 ≤ c ∧ c ≤ 70) ∨ c < 48 ∨ (57 < c ∧ c < 65) ∨ (70 < c ∧ c < 97) ∨ 102 < c from by omega) with h | h | h | h | h | h | h
  all_goals
    try obtain ⟨h1, h2⟩ := h
    go_enter Try.func30, Try.ntmps30
    go_wp2
    go_ret
    refine ⟨ret_bool ?_, rfl⟩
    rw [← H.out, Bool.eq_iff_iff]; simp [hexB]; omega

theorem Try.info5 : (Try.prog.info? 5).map (fun i => (i.zero, i.size, i.bytes)) = some (some (.int .u8 0), 1, 1) := by kernel_rfl

theorem eql_nil : ∀ (w : World) (a : Option Addr) (n c n' c' : Nat), (binOp .eql 22 (.slice a n c) (.slice none n' c')).run Try.prog w = .ok (.bool a.isNone) w :=
  fun w a n c n' c' => Lib.run_eql_slice_nil w _ _ a n c n' c' Try.underlying22

theorem clone_nil (w : World) :
    Calls Try.prog 9 #[.slice none 0 0] w fun e w' => e = .returned (.slice none 0 0) ∧ w' = w := by
  have q22 := eql_nil
  go_enter Try.func9, Try.ntmps9
  go_wp2
  go_ret
  exact ⟨rfl, rfl⟩

def cloned (g : Nat → Int) (n k : Nat) : List Value := (List.range n).map fun j => Value.int .u8 (if j < k then g j else 0)
theorem cloned_set (g : Nat → Int) (n k : Nat) : (cloned g n k).set k (.int .u8 (g k)) = cloned g n (k + 1) := by
  apply List.ext_getElem?
  intro j
  unfold cloned
  by_cases hj : j < n
  · by_cases hk : k = j
    · subst hk; simp [hj]
    · have : (j < k + 1) = (j < k) := by apply propext; omega
      simp [hj, hk, this]
  · simp [hj]
theorem cloned_zero (g : Nat → Int) (n : Nat) : (madeCells #[Value.int .u8 0] n).toList = cloned g n 0 := by
  rw [toList_madeCells_one]
  apply List.ext_getElem?
  intro j
  by_cases hj : j < n
  · simp [cloned, hj]
  · simp [cloned, hj]
theorem cloned_at (g : Nat → Int) (n j : Nat) (h : j < n) : (cloned g n n)[j]? = some (.int .u8 (g j)) := by simp [cloned, h]

theorem cloned_cur (g : Nat → Int) (n k : Nat) (h : k < n) : (cloned g n k)[k]? = some (.int .u8 0) := by simp [cloned, h]

set_option maxHeartbeats 400000 in
theorem clone_row (b off n cap : Nat) (g : Nat → Int) (w : World) (hn : n ≤ 1048576) (hb : b < w.heap.size)
    (hc : ∀ j, j < n → w.cell? ⟨b, off + j, none⟩ = some (.int .u8 (g j))) :
    Calls Try.prog 9 #[.slice (some ⟨b, off, none⟩) n cap] w fun e w' => e = .returned (.slice (some ⟨w.heap.size, 0, none⟩) n n) ∧ w.heap.size < w'.heap.size ∧
      (∀ j, j < n → w'.cell? ⟨w.heap.size, j, none⟩ = some (.int .u8 (g j))) ∧ Below w.heap.size w w' := by
  have q22 := eql_nil
  obtain ⟨i0, hi, hz0, hz1, hz2⟩ := info_parts Try.info5
  go_enter Try.func9, Try.ntmps9
  go_wp2_with (at_make; refine wpList_make_full _ rfl _ _ 22 rfl w.heap.size 5 i0 (.int .u8 0) 1 Try.underlying22 hi hz0 hz1 _ _ _ _ n rfl rfl rfl rfl ?b1 ?b2 ?b3 ?_)
  case b1 => rw [hz2]; omega
  case b2 => unfold maxLen; omega
  case b3 => exact Nat.le_refl _
  intro w1 hown hgrow
  rw [cloned_zero g] at hown
  have hbel : Below w.heap.size w w1 := (Below.refl _ _).grown hgrow (Nat.le_refl _) (by intro k h; cases h)
  clear hgrow hi hz0 hz1 hz2
  go_wp2
  go_loopw [4] (fun i wr => ∃ k : Nat, k ≤ n ∧ i = .int .i64 k ∧ wr.ownsRow w.heap.size 5 1 (.slice (some ⟨w.heap.size, 0, none⟩) n n) n (cloned g n k) ∧ Below w.heap.size w wr) (fun i _ => n - (intOf i).toNat)
  case atStart => exact ⟨0, Nat.zero_le _, rfl, hown, hbel⟩
  case round =>
    obtain ⟨k, hk, rfl, hownk, hbelk⟩ := hrel
    clear hown hbel
    by_cases hlt : k < n
    · have hcx : wr.cell? ⟨b, off + k, none⟩ = some (.int .u8 (g k)) := (hbelk.cell (by exact hb)).trans (hc k hlt)
      have hcy : wr.cell? ⟨w.heap.size, k, none⟩ = some (.int .u8 0) := (hownk.cellAt k (by omega)).trans (cloned_cur g n k hlt)
      have hfr := hownk.frozenAt k
      have hst := hownk.stored k (.int .u8 (g k))
      rw [cloned_set] at hst
      have R1 := hst.1
      have R2 : Below w.heap.size w (wr.setCell ⟨w.heap.size, k, none⟩ (.int .u8 (g k))) := hbelk.setCell (Nat.le_refl _) _
      clear hst
      go_wp2
      go_roundw
      case rel => exact ⟨k + 1, by omega, by go_num, R1, R2⟩
      case measure => simp [intOf]; omega
    · obtain rfl : k = n := by omega
      have hs := hownk.lt w.heap.size rfl
      go_wp2
      go_ret
      exact ⟨rfl, hs.2, fun j hj => (hownk.cellAt j (by omega)).trans (cloned_at g k j hj), hbelk⟩
/-- Cells that lie in a block that was there read as before behind whatever has come since. -/
theorem cells_on {w w1 : World} {b off n : Nat} {g : Nat → Int} {B : Nat} (hb : Below B w w1) (hB : b < B) (hc : ∀ j, j < n → w.cell? ⟨b, off + j, none⟩ = some (.int .u8 (g j))) :
    ∀ j, j < n → w1.cell? ⟨b, off + j, none⟩ = some (.int .u8 (g j)) := fun j hj => (hb.cell (p := ⟨b, off + j, none⟩) hB).trans (hc j hj)

theorem add_at (b off j : Nat) : (⟨b, off, none⟩ : Addr).add j = ⟨b, off + j, none⟩ := by unfold Addr.add; split <;> simp_all

/-- A row of bytes that came in, opened: its block, its offset, its cells. -/
theorem row_open {w : World} {x : Addr} {n cap : Nat} {zs : List Int} (hpos : 0 < n) (hl : n ≤ cap) (hz : zs.length = cap) (hcell : ∀ i, i < zs.length → w.cell? (x.add i) = some (.int .u8 (zs.getD i 0))) :
    ∃ b off, x = ⟨b, off, none⟩ ∧ b < w.heap.size ∧ ∀ j, j < n → w.cell? ⟨b, off + j, none⟩ = some (.int .u8 (zs.getD j 0)) := by
  obtain ⟨b, off, spot⟩ := x
  have h0 := hcell 0 (by omega)
  have hspot : spot = none := by simpa [Addr.add] using World.cell?_spot h0
  subst hspot
  refine ⟨b, off, rfl, ?_, fun j hj => by rw [← add_at]; exact hcell j (by omega)⟩
  apply Classical.byContradiction
  intro hlt
  have : w.heap[b]? = none := Array.getElem?_eq_none (by omega)
  simp [World.cell?, Addr.add, this] at h0
theorem bcell {W w1 : World} (hb : Below W.heap.size W w1) : (∀ b o, b < W.heap.size → w1.cell? ⟨b, o, none⟩ = W.cell? ⟨b, o, none⟩) ∧ (∀ b o, b < W.heap.size → w1.frozen? ⟨b, o, none⟩ = W.frozen? ⟨b, o, none⟩) :=
  ⟨fun b o h => hb.cell (p := ⟨b, o, none⟩) h, fun b o h => hb.frozen (p := ⟨b, o, none⟩) h⟩
theorem below_two {w w1 : World} {o : Obj} (hb1 : Below (w.alloc o).heap.size (w.alloc o) w1) (x y : Value) :
    Below w.heap.size w ((w1.setCell ⟨w.heap.size, 0, none⟩ x).setCell ⟨w.heap.size, 1, none⟩ y) :=
  ((((Below.refl _ _).alloc (Nat.le_refl _) _).trans (hb1.mono (by simp))).setCell (Nat.le_refl _) _).setCell (Nat.le_refl _) _

theorem old_cells {w : World} {o : Obj} {b off n : Nat} {g : Nat → Int} (hb : b < w.heap.size) (hc : ∀ j, j < n → w.cell? ⟨b, off + j, none⟩ = some (.int .u8 (g j))) :
    ∀ j, j < n → (w.alloc o).cell? ⟨b, off + j, none⟩ = some (.int .u8 (g j)) := cells_on ((Below.refl w.heap.size w).alloc (Nat.le_refl _) o) hb hc

end Go.Proofs.Qxb6601451a
