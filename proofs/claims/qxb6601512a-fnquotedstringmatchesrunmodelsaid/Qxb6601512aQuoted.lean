/- The contract of quotedString. -/
import Derived.Test.Qxb6601512aPlain
import Derived.Test.Qxb6601512aBuilder
import Derived.Deep.Light
namespace Go.Proofs.Qxb6601512a
open Go.RowKit

theorem drop_at (s : ByteArray) (k : Nat) (h : k < s.size) : s.data.toList.drop k = s[k] :: s.data.toList.drop (k + 1) := by
  rw [List.drop_eq_getElem_cons (by simpa using h)]; rfl
theorem cells_snoc (l : List UInt8) (c : UInt8) : Lib.byteCells (l ++ [c]) = Lib.byteCells l ++ [.int .u8 c.toNat] := by
  simp [Lib.byteCells]

theorem rd_lone : rd [92] = ([], 1) := rfl
theorem rd_nil : rd [] = ([], 0) := rfl

/-- Where the loop stands: place k, the bytes acc gathered. -/
def At (l : List UInt8) (n k : Nat) (acc : List UInt8) : Prop :=
  (k ≤ n ∧ (rd (l.drop 1)).1 = acc ++ (rd (l.drop k)).1 ∧ (rd (l.drop 1)).2 + 1 = k + (rd (l.drop k)).2) ∨ (k = n + 1 ∧ (rd (l.drop 1)).1 = acc ∧ (rd (l.drop 1)).2 + 1 = n)

set_option maxRecDepth 100000 in
set_option maxHeartbeats 1000000 in
theorem quoted_any (s : ByteArray) (w : World) (hn : s.size ≤ 8388608) (h1 : 1 ≤ s.size) (text : List UInt8) (N : Nat) (HT : Hid ((rd (s.data.toList.drop 1)).1 = text)) (HNN : Hid ((rd (s.data.toList.drop 1)).2 + 1 = N)) :
    Calls Try.prog 23 #[.string s] w fun e w' => e = .returned (.tuple #[.string ⟨text.toArray⟩, .int .i64 N]) ∧ Below w.heap.size w w' := by
  go_enter Try.func23, Try.ntmps23
  go_wp2
  go_loopw [5] (fun i wr => ∃ (k : Nat) (acc : List UInt8), 1 ≤ k ∧ k ≤ s.size + 1 ∧ acc.length ≤ k ∧ i = .int .i64 k ∧ Lib.IsBuilder 40 5 w.heap.size w.heap.size (Lib.byteCells acc) wr ∧ Below w.heap.size w wr ∧ Hid (At s.data.toList s.size k acc)) (fun i _ => s.size + 1 - (intOf i).toNat)
  case atStart => exact ⟨1, [], Nat.le_refl _, by omega, by simp, rfl, Lib.fresh_isBuilder 40 5 w, (Below.refl _ _).alloc (Nat.le_refl _) _, .inl ⟨h1, by simp, by omega⟩⟩
  case round =>
    obtain ⟨k, acc, hk1, hk, hacc, rfl, hB, hbel, HA⟩ := hrel
    by_cases hlt : k < s.size
    · have hd := drop_at s k hlt
      by_cases hq : s[k] = 34
      · have hq' : ((s[k].toNat : Int) == 34) = true := by rw [hq]; rfl
        have hfin : text = acc ∧ N = k + 1 := by
          rcases HA.out with ⟨_, a1, a2⟩ | ⟨a0, _⟩
          · rw [hd, hq, rd_quote] at a1 a2
            rw [← HT.out, ← HNN.out]; exact ⟨by simpa using a1, by simpa using a2⟩
          · omega
        obtain ⟨rfl, rfl⟩ := hfin
        clear HA HT HNN hd hq
        go_wp2_with fail
        refine (Builder_String_any w.heap.size w.heap.size text wr hB hbel.size).mono ?_
        rintro e w1 ⟨rfl, hb1⟩
        clear hB
        go_wp2
        go_ret2
        exact ⟨rfl, hbel.trans hb1⟩
      · have hq' : ((s[k].toNat : Int) == 34) = false := by
          rw [beq_eq_false_iff_ne]; intro h; exact hq (UInt8.toNat_inj.1 (by have : s[k].toNat = 34 := by omega
                                                                             exact this))
        by_cases hbs : s[k] = 92
        · have hbs' : ((s[k].toNat : Int) == 92) = true := by rw [hbs]; rfl
          by_cases hlt1 : k + 1 < s.size
          · have hd1 := drop_at s (k + 1) hlt1
            have HN : Hid (At s.data.toList s.size (k + 1 + 1) (acc ++ [s[k + 1]])) := by
              rcases HA.out with ⟨_, a1, a2⟩ | ⟨a0, _⟩
              · rw [hd, hbs, hd1, rd_back] at a1 a2
                refine .inl ⟨by omega, by rw [a1]; simp, by rw [a2]; omega⟩
              · omega
            have hlen : (Lib.byteCells acc).length + 1 ≤ 140737488355328 := by rw [Lib.byteCells_length]; omega
            clear HA hd hd1 hq hbs
            go_wp2_with fail
            refine (writeByte_any w.heap.size w.heap.size _ _ wr hB hlen hbel.size).mono ?_
            rintro e w1 ⟨rfl, hB1, hb1⟩
            have hB2 : Lib.IsBuilder 40 5 w.heap.size w.heap.size (Lib.byteCells (acc ++ [s[k + 1]])) w1 := by rw [cells_snoc]; exact .inr hB1
            clear hB hB1
            go_wp2
            go_roundw
            case rel => exact ⟨k + 1 + 1, acc ++ [s[k + 1]], by omega, by omega, by simp; omega, by go_num, hB2, hbel.trans hb1, HN⟩
            case measure => simp [intOf]; omega
          · have HN : Hid (At s.data.toList s.size (k + 2) acc) := by
              rcases HA.out with ⟨_, a1, a2⟩ | ⟨a0, _⟩
              · have e0 : s.data.toList.drop (k + 1) = [] := List.drop_eq_nil_of_le (by simp; omega)
                rw [hd, hbs, e0, rd_lone] at a1 a2
                have a3 : (rd (s.data.toList.drop 1)).2 + 1 = k + 1 := a2
                refine .inr ⟨by omega, by simpa using a1, by omega⟩
              · omega
            clear HA hd hq hbs
            go_wp2
            go_roundw
            case rel => exact ⟨k + 2, acc, by omega, by omega, by omega, by go_num, hB, hbel, HN⟩
            case measure => simp [intOf]; omega
        · have hbs' : ((s[k].toNat : Int) == 92) = false := by
            rw [beq_eq_false_iff_ne]; intro h; exact hbs (UInt8.toNat_inj.1 (by have : s[k].toNat = 92 := by omega
                                                                                exact this))
          have HN : Hid (At s.data.toList s.size (k + 1) (acc ++ [s[k]])) := by
            rcases HA.out with ⟨_, a1, a2⟩ | ⟨a0, _⟩
            · rw [hd, rd_other _ _ hq hbs] at a1 a2
              refine .inl ⟨by omega, by rw [a1]; simp, by rw [a2]; omega⟩
            · omega
          have hlen : (Lib.byteCells acc).length + 1 ≤ 140737488355328 := by rw [Lib.byteCells_length]; omega
          clear HA hd hq hbs
          go_wp2_with fail
          refine (writeByte_any w.heap.size w.heap.size _ _ wr hB hlen hbel.size).mono ?_
          rintro e w1 ⟨rfl, hB1, hb1⟩
          have hB2 : Lib.IsBuilder 40 5 w.heap.size w.heap.size (Lib.byteCells (acc ++ [s[k]])) w1 := by rw [cells_snoc]; exact .inr hB1
          clear hB hB1
          go_wp2
          go_roundw
          case rel => exact ⟨k + 1, acc ++ [s[k]], by omega, by omega, by simp; omega, by go_num, hB2, hbel.trans hb1, HN⟩
          case measure => simp [intOf]; omega
    · have hfin : text = acc ∧ N = s.size := by
        rcases HA.out with ⟨a0, a1, a2⟩ | ⟨a0, a1, a2⟩
        · have e0 : s.data.toList.drop k = [] := List.drop_eq_nil_of_le (by simp; omega)
          rw [e0, rd_nil] at a1 a2
          have a3 : (rd (s.data.toList.drop 1)).2 + 1 = k := a2
          rw [← HT.out, ← HNN.out]; exact ⟨by simpa using a1, by omega⟩
        · rw [← HT.out, ← HNN.out]; exact ⟨a1, a2⟩
      obtain ⟨rfl, rfl⟩ := hfin
      clear HA HT HNN
      go_wp2_with fail
      refine (Builder_String_any w.heap.size w.heap.size text wr hB hbel.size).mono ?_
      rintro e w1 ⟨rfl, hb1⟩
      clear hB
      go_wp2
      go_ret2
      exact ⟨rfl, hbel.trans hb1⟩

set_option maxHeartbeats 400000 in
theorem quoted_empty (s : ByteArray) (w : World) (h0 : s.size = 0) :
    Calls Try.prog 23 #[.string s] w fun e w' => e = .returned (.tuple #[.string ⟨([] : List UInt8).toArray⟩, .int .i64 0]) ∧ Below w.heap.size w w' := by
  have hB := Lib.fresh_isBuilder 40 5 w
  go_enter Try.func23, Try.ntmps23
  go_wp2_with fail
  refine wp_loop_rounds 1 ?_
  rw [rounds_succ]
  go_wp2_with fail
  refine (Builder_String_any w.heap.size w.heap.size [] _ hB (by simp)).mono ?_
  rintro e w1 ⟨rfl, hb1⟩
  go_wp2
  go_ret2
  exact ⟨rfl, ((Below.refl _ _).alloc (Nat.le_refl _) _).trans hb1⟩

/-- What quotedString answers. -/
def qs : List UInt8 → List UInt8 × Nat
  | [] => ([], 0)
  | _ :: t => ((rd t).1, (rd t).2 + 1)

theorem quoted_qs (s : ByteArray) (w : World) (hn : s.size ≤ 8388608) (text : List UInt8) (N : Nat) (H : qs s.data.toList = (text, N)) :
    Calls Try.prog 23 #[.string s] w fun e w' => e = .returned (.tuple #[.string ⟨text.toArray⟩, .int .i64 N]) ∧ Below w.heap.size w w' := by
  have hs : s.size = s.data.toList.length := by simp
  cases hl : s.data.toList with
  | nil =>
    rw [hl] at H hs
    cases H
    exact quoted_empty s w hs
  | cons c t =>
    rw [hl] at H
    have e1 : s.data.toList.drop 1 = t := by rw [hl]; rfl
    cases H
    exact quoted_any s w hn (by rw [hs, hl]; simp) _ _ (by rw [e1]; exact rfl) (by rw [e1]; exact rfl)

set_option maxHeartbeats 400000 in
theorem ZZquoted_any (s : ByteArray) (w : World) (hn : s.size ≤ 8388608) (text : List UInt8) (N : Nat) (H : qs s.data.toList = (text, N)) :
    Calls Try.prog 10 #[.string s] w fun e w' => e = .returned (.tuple #[.string ⟨text.toArray⟩, .int .i64 N]) ∧ Below w.heap.size w w' := by
  have K := quoted_qs s w hn text N H
  clear H
  go_enter Try.func10, Try.ntmps10
  go_wp2_with fail
  refine K.mono ?_
  rintro e w1 ⟨rfl, hb1⟩
  clear K
  go_wp2
  go_ret2
  exact ⟨rfl, hb1⟩
end Go.Proofs.Qxb6601512a
