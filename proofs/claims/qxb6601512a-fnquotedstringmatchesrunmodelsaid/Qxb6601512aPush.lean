/- A buffer of bytes that the call itself has made: one append within its capacity; the string made of it. -/
import Derived.Test.Qxb6601512aQuoted
import Derived.Laws.IdiomStrings
namespace Go.Proofs.Qxb6601512a
open Go.RowKit

/-- The slice value at the head of block B, of acc.length elements and capacity cap, owns the bytes acc. -/
def Buf (B cap : Nat) (acc : List UInt8) (w : World) : Prop :=
  w.ownsRow B 5 1 (.slice (some ⟨B, 0, none⟩) acc.length cap) acc.length (Lib.byteCells acc)

theorem Buf.lt {B cap : Nat} {acc : List UInt8} {w : World} (h : Buf B cap acc w) : B < w.heap.size := (World.ownsRow.lt h B rfl).2

theorem wp_push {ops : Array Oper} {rest : List Oper} {o : Oper} {a : Act} {Q : Exit → Act → World → Prop} (w : World)
    (hg : o.guard = none) (s x : Operand) (hop : o.op = Op.call { callee := Callee.builtin Builtin.append, args := #[s, x], argTypes := #[35, 35] })
    (B cap : Nat) (acc : List UInt8) (z : Int) (c : UInt8) (hz : z = (c.toNat : Int)) (hs : a.eval s = .slice (some ⟨B, 0, none⟩) acc.length cap) (hx : a.eval x = .slice (some ⟨w.heap.size, 0, none⟩) 1 1)
    (hB : Buf B cap acc w) (hroom : acc.length + 1 ≤ cap)
    (hK : ∀ w', Buf B cap (acc ++ [c]) w' → Below B w w' → wpList Try.prog ops Q rest (a.put o.dst (.slice (some ⟨B, 0, none⟩) (acc.length + 1) cap)) w') :
    wpList Try.prog ops Q (o :: rest) a (w.alloc (.cells #[.int .u8 z] 5)) := by
  subst hz
  obtain ⟨i0, hi, hz0, hz1, hz2⟩ := info_parts info5
  refine wpList_append_fits _ hg s x 35 hop B 5 i0 1 Try.underlying35 hi hz1 B acc.length cap (Lib.byteCells acc) hs (World.ownsRow.alloc hB _) ⟨w.heap.size, 0, none⟩ 1 1 [.int .u8 c.toNat] hx rfl ?_ ?_ hroom ?_
  · intro j u hj
    match j, hj with
    | 0, hj => simp at hj; subst hj; simp [Addr.add]
  · intro u hu; simp at hu; subst hu; rfl
  · intro w' hown hgrow
    refine hK w' ?_ ?_
    · unfold Buf
      rw [cells_snoc, List.length_append]
      exact hown
    · exact ((Below.refl B w).alloc (Nat.le_of_lt hB.lt) _).grown hgrow (by have := hB.lt; simp; omega) (fun k hk => by cases hk; exact Nat.le_refl _)

/-- 'string(out)'. -/
theorem Buf.text {B cap : Nat} {acc : List UInt8} {w : World} (h : Buf B cap acc w) :
    (convert 35 9 (.slice (some ⟨B, 0, none⟩) acc.length cap)).run Try.prog w = .ok (.string ⟨acc.toArray⟩) w := by
  refine run_convert_bytes_back w 35 9 5 ⟨B, 0, none⟩ cap acc Try.underlying35 Try.underlying5 Try.underlying9 ?_
  intro j hj
  have := World.ownsRow.cells h (g := B) rfl j (.int .u8 (acc[j].toNat : Int)) (by simp [Lib.byteCells, hj])
  exact this

end Go.Proofs.Qxb6601512a
