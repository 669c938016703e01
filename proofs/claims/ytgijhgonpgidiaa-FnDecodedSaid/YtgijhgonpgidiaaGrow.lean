/-
  Worlds that grow but for one block. No statement of the seat is proved here.
-/
import Derived.Test.YtgijhgonpgidiaaL1
namespace Go.Proofs.Ytgijhgonpgidiaa
open Go.RowKit Go.Proofs.YtgijhgonpgidiaaW.PrintWords

theorem below_grows {B : Nat} {a b : World} {row : Option Nat} (h : Below B a b) (hB : B = a.heap.size) : a.grownBy b row := ⟨h.os, h.tape, h.output, h.size, fun k hk _ => h.block k (by omega)⟩
theorem grown_over {w a b : World} {row row1 : Option Nat} (h : w.grownBy a row) (k : a.grownBy b row1) (hr : ∀ j, row1 = some j → w.heap.size ≤ j) : w.grownBy b row :=
  ⟨k.os.trans h.os, k.tape.trans h.tape, k.output.trans h.output, Nat.le_trans h.size k.size, fun i hi hne => by
    rw [k.block i (Nat.lt_of_lt_of_le hi h.size) (fun he => by have := hr i he.symm; omega), h.block i hi hne]⟩

theorem take_snoc' {α : Type} {l : List α} {k : Nat} {x : α} (hx : l[k]? = some x) : l.take (k + 1) = l.take k ++ [x] := by
  have hk : k < l.length := (List.getElem?_eq_some_iff.1 hx).1
  rw [List.take_succ_eq_append_getElem hk]; congr 1
  rw [List.getElem?_eq_getElem hk] at hx; injection hx with hx; rw [hx]

theorem g4_append {xs ys : List Int} (h : 4 ≤ xs.length) : g4 (xs ++ ys) = g4 xs := by
  unfold g4
  simp only [List.getD_eq_getElem?_getD]
  rw [List.getElem?_append_left (by omega), List.getElem?_append_left (by omega), List.getElem?_append_left (by omega), List.getElem?_append_left (by omega)]
end Go.Proofs.Ytgijhgonpgidiaa
