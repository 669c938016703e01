/-
  A slice of messages as the frame hands it, opened to what the walks ask. No statement of the seat is proved here.
-/
import Derived.Test.YtgijhgonpgidiaaOpen
import Derived.Test.YtgijhgonpgidiaaMs
namespace Go.Proofs.Ytgijhgonpgidiaa
open Go.RowKit Go.ChangeShapes Go.WideShapes Go.Deep Go.Proofs.YtgijhgonpgidiaaW.PrintWords
section
variable {H : Type} {enc : TypeId × Value → H} {w : World} {base : Nat} {spare : Nat → Bool} {held : Bool} {fuel : Nat}
set_option maxRecDepth 100000 in
/-- A slice of the thin package's messages. -/
theorem open_msgs {v : Value} {x : DataW H × List MemPlace} (h : DataW.trod enc Try.prog w base spare held fuel 52 [v] = some x) : ∃ l, elM.Rd (fun _ => True) w v l ∧ ∀ a ∈ l, IsB a.data := by
  refine open_rows elM (P := fun a => IsB a.data) Try.underlying52 (by kernel_rfl) (by decide) (fun n cs y _ hl h => ?_) h
  obtain ⟨m, _, hf⟩ := open_flds Try.underlying41 (by kernel_rfl) h
  match cs, hl with
  | [c0, c1, c2, c3, c4, c5], _ =>
    obtain ⟨y0, h0⟩ := hf 0 _ rfl
    obtain ⟨y1, h1⟩ := hf 1 _ rfl
    obtain ⟨y2, h2⟩ := hf 2 _ rfl
    obtain ⟨y3, h3⟩ := hf 3 _ rfl
    obtain ⟨y4, h4⟩ := hf 4 _ rfl
    obtain ⟨y5, h5⟩ := hf 5 _ rfl
    obtain ⟨a0, e0, _⟩ := DataW.trod_int Try.underlying3 h0
    obtain ⟨a1, e1, _⟩ := DataW.trod_int Try.underlying3 h1
    obtain ⟨a2, e2, _⟩ := DataW.trod_int Try.underlying3 h2
    obtain ⟨a3, e3, _⟩ := DataW.trod_int Try.underlying3 h3
    obtain ⟨a4, e4, _⟩ := DataW.trod_int Try.underlying3 h4
    obtain ⟨xs, hxs, hb⟩ := open_bytes (v := c5) h5
    simp at e0 e1 e2 e3 e4
    subst e0 e1 e2 e3 e4
    exact ⟨⟨a0, a1, a2, a3, a4, xs⟩, ⟨c5, rfl, hxs⟩, hb⟩
end
end Go.Proofs.Ytgijhgonpgidiaa
