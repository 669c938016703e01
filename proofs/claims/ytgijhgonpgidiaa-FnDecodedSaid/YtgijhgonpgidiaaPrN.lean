/-
  Contract of properNumber. No statement of the seat is proved here.
-/
import Derived.Test.YtgijhgonpgidiaaPrT
import Derived.Test.YtgijhgonpgidiaaFb
namespace Go.Proofs.Ytgijhgonpgidiaa
open Go.RowKit Go.Proofs.YtgijhgonpgidiaaW.PrintWords
/-- It answers, and where it says yes this holds. -/
def YesIf (e : Ending) (P : Prop) : Prop := ∃ b, e = .returned (.bool b) ∧ (b = true → P)
set_option maxRecDepth 100000 in
set_option maxHeartbeats 3200000 in
theorem num73 (k n : Int) (w : World) (hk : 0 ≤ k ∧ k ≤ 7) (hn : -9223372036854775808 ≤ n ∧ n < 9223372036854775808) :
    Calls Try.prog 73 #[.int .i64 k, .int .i64 n] w fun e w' => YesIf e (numOk k n) ∧ w = w' := by
  have hc : k = 0 ∨ k = 1 ∨ k = 2 ∨ k = 3 ∨ k = 4 ∨ k = 5 ∨ k = 6 ∨ k = 7 := by omega
  rcases hc with rfl | rfl | rfl | rfl | rfl | rfl | rfl | rfl
  all_goals
    go_enter Try.func73, Try.ntmps73
    go_wp2_with fail
    refine (width79 _ w (by omega)).mono ?_
    rintro e w' ⟨rfl, rfl⟩
    simp only [widthK]
    go_wp2_with fail
    all_goals
      go_ret
      first
      | exact ⟨⟨false, rfl, fun h => by cases h⟩, rfl⟩
      | exact ⟨⟨_, rfl, fun h => by simp [numOk] at h ⊢ <;> omega⟩, rfl⟩
end Go.Proofs.Ytgijhgonpgidiaa
