/-
  Contract of fits: at a field that can be written. No statement of the seat is proved here.
-/
import Derived.Test.YtgijhgonpgidiaaNest
namespace Go.Proofs.Ytgijhgonpgidiaa
open Go.RowKit Go.Proofs.YtgijhgonpgidiaaW.PrintWords

set_option maxRecDepth 100000 in
set_option maxHeartbeats 3200000 in
theorem fits80 (ty kind fl n : Int) (text : ByteArray) (dv kv : Value) (w : World) (hk : 0 ≤ kind ∧ kind ≤ 11) (hn : numOk kind n) :
    Calls Try.prog 80 #[.agg #[.int .i64 ty, .int .i64 kind, .int .i64 fl, .int .i64 n, .string text, dv, kv]] w fun e w' => e = .returned (.bool true) ∧
      w.alloc (.cells #[.int .i64 ty, .int .i64 kind, .int .i64 fl, .int .i64 n, .string text, dv, kv] 78) = w' := by
  have hc : kind = 0 ∨ kind = 1 ∨ kind = 2 ∨ kind = 3 ∨ kind = 4 ∨ kind = 5 ∨ kind = 6 ∨ kind = 7 ∨ kind = 8 ∨ kind = 9 ∨ kind = 10 ∨ kind = 11 := by omega
  obtain ⟨n0, n1, n2, n4, n5, n6, n10⟩ := hn
  rcases hc with rfl | rfl | rfl | rfl | rfl | rfl | rfl | rfl | rfl | rfl | rfl | rfl
  all_goals
    simp only [Int.reduceEq, forall_const, false_implies] at n0 n1 n2 n4 n5 n6 n10
    go_enter Try.func80, Try.ntmps80
    go_wp2_with (go_at_call 57; refine (within57 n _ _ _ (by omega) (by omega)).mono ?_; rintro e w' ⟨rfl, rfl⟩)
    go_ret
    exact ⟨rfl, rfl⟩
end Go.Proofs.Ytgijhgonpgidiaa
