/-
  The walk of FnWidth. No statement of the seat is proved here.
-/
import Derived.Test.YtgijhgonpgidiaaFlagW
namespace Go.Proofs.Ytgijhgonpgidiaa
open Go.RowKit Go.Proofs.YtgijhgonpgidiaaW.PrintWords

set_option maxRecDepth 100000 in
set_option maxHeartbeats 800000 in
theorem width47 (k : Int) (w : World) (hk : 0 ≤ k ∧ k ≤ 11) : Calls Try.prog 47 #[.int .i64 k] w fun e w' => e = .returned (.int .i64 (widthK k)) ∧ w = w' := by
  go_enter Try.func47, Try.ntmps47
  go_wp2_with fail
  refine (width79 k w hk).mono ?_
  rintro e w' ⟨rfl, rfl⟩
  go_wp2_with fail
  go_ret
  exact ⟨rfl, rfl⟩

set_option maxRecDepth 100000 in
set_option maxHeartbeats 3200000 in
theorem walk18 (kind : Int) (dv : Value) (data : List Int) (ok : Nat → Prop) (w : World) (hS : Sl ok w dv data) (hb : IsB data) :
    Calls Try.prog 18 #[.int .i64 kind, dv] w fun e w' => e = .returned (.bool true) ∧ Below w.heap.size w w' := by
  have hdl0 := hS.len
  obtain ⟨A, c, rfl, _⟩ := hS.form
  have HS := Lib.hid hS
  have HIB := Lib.hid hb
  clear hS hb
  by_cases h1 : 2147483647 < data.length
  · go_enter Try.func18, Try.ntmps18
    go_wp2_with fail
    go_ret
    exact ⟨rfl, Below.refl _ _⟩
  by_cases k1 : kind < 0
  · go_enter Try.func18, Try.ntmps18
    go_wp2_with fail
    refine (works22 w).mono ?_
    rintro e w4 ⟨rfl, H4⟩
    go_wp2_with fail
    go_ret
    exact ⟨rfl, H4.out⟩
  by_cases k2 : 7 < kind
  · go_enter Try.func18, Try.ntmps18
    go_wp2_with fail
    refine (works22 w).mono ?_
    rintro e w4 ⟨rfl, H4⟩
    go_wp2_with fail
    go_ret
    exact ⟨rfl, H4.out⟩
  by_cases h2 : (data.length : Int) = widthK kind
  · have h2b : ((data.length : Int) == (widthK kind : Int)) = true := by simpa using h2
    clear h2
    go_enter Try.func18, Try.ntmps18
    go_wp2_with fail
    refine (width47 kind w (by omega)).mono ?_
    rintro e w4 ⟨rfl, rfl⟩
    go_wp2_with fail
    refine (works22 w).mono ?_
    rintro e w4 ⟨rfl, H4⟩
    go_wp2_with fail
    go_ret
    exact ⟨rfl, H4.out⟩
  have h2b : ((data.length : Int) == (widthK kind : Int)) = false := by simpa using h2
  by_cases h3 : 100 < data.length
  · clear h2
    go_enter Try.func18, Try.ntmps18
    go_wp2_with fail
    refine (width47 kind w (by omega)).mono ?_
    rintro e w4 ⟨rfl, rfl⟩
    go_wp2_with fail
    refine (works22 w).mono ?_
    rintro e w4 ⟨rfl, H4⟩
    go_wp2_with fail
    go_ret
    exact ⟨rfl, H4.out⟩
  have H2 := Lib.hid h2
  clear h2
  go_enter Try.func18, Try.ntmps18
  go_wp2_with fail
  refine (width47 kind w (by omega)).mono ?_
  rintro e w4 ⟨rfl, rfl⟩
  go_wp2_with fail
  obtain ⟨W, hW⟩ : ∃ X, X = w.alloc (.cells #[.int .i64 1, .slice A data.length c] 61) := ⟨_, rfl⟩
  have hB : Below w.heap.size w W := by rw [hW]; exact (Below.refl _ _).alloc (Nat.le_refl _) _
  have k0 : W.heap[w.heap.size]? = some (.cells #[.int .i64 1, .slice A data.length c] 61) := by rw [hW]; exact heap_alloc_new _ _
  have hdl : data.length ≤ 100 := by omega
  have HR := Lib.hid (one_rd k0 (HS.out.below hB))
  have HW := Lib.hid hW
  have HB := Lib.hid hB
  clear hW hB k0
  rw [← HW.out]
  refine (attrBytes28 W _ [(1, data)] _ HR.out (fun a ha => by simp only [List.mem_cons, List.not_mem_nil, or_false] at ha; subst ha; exact ⟨by omega, by simp; omega⟩) (by have := one_len hdl; omega)).mono ?_
  rintro e w1 ⟨u1, rfl, H1⟩
  obtain ⟨A1, c1, rfl, _⟩ := Ob.form H1.out.1
  have hB1 := below_then HB.out HB.out.size H1.out.2
  obtain ⟨x, hx⟩ : ∃ x, x = w1.heap.size := ⟨_, rfl⟩
  obtain ⟨W2, hW2⟩ : ∃ X, X = w1.alloc (.cells #[.int .i64 0, .int .i64 kind, .int .i64 0, .int .i64 0, .string ⟨#[]⟩, .slice none 0 0, .slice none 0 0] 78) := ⟨_, rfl⟩
  have hb2 : Below w1.heap.size w1 W2 := by rw [hW2]; exact (Below.refl _ _).alloc (Nat.le_refl _) _
  have kx : W2.heap[x]? = some (fldO 0 kind 0 0 ⟨#[]⟩ (.slice none 0 0) (.slice none 0 0)) := by rw [hW2, hx]; exact heap_alloc_new _ _
  have HC := Lib.hid (one44 kind x _ data _ W2 kx ((Ob.sl H1.out.1).bound.below hb2) HIB.out hdl (.inl ⟨by omega, by omega, H2.out⟩))
  have HB2 := Lib.hid (below_then hB1 hB1.size hb2)
  have HX := Lib.hid hx
  have HW2 := Lib.hid hW2
  clear hB1 hb2 kx hx hW2 H1
  go_wp2_with fail
  rw [← HW2.out, ← HX.out]
  refine HC.out.mono ?_
  rintro e w3 ⟨rfl, H3⟩
  have HB3 := Lib.hid (below_then HB2.out HB2.out.size H3.out)
  go_wp2_with fail
  refine (works22 w3).mono ?_
  rintro e w4 ⟨rfl, H4⟩
  go_wp2_with fail
  go_ret
  exact ⟨rfl, below_then HB3.out HB3.out.size H4.out⟩
end Go.Proofs.Ytgijhgonpgidiaa
