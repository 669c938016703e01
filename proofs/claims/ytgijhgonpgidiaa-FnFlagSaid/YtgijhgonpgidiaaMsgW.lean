/-
  The walk of FnMessage. No statement of the seat is proved here.
-/
import Derived.Test.YtgijhgonpgidiaaMsgB
import Derived.Deep.RegionLaw
namespace Go.Proofs.Ytgijhgonpgidiaa
open Go.RowKit Go.Proofs.YtgijhgonpgidiaaW.PrintWords

set_option maxRecDepth 100000 in
set_option maxHeartbeats 1600000 in
theorem walk6 (L t f s p : Int) (dv : Value) (data : List Int) (ok : Nat → Prop) (w : World) (hS : Sl ok w dv data) :
    Calls Try.prog 6 #[.agg #[.int .i64 L, .int .i64 t, .int .i64 f, .int .i64 s, .int .i64 p, dv]] w fun e w' => e = .returned (.bool true) ∧ Below w.heap.size w w' := by
  have hdl0 := hS.len
  obtain ⟨A, c, rfl, _⟩ := hS.form
  obtain ⟨q, hq⟩ : ∃ q, q = w.heap.size := ⟨_, rfl⟩
  obtain ⟨W, hW⟩ : ∃ W, W = w.alloc (.cells #[.int .i64 L, .int .i64 t, .int .i64 f, .int .i64 s, .int .i64 p, .slice A data.length c] 41) := ⟨_, rfl⟩
  have hB : Below w.heap.size w W := by rw [hW]; exact (Below.refl _ _).alloc (Nat.le_refl _) _
  have hsz : W.heap.size = q + 1 := by rw [hW, hq]; simp
  have k0 : W.heap[q]? = some (.cells #[.int .i64 L, .int .i64 t, .int .i64 f, .int .i64 s, .int .i64 p, .slice A data.length c] 41) := by rw [hW, hq]; exact heap_alloc_new _ _
  have HS := Lib.hid (hS.bound.below hB)
  have HW := Lib.hid hW
  have HB := Lib.hid hB
  have HZ := Lib.hid hsz
  have HQ := Lib.hid hq
  have K0 := Lib.hid k0
  have a0 : W.cell? ⟨q, 0, none⟩ = some (.int .i64 L) := blk_cell k0 0
  have a1 : W.cell? ⟨q, 1, none⟩ = some (.int .i64 t) := blk_cell k0 1
  have a2 : W.cell? ⟨q, 2, none⟩ = some (.int .i64 f) := blk_cell k0 2
  have a3 : W.cell? ⟨q, 3, none⟩ = some (.int .i64 s) := blk_cell k0 3
  have a4 : W.cell? ⟨q, 4, none⟩ = some (.int .i64 p) := blk_cell k0 4
  have a5 : W.cell? ⟨q, 5, none⟩ = some (.slice A data.length c) := blk_cell k0 5
  clear hS hW hB hsz k0
  go_enter Try.func6, Try.ntmps6
  go_wp2_with fail
  rw [← hq, ← HW.out]
  clear hq
  refine (fits29 L t f s p A data.length c W (by omega)).mono ?_
  rintro e w1 ⟨b, rfl, hb1, hdl⟩
  have HB1 := Lib.hid (below_then HB.out HB.out.size hb1)
  have k1 := blk_below K0.out hb1
  have b0 : w1.cell? ⟨q, 0, none⟩ = some (.int .i64 L) := blk_cell k1 0
  have b1 : w1.cell? ⟨q, 1, none⟩ = some (.int .i64 t) := blk_cell k1 1
  have b2 : w1.cell? ⟨q, 2, none⟩ = some (.int .i64 f) := blk_cell k1 2
  have b3 : w1.cell? ⟨q, 3, none⟩ = some (.int .i64 s) := blk_cell k1 3
  have b4 : w1.cell? ⟨q, 4, none⟩ = some (.int .i64 p) := blk_cell k1 4
  have b5 : w1.cell? ⟨q, 5, none⟩ = some (.slice A data.length c) := blk_cell k1 5
  have HS1 := Lib.hid (HS.out.below hb1)
  have K1 := Lib.hid k1
  clear hb1 k1 a0 a1 a2 a3 a4 a5
  cases b
  · go_wp2_with fail
    go_ret
    exact ⟨rfl, HB1.out⟩
  have hdl1 : data.length ≤ 2147483647 := hdl (by simp)
  clear hdl
  go_wp2_with fail
  refine (message30 L t f s p A data.length c w1).mono ?_
  rintro e w2 ⟨rfl, hb2⟩
  obtain ⟨x, hx⟩ : ∃ x, x = w2.heap.size := ⟨_, rfl⟩
  obtain ⟨W2, hW2⟩ : ∃ X, X = w2.alloc (.cells #[.int .i64 L, .int .i64 t, .int .i64 f, .int .i64 s, .int .i64 p, .slice A data.length c] 43) := ⟨_, rfl⟩
  have hb3 : Below w1.heap.size w1 W2 := by rw [hW2]; exact hb2.alloc hb2.size _
  have k2 := blk_below K1.out hb3
  have k3 : W2.heap[x]? = some (.cells #[.int .i64 L, .int .i64 t, .int .i64 f, .int .i64 s, .int .i64 p, .slice A data.length c] 43) := by rw [hW2, hx]; exact heap_alloc_new _ _
  have HB2 := Lib.hid (below_then HB1.out HB1.out.size hb3)
  have HS2 := Lib.hid (HS1.out.below hb3)
  have K2 := Lib.hid k2
  have K3 := Lib.hid k3
  have HW2 := Lib.hid hW2
  have HX := Lib.hid hx
  clear hb2 hb3 k2 k3 hW2 b0 b1 b2 b3 b4 b5 hx
  go_wp2_with fail
  rw [← HW2.out, ← HX.out]
  refine (proper31 L t f s p A data.length c W2 (by omega)).mono ?_
  rintro e w3 ⟨rfl, hb3⟩
  have k2 := blk_below K2.out hb3
  have k3 := blk_below K3.out hb3
  have a0 : w3.cell? ⟨q, 0, none⟩ = some (.int .i64 L) := blk_cell k2 0
  have a1 : w3.cell? ⟨q, 1, none⟩ = some (.int .i64 t) := blk_cell k2 1
  have a2 : w3.cell? ⟨q, 2, none⟩ = some (.int .i64 f) := blk_cell k2 2
  have a3 : w3.cell? ⟨q, 3, none⟩ = some (.int .i64 s) := blk_cell k2 3
  have a4 : w3.cell? ⟨q, 4, none⟩ = some (.int .i64 p) := blk_cell k2 4
  have a5 : w3.cell? ⟨q, 5, none⟩ = some (.slice A data.length c) := blk_cell k2 5
  have HS3 := Lib.hid (HS2.out.below hb3)
  have K5 := Lib.hid k3
  have HB3 := Lib.hid (below_then HB2.out HB2.out.size hb3)
  clear hb3 k2 k3
  cases hm : mpB L t f s p data.length
  · go_wp2_with fail
    refine (works22 w3).mono ?_
    rintro e w4 ⟨rfl, H4⟩
    go_wp2_with fail
    go_ret
    exact ⟨rfl, below_then HB3.out HB3.out.size H4.out⟩
  have HM := Lib.hid (mpB_iff.1 hm)
  clear hm
  go_wp2_with fail
  refine (format32 L t f s p _ data _ w3 HS3.out HM.out).mono ?_
  rintro e w4 ⟨u4, rfl, H4⟩
  have HB4 := Lib.hid (below_then HB3.out HB3.out.size H4.out.2)
  obtain ⟨A4, c4, rfl, _⟩ := H4.out.1.form
  have HS4 : Hid (Sl (fun _ => True) w4.drew (.slice A4 (msgB L t f s p data).length c4) (msgB L t f s p data)) := Lib.hid (H4.out.1.mono fun _ _ => trivial)
  have hc4 := str_of HS4.out
  have k4 := blk_below K5.out H4.out.2
  have b0 : w4.cell? ⟨x, 0, none⟩ = some (.int .i64 L) := blk_cell k4 0
  have b1 : w4.cell? ⟨x, 1, none⟩ = some (.int .i64 t) := blk_cell k4 1
  have b2 : w4.cell? ⟨x, 2, none⟩ = some (.int .i64 f) := blk_cell k4 2
  have b3 : w4.cell? ⟨x, 3, none⟩ = some (.int .i64 s) := blk_cell k4 3
  have b4 : w4.cell? ⟨x, 4, none⟩ = some (.int .i64 p) := blk_cell k4 4
  have b5 : w4.cell? ⟨x, 5, none⟩ = some (.slice A data.length c) := blk_cell k4 5
  have HC := Lib.hid (bytes33 L t f s p _ data _ w4.drew (HS3.out.below H4.out.2.drew) HM.out)
  clear k4 a0 a1 a2 a3 a4 a5
  go_wp2_with fail
  go_region_law (first
    | (go_simp; go_at_call 33; refine HC.out.mono ?_; rintro e w5 ⟨u5, rfl, H5⟩
       have hc5 := str_of (Ob.sl H5.out.1)
       have hc6 := str_of (HS4.out.below H5.out.2)
       have HB5 := Lib.hid (below_then (w1 := w4.drew) HB4.out.drew HB4.out.size H5.out.2)
       obtain ⟨A5, c5, rfl, _⟩ := Ob.form H5.out.1)
    | (go_simp; go_at_call 22; refine (works22 _).mono ?_; rintro e w6 ⟨rfl, H6⟩))
  all_goals
    go_wp2_with fail
    go_ret
    exact ⟨rfl, below_then HB5.out HB5.out.size H6.out⟩
end Go.Proofs.Ytgijhgonpgidiaa
