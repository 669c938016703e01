/-
  Contracts of FormatMessage at a length that is not the message's own, and the walk of FnLength. No statement of the seat is proved here.
-/
import Derived.Test.YtgijhgonpgidiaaMsgB
import Derived.Deep.RegionLaw
namespace Go.Proofs.Ytgijhgonpgidiaa
open Go.RowKit Go.Proofs.YtgijhgonpgidiaaW.PrintWords

set_option maxRecDepth 100000 in
set_option maxHeartbeats 3200000 in
theorem marshal63_bad (L t f s p : Int) (dv : Value) (w : World) (hL : 0 ≤ L ∧ L < 16) :
    Calls Try.prog 63 #[.agg #[.int .u32 L, .int .u16 t, .int .u16 f, .int .u32 s, .int .u32 p, dv]] w fun e w' => ∃ y : ByteArray, e = .returned (.tuple #[.slice none 0 0, .iface 143 (.string y)]) ∧ Hid (Below w.heap.size w w') := by
  obtain ⟨n, rfl⟩ := Int.eq_ofNat_of_zero_le hL.1
  have hn : n < 16 := by omega
  have hp : padn n < 16 ∨ (padn n = 16 ∧ n ≠ 16) := by unfold padn; omega
  clear hL
  go_enter Try.func63, Try.ntmps63
  go_wp2_with fail
  refine (align96 n _ (by omega)).mono ?_
  rintro e w' ⟨rfl, rfl⟩
  rcases hp with hp | ⟨hp, hne⟩
  · go_wp2_with fail
    go_ret2
    first | exact ⟨_, rfl, Lib.hid ((Below.refl _ _).alloc (Nat.le_refl _) _)⟩ | exact ⟨⟨_, rfl⟩, Lib.hid ((Below.refl _ _).alloc (Nat.le_refl _) _)⟩
  · rw [hp]
    go_wp2_with fail
    go_ret2
    first | exact ⟨_, rfl, Lib.hid ((Below.refl _ _).alloc (Nat.le_refl _) _)⟩ | exact ⟨⟨_, rfl⟩, Lib.hid ((Below.refl _ _).alloc (Nat.le_refl _) _)⟩

set_option maxRecDepth 100000 in
set_option maxHeartbeats 3200000 in
theorem format32_bad (L t f s p : Int) (dv : Value) (data : List Int) (ok : Nat → Prop) (w : World) (hS : Sl ok w dv data) (hL : 0 ≤ L ∧ L < 16) (hM : MP (16 + data.length) t f s p data.length) :
    Calls Try.prog 32 #[.agg #[.int .i64 L, .int .i64 t, .int .i64 f, .int .i64 s, .int .i64 p, dv]] w fun e w' => ∃ u, e = .returned (.tuple #[u, .bool false]) ∧ Hid (Below w.heap.size w w') := by
  have hmf : ∀ (fn : Fn) (first cap : Array Value) (w : World), (Instr.makeFunc fn first cap).run Try.prog w = .ok (.func fn first cap) w := fun _ _ _ _ => rfl
  obtain ⟨A, c, rfl, _⟩ := hS.form
  obtain ⟨W, hW⟩ : ∃ W, W = ((w.alloc (.cells #[.int .i64 L, .int .i64 t, .int .i64 f, .int .i64 s, .int .i64 p, .slice A data.length c] 41)).alloc (.cells #[.slice none 0 0] 28)).alloc (.cells #[.bool false] 4) := ⟨_, rfl⟩
  obtain ⟨q, hq⟩ : ∃ q, q = w.heap.size := ⟨_, rfl⟩
  have hB : Below w.heap.size w W := by rw [hW]; exact (((Below.refl _ _).alloc (Nat.le_refl _) _).alloc (by simp) _).alloc (by simp; omega) _
  have hsz : W.heap.size = q + 3 := by rw [hW, hq]; simp
  have k0 : W.heap[q]? = some (.cells #[.int .i64 L, .int .i64 t, .int .i64 f, .int .i64 s, .int .i64 p, .slice A data.length c] 41) := by rw [hW, hq]; exact blk_alloc (blk_alloc (heap_alloc_new _ _) _) _
  have k1 : W.heap[q + 1]? = some (.cells #[.slice none 0 0] 28) := by
    have := heap_alloc_new (w.alloc (.cells #[.int .i64 L, .int .i64 t, .int .i64 f, .int .i64 s, .int .i64 p, .slice A data.length c] 41)) (.cells #[.slice none 0 0] 28)
    rw [hW, hq]; exact blk_alloc (by simpa using this) _
  have k2 : W.heap[q + 1 + 1]? = some (.cells #[.bool false] 4) := by
    have := heap_alloc_new ((w.alloc (.cells #[.int .i64 L, .int .i64 t, .int .i64 f, .int .i64 s, .int .i64 p, .slice A data.length c] 41)).alloc (.cells #[.slice none 0 0] 28)) (.cells #[.bool false] 4)
    rw [hW, hq]; simpa using this
  have a0 : W.cell? ⟨q, 0, none⟩ = some (.int .i64 L) := blk_cell k0 0
  have a1 : W.cell? ⟨q, 1, none⟩ = some (.int .i64 t) := blk_cell k0 1
  have a2 : W.cell? ⟨q, 2, none⟩ = some (.int .i64 f) := blk_cell k0 2
  have a3 : W.cell? ⟨q, 3, none⟩ = some (.int .i64 s) := blk_cell k0 3
  have a4 : W.cell? ⟨q, 4, none⟩ = some (.int .i64 p) := blk_cell k0 4
  have a5 : W.cell? ⟨q, 5, none⟩ = some (.slice A data.length c) := blk_cell k0 5
  have HS := Lib.hid (hS.bound.below hB)
  have HW := Lib.hid hW
  have HB := Lib.hid hB
  have HZ := Lib.hid hsz
  have HQ := Lib.hid hq
  have K1 := Lib.hid k1
  have K2 := Lib.hid k2
  have HM := Lib.hid hM
  clear hS hW hB hsz k0 k1 k2 hM
  go_enter_defers Try.func32, Try.ntmps32
  go_wp2_with fail
  rw [← hq, ← HW.out]
  clear hq
  refine (made62 L t f s p _ data _ W HS.out (by have := HM.out.2.2.1; omega) (by omega) HM.out.2.2.2.1 HM.out.2.2.2.2.1 HM.out.2.2.2.2.2.1 HM.out.2.2.2.2.2.2).mono ?_
  rintro e w1 ⟨u, rfl, H1⟩
  obtain ⟨A1, c1, rfl, _⟩ := H1.out.1.form
  have z1 := blk_below K1.out H1.out.2
  have z2 := blk_below K2.out H1.out.2
  have d1 : w1.cell? ⟨q + 1, 0, none⟩ = some (.slice none 0 0) := blk_cell z1 0
  have d2 : w1.cell? ⟨q + 1 + 1, 0, none⟩ = some (.bool false) := blk_cell z2 0
  have f1 : w1.frozen? ⟨q + 1, 0, none⟩ = false := blk_frozen z1 0
  have f2 : w1.frozen? ⟨q + 1 + 1, 0, none⟩ = false := blk_frozen z2 0
  have hl1 : q + 1 < w1.heap.size := blk_lt z1
  have hl2 : q + 1 + 1 < w1.heap.size := blk_lt z2
  have Z1 := Lib.hid z1
  have Z2 := Lib.hid z2
  clear z1 z2 a0 a1 a2 a3 a4 a5
  go_wp2_with fail
  obtain ⟨W2, hW2⟩ : ∃ X, X = (w1.setCell ⟨q + 1 + 1, 0, none⟩ (.bool true)).alloc (.cells #[.int .u32 L, .int .u16 t, .int .u16 f, .int .u32 s, .int .u32 p, .slice A1 data.length c1] 113) := ⟨_, rfl⟩
  rw [← hW2]
  have hs2 : Sl (fun k => W.heap.size ≤ k) W2 (.slice A1 data.length c1) data := by
    rw [hW2]
    refine Sl.below (w := w1.setCell ⟨q + 1 + 1, 0, none⟩ (.bool true)) (H1.out.1.step fun k hk _ => Below.heap_setCell _ _ _ _ (by have := HZ.out; show k ≠ q + 1 + 1; omega)) ((Below.refl _ _).alloc (Nat.le_refl _) _)
  have z1 : W2.heap[q + 1]? = some (.cells #[.slice none 0 0] 28) := by rw [hW2]; exact blk_alloc (blk_far Z1.out (by show q + 1 ≠ q + 1 + 1; omega) _) _
  have z2 : W2.heap[q + 1 + 1]? = some (.cells #[.bool true] 4) := by
    have h0 := blk_set Z2.out 0 (.bool true)
    rw [hW2]; exact blk_alloc (by simpa using h0) _
  have hB2 : Below w.heap.size w W2 := by
    have hz := HZ.out
    have hq := HQ.out
    rw [hW2]
    exact ((below_then HB.out HB.out.size H1.out.2).setCell (by show _ ≤ q + 1 + 1; omega) _).alloc (by have := H1.out.2.size; have := HB.out.size; simp; omega) _
  have HS2 := Lib.hid hs2
  have Y1 := Lib.hid z1
  have Y2 := Lib.hid z2
  have HB2 := Lib.hid hB2
  clear hs2 z1 z2 hB2 hW2 d1 d2 f1 f2 hl1 hl2
  refine (marshal63_bad L t f s p _ W2 hL).mono ?_
  rintro e w3 ⟨y, rfl, H3⟩
  have hz1 := blk_below Y1.out H3.out
  have hz2 := blk_below Y2.out H3.out
  have d1 : w3.cell? ⟨q + 1, 0, none⟩ = some (.slice none 0 0) := blk_cell hz1 0
  have d2 : w3.cell? ⟨q + 1 + 1, 0, none⟩ = some (.bool true) := blk_cell hz2 0
  have f1 : w3.frozen? ⟨q + 1, 0, none⟩ = false := blk_frozen hz1 0
  have f2 : w3.frozen? ⟨q + 1 + 1, 0, none⟩ = false := blk_frozen hz2 0
  have HB3 := Lib.hid (below_then HB2.out HB2.out.size H3.out)
  clear hz1 hz2
  go_wp2_with fail
  refine leaves_cons (f := 61) (args := #[.pointer (some ⟨q + 1, 0, none⟩), .pointer (some ⟨q + 1 + 1, 0, none⟩)]) (by simp) (by simp [go_sem]) ?_
  refine (idle61 _ _ _).mono ?_
  rintro e u' w'' ⟨rfl, rfl, rfl⟩
  simp [Leaves, settle, results, Try.results32, go_sem, d1, d2]
  have hq := HQ.out
  exact Lib.hid (((HB3.out.setCell (by show _ ≤ q + 1; omega) _).setCell (by show _ ≤ q + 1; omega) _).setCell (by show _ ≤ q + 1 + 1; omega) _)

set_option maxRecDepth 100000 in
set_option maxHeartbeats 1600000 in
theorem walk5 (L t f s p len : Int) (dv : Value) (data : List Int) (ok : Nat → Prop) (w : World) (hS : Sl ok w dv data) :
    Calls Try.prog 5 #[.agg #[.int .i64 L, .int .i64 t, .int .i64 f, .int .i64 s, .int .i64 p, dv], .int .i64 len] w fun e w' => e = .returned (.bool true) ∧ Below w.heap.size w w' := by
  have hdl0 := hS.len
  obtain ⟨A, c, rfl, _⟩ := hS.form
  obtain ⟨q, hq⟩ : ∃ q, q = w.heap.size := ⟨_, rfl⟩
  obtain ⟨W, hW⟩ : ∃ W, W = w.alloc (.cells #[.int .i64 L, .int .i64 t, .int .i64 f, .int .i64 s, .int .i64 p, .slice A data.length c] 41) := ⟨_, rfl⟩
  have hB : Below w.heap.size w W := by rw [hW]; exact (Below.refl _ _).alloc (Nat.le_refl _) _
  have hsz : W.heap.size = q + 1 := by rw [hW, hq]; simp
  have k0 : W.heap[q]? = some (.cells #[.int .i64 L, .int .i64 t, .int .i64 f, .int .i64 s, .int .i64 p, .slice A data.length c] 41) := by rw [hW, hq]; exact heap_alloc_new _ _
  have HS := Lib.hid (hS.bound.below hB)
  have HW := Lib.hid hW
  have HB := Lib.hid hB
  have HZ := Lib.hid hsz
  have HQ := Lib.hid hq
  have K0 := Lib.hid k0
  have a0 : W.cell? ⟨q, 0, none⟩ = some (.int .i64 L) := blk_cell k0 0
  have a1 : W.cell? ⟨q, 1, none⟩ = some (.int .i64 t) := blk_cell k0 1
  have a2 : W.cell? ⟨q, 2, none⟩ = some (.int .i64 f) := blk_cell k0 2
  have a3 : W.cell? ⟨q, 3, none⟩ = some (.int .i64 s) := blk_cell k0 3
  have a4 : W.cell? ⟨q, 4, none⟩ = some (.int .i64 p) := blk_cell k0 4
  have a5 : W.cell? ⟨q, 5, none⟩ = some (.slice A data.length c) := blk_cell k0 5
  clear hS hW hB hsz k0
  go_enter Try.func5, Try.ntmps5
  go_wp2_with fail
  rw [← hq, ← HW.out]
  clear hq
  refine (fits29 L t f s p A data.length c W (by omega)).mono ?_
  rintro e w1 ⟨b, rfl, hb1, hdl⟩
  have HB1 := Lib.hid (below_then HB.out HB.out.size hb1)
  have k1 := blk_below K0.out hb1
  have b0 : w1.cell? ⟨q, 0, none⟩ = some (.int .i64 L) := blk_cell k1 0
  have b1 : w1.cell? ⟨q, 1, none⟩ = some (.int .i64 t) := blk_cell k1 1
  have b2 : w1.cell? ⟨q, 2, none⟩ = some (.int .i64 f) := blk_cell k1 2
  have b3 : w1.cell? ⟨q, 3, none⟩ = some (.int .i64 s) := blk_cell k1 3
  have b4 : w1.cell? ⟨q, 4, none⟩ = some (.int .i64 p) := blk_cell k1 4
  have b5 : w1.cell? ⟨q, 5, none⟩ = some (.slice A data.length c) := blk_cell k1 5
  have HS1 := Lib.hid (HS.out.below hb1)
  have K1 := Lib.hid k1
  clear hb1 k1 a0 a1 a2 a3 a4 a5
  cases b
  · go_wp2_with fail
    go_ret
    exact ⟨rfl, HB1.out⟩
  have hdl1 : data.length ≤ 2147483647 := hdl (by simp)
  clear hdl
  go_wp2_with fail
  refine (message30 L t f s p A data.length c w1).mono ?_
  rintro e w2 ⟨rfl, hb2⟩
  obtain ⟨x, hx⟩ : ∃ x, x = w2.heap.size := ⟨_, rfl⟩
  obtain ⟨W2, hW2⟩ : ∃ X, X = w2.alloc (.cells #[.int .i64 L, .int .i64 t, .int .i64 f, .int .i64 s, .int .i64 p, .slice A data.length c] 43) := ⟨_, rfl⟩
  have hb3 : Below w1.heap.size w1 W2 := by rw [hW2]; exact hb2.alloc hb2.size _
  have k2 := blk_below K1.out hb3
  have k3 : W2.heap[x]? = some (.cells #[.int .i64 L, .int .i64 t, .int .i64 f, .int .i64 s, .int .i64 p, .slice A data.length c] 43) := by rw [hW2, hx]; exact heap_alloc_new _ _
  have HB2 := Lib.hid (below_then HB1.out HB1.out.size hb3)
  have HS2 := Lib.hid (HS1.out.below hb3)
  have K2 := Lib.hid k2
  have K3 := Lib.hid k3
  have HW2 := Lib.hid hW2
  have HX := Lib.hid hx
  clear hb2 hb3 k2 k3 hW2 b0 b1 b2 b3 b4 b5 hx
  go_wp2_with fail
  rw [← HW2.out, ← HX.out]
  refine (proper31 L t f s p A data.length c W2 (by omega)).mono ?_
  rintro e w3 ⟨rfl, hb3⟩
  have k2 := blk_below K2.out hb3
  have k3 := blk_below K3.out hb3
  have a0 : w3.cell? ⟨q, 0, none⟩ = some (.int .i64 L) := blk_cell k2 0
  have a1 : w3.cell? ⟨q, 1, none⟩ = some (.int .i64 t) := blk_cell k2 1
  have a2 : w3.cell? ⟨q, 2, none⟩ = some (.int .i64 f) := blk_cell k2 2
  have a3 : w3.cell? ⟨q, 3, none⟩ = some (.int .i64 s) := blk_cell k2 3
  have a4 : w3.cell? ⟨q, 4, none⟩ = some (.int .i64 p) := blk_cell k2 4
  have a5 : w3.cell? ⟨q, 5, none⟩ = some (.slice A data.length c) := blk_cell k2 5
  have HS3 := Lib.hid (HS2.out.below hb3)
  have K5 := Lib.hid k3
  have K6 := Lib.hid k2
  have HB3 := Lib.hid (below_then HB2.out HB2.out.size hb3)
  clear hb3 k2 k3
  cases hm : mpB L t f s p data.length
  · go_wp2_with fail
    refine (works22 w3).mono ?_
    rintro e w4 ⟨rfl, H4⟩
    go_wp2_with fail
    go_ret
    exact ⟨rfl, below_then HB3.out HB3.out.size H4.out⟩
  have HM := Lib.hid (mpB_iff.1 hm)
  clear hm
  by_cases hl0 : len < 0
  · go_wp2_with fail
    refine (works22 w3).mono ?_
    rintro e w4 ⟨rfl, H4⟩
    go_wp2_with fail
    go_ret
    exact ⟨rfl, below_then HB3.out HB3.out.size H4.out⟩
  by_cases hl1 : 16 ≤ len
  · go_wp2_with fail
    refine (works22 w3).mono ?_
    rintro e w4 ⟨rfl, H4⟩
    go_wp2_with fail
    go_ret
    exact ⟨rfl, below_then HB3.out HB3.out.size H4.out⟩
  have f0 : w3.frozen? ⟨q, 0, none⟩ = false := blk_frozen K6.out 0
  have hqx : q < w3.heap.size := blk_lt K6.out
  go_wp2_with fail
  obtain ⟨W4, hW4⟩ : ∃ X, X = w3.setCell ⟨q, 0, none⟩ (.int .i64 len) := ⟨_, rfl⟩
  rw [← hW4]
  have hs4 : Sl (fun k => ok k ∧ k < w.heap.size) W4 (.slice A data.length c) data := by
    have hq := HQ.out
    rw [hW4]; exact HS3.out.step fun k hk _ => Below.heap_setCell _ _ _ _ (by show k ≠ q; omega)
  have hb4 : Below w.heap.size w W4 := by
    have hq := HQ.out
    rw [hW4]; exact HB3.out.setCell (by show _ ≤ q; omega) _
  have HS4 := Lib.hid hs4
  have HB4 := Lib.hid hb4
  have HM2 : Hid (MP (16 + data.length) t f s p data.length) := Lib.hid (by have h := HM.out; exact ⟨rfl, h.2⟩)
  clear hs4 hb4 hW4
  refine (format32_bad len t f s p _ data _ W4 HS4.out (by omega) HM2.out).mono ?_
  rintro e w5 ⟨u5, rfl, H5⟩
  have HB5 := Lib.hid (below_then HB4.out HB4.out.size H5.out)
  go_wp2_with fail
  refine (works22 w5).mono ?_
  rintro e w6 ⟨rfl, H6⟩
  go_wp2_with fail
  go_ret
  exact ⟨rfl, below_then HB5.out HB5.out.size H6.out⟩
end Go.Proofs.Ytgijhgonpgidiaa
