/-
  Contract of Check where an error is told. No statement of the seat is proved here.
-/
import Derived.Test.YtgijhgonpgidiaaErr
namespace Go.Proofs.Ytgijhgonpgidiaa
open Go.RowKit Go.Proofs.YtgijhgonpgidiaaW.PrintWords

theorem ta126 (a : Addr) (w : World) : (Instr.typeAssert (.iface 126 (.pointer (some a))) 89 126 true).run Try.prog w = .ok (.tuple #[.pointer (some a), .bool true]) w := by kernel_rfl
theorem ta128 (n : Int) (w : World) : (Instr.typeAssert (.iface 128 (.int .i64 n)) 89 128 true).run Try.prog w = .ok (.tuple #[.int .i64 n, .bool true]) w := by kernel_rfl

set_option maxRecDepth 100000 in
set_option maxHeartbeats 3200000 in
/-- Check where an error is told. -/
theorem check41_some (num pl : Int) (text : ByteArray) (L t f s p : Int) (dv : Value) (data : List Int) (ok : Nat → Prop) (w : World) (hS : Sl ok w dv data) (hdl : data.length ≤ 1000000) (hL : 0 ≤ L ∧ L < 4294967296) (ht : 0 ≤ t ∧ t < 65536) (hf : 0 ≤ f ∧ f < 65536) (hs : 0 ≤ s ∧ s < 4294967296) (hp : 0 ≤ p ∧ p < 4294967296)
    (hpl : 0 ≤ pl ∧ pl < 2147483648) (h : ∀ (W : World) (v : Value) (ok' : Nat → Prop), Sl ok' W v data → Calls Try.prog 106 #[.agg #[.int .u32 L, .int .u16 t, .int .u16 f, .int .u32 s, .int .u32 p, v]] W fun e w' => ∃ a, e = .returned (.iface 126 (.pointer (some a))) ∧ Hid (∃ z, a = ⟨z, 0, none⟩ ∧ W.heap.size ≤ z ∧ w'.heap[z]? = some (opE num text pl s) ∧ Below W.heap.size W w')) :
    Calls Try.prog 41 #[.agg #[.int .i64 L, .int .i64 t, .int .i64 f, .int .i64 s, .int .i64 p, dv]] w fun e w' => e = .returned (.agg #[.bool false, .bool false, .int .i64 num, .int .i64 pl, .int .i64 s, .string text]) ∧ Hid (Below w.heap.size w w') := by
  have hta1 := ta126
  have hta2 := ta128
  have hmf : ∀ (fn : Fn) (first cap : Array Value) (w : World), (Instr.makeFunc fn first cap).run Try.prog w = .ok (.func fn first cap) w := fun _ _ _ _ => rfl
  obtain ⟨A, c, rfl, _⟩ := hS.form
  obtain ⟨q, hq⟩ : ∃ q, q = w.heap.size := ⟨_, rfl⟩
  obtain ⟨W, hW⟩ : ∃ W, W = (w.alloc (.cells #[.int .i64 L, .int .i64 t, .int .i64 f, .int .i64 s, .int .i64 p, .slice A data.length c] 41)).alloc (.cells #[.bool false, .bool false, .int .i64 0, .int .i64 0, .int .i64 0, .string ⟨#[]⟩] 67) := ⟨_, rfl⟩
  have hB : Below w.heap.size w W := by rw [hW]; exact ((Below.refl _ _).alloc (Nat.le_refl _) _).alloc (by simp) _
  have k0 : W.heap[q]? = some (.cells #[.int .i64 L, .int .i64 t, .int .i64 f, .int .i64 s, .int .i64 p, .slice A data.length c] 41) := by rw [hW, hq]; exact blk_alloc (heap_alloc_new _ _) _
  have k1 : W.heap[q + 1]? = some (.cells #[.bool false, .bool false, .int .i64 0, .int .i64 0, .int .i64 0, .string ⟨#[]⟩] 67) := by
    have := heap_alloc_new (w.alloc (.cells #[.int .i64 L, .int .i64 t, .int .i64 f, .int .i64 s, .int .i64 p, .slice A data.length c] 41)) (.cells #[.bool false, .bool false, .int .i64 0, .int .i64 0, .int .i64 0, .string ⟨#[]⟩] 67)
    rw [hW, hq]; simpa using this
  have a0 : W.cell? ⟨q, 0, none⟩ = some (.int .i64 L) := blk_cell k0 0
  have a1 : W.cell? ⟨q, 1, none⟩ = some (.int .i64 t) := blk_cell k0 1
  have a2 : W.cell? ⟨q, 2, none⟩ = some (.int .i64 f) := blk_cell k0 2
  have a3 : W.cell? ⟨q, 3, none⟩ = some (.int .i64 s) := blk_cell k0 3
  have a4 : W.cell? ⟨q, 4, none⟩ = some (.int .i64 p) := blk_cell k0 4
  have a5 : W.cell? ⟨q, 5, none⟩ = some (.slice A data.length c) := blk_cell k0 5
  have HM := Lib.hid (made62 L t f s p _ data _ W (hS.below hB) hdl hL ht hf hs hp)
  have HH := Lib.hid h
  have HSR := Lib.hid hs
  have HW := Lib.hid hW
  have HB := Lib.hid hB
  have HQ := Lib.hid hq
  have K1 := Lib.hid k1
  clear hS h hL ht hf hs hp hW hB k0 k1
  go_enter_defers Try.func41, Try.ntmps41
  go_wp2_with fail
  rw [← hq, ← HW.out]
  clear hq
  refine HM.out.mono ?_
  rintro e w1 ⟨u1, rfl, H1⟩
  obtain ⟨A1, c1, rfl, _⟩ := H1.out.1.form
  obtain ⟨y, hy⟩ : ∃ y, y = w1.heap.size := ⟨_, rfl⟩
  obtain ⟨W2, hW2⟩ : ∃ X, X = w1.alloc (.cells #[.int .u32 L, .int .u16 t, .int .u16 f, .int .u32 s, .int .u32 p, .slice A1 data.length c1] 113) := ⟨_, rfl⟩
  have hb2 : Below w1.heap.size w1 W2 := by rw [hW2]; exact (Below.refl _ _).alloc (Nat.le_refl _) _
  have ky : W2.heap[y]? = some (.cells #[.int .u32 L, .int .u16 t, .int .u16 f, .int .u32 s, .int .u32 p, .slice A1 data.length c1] 113) := by rw [hW2, hy]; exact heap_alloc_new _ _
  have m0 : W2.cell? ⟨y, 0, none⟩ = some (.int .u32 L) := blk_cell ky 0
  have m1 : W2.cell? ⟨y, 1, none⟩ = some (.int .u16 t) := blk_cell ky 1
  have m2 : W2.cell? ⟨y, 2, none⟩ = some (.int .u16 f) := blk_cell ky 2
  have m3 : W2.cell? ⟨y, 3, none⟩ = some (.int .u32 s) := blk_cell ky 3
  have m4 : W2.cell? ⟨y, 4, none⟩ = some (.int .u32 p) := blk_cell ky 4
  have m5 : W2.cell? ⟨y, 5, none⟩ = some (.slice A1 data.length c1) := blk_cell ky 5
  have hal : Below W2.heap.size W2 (W2.alloc (.cells #[.int .u32 L, .int .u16 t, .int .u16 f, .int .u32 s, .int .u32 p, .slice A1 data.length c1] 113)) := (Below.refl _ _).alloc (Nat.le_refl _) _
  have hch := HH.out (W2.alloc (.cells #[.int .u32 L, .int .u16 t, .int .u16 f, .int .u32 s, .int .u32 p, .slice A1 data.length c1] 113)) _ _ ((H1.out.1.below hb2).below hal)
  have HZ := Lib.hid (zz75_some (fun a w' => ∃ z, a = ⟨z, 0, none⟩ ∧ W2.heap.size ≤ z ∧ w'.heap[z]? = some (opE num text pl s) ∧ Below W2.heap.size W2 w') L t f s p A1 data.length c1 W2 (hch.mono (by
    rintro e w' ⟨a, rfl, h⟩
    obtain ⟨z, rfl, h1, h2, h3⟩ := h.out
    exact ⟨_, rfl, Lib.hid ⟨z, rfl, Nat.le_trans hal.size h1, h2, hal.trans (h3.mono hal.size)⟩⟩)))
  have hk1 := blk_below (blk_below K1.out H1.out.2) hb2
  have HK1 := Lib.hid hk1
  have HB2 := Lib.hid (below_then (below_then HB.out HB.out.size H1.out.2) (below_then HB.out HB.out.size H1.out.2).size hb2)
  have HW2 := Lib.hid hW2
  clear hb2 ky hal hch hk1 hW2
  go_wp2_with fail
  rw [← HW2.out, ← hy]
  clear hy
  refine HZ.out.mono ?_
  rintro e w3 ⟨a, rfl, H3'⟩
  obtain ⟨z, rfl, hz1, hz2, hz3⟩ := H3'.out
  have hk3 := blk_below HK1.out hz3
  have y1 : w3.cell? ⟨z, 1, none⟩ = some (.iface 128 (.int .i64 num)) := blk_cell hz2 1
  have y2 : w3.cell? ⟨z, 2, none⟩ = some (.string text) := blk_cell hz2 2
  have y3 : w3.cell? ⟨z, 3, none⟩ = some (.int .i64 pl) := blk_cell hz2 3
  have y4 : w3.cell? ⟨z, 4, none⟩ = some (.int .u32 s) := blk_cell hz2 4
  have z0 : w3.cell? ⟨q + 1, 0, none⟩ = some (.bool false) := blk_cell hk3 0
  have z1 : w3.cell? ⟨q + 1, 1, none⟩ = some (.bool false) := blk_cell hk3 1
  have z2 : w3.cell? ⟨q + 1, 2, none⟩ = some (.int .i64 0) := blk_cell hk3 2
  have z3 : w3.cell? ⟨q + 1, 3, none⟩ = some (.int .i64 0) := blk_cell hk3 3
  have z4 : w3.cell? ⟨q + 1, 4, none⟩ = some (.int .i64 0) := blk_cell hk3 4
  have z5 : w3.cell? ⟨q + 1, 5, none⟩ = some (.string ⟨#[]⟩) := blk_cell hk3 5
  have f0 : w3.frozen? ⟨q + 1, 0, none⟩ = false := blk_frozen hk3 0
  have f1 : w3.frozen? ⟨q + 1, 1, none⟩ = false := blk_frozen hk3 1
  have f2 : w3.frozen? ⟨q + 1, 2, none⟩ = false := blk_frozen hk3 2
  have f3 : w3.frozen? ⟨q + 1, 3, none⟩ = false := blk_frozen hk3 3
  have f4 : w3.frozen? ⟨q + 1, 4, none⟩ = false := blk_frozen hk3 4
  have f5 : w3.frozen? ⟨q + 1, 5, none⟩ = false := blk_frozen hk3 5
  have HB3 := Lib.hid (below_then HB2.out HB2.out.size hz3)
  have HK3 := Lib.hid hk3
  have HWS : Hid (wrap64 s = s) := Lib.hid (by rw [← IntWalk.i64_left, IntKind.wrap_i64]; have h1 := HSR.out.1; have h2 := HSR.out.2; omega)
  clear hk3 m0 m1 m2 m3 m4 m5 hz1 hz2 hz3
  go_wp2_with fail
  refine wp_region_noPanic ?_
  go_region
  all_goals refine NoPanic.normal ?_
  all_goals
    rw [HWS.out]
    go_wp2_with fail
    refine leaves_cons (f := 74) (args := #[.pointer (some ⟨q + 1, 0, none⟩)]) (by simp) (by simp [go_sem]) ?_
    refine (idle74 _ _).mono ?_
    rintro e u' w'' ⟨rfl, rfl, rfl⟩
    simp [Leaves, settle, results, Try.results41, go_sem, z0, z1, z2, z3, z4, z5]
    have hqq := HQ.out
    exact Lib.hid ((((((HB3.out.setCell (by show _ ≤ q + 1; omega) _).setCell (by show _ ≤ q + 1; omega) _).setCell (by show _ ≤ q + 1; omega) _).setCell (by show _ ≤ q + 1; omega) _).setCell (by show _ ≤ q + 1; omega) _).setCell (by show _ ≤ q + 1; omega) _).drew
end Go.Proofs.Ytgijhgonpgidiaa
