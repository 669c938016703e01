/-
  Contract of ParseMessage. No statement of the seat is proved here.
-/
import Derived.Test.YtgijhgonpgidiaaReadB
namespace Go.Proofs.Ytgijhgonpgidiaa
open Go.RowKit Go.Proofs.YtgijhgonpgidiaaW.PrintWords

set_option maxRecDepth 100000 in
set_option maxHeartbeats 3200000 in
theorem parse34_good (dv : Value) (xs : List Int) (ok : Nat → Prop) (w : World) (hS : Sl ok w dv xs) (hb : IsB xs) (hl : xs.length ≤ 140737488355328) (hr : readable xs) :
    Calls Try.prog 34 #[dv] w fun e w' => ∃ u, e = .returned (.tuple #[.agg #[.int .i64 (g4 xs), .int .i64 (g2 (xs.drop 4)), .int .i64 (g2 (xs.drop 6)), .int .i64 (g4 (xs.drop 8)), .int .i64 (g4 (xs.drop 12)), u], .bool true]) ∧
      Hid (Sl (fun k => w.heap.size ≤ k) w' u ((xs.take (g4 xs).toNat).drop 16) ∧ Below w.heap.size w w') := by
  have hmf : ∀ (fn : Fn) (first cap : Array Value) (w : World), (Instr.makeFunc fn first cap).run Try.prog w = .ok (.func fn first cap) w := fun _ _ _ _ => rfl
  obtain ⟨A, c, rfl, _⟩ := hS.form
  obtain ⟨q, hq⟩ : ∃ q, q = w.heap.size := ⟨_, rfl⟩
  obtain ⟨W, hW⟩ : ∃ W, W = ((w.alloc (.cells #[.int .i64 0, .int .i64 0, .int .i64 0, .int .i64 0, .int .i64 0, .slice none 0 0] 41)).alloc (.cells #[.bool false] 4)).alloc (.cells #[.int .u32 0, .int .u16 0, .int .u16 0, .int .u32 0, .int .u32 0, .slice none 0 0] 113) := ⟨_, rfl⟩
  have hB : Below w.heap.size w W := by rw [hW]; exact (((Below.refl _ _).alloc (Nat.le_refl _) _).alloc (by simp) _).alloc (by simp; omega) _
  have hsz : W.heap.size = q + 3 := by rw [hW, hq]; simp
  have k0 : W.heap[q]? = some (.cells #[.int .i64 0, .int .i64 0, .int .i64 0, .int .i64 0, .int .i64 0, .slice none 0 0] 41) := by rw [hW, hq]; exact blk_alloc (blk_alloc (heap_alloc_new _ _) _) _
  have k1 : W.heap[q + 1]? = some (.cells #[.bool false] 4) := by
    have := heap_alloc_new (w.alloc (.cells #[.int .i64 0, .int .i64 0, .int .i64 0, .int .i64 0, .int .i64 0, .slice none 0 0] 41)) (.cells #[.bool false] 4)
    rw [hW, hq]; exact blk_alloc (by simpa using this) _
  have k2 : W.heap[q + 1 + 1]? = some (.cells #[.int .u32 0, .int .u16 0, .int .u16 0, .int .u32 0, .int .u32 0, .slice none 0 0] 113) := by
    have := heap_alloc_new ((w.alloc (.cells #[.int .i64 0, .int .i64 0, .int .i64 0, .int .i64 0, .int .i64 0, .slice none 0 0] 41)).alloc (.cells #[.bool false] 4)) (.cells #[.int .u32 0, .int .u16 0, .int .u16 0, .int .u32 0, .int .u32 0, .slice none 0 0] 113)
    rw [hW, hq]; simpa using this
  have HS := Lib.hid (hS.bound.below hB)
  have HIB := Lib.hid hb
  have HR := Lib.hid hr
  have HW := Lib.hid hW
  have HB := Lib.hid hB
  have HZ := Lib.hid hsz
  have HQ := Lib.hid hq
  have K0 := Lib.hid k0
  have K1 := Lib.hid k1
  have K2 := Lib.hid k2
  obtain ⟨data, hdata⟩ : ∃ data, data = (xs.take (g4 xs).toNat).drop 16 := ⟨_, rfl⟩
  have hdl : data.length ≤ xs.length := by rw [hdata, List.length_drop, List.length_take]; omega
  obtain ⟨n0, hn0⟩ : ∃ n, n = g4 xs := ⟨_, rfl⟩
  obtain ⟨n1, hn1⟩ : ∃ n, n = g2 (xs.drop 4) := ⟨_, rfl⟩
  obtain ⟨n2, hn2⟩ : ∃ n, n = g2 (xs.drop 6) := ⟨_, rfl⟩
  obtain ⟨n3, hn3⟩ : ∃ n, n = g4 (xs.drop 8) := ⟨_, rfl⟩
  obtain ⟨n4, hn4⟩ : ∃ n, n = g4 (xs.drop 12) := ⟨_, rfl⟩
  rw [← hdata, ← hn0, ← hn1, ← hn2, ← hn3, ← hn4]
  have R0 : Hid (0 ≤ n0 ∧ n0 < 4294967296) := by show _ ∧ _; rw [hn0]; exact g4_range hb
  have R1 : Hid (0 ≤ n1 ∧ n1 < 65536) := by show _ ∧ _; rw [hn1]; exact g2_range (hb.drop 4)
  have R2 : Hid (0 ≤ n2 ∧ n2 < 65536) := by show _ ∧ _; rw [hn2]; exact g2_range (hb.drop 6)
  have R3 : Hid (0 ≤ n3 ∧ n3 < 4294967296) := by show _ ∧ _; rw [hn3]; exact g4_range (hb.drop 8)
  have R4 : Hid (0 ≤ n4 ∧ n4 < 4294967296) := by show _ ∧ _; rw [hn4]; exact g4_range (hb.drop 12)
  have HN0 := Lib.hid hn0
  have HN1 := Lib.hid hn1
  have HN2 := Lib.hid hn2
  have HN3 := Lib.hid hn3
  have HN4 := Lib.hid hn4
  have HDA := Lib.hid hdata
  have HDL := Lib.hid hdl
  clear hn0 hn1 hn2 hn3 hn4 hdata hdl
  clear hS hb hr hW hB hsz k0 k1 k2
  go_enter_defers Try.func34, Try.ntmps34
  go_wp2_with (at_builtin; rw [← hq, ← HW.out]; clear hq; go_must (refine dup_list (W := W) HS.out hl rfl (.const (.slice none 0 0)) (.tmp 7) rfl rfl rfl ?_); intro A1 c1 w1 H1)
  have z0 := blk_below K0.out H1.out.2
  have z1 := blk_below K1.out H1.out.2
  have z2 := blk_below K2.out H1.out.2
  have HB1 := Lib.hid (below_then HB.out HB.out.size H1.out.2)
  refine (unmarshal65_good (q + 1 + 1) _ xs (fun k => W.heap.size ≤ k) w1 z2 H1.out.1 (fun k hk => by have := HZ.out; omega) HIB.out (by omega) HR.out).mono ?_
  rintro e w2 ⟨rfl, H2⟩
  obtain ⟨dv', h1, h2, h3⟩ := H2.out
  rw [← HDA.out] at h2
  obtain ⟨A2, c2, rfl, _⟩ := h2.form
  rw [← HN0.out, ← HN1.out, ← HN2.out, ← HN3.out, ← HN4.out] at h1
  have y0 := blk_grown z0 h3 (by intro he; injection he with he; omega)
  have y1 := blk_grown z1 h3 (by intro he; injection he with he; omega)
  have hb2 : Below w.heap.size w w2 := HB1.out.grown h3 HB1.out.size fun k hk => by injection hk with hk; have := HQ.out; omega
  have a0 : w2.cell? ⟨q + 1 + 1, 0, none⟩ = some (.int .u32 n0) := blk_cell h1 0
  have a1 : w2.cell? ⟨q + 1 + 1, 1, none⟩ = some (.int .u16 n1) := blk_cell h1 1
  have a2 : w2.cell? ⟨q + 1 + 1, 2, none⟩ = some (.int .u16 n2) := blk_cell h1 2
  have a3 : w2.cell? ⟨q + 1 + 1, 3, none⟩ = some (.int .u32 n3) := blk_cell h1 3
  have a4 : w2.cell? ⟨q + 1 + 1, 4, none⟩ = some (.int .u32 n4) := blk_cell h1 4
  have a5 : w2.cell? ⟨q + 1 + 1, 5, none⟩ = some (.slice A2 data.length c2) := blk_cell h1 5
  have HLO2 : Hid (W.heap.size ≤ w2.heap.size) := Lib.hid (Nat.le_trans H1.out.2.size h3.size)
  have HY0 := Lib.hid y0
  have HY1 := Lib.hid y1
  have HB2 := Lib.hid hb2
  have HT := Lib.hid (told66 n0 n1 n2 n3 n4 _ data _ w2 h2 (by have := HDL.out; omega) R0.out R1.out R2.out R3.out R4.out)
  clear h1 h2 h3 y0 y1 hb2 z0 z1 z2 H2
  go_wp2_with fail
  refine HT.out.mono ?_
  rintro e w3 ⟨u, rfl, H3⟩
  obtain ⟨A3, c3, rfl, _⟩ := H3.out.1.form
  have z0 := blk_below HY0.out H3.out.2
  have z1 := blk_below HY1.out H3.out.2
  have hw3 : q + 1 < w3.heap.size := blk_lt z1
  have g0 : w3.cell? ⟨q, 0, none⟩ = some (.int .i64 0) := blk_cell z0 0
  have e0 : w3.frozen? ⟨q, 0, none⟩ = false := blk_frozen z0 0
  have g1 : w3.cell? ⟨q, 1, none⟩ = some (.int .i64 0) := blk_cell z0 1
  have e1 : w3.frozen? ⟨q, 1, none⟩ = false := blk_frozen z0 1
  have g2' : w3.cell? ⟨q, 2, none⟩ = some (.int .i64 0) := blk_cell z0 2
  have e2 : w3.frozen? ⟨q, 2, none⟩ = false := blk_frozen z0 2
  have g3 : w3.cell? ⟨q, 3, none⟩ = some (.int .i64 0) := blk_cell z0 3
  have e3 : w3.frozen? ⟨q, 3, none⟩ = false := blk_frozen z0 3
  have g4' : w3.cell? ⟨q, 4, none⟩ = some (.int .i64 0) := blk_cell z0 4
  have e4 : w3.frozen? ⟨q, 4, none⟩ = false := blk_frozen z0 4
  have g5 : w3.cell? ⟨q, 5, none⟩ = some (.slice none 0 0) := blk_cell z0 5
  have e5 : w3.frozen? ⟨q, 5, none⟩ = false := blk_frozen z0 5
  have g6 : w3.cell? ⟨q + 1, 0, none⟩ = some (.bool false) := blk_cell z1 0
  have e6 : w3.frozen? ⟨q + 1, 0, none⟩ = false := blk_frozen z1 0
  have HZ0 := Lib.hid z0
  have HB3 := Lib.hid (below_then HB2.out HB2.out.size H3.out.2)
  clear z0 z1 a0 a1 a2 a3 a4 a5
  go_wp2_with fail
  refine leaves_cons (f := 64) (args := #[.pointer (some ⟨q, 0, none⟩), .pointer (some ⟨q + 1, 0, none⟩)]) (by simp) (by simp [go_sem]) ?_
  refine (idle64 _ _ _).mono ?_
  rintro e u' w'' ⟨rfl, rfl, rfl⟩
  simp [Leaves, settle, results, Try.results34, go_sem, g0, g1, g2', g3, g4', g5, g6]
  have hqq := HQ.out
  have hzz := HZ.out
  have hlo : W.heap.size ≤ w2.heap.size := HLO2.out
  refine Lib.hid ⟨(H3.out.1.step fun k hk _ => ?_).mono fun k hk => by omega, ?_⟩
  · rw [Below.heap_setCell _ _ _ _ (by show k ≠ q + 1; omega), Below.heap_setCell _ _ _ _ (by show k ≠ q; omega), Below.heap_setCell _ _ _ _ (by show k ≠ q; omega), Below.heap_setCell _ _ _ _ (by show k ≠ q; omega), Below.heap_setCell _ _ _ _ (by show k ≠ q; omega), Below.heap_setCell _ _ _ _ (by show k ≠ q; omega), Below.heap_setCell _ _ _ _ (by show k ≠ q; omega)]
  · exact ((((((HB3.out.setCell (by show _ ≤ q; omega) _).setCell (by show _ ≤ q; omega) _).setCell (by show _ ≤ q; omega) _).setCell (by show _ ≤ q; omega) _).setCell (by show _ ≤ q; omega) _).setCell (by show _ ≤ q; omega) _).setCell (by show _ ≤ q + 1; omega) _

set_option maxRecDepth 100000 in
set_option maxHeartbeats 3200000 in
theorem parse34_bad (dv : Value) (xs : List Int) (ok : Nat → Prop) (w : World) (hS : Sl ok w dv xs) (hb : IsB xs) (hl : xs.length ≤ 140737488355328) (hr : ¬ readable xs) :
    Calls Try.prog 34 #[dv] w fun e w' => e = .returned (.tuple #[.agg #[.int .i64 0, .int .i64 0, .int .i64 0, .int .i64 0, .int .i64 0, .slice none 0 0], .bool false]) ∧ Hid (Below w.heap.size w w') := by
  have hmf : ∀ (fn : Fn) (first cap : Array Value) (w : World), (Instr.makeFunc fn first cap).run Try.prog w = .ok (.func fn first cap) w := fun _ _ _ _ => rfl
  obtain ⟨A, c, rfl, _⟩ := hS.form
  obtain ⟨q, hq⟩ : ∃ q, q = w.heap.size := ⟨_, rfl⟩
  obtain ⟨W, hW⟩ : ∃ W, W = ((w.alloc (.cells #[.int .i64 0, .int .i64 0, .int .i64 0, .int .i64 0, .int .i64 0, .slice none 0 0] 41)).alloc (.cells #[.bool false] 4)).alloc (.cells #[.int .u32 0, .int .u16 0, .int .u16 0, .int .u32 0, .int .u32 0, .slice none 0 0] 113) := ⟨_, rfl⟩
  have hB : Below w.heap.size w W := by rw [hW]; exact (((Below.refl _ _).alloc (Nat.le_refl _) _).alloc (by simp) _).alloc (by simp; omega) _
  have hsz : W.heap.size = q + 3 := by rw [hW, hq]; simp
  have k0 : W.heap[q]? = some (.cells #[.int .i64 0, .int .i64 0, .int .i64 0, .int .i64 0, .int .i64 0, .slice none 0 0] 41) := by rw [hW, hq]; exact blk_alloc (blk_alloc (heap_alloc_new _ _) _) _
  have k1 : W.heap[q + 1]? = some (.cells #[.bool false] 4) := by
    have := heap_alloc_new (w.alloc (.cells #[.int .i64 0, .int .i64 0, .int .i64 0, .int .i64 0, .int .i64 0, .slice none 0 0] 41)) (.cells #[.bool false] 4)
    rw [hW, hq]; exact blk_alloc (by simpa using this) _
  have k2 : W.heap[q + 1 + 1]? = some (.cells #[.int .u32 0, .int .u16 0, .int .u16 0, .int .u32 0, .int .u32 0, .slice none 0 0] 113) := by
    have := heap_alloc_new ((w.alloc (.cells #[.int .i64 0, .int .i64 0, .int .i64 0, .int .i64 0, .int .i64 0, .slice none 0 0] 41)).alloc (.cells #[.bool false] 4)) (.cells #[.int .u32 0, .int .u16 0, .int .u16 0, .int .u32 0, .int .u32 0, .slice none 0 0] 113)
    rw [hW, hq]; simpa using this
  have HS := Lib.hid (hS.bound.below hB)
  have HIB := Lib.hid hb
  have HR := Lib.hid hr
  have HW := Lib.hid hW
  have HB := Lib.hid hB
  have HZ := Lib.hid hsz
  have HQ := Lib.hid hq
  have K0 := Lib.hid k0
  have K1 := Lib.hid k1
  have K2 := Lib.hid k2
  clear hS hb hr hW hB hsz k0 k1 k2
  go_enter_defers Try.func34, Try.ntmps34
  go_wp2_with (at_builtin; rw [← hq, ← HW.out]; clear hq; go_must (refine dup_list (W := W) HS.out hl rfl (.const (.slice none 0 0)) (.tmp 7) rfl rfl rfl ?_); intro A1 c1 w1 H1)
  have z0 := blk_below K0.out H1.out.2
  have z1 := blk_below K1.out H1.out.2
  have z2 := blk_below K2.out H1.out.2
  have HB1 := Lib.hid (below_then HB.out HB.out.size H1.out.2)
  refine (unmarshal65_bad (q + 1 + 1) _ xs (fun k => W.heap.size ≤ k) w1 z2 H1.out.1 (fun k hk => by have := HZ.out; omega) HIB.out (by omega) HR.out).mono ?_
  rintro e w2 ⟨⟨y, rfl⟩, H2⟩
  have y0 := blk_grown z0 H2.out (by intro he; injection he with he; omega)
  have y1 := blk_grown z1 H2.out (by intro he; injection he with he; omega)
  have hw3 : q + 1 < w2.heap.size := blk_lt y1
  have HB2 := Lib.hid (HB1.out.grown H2.out HB1.out.size fun k hk => by injection hk with hk; have := HQ.out; omega)
  have g0 : w2.cell? ⟨q, 0, none⟩ = some (.int .i64 0) := blk_cell y0 0
  have e0 : w2.frozen? ⟨q, 0, none⟩ = false := blk_frozen y0 0
  have g1 : w2.cell? ⟨q, 1, none⟩ = some (.int .i64 0) := blk_cell y0 1
  have e1 : w2.frozen? ⟨q, 1, none⟩ = false := blk_frozen y0 1
  have g2' : w2.cell? ⟨q, 2, none⟩ = some (.int .i64 0) := blk_cell y0 2
  have e2 : w2.frozen? ⟨q, 2, none⟩ = false := blk_frozen y0 2
  have g3 : w2.cell? ⟨q, 3, none⟩ = some (.int .i64 0) := blk_cell y0 3
  have e3 : w2.frozen? ⟨q, 3, none⟩ = false := blk_frozen y0 3
  have g4' : w2.cell? ⟨q, 4, none⟩ = some (.int .i64 0) := blk_cell y0 4
  have e4 : w2.frozen? ⟨q, 4, none⟩ = false := blk_frozen y0 4
  have g5 : w2.cell? ⟨q, 5, none⟩ = some (.slice none 0 0) := blk_cell y0 5
  have e5 : w2.frozen? ⟨q, 5, none⟩ = false := blk_frozen y0 5
  have g6 : w2.cell? ⟨q + 1, 0, none⟩ = some (.bool false) := blk_cell y1 0
  have e6 : w2.frozen? ⟨q + 1, 0, none⟩ = false := blk_frozen y1 0
  clear y0 y1 z0 z1 z2
  go_wp2_with fail
  refine leaves_cons (f := 64) (args := #[.pointer (some ⟨q, 0, none⟩), .pointer (some ⟨q + 1, 0, none⟩)]) (by simp) (by simp [go_sem]) ?_
  refine (idle64 _ _ _).mono ?_
  rintro e u' w'' ⟨rfl, rfl, rfl⟩
  simp [Leaves, settle, results, Try.results34, go_sem, g0, g1, g2', g3, g4', g5, g6]
  have hqq := HQ.out
  refine Lib.hid ?_
  exact ((((((HB2.out.setCell (by show _ ≤ q; omega) _).setCell (by show _ ≤ q; omega) _).setCell (by show _ ≤ q; omega) _).setCell (by show _ ≤ q; omega) _).setCell (by show _ ≤ q; omega) _).setCell (by show _ ≤ q; omega) _).setCell (by show _ ≤ q + 1; omega) _
end Go.Proofs.Ytgijhgonpgidiaa
