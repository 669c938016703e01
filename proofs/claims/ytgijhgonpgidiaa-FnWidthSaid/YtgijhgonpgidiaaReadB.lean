/-
  Contracts of told and ParseMessage. No statement of the seat is proved here.
-/
import Derived.Test.YtgijhgonpgidiaaRead
namespace Go.Proofs.Ytgijhgonpgidiaa
open Go.RowKit Go.Proofs.YtgijhgonpgidiaaW.PrintWords

theorem size41 : (Try.prog.info? 41).map (·.size) = some 6 := by kernel_rfl

set_option maxRecDepth 100000 in
set_option maxHeartbeats 3200000 in
theorem told66 (L t f s p : Int) (dv : Value) (data : List Int) (ok : Nat → Prop) (w : World) (hS : Sl ok w dv data) (hdl : data.length ≤ 140737488355328) (hL : 0 ≤ L ∧ L < 4294967296) (ht : 0 ≤ t ∧ t < 65536) (hf : 0 ≤ f ∧ f < 65536) (hs : 0 ≤ s ∧ s < 4294967296) (hp : 0 ≤ p ∧ p < 4294967296) :
    Calls Try.prog 66 #[.agg #[.int .u32 L, .int .u16 t, .int .u16 f, .int .u32 s, .int .u32 p, dv]] w fun e w' => ∃ u, e = .returned (.agg #[.int .i64 L, .int .i64 t, .int .i64 f, .int .i64 s, .int .i64 p, u]) ∧ Hid (Sl (fun k => w.heap.size ≤ k) w' u data ∧ Below w.heap.size w w') := by
  obtain ⟨A, c, rfl, _⟩ := hS.form
  obtain ⟨W, hW⟩ : ∃ W, W = ((w.alloc (.cells #[.int .u32 L, .int .u16 t, .int .u16 f, .int .u32 s, .int .u32 p, .slice A data.length c] 113)).alloc (.cells #[.int .i64 0, .int .i64 0, .int .i64 0, .int .i64 0, .int .i64 0, .slice none 0 0] 41)).alloc (.cells #[.int .u32 L, .int .u16 t, .int .u16 f, .int .u32 s, .int .u32 p] 111) := ⟨_, rfl⟩
  have HW := Lib.hid hW
  obtain ⟨hL0, hL1⟩ := hL
  obtain ⟨ht0, ht1⟩ := ht
  obtain ⟨hf0, hf1⟩ := hf
  obtain ⟨hs0, hs1⟩ := hs
  obtain ⟨hp0, hp1⟩ := hp
  have HS := Lib.hid hS.bound
  clear hS hW
  go_enter Try.func66, Try.ntmps66
  go_wp2_with fail
  rw [← HW.out]
  obtain ⟨q, hq⟩ : ∃ q, q = w.heap.size := ⟨_, rfl⟩
  rw [← hq]
  have j0 : W.drew.heap[q]? = some (.cells #[.int .u32 L, .int .u16 t, .int .u16 f, .int .u32 s, .int .u32 p, .slice A data.length c] 113) := by rw [HW.out, hq]; exact blk_alloc (blk_alloc (heap_alloc_new _ _) _) _
  have j1 : W.drew.heap[q + 1]? = some (.cells #[.int .i64 0, .int .i64 0, .int .i64 0, .int .i64 0, .int .i64 0, .slice none 0 0] 41) := by
    have := heap_alloc_new (w.alloc (.cells #[.int .u32 L, .int .u16 t, .int .u16 f, .int .u32 s, .int .u32 p, .slice A data.length c] 113)) (.cells #[.int .i64 0, .int .i64 0, .int .i64 0, .int .i64 0, .int .i64 0, .slice none 0 0] 41)
    rw [HW.out, hq]; exact blk_alloc (by simpa using this) _
  have j2 : W.drew.heap[q + 1 + 1]? = some (.cells #[.int .u32 L, .int .u16 t, .int .u16 f, .int .u32 s, .int .u32 p] 111) := by
    have := heap_alloc_new ((w.alloc (.cells #[.int .u32 L, .int .u16 t, .int .u16 f, .int .u32 s, .int .u32 p, .slice A data.length c] 113)).alloc (.cells #[.int .i64 0, .int .i64 0, .int .i64 0, .int .i64 0, .int .i64 0, .slice none 0 0] 41)) (.cells #[.int .u32 L, .int .u16 t, .int .u16 f, .int .u32 s, .int .u32 p] 111)
    have hh : W.heap[q + 1 + 1]? = some (.cells #[.int .u32 L, .int .u16 t, .int .u16 f, .int .u32 s, .int .u32 p] 111) := by rw [HW.out, hq]; simpa using this
    exact hh
  have hB3 : Below w.heap.size w W.drew := by rw [HW.out]; exact ((((Below.refl _ _).alloc (Nat.le_refl _) _).alloc (by simp) _).alloc (by simp; omega) _).drew
  have hz : W.drew.heap.size = q + 3 := by show W.heap.size = q + 3; rw [HW.out, hq]; simp
  have hS3 : Sl (fun k => ok k ∧ k < w.heap.size) W.drew (.slice A data.length c) data := HS.out.below hB3
  have a5 : W.drew.cell? ⟨q, 5, none⟩ = some (.slice A data.length c) := blk_cell j0 5
  have b0 : W.drew.cell? ⟨q + 1 + 1, 0, none⟩ = some (.int .u32 L) := blk_cell j2 0
  have b1 : W.drew.cell? ⟨q + 1 + 1, 1, none⟩ = some (.int .u16 t) := blk_cell j2 1
  have b2 : W.drew.cell? ⟨q + 1 + 1, 2, none⟩ = some (.int .u16 f) := blk_cell j2 2
  have b3 : W.drew.cell? ⟨q + 1 + 1, 3, none⟩ = some (.int .u32 s) := blk_cell j2 3
  have b4 : W.drew.cell? ⟨q + 1 + 1, 4, none⟩ = some (.int .u32 p) := blk_cell j2 4
  have HS3 := Lib.hid hS3
  have J0 := Lib.hid j0
  have J1 := Lib.hid j1
  have J2 := Lib.hid j2
  have HB3 := Lib.hid hB3
  have HQ := Lib.hid hq
  have HZ := Lib.hid hz
  clear hS3 j0 j1 j2 hB3 hz hq
  go_region_held3 (fun w' => w'.cell? ⟨q, 5, none⟩ = some (.slice A data.length c) ∧ w'.cell? ⟨q + 1 + 1, 0, none⟩ = some (.int .u32 L) ∧ w'.cell? ⟨q + 1 + 1, 1, none⟩ = some (.int .u16 t) ∧ w'.cell? ⟨q + 1 + 1, 2, none⟩ = some (.int .u16 f) ∧ w'.cell? ⟨q + 1 + 1, 3, none⟩ = some (.int .u32 s) ∧ w'.cell? ⟨q + 1 + 1, 4, none⟩ = some (.int .u32 p)) (first | with_reducible exact ⟨a5, b0, b1, b2, b3, b4⟩ | with_reducible exact ⟨c5, d0, d1, d2, d3, d4⟩ | go_keep)
    (first | (refine dup_step HS3.out (by omega) (by rfl) (.const (.slice none 0 0)) (.tmp 22) (by rfl) (by rfl) (by rfl) ?_; intro A2 c2 w2 H2
              have z0 := blk_below J0.out H2.out.2
              have z1 := blk_below J1.out H2.out.2
              have z2 := blk_below J2.out H2.out.2
              have Z1 := Lib.hid z1
              have c5 : w2.cell? ⟨q, 5, none⟩ = some (.slice A data.length c) := blk_cell z0 5
              have d0 : w2.cell? ⟨q + 1 + 1, 0, none⟩ = some (.int .u32 L) := blk_cell z2 0
              have d1 : w2.cell? ⟨q + 1 + 1, 1, none⟩ = some (.int .u16 t) := blk_cell z2 1
              have d2 : w2.cell? ⟨q + 1 + 1, 2, none⟩ = some (.int .u16 f) := blk_cell z2 2
              have d3 : w2.cell? ⟨q + 1 + 1, 3, none⟩ = some (.int .u32 s) := blk_cell z2 3
              have d4 : w2.cell? ⟨q + 1 + 1, 4, none⟩ = some (.int .u32 p) := blk_cell z2 4
              have g0 : w2.cell? ⟨q + 1, 0, none⟩ = some (.int .i64 0) := blk_cell z1 0
              have e0 : w2.frozen? ⟨q + 1, 0, none⟩ = false := blk_frozen z1 0
              have g1 : w2.cell? ⟨q + 1, 1, none⟩ = some (.int .i64 0) := blk_cell z1 1
              have e1 : w2.frozen? ⟨q + 1, 1, none⟩ = false := blk_frozen z1 1
              have g2 : w2.cell? ⟨q + 1, 2, none⟩ = some (.int .i64 0) := blk_cell z1 2
              have e2 : w2.frozen? ⟨q + 1, 2, none⟩ = false := blk_frozen z1 2
              have g3 : w2.cell? ⟨q + 1, 3, none⟩ = some (.int .i64 0) := blk_cell z1 3
              have e3 : w2.frozen? ⟨q + 1, 3, none⟩ = false := blk_frozen z1 3
              have g4 : w2.cell? ⟨q + 1, 4, none⟩ = some (.int .i64 0) := blk_cell z1 4
              have e4 : w2.frozen? ⟨q + 1, 4, none⟩ = false := blk_frozen z1 4
              have g5 : w2.cell? ⟨q + 1, 5, none⟩ = some (.slice none 0 0) := blk_cell z1 5
              have e5 : w2.frozen? ⟨q + 1, 5, none⟩ = false := blk_frozen z1 5
              clear z0 z1 z2))
  all_goals
    clear a5 b0 b1 b2 b3 b4 c5 d0 d1 d2 d3 d4 g0 g1 g2 g3 g4 g5 e0 e1 e2 e3 e4 e5 J0 J1 J2 HS3 HW HS
    rename_i hkeep
    clear hkeep
    rw [show IntKind.i64.wrap L = L by rw [IntKind.wrap_i64]; omega, show IntKind.i64.wrap t = t by rw [IntKind.wrap_i64]; omega, show IntKind.i64.wrap f = f by rw [IntKind.wrap_i64]; omega, show IntKind.i64.wrap s = s by rw [IntKind.wrap_i64]; omega, show IntKind.i64.wrap p = p by rw [IntKind.wrap_i64]; omega]
    go_wp2_with fail
    refine bodyPost_ret (results_cell_row Try.results66 _ _ (q + 1) 41 #[.int .i64 L, .int .i64 t, .int .i64 f, .int .i64 s, .int .i64 p, .slice A2 data.length c2] (0, 0) _ rfl ?_ Try.underlying41 rfl (by rw [size41]; rfl)) rfl ?_
    · have h0 := blk_set Z1.out 0 (.int .i64 L)
      have h1 := blk_set h0 1 (.int .i64 t)
      have h2 := blk_set h1 2 (.int .i64 f)
      have h3 := blk_set h2 3 (.int .i64 s)
      have h4 := blk_set h3 4 (.int .i64 p)
      have h5 := blk_set h4 5 (.slice A2 data.length c2)
      simpa using h5
    · refine ⟨_, rfl, Lib.hid ⟨?_, ?_⟩⟩
      · have hz := HZ.out
        have hqq := HQ.out
        refine (H2.out.1.step fun k hk _ => ?_).mono fun k hk => by omega
        rw [Below.heap_setCell _ _ _ _ (by show k ≠ q + 1; omega), Below.heap_setCell _ _ _ _ (by show k ≠ q + 1; omega), Below.heap_setCell _ _ _ _ (by show k ≠ q + 1; omega), Below.heap_setCell _ _ _ _ (by show k ≠ q + 1; omega), Below.heap_setCell _ _ _ _ (by show k ≠ q + 1; omega), Below.heap_setCell _ _ _ _ (by show k ≠ q + 1; omega)]
      · have hqq := HQ.out
        have h := below_then HB3.out HB3.out.size H2.out.2
        exact (((((h.setCell (by show _ ≤ q + 1; omega) _).setCell (by show _ ≤ q + 1; omega) _).setCell (by show _ ≤ q + 1; omega) _).setCell (by show _ ≤ q + 1; omega) _).setCell (by show _ ≤ q + 1; omega) _).setCell (by show _ ≤ q + 1; omega) _
end Go.Proofs.Ytgijhgonpgidiaa
