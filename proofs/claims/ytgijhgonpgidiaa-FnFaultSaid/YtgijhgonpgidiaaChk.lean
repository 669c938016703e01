/-
  Contracts of checkMessage where no error is told, and of Check there. No statement of the seat is proved here.
-/
import Derived.Test.YtgijhgonpgidiaaNx2
import Derived.Test.YtgijhgonpgidiaaMsg
namespace Go.Proofs.Ytgijhgonpgidiaa
open Go.RowKit Go.Proofs.YtgijhgonpgidiaaW.PrintWords

set_option maxRecDepth 100000 in
set_option maxHeartbeats 3200000 in
/-- No error: another type than 2 and 3, or the number 0. -/
theorem check106_none (L t f s p : Int) (dv : Value) (data : List Int) (ok : Nat → Prop) (w : World) (hS : Sl ok w dv data) (hb : IsB data) (h : (t ≠ 2 ∧ t ≠ 3) ∨ (t = 2 ∧ 4 ≤ data.length ∧ g4 data = 0)) :
    Calls Try.prog 106 #[.agg #[.int .u32 L, .int .u16 t, .int .u16 f, .int .u32 s, .int .u32 p, dv]] w fun e w' => e = .returned .nilIface ∧ Hid (Below w.heap.size w w') := by
  have hB : Below w.heap.size w (w.alloc (.cells #[.int .u32 L, .int .u16 t, .int .u16 f, .int .u32 s, .int .u32 p, dv] 113)) := (Below.refl _ _).alloc (Nat.le_refl _) _
  rcases h with ⟨h2, h3⟩ | ⟨rfl, h4, h0⟩
  · obtain ⟨A, c, rfl, _⟩ := hS.form
    have h2b : (t == 2) = false := by simpa using h2
    have h3b : (t == 3) = false := by simpa using h3
    have HB := Lib.hid hB
    clear hS hb h2 h3 hB
    go_enter Try.func106, Try.ntmps106
    go_wp2_with fail
    go_ret
    exact ⟨rfl, HB⟩
  · obtain ⟨b, off, c, rfl, hc, hcm, _, _, _⟩ := hS.at_ (by omega)
    have h4i : ¬ ((data.length : Int) < 4) := by omega
    have h4c : (4 : Int) ≤ (c : Int) := by omega
    have h4c2 : 4 ≤ c := by omega
    have hc0 : ¬ c = 0 := by omega
    have hS2 := (hS.below hB).sub 0 4 (by omega) h4 (some ⟨b, off, none⟩) (fun _ => rfl)
    simp only [Nat.sub_zero, List.drop_zero] at hS2
    have hg : g4 (data.take 4) = 0 := by
      rw [← h0]
      have e := (List.take_append_drop 4 data).symm
      conv => rhs; rw [e]
      rw [g4_append (by rw [List.length_take]; omega)]
    have HS2 := Lib.hid hS2
    have HB := Lib.hid hB
    have HIB := Lib.hid (hb.take 4)
    have HL : Hid (4 ≤ (data.take 4).length) := Lib.hid (by rw [List.length_take]; omega)
    have HG := Lib.hid hg
    obtain ⟨W, hW⟩ : ∃ W, W = w.alloc (.cells #[.int .u32 L, .int .u16 2, .int .u16 f, .int .u32 s, .int .u32 p, .slice (some ⟨b, off, none⟩) data.length c] 113) := ⟨_, rfl⟩
    have HW := Lib.hid hW
    rw [← hW] at HS2 HB
    clear hS hb hB hS2 hg hW h0
    go_enter Try.func106, Try.ntmps106
    go_wp2_with fail
    rw [← HW.out]
    refine (get99 HS2.out HL.out HIB.out).mono ?_
    rintro e w1 ⟨rfl, n1, hw1⟩
    rw [HG.out]
    have HB1 := Lib.hid (show Below w.heap.size w w1 by rw [hw1]; exact pw_below_drewN HB.out n1)
    clear hw1
    go_wp2_with fail
    go_ret
    exact ⟨rfl, HB1⟩

set_option maxHeartbeats 800000 in
theorem zz75_nil (P : World → Prop) (L t f s p : Int) (dA : Option Addr) (dn dc : Nat) (w : World)
    (hC : Calls Try.prog 106 #[.agg #[.int .u32 L, .int .u16 t, .int .u16 f, .int .u32 s, .int .u32 p, .slice dA dn dc]] (w.alloc (.cells #[.int .u32 L, .int .u16 t, .int .u16 f, .int .u32 s, .int .u32 p, .slice dA dn dc] 113)) fun e w' => e = .returned .nilIface ∧ Hid (P w')) :
    Calls Try.prog 75 #[.agg #[.int .u32 L, .int .u16 t, .int .u16 f, .int .u32 s, .int .u32 p, .slice dA dn dc]] w fun e w' => e = .returned .nilIface ∧ Hid (P w') := by
  have HC := Lib.hid hC
  clear hC
  go_enter Try.func75, Try.ntmps75
  go_wp2_with fail
  refine HC.out.mono ?_
  rintro e w1 ⟨rfl, hq⟩
  go_wp2_with fail
  go_ret
  exact ⟨rfl, hq⟩
set_option maxHeartbeats 800000 in
theorem zz75_some (P : Addr → World → Prop) (L t f s p : Int) (dA : Option Addr) (dn dc : Nat) (w : World)
    (hC : Calls Try.prog 106 #[.agg #[.int .u32 L, .int .u16 t, .int .u16 f, .int .u32 s, .int .u32 p, .slice dA dn dc]] (w.alloc (.cells #[.int .u32 L, .int .u16 t, .int .u16 f, .int .u32 s, .int .u32 p, .slice dA dn dc] 113)) fun e w' => ∃ a, e = .returned (.iface 126 (.pointer (some a))) ∧ Hid (P a w')) :
    Calls Try.prog 75 #[.agg #[.int .u32 L, .int .u16 t, .int .u16 f, .int .u32 s, .int .u32 p, .slice dA dn dc]] w fun e w' => ∃ a, e = .returned (.iface 126 (.pointer (some a))) ∧ Hid (P a w') := by
  have HC := Lib.hid hC
  clear hC
  go_enter Try.func75, Try.ntmps75
  go_wp2_with fail
  refine HC.out.mono ?_
  rintro e w1 ⟨a, rfl, hq⟩
  go_wp2_with fail
  go_ret
  exact ⟨a, rfl, hq⟩

set_option maxRecDepth 100000 in
set_option maxHeartbeats 3200000 in
/-- Check where no error is told. -/
theorem check41_none (L t f s p : Int) (dv : Value) (data : List Int) (ok : Nat → Prop) (w : World) (hS : Sl ok w dv data) (hb : IsB data) (hdl : data.length ≤ 1000000) (hL : 0 ≤ L ∧ L < 4294967296) (ht : 0 ≤ t ∧ t < 65536) (hf : 0 ≤ f ∧ f < 65536) (hs : 0 ≤ s ∧ s < 4294967296) (hp : 0 ≤ p ∧ p < 4294967296)
    (h : (t ≠ 2 ∧ t ≠ 3) ∨ (t = 2 ∧ 4 ≤ data.length ∧ g4 data = 0)) :
    Calls Try.prog 41 #[.agg #[.int .i64 L, .int .i64 t, .int .i64 f, .int .i64 s, .int .i64 p, dv]] w fun e w' => e = .returned (.agg #[.bool true, .bool false, .int .i64 0, .int .i64 0, .int .i64 0, .string ⟨#[]⟩]) ∧ Hid (Below w.heap.size w w') := by
  have hmf : ∀ (fn : Fn) (first cap : Array Value) (w : World), (Instr.makeFunc fn first cap).run Try.prog w = .ok (.func fn first cap) w := fun _ _ _ _ => rfl
  obtain ⟨A, c, rfl, _⟩ := hS.form
  obtain ⟨q, hq⟩ : ∃ q, q = w.heap.size := ⟨_, rfl⟩
  obtain ⟨W, hW⟩ : ∃ W, W = (w.alloc (.cells #[.int .i64 L, .int .i64 t, .int .i64 f, .int .i64 s, .int .i64 p, .slice A data.length c] 41)).alloc (.cells #[.bool false, .bool false, .int .i64 0, .int .i64 0, .int .i64 0, .string ⟨#[]⟩] 67) := ⟨_, rfl⟩
  have hB : Below w.heap.size w W := by rw [hW]; exact ((Below.refl _ _).alloc (Nat.le_refl _) _).alloc (by simp) _
  have k0 : W.heap[q]? = some (.cells #[.int .i64 L, .int .i64 t, .int .i64 f, .int .i64 s, .int .i64 p, .slice A data.length c] 41) := by rw [hW, hq]; exact blk_alloc (heap_alloc_new _ _) _
  have k1 : W.heap[q + 1]? = some (.cells #[.bool false, .bool false, .int .i64 0, .int .i64 0, .int .i64 0, .string ⟨#[]⟩] 67) := by
    have := heap_alloc_new (w.alloc (.cells #[.int .i64 L, .int .i64 t, .int .i64 f, .int .i64 s, .int .i64 p, .slice A data.length c] 41)) (.cells #[.bool false, .bool false, .int .i64 0, .int .i64 0, .int .i64 0, .string ⟨#[]⟩] 67)
    rw [hW, hq]; simpa using this
  have a0 : W.cell? ⟨q, 0, none⟩ = some (.int .i64 L) := blk_cell k0 0
  have a1 : W.cell? ⟨q, 1, none⟩ = some (.int .i64 t) := blk_cell k0 1
  have a2 : W.cell? ⟨q, 2, none⟩ = some (.int .i64 f) := blk_cell k0 2
  have a3 : W.cell? ⟨q, 3, none⟩ = some (.int .i64 s) := blk_cell k0 3
  have a4 : W.cell? ⟨q, 4, none⟩ = some (.int .i64 p) := blk_cell k0 4
  have a5 : W.cell? ⟨q, 5, none⟩ = some (.slice A data.length c) := blk_cell k0 5
  have HM := Lib.hid (made62 L t f s p _ data _ W (hS.below hB) hdl hL ht hf hs hp)
  have HIB := Lib.hid hb
  have HH := Lib.hid h
  have HW := Lib.hid hW
  have HB := Lib.hid hB
  have HQ := Lib.hid hq
  have K1 := Lib.hid k1
  clear hS hb h hL ht hf hs hp hW hB k0 k1
  go_enter_defers Try.func41, Try.ntmps41
  go_wp2_with fail
  rw [← hq, ← HW.out]
  clear hq
  refine HM.out.mono ?_
  rintro e w1 ⟨u1, rfl, H1⟩
  obtain ⟨A1, c1, rfl, _⟩ := H1.out.1.form
  obtain ⟨y, hy⟩ : ∃ y, y = w1.heap.size := ⟨_, rfl⟩
  obtain ⟨W2, hW2⟩ : ∃ X, X = w1.alloc (.cells #[.int .u32 L, .int .u16 t, .int .u16 f, .int .u32 s, .int .u32 p, .slice A1 data.length c1] 113) := ⟨_, rfl⟩
  have hb2 : Below w1.heap.size w1 W2 := by rw [hW2]; exact (Below.refl _ _).alloc (Nat.le_refl _) _
  have ky : W2.heap[y]? = some (.cells #[.int .u32 L, .int .u16 t, .int .u16 f, .int .u32 s, .int .u32 p, .slice A1 data.length c1] 113) := by rw [hW2, hy]; exact heap_alloc_new _ _
  have m0 : W2.cell? ⟨y, 0, none⟩ = some (.int .u32 L) := blk_cell ky 0
  have m1 : W2.cell? ⟨y, 1, none⟩ = some (.int .u16 t) := blk_cell ky 1
  have m2 : W2.cell? ⟨y, 2, none⟩ = some (.int .u16 f) := blk_cell ky 2
  have m3 : W2.cell? ⟨y, 3, none⟩ = some (.int .u32 s) := blk_cell ky 3
  have m4 : W2.cell? ⟨y, 4, none⟩ = some (.int .u32 p) := blk_cell ky 4
  have m5 : W2.cell? ⟨y, 5, none⟩ = some (.slice A1 data.length c1) := blk_cell ky 5
  have hal : Below W2.heap.size W2 (W2.alloc (.cells #[.int .u32 L, .int .u16 t, .int .u16 f, .int .u32 s, .int .u32 p, .slice A1 data.length c1] 113)) := (Below.refl _ _).alloc (Nat.le_refl _) _
  have hch := check106_none L t f s p _ data _ (W2.alloc (.cells #[.int .u32 L, .int .u16 t, .int .u16 f, .int .u32 s, .int .u32 p, .slice A1 data.length c1] 113)) ((H1.out.1.below hb2).below hal) HIB.out HH.out
  have HZ := Lib.hid (zz75_nil (fun w' => Below W2.heap.size W2 w') L t f s p A1 data.length c1 W2 (hch.mono (by rintro e w' ⟨rfl, h⟩; exact ⟨rfl, Lib.hid (hal.trans (h.out.mono hal.size))⟩)))
  have hk1 := blk_below (blk_below K1.out H1.out.2) hb2
  have HK1 := Lib.hid hk1
  have HB2 := Lib.hid (below_then (below_then HB.out HB.out.size H1.out.2) (below_then HB.out HB.out.size H1.out.2).size hb2)
  have HW2 := Lib.hid hW2
  clear hb2 ky hal hch hk1 hW2
  go_wp2_with fail
  rw [← HW2.out, ← hy]
  clear hy
  refine HZ.out.mono ?_
  rintro e w3 ⟨rfl, H3⟩
  have hk3 := blk_below HK1.out H3.out
  have z0 : w3.cell? ⟨q + 1, 0, none⟩ = some (.bool false) := blk_cell hk3 0
  have z1 : w3.cell? ⟨q + 1, 1, none⟩ = some (.bool false) := blk_cell hk3 1
  have z2 : w3.cell? ⟨q + 1, 2, none⟩ = some (.int .i64 0) := blk_cell hk3 2
  have z3 : w3.cell? ⟨q + 1, 3, none⟩ = some (.int .i64 0) := blk_cell hk3 3
  have z4 : w3.cell? ⟨q + 1, 4, none⟩ = some (.int .i64 0) := blk_cell hk3 4
  have z5 : w3.cell? ⟨q + 1, 5, none⟩ = some (.string ⟨#[]⟩) := blk_cell hk3 5
  have f0 : w3.frozen? ⟨q + 1, 0, none⟩ = false := blk_frozen hk3 0
  have f1 : w3.frozen? ⟨q + 1, 1, none⟩ = false := blk_frozen hk3 1
  have f2 : w3.frozen? ⟨q + 1, 2, none⟩ = false := blk_frozen hk3 2
  have f3 : w3.frozen? ⟨q + 1, 3, none⟩ = false := blk_frozen hk3 3
  have f4 : w3.frozen? ⟨q + 1, 4, none⟩ = false := blk_frozen hk3 4
  have f5 : w3.frozen? ⟨q + 1, 5, none⟩ = false := blk_frozen hk3 5
  have HB3 := Lib.hid (below_then HB2.out HB2.out.size H3.out)
  clear hk3 m0 m1 m2 m3 m4 m5
  go_wp2_with fail
  refine leaves_cons (f := 74) (args := #[.pointer (some ⟨q + 1, 0, none⟩)]) (by simp) (by simp [go_sem]) ?_
  refine (idle74 _ _).mono ?_
  rintro e u' w'' ⟨rfl, rfl, rfl⟩
  simp [Leaves, settle, results, Try.results41, go_sem, z0, z1, z2, z3, z4, z5]
  have hqq := HQ.out
  exact Lib.hid ((((((HB3.out.setCell (by show _ ≤ q + 1; omega) _).setCell (by show _ ≤ q + 1; omega) _).setCell (by show _ ≤ q + 1; omega) _).setCell (by show _ ≤ q + 1; omega) _).setCell (by show _ ≤ q + 1; omega) _).setCell (by show _ ≤ q + 1; omega) _)
end Go.Proofs.Ytgijhgonpgidiaa
