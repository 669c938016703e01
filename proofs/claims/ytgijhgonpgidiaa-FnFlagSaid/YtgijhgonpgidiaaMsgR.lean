/-
  The bytes of a message read: plain laws, SameMessage, ParseMessage at these bytes, and the walks of FnMessageRead and FnShort. No statement of the seat is proved here.
-/
import Derived.Test.YtgijhgonpgidiaaReadC
import Derived.Test.YtgijhgonpgidiaaMsgW
namespace Go.Proofs.Ytgijhgonpgidiaa
open Go.RowKit Go.Proofs.YtgijhgonpgidiaaW.PrintWords

/-! ### What the bytes of a message are read as -/
theorem msgB_list (L t f s p : Int) (data : List Int) (hL : 0 ≤ L ∧ L < 4294967296) (ht : 0 ≤ t ∧ t < 65536) (hf : 0 ≤ f ∧ f < 65536) (hs : 0 ≤ s ∧ s < 4294967296) (hp : 0 ≤ p ∧ p < 4294967296) :
    msgB L t f s p data = L % 256 :: L / 256 % 256 :: L / 65536 % 256 :: L / 16777216 :: t % 256 :: t / 256 :: f % 256 :: f / 256 :: s % 256 :: s / 256 % 256 :: s / 65536 % 256 :: s / 16777216 :: p % 256 :: p / 256 % 256 :: p / 65536 % 256 :: p / 16777216 :: data := by
  unfold msgB
  rw [putB4 L hL.1 hL.2, putB4 s hs.1 hs.2, putB4 p hp.1 hp.2, putB2 t ht.1 ht.2, putB2 f hf.1 hf.2]
  rfl
theorem g4_cons (a b c d : Int) (r : List Int) : g4 (a :: b :: c :: d :: r) = a + 256 * b + 65536 * c + 16777216 * d := rfl
theorem g2_cons (a b : Int) (r : List Int) : g2 (a :: b :: r) = a + 256 * b := rfl
theorem msgB_isB {L t f s p : Int} {data : List Int} (hb : IsB data) : IsB (msgB L t f s p data) :=
  (((((putB_isB 4 L).append (putB_isB 2 t)).append (putB_isB 2 f)).append (putB_isB 4 s)).append (putB_isB 4 p)).append hb
theorem msg_read {L t f s p : Int} {data : List Int} (hM : MP L t f s p data.length) :
    g4 (msgB L t f s p data) = L ∧ g2 ((msgB L t f s p data).drop 4) = t ∧ g2 ((msgB L t f s p data).drop 6) = f ∧ g4 ((msgB L t f s p data).drop 8) = s ∧ g4 ((msgB L t f s p data).drop 12) = p ∧
      ((msgB L t f s p data).take L.toNat).drop 16 = data ∧ readable (msgB L t f s p data) := by
  obtain ⟨hL, h4, hn, ht, hf, hs, hp⟩ := hM
  have hlen := msgB_length L t f s p data
  have e := msgB_list L t f s p data ⟨by omega, by omega⟩ ht hf hs hp
  have e0 : g4 (msgB L t f s p data) = L := by rw [e, g4_cons]; omega
  refine ⟨e0, ?_, ?_, ?_, ?_, ?_, by omega, by omega, by omega, by omega⟩
  · rw [e]; simp only [List.drop_succ_cons, List.drop_zero, g2_cons]; omega
  · rw [e]; simp only [List.drop_succ_cons, List.drop_zero, g2_cons]; omega
  · rw [e]; simp only [List.drop_succ_cons, List.drop_zero, g4_cons]; omega
  · rw [e]; simp only [List.drop_succ_cons, List.drop_zero, g4_cons]; omega
  · rw [List.take_of_length_le (by omega), e]; simp only [List.drop_succ_cons, List.drop_zero]
theorem msg_short {L t f s p : Int} {data : List Int} (hM : MP L t f s p data.length) (n : Nat) (hn : (n : Int) < L) : ¬ readable ((msgB L t f s p data).take n) := by
  obtain ⟨hL, h4, hdn, ht, hf, hs, hp⟩ := hM
  have hlen := msgB_length L t f s p data
  have e := msgB_list L t f s p data ⟨by omega, by omega⟩ ht hf hs hp
  rintro ⟨h1, h2, h3, h5⟩
  have hl : ((msgB L t f s p data).take n).length = n := by rw [List.length_take]; omega
  obtain ⟨m, rfl⟩ : ∃ m, n = m + 4 := ⟨n - 4, by omega⟩
  have e0 : g4 ((msgB L t f s p data).take (m + 4)) = L := by rw [e]; simp only [List.take_succ_cons, g4_cons]; omega
  omega

theorem parse34_msg {L t f s p : Int} {data : List Int} {v : Value} {ok : Nat → Prop} {w : World} (hS : Sl ok w v (msgB L t f s p data)) (hb : IsB data) (hM : MP L t f s p data.length) :
    Calls Try.prog 34 #[v] w fun e w' => ∃ u, e = .returned (.tuple #[.agg #[.int .i64 L, .int .i64 t, .int .i64 f, .int .i64 s, .int .i64 p, u], .bool true]) ∧ Hid (Sl (fun k => w.heap.size ≤ k) w' u data ∧ Below w.heap.size w w') := by
  obtain ⟨h0, h1, h2, h3, h4, h5, h6⟩ := msg_read hM
  have h := parse34_good v _ ok w hS (msgB_isB hb) (by rw [msgB_length]; have := hM.2.2.1; omega) h6
  rw [h0, h1, h2, h3, h4, h5] at h
  exact h

set_option maxRecDepth 100000 in
set_option maxHeartbeats 1600000 in
theorem same35 (L t f s p : Int) (dv1 dv2 : Value) (data : List Int) (ok1 ok2 : Nat → Prop) (w : World) (h1 : Sl ok1 w dv1 data) (h2 : Sl ok2 w dv2 data) :
    Calls Try.prog 35 #[.agg #[.int .i64 L, .int .i64 t, .int .i64 f, .int .i64 s, .int .i64 p, dv1], .agg #[.int .i64 L, .int .i64 t, .int .i64 f, .int .i64 s, .int .i64 p, dv2]] w fun e w' => e = .returned (.bool true) ∧ Below w.heap.size w w' := by
  obtain ⟨A1, c1, rfl, _⟩ := h1.form
  obtain ⟨A2, c2, rfl, _⟩ := h2.form
  have hB : Below w.heap.size w ((w.alloc (.cells #[.int .i64 L, .int .i64 t, .int .i64 f, .int .i64 s, .int .i64 p, .slice A1 data.length c1] 43)).alloc (.cells #[.int .i64 L, .int .i64 t, .int .i64 f, .int .i64 s, .int .i64 p, .slice A2 data.length c2] 43)) := ((Below.refl _ _).alloc (Nat.le_refl _) _).alloc (by simp) _
  have hc1 := str_of (h1.below hB)
  have hc2 := str_of (h2.below hB)
  have HB := Lib.hid hB
  clear hB h1 h2
  go_enter Try.func35, Try.ntmps35
  go_wp2_with fail
  go_ret
  exact ⟨by simp, HB.out⟩

set_option maxRecDepth 100000 in
set_option maxHeartbeats 3200000 in
theorem walk7 (L t f s p : Int) (dv : Value) (data : List Int) (ok : Nat → Prop) (w : World) (hS : Sl ok w dv data) (hib : IsB data) :
    Calls Try.prog 7 #[.agg #[.int .i64 L, .int .i64 t, .int .i64 f, .int .i64 s, .int .i64 p, dv]] w fun e w' => e = .returned (.bool true) ∧ Below w.heap.size w w' := by
  have hdl0 := hS.len
  obtain ⟨A, c, rfl, _⟩ := hS.form
  obtain ⟨q, hq⟩ : ∃ q, q = w.heap.size := ⟨_, rfl⟩
  obtain ⟨W, hW⟩ : ∃ W, W = w.alloc (.cells #[.int .i64 L, .int .i64 t, .int .i64 f, .int .i64 s, .int .i64 p, .slice A data.length c] 41) := ⟨_, rfl⟩
  have hB : Below w.heap.size w W := by rw [hW]; exact (Below.refl _ _).alloc (Nat.le_refl _) _
  have hsz : W.heap.size = q + 1 := by rw [hW, hq]; simp
  have k0 : W.heap[q]? = some (.cells #[.int .i64 L, .int .i64 t, .int .i64 f, .int .i64 s, .int .i64 p, .slice A data.length c] 41) := by rw [hW, hq]; exact heap_alloc_new _ _
  have HS := Lib.hid (hS.bound.below hB)
  have HIB := Lib.hid hib
  have HW := Lib.hid hW
  have HB := Lib.hid hB
  have HZ := Lib.hid hsz
  have HQ := Lib.hid hq
  have K0 := Lib.hid k0
  have a0 : W.cell? ⟨q, 0, none⟩ = some (.int .i64 L) := blk_cell k0 0
  have a1 : W.cell? ⟨q, 1, none⟩ = some (.int .i64 t) := blk_cell k0 1
  have a2 : W.cell? ⟨q, 2, none⟩ = some (.int .i64 f) := blk_cell k0 2
  have a3 : W.cell? ⟨q, 3, none⟩ = some (.int .i64 s) := blk_cell k0 3
  have a4 : W.cell? ⟨q, 4, none⟩ = some (.int .i64 p) := blk_cell k0 4
  have a5 : W.cell? ⟨q, 5, none⟩ = some (.slice A data.length c) := blk_cell k0 5
  clear hS hib hW hB hsz k0
  go_enter Try.func7, Try.ntmps7
  go_wp2_with fail
  rw [← hq, ← HW.out]
  clear hq
  refine (fits29 L t f s p A data.length c W (by omega)).mono ?_
  rintro e w1 ⟨b, rfl, hb1, hdl⟩
  have HB1 := Lib.hid (below_then HB.out HB.out.size hb1)
  have k1 := blk_below K0.out hb1
  have b0 : w1.cell? ⟨q, 0, none⟩ = some (.int .i64 L) := blk_cell k1 0
  have b1 : w1.cell? ⟨q, 1, none⟩ = some (.int .i64 t) := blk_cell k1 1
  have b2 : w1.cell? ⟨q, 2, none⟩ = some (.int .i64 f) := blk_cell k1 2
  have b3 : w1.cell? ⟨q, 3, none⟩ = some (.int .i64 s) := blk_cell k1 3
  have b4 : w1.cell? ⟨q, 4, none⟩ = some (.int .i64 p) := blk_cell k1 4
  have b5 : w1.cell? ⟨q, 5, none⟩ = some (.slice A data.length c) := blk_cell k1 5
  have HS1 := Lib.hid (HS.out.below hb1)
  clear hb1 k1 a0 a1 a2 a3 a4 a5
  cases b
  · go_wp2_with fail
    go_ret
    exact ⟨rfl, HB1.out⟩
  have hdl1 : data.length ≤ 2147483647 := hdl (by simp)
  clear hdl
  go_wp2_with fail
  refine (message30 L t f s p A data.length c w1).mono ?_
  rintro e w2 ⟨rfl, hb2⟩
  obtain ⟨x, hx⟩ : ∃ x, x = w2.heap.size := ⟨_, rfl⟩
  obtain ⟨W2, hW2⟩ : ∃ X, X = w2.alloc (.cells #[.int .i64 L, .int .i64 t, .int .i64 f, .int .i64 s, .int .i64 p, .slice A data.length c] 43) := ⟨_, rfl⟩
  have hb3 : Below w1.heap.size w1 W2 := by rw [hW2]; exact hb2.alloc hb2.size _
  have k3 : W2.heap[x]? = some (.cells #[.int .i64 L, .int .i64 t, .int .i64 f, .int .i64 s, .int .i64 p, .slice A data.length c] 43) := by rw [hW2, hx]; exact heap_alloc_new _ _
  have HB2 := Lib.hid (below_then HB1.out HB1.out.size hb3)
  have HS2 := Lib.hid (HS1.out.below hb3)
  have K3 := Lib.hid k3
  have HW2 := Lib.hid hW2
  have HX := Lib.hid hx
  clear hb2 hb3 k3 hW2 b0 b1 b2 b3 b4 b5 hx
  go_wp2_with fail
  rw [← HW2.out, ← HX.out]
  refine (proper31 L t f s p A data.length c W2 (by omega)).mono ?_
  rintro e w3 ⟨rfl, hb3⟩
  have k3 := blk_below K3.out hb3
  have a0 : w3.cell? ⟨x, 0, none⟩ = some (.int .i64 L) := blk_cell k3 0
  have a1 : w3.cell? ⟨x, 1, none⟩ = some (.int .i64 t) := blk_cell k3 1
  have a2 : w3.cell? ⟨x, 2, none⟩ = some (.int .i64 f) := blk_cell k3 2
  have a3 : w3.cell? ⟨x, 3, none⟩ = some (.int .i64 s) := blk_cell k3 3
  have a4 : w3.cell? ⟨x, 4, none⟩ = some (.int .i64 p) := blk_cell k3 4
  have a5 : w3.cell? ⟨x, 5, none⟩ = some (.slice A data.length c) := blk_cell k3 5
  have HS3 := Lib.hid (HS2.out.below hb3)
  have K5 := Lib.hid k3
  have HB3 := Lib.hid (below_then HB2.out HB2.out.size hb3)
  clear hb3 k3
  cases hm : mpB L t f s p data.length
  · go_wp2_with fail
    refine (works22 w3).mono ?_
    rintro e w4 ⟨rfl, H4⟩
    go_wp2_with fail
    go_ret
    exact ⟨rfl, below_then HB3.out HB3.out.size H4.out⟩
  have HM := Lib.hid (mpB_iff.1 hm)
  clear hm
  go_wp2_with fail
  refine (bytes33 L t f s p _ data _ w3 HS3.out HM.out).mono ?_
  rintro e w4 ⟨u4, rfl, H4⟩
  obtain ⟨A4, c4, rfl, _⟩ := Ob.form H4.out.1
  have HB4 := Lib.hid (below_then HB3.out HB3.out.size H4.out.2)
  have HP := Lib.hid (parse34_msg (Ob.sl H4.out.1) HIB.out HM.out)
  go_wp2_with fail
  refine HP.out.mono ?_
  rintro e w5 ⟨u5, rfl, H5⟩
  obtain ⟨A5, c5, rfl, _⟩ := H5.out.1.form
  have hb45 := below_then H4.out.2 H4.out.2.size H5.out.2
  have HB5 := Lib.hid (below_then HB3.out HB3.out.size hb45)
  have HS5 := Lib.hid (HS3.out.below hb45)
  have k5 := blk_below K5.out hb45
  obtain ⟨y, hy⟩ : ∃ y, y = w5.heap.size := ⟨_, rfl⟩
  obtain ⟨W5, hW5⟩ : ∃ X, X = w5.alloc (.cells #[.int .i64 L, .int .i64 t, .int .i64 f, .int .i64 s, .int .i64 p, .slice A5 data.length c5] 41) := ⟨_, rfl⟩
  have k6 : W5.heap[x]? = some (.cells #[.int .i64 L, .int .i64 t, .int .i64 f, .int .i64 s, .int .i64 p, .slice A data.length c] 43) := by rw [hW5]; exact blk_alloc k5 _
  have k7 : W5.heap[y]? = some (.cells #[.int .i64 L, .int .i64 t, .int .i64 f, .int .i64 s, .int .i64 p, .slice A5 data.length c5] 41) := by rw [hW5, hy]; exact heap_alloc_new _ _
  have hb5W : Below w5.heap.size w5 W5.drew := by rw [hW5]; exact ((Below.refl _ _).alloc (Nat.le_refl _) _).drew
  have HB6 : Hid (Below w.heap.size w W5.drew) := Lib.hid (below_then HB5.out HB5.out.size hb5W)
  have HS6 := Lib.hid (HS5.out.below hb5W)
  have HT6 := Lib.hid (H5.out.1.below hb5W)
  have HW5 := Lib.hid hW5
  have HY := Lib.hid hy
  have K6 : Hid (W5.drew.heap[x]? = some (.cells #[.int .i64 L, .int .i64 t, .int .i64 f, .int .i64 s, .int .i64 p, .slice A data.length c] 43)) := Lib.hid k6
  clear hb45 k5 hb5W hW5 hy
  clear a0 a1 a2 a3 a4 a5
  have a0 : W5.cell? ⟨x, 0, none⟩ = some (.int .i64 L) := blk_cell k6 0
  have a1 : W5.cell? ⟨x, 1, none⟩ = some (.int .i64 t) := blk_cell k6 1
  have a2 : W5.cell? ⟨x, 2, none⟩ = some (.int .i64 f) := blk_cell k6 2
  have a3 : W5.cell? ⟨x, 3, none⟩ = some (.int .i64 s) := blk_cell k6 3
  have a4 : W5.cell? ⟨x, 4, none⟩ = some (.int .i64 p) := blk_cell k6 4
  have a5 : W5.cell? ⟨x, 5, none⟩ = some (.slice A data.length c) := blk_cell k6 5
  have b0 : W5.cell? ⟨y, 0, none⟩ = some (.int .i64 L) := blk_cell k7 0
  have b1 : W5.cell? ⟨y, 1, none⟩ = some (.int .i64 t) := blk_cell k7 1
  have b2 : W5.cell? ⟨y, 2, none⟩ = some (.int .i64 f) := blk_cell k7 2
  have b3 : W5.cell? ⟨y, 3, none⟩ = some (.int .i64 s) := blk_cell k7 3
  have b4 : W5.cell? ⟨y, 4, none⟩ = some (.int .i64 p) := blk_cell k7 4
  have b5 : W5.cell? ⟨y, 5, none⟩ = some (.slice A5 data.length c5) := blk_cell k7 5
  have HM30 := Lib.hid (message30 L t f s p A5 data.length c5 W5.drew)
  clear k6 k7
  go_wp2_with fail
  rw [← HW5.out, ← HY.out]
  go_region_law (first
    | (go_simp; go_at_call 30; refine HM30.out.mono ?_; rintro e w7 ⟨rfl, h7⟩
       have HB7 := Lib.hid (below_then HB6.out HB6.out.size h7)
       have HS7 := Lib.hid (HS6.out.below h7)
       have HT7 := Lib.hid (HT6.out.below h7)
       have k7 := blk_below K6.out h7
       have d0 : w7.cell? ⟨x, 0, none⟩ = some (.int .i64 L) := blk_cell k7 0
       have d1 : w7.cell? ⟨x, 1, none⟩ = some (.int .i64 t) := blk_cell k7 1
       have d2 : w7.cell? ⟨x, 2, none⟩ = some (.int .i64 f) := blk_cell k7 2
       have d3 : w7.cell? ⟨x, 3, none⟩ = some (.int .i64 s) := blk_cell k7 3
       have d4 : w7.cell? ⟨x, 4, none⟩ = some (.int .i64 p) := blk_cell k7 4
       have d5 : w7.cell? ⟨x, 5, none⟩ = some (.slice A data.length c) := blk_cell k7 5
       clear k7 h7)
    | (go_simp; go_at_call 35; refine (same35 L t f s p _ _ data _ _ _ HT7.out HS7.out).mono ?_; rintro e w8 ⟨rfl, h8⟩
       have HB8 := Lib.hid (below_then HB7.out HB7.out.size h8)
       clear h8)
    | (go_simp; go_at_call 22; refine (works22 _).mono ?_; rintro e w9 ⟨rfl, H9⟩))
  all_goals
    go_wp2_with fail
    go_ret
    exact ⟨rfl, below_then HB8.out HB8.out.size H9.out⟩
end Go.Proofs.Ytgijhgonpgidiaa
