/-
  The walk of FnMessages. No statement of the seat is proved here.
-/
import Derived.Test.YtgijhgonpgidiaaMany2
namespace Go.Proofs.Ytgijhgonpgidiaa
open Go.RowKit Go.Proofs.YtgijhgonpgidiaaW.PrintWords

set_option maxRecDepth 100000 in
set_option maxHeartbeats 6400000 in
theorem walk10 (v : Value) (l : List MsgV) (ok : Nat → Prop) (w : World) (hR : elM.Rd ok w v l) (hib : ∀ x ∈ l, IsB x.data) :
    Calls Try.prog 10 #[v] w fun e w' => e = .returned (.bool true) ∧ Below w.heap.size w w' := by
  obtain ⟨A, c, rfl, hlc, hcm⟩ := hR.form
  have HR := Lib.hid hR.bound
  have HIB := Lib.hid hib
  clear hR hib
  go_enter Try.func10, Try.ntmps10
  go_wp2_with fail
  refine (fits36 w _ l _ HR.out).mono ?_
  rintro e w1 ⟨b, rfl, H1⟩
  have HR1 := Lib.hid (HR.out.below H1.out.1)
  cases b
  · go_wp2_with fail
    go_ret
    exact ⟨rfl, H1.out.1⟩
  have HFIT := Lib.hid (H1.out.2 rfl)
  have hl31 : l.length ≤ 2147483647 := HFIT.out.1
  go_wp2_with fail
  go_loopw [3, 15] (fun b i wr => ∃ k : Nat, k ≤ l.length ∧ i = .int .i64 k ∧ Hid (Ob wr w1.heap.size b (msgsB (l.take k)) ∧ Below w1.heap.size w1 wr ∧ ∀ r ∈ l.take k, r.ok)) (fun _ i _ => l.length - (intOf i).toNat)
  case atStart => exact ⟨0, Nat.zero_le _, rfl, Lib.hid ⟨by simpa [msgsB] using Ob.nil w1 w1.heap.size, Below.refl _ _, by simp⟩⟩
  case round =>
    obtain ⟨k, hk, rfl, HL⟩ := hrel
    by_cases hlt : k < l.length
    · obtain ⟨x, hx⟩ : ∃ x, l[k]? = some x := ⟨_, List.getElem?_eq_getElem hlt⟩
      obtain ⟨b, off, eA, ec, rfl, hbl, hbok, e0, e1, e2, e3, e4, e5, hd⟩ := rowM (HR1.out.below HL.out.2.1) hx
      have hxl := HFIT.out.2 x (List.mem_of_getElem? hx)
      have HSN := Lib.hid (take_snoc' hx)
      obtain ⟨L1, t1, f1, s1, p1, data1⟩ := x
      simp only at *
      obtain ⟨z, hz⟩ : ∃ z, z = wr.heap.size := ⟨_, rfl⟩
      obtain ⟨W1, hW1⟩ : ∃ W, W = wr.alloc (.cells #[.int .i64 L1, .int .i64 t1, .int .i64 f1, .int .i64 s1, .int .i64 p1, .slice eA data1.length ec] 41) := ⟨_, rfl⟩
      have hB1 : Below wr.heap.size wr W1 := by rw [hW1]; exact (Below.refl _ _).alloc (Nat.le_refl _) _
      have kz : W1.heap[z]? = some (.cells #[.int .i64 L1, .int .i64 t1, .int .i64 f1, .int .i64 s1, .int .i64 p1, .slice eA data1.length ec] 41) := by rw [hW1, hz]; exact heap_alloc_new _ _
      have HB1 := Lib.hid (below_then HL.out.2.1 HL.out.2.1.size hB1)
      have HO1 := Lib.hid (HL.out.1.below hB1)
      have HD1 := Lib.hid (hd.below hB1)
      have HW1 := Lib.hid hW1
      have KZ := Lib.hid kz
      have m0 : W1.cell? ⟨z, 0, none⟩ = some (.int .i64 L1) := blk_cell kz 0
      have m1 : W1.cell? ⟨z, 1, none⟩ = some (.int .i64 t1) := blk_cell kz 1
      have m2 : W1.cell? ⟨z, 2, none⟩ = some (.int .i64 f1) := blk_cell kz 2
      have m3 : W1.cell? ⟨z, 3, none⟩ = some (.int .i64 s1) := blk_cell kz 3
      have m4 : W1.cell? ⟨z, 4, none⟩ = some (.int .i64 p1) := blk_cell kz 4
      have m5 : W1.cell? ⟨z, 5, none⟩ = some (.slice eA data1.length ec) := blk_cell kz 5
      clear hB1 hd hx hW1 kz
      go_wp2_with fail
      rw [← HW1.out, ← hz]
      clear hz
      refine (message30 L1 t1 f1 s1 p1 eA data1.length ec W1).mono ?_
      rintro e w2 ⟨rfl, hb2⟩
      have HB2 := Lib.hid (below_then HB1.out HB1.out.size hb2)
      have HO2 := Lib.hid (HO1.out.below hb2)
      have HD2 := Lib.hid (HD1.out.below hb2)
      have KZ2 := Lib.hid (blk_below KZ.out hb2)
      clear hb2 m0 m1 m2 m3 m4 m5
      go_wp2_with fail
      refine (proper31 L1 t1 f1 s1 p1 eA data1.length ec w2 (by omega)).mono ?_
      rintro e w3 ⟨rfl, hb3⟩
      have HB3 := Lib.hid (below_then HB2.out HB2.out.size hb3)
      have HO3 := Lib.hid (HO2.out.below hb3)
      have HD3 := Lib.hid (HD2.out.below hb3)
      have kz := blk_below KZ2.out hb3
      have m0 : w3.cell? ⟨z, 0, none⟩ = some (.int .i64 L1) := blk_cell kz 0
      have m1 : w3.cell? ⟨z, 1, none⟩ = some (.int .i64 t1) := blk_cell kz 1
      have m2 : w3.cell? ⟨z, 2, none⟩ = some (.int .i64 f1) := blk_cell kz 2
      have m3 : w3.cell? ⟨z, 3, none⟩ = some (.int .i64 s1) := blk_cell kz 3
      have m4 : w3.cell? ⟨z, 4, none⟩ = some (.int .i64 p1) := blk_cell kz 4
      have m5 : w3.cell? ⟨z, 5, none⟩ = some (.slice eA data1.length ec) := blk_cell kz 5
      clear hb3 kz
      cases hm1 : mpB L1 t1 f1 s1 p1 data1.length
      · go_wp2_with fail
        refine (works22 _).mono ?_
        rintro e w4 ⟨rfl, H4⟩
        go_wp2_with fail
        go_ret
        exact ⟨rfl, below_then H1.out.1 H1.out.1.size (below_then HB3.out HB3.out.size H4.out)⟩
      have HM1 := Lib.hid (mpB_iff.1 hm1)
      clear hm1
      have HF : Hid (∀ r ∈ l.take (k + 1), r.ok) := Lib.hid fun r hr => by
        rw [HSN.out, List.mem_append, List.mem_singleton] at hr
        rcases hr with hr | rfl
        · exact HL.out.2.2 r hr
        · exact HM1.out
      go_wp2_with fail
      refine (message30 L1 t1 f1 s1 p1 eA data1.length ec w3).mono ?_
      rintro e w4 ⟨rfl, hb4⟩
      have HB4 := Lib.hid (below_then HB3.out HB3.out.size hb4)
      have HO4 := Lib.hid (HO3.out.below hb4)
      have HD4 := Lib.hid (HD3.out.below hb4)
      clear hb4 m0 m1 m2 m3 m4 m5
      go_wp2_with fail
      refine (bytes33 L1 t1 f1 s1 p1 _ data1 _ w4 HD4.out HM1.out).mono ?_
      rintro e w5 ⟨u5, rfl, H5⟩
      obtain ⟨A5, c5, rfl, _, _, hrd⟩ := (Ob.sl H5.out.1).form
      have HRD := Lib.hid hrd
      have HO5 := Lib.hid (HO4.out.below H5.out.2)
      have HB5 := Lib.hid (below_then HB4.out HB4.out.size H5.out.2)
      have hlim : ((msgsB (l.take k)).length + (msgB L1 t1 f1 s1 p1 data1).length) * 1 ≤ 140737488355328 := by
        have h1 := msgsB_le HF.out
        rw [HSN.out, msgsB_append, msgsB_one, List.length_append] at h1
        have h2 : (l.take k ++ [(⟨L1, t1, f1, s1, p1, data1⟩ : MsgV)]).length ≤ l.length := by rw [← HSN.out, List.length_take]; omega
        have h3 : (⟨L1, t1, f1, s1, p1, data1⟩ : MsgV).bytes = msgB L1 t1 f1 s1 p1 data1 := rfl
        rw [h3] at h1
        omega
      have HLI := Lib.hid hlim
      clear hrd hlim
      go_wp2_with (at_builtin; go_must (refine print_append_row (w0 := w5) w1.heap.size rfl (.tmp 24) (.tmp 27) 28 5 .u8 1 rfl Try.underlying28 info5 (by decide) u3 _ (msgB L1 t1 f1 s1 p1 data1) _ _ _ rfl rfl HO5.out HRD.out (Below.refl _ _) HB5.out.size HLI.out ?_); intro v6 w6 ho6 hb6 hg6 hat6; have HO6 := Lib.hid ho6; have HB6 := Lib.hid (below_row HB5.out HO5.out HB5.out.size hg6); clear ho6 hb6 hg6 hat6)
      have HO7 : Hid (Ob w6 w1.heap.size v6 (msgsB (l.take (k + 1)))) := Lib.hid (by rw [HSN.out, msgsB_append, msgsB_one]; exact HO6.out)
      obtain ⟨A6, c6, rfl, _⟩ := Ob.form HO7.out
      go_roundw
      case rel => exact ⟨k + 1, by omega, int_eq (by omega), Lib.hid ⟨HO7.out, HB6.out, HF.out⟩⟩
      case measure => simp [intOf]; omega
    · obtain rfl : k = l.length := by omega
      rw [List.take_length] at HL
      obtain ⟨A2, c2, rfl, _⟩ := Ob.form HL.out.1
      have HP := Lib.hid (parse38 _ l _ wr (Ob.sl HL.out.1) HL.out.2.2 HIB.out hl31)
      go_wp2_with fail
      refine HP.out.mono ?_
      rintro e w8 ⟨u8, rfl, H8⟩
      obtain ⟨A8, c8, rfl, hc8, hc8m⟩ := H8.out.1.form
      have HR8 := Lib.hid (HR1.out.below (below_then HL.out.2.1 HL.out.2.1.size H8.out.2))
      have HB8 := Lib.hid (below_then H1.out.1 H1.out.1.size (below_then HL.out.2.1 HL.out.2.1.size H8.out.2))
      clear hlt
      go_wp2_with fail
      go_loopw [46] (fun i wr => ∃ k : Nat, k ≤ l.length ∧ i = .int .i64 k ∧ Hid (Below w8.heap.size w8 wr)) (fun i _ => l.length - (intOf i).toNat)
      case atStart => exact ⟨0, Nat.zero_le _, rfl, Lib.hid (Below.refl _ _)⟩
      case round =>
        obtain ⟨k, hk, rfl, HJ⟩ := hrel
        by_cases hlt : k < l.length
        · obtain ⟨x, hx⟩ : ∃ x, l[k]? = some x := ⟨_, List.getElem?_eq_getElem hlt⟩
          obtain ⟨b, off, eA, ec, rfl, hbl, hbok, e0, e1, e2, e3, e4, e5, hd⟩ := rowM (H8.out.1.below HJ.out) hx
          obtain ⟨b2, off2, gA, gc, rfl, hbl2, hbok2, g0, g1, g2', g3, g4', g5, hd2⟩ := rowM (HR8.out.below HJ.out) hx
          obtain ⟨L1, t1, f1, s1, p1, data1⟩ := x
          simp only at *
          obtain ⟨z, hz⟩ : ∃ z, z = wr.heap.size := ⟨_, rfl⟩
          obtain ⟨W1, hW1⟩ : ∃ W, W = wr.alloc (.cells #[.int .i64 L1, .int .i64 t1, .int .i64 f1, .int .i64 s1, .int .i64 p1, .slice eA data1.length ec] 41) := ⟨_, rfl⟩
          have hB1 : Below wr.heap.size wr W1.drew := by rw [hW1]; exact ((Below.refl _ _).alloc (Nat.le_refl _) _).drew
          have kz : W1.heap[z]? = some (.cells #[.int .i64 L1, .int .i64 t1, .int .i64 f1, .int .i64 s1, .int .i64 p1, .slice eA data1.length ec] 41) := by rw [hW1, hz]; exact heap_alloc_new _ _
          have HB1 : Hid (Below w8.heap.size w8 W1.drew) := Lib.hid (below_then HJ.out HJ.out.size hB1)
          have HD1 := Lib.hid (hd.below hB1)
          have HE1 := Lib.hid (hd2.below hB1)
          have HW1 := Lib.hid hW1
          have m0 : W1.cell? ⟨z, 0, none⟩ = some (.int .i64 L1) := blk_cell kz 0
          have m1 : W1.cell? ⟨z, 1, none⟩ = some (.int .i64 t1) := blk_cell kz 1
          have m2 : W1.cell? ⟨z, 2, none⟩ = some (.int .i64 f1) := blk_cell kz 2
          have m3 : W1.cell? ⟨z, 3, none⟩ = some (.int .i64 s1) := blk_cell kz 3
          have m4 : W1.cell? ⟨z, 4, none⟩ = some (.int .i64 p1) := blk_cell kz 4
          have m5 : W1.cell? ⟨z, 5, none⟩ = some (.slice eA data1.length ec) := blk_cell kz 5
          have n0 : W1.cell? ⟨b2, off2 + k * 6, none⟩ = some (.int .i64 L1) := (hB1.cell (p := ⟨b2, off2 + k * 6, none⟩) hbl2).trans g0
          have n1 : W1.cell? ⟨b2, off2 + k * 6 + 1, none⟩ = some (.int .i64 t1) := (hB1.cell (p := ⟨b2, off2 + k * 6 + 1, none⟩) hbl2).trans g1
          have n2 : W1.cell? ⟨b2, off2 + k * 6 + 2, none⟩ = some (.int .i64 f1) := (hB1.cell (p := ⟨b2, off2 + k * 6 + 2, none⟩) hbl2).trans g2'
          have n3 : W1.cell? ⟨b2, off2 + k * 6 + 3, none⟩ = some (.int .i64 s1) := (hB1.cell (p := ⟨b2, off2 + k * 6 + 3, none⟩) hbl2).trans g3
          have n4 : W1.cell? ⟨b2, off2 + k * 6 + 4, none⟩ = some (.int .i64 p1) := (hB1.cell (p := ⟨b2, off2 + k * 6 + 4, none⟩) hbl2).trans g4'
          have n5 : W1.cell? ⟨b2, off2 + k * 6 + 5, none⟩ = some (.slice gA data1.length gc) := (hB1.cell (p := ⟨b2, off2 + k * 6 + 5, none⟩) hbl2).trans g5
          have hbl3 : b2 < W1.heap.size := Nat.lt_of_lt_of_le hbl2 hB1.size
          have HMa := Lib.hid (message30 L1 t1 f1 s1 p1 eA data1.length ec W1.drew)
          clear hB1 hd hd2 hx kz hW1 g0 g1 g2' g3 g4' g5
          go_wp2_with fail
          rw [← HW1.out, ← hz]
          clear hz
          go_region_law (first
            | (go_simp; go_at_call 30; (with_reducible refine HMa.out.mono ?_); rintro e w10 ⟨rfl, h10⟩
               have HB10 := Lib.hid (below_then HB1.out HB1.out.size h10)
               have HD10 := Lib.hid (HD1.out.below h10)
               have HE10 := Lib.hid (HE1.out.below h10)
               have r0 : w10.cell? ⟨b2, off2 + k * 6, none⟩ = some (.int .i64 L1) := (h10.cell (p := ⟨b2, off2 + k * 6, none⟩) hbl3).trans n0
               have r1 : w10.cell? ⟨b2, off2 + k * 6 + 1, none⟩ = some (.int .i64 t1) := (h10.cell (p := ⟨b2, off2 + k * 6 + 1, none⟩) hbl3).trans n1
               have r2 : w10.cell? ⟨b2, off2 + k * 6 + 2, none⟩ = some (.int .i64 f1) := (h10.cell (p := ⟨b2, off2 + k * 6 + 2, none⟩) hbl3).trans n2
               have r3 : w10.cell? ⟨b2, off2 + k * 6 + 3, none⟩ = some (.int .i64 s1) := (h10.cell (p := ⟨b2, off2 + k * 6 + 3, none⟩) hbl3).trans n3
               have r4 : w10.cell? ⟨b2, off2 + k * 6 + 4, none⟩ = some (.int .i64 p1) := (h10.cell (p := ⟨b2, off2 + k * 6 + 4, none⟩) hbl3).trans n4
               have r5 : w10.cell? ⟨b2, off2 + k * 6 + 5, none⟩ = some (.slice gA data1.length gc) := (h10.cell (p := ⟨b2, off2 + k * 6 + 5, none⟩) hbl3).trans n5
               clear h10)
            | (go_simp; go_at_call 30; (with_reducible refine (message30 L1 t1 f1 s1 p1 gA data1.length gc w10).mono ?_); rintro e w11 ⟨rfl, h11⟩
               have HB11 := Lib.hid (below_then HB10.out HB10.out.size h11)
               have HD11 := Lib.hid (HD10.out.below h11)
               have HE11 := Lib.hid (HE10.out.below h11)
               clear h11)
            | (go_simp; go_at_call 35; refine (same35 L1 t1 f1 s1 p1 _ _ data1 _ _ _ HD11.out HE11.out).mono ?_; rintro e w12 ⟨rfl, h12⟩
               have HB12 := Lib.hid (below_then HB11.out HB11.out.size h12)
               clear h12))
          all_goals
            go_wp2_with fail
            go_roundw
            case rel => exact ⟨k + 1, by omega, int_eq (by omega), HB12⟩
            case measure => simp [intOf]; omega
        · obtain rfl : k = l.length := by omega
          go_wp2_with fail
          refine (works22 _).mono ?_
          rintro e w9 ⟨rfl, H9⟩
          go_wp2_with fail
          go_ret
          exact ⟨rfl, below_then HB8.out HB8.out.size (below_then HJ.out HJ.out.size H9.out)⟩
end Go.Proofs.Ytgijhgonpgidiaa
