/-
  The walk of FnValid. No statement of the seat is proved here.
-/
import Derived.Test.YtgijhgonpgidiaaVal
namespace Go.Proofs.Ytgijhgonpgidiaa
open Go.RowKit Go.Proofs.YtgijhgonpgidiaaW.PrintWords

set_option maxRecDepth 100000 in
set_option maxHeartbeats 6400000 in
theorem walk9 (L t f s p : Int) (dv : Value) (data : List Int) (ok : Nat → Prop) (v : Value) (l : List MsgV) (ok2 : Nat → Prop) (w : World) (hS : Sl ok w dv data) (hR : elM.Rd ok2 w v l) :
    Calls Try.prog 9 #[.agg #[.int .i64 L, .int .i64 t, .int .i64 f, .int .i64 s, .int .i64 p, dv], v] w fun e w' => e = .returned (.bool true) ∧ Below w.heap.size w w' := by
  have hdl0 := hS.len
  obtain ⟨A, c, rfl, _⟩ := hS.form
  obtain ⟨A2, c2, rfl, hlc, hcm⟩ := hR.form
  have hlen : l.length ≤ 9223372036854775807 := by omega
  obtain ⟨q, hq⟩ : ∃ q, q = w.heap.size := ⟨_, rfl⟩
  obtain ⟨W, hW⟩ : ∃ W, W = w.alloc (.cells #[.int .i64 L, .int .i64 t, .int .i64 f, .int .i64 s, .int .i64 p, .slice A data.length c] 41) := ⟨_, rfl⟩
  have hB : Below w.heap.size w W := by rw [hW]; exact (Below.refl _ _).alloc (Nat.le_refl _) _
  have k0 : W.heap[q]? = some (.cells #[.int .i64 L, .int .i64 t, .int .i64 f, .int .i64 s, .int .i64 p, .slice A data.length c] 41) := by rw [hW, hq]; exact heap_alloc_new _ _
  have HS := Lib.hid (hS.bound.below hB)
  have HR := Lib.hid (hR.bound.below hB)
  have HW := Lib.hid hW
  have HB := Lib.hid hB
  have HQ := Lib.hid hq
  have K0 := Lib.hid k0
  have a0 : W.cell? ⟨q, 0, none⟩ = some (.int .i64 L) := blk_cell k0 0
  have a1 : W.cell? ⟨q, 1, none⟩ = some (.int .i64 t) := blk_cell k0 1
  have a2 : W.cell? ⟨q, 2, none⟩ = some (.int .i64 f) := blk_cell k0 2
  have a3 : W.cell? ⟨q, 3, none⟩ = some (.int .i64 s) := blk_cell k0 3
  have a4 : W.cell? ⟨q, 4, none⟩ = some (.int .i64 p) := blk_cell k0 4
  have a5 : W.cell? ⟨q, 5, none⟩ = some (.slice A data.length c) := blk_cell k0 5
  clear hS hR hW hB k0
  go_enter Try.func9, Try.ntmps9
  go_wp2_with fail
  rw [← hq, ← HW.out]
  clear hq
  refine (fits29 L t f s p A data.length c W (by omega)).mono ?_
  rintro e w1 ⟨b, rfl, hb1, hdl⟩
  have HB1 := Lib.hid (below_then HB.out HB.out.size hb1)
  have HR1 := Lib.hid (HR.out.below hb1)
  have HS1 := Lib.hid (HS.out.below hb1)
  have K1 := Lib.hid (blk_below K0.out hb1)
  clear hb1 a0 a1 a2 a3 a4 a5
  cases b
  · go_wp2_with fail
    go_ret
    exact ⟨rfl, HB1.out⟩
  have hdl1 : data.length ≤ 2147483647 := hdl (by simp)
  clear hdl
  go_wp2_with fail
  refine (fits36 w1 _ l _ HR1.out).mono ?_
  rintro e w2 ⟨b, rfl, H2⟩
  have HB2 := Lib.hid (below_then HB1.out HB1.out.size H2.out.1)
  have HR2 := Lib.hid (HR1.out.below H2.out.1)
  have HS2 := Lib.hid (HS1.out.below H2.out.1)
  have k2 := blk_below K1.out H2.out.1
  have K2 := Lib.hid k2
  cases b
  · clear k2
    go_wp2_with fail
    go_ret
    exact ⟨rfl, HB2.out⟩
  have a0 : w2.cell? ⟨q, 0, none⟩ = some (.int .i64 L) := blk_cell k2 0
  have a1 : w2.cell? ⟨q, 1, none⟩ = some (.int .i64 t) := blk_cell k2 1
  have a2 : w2.cell? ⟨q, 2, none⟩ = some (.int .i64 f) := blk_cell k2 2
  have a3 : w2.cell? ⟨q, 3, none⟩ = some (.int .i64 s) := blk_cell k2 3
  have a4 : w2.cell? ⟨q, 4, none⟩ = some (.int .i64 p) := blk_cell k2 4
  have a5 : w2.cell? ⟨q, 5, none⟩ = some (.slice A data.length c) := blk_cell k2 5
  clear k2
  go_wp2_with fail
  refine (message30 L t f s p A data.length c w2).mono ?_
  rintro e w3 ⟨rfl, hb3⟩
  have HB3 := Lib.hid (below_then HB2.out HB2.out.size hb3)
  have HR3 := Lib.hid (HR2.out.below hb3)
  have HS3 := Lib.hid (HS2.out.below hb3)
  have K3 := Lib.hid (blk_below K2.out hb3)
  clear hb3 a0 a1 a2 a3 a4 a5
  go_wp2_with fail
  refine (proper31 L t f s p A data.length c w3 (by omega)).mono ?_
  rintro e w4 ⟨rfl, hb4⟩
  have HB4 := Lib.hid (below_then HB3.out HB3.out.size hb4)
  have HR4 := Lib.hid (HR3.out.below hb4)
  have HS4 := Lib.hid (HS3.out.below hb4)
  have k4 := blk_below K3.out hb4
  have K4 := Lib.hid k4
  have a3 : w4.cell? ⟨q, 3, none⟩ = some (.int .i64 s) := blk_cell k4 3
  have a4 : w4.cell? ⟨q, 4, none⟩ = some (.int .i64 p) := blk_cell k4 4
  clear hb4 k4
  cases hm : mpB L t f s p data.length
  · go_wp2_with fail
    refine (works22 _).mono ?_
    rintro e w5 ⟨rfl, H5⟩
    go_wp2_with fail
    go_ret
    exact ⟨rfl, below_then HB4.out HB4.out.size H5.out⟩
  have HM := Lib.hid (mpB_iff.1 hm)
  clear hm
  by_cases hl10 : 10 < l.length
  · go_wp2_with fail
    refine (works22 _).mono ?_
    rintro e w5 ⟨rfl, H5⟩
    go_wp2_with fail
    go_ret
    exact ⟨rfl, below_then HB4.out HB4.out.size H5.out⟩
  by_cases hp0 : p = 0
  · subst hp0
    go_wp2_with fail
    refine (works22 _).mono ?_
    rintro e w5 ⟨rfl, H5⟩
    go_wp2_with fail
    go_ret
    exact ⟨rfl, below_then HB4.out HB4.out.size H5.out⟩
  by_cases hs0 : s = 0
  · subst hs0
    go_wp2_with fail
    refine (works22 _).mono ?_
    rintro e w5 ⟨rfl, H5⟩
    go_wp2_with fail
    go_ret
    exact ⟨rfl, below_then HB4.out HB4.out.size H5.out⟩
  have hl10b : ¬ ((10 : Int) < (l.length : Int)) := by omega
  have hp0b : (p == 0) = false := by simpa using hp0
  have hs0b : (s == 0) = false := by simpa using hs0
  go_wp2_with fail
  go_loopw [5, 38] (fun b i wr => ∃ k : Nat, k ≤ l.length ∧ b = .bool (allEq s p (l.take k)) ∧ i = .int .i64 k ∧ Hid (Below w4.heap.size w4 wr ∧ ∀ r ∈ l.take k, r.ok ∧ ¬ r.p = 0)) (fun _ i _ => l.length - (intOf i).toNat)
  case atStart => exact ⟨0, Nat.zero_le _, by simp [allEq], rfl, Lib.hid ⟨Below.refl _ _, by simp⟩⟩
  case round =>
    obtain ⟨k, hk, rfl, rfl, HL⟩ := hrel
    by_cases hlt : k < l.length
    · obtain ⟨x, hx⟩ : ∃ x, l[k]? = some x := ⟨_, List.getElem?_eq_getElem hlt⟩
      obtain ⟨b, off, eA, ec, rfl, hbl, hbok, e0, e1, e2, e3, e4, e5, hd⟩ := rowM (HR4.out.below HL.out.1) hx
      have hxl := hd.len
      have hxl3 := (H2.out.2 (by simp)).2 x (List.mem_of_getElem? hx)
      have HSN := Lib.hid (take_snoc' hx)
      obtain ⟨L1, t1, f1, s1, p1, data1⟩ := x
      simp only at *
      obtain ⟨z, hz⟩ : ∃ z, z = wr.heap.size := ⟨_, rfl⟩
      obtain ⟨W1, hW1⟩ : ∃ W, W = wr.alloc (.cells #[.int .i64 L1, .int .i64 t1, .int .i64 f1, .int .i64 s1, .int .i64 p1, .slice eA data1.length ec] 41) := ⟨_, rfl⟩
      have hB1 : Below wr.heap.size wr W1 := by rw [hW1]; exact (Below.refl _ _).alloc (Nat.le_refl _) _
      have kz : W1.heap[z]? = some (.cells #[.int .i64 L1, .int .i64 t1, .int .i64 f1, .int .i64 s1, .int .i64 p1, .slice eA data1.length ec] 41) := by rw [hW1, hz]; exact heap_alloc_new _ _
      have HL1 := Lib.hid (below_then HL.out.1 HL.out.1.size hB1)
      have HW1 := Lib.hid hW1
      have HZ := Lib.hid hz
      have KZ := Lib.hid kz
      have m0 : W1.cell? ⟨z, 0, none⟩ = some (.int .i64 L1) := blk_cell kz 0
      have m1 : W1.cell? ⟨z, 1, none⟩ = some (.int .i64 t1) := blk_cell kz 1
      have m2 : W1.cell? ⟨z, 2, none⟩ = some (.int .i64 f1) := blk_cell kz 2
      have m3 : W1.cell? ⟨z, 3, none⟩ = some (.int .i64 s1) := blk_cell kz 3
      have m4 : W1.cell? ⟨z, 4, none⟩ = some (.int .i64 p1) := blk_cell kz 4
      have m5 : W1.cell? ⟨z, 5, none⟩ = some (.slice eA data1.length ec) := blk_cell kz 5
      clear hB1 hd hx hW1 kz
      go_wp2_with fail
      rw [← HW1.out, ← hz]
      clear hz
      refine (message30 L1 t1 f1 s1 p1 eA data1.length ec W1).mono ?_
      rintro e w5 ⟨rfl, hb5⟩
      have HL5 := Lib.hid (below_then HL1.out HL1.out.size hb5)
      have KZ5 := Lib.hid (blk_below KZ.out hb5)
      clear hb5 m0 m1 m2 m3 m4 m5
      go_wp2_with fail
      refine (proper31 L1 t1 f1 s1 p1 eA data1.length ec w5 ?_).mono ?_
      · exact Nat.le_trans hxl3 (by omega)
      rintro e w6 ⟨rfl, hb6⟩
      have HL6 := Lib.hid (below_then HL5.out HL5.out.size hb6)
      have kz6 := blk_below KZ5.out hb6
      have m3 : w6.cell? ⟨z, 3, none⟩ = some (.int .i64 s1) := blk_cell kz6 3
      have m4 : w6.cell? ⟨z, 4, none⟩ = some (.int .i64 p1) := blk_cell kz6 4
      have k6 := blk_below K4.out HL6.out
      have b3 : w6.cell? ⟨q, 3, none⟩ = some (.int .i64 s) := blk_cell k6 3
      have b4 : w6.cell? ⟨q, 4, none⟩ = some (.int .i64 p) := blk_cell k6 4
      have HB6 := Lib.hid (below_then HB4.out HB4.out.size HL6.out)
      clear hb6 kz6 k6
      cases hm1 : mpB L1 t1 f1 s1 p1 data1.length
      · go_wp2_with fail
        refine (works22 _).mono ?_
        rintro e w7 ⟨rfl, H7⟩
        go_wp2_with fail
        go_ret
        exact ⟨rfl, below_then HB6.out HB6.out.size H7.out⟩
      have HM1 := Lib.hid (mpB_iff.1 hm1)
      clear hm1
      by_cases hp1 : p1 = 0
      · subst hp1
        go_wp2_with fail
        refine (works22 _).mono ?_
        rintro e w7 ⟨rfl, H7⟩
        go_wp2_with fail
        go_ret
        exact ⟨rfl, below_then HB6.out HB6.out.size H7.out⟩
      have HF : Hid (∀ r ∈ l.take (k + 1), r.ok ∧ ¬ r.p = 0) := Lib.hid fun r hr => by
        rw [HSN.out, List.mem_append, List.mem_singleton] at hr
        rcases hr with hr | rfl
        · exact HL.out.2 r hr
        · exact ⟨HM1.out, hp1⟩
      have HE := Lib.hid (allEq_snoc s p (l.take k) ⟨L1, t1, f1, s1, p1, data1⟩)
      rw [← HSN.out] at HE
      simp only at HE
      cases hf : allEq s p (l.take k)
      · have HE2 : Hid (allEq s p (l.take (k + 1)) = false) := Lib.hid (by rw [HE.out, hf]; rfl)
        clear hf
        go_wp2_with fail
        go_roundw
        case rel => exact ⟨k + 1, by omega, by rw [HE2.out], int_eq (by omega), Lib.hid ⟨HL6.out, HF.out⟩⟩
        case measure => simp [intOf]; omega
      cases h1 : (s1 == s)
      · have HE2 : Hid (allEq s p (l.take (k + 1)) = false) := Lib.hid (by rw [HE.out, h1]; simp)
        clear hf
        go_wp2_with fail
        go_roundw
        case rel => exact ⟨k + 1, by omega, by rw [HE2.out], int_eq (by omega), Lib.hid ⟨HL6.out, HF.out⟩⟩
        case measure => simp [intOf]; omega
      cases h2 : (p1 == p)
      · have HE2 : Hid (allEq s p (l.take (k + 1)) = false) := Lib.hid (by rw [HE.out, h2]; simp)
        clear hf
        go_wp2_with fail
        go_roundw
        case rel => exact ⟨k + 1, by omega, by rw [HE2.out], int_eq (by omega), Lib.hid ⟨HL6.out, HF.out⟩⟩
        case measure => simp [intOf]; omega
      · have HE2 : Hid (allEq s p (l.take (k + 1)) = true) := Lib.hid (by rw [HE.out, hf, h1, h2]; rfl)
        clear hf
        go_wp2_with fail
        go_roundw
        case rel => exact ⟨k + 1, by omega, by rw [HE2.out], int_eq (by omega), Lib.hid ⟨HL6.out, HF.out⟩⟩
        case measure => simp [intOf]; omega
    · obtain rfl : k = l.length := by omega
      rw [List.take_length] at HL
      rw [List.take_length]
      have k6 := blk_below K4.out HL.out.1
      have b0 : wr.cell? ⟨q, 0, none⟩ = some (.int .i64 L) := blk_cell k6 0
      have b1 : wr.cell? ⟨q, 1, none⟩ = some (.int .i64 t) := blk_cell k6 1
      have b2 : wr.cell? ⟨q, 2, none⟩ = some (.int .i64 f) := blk_cell k6 2
      have b3 : wr.cell? ⟨q, 3, none⟩ = some (.int .i64 s) := blk_cell k6 3
      have b4 : wr.cell? ⟨q, 4, none⟩ = some (.int .i64 p) := blk_cell k6 4
      have b5 : wr.cell? ⟨q, 5, none⟩ = some (.slice A data.length c) := blk_cell k6 5
      have HV := Lib.hid (validate37 L t f s p _ data _ _ l _ wr (HS4.out.below HL.out.1) (HR4.out.below HL.out.1) HM.out (by omega) HL.out.2 hs0 hp0)
      have HB5 := Lib.hid (below_then HB4.out HB4.out.size HL.out.1)
      clear k6 a3 a4
      generalize allEq s p l = fine at *
      go_wp2_with fail
      refine HV.out.mono ?_
      rintro e w7 ⟨rfl, H7⟩
      have HB7 := Lib.hid (below_then HB5.out HB5.out.size H7.out)
      cases fine
      all_goals
        go_wp2_with fail
        refine (works22 _).mono ?_
        rintro e w8 ⟨rfl, H8⟩
        go_wp2_with fail
        go_ret
        exact ⟨rfl, below_then HB7.out HB7.out.size H8.out⟩
end Go.Proofs.Ytgijhgonpgidiaa
