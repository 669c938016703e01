/-
  The walk of FnAttributesRead. No statement of the seat is proved here.
-/
import Derived.Test.YtgijhgonpgidiaaPar
namespace Go.Proofs.Ytgijhgonpgidiaa
open Go.RowKit Go.Proofs.YtgijhgonpgidiaaW.PrintWords

theorem AP.AOk {l : List (Int × List Int)} (h : ∀ a ∈ l, AP a) : AOk l := fun a ha => ⟨(h a ha).1, by have := (h a ha).2; omega⟩

set_option maxRecDepth 100000 in
set_option maxHeartbeats 3200000 in
theorem walk11 (w : World) (v : Value) (l : List (Int × List Int)) (ok : Nat → Prop) (hR : elS.Rd ok w v l) (hib : ∀ a ∈ l, IsB a.2) :
    Calls Try.prog 11 #[v] w fun e w' => e = .returned (.bool true) ∧ Below w.heap.size w w' := by
  obtain ⟨A, c, rfl, hlc, hcm⟩ := hR.form
  have HR := Lib.hid hR.bound
  have HIB := Lib.hid hib
  clear hR hib
  go_enter Try.func11, Try.ntmps11
  go_wp2_with fail
  refine (fits25 w _ l _ HR.out).mono ?_
  rintro e w1 ⟨b, rfl, H1⟩
  cases b
  · go_wp2_with fail
    go_ret
    exact ⟨rfl, H1.out.1⟩
  have hbig : l.length ≤ 2147483647 := H1.out.2 rfl
  go_wp2_with fail
  refine (attributes26 w1 _ l _ (HR.out.below H1.out.1) hbig).mono ?_
  rintro e w2 ⟨u, b, rfl, H2⟩
  have HB2 := Lib.hid (below_then H1.out.1 H1.out.1.size H2.out.1)
  cases b
  · go_wp2_with fail
    refine (works22 w2).mono ?_
    rintro e w3 ⟨rfl, H3⟩
    go_wp2_with fail
    go_ret
    exact ⟨rfl, below_then HB2.out HB2.out.size H3.out⟩
  obtain ⟨hO, h20, hP⟩ := H2.out.2 (by simp)
  obtain ⟨A1, c1, rfl, _⟩ := hO.slice_
  have HO := Lib.hid hO
  have HP := Lib.hid hP
  have HAO := Lib.hid (AP.AOk hP)
  have hT : (attrsB l).length ≤ 140730000000000 := by have := attrsB_length_le 200 l (fun a ha => (hP a ha).2); omega
  have HT := Lib.hid hT
  clear hO hP hT
  go_wp2_with fail
  refine (attrBytes28 w2 _ l _ HO.out.rd (fun a ha => ⟨(HP.out a ha).1, by have := (HP.out a ha).2; omega⟩) HT.out).mono ?_
  rintro e w3 ⟨u3, rfl, H3⟩
  obtain ⟨A3, c3, rfl, _⟩ := Ob.form H3.out.1
  have HB3 := Lib.hid (below_then HB2.out HB2.out.size H3.out.2)
  go_wp2_with fail
  refine (parse39_ok _ _ l _ w3 (Ob.sl H3.out.1) HAO.out (by omega) (by have := HT.out; omega) (um72_all HAO.out HIB.out (by omega) (by have := HT.out; omega))).mono ?_
  rintro e w4 ⟨u4, rfl, H4⟩
  obtain ⟨A4, c4, rfl, _, _⟩ := H4.out.1.form
  have HB4 := Lib.hid (below_then HB3.out HB3.out.size H4.out.2)
  have HR4 : Hid (elS.Rd (fun k => ok k ∧ k < w.heap.size) w4 (.slice A l.length c) l) := Lib.hid (HR.out.step fun k hk _ => HB4.out.block k hk.2)
  have hl63 : l.length ≤ 9223372036854775807 := by omega
  go_wp2_with fail
  go_loopw [37] (fun i wr => ∃ k : Nat, k ≤ l.length ∧ i = .int .i64 k ∧ Hid (Below w4.heap.size w4 wr)) (fun i _ => l.length - (intOf i).toNat)
  case atStart => exact ⟨0, Nat.zero_le _, rfl, Lib.hid (Below.refl _ _)⟩
  case round =>
    obtain ⟨k, hk, rfl, HJ⟩ := hrel
    by_cases hlt : k < l.length
    · obtain ⟨x, hx⟩ : ∃ x, l[k]? = some x := ⟨_, List.getElem?_eq_getElem hlt⟩
      obtain ⟨b, off, dA, dc, rfl, hbl, hbok, e0, e1, hd⟩ := rowS (H4.out.1.below HJ.out) hx
      obtain ⟨b2, off2, eA, ec, rfl, hbl2, hbok2, f0, f1, hd2⟩ := rowS (HR4.out.below HJ.out) hx
      obtain ⟨ty, data⟩ := x
      simp only at *
      obtain ⟨z, hz⟩ : ∃ z, z = wr.heap.size := ⟨_, rfl⟩
      obtain ⟨W1, hW1⟩ : ∃ W, W = wr.alloc (.cells #[.int .i64 ty, .slice dA data.length dc] 60) := ⟨_, rfl⟩
      have hB1 : Below wr.heap.size wr W1.drew := by rw [hW1]; exact ((Below.refl _ _).alloc (Nat.le_refl _) _).drew
      have kz : W1.heap[z]? = some (.cells #[.int .i64 ty, .slice dA data.length dc] 60) := by rw [hW1, hz]; exact heap_alloc_new _ _
      have m0 : W1.cell? ⟨z, 0, none⟩ = some (.int .i64 ty) := blk_cell kz 0
      have m1 : W1.cell? ⟨z, 1, none⟩ = some (.slice dA data.length dc) := blk_cell kz 1
      have n0 : W1.cell? ⟨b2, off2 + k * 2, none⟩ = some (.int .i64 ty) := (hB1.cell (p := ⟨b2, off2 + k * 2, none⟩) hbl2).trans f0
      have n1 : W1.cell? ⟨b2, off2 + k * 2 + 1, none⟩ = some (.slice eA data.length ec) := (hB1.cell (p := ⟨b2, off2 + k * 2 + 1, none⟩) hbl2).trans f1
      have hc1 := str_of (hd.below hB1)
      have hc2 := str_of (hd2.below hB1)
      have HB1 : Hid (Below w4.heap.size w4 W1.drew) := Lib.hid (below_then HJ.out HJ.out.size hB1)
      have HW1 := Lib.hid hW1
      clear hB1 kz hW1 hx hd hd2 f0 f1
      go_wp2_with fail
      rw [← HW1.out, ← hz]
      clear hz
      go_region
      all_goals
        go_wp2_with fail
        go_roundw
        case rel => exact ⟨k + 1, by omega, int_eq (by omega), HB1⟩
        case measure => simp [intOf]; omega
    · obtain rfl : k = l.length := by omega
      go_wp2_with fail
      refine (works22 _).mono ?_
      rintro e w9 ⟨rfl, H9⟩
      go_wp2_with fail
      go_ret
      exact ⟨rfl, below_then HB4.out HB4.out.size (below_then HJ.out HJ.out.size H9.out)⟩
end Go.Proofs.Ytgijhgonpgidiaa
