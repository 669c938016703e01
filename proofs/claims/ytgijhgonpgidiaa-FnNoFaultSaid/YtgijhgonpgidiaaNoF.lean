/-
  The walk of FnNoFault. No statement of the seat is proved here.
-/
import Derived.Test.YtgijhgonpgidiaaFail
import Derived.Test.YtgijhgonpgidiaaChk
import Derived.Test.YtgijhgonpgidiaaMsgR
namespace Go.Proofs.Ytgijhgonpgidiaa
open Go.RowKit Go.Proofs.YtgijhgonpgidiaaW.PrintWords

set_option maxRecDepth 100000 in
set_option maxHeartbeats 3200000 in
theorem walk14 (kind sq L t f s p : Int) (dv : Value) (data : List Int) (ok : Nat → Prop) (w : World) (hS : Sl ok w dv data) (hib : IsB data) :
    Calls Try.prog 14 #[.int .i64 kind, .int .i64 sq, .agg #[.int .i64 L, .int .i64 t, .int .i64 f, .int .i64 s, .int .i64 p, dv]] w fun e w' => e = .returned (.bool true) ∧ Below w.heap.size w w' := by
  have hdl0 := hS.len
  obtain ⟨A, c, rfl, _⟩ := hS.form
  obtain ⟨q, hq⟩ : ∃ q, q = w.heap.size := ⟨_, rfl⟩
  obtain ⟨W, hW⟩ : ∃ W, W = w.alloc (.cells #[.int .i64 L, .int .i64 t, .int .i64 f, .int .i64 s, .int .i64 p, .slice A data.length c] 41) := ⟨_, rfl⟩
  have hB : Below w.heap.size w W := by rw [hW]; exact (Below.refl _ _).alloc (Nat.le_refl _) _
  have hsz : W.heap.size = q + 1 := by rw [hW, hq]; simp
  have k0 : W.heap[q]? = some (.cells #[.int .i64 L, .int .i64 t, .int .i64 f, .int .i64 s, .int .i64 p, .slice A data.length c] 41) := by rw [hW, hq]; exact heap_alloc_new _ _
  have HS := Lib.hid (hS.bound.below hB)
  have HIB := Lib.hid hib
  have HW := Lib.hid hW
  have HB := Lib.hid hB
  have HZ := Lib.hid hsz
  have HQ := Lib.hid hq
  have K0 := Lib.hid k0
  have a0 : W.cell? ⟨q, 0, none⟩ = some (.int .i64 L) := blk_cell k0 0
  have a1 : W.cell? ⟨q, 1, none⟩ = some (.int .i64 t) := blk_cell k0 1
  have a2 : W.cell? ⟨q, 2, none⟩ = some (.int .i64 f) := blk_cell k0 2
  have a3 : W.cell? ⟨q, 3, none⟩ = some (.int .i64 s) := blk_cell k0 3
  have a4 : W.cell? ⟨q, 4, none⟩ = some (.int .i64 p) := blk_cell k0 4
  have a5 : W.cell? ⟨q, 5, none⟩ = some (.slice A data.length c) := blk_cell k0 5
  clear hS hib hW hB hsz k0
  go_enter Try.func14, Try.ntmps14
  go_wp2_with fail
  rw [← hq, ← HW.out]
  clear hq
  refine (fits29 L t f s p A data.length c W (by omega)).mono ?_
  rintro e w1 ⟨b, rfl, hb1, hdl⟩
  have HB1 := Lib.hid (below_then HB.out HB.out.size hb1)
  have k1 := blk_below K0.out hb1
  have b0 : w1.cell? ⟨q, 0, none⟩ = some (.int .i64 L) := blk_cell k1 0
  have b1 : w1.cell? ⟨q, 1, none⟩ = some (.int .i64 t) := blk_cell k1 1
  have b2 : w1.cell? ⟨q, 2, none⟩ = some (.int .i64 f) := blk_cell k1 2
  have b3 : w1.cell? ⟨q, 3, none⟩ = some (.int .i64 s) := blk_cell k1 3
  have b4 : w1.cell? ⟨q, 4, none⟩ = some (.int .i64 p) := blk_cell k1 4
  have b5 : w1.cell? ⟨q, 5, none⟩ = some (.slice A data.length c) := blk_cell k1 5
  have HS1 := Lib.hid (HS.out.below hb1)
  clear hb1 k1 a0 a1 a2 a3 a4 a5
  cases b
  · go_wp2_with fail
    go_ret
    exact ⟨rfl, HB1.out⟩
  have hdl1 : data.length ≤ 2147483647 := hdl (by simp)
  clear hdl
  go_wp2_with fail
  refine (message30 L t f s p A data.length c w1).mono ?_
  rintro e w2 ⟨rfl, hb2⟩
  obtain ⟨x, hx⟩ : ∃ x, x = w2.heap.size := ⟨_, rfl⟩
  obtain ⟨W2, hW2⟩ : ∃ X, X = w2.alloc (.cells #[.int .i64 L, .int .i64 t, .int .i64 f, .int .i64 s, .int .i64 p, .slice A data.length c] 43) := ⟨_, rfl⟩
  have hb3 : Below w1.heap.size w1 W2 := by rw [hW2]; exact hb2.alloc hb2.size _
  have k3 : W2.heap[x]? = some (.cells #[.int .i64 L, .int .i64 t, .int .i64 f, .int .i64 s, .int .i64 p, .slice A data.length c] 43) := by rw [hW2, hx]; exact heap_alloc_new _ _
  have HB2 := Lib.hid (below_then HB1.out HB1.out.size hb3)
  have HS2 := Lib.hid (HS1.out.below hb3)
  have K3 := Lib.hid k3
  have HW2 := Lib.hid hW2
  have HX := Lib.hid hx
  clear hb2 hb3 k3 hW2 b0 b1 b2 b3 b4 b5 hx
  go_wp2_with fail
  rw [← HW2.out, ← HX.out]
  refine (proper31 L t f s p A data.length c W2 (by omega)).mono ?_
  rintro e w3 ⟨rfl, hb3⟩
  have k3 := blk_below K3.out hb3
  have a0 : w3.cell? ⟨x, 0, none⟩ = some (.int .i64 L) := blk_cell k3 0
  have a1 : w3.cell? ⟨x, 1, none⟩ = some (.int .i64 t) := blk_cell k3 1
  have a2 : w3.cell? ⟨x, 2, none⟩ = some (.int .i64 f) := blk_cell k3 2
  have a3 : w3.cell? ⟨x, 3, none⟩ = some (.int .i64 s) := blk_cell k3 3
  have a4 : w3.cell? ⟨x, 4, none⟩ = some (.int .i64 p) := blk_cell k3 4
  have a5 : w3.cell? ⟨x, 5, none⟩ = some (.slice A data.length c) := blk_cell k3 5
  have HS3 := Lib.hid (HS2.out.below hb3)
  have K5 := Lib.hid k3
  have HB3 := Lib.hid (below_then HB2.out HB2.out.size hb3)
  clear hb3 k3
  have stop : ∀ (w4 : World), Below w3.heap.size w3 w4 → Below w.heap.size w w4 := fun w4 h => below_then HB3.out HB3.out.size h
  have HST := Lib.hid stop
  clear stop
  cases hm : mpB L t f s p data.length
  · go_wp2_with fail
    refine (works22 w3).mono ?_
    rintro e w4 ⟨rfl, H4⟩
    go_wp2_with fail
    go_ret
    exact ⟨rfl, HST.out _ H4.out⟩
  have HM := Lib.hid (mpB_iff.1 hm)
  clear hm
  by_cases h1 : kind < 0
  · go_wp2_with fail
    refine (works22 w3).mono ?_
    rintro e w4 ⟨rfl, H4⟩
    go_wp2_with fail
    go_ret
    exact ⟨rfl, HST.out _ H4.out⟩
  by_cases h2 : 65535 < kind
  · go_wp2_with fail
    refine (works22 w3).mono ?_
    rintro e w4 ⟨rfl, H4⟩
    go_wp2_with fail
    go_ret
    exact ⟨rfl, HST.out _ H4.out⟩
  by_cases h3 : kind = 3
  · subst h3
    go_wp2_with fail
    refine (works22 w3).mono ?_
    rintro e w4 ⟨rfl, H4⟩
    go_wp2_with fail
    go_ret
    exact ⟨rfl, HST.out _ H4.out⟩
  by_cases h4 : sq < 0
  · have h3b : (kind == 3) = false := by simpa using h3
    go_wp2_with fail
    refine (works22 w3).mono ?_
    rintro e w4 ⟨rfl, H4⟩
    go_wp2_with fail
    go_ret
    exact ⟨rfl, HST.out _ H4.out⟩
  by_cases h5 : 4294967296 ≤ sq
  · have h3b : (kind == 3) = false := by simpa using h3
    go_wp2_with fail
    refine (works22 w3).mono ?_
    rintro e w4 ⟨rfl, H4⟩
    go_wp2_with fail
    go_ret
    exact ⟨rfl, HST.out _ H4.out⟩
  have h3b : (kind == 3) = false := by simpa using h3
  go_wp2_with fail
  refine (failure42 sq 0 L t f s p 0 _ data false false ⟨#[]⟩ _ w3 HS3.out HM.out (by omega) (by decide) (by omega)).mono ?_
  rintro e w4 ⟨u4, rfl, H4⟩
  obtain ⟨A4, c4, rfl, _⟩ := H4.out.1.form
  obtain ⟨D, hD⟩ : ∃ D, D = failD 0 L t f s p data false false ⟨#[]⟩ 0 := ⟨_, rfl⟩
  rw [← hD] at H4 ⊢
  have hDe : D = [0, 0, 0, 0] ++ msgB L t f s p data := by rw [hD, show failD 0 L t f s p data false false ⟨#[]⟩ 0 = putB (-0) 4 ++ msgB L t f s p data by simp [failD]]; rfl
  have hDl : D.length = 20 + data.length := by rw [hDe, List.length_append, msgB_length]; simp; omega
  have hDB : IsB D := by rw [hDe]; exact IsB.append (by intro x hx; simp at hx; omega) (msgB_isB HIB.out)
  have hDg : g4 D = 0 := by rw [hDe, g4_append (by simp)]; rfl
  have hfl : failF false false = 0 := rfl
  have hdm := HM.out.2.2.1
  rw [hfl]
  have hdl5 : D.length ≤ 1020 := by omega
  have HDE := Lib.hid hDe
  have HDL := Lib.hid hDl
  have HDB := Lib.hid hDB
  have HDG := Lib.hid hDg
  have HB4 := Lib.hid (HST.out _ H4.out.2)
  obtain ⟨W4, hW4⟩ : ∃ X, X = w4.alloc (.cells #[.int .i64 (16 + D.length), .int .i64 kind, .int .i64 0, .int .i64 sq, .int .i64 p, .slice A4 D.length c4] 43) := ⟨_, rfl⟩
  have hb4 : Below w4.heap.size w4 W4 := by rw [hW4]; exact (Below.refl _ _).alloc (Nat.le_refl _) _
  have HB5 := Lib.hid (below_then HB4.out HB4.out.size hb4)
  have HC := Lib.hid (check41_none (16 + D.length) kind 0 sq p _ D _ W4 (H4.out.1.below hb4) hDB (by omega) (by omega) (by omega) (by omega) (by omega) HM.out.2.2.2.2.2.2 (by
    by_cases hk2 : kind = 2
    · exact .inr ⟨hk2, by omega, hDg⟩
    · exact .inl ⟨hk2, h3⟩))
  have HW4 := Lib.hid hW4
  clear hD hDe hDl hDB hDg hfl hb4 hW4
  go_wp2_with fail
  rw [← HW4.out]
  refine HC.out.mono ?_
  rintro e w5 ⟨rfl, H5⟩
  have HB6 := Lib.hid (below_then HB5.out HB5.out.size H5.out)
  go_wp2_with fail
  refine (works22 _).mono ?_
  rintro e w6 ⟨rfl, H6⟩
  go_wp2_with fail
  go_ret
  exact ⟨rfl, below_then HB6.out HB6.out.size H6.out⟩
end Go.Proofs.Ytgijhgonpgidiaa
