/-
  The walk of FnFault (printed by gen_fault.py: once for each capped and told). No statement of the seat is proved here.
-/
import Derived.Test.YtgijhgonpgidiaaFail
import Derived.Test.YtgijhgonpgidiaaErr2
import Derived.Test.YtgijhgonpgidiaaPrT
import Derived.Test.YtgijhgonpgidiaaMsgR
namespace Go.Proofs.Ytgijhgonpgidiaa
open Go.RowKit Go.Proofs.YtgijhgonpgidiaaW.PrintWords

theorem txOk_iff {text : ByteArray} (h : txOk text = true) : NoZ (bytesOf text) ∧ text.size ≤ 100 := by
  simp only [txOk, Bool.and_eq_true, decide_eq_true_eq, txZ, List.take_of_length_le (Nat.le_of_eq (bytesOf_length text)), List.all_eq_true] at h
  exact ⟨fun y hy => by simpa using h.1 y hy, h.2⟩
def fltO (n o s : Int) (t : ByteArray) : Obj := .cells #[.bool false, .bool false, .int .i64 n, .int .i64 o, .int .i64 s, .string t] 67
theorem msg_take16 {L t f s p : Int} {data : List Int} (h : data.length = 0) : (msgB L t f s p data).take 16 = msgB L t f s p data := by
  rw [List.take_of_length_le]
  rw [msgB_length]; omega

set_option maxRecDepth 100000 in
set_option maxHeartbeats 6400000 in
theorem walk13_ff (sq num L t f s p off : Int) (dv : Value) (data : List Int) (text : ByteArray) (ok : Nat → Prop) (w : World) (hS : Sl ok w dv data) (hib : IsB data) (htz : text.size ≤ 9223372036854775807) :
    Calls Try.prog 13 #[.int .i64 sq, .int .i64 num, .agg #[.int .i64 L, .int .i64 t, .int .i64 f, .int .i64 s, .int .i64 p, dv], .bool false, .bool false, .string text, .int .i64 off] w fun e w' => e = .returned (.bool true) ∧ Below w.heap.size w w' := by
  have hdl0 := hS.len
  obtain ⟨A, c, rfl, _⟩ := hS.form
  obtain ⟨q, hq⟩ : ∃ q, q = w.heap.size := ⟨_, rfl⟩
  obtain ⟨W, hW⟩ : ∃ W, W = w.alloc (.cells #[.int .i64 L, .int .i64 t, .int .i64 f, .int .i64 s, .int .i64 p, .slice A data.length c] 41) := ⟨_, rfl⟩
  have hB : Below w.heap.size w W := by rw [hW]; exact (Below.refl _ _).alloc (Nat.le_refl _) _
  have hsz : W.heap.size = q + 1 := by rw [hW, hq]; simp
  have k0 : W.heap[q]? = some (.cells #[.int .i64 L, .int .i64 t, .int .i64 f, .int .i64 s, .int .i64 p, .slice A data.length c] 41) := by rw [hW, hq]; exact heap_alloc_new _ _
  have HS := Lib.hid (hS.bound.below hB)
  have HIB := Lib.hid hib
  have HW := Lib.hid hW
  have HB := Lib.hid hB
  have HZ := Lib.hid hsz
  have HQ := Lib.hid hq
  have K0 := Lib.hid k0
  have a0 : W.cell? ⟨q, 0, none⟩ = some (.int .i64 L) := blk_cell k0 0
  have a1 : W.cell? ⟨q, 1, none⟩ = some (.int .i64 t) := blk_cell k0 1
  have a2 : W.cell? ⟨q, 2, none⟩ = some (.int .i64 f) := blk_cell k0 2
  have a3 : W.cell? ⟨q, 3, none⟩ = some (.int .i64 s) := blk_cell k0 3
  have a4 : W.cell? ⟨q, 4, none⟩ = some (.int .i64 p) := blk_cell k0 4
  have a5 : W.cell? ⟨q, 5, none⟩ = some (.slice A data.length c) := blk_cell k0 5
  clear hS hib hW hB hsz k0
  go_enter Try.func13, Try.ntmps13
  go_wp2_with fail
  rw [← hq, ← HW.out]
  clear hq
  refine (fits29 L t f s p A data.length c W (by omega)).mono ?_
  rintro e w1 ⟨b, rfl, hb1, hdl⟩
  have HB1 := Lib.hid (below_then HB.out HB.out.size hb1)
  have k1 := blk_below K0.out hb1
  have b0 : w1.cell? ⟨q, 0, none⟩ = some (.int .i64 L) := blk_cell k1 0
  have b1 : w1.cell? ⟨q, 1, none⟩ = some (.int .i64 t) := blk_cell k1 1
  have b2 : w1.cell? ⟨q, 2, none⟩ = some (.int .i64 f) := blk_cell k1 2
  have b3 : w1.cell? ⟨q, 3, none⟩ = some (.int .i64 s) := blk_cell k1 3
  have b4 : w1.cell? ⟨q, 4, none⟩ = some (.int .i64 p) := blk_cell k1 4
  have b5 : w1.cell? ⟨q, 5, none⟩ = some (.slice A data.length c) := blk_cell k1 5
  have HS1 := Lib.hid (HS.out.below hb1)
  clear hb1 k1 a0 a1 a2 a3 a4 a5
  cases b
  · go_wp2_with fail
    go_ret
    exact ⟨rfl, HB1.out⟩
  have hdl1 : data.length ≤ 2147483647 := hdl (by simp)
  clear hdl
  by_cases ht1 : 2147483647 < text.size
  · go_wp2_with fail
    go_ret
    exact ⟨rfl, HB1.out⟩
  go_wp2_with fail
  refine (message30 L t f s p A data.length c w1).mono ?_
  rintro e w2 ⟨rfl, hb2⟩
  obtain ⟨x, hx⟩ : ∃ x, x = w2.heap.size := ⟨_, rfl⟩
  obtain ⟨W2, hW2⟩ : ∃ X, X = w2.alloc (.cells #[.int .i64 L, .int .i64 t, .int .i64 f, .int .i64 s, .int .i64 p, .slice A data.length c] 43) := ⟨_, rfl⟩
  have hb3 : Below w1.heap.size w1 W2 := by rw [hW2]; exact hb2.alloc hb2.size _
  have k3 : W2.heap[x]? = some (.cells #[.int .i64 L, .int .i64 t, .int .i64 f, .int .i64 s, .int .i64 p, .slice A data.length c] 43) := by rw [hW2, hx]; exact heap_alloc_new _ _
  have HB2 := Lib.hid (below_then HB1.out HB1.out.size hb3)
  have HS2 := Lib.hid (HS1.out.below hb3)
  have K3 := Lib.hid k3
  have HW2 := Lib.hid hW2
  have HX := Lib.hid hx
  clear hb2 hb3 k3 hW2 b0 b1 b2 b3 b4 b5 hx
  go_wp2_with fail
  rw [← HW2.out, ← HX.out]
  refine (proper31 L t f s p A data.length c W2 (by omega)).mono ?_
  rintro e w3 ⟨rfl, hb3⟩
  have k3 := blk_below K3.out hb3
  have a0 : w3.cell? ⟨x, 0, none⟩ = some (.int .i64 L) := blk_cell k3 0
  have a1 : w3.cell? ⟨x, 1, none⟩ = some (.int .i64 t) := blk_cell k3 1
  have a2 : w3.cell? ⟨x, 2, none⟩ = some (.int .i64 f) := blk_cell k3 2
  have a3 : w3.cell? ⟨x, 3, none⟩ = some (.int .i64 s) := blk_cell k3 3
  have a4 : w3.cell? ⟨x, 4, none⟩ = some (.int .i64 p) := blk_cell k3 4
  have a5 : w3.cell? ⟨x, 5, none⟩ = some (.slice A data.length c) := blk_cell k3 5
  have HS3 := Lib.hid (HS2.out.below hb3)
  have K5 := Lib.hid k3
  have HB3 := Lib.hid (below_then HB2.out HB2.out.size hb3)
  clear hb3 k3
  have stop : ∀ (w4 : World), Below w3.heap.size w3 w4 → Below w.heap.size w w4 := fun w4 h => below_then HB3.out HB3.out.size h
  have HST := Lib.hid stop
  clear stop
  cases hm : mpB L t f s p data.length
  · go_wp2_with fail
    refine (works22 w3).mono ?_
    rintro e w4 ⟨rfl, H4⟩
    go_wp2_with fail
    go_ret
    exact ⟨rfl, HST.out _ H4.out⟩
  have HM := Lib.hid (mpB_iff.1 hm)
  clear hm
  by_cases h1 : num < 1
  · go_wp2_with fail
    refine (works22 w3).mono ?_
    rintro e w4 ⟨rfl, H4⟩
    go_wp2_with fail
    go_ret
    exact ⟨rfl, HST.out _ H4.out⟩
  by_cases h2 : 4095 < num
  · go_wp2_with fail
    refine (works22 w3).mono ?_
    rintro e w4 ⟨rfl, H4⟩
    go_wp2_with fail
    go_ret
    exact ⟨rfl, HST.out _ H4.out⟩
  by_cases h3 : sq < 0
  · go_wp2_with fail
    refine (works22 w3).mono ?_
    rintro e w4 ⟨rfl, H4⟩
    go_wp2_with fail
    go_ret
    exact ⟨rfl, HST.out _ H4.out⟩
  by_cases h4 : 4294967296 ≤ sq
  · go_wp2_with fail
    refine (works22 w3).mono ?_
    rintro e w4 ⟨rfl, H4⟩
    go_wp2_with fail
    go_ret
    exact ⟨rfl, HST.out _ H4.out⟩
  by_cases h5 : off < 0
  · go_wp2_with fail
    refine (works22 w3).mono ?_
    rintro e w4 ⟨rfl, H4⟩
    go_wp2_with fail
    go_ret
    exact ⟨rfl, HST.out _ H4.out⟩
  by_cases h6 : 2147483648 ≤ off
  · go_wp2_with fail
    refine (works22 w3).mono ?_
    rintro e w4 ⟨rfl, H4⟩
    go_wp2_with fail
    go_ret
    exact ⟨rfl, HST.out _ H4.out⟩
  go_wp2_with fail
  refine (text40 1 1 text w3 (by decide) (by decide) htz).mono ?_
  rintro e w3b ⟨rfl, h3b⟩
  have c0 := (blk_cell (blk_below K5.out h3b.out) 0 : w3b.cell? ⟨x, 0, none⟩ = some (.int .i64 L))
  have c1 : w3b.cell? ⟨x, 1, none⟩ = some (.int .i64 t) := blk_cell (blk_below K5.out h3b.out) 1
  have c2 : w3b.cell? ⟨x, 2, none⟩ = some (.int .i64 f) := blk_cell (blk_below K5.out h3b.out) 2
  have c3 : w3b.cell? ⟨x, 3, none⟩ = some (.int .i64 s) := blk_cell (blk_below K5.out h3b.out) 3
  have c4 : w3b.cell? ⟨x, 4, none⟩ = some (.int .i64 p) := blk_cell (blk_below K5.out h3b.out) 4
  have c5 : w3b.cell? ⟨x, 5, none⟩ = some (.slice A data.length c) := blk_cell (blk_below K5.out h3b.out) 5
  clear a0 a1 a2 a3 a4 a5
  have HB7 := Lib.hid (HST.out _ h3b.out)
  cases hx : txOk text
  · go_wp2_with fail
    refine (works22 w3b).mono ?_
    rintro e w4 ⟨rfl, H4⟩
    go_wp2_with fail
    go_ret
    exact ⟨rfl, below_then HB7.out HB7.out.size H4.out⟩
  have htx := txOk_iff hx
  have htl := htx.2
  have HTX := Lib.hid htx
  have HS4 := Lib.hid (HS3.out.below h3b.out)
  clear hx htx h3b
  go_wp2_with fail
  refine (failure42 sq num L t f s p off _ data false false text _ w3b HS4.out HM.out (by omega) htl (by omega)).mono ?_
  rintro e w4 ⟨u4, rfl, H4⟩
  obtain ⟨A4, c4, rfl, _⟩ := H4.out.1.form
  obtain ⟨D, hD⟩ : ∃ D, D = failD num L t f s p data false false text off := ⟨_, rfl⟩
  rw [← hD] at H4 ⊢
  have hdm := HM.out.2.2.1

  have hDe : D = putB (-num) 4 ++ msgB L t f s p data := by rw [hD]; simp [failD]
  have hDl : D.length ≤ 1400 := by rw [hDe]; simp only [List.length_append, putB_length, msgB_length]; omega
  have hfl : failF false false = 0 := rfl
  rw [hfl]
  have hL0 := HM.out.1
  have hisb := msgB_isB (L := L) (t := t) (f := f) (s := s) (p := p) HIB.out
  have hrd := (msg_read HM.out).1
  have HB4 := Lib.hid (below_then HB7.out HB7.out.size H4.out.2)
  have HC := Lib.hid (check41_some num 0 ⟨#[]⟩ (16 + D.length) 2 0 sq p _ D _ w4 H4.out.1 (by omega) (by omega) (by omega) (by omega) (by omega) HM.out.2.2.2.2.2.2 (by omega) (fun W5 v ok' hv => by
    rw [hDe] at hv
    exact check106_num num (16 + D.length) 0 sq p v _ ok' W5 hv hisb (by omega) (by decide)))
  clear hD hDe hDl hfl hL0 hisb hrd HS4 H4 HM
  go_wp2_with fail
  refine HC.out.mono ?_
  rintro e w5 ⟨rfl, H5⟩
  have HB6 := Lib.hid (below_then HB4.out HB4.out.size H5.out)
  clear H5
  go_wp2_with fail
  refine (works22 _).mono ?_
  rintro e w6 ⟨rfl, H6⟩
  go_wp2_with fail
  go_ret
  have hz6 := HB6.out.size
  refine ⟨rfl, below_then ?_ ?_ H6.out⟩
  · refine Below.alloc (Below.alloc HB6.out HB6.out.size _) ?_ _ <;> (simp; try omega)
  · simp; omega
set_option maxRecDepth 100000 in
set_option maxHeartbeats 6400000 in
theorem walk13_tf (sq num L t f s p off : Int) (dv : Value) (data : List Int) (text : ByteArray) (ok : Nat → Prop) (w : World) (hS : Sl ok w dv data) (hib : IsB data) (htz : text.size ≤ 9223372036854775807) :
    Calls Try.prog 13 #[.int .i64 sq, .int .i64 num, .agg #[.int .i64 L, .int .i64 t, .int .i64 f, .int .i64 s, .int .i64 p, dv], .bool true, .bool false, .string text, .int .i64 off] w fun e w' => e = .returned (.bool true) ∧ Below w.heap.size w w' := by
  have hdl0 := hS.len
  obtain ⟨A, c, rfl, _⟩ := hS.form
  obtain ⟨q, hq⟩ : ∃ q, q = w.heap.size := ⟨_, rfl⟩
  obtain ⟨W, hW⟩ : ∃ W, W = w.alloc (.cells #[.int .i64 L, .int .i64 t, .int .i64 f, .int .i64 s, .int .i64 p, .slice A data.length c] 41) := ⟨_, rfl⟩
  have hB : Below w.heap.size w W := by rw [hW]; exact (Below.refl _ _).alloc (Nat.le_refl _) _
  have hsz : W.heap.size = q + 1 := by rw [hW, hq]; simp
  have k0 : W.heap[q]? = some (.cells #[.int .i64 L, .int .i64 t, .int .i64 f, .int .i64 s, .int .i64 p, .slice A data.length c] 41) := by rw [hW, hq]; exact heap_alloc_new _ _
  have HS := Lib.hid (hS.bound.below hB)
  have HIB := Lib.hid hib
  have HW := Lib.hid hW
  have HB := Lib.hid hB
  have HZ := Lib.hid hsz
  have HQ := Lib.hid hq
  have K0 := Lib.hid k0
  have a0 : W.cell? ⟨q, 0, none⟩ = some (.int .i64 L) := blk_cell k0 0
  have a1 : W.cell? ⟨q, 1, none⟩ = some (.int .i64 t) := blk_cell k0 1
  have a2 : W.cell? ⟨q, 2, none⟩ = some (.int .i64 f) := blk_cell k0 2
  have a3 : W.cell? ⟨q, 3, none⟩ = some (.int .i64 s) := blk_cell k0 3
  have a4 : W.cell? ⟨q, 4, none⟩ = some (.int .i64 p) := blk_cell k0 4
  have a5 : W.cell? ⟨q, 5, none⟩ = some (.slice A data.length c) := blk_cell k0 5
  clear hS hib hW hB hsz k0
  go_enter Try.func13, Try.ntmps13
  go_wp2_with fail
  rw [← hq, ← HW.out]
  clear hq
  refine (fits29 L t f s p A data.length c W (by omega)).mono ?_
  rintro e w1 ⟨b, rfl, hb1, hdl⟩
  have HB1 := Lib.hid (below_then HB.out HB.out.size hb1)
  have k1 := blk_below K0.out hb1
  have b0 : w1.cell? ⟨q, 0, none⟩ = some (.int .i64 L) := blk_cell k1 0
  have b1 : w1.cell? ⟨q, 1, none⟩ = some (.int .i64 t) := blk_cell k1 1
  have b2 : w1.cell? ⟨q, 2, none⟩ = some (.int .i64 f) := blk_cell k1 2
  have b3 : w1.cell? ⟨q, 3, none⟩ = some (.int .i64 s) := blk_cell k1 3
  have b4 : w1.cell? ⟨q, 4, none⟩ = some (.int .i64 p) := blk_cell k1 4
  have b5 : w1.cell? ⟨q, 5, none⟩ = some (.slice A data.length c) := blk_cell k1 5
  have HS1 := Lib.hid (HS.out.below hb1)
  clear hb1 k1 a0 a1 a2 a3 a4 a5
  cases b
  · go_wp2_with fail
    go_ret
    exact ⟨rfl, HB1.out⟩
  have hdl1 : data.length ≤ 2147483647 := hdl (by simp)
  clear hdl
  by_cases ht1 : 2147483647 < text.size
  · go_wp2_with fail
    go_ret
    exact ⟨rfl, HB1.out⟩
  go_wp2_with fail
  refine (message30 L t f s p A data.length c w1).mono ?_
  rintro e w2 ⟨rfl, hb2⟩
  obtain ⟨x, hx⟩ : ∃ x, x = w2.heap.size := ⟨_, rfl⟩
  obtain ⟨W2, hW2⟩ : ∃ X, X = w2.alloc (.cells #[.int .i64 L, .int .i64 t, .int .i64 f, .int .i64 s, .int .i64 p, .slice A data.length c] 43) := ⟨_, rfl⟩
  have hb3 : Below w1.heap.size w1 W2 := by rw [hW2]; exact hb2.alloc hb2.size _
  have k3 : W2.heap[x]? = some (.cells #[.int .i64 L, .int .i64 t, .int .i64 f, .int .i64 s, .int .i64 p, .slice A data.length c] 43) := by rw [hW2, hx]; exact heap_alloc_new _ _
  have HB2 := Lib.hid (below_then HB1.out HB1.out.size hb3)
  have HS2 := Lib.hid (HS1.out.below hb3)
  have K3 := Lib.hid k3
  have HW2 := Lib.hid hW2
  have HX := Lib.hid hx
  clear hb2 hb3 k3 hW2 b0 b1 b2 b3 b4 b5 hx
  go_wp2_with fail
  rw [← HW2.out, ← HX.out]
  refine (proper31 L t f s p A data.length c W2 (by omega)).mono ?_
  rintro e w3 ⟨rfl, hb3⟩
  have k3 := blk_below K3.out hb3
  have a0 : w3.cell? ⟨x, 0, none⟩ = some (.int .i64 L) := blk_cell k3 0
  have a1 : w3.cell? ⟨x, 1, none⟩ = some (.int .i64 t) := blk_cell k3 1
  have a2 : w3.cell? ⟨x, 2, none⟩ = some (.int .i64 f) := blk_cell k3 2
  have a3 : w3.cell? ⟨x, 3, none⟩ = some (.int .i64 s) := blk_cell k3 3
  have a4 : w3.cell? ⟨x, 4, none⟩ = some (.int .i64 p) := blk_cell k3 4
  have a5 : w3.cell? ⟨x, 5, none⟩ = some (.slice A data.length c) := blk_cell k3 5
  have HS3 := Lib.hid (HS2.out.below hb3)
  have K5 := Lib.hid k3
  have HB3 := Lib.hid (below_then HB2.out HB2.out.size hb3)
  clear hb3 k3
  have stop : ∀ (w4 : World), Below w3.heap.size w3 w4 → Below w.heap.size w w4 := fun w4 h => below_then HB3.out HB3.out.size h
  have HST := Lib.hid stop
  clear stop
  cases hm : mpB L t f s p data.length
  · go_wp2_with fail
    refine (works22 w3).mono ?_
    rintro e w4 ⟨rfl, H4⟩
    go_wp2_with fail
    go_ret
    exact ⟨rfl, HST.out _ H4.out⟩
  have HM := Lib.hid (mpB_iff.1 hm)
  clear hm
  by_cases h1 : num < 1
  · go_wp2_with fail
    refine (works22 w3).mono ?_
    rintro e w4 ⟨rfl, H4⟩
    go_wp2_with fail
    go_ret
    exact ⟨rfl, HST.out _ H4.out⟩
  by_cases h2 : 4095 < num
  · go_wp2_with fail
    refine (works22 w3).mono ?_
    rintro e w4 ⟨rfl, H4⟩
    go_wp2_with fail
    go_ret
    exact ⟨rfl, HST.out _ H4.out⟩
  by_cases h3 : sq < 0
  · go_wp2_with fail
    refine (works22 w3).mono ?_
    rintro e w4 ⟨rfl, H4⟩
    go_wp2_with fail
    go_ret
    exact ⟨rfl, HST.out _ H4.out⟩
  by_cases h4 : 4294967296 ≤ sq
  · go_wp2_with fail
    refine (works22 w3).mono ?_
    rintro e w4 ⟨rfl, H4⟩
    go_wp2_with fail
    go_ret
    exact ⟨rfl, HST.out _ H4.out⟩
  by_cases h5 : off < 0
  · go_wp2_with fail
    refine (works22 w3).mono ?_
    rintro e w4 ⟨rfl, H4⟩
    go_wp2_with fail
    go_ret
    exact ⟨rfl, HST.out _ H4.out⟩
  by_cases h6 : 2147483648 ≤ off
  · go_wp2_with fail
    refine (works22 w3).mono ?_
    rintro e w4 ⟨rfl, H4⟩
    go_wp2_with fail
    go_ret
    exact ⟨rfl, HST.out _ H4.out⟩
  go_wp2_with fail
  refine (text40 1 1 text w3 (by decide) (by decide) htz).mono ?_
  rintro e w3b ⟨rfl, h3b⟩
  have c0 := (blk_cell (blk_below K5.out h3b.out) 0 : w3b.cell? ⟨x, 0, none⟩ = some (.int .i64 L))
  have c1 : w3b.cell? ⟨x, 1, none⟩ = some (.int .i64 t) := blk_cell (blk_below K5.out h3b.out) 1
  have c2 : w3b.cell? ⟨x, 2, none⟩ = some (.int .i64 f) := blk_cell (blk_below K5.out h3b.out) 2
  have c3 : w3b.cell? ⟨x, 3, none⟩ = some (.int .i64 s) := blk_cell (blk_below K5.out h3b.out) 3
  have c4 : w3b.cell? ⟨x, 4, none⟩ = some (.int .i64 p) := blk_cell (blk_below K5.out h3b.out) 4
  have c5 : w3b.cell? ⟨x, 5, none⟩ = some (.slice A data.length c) := blk_cell (blk_below K5.out h3b.out) 5
  clear a0 a1 a2 a3 a4 a5
  have HB7 := Lib.hid (HST.out _ h3b.out)
  cases hx : txOk text
  · go_wp2_with fail
    refine (works22 w3b).mono ?_
    rintro e w4 ⟨rfl, H4⟩
    go_wp2_with fail
    go_ret
    exact ⟨rfl, below_then HB7.out HB7.out.size H4.out⟩
  have htx := txOk_iff hx
  have htl := htx.2
  have HTX := Lib.hid htx
  have HS4 := Lib.hid (HS3.out.below h3b.out)
  clear hx htx h3b
  go_wp2_with fail
  refine (failure42 sq num L t f s p off _ data true false text _ w3b HS4.out HM.out (by omega) htl (by omega)).mono ?_
  rintro e w4 ⟨u4, rfl, H4⟩
  obtain ⟨A4, c4, rfl, _⟩ := H4.out.1.form
  obtain ⟨D, hD⟩ : ∃ D, D = failD num L t f s p data true false text off := ⟨_, rfl⟩
  rw [← hD] at H4 ⊢
  have hdm := HM.out.2.2.1

  have hDe : D = putB (-num) 4 ++ ((msgB L t f s p data).take 16) := by rw [hD]; simp [failD]
  have hDl : D.length ≤ 1400 := by rw [hDe]; simp only [List.length_append, putB_length, msgB_length, List.length_take]; omega
  have hfl : failF true false = 256 := rfl
  rw [hfl]
  have hL0 := HM.out.1
  have hisb := msgB_isB (L := L) (t := t) (f := f) (s := s) (p := p) HIB.out
  have hrd := (msg_read HM.out).1
  have HB4 := Lib.hid (below_then HB7.out HB7.out.size H4.out.2)
  have HC := Lib.hid (check41_some num 0 ⟨#[]⟩ (16 + D.length) 2 256 sq p _ D _ w4 H4.out.1 (by omega) (by omega) (by omega) (by omega) (by omega) HM.out.2.2.2.2.2.2 (by omega) (fun W5 v ok' hv => by
    rw [hDe] at hv
    exact check106_num num (16 + D.length) 256 sq p v _ ok' W5 hv (IsB.take hisb 16) (by omega) (by decide)))
  clear hD hDe hDl hfl hL0 hisb hrd HS4 H4 HM
  go_wp2_with fail
  refine HC.out.mono ?_
  rintro e w5 ⟨rfl, H5⟩
  have HB6 := Lib.hid (below_then HB4.out HB4.out.size H5.out)
  clear H5
  go_wp2_with fail
  refine (works22 _).mono ?_
  rintro e w6 ⟨rfl, H6⟩
  go_wp2_with fail
  go_ret
  have hz6 := HB6.out.size
  refine ⟨rfl, below_then ?_ ?_ H6.out⟩
  · refine Below.alloc (Below.alloc HB6.out HB6.out.size _) ?_ _ <;> (simp; try omega)
  · simp; omega
set_option maxRecDepth 100000 in
set_option maxHeartbeats 6400000 in
theorem walk13_ft (sq num L t f s p off : Int) (dv : Value) (data : List Int) (text : ByteArray) (ok : Nat → Prop) (w : World) (hS : Sl ok w dv data) (hib : IsB data) (htz : text.size ≤ 9223372036854775807) :
    Calls Try.prog 13 #[.int .i64 sq, .int .i64 num, .agg #[.int .i64 L, .int .i64 t, .int .i64 f, .int .i64 s, .int .i64 p, dv], .bool false, .bool true, .string text, .int .i64 off] w fun e w' => e = .returned (.bool true) ∧ Below w.heap.size w w' := by
  have hdl0 := hS.len
  obtain ⟨A, c, rfl, _⟩ := hS.form
  obtain ⟨q, hq⟩ : ∃ q, q = w.heap.size := ⟨_, rfl⟩
  obtain ⟨W, hW⟩ : ∃ W, W = w.alloc (.cells #[.int .i64 L, .int .i64 t, .int .i64 f, .int .i64 s, .int .i64 p, .slice A data.length c] 41) := ⟨_, rfl⟩
  have hB : Below w.heap.size w W := by rw [hW]; exact (Below.refl _ _).alloc (Nat.le_refl _) _
  have hsz : W.heap.size = q + 1 := by rw [hW, hq]; simp
  have k0 : W.heap[q]? = some (.cells #[.int .i64 L, .int .i64 t, .int .i64 f, .int .i64 s, .int .i64 p, .slice A data.length c] 41) := by rw [hW, hq]; exact heap_alloc_new _ _
  have HS := Lib.hid (hS.bound.below hB)
  have HIB := Lib.hid hib
  have HW := Lib.hid hW
  have HB := Lib.hid hB
  have HZ := Lib.hid hsz
  have HQ := Lib.hid hq
  have K0 := Lib.hid k0
  have a0 : W.cell? ⟨q, 0, none⟩ = some (.int .i64 L) := blk_cell k0 0
  have a1 : W.cell? ⟨q, 1, none⟩ = some (.int .i64 t) := blk_cell k0 1
  have a2 : W.cell? ⟨q, 2, none⟩ = some (.int .i64 f) := blk_cell k0 2
  have a3 : W.cell? ⟨q, 3, none⟩ = some (.int .i64 s) := blk_cell k0 3
  have a4 : W.cell? ⟨q, 4, none⟩ = some (.int .i64 p) := blk_cell k0 4
  have a5 : W.cell? ⟨q, 5, none⟩ = some (.slice A data.length c) := blk_cell k0 5
  clear hS hib hW hB hsz k0
  go_enter Try.func13, Try.ntmps13
  go_wp2_with fail
  rw [← hq, ← HW.out]
  clear hq
  refine (fits29 L t f s p A data.length c W (by omega)).mono ?_
  rintro e w1 ⟨b, rfl, hb1, hdl⟩
  have HB1 := Lib.hid (below_then HB.out HB.out.size hb1)
  have k1 := blk_below K0.out hb1
  have b0 : w1.cell? ⟨q, 0, none⟩ = some (.int .i64 L) := blk_cell k1 0
  have b1 : w1.cell? ⟨q, 1, none⟩ = some (.int .i64 t) := blk_cell k1 1
  have b2 : w1.cell? ⟨q, 2, none⟩ = some (.int .i64 f) := blk_cell k1 2
  have b3 : w1.cell? ⟨q, 3, none⟩ = some (.int .i64 s) := blk_cell k1 3
  have b4 : w1.cell? ⟨q, 4, none⟩ = some (.int .i64 p) := blk_cell k1 4
  have b5 : w1.cell? ⟨q, 5, none⟩ = some (.slice A data.length c) := blk_cell k1 5
  have HS1 := Lib.hid (HS.out.below hb1)
  clear hb1 k1 a0 a1 a2 a3 a4 a5
  cases b
  · go_wp2_with fail
    go_ret
    exact ⟨rfl, HB1.out⟩
  have hdl1 : data.length ≤ 2147483647 := hdl (by simp)
  clear hdl
  by_cases ht1 : 2147483647 < text.size
  · go_wp2_with fail
    go_ret
    exact ⟨rfl, HB1.out⟩
  go_wp2_with fail
  refine (message30 L t f s p A data.length c w1).mono ?_
  rintro e w2 ⟨rfl, hb2⟩
  obtain ⟨x, hx⟩ : ∃ x, x = w2.heap.size := ⟨_, rfl⟩
  obtain ⟨W2, hW2⟩ : ∃ X, X = w2.alloc (.cells #[.int .i64 L, .int .i64 t, .int .i64 f, .int .i64 s, .int .i64 p, .slice A data.length c] 43) := ⟨_, rfl⟩
  have hb3 : Below w1.heap.size w1 W2 := by rw [hW2]; exact hb2.alloc hb2.size _
  have k3 : W2.heap[x]? = some (.cells #[.int .i64 L, .int .i64 t, .int .i64 f, .int .i64 s, .int .i64 p, .slice A data.length c] 43) := by rw [hW2, hx]; exact heap_alloc_new _ _
  have HB2 := Lib.hid (below_then HB1.out HB1.out.size hb3)
  have HS2 := Lib.hid (HS1.out.below hb3)
  have K3 := Lib.hid k3
  have HW2 := Lib.hid hW2
  have HX := Lib.hid hx
  clear hb2 hb3 k3 hW2 b0 b1 b2 b3 b4 b5 hx
  go_wp2_with fail
  rw [← HW2.out, ← HX.out]
  refine (proper31 L t f s p A data.length c W2 (by omega)).mono ?_
  rintro e w3 ⟨rfl, hb3⟩
  have k3 := blk_below K3.out hb3
  have a0 : w3.cell? ⟨x, 0, none⟩ = some (.int .i64 L) := blk_cell k3 0
  have a1 : w3.cell? ⟨x, 1, none⟩ = some (.int .i64 t) := blk_cell k3 1
  have a2 : w3.cell? ⟨x, 2, none⟩ = some (.int .i64 f) := blk_cell k3 2
  have a3 : w3.cell? ⟨x, 3, none⟩ = some (.int .i64 s) := blk_cell k3 3
  have a4 : w3.cell? ⟨x, 4, none⟩ = some (.int .i64 p) := blk_cell k3 4
  have a5 : w3.cell? ⟨x, 5, none⟩ = some (.slice A data.length c) := blk_cell k3 5
  have HS3 := Lib.hid (HS2.out.below hb3)
  have K5 := Lib.hid k3
  have HB3 := Lib.hid (below_then HB2.out HB2.out.size hb3)
  clear hb3 k3
  have stop : ∀ (w4 : World), Below w3.heap.size w3 w4 → Below w.heap.size w w4 := fun w4 h => below_then HB3.out HB3.out.size h
  have HST := Lib.hid stop
  clear stop
  cases hm : mpB L t f s p data.length
  · go_wp2_with fail
    refine (works22 w3).mono ?_
    rintro e w4 ⟨rfl, H4⟩
    go_wp2_with fail
    go_ret
    exact ⟨rfl, HST.out _ H4.out⟩
  have HM := Lib.hid (mpB_iff.1 hm)
  clear hm
  by_cases h1 : num < 1
  · go_wp2_with fail
    refine (works22 w3).mono ?_
    rintro e w4 ⟨rfl, H4⟩
    go_wp2_with fail
    go_ret
    exact ⟨rfl, HST.out _ H4.out⟩
  by_cases h2 : 4095 < num
  · go_wp2_with fail
    refine (works22 w3).mono ?_
    rintro e w4 ⟨rfl, H4⟩
    go_wp2_with fail
    go_ret
    exact ⟨rfl, HST.out _ H4.out⟩
  by_cases h3 : sq < 0
  · go_wp2_with fail
    refine (works22 w3).mono ?_
    rintro e w4 ⟨rfl, H4⟩
    go_wp2_with fail
    go_ret
    exact ⟨rfl, HST.out _ H4.out⟩
  by_cases h4 : 4294967296 ≤ sq
  · go_wp2_with fail
    refine (works22 w3).mono ?_
    rintro e w4 ⟨rfl, H4⟩
    go_wp2_with fail
    go_ret
    exact ⟨rfl, HST.out _ H4.out⟩
  by_cases h5 : off < 0
  · go_wp2_with fail
    refine (works22 w3).mono ?_
    rintro e w4 ⟨rfl, H4⟩
    go_wp2_with fail
    go_ret
    exact ⟨rfl, HST.out _ H4.out⟩
  by_cases h6 : 2147483648 ≤ off
  · go_wp2_with fail
    refine (works22 w3).mono ?_
    rintro e w4 ⟨rfl, H4⟩
    go_wp2_with fail
    go_ret
    exact ⟨rfl, HST.out _ H4.out⟩
  go_wp2_with fail
  refine (text40 1 1 text w3 (by decide) (by decide) htz).mono ?_
  rintro e w3b ⟨rfl, h3b⟩
  have c0 := (blk_cell (blk_below K5.out h3b.out) 0 : w3b.cell? ⟨x, 0, none⟩ = some (.int .i64 L))
  have c1 : w3b.cell? ⟨x, 1, none⟩ = some (.int .i64 t) := blk_cell (blk_below K5.out h3b.out) 1
  have c2 : w3b.cell? ⟨x, 2, none⟩ = some (.int .i64 f) := blk_cell (blk_below K5.out h3b.out) 2
  have c3 : w3b.cell? ⟨x, 3, none⟩ = some (.int .i64 s) := blk_cell (blk_below K5.out h3b.out) 3
  have c4 : w3b.cell? ⟨x, 4, none⟩ = some (.int .i64 p) := blk_cell (blk_below K5.out h3b.out) 4
  have c5 : w3b.cell? ⟨x, 5, none⟩ = some (.slice A data.length c) := blk_cell (blk_below K5.out h3b.out) 5
  clear a0 a1 a2 a3 a4 a5
  have HB7 := Lib.hid (HST.out _ h3b.out)
  cases hx : txOk text
  · go_wp2_with fail
    refine (works22 w3b).mono ?_
    rintro e w4 ⟨rfl, H4⟩
    go_wp2_with fail
    go_ret
    exact ⟨rfl, below_then HB7.out HB7.out.size H4.out⟩
  have htx := txOk_iff hx
  have htl := htx.2
  have HTX := Lib.hid htx
  have HS4 := Lib.hid (HS3.out.below h3b.out)
  clear hx htx h3b
  go_wp2_with fail
  refine (failure42 sq num L t f s p off _ data false true text _ w3b HS4.out HM.out (by omega) htl (by omega)).mono ?_
  rintro e w4 ⟨u4, rfl, H4⟩
  obtain ⟨A4, c4, rfl, _⟩ := H4.out.1.form
  obtain ⟨D, hD⟩ : ∃ D, D = failD num L t f s p data false true text off := ⟨_, rfl⟩
  rw [← hD] at H4 ⊢
  have hdm := HM.out.2.2.1

  have hDe : D = putB (-num) 4 ++ (msgB L t f s p data ++ attrsB (toldA text off)) := by rw [hD]; simp [failD]
  have htl2 := told_len text off htl
  have hDl : D.length ≤ 1400 := by rw [hDe]; simp only [List.length_append, putB_length, msgB_length]; omega
  have hfl : failF false true = 512 := rfl
  rw [hfl]
  have hL0 := HM.out.1
  have hisb := msgB_isB (L := L) (t := t) (f := f) (s := s) (p := p) HIB.out
  have hrd := (msg_read HM.out).1
  have HB4 := Lib.hid (below_then HB7.out HB7.out.size H4.out.2)
  have HC := Lib.hid (check41_some num off text (16 + D.length) 2 512 sq p _ D _ w4 H4.out.1 (by omega) (by omega) (by omega) (by omega) (by omega) HM.out.2.2.2.2.2.2 (by omega) (fun W5 v ok' hv => by
    rw [hDe] at hv
    exact check106_told num (16 + D.length) 512 sq p off text (16 + data.length) v (msgB L t f s p data) ok' W5 hv hisb (by omega) (by decide) (by rw [msgB_length]) (by rw [hrd, hL0]; omega) (by omega) HTX.out.1 htl (by omega)))
  clear hD hDe hDl hfl hL0 hisb hrd HS4 H4 HM
  go_wp2_with fail
  refine HC.out.mono ?_
  rintro e w5 ⟨rfl, H5⟩
  have HB6 := Lib.hid (below_then HB4.out HB4.out.size H5.out)
  clear H5
  go_wp2_with fail
  refine (works22 _).mono ?_
  rintro e w6 ⟨rfl, H6⟩
  go_wp2_with fail
  go_ret
  have hz6 := HB6.out.size
  refine ⟨rfl, below_then ?_ ?_ H6.out⟩
  · refine Below.alloc (Below.alloc HB6.out HB6.out.size _) ?_ _ <;> (simp; try omega)
  · simp; omega
set_option maxRecDepth 100000 in
set_option maxHeartbeats 6400000 in
theorem walk13_tt (sq num L t f s p off : Int) (dv : Value) (data : List Int) (text : ByteArray) (ok : Nat → Prop) (w : World) (hS : Sl ok w dv data) (hib : IsB data) (htz : text.size ≤ 9223372036854775807) :
    Calls Try.prog 13 #[.int .i64 sq, .int .i64 num, .agg #[.int .i64 L, .int .i64 t, .int .i64 f, .int .i64 s, .int .i64 p, dv], .bool true, .bool true, .string text, .int .i64 off] w fun e w' => e = .returned (.bool true) ∧ Below w.heap.size w w' := by
  have hdl0 := hS.len
  obtain ⟨A, c, rfl, _⟩ := hS.form
  obtain ⟨q, hq⟩ : ∃ q, q = w.heap.size := ⟨_, rfl⟩
  obtain ⟨W, hW⟩ : ∃ W, W = w.alloc (.cells #[.int .i64 L, .int .i64 t, .int .i64 f, .int .i64 s, .int .i64 p, .slice A data.length c] 41) := ⟨_, rfl⟩
  have hB : Below w.heap.size w W := by rw [hW]; exact (Below.refl _ _).alloc (Nat.le_refl _) _
  have hsz : W.heap.size = q + 1 := by rw [hW, hq]; simp
  have k0 : W.heap[q]? = some (.cells #[.int .i64 L, .int .i64 t, .int .i64 f, .int .i64 s, .int .i64 p, .slice A data.length c] 41) := by rw [hW, hq]; exact heap_alloc_new _ _
  have HS := Lib.hid (hS.bound.below hB)
  have HIB := Lib.hid hib
  have HW := Lib.hid hW
  have HB := Lib.hid hB
  have HZ := Lib.hid hsz
  have HQ := Lib.hid hq
  have K0 := Lib.hid k0
  have a0 : W.cell? ⟨q, 0, none⟩ = some (.int .i64 L) := blk_cell k0 0
  have a1 : W.cell? ⟨q, 1, none⟩ = some (.int .i64 t) := blk_cell k0 1
  have a2 : W.cell? ⟨q, 2, none⟩ = some (.int .i64 f) := blk_cell k0 2
  have a3 : W.cell? ⟨q, 3, none⟩ = some (.int .i64 s) := blk_cell k0 3
  have a4 : W.cell? ⟨q, 4, none⟩ = some (.int .i64 p) := blk_cell k0 4
  have a5 : W.cell? ⟨q, 5, none⟩ = some (.slice A data.length c) := blk_cell k0 5
  clear hS hib hW hB hsz k0
  go_enter Try.func13, Try.ntmps13
  go_wp2_with fail
  rw [← hq, ← HW.out]
  clear hq
  refine (fits29 L t f s p A data.length c W (by omega)).mono ?_
  rintro e w1 ⟨b, rfl, hb1, hdl⟩
  have HB1 := Lib.hid (below_then HB.out HB.out.size hb1)
  have k1 := blk_below K0.out hb1
  have b0 : w1.cell? ⟨q, 0, none⟩ = some (.int .i64 L) := blk_cell k1 0
  have b1 : w1.cell? ⟨q, 1, none⟩ = some (.int .i64 t) := blk_cell k1 1
  have b2 : w1.cell? ⟨q, 2, none⟩ = some (.int .i64 f) := blk_cell k1 2
  have b3 : w1.cell? ⟨q, 3, none⟩ = some (.int .i64 s) := blk_cell k1 3
  have b4 : w1.cell? ⟨q, 4, none⟩ = some (.int .i64 p) := blk_cell k1 4
  have b5 : w1.cell? ⟨q, 5, none⟩ = some (.slice A data.length c) := blk_cell k1 5
  have HS1 := Lib.hid (HS.out.below hb1)
  clear hb1 k1 a0 a1 a2 a3 a4 a5
  cases b
  · go_wp2_with fail
    go_ret
    exact ⟨rfl, HB1.out⟩
  have hdl1 : data.length ≤ 2147483647 := hdl (by simp)
  clear hdl
  by_cases ht1 : 2147483647 < text.size
  · go_wp2_with fail
    go_ret
    exact ⟨rfl, HB1.out⟩
  go_wp2_with fail
  refine (message30 L t f s p A data.length c w1).mono ?_
  rintro e w2 ⟨rfl, hb2⟩
  obtain ⟨x, hx⟩ : ∃ x, x = w2.heap.size := ⟨_, rfl⟩
  obtain ⟨W2, hW2⟩ : ∃ X, X = w2.alloc (.cells #[.int .i64 L, .int .i64 t, .int .i64 f, .int .i64 s, .int .i64 p, .slice A data.length c] 43) := ⟨_, rfl⟩
  have hb3 : Below w1.heap.size w1 W2 := by rw [hW2]; exact hb2.alloc hb2.size _
  have k3 : W2.heap[x]? = some (.cells #[.int .i64 L, .int .i64 t, .int .i64 f, .int .i64 s, .int .i64 p, .slice A data.length c] 43) := by rw [hW2, hx]; exact heap_alloc_new _ _
  have HB2 := Lib.hid (below_then HB1.out HB1.out.size hb3)
  have HS2 := Lib.hid (HS1.out.below hb3)
  have K3 := Lib.hid k3
  have HW2 := Lib.hid hW2
  have HX := Lib.hid hx
  clear hb2 hb3 k3 hW2 b0 b1 b2 b3 b4 b5 hx
  go_wp2_with fail
  rw [← HW2.out, ← HX.out]
  refine (proper31 L t f s p A data.length c W2 (by omega)).mono ?_
  rintro e w3 ⟨rfl, hb3⟩
  have k3 := blk_below K3.out hb3
  have a0 : w3.cell? ⟨x, 0, none⟩ = some (.int .i64 L) := blk_cell k3 0
  have a1 : w3.cell? ⟨x, 1, none⟩ = some (.int .i64 t) := blk_cell k3 1
  have a2 : w3.cell? ⟨x, 2, none⟩ = some (.int .i64 f) := blk_cell k3 2
  have a3 : w3.cell? ⟨x, 3, none⟩ = some (.int .i64 s) := blk_cell k3 3
  have a4 : w3.cell? ⟨x, 4, none⟩ = some (.int .i64 p) := blk_cell k3 4
  have a5 : w3.cell? ⟨x, 5, none⟩ = some (.slice A data.length c) := blk_cell k3 5
  have HS3 := Lib.hid (HS2.out.below hb3)
  have K5 := Lib.hid k3
  have HB3 := Lib.hid (below_then HB2.out HB2.out.size hb3)
  clear hb3 k3
  have stop : ∀ (w4 : World), Below w3.heap.size w3 w4 → Below w.heap.size w w4 := fun w4 h => below_then HB3.out HB3.out.size h
  have HST := Lib.hid stop
  clear stop
  cases hm : mpB L t f s p data.length
  · go_wp2_with fail
    refine (works22 w3).mono ?_
    rintro e w4 ⟨rfl, H4⟩
    go_wp2_with fail
    go_ret
    exact ⟨rfl, HST.out _ H4.out⟩
  have HM := Lib.hid (mpB_iff.1 hm)
  clear hm
  by_cases h0 : 0 < data.length
  · go_wp2_with fail
    refine (works22 w3).mono ?_
    rintro e w4 ⟨rfl, H4⟩
    go_wp2_with fail
    go_ret
    exact ⟨rfl, HST.out _ H4.out⟩
  by_cases h1 : num < 1
  · go_wp2_with fail
    refine (works22 w3).mono ?_
    rintro e w4 ⟨rfl, H4⟩
    go_wp2_with fail
    go_ret
    exact ⟨rfl, HST.out _ H4.out⟩
  by_cases h2 : 4095 < num
  · go_wp2_with fail
    refine (works22 w3).mono ?_
    rintro e w4 ⟨rfl, H4⟩
    go_wp2_with fail
    go_ret
    exact ⟨rfl, HST.out _ H4.out⟩
  by_cases h3 : sq < 0
  · go_wp2_with fail
    refine (works22 w3).mono ?_
    rintro e w4 ⟨rfl, H4⟩
    go_wp2_with fail
    go_ret
    exact ⟨rfl, HST.out _ H4.out⟩
  by_cases h4 : 4294967296 ≤ sq
  · go_wp2_with fail
    refine (works22 w3).mono ?_
    rintro e w4 ⟨rfl, H4⟩
    go_wp2_with fail
    go_ret
    exact ⟨rfl, HST.out _ H4.out⟩
  by_cases h5 : off < 0
  · go_wp2_with fail
    refine (works22 w3).mono ?_
    rintro e w4 ⟨rfl, H4⟩
    go_wp2_with fail
    go_ret
    exact ⟨rfl, HST.out _ H4.out⟩
  by_cases h6 : 2147483648 ≤ off
  · go_wp2_with fail
    refine (works22 w3).mono ?_
    rintro e w4 ⟨rfl, H4⟩
    go_wp2_with fail
    go_ret
    exact ⟨rfl, HST.out _ H4.out⟩
  go_wp2_with fail
  refine (text40 1 1 text w3 (by decide) (by decide) htz).mono ?_
  rintro e w3b ⟨rfl, h3b⟩
  have c0 := (blk_cell (blk_below K5.out h3b.out) 0 : w3b.cell? ⟨x, 0, none⟩ = some (.int .i64 L))
  have c1 : w3b.cell? ⟨x, 1, none⟩ = some (.int .i64 t) := blk_cell (blk_below K5.out h3b.out) 1
  have c2 : w3b.cell? ⟨x, 2, none⟩ = some (.int .i64 f) := blk_cell (blk_below K5.out h3b.out) 2
  have c3 : w3b.cell? ⟨x, 3, none⟩ = some (.int .i64 s) := blk_cell (blk_below K5.out h3b.out) 3
  have c4 : w3b.cell? ⟨x, 4, none⟩ = some (.int .i64 p) := blk_cell (blk_below K5.out h3b.out) 4
  have c5 : w3b.cell? ⟨x, 5, none⟩ = some (.slice A data.length c) := blk_cell (blk_below K5.out h3b.out) 5
  clear a0 a1 a2 a3 a4 a5
  have HB7 := Lib.hid (HST.out _ h3b.out)
  cases hx : txOk text
  · go_wp2_with fail
    refine (works22 w3b).mono ?_
    rintro e w4 ⟨rfl, H4⟩
    go_wp2_with fail
    go_ret
    exact ⟨rfl, below_then HB7.out HB7.out.size H4.out⟩
  have htx := txOk_iff hx
  have htl := htx.2
  have HTX := Lib.hid htx
  have HS4 := Lib.hid (HS3.out.below h3b.out)
  clear hx htx h3b
  go_wp2_with fail
  refine (failure42 sq num L t f s p off _ data true true text _ w3b HS4.out HM.out (by omega) htl (by omega)).mono ?_
  rintro e w4 ⟨u4, rfl, H4⟩
  obtain ⟨A4, c4, rfl, _⟩ := H4.out.1.form
  obtain ⟨D, hD⟩ : ∃ D, D = failD num L t f s p data true true text off := ⟨_, rfl⟩
  rw [← hD] at H4 ⊢
  have hdm := HM.out.2.2.1

  have hd0 : data.length = 0 := by omega
  have hDe : D = putB (-num) 4 ++ (msgB L t f s p data ++ attrsB (toldA text off)) := by rw [hD]; simp [failD, msg_take16 hd0]
  have htl2 := told_len text off htl
  have hDl : D.length ≤ 1400 := by rw [hDe]; simp only [List.length_append, putB_length, msgB_length]; omega
  have hfl : failF true true = 768 := rfl
  rw [hfl]
  have hL0 := HM.out.1
  have hisb := msgB_isB (L := L) (t := t) (f := f) (s := s) (p := p) HIB.out
  have hrd := (msg_read HM.out).1
  have HB4 := Lib.hid (below_then HB7.out HB7.out.size H4.out.2)
  have HC := Lib.hid (check41_some num off text (16 + D.length) 2 768 sq p _ D _ w4 H4.out.1 (by omega) (by omega) (by omega) (by omega) (by omega) HM.out.2.2.2.2.2.2 (by omega) (fun W5 v ok' hv => by
    rw [hDe] at hv
    exact check106_told num (16 + D.length) 768 sq p off text (16 + data.length) v (msgB L t f s p data) ok' W5 hv hisb (by omega) (by decide) (by rw [msgB_length]) (by rw [hrd, hL0]; omega) (by omega) HTX.out.1 htl (by omega)))
  clear hD hDe hDl hfl hL0 hisb hrd HS4 H4 HM
  go_wp2_with fail
  refine HC.out.mono ?_
  rintro e w5 ⟨rfl, H5⟩
  have HB6 := Lib.hid (below_then HB4.out HB4.out.size H5.out)
  clear H5
  go_wp2_with fail
  refine (works22 _).mono ?_
  rintro e w6 ⟨rfl, H6⟩
  go_wp2_with fail
  go_ret
  have hz6 := HB6.out.size
  refine ⟨rfl, below_then ?_ ?_ H6.out⟩
  · refine Below.alloc (Below.alloc HB6.out HB6.out.size _) ?_ _ <;> (simp; try omega)
  · simp; omega
theorem walk13 (sq num L t f s p : Int) (dv : Value) (data : List Int) (capped told : Bool) (text : ByteArray) (off : Int) (ok : Nat → Prop) (w : World) (hS : Sl ok w dv data) (hib : IsB data) (htz : text.size ≤ 9223372036854775807) :
    Calls Try.prog 13 #[.int .i64 sq, .int .i64 num, .agg #[.int .i64 L, .int .i64 t, .int .i64 f, .int .i64 s, .int .i64 p, dv], .bool capped, .bool told, .string text, .int .i64 off] w fun e w' => e = .returned (.bool true) ∧ Below w.heap.size w w' := by
  cases capped <;> cases told
  · exact walk13_ff sq num L t f s p off dv data text ok w hS hib htz
  · exact walk13_ft sq num L t f s p off dv data text ok w hS hib htz
  · exact walk13_tf sq num L t f s p off dv data text ok w hS hib htz
  · exact walk13_tt sq num L t f s p off dv data text ok w hS hib htz
end Go.Proofs.Ytgijhgonpgidiaa
