/-
  Contracts of unmarshal and Next: the decoder's step. No statement of the seat is proved here.
-/
import Derived.Test.YtgijhgonpgidiaaDec
import Derived.Test.YtgijhgonpgidiaaGrow
import Derived.Deep.RegionLaw
import Derived.Deep.RegionHeld3
namespace Go.Proofs.Ytgijhgonpgidiaa
open Go.RowKit Go.Proofs.YtgijhgonpgidiaaW.PrintWords

set_option maxRecDepth 100000 in
set_option maxHeartbeats 3200000 in
theorem unm127 (w : World) (g : Nat) (o dv bv e v : Value) (L T i n : Int) (N : Nat) (ok : Nat → Prop) (xs : List Int) (hG : w.heap[g]? = some (decO o L T dv bv i n e)) (hS : Sl ok w v xs) (hok : ∀ k, ok k → k ≠ g) (hb : IsB xs)
    (hN : g2 xs = N) (h4 : 4 ≤ N) (hl : N ≤ xs.length) :
    Calls Try.prog 127 #[.pointer (some ⟨g, 1, none⟩), v] w fun r w' => r = .returned .nilIface ∧ Hid (∃ A c, w'.heap[g]? = some (decO o N (g2 (xs.drop 2)) (.slice A (N - 4) c) bv i n e) ∧ Sl (fun k => w.heap.size ≤ k) w' (.slice A (N - 4) c) ((xs.take N).drop 4) ∧ w.grownBy w' (some g)) := by
  have hN2 : N < 65536 := by have := (g2_range hb).2; omega
  obtain ⟨b, off, c, rfl, hc, hcm, hbok, _, _⟩ := hS.at_ (by omega)
  have hbg : b ≠ g := hok b hbok
  have hS := hS.bound
  have hok : ∀ k, (ok k ∧ k < w.heap.size) → k ≠ g := fun k hk => hok k hk.1
  have HS := Lib.hid hS
  have HG := Lib.hid hG
  have HB := Lib.hid hb
  have HN := Lib.hid hN
  have HOK := Lib.hid hok
  have e1 : w.frozen? ⟨g, 1, none⟩ = false := blk_frozen hG 1
  have d1 : w.cell? ⟨g, 1, none⟩ = some (.int .u16 L) := blk_cell hG 1
  have i4 : (4 : Int) ≤ xs.length := by omega
  have hl0 : ¬ ((xs.length : Int) < 4) := by omega
  have c2n : ¬ c = 2 := by omega
  have c0n : ¬ c = 0 := by omega
  clear hS hG hb hN hok hbok
  go_enter Try.func127, Try.ntmps127
  go_wp2_with fail
  refine (get100 HS.out (by omega) HB.out).mono ?_
  rintro r w1 ⟨rfl, n1, hw1⟩
  rw [HN.out]
  have hg1 : w1.heap[g]? = some (decO o L T dv bv i n e) := by rw [hw1]; exact HG.out
  have hs1 : Sl (fun k => ok k ∧ k < w.heap.size) w1 (.slice (some ⟨b, off, none⟩) xs.length c) xs := by rw [hw1]; exact HS.out.below (pw_below_drewN (Below.refl _ _) _)
  have hgr1 : w.grownBy w1 (some g) := by rw [hw1]; exact grown_drewN (grown_refl _ _) _
  have d1b : w1.cell? ⟨g, 1, none⟩ = some (.int .u16 L) := blk_cell hg1 1
  have e1b : w1.frozen? ⟨g, 1, none⟩ = false := blk_frozen hg1 1
  obtain ⟨x1, hx1⟩ : ∃ X, X = w1.setCell ⟨g, 1, none⟩ (.int .u16 N) := ⟨_, rfl⟩
  have hg2 : x1.heap[g]? = some (decO o N T dv bv i n e) := by rw [hx1]; have := blk_set hg1 1 (.int .u16 N); simpa [decO] using this
  have hs2 : Sl (fun k => ok k ∧ k < w.heap.size) x1 (.slice (some ⟨b, off, none⟩) xs.length c) xs := by rw [hx1]; exact hs1.step fun k hk _ => Below.heap_setCell _ _ _ _ (HOK.out k hk)
  have hgr2 : w.grownBy x1 (some g) := by rw [hx1]; exact grown_trans hgr1 (grown_set _ _ _ _)
  have HX1 := Lib.hid hx1
  have HG2 := Lib.hid hg2
  have HS2 := Lib.hid hs2
  have HGR2 := Lib.hid hgr2
  clear hw1 hg1 hs1 hgr1 d1 e1 hx1 hg2 hs2 hgr2
  go_wp2_with fail
  rw [← HX1.out]
  refine (get100 (HS2.out.drop 2 (by omega)) (by rw [List.length_drop]; omega) (HB.out.drop 2)).mono ?_
  rintro r w2 ⟨rfl, n2, hw2⟩
  obtain ⟨T2, hT2⟩ : ∃ T2, T2 = g2 (xs.drop 2) := ⟨_, rfl⟩
  rw [← hT2]
  have hTr : 0 ≤ T2 ∧ T2 < 65536 := by rw [hT2]; exact g2_range (HB.out.drop 2)
  have hg3 : w2.heap[g]? = some (decO o N T dv bv i n e) := by rw [hw2]; exact HG2.out
  have hs3 : Sl (fun k => ok k ∧ k < w.heap.size) w2 (.slice (some ⟨b, off, none⟩) xs.length c) xs := by rw [hw2]; exact HS2.out.below (pw_below_drewN (Below.refl _ _) _)
  have hgr3 : w.grownBy w2 (some g) := by rw [hw2]; exact grown_drewN HGR2.out _
  have d2b : w2.cell? ⟨g, 2, none⟩ = some (.int .u16 T) := blk_cell hg3 2
  have e2b : w2.frozen? ⟨g, 2, none⟩ = false := blk_frozen hg3 2
  obtain ⟨x2, hx2⟩ : ∃ X, X = w2.setCell ⟨g, 2, none⟩ (.int .u16 T2) := ⟨_, rfl⟩
  have hg4 : x2.heap[g]? = some (decO o N T2 dv bv i n e) := by rw [hx2]; have := blk_set hg3 2 (.int .u16 T2); simpa [decO] using this
  have hs4 : Sl (fun k => ok k ∧ k < w.heap.size) x2 (.slice (some ⟨b, off, none⟩) xs.length c) xs := by rw [hx2]; exact hs3.step fun k hk _ => Below.heap_setCell _ _ _ _ (HOK.out k hk)
  have hgr4 : w.grownBy x2 (some g) := by rw [hx2]; exact grown_trans hgr3 (grown_set _ _ _ _)
  have f1 : w2.cell? ⟨g, 1, none⟩ = some (.int .u16 N) := blk_cell hg3 1
  have f3 : w2.cell? ⟨g, 3, none⟩ = some dv := blk_cell hg3 3
  have f3f : w2.frozen? ⟨g, 3, none⟩ = false := blk_frozen hg3 3
  have HX2 := Lib.hid hx2
  have HG4 := Lib.hid hg4
  have HS4 := Lib.hid hs4
  have HGR4 := Lib.hid hgr4
  have HT2 := Lib.hid hT2
  have hN0 : ((N : Int) == 0) = false := by simp; omega
  have hN4 : ¬ ((N : Int) < 4) := by omega
  have hNx : ¬ ((xs.length : Int) < (N : Int)) := by omega
  have hgl : g < w2.heap.size := blk_lt hg3
  clear hw2 hg3 hs3 hgr3 d1b e1b hx2 hg4 hs4 hgr4 hT2 HX1 HG2 HS2 HGR2 HG HS
  have hmk := print_make (P := Try.prog) 28 5 .u8 1 Try.underlying28 info5 (by decide) (N - 4) (by omega)
  obtain ⟨h, hh⟩ : ∃ h, h = w2.heap.size := ⟨_, rfl⟩
  obtain ⟨x3, hx3⟩ : ∃ X, X = ((w2.setCell ⟨g, 2, none⟩ (.int .u16 T2)).setCell ⟨g, 3, none⟩ (.slice (some ⟨w2.heap.size, 0, none⟩) (N - 4) (N - 4))).alloc (.cells (madeCells #[.int .u8 0] (N - 4)) 5) := ⟨_, rfl⟩
  have hsz : ((w2.setCell ⟨g, 2, none⟩ (.int .u16 T2)).setCell ⟨g, 3, none⟩ (.slice (some ⟨w2.heap.size, 0, none⟩) (N - 4) (N - 4))).heap.size = h := by rw [hh]; simp [World.setCell]
  have hx2s : ((w2.setCell ⟨g, 2, none⟩ (.int .u16 T2)).setCell ⟨g, 3, none⟩ (.slice (some ⟨w2.heap.size, 0, none⟩) (N - 4) (N - 4))) = x2.setCell ⟨g, 3, none⟩ (.slice (some ⟨h, 0, none⟩) (N - 4) (N - 4)) := by rw [HX2.out, hh]
  have hg5' : x3.heap[g]? = some (decO o N T2 (.slice (some ⟨h, 0, none⟩) (N - 4) (N - 4)) bv i n e) := by
    rw [hx3, hx2s]
    have := blk_alloc (blk_set HG4.out 3 (.slice (some ⟨h, 0, none⟩) (N - 4) (N - 4))) (.cells (madeCells #[.int .u8 0] (N - 4)) 5)
    simpa [decO] using this
  have hg5 : x3.drew.heap[g]? = some (decO o N T2 (.slice (some ⟨h, 0, none⟩) (N - 4) (N - 4)) bv i n e) := hg5'
  have hbuf : Buf x3.drew h (List.replicate (N - 4) 0) := by
    have := Buf.made ((w2.setCell ⟨g, 2, none⟩ (.int .u16 T2)).setCell ⟨g, 3, none⟩ (.slice (some ⟨w2.heap.size, 0, none⟩) (N - 4) (N - 4))) (N - 4)
    rw [← hx3, hsz] at this
    exact this
  have hwh : w.heap.size ≤ h := by rw [← hsz, hx2s]; have := HGR4.out.size; simpa [World.setCell] using this
  have hs5 : Sl (fun k => ok k ∧ k < w.heap.size) x3.drew (.slice (some ⟨b, off, none⟩) xs.length c) xs := by
    rw [hx3, hx2s]
    refine (HS4.out.step fun k hk _ => Below.heap_setCell _ ⟨g, 3, none⟩ (.slice (some ⟨h, 0, none⟩) (N - 4) (N - 4)) _ (by show k ≠ g; exact HOK.out k hk)).below ?_
    exact ((Below.refl _ _).alloc (Nat.le_refl _) _).drew
  have hgr5 : w.grownBy x3.drew (some g) := by
    rw [hx3, hx2s]
    have h1 := grown_trans HGR4.out (grown_set x2 g 3 (.slice (some ⟨h, 0, none⟩) (N - 4) (N - 4)))
    have h2 := grown_trans h1 (grown_alloc _ (.cells (madeCells #[.int .u8 0] (N - 4)) 5) (some g))
    exact ⟨h2.os, h2.tape, h2.output, h2.size, h2.block⟩
  have hgh : g ≠ h := by rw [hh]; omega
  have hx3s : x3.heap.size = h + 1 := by rw [hx3]; simp [World.setCell, hh]
  have r1 : x3.cell? ⟨g, 1, none⟩ = some (.int .u16 N) := blk_cell (w := x3) hg5 1
  have r3 : x3.cell? ⟨g, 3, none⟩ = some (.slice (some ⟨h, 0, none⟩) (N - 4) (N - 4)) := blk_cell (w := x3) hg5 3
  have HX3 := Lib.hid hx3
  have HHH := Lib.hid hh
  have HG5 := Lib.hid hg5
  have HBUF := Lib.hid hbuf
  have HS5 := Lib.hid hs5
  have HGR5 := Lib.hid hgr5
  have HYL : Hid (((xs.take N).drop 4).length = N - 4) := Lib.hid (by rw [List.length_drop, List.length_take, Nat.min_eq_left hl])
  clear hx3 hsz hx2s hg5 hg5' hbuf hs5 hgr5 HG4 HS4 HGR4 HX2
  have fin : ∀ w3, Hid (Buf w3 h (wr (List.replicate (N - 4) 0) 0 ((xs.take N).drop 4))) → Hid (x3.drew.grownBy w3 (some h)) →
      Hid (∃ A c, w3.heap[g]? = some (decO o N (g2 (xs.drop 2)) (.slice A (N - 4) c) bv i n e) ∧ Sl (fun k => w.heap.size ≤ k) w3 (.slice A (N - 4) c) ((xs.take N).drop 4) ∧ w.grownBy w3 (some g)) := fun w3 hb3 hg3 => by
    have h1 := hb3.out
    rw [wr_full _ _ (by rw [List.length_replicate, HYL.out])] at h1
    have h2 := h1.sl hwh (by rw [HYL.out]; omega)
    rw [HYL.out] at h2
    refine Lib.hid ⟨_, _, ?_, h2, grown_over HGR5.out hg3.out fun j hj => by injection hj with hj; omega⟩
    rw [← HT2.out]
    exact blk_grown HG5.out hg3.out (by intro he; injection he with he; exact hgh he)
  have FIN := Lib.hid fin
  clear fin
  have hNc : (N : Int) ≤ (c : Int) := by omega
  have h4N : (4 : Int) ≤ (N : Int) := by omega
  have hNc2 : N ≤ c := by omega
  by_cases hc4 : c = 4
  · have HSS := Lib.hid (HS5.out.sub 4 N h4 hl (some ⟨b, off, none⟩) (fun h => by omega))
    subst hc4
    obtain rfl : N = 4 := by omega
    have hmk0 := print_make (P := Try.prog) 28 5 .u8 1 Try.underlying28 info5 (by decide) 0 (by omega)
    have HX0 : Hid (0 + ((xs.take 4).drop 4).length ≤ (List.replicate 0 (0 : Int)).length) := Lib.hid (by rw [HYL.out]; simp)
    have HF0 : Hid (((xs.take 4).drop 4).length ≤ 0) := Lib.hid (by rw [HYL.out]; exact Nat.le_refl _)
    simp only [Nat.sub_self, Int.natCast_zero] at *
    go_wp2_with fail
    rw [← HX3.out, ← hh]
    clear hh
    go_region_law (refine copy_step (dp := some ⟨h, 0, none⟩) (off := 0) (dLen := 0) (dCap := 0) HSS.out HBUF.out HX0.out HF0.out (fun _ => rfl) (by rfl) (.tmp 69) (.tmp 75) (by rfl) (by rfl) (by rfl) (by rfl) ?_; intro w3 hb3 hg3)
    all_goals
      go_wp2_with fail
      go_ret
      exact ⟨rfl, FIN.out _ hb3 hg3⟩
  · have HSS := Lib.hid (HS5.out.sub 4 N h4 hl (some ⟨b, off + 4, none⟩) (fun _ => rfl))
    have HX0 : Hid (0 + ((xs.take N).drop 4).length ≤ (List.replicate (N - 4) (0 : Int)).length) := Lib.hid (by rw [HYL.out, List.length_replicate]; omega)
    have HF0 : Hid (((xs.take N).drop 4).length ≤ N - 4) := Lib.hid (by rw [HYL.out]; exact Nat.le_refl _)
    go_wp2_with fail
    rw [← HX3.out, ← hh]
    clear hh
    go_region_law (refine copy_step (dp := some ⟨h, 0, none⟩) (off := 0) (dLen := N - 4) (dCap := N - 4) HSS.out HBUF.out HX0.out HF0.out (fun _ => rfl) (by rfl) (.tmp 69) (.tmp 75) (by rfl) (by rfl) (by rfl) (by rfl) ?_; intro w3 hb3 hg3)
    all_goals
      go_wp2_with fail
      go_ret
      exact ⟨rfl, FIN.out _ hb3 hg3⟩
end Go.Proofs.Ytgijhgonpgidiaa
