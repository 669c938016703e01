/-
  Contracts of Next. No statement of the seat is proved here.
-/
import Derived.Test.YtgijhgonpgidiaaNxt
namespace Go.Proofs.Ytgijhgonpgidiaa
open Go.RowKit Go.Proofs.YtgijhgonpgidiaaW.PrintWords

set_option maxRecDepth 100000 in
set_option maxHeartbeats 3200000 in
theorem next104_ok (w : World) (g : Nat) (o dv bv : Value) (L T n : Int) (i N : Nat) (ok : Nat → Prop) (xs : List Int) (hG : w.heap[g]? = some (decO o L T dv bv i n .nilIface)) (hS : Sl ok w bv xs) (hok : ∀ k, ok k → k ≠ g) (hb : IsB xs)
    (hN : g2 (xs.drop i) = N) (h4 : 4 ≤ N) (hl : i + N ≤ xs.length) (hm : xs.length ≤ 140737488355328) :
    Calls Try.prog 104 #[.pointer (some ⟨g, 0, none⟩)] w fun r w' => r = .returned (.bool true) ∧ Hid (∃ A c, w'.heap[g]? = some (decO o N (g2 ((xs.drop i).drop 2)) (.slice A (N - 4) c) bv ((i + padn N : Nat)) n .nilIface) ∧ Sl (fun k => w.heap.size ≤ k) w' (.slice A (N - 4) c) (((xs.drop i).take N).drop 4) ∧ w.grownBy w' (some g)) := by
  obtain ⟨b, off, c, rfl, hc, hcm, hbok, _, _⟩ := hS.at_ (by omega)
  have hN2 : N < 65536 := by have := (g2_range (hb.drop i)).2; omega
  have c7 : w.cell? ⟨g, 7, none⟩ = some .nilIface := blk_cell hG 7
  have c5 : w.cell? ⟨g, 5, none⟩ = some (.int .i64 i) := blk_cell hG 5
  have c4 : w.cell? ⟨g, 4, none⟩ = some (.slice (some ⟨b, off, none⟩) xs.length c) := blk_cell hG 4
  have HU : Hid (∀ W : World, W.heap = w.heap → W.os = w.os → W.tape = w.tape → W.output = w.output → Calls Try.prog 127 #[.pointer (some ⟨g, 1, none⟩), .slice (some ⟨b, off + i, none⟩) (xs.length - i) (c - i)] W fun r w' => r = .returned .nilIface ∧ Hid (∃ A c', w'.heap[g]? = some (decO o N (g2 ((xs.drop i).drop 2)) (.slice A (N - 4) c') (.slice (some ⟨b, off, none⟩) xs.length c) i n .nilIface) ∧ Sl (fun k => w.heap.size ≤ k) w' (.slice A (N - 4) c') (((xs.drop i).take N).drop 4) ∧ w.grownBy w' (some g))) := Lib.hid fun W e1 e2 e3 e4 => by
    have hS2 := cut_drop_sl hS (i := i) (by omega)
    have := unm127 W g o dv (.slice (some ⟨b, off, none⟩) xs.length c) .nilIface (.slice (some ⟨b, off + i, none⟩) (xs.length - i) (c - i)) L T i n N ok (xs.drop i) (by rw [e1]; exact hG) (hS2.step fun k _ _ => by rw [e1]) hok (hb.drop i) hN h4 (by rw [List.length_drop]; omega)
    refine this.mono ?_
    rintro e w' ⟨rfl, H⟩
    obtain ⟨A, c', h1, h2, h3⟩ := H.out
    exact ⟨rfl, Lib.hid ⟨A, c', h1, h2.mono fun k hk => by rw [e1] at hk; exact hk, ⟨h3.os.trans e2, h3.tape.trans e3, h3.output.trans e4, by rw [← e1]; exact h3.size, fun k hk hne => by rw [h3.block k (by rw [e1]; exact hk) hne, e1]⟩⟩⟩
  have hilt : i < xs.length := by omega
  have hil : ¬ ((xs.length : Int) ≤ (i : Int)) := by omega
  have hic : (i : Int) ≤ (c : Int) := by omega
  have hix : (i : Int) ≤ (xs.length : Int) := by omega
  have hci : ¬ c = i := by omega
  have hpl : padn N < N + 4 := (padn_le N).2.1
  have hN4 : ¬ ((N : Int) < 4) := by omega
  have HNW : Hid (IntKind.i64.wrap (N : Int) = N) := Lib.hid (by rw [IntKind.wrap_i64]; omega)
  have HPW : Hid (IntKind.i64.wrap ((i : Int) + (padn N : Nat)) = ((i + padn N : Nat) : Int)) := Lib.hid (by rw [IntKind.wrap_i64]; omega)
  have hgl : g < w.heap.size := blk_lt hG
  clear hG hS hok hb hN hbok
  go_enter Try.func104, Try.ntmps104
  go_wp2_with fail
  go_quiet (fail)
  go_wp2_with fail
  go_region_law (first
    | (go_simp; go_at_call 127; refine (HU.out _ (by rfl) (by rfl) (by rfl) (by rfl)).mono ?_; rintro e w2 ⟨rfl, H2⟩
       obtain ⟨A2, c2, hk2, hs2, hg2⟩ := H2.out
       have m1 : w2.cell? ⟨g, 1, none⟩ = some (.int .u16 N) := blk_cell hk2 1
       have m5 : w2.cell? ⟨g, 5, none⟩ = some (.int .i64 i) := blk_cell hk2 5
       have f5 : w2.frozen? ⟨g, 5, none⟩ = false := blk_frozen hk2 5
       have HK2 := Lib.hid hk2
       have HS2 := Lib.hid hs2
       have HG2 := Lib.hid hg2
       have hsz2 : w.heap.size ≤ w2.heap.size := hg2.size
       clear hk2 hs2 hg2 H2))
  all_goals
    go_wp2_with fail
    go_region_law (first
      | (go_simp; go_at_call 94; rw [HNW.out]; refine (align94 N _ (by omega)).mono ?_; rintro e w' ⟨rfl, rfl⟩))
    all_goals
      go_wp2_with fail
      go_ret
      rw [HPW.out]
      have h1 : (w2.setCell ⟨g, 5, none⟩ (.int .i64 ((i + padn N : Nat) : Int))).heap[g]? = some (decO o N (g2 ((xs.drop i).drop 2)) (.slice A2 (N - 4) c2) (.slice (some ⟨b, off, none⟩) xs.length c) ((i + padn N : Nat)) n .nilIface) := by
        have := blk_set HK2.out 5 (.int .i64 ((i + padn N : Nat) : Int))
        simpa [decO] using this
      have h2 : Sl (fun k => w.heap.size ≤ k) (w2.setCell ⟨g, 5, none⟩ (.int .i64 ((i + padn N : Nat) : Int))) _ _ := HS2.out.step fun k hk _ => Below.heap_setCell _ _ _ _ (by show k ≠ g; omega)
      have h3 := grown_trans HG2.out (grown_set w2 g 5 (.int .i64 ((i + padn N : Nat) : Int)))
      exact ⟨rfl, Lib.hid ⟨A2, c2, h1, h2.step fun k _ _ => rfl, ⟨h3.os, h3.tape, h3.output, h3.size, h3.block⟩⟩⟩

set_option maxHeartbeats 1600000 in
theorem next104_err (w : World) (g : Nat) (o dv bv y : Value) (ty : TypeId) (L T i n : Int) (hG : w.heap[g]? = some (decO o L T dv bv i n (.iface ty y))) :
    Calls Try.prog 104 #[.pointer (some ⟨g, 0, none⟩)] w fun r w' => r = .returned (.bool false) ∧ w = w' := by
  have c7 : w.cell? ⟨g, 7, none⟩ = some (.iface ty y) := blk_cell hG 7
  clear hG
  go_enter Try.func104, Try.ntmps104
  go_wp2_with fail
  go_ret
  exact ⟨rfl, rfl⟩

set_option maxHeartbeats 1600000 in
theorem next104_end (w : World) (g : Nat) (o dv : Value) (A : Option Addr) (m c : Nat) (L T n : Int) (i : Nat) (hG : w.heap[g]? = some (decO o L T dv (.slice A m c) i n .nilIface)) (hi : m ≤ i) :
    Calls Try.prog 104 #[.pointer (some ⟨g, 0, none⟩)] w fun r w' => r = .returned (.bool false) ∧ Hid (Below w.heap.size w w') := by
  have c7 : w.cell? ⟨g, 7, none⟩ = some .nilIface := blk_cell hG 7
  have c5 : w.cell? ⟨g, 5, none⟩ = some (.int .i64 i) := blk_cell hG 5
  have c4 : w.cell? ⟨g, 4, none⟩ = some (.slice A m c) := blk_cell hG 4
  have hil : (m : Int) ≤ (i : Int) := by omega
  clear hG
  go_enter Try.func104, Try.ntmps104
  go_wp2_with fail
  go_quiet (fail)
  go_wp2_with fail
  go_ret
  exact ⟨rfl, Lib.hid (pw_below_drewN (Below.refl _ _) _)⟩

set_option maxRecDepth 100000 in
set_option maxHeartbeats 3200000 in
theorem unm127_long (w : World) (g : Nat) (o dv bv e v : Value) (L T i n : Int) (N : Nat) (ok : Nat → Prop) (xs : List Int) (hG : w.heap[g]? = some (decO o L T dv bv i n e)) (hS : Sl ok w v xs) (hok : ∀ k, ok k → k ≠ g) (hb : IsB xs)
    (hN : g2 xs = N) (h4 : 4 ≤ xs.length) (hl : xs.length < N) :
    Calls Try.prog 127 #[.pointer (some ⟨g, 1, none⟩), v] w fun r w' => ∃ y : Value, r = .returned (.iface 143 y) ∧ Hid (w'.heap[g]? = some (decO o N (g2 (xs.drop 2)) dv bv i n e) ∧ w.grownBy w' (some g)) := by
  have hN2 : N < 65536 := by have := (g2_range hb).2; omega
  obtain ⟨b, off, c, rfl, hc, hcm, hbok, _, _⟩ := hS.at_ (by omega)
  have hbg : b ≠ g := hok b hbok
  have HS := Lib.hid hS
  have HG := Lib.hid hG
  have HB := Lib.hid hb
  have HN := Lib.hid hN
  have HOK := Lib.hid hok
  have e1 : w.frozen? ⟨g, 1, none⟩ = false := blk_frozen hG 1
  have d1 : w.cell? ⟨g, 1, none⟩ = some (.int .u16 L) := blk_cell hG 1
  have i4 : (4 : Int) ≤ xs.length := by omega
  have hl0 : ¬ ((xs.length : Int) < 4) := by omega
  have c2n : ¬ c = 2 := by omega
  have c0n : ¬ c = 0 := by omega
  clear hS hG hb hN hok hbok
  go_enter Try.func127, Try.ntmps127
  go_wp2_with fail
  refine (get100 HS.out (by omega) HB.out).mono ?_
  rintro r w1 ⟨rfl, n1, hw1⟩
  rw [HN.out]
  have hg1 : w1.heap[g]? = some (decO o L T dv bv i n e) := by rw [hw1]; exact HG.out
  have hs1 : Sl ok w1 (.slice (some ⟨b, off, none⟩) xs.length c) xs := by rw [hw1]; exact HS.out.below (pw_below_drewN (Below.refl _ _) _)
  have hgr1 : w.grownBy w1 (some g) := by rw [hw1]; exact grown_drewN (grown_refl _ _) _
  have d1b : w1.cell? ⟨g, 1, none⟩ = some (.int .u16 L) := blk_cell hg1 1
  have e1b : w1.frozen? ⟨g, 1, none⟩ = false := blk_frozen hg1 1
  obtain ⟨x1, hx1⟩ : ∃ X, X = w1.setCell ⟨g, 1, none⟩ (.int .u16 N) := ⟨_, rfl⟩
  have hg2 : x1.heap[g]? = some (decO o N T dv bv i n e) := by rw [hx1]; have := blk_set hg1 1 (.int .u16 N); simpa [decO] using this
  have hs2 : Sl ok x1 (.slice (some ⟨b, off, none⟩) xs.length c) xs := by rw [hx1]; exact hs1.step fun k hk _ => Below.heap_setCell _ _ _ _ (HOK.out k hk)
  have hgr2 : w.grownBy x1 (some g) := by rw [hx1]; exact grown_trans hgr1 (grown_set _ _ _ _)
  have HX1 := Lib.hid hx1
  have HG2 := Lib.hid hg2
  have HS2 := Lib.hid hs2
  have HGR2 := Lib.hid hgr2
  clear hw1 hg1 hs1 hgr1 d1 e1 hx1 hg2 hs2 hgr2
  go_wp2_with fail
  rw [← HX1.out]
  refine (get100 (HS2.out.drop 2 (by omega)) (by rw [List.length_drop]; omega) (HB.out.drop 2)).mono ?_
  rintro r w2 ⟨rfl, n2, hw2⟩
  obtain ⟨T2, hT2⟩ : ∃ T2, T2 = g2 (xs.drop 2) := ⟨_, rfl⟩
  rw [← hT2]
  have hTr : 0 ≤ T2 ∧ T2 < 65536 := by rw [hT2]; exact g2_range (HB.out.drop 2)
  have hg3 : w2.heap[g]? = some (decO o N T dv bv i n e) := by rw [hw2]; exact HG2.out
  have hgr3 : w.grownBy w2 (some g) := by rw [hw2]; exact grown_drewN HGR2.out _
  have d2b : w2.cell? ⟨g, 2, none⟩ = some (.int .u16 T) := blk_cell hg3 2
  have e2b : w2.frozen? ⟨g, 2, none⟩ = false := blk_frozen hg3 2
  have f1 : w2.cell? ⟨g, 1, none⟩ = some (.int .u16 N) := blk_cell hg3 1
  have HG3 := Lib.hid hg3
  have HGR3 := Lib.hid hgr3
  have HT2 := Lib.hid hT2
  have hNx : (xs.length : Int) < (N : Int) := by omega
  clear hw2 hg3 hgr3 d1b e1b hT2 HX1 HG2 HS2 HGR2 HG HS
  go_wp2_with fail
  go_ret
  refine ⟨_, rfl, Lib.hid ⟨?_, grown_trans HGR3.out (grown_set _ _ _ _)⟩⟩
  rw [← HT2.out]
  have := blk_set HG3.out 2 (.int .u16 T2)
  simpa [decO] using this

set_option maxRecDepth 100000 in
set_option maxHeartbeats 3200000 in
theorem next104_bad (w : World) (g : Nat) (o dv bv : Value) (L T n : Int) (i N : Nat) (ok : Nat → Prop) (xs : List Int) (hG : w.heap[g]? = some (decO o L T dv bv i n .nilIface)) (hS : Sl ok w bv xs) (hok : ∀ k, ok k → k ≠ g) (hb : IsB xs)
    (hN : g2 (xs.drop i) = N) (h4 : i + 4 ≤ xs.length) (hl : xs.length < i + N) (hm : xs.length ≤ 140737488355328) :
    Calls Try.prog 104 #[.pointer (some ⟨g, 0, none⟩)] w fun r w' => r = .returned (.bool false) ∧ Hid (∃ T' y, w'.heap[g]? = some (decO o N T' dv bv i n (.iface 143 y)) ∧ w.grownBy w' (some g)) := by
  obtain ⟨b, off, c, rfl, hc, hcm, hbok, _, _⟩ := hS.at_ (by omega)
  have hN2 : N < 65536 := by have := (g2_range (hb.drop i)).2; omega
  have c7 : w.cell? ⟨g, 7, none⟩ = some .nilIface := blk_cell hG 7
  have c5 : w.cell? ⟨g, 5, none⟩ = some (.int .i64 i) := blk_cell hG 5
  have c4 : w.cell? ⟨g, 4, none⟩ = some (.slice (some ⟨b, off, none⟩) xs.length c) := blk_cell hG 4
  have HU : Hid (∀ W : World, W.heap = w.heap → W.os = w.os → W.tape = w.tape → W.output = w.output → Calls Try.prog 127 #[.pointer (some ⟨g, 1, none⟩), .slice (some ⟨b, off + i, none⟩) (xs.length - i) (c - i)] W fun r w' => ∃ y : Value, r = .returned (.iface 143 y) ∧ Hid (w'.heap[g]? = some (decO o N (g2 ((xs.drop i).drop 2)) dv (.slice (some ⟨b, off, none⟩) xs.length c) i n .nilIface) ∧ w.grownBy w' (some g))) := Lib.hid fun W e1 e2 e3 e4 => by
    have hS2 := cut_drop_sl hS (i := i) (by omega)
    have := unm127_long W g o dv (.slice (some ⟨b, off, none⟩) xs.length c) .nilIface (.slice (some ⟨b, off + i, none⟩) (xs.length - i) (c - i)) L T i n N ok (xs.drop i) (by rw [e1]; exact hG) (hS2.step fun k _ _ => by rw [e1]) hok (hb.drop i) hN (by rw [List.length_drop]; omega) (by rw [List.length_drop]; omega)
    refine this.mono ?_
    rintro e w' ⟨y, rfl, H⟩
    obtain ⟨h1, h3⟩ := H.out
    exact ⟨y, rfl, Lib.hid ⟨h1, ⟨h3.os.trans e2, h3.tape.trans e3, h3.output.trans e4, by rw [← e1]; exact h3.size, fun k hk hne => by rw [h3.block k (by rw [e1]; exact hk) hne, e1]⟩⟩⟩
  have hilt : i < xs.length := by omega
  have hil : ¬ ((xs.length : Int) ≤ (i : Int)) := by omega
  have hic : (i : Int) ≤ (c : Int) := by omega
  have hix : (i : Int) ≤ (xs.length : Int) := by omega
  have hci : ¬ c = i := by omega
  have hgl : g < w.heap.size := blk_lt hG
  clear hG hS hok hb hN hbok
  go_enter Try.func104, Try.ntmps104
  go_wp2_with fail
  go_quiet (fail)
  go_wp2_with fail
  go_region_law (first
    | (go_simp; go_at_call 127; refine (HU.out _ (by rfl) (by rfl) (by rfl) (by rfl)).mono ?_; rintro e w2 ⟨y, rfl, H2⟩
       have hk2 := H2.out.1
       have m7 : w2.cell? ⟨g, 7, none⟩ = some .nilIface := blk_cell hk2 7
       have f7 : w2.frozen? ⟨g, 7, none⟩ = false := blk_frozen hk2 7
       clear hk2))
  all_goals
    go_wp2_with fail
    go_ret
    refine ⟨rfl, Lib.hid ⟨g2 ((xs.drop i).drop 2), y, ?_, grown_trans H2.out.2 (grown_set _ _ _ _)⟩⟩
    have := blk_set H2.out.1 7 (.iface 143 y)
    simpa [decO] using this

/-- Next at the k-th of the attributes. -/
theorem next_at (w : World) (g : Nat) (o dv bv : Value) (L T n : Int) (l : List (Int × List Int)) (m k : Nat) (a : Int × List Int) (ok : Nat → Prop) (hG : w.heap[g]? = some (decO o L T dv bv (pos l k : Nat) n .nilIface)) (hS : Sl ok w bv ((attrsB l).take m)) (hok : ∀ k, ok k → k ≠ g)
    (hA : AOk l) (hib : ∀ a ∈ l, IsB a.2) (hm : m ≤ (attrsB l).length) (ha : l[k]? = some a) (hfit : pos l k + (4 + a.2.length) ≤ m) (hm2 : m ≤ 140737488355328) :
    Calls Try.prog 104 #[.pointer (some ⟨g, 0, none⟩)] w fun r w' => r = .returned (.bool true) ∧ Hid (∃ A c, w'.heap[g]? = some (decO o (4 + a.2.length) a.1 (.slice A a.2.length c) bv (pos l (k + 1) : Nat) n .nilIface) ∧ Sl (fun k => w.heap.size ≤ k) w' (.slice A a.2.length c) a.2 ∧ w.grownBy w' (some g)) := by
  have hal := hA.at_ ha
  obtain ⟨q1, q2, q3, q4, q5⟩ := cut_head ha hal.1 hal.2 hm (by omega)
  have h := next104_ok w g o dv bv L T n (pos l k) (4 + a.2.length) ok _ hG hS hok ((attrsB_isB hib).take m) (by rw [q3]; push_cast; rfl) (by omega) (by rw [q1]; exact hfit) (by rw [q1]; exact hm2)
  refine h.mono ?_
  rintro e w' ⟨rfl, H⟩
  refine ⟨rfl, ?_⟩
  obtain ⟨A, c, h1, h2, h3⟩ := H.out
  rw [q5 hfit, show 4 + a.2.length - 4 = a.2.length by omega] at h2
  rw [List.drop_drop, q4, show 4 + a.2.length - 4 = a.2.length by omega, show pos l k + padn (4 + a.2.length) = pos l (k + 1) by rw [pos_succ ha, padn_add4]] at h1
  refine Lib.hid ⟨A, c, ?_, h2, h3⟩
  have e4 : ((4 + a.2.length : Nat) : Int) = 4 + (a.2.length : Int) := by push_cast; rfl
  rw [e4] at h1
  exact h1
/-- Next behind the last one. -/
theorem next_end (w : World) (g : Nat) (o dv bv : Value) (L T n : Int) (l : List (Int × List Int)) (ok : Nat → Prop) (hG : w.heap[g]? = some (decO o L T dv bv (pos l l.length : Nat) n .nilIface)) (hS : Sl ok w bv (attrsB l)) :
    Calls Try.prog 104 #[.pointer (some ⟨g, 0, none⟩)] w fun r w' => r = .returned (.bool false) ∧ Hid (Below w.heap.size w w') := by
  obtain ⟨A, c, rfl, _⟩ := hS.form
  exact next104_end w g o dv A _ c L T n _ hG (by rw [pos_all]; exact Nat.le_refl _)
/-- Next at an attribute that is cut off. -/
theorem next_cut (w : World) (g : Nat) (o dv bv : Value) (L T n : Int) (l : List (Int × List Int)) (m k : Nat) (a : Int × List Int) (ok : Nat → Prop) (hG : w.heap[g]? = some (decO o L T dv bv (pos l k : Nat) n .nilIface)) (hS : Sl ok w bv ((attrsB l).take m)) (hok : ∀ k, ok k → k ≠ g)
    (hA : AOk l) (hib : ∀ a ∈ l, IsB a.2) (hm : m ≤ (attrsB l).length) (ha : l[k]? = some a) (h4 : pos l k + 4 ≤ m) (hfit : m < pos l k + (4 + a.2.length)) (hm2 : m ≤ 140737488355328) :
    Calls Try.prog 104 #[.pointer (some ⟨g, 0, none⟩)] w fun r w' => r = .returned (.bool false) ∧ Hid (∃ L' T' y, w'.heap[g]? = some (decO o L' T' dv bv (pos l k : Nat) n (.iface 143 y)) ∧ w.grownBy w' (some g)) := by
  have hal := hA.at_ ha
  obtain ⟨q1, q2, q3, q4, q5⟩ := cut_head ha hal.1 hal.2 hm h4
  have h := next104_bad w g o dv bv L T n (pos l k) (4 + a.2.length) ok _ hG hS hok ((attrsB_isB hib).take m) (by rw [q3]; push_cast; rfl) (by rw [q1]; exact h4) (by rw [q1]; exact hfit) (by rw [q1]; exact hm2)
  refine h.mono ?_
  rintro e w' ⟨rfl, H⟩
  obtain ⟨T', y, h1, h2⟩ := H.out
  exact ⟨rfl, Lib.hid ⟨_, T', y, h1, h2⟩⟩
end Go.Proofs.Ytgijhgonpgidiaa
