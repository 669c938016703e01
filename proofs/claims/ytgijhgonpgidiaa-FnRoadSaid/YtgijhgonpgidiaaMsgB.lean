/-
  Contract of MarshalBinary. No statement of the seat is proved here.
-/
import Derived.Test.YtgijhgonpgidiaaMsg
namespace Go.Proofs.Ytgijhgonpgidiaa
open Go.RowKit Go.Proofs.YtgijhgonpgidiaaW.PrintWords

theorem wr_msg (N : Nat) (L t f s p : Int) (data : List Int) (hN : N = 16 + data.length) :
    wr (wr (wr (wr (wr (wr (List.replicate N 0) 0 (putB L 4)) 4 (putB t 2)) 6 (putB f 2)) 8 (putB s 4)) 12 (putB p 4)) 16 data = msgB L t f s p data := by
  have hfin := wr_eq (putB L 4 ++ putB t 2 ++ putB f 2 ++ putB s 4 ++ putB p 4 ++ data) (List.replicate N 0) 0 (by simp only [List.length_append, putB_length, List.length_replicate]; omega)
  rw [wr_append, wr_append, wr_append, wr_append, wr_append] at hfin
  simp only [List.length_append, putB_length, Nat.zero_add, Nat.reduceAdd] at hfin
  have hd0 : (List.replicate N (0 : Int)).drop (16 + data.length) = [] := List.drop_eq_nil_of_le (by rw [List.length_replicate]; omega)
  rw [hd0, List.take_zero, List.nil_append, List.append_nil] at hfin
  exact hfin
theorem msgB_length (L t f s p : Int) (data : List Int) : (msgB L t f s p data).length = 16 + data.length := by simp only [msgB, List.length_append, putB_length]

set_option maxRecDepth 100000 in
set_option maxHeartbeats 6400000 in
theorem marshal63 (L t f s p : Int) (dv : Value) (data : List Int) (ok : Nat → Prop) (w : World) (hS : Sl ok w dv data) (hM : MP L t f s p data.length) :
    Calls Try.prog 63 #[.agg #[.int .u32 L, .int .u16 t, .int .u16 f, .int .u32 s, .int .u32 p, dv]] w fun e w' => ∃ u, e = .returned (.tuple #[u, .nilIface]) ∧ Hid (Sl (fun k => w.heap.size ≤ k) w' u (msgB L t f s p data) ∧ Below w.heap.size w w') := by
  obtain ⟨hL, h4, hn, ⟨ht0, ht1⟩, ⟨hf0, hf1⟩, ⟨hs0, hs1⟩, hp0, hp1⟩ := hM
  obtain ⟨N, hN⟩ : ∃ N : Nat, N = 16 + data.length := ⟨_, rfl⟩
  have hLN : L = (N : Int) := by omega
  have hN1 : N < 2000 := by omega
  have hN0 : 16 ≤ N := by omega
  have hN4 : padn N = N := by unfold padn; omega
  subst hLN
  obtain ⟨A, c, rfl, _⟩ := hS.form
  obtain ⟨W, hW⟩ : ∃ W, W = w.alloc (.cells #[.int .u32 N, .int .u16 t, .int .u16 f, .int .u32 s, .int .u32 p, .slice A data.length c] 113) := ⟨_, rfl⟩
  obtain ⟨q, hq⟩ : ∃ q, q = w.heap.size := ⟨_, rfl⟩
  have hP : W.heap[q]? = some (.cells #[.int .u32 N, .int .u16 t, .int .u16 f, .int .u32 s, .int .u32 p, .slice A data.length c] 113) := by rw [hW, hq]; exact heap_alloc_new _ _
  have hsz : W.heap.size = q + 1 := by rw [hW, hq]; simp
  have hB : Below w.heap.size w W := by rw [hW]; exact (Below.refl _ _).alloc (Nat.le_refl _) _
  have c0 : W.cell? ⟨q, 0, none⟩ = some (.int .u32 N) := blk_cell hP 0
  have hmk := print_make (P := Try.prog) 28 5 .u8 1 Try.underlying28 info5 (by decide) N (by omega)
  have HS := Lib.hid (hS.bound.below hB)
  have HW := Lib.hid hW
  have HP := Lib.hid hP
  have HB := Lib.hid hB
  have HZ := Lib.hid hsz
  have HQ := Lib.hid hq
  have i16 : (16 : Int) ≤ (N : Int) := by omega
  have HN := Lib.hid hN
  clear hS hW hP hB hsz hL hN
  go_enter Try.func63, Try.ntmps63
  go_wp2_with fail
  rw [← HW.out]
  refine (align96 N _ (by omega)).mono ?_
  rintro e w' ⟨rfl, rfl⟩
  rw [hN4]
  rw [← hq]
  clear hq
  go_wp2_with fail
  have hg : q + 1 = W.heap.size := HZ.out.symm
  obtain ⟨g, hgg⟩ : ∃ g, g = q + 1 := ⟨_, rfl⟩
  obtain ⟨W2, hW2⟩ : ∃ X, X = W.alloc (.cells (madeCells #[.int .u8 0] N) 5) := ⟨_, rfl⟩
  rw [← hW2, ← hg, ← hgg]
  have hBu : Buf W2 g (List.replicate N 0) := by rw [hW2, hgg, hg]; exact Buf.made W N
  have hP2 : W2.heap[q]? = some (.cells #[.int .u32 N, .int .u16 t, .int .u16 f, .int .u32 s, .int .u32 p, .slice A data.length c] 113) := by rw [hW2]; exact blk_alloc HP.out _
  have hB2 : Below w.heap.size w W2 := by rw [hW2]; exact HB.out.alloc HB.out.size _
  have hS2 : Sl (fun k => ok k ∧ k < w.heap.size) W2 (.slice A data.length c) data := by rw [hW2]; exact HS.out.below ((Below.refl _ _).alloc (Nat.le_refl _) _)
  have hqg : q ≠ g := by omega
  have c0_0 : W2.cell? ⟨q, 0, none⟩ = some (.int .u32 N) := blk_cell hP2 0
  have HB0 := Lib.hid hBu
  have HP0 := Lib.hid hP2
  have HBW := Lib.hid hB2
  have HS0 := Lib.hid hS2
  have HG0 : Hid (W2.grownBy W2 (some g)) := Lib.hid (grown_refl _ _)
  have HL0 : Hid ((List.replicate N (0 : Int)).length = N) := Lib.hid (List.length_replicate ..)
  have hge : w.heap.size ≤ g := by have := HQ.out; omega
  clear hBu hP2 hB2 hS2 hW2 c0 hg hgg
  have n4 : ¬ N = 4 := by omega
  have n6 : ¬ N = 6 := by omega
  have n8 : ¬ N = 8 := by omega
  have n12 : ¬ N = 12 := by omega
  have m4 : 4 ≤ N := by omega
  have m6 : 6 ≤ N := by omega
  have m8 : 8 ≤ N := by omega
  have m12 : 12 ≤ N := by omega
  have i4 : (4 : Int) ≤ (N : Int) := by omega
  have i6 : (6 : Int) ≤ (N : Int) := by omega
  have i8 : (8 : Int) ≤ (N : Int) := by omega
  have i12 : (12 : Int) ≤ (N : Int) := by omega
  go_region_held3 (fun w' => w'.cell? ⟨q, 0, none⟩ = some (.int .u32 (N : Int))) (first | exact c0_0 | exact c0_1 | go_keep)
    (first | (go_at_call 97; refine (put97 g 0 N N (N : Int) _ _ (by exact HB0.out) (by omega) (by rw [HL0.out]; omega) (by omega)).mono ?_; rintro e w1 ⟨rfl, hb1, hg1⟩; have c0_1 := (World.cell?_of_block (hg1.block q (blk_lt HP0.out) (by simpa using hqg))).trans c0_0))
  have hgr1 := grown_undrew hg1
  have HP1 := Lib.hid ((hgr1.block q (blk_lt HP0.out) (by simpa using hqg)).trans HP0.out)
  have c1_0 : w1.cell? ⟨q, 1, none⟩ = some (.int .u16 t) := blk_cell HP1.out 1
  have HB1 := Lib.hid hb1
  have HG1 := Lib.hid (grown_trans HG0.out hgr1)
  have HL1 := Lib.hid ((wr_length (putB (N : Int) 4) _ 0).trans HL0.out)
  clear hb1 hg1 hgr1 c0_0 c0_1
  go_wp2_with fail
  go_region_held3 (fun w' => w'.cell? ⟨q, 1, none⟩ = some (.int .u16 t)) (first | exact c1_0 | exact c1_1 | go_keep)
    (first | (go_at_call 98; refine (put98 g 4 (N - 4) (N - 4) t _ _ (by exact HB1.out) (by omega) (by rw [HL1.out]; omega) (by omega)).mono ?_; rintro e w2 ⟨rfl, hb2, hg2⟩; have c1_1 := (World.cell?_of_block (hg2.block q (blk_lt HP1.out) (by simpa using hqg))).trans c1_0))
  have hgr2 := grown_undrew hg2
  have HP2 := Lib.hid ((hgr2.block q (blk_lt HP1.out) (by simpa using hqg)).trans HP1.out)
  have c2_0 : w2.cell? ⟨q, 2, none⟩ = some (.int .u16 f) := blk_cell HP2.out 2
  have HB2 := Lib.hid hb2
  have HG2 := Lib.hid (grown_trans HG1.out hgr2)
  have HL2 := Lib.hid ((wr_length (putB t 2) _ 4).trans HL1.out)
  clear hb2 hg2 hgr2 c1_0 c1_1
  go_wp2_with fail
  go_region_held3 (fun w' => w'.cell? ⟨q, 2, none⟩ = some (.int .u16 f)) (first | exact c2_0 | exact c2_1 | go_keep)
    (first | (go_at_call 98; refine (put98 g 6 (N - 6) (N - 6) f _ _ (by exact HB2.out) (by omega) (by rw [HL2.out]; omega) (by omega)).mono ?_; rintro e w3 ⟨rfl, hb3, hg3⟩; have c2_1 := (World.cell?_of_block (hg3.block q (blk_lt HP2.out) (by simpa using hqg))).trans c2_0))
  have hgr3 := grown_undrew hg3
  have HP3 := Lib.hid ((hgr3.block q (blk_lt HP2.out) (by simpa using hqg)).trans HP2.out)
  have c3_0 : w3.cell? ⟨q, 3, none⟩ = some (.int .u32 s) := blk_cell HP3.out 3
  have HB3 := Lib.hid hb3
  have HG3 := Lib.hid (grown_trans HG2.out hgr3)
  have HL3 := Lib.hid ((wr_length (putB f 2) _ 6).trans HL2.out)
  clear hb3 hg3 hgr3 c2_0 c2_1
  go_wp2_with fail
  go_region_held3 (fun w' => w'.cell? ⟨q, 3, none⟩ = some (.int .u32 s)) (first | exact c3_0 | exact c3_1 | go_keep)
    (first | (go_at_call 97; refine (put97 g 8 (N - 8) (N - 8) s _ _ (by exact HB3.out) (by omega) (by rw [HL3.out]; omega) (by omega)).mono ?_; rintro e w4 ⟨rfl, hb4, hg4⟩; have c3_1 := (World.cell?_of_block (hg4.block q (blk_lt HP3.out) (by simpa using hqg))).trans c3_0))
  have hgr4 := grown_undrew hg4
  have HP4 := Lib.hid ((hgr4.block q (blk_lt HP3.out) (by simpa using hqg)).trans HP3.out)
  have c4_0 : w4.cell? ⟨q, 4, none⟩ = some (.int .u32 p) := blk_cell HP4.out 4
  have HB4 := Lib.hid hb4
  have HG4 := Lib.hid (grown_trans HG3.out hgr4)
  have HL4 := Lib.hid ((wr_length (putB s 4) _ 8).trans HL3.out)
  clear hb4 hg4 hgr4 c3_0 c3_1
  go_wp2_with fail
  go_region_held3 (fun w' => w'.cell? ⟨q, 4, none⟩ = some (.int .u32 p)) (first | exact c4_0 | exact c4_1 | go_keep)
    (first | (go_at_call 97; refine (put97 g 12 (N - 12) (N - 12) p _ _ (by exact HB4.out) (by omega) (by rw [HL4.out]; omega) (by omega)).mono ?_; rintro e w5 ⟨rfl, hb5, hg5⟩; have c4_1 := (World.cell?_of_block (hg5.block q (blk_lt HP4.out) (by simpa using hqg))).trans c4_0))
  have hgr5 := grown_undrew hg5
  have HP5 := Lib.hid ((hgr5.block q (blk_lt HP4.out) (by simpa using hqg)).trans HP4.out)
  have c5_0 : w5.cell? ⟨q, 5, none⟩ = some (.slice A data.length c) := blk_cell HP5.out 5
  have HB5 := Lib.hid hb5
  have HG5 := Lib.hid (grown_trans HG4.out hgr5)
  have HL5 := Lib.hid ((wr_length (putB p 4) _ 12).trans HL4.out)
  clear hb5 hg5 hgr5 c4_0 c4_1
  have HS5 := Lib.hid (((HS0.out.mono fun k hk => hk.2).step fun k hk hlt => HG5.out.block k hlt (by intro he; injection he with he; omega)).mono (ok' := fun k => k ≠ g) fun k hk => by omega)
  have CC : Hid (∀ w', w'.heap = w5.heap → Sl (fun k => k ≠ g) w' (.slice A data.length c) data ∧ Buf w' g _) := Lib.hid fun w' hw => ⟨HS5.out.step fun k _ _ => by rw [hw], by unfold Buf; rw [hw]; exact HB5.out⟩
  have HIF : Hid (0 < data.length → (if N = 16 then (some ⟨g, 0, none⟩ : Option Addr) else some ⟨g, 16, none⟩) = some ⟨g, 16, none⟩) := fun h => if_neg (by have := HN.out; omega)
  have HX : Hid (16 + data.length ≤ (wr (wr (wr (wr (wr (List.replicate N (0 : Int)) 0 (putB N 4)) 4 (putB t 2)) 6 (putB f 2)) 8 (putB s 4)) 12 (putB p 4)).length) := by show _ ≤ _; rw [HL5.out]; have := HN.out; omega
  have HF : Hid (data.length ≤ N - 16) := by show _ ≤ _; have := HN.out; omega
  go_wp2_with fail
  go_region_law (refine copy_step (off := 16) (dLen := N - 16) (dCap := N - 16) (CC.out w5.drew rfl).1 (CC.out w5.drew rfl).2 HX.out HF.out HIF.out (by rfl) (.tmp 55) (.tmp 57) (by rfl) (by rfl) (by rfl) (by rfl) ?_; intro w6 hb6 hg6)
  have h1 := hb6.out
  rw [wr_msg N _ _ _ _ _ _ HN.out] at h1
  have hlen : (msgB (N : Int) t f s p data).length = N := (msgB_length _ _ _ _ _ _).trans HN.out.symm
  have h3 := Buf.sl h1 hge (by rw [hlen]; omega)
  rw [hlen] at h3
  have HR : Hid (Sl (fun k => w.heap.size ≤ k) w6 (.slice (some ⟨g, 0, none⟩) N N) (msgB (N : Int) t f s p data) ∧ Below w.heap.size w w6) := Lib.hid ⟨h3, HBW.out.grown (grown_trans HG5.out (grown_undrew hg6.out)) HBW.out.size fun k hk => by injection hk with hk; omega⟩
  clear h1 hlen h3 hb6 hg6 CC HIF HX HF HS5 HP0 HP1 HP2 HP3 HP4 HP5 HB0 HB1 HB2 HB3 HB4 HB5 HG0 HG1 HG2 HG3 HG4 HG5 HL0 HL1 HL2 HL3 HL4 HL5 c5_0 HS0 HS HW HP hmk hN4 HBW
  go_wp2_with fail
  all_goals
    go_ret2
    first
      | exact ⟨_, rfl, HR⟩
      | (have h16 : N = 16 := by assumption
         rw [h16] at HR
         exact ⟨_, rfl, HR⟩)

set_option maxRecDepth 100000 in
set_option maxHeartbeats 3200000 in
theorem format32 (L t f s p : Int) (dv : Value) (data : List Int) (ok : Nat → Prop) (w : World) (hS : Sl ok w dv data) (hM : MP L t f s p data.length) :
    Calls Try.prog 32 #[.agg #[.int .i64 L, .int .i64 t, .int .i64 f, .int .i64 s, .int .i64 p, dv]] w fun e w' => ∃ u, e = .returned (.tuple #[u, .bool true]) ∧ Hid (Sl (fun k => w.heap.size ≤ k) w' u (msgB L t f s p data) ∧ Below w.heap.size w w') := by
  have hmf : ∀ (fn : Fn) (first cap : Array Value) (w : World), (Instr.makeFunc fn first cap).run Try.prog w = .ok (.func fn first cap) w := fun _ _ _ _ => rfl
  obtain ⟨A, c, rfl, _⟩ := hS.form
  obtain ⟨W, hW⟩ : ∃ W, W = ((w.alloc (.cells #[.int .i64 L, .int .i64 t, .int .i64 f, .int .i64 s, .int .i64 p, .slice A data.length c] 41)).alloc (.cells #[.slice none 0 0] 28)).alloc (.cells #[.bool false] 4) := ⟨_, rfl⟩
  obtain ⟨q, hq⟩ : ∃ q, q = w.heap.size := ⟨_, rfl⟩
  have hB : Below w.heap.size w W := by rw [hW]; exact (((Below.refl _ _).alloc (Nat.le_refl _) _).alloc (by simp) _).alloc (by simp; omega) _
  have hsz : W.heap.size = q + 3 := by rw [hW, hq]; simp
  have k0 : W.heap[q]? = some (.cells #[.int .i64 L, .int .i64 t, .int .i64 f, .int .i64 s, .int .i64 p, .slice A data.length c] 41) := by rw [hW, hq]; exact blk_alloc (blk_alloc (heap_alloc_new _ _) _) _
  have k1 : W.heap[q + 1]? = some (.cells #[.slice none 0 0] 28) := by
    have := heap_alloc_new (w.alloc (.cells #[.int .i64 L, .int .i64 t, .int .i64 f, .int .i64 s, .int .i64 p, .slice A data.length c] 41)) (.cells #[.slice none 0 0] 28)
    rw [hW, hq]; exact blk_alloc (by simpa using this) _
  have k2 : W.heap[q + 1 + 1]? = some (.cells #[.bool false] 4) := by
    have := heap_alloc_new ((w.alloc (.cells #[.int .i64 L, .int .i64 t, .int .i64 f, .int .i64 s, .int .i64 p, .slice A data.length c] 41)).alloc (.cells #[.slice none 0 0] 28)) (.cells #[.bool false] 4)
    rw [hW, hq]; simpa using this
  have a0 : W.cell? ⟨q, 0, none⟩ = some (.int .i64 L) := blk_cell k0 0
  have a1 : W.cell? ⟨q, 1, none⟩ = some (.int .i64 t) := blk_cell k0 1
  have a2 : W.cell? ⟨q, 2, none⟩ = some (.int .i64 f) := blk_cell k0 2
  have a3 : W.cell? ⟨q, 3, none⟩ = some (.int .i64 s) := blk_cell k0 3
  have a4 : W.cell? ⟨q, 4, none⟩ = some (.int .i64 p) := blk_cell k0 4
  have a5 : W.cell? ⟨q, 5, none⟩ = some (.slice A data.length c) := blk_cell k0 5
  have HS := Lib.hid (hS.bound.below hB)
  have HW := Lib.hid hW
  have HB := Lib.hid hB
  have HZ := Lib.hid hsz
  have HQ := Lib.hid hq
  have K1 := Lib.hid k1
  have K2 := Lib.hid k2
  have HM := Lib.hid hM
  clear hS hW hB hsz k0 k1 k2 hM
  go_enter_defers Try.func32, Try.ntmps32
  go_wp2_with fail
  rw [← hq, ← HW.out]
  clear hq
  refine (made62 L t f s p _ data _ W HS.out (by have := HM.out.2.2.1; omega) (by have h := HM.out.1; have := HM.out.2.2.1; omega) HM.out.2.2.2.1 HM.out.2.2.2.2.1 HM.out.2.2.2.2.2.1 HM.out.2.2.2.2.2.2).mono ?_
  rintro e w1 ⟨u, rfl, H1⟩
  obtain ⟨A1, c1, rfl, _⟩ := H1.out.1.form
  have z1 := blk_below K1.out H1.out.2
  have z2 := blk_below K2.out H1.out.2
  have d1 : w1.cell? ⟨q + 1, 0, none⟩ = some (.slice none 0 0) := blk_cell z1 0
  have d2 : w1.cell? ⟨q + 1 + 1, 0, none⟩ = some (.bool false) := blk_cell z2 0
  have f1 : w1.frozen? ⟨q + 1, 0, none⟩ = false := blk_frozen z1 0
  have f2 : w1.frozen? ⟨q + 1 + 1, 0, none⟩ = false := blk_frozen z2 0
  have hl1 : q + 1 < w1.heap.size := blk_lt z1
  have hl2 : q + 1 + 1 < w1.heap.size := blk_lt z2
  have Z1 := Lib.hid z1
  have Z2 := Lib.hid z2
  clear z1 z2 a0 a1 a2 a3 a4 a5
  go_wp2_with fail
  obtain ⟨W2, hW2⟩ : ∃ X, X = (w1.setCell ⟨q + 1 + 1, 0, none⟩ (.bool true)).alloc (.cells #[.int .u32 L, .int .u16 t, .int .u16 f, .int .u32 s, .int .u32 p, .slice A1 data.length c1] 113) := ⟨_, rfl⟩
  rw [← hW2]
  have hs2 : Sl (fun k => W.heap.size ≤ k) W2 (.slice A1 data.length c1) data := by
    rw [hW2]
    refine Sl.below (w := w1.setCell ⟨q + 1 + 1, 0, none⟩ (.bool true)) (H1.out.1.step fun k hk _ => Below.heap_setCell _ _ _ _ (by have := HZ.out; show k ≠ q + 1 + 1; omega)) ((Below.refl _ _).alloc (Nat.le_refl _) _)
  have z1 : W2.heap[q + 1]? = some (.cells #[.slice none 0 0] 28) := by rw [hW2]; exact blk_alloc (blk_far Z1.out (by show q + 1 ≠ q + 1 + 1; omega) _) _
  have z2 : W2.heap[q + 1 + 1]? = some (.cells #[.bool true] 4) := by
    have h0 := blk_set Z2.out 0 (.bool true)
    rw [hW2]; exact blk_alloc (by simpa using h0) _
  have hB2 : Below w.heap.size w W2 := by
    have hz := HZ.out
    have hq := HQ.out
    rw [hW2]
    exact ((below_then HB.out HB.out.size H1.out.2).setCell (by show _ ≤ q + 1 + 1; omega) _).alloc (by have := H1.out.2.size; have := HB.out.size; simp; omega) _
  have HS2 := Lib.hid hs2
  have Y1 := Lib.hid z1
  have Y2 := Lib.hid z2
  have HB2 := Lib.hid hB2
  clear hs2 z1 z2 hB2 hW2 d1 d2 f1 f2 hl1 hl2
  refine (marshal63 L t f s p _ data _ W2 HS2.out HM.out).mono ?_
  rintro e w3 ⟨u3, rfl, H3⟩
  have hz1 := blk_below Y1.out H3.out.2
  have hz2 := blk_below Y2.out H3.out.2
  have d1 : w3.cell? ⟨q + 1, 0, none⟩ = some (.slice none 0 0) := blk_cell hz1 0
  have d2 : w3.cell? ⟨q + 1 + 1, 0, none⟩ = some (.bool true) := blk_cell hz2 0
  have f1 : w3.frozen? ⟨q + 1, 0, none⟩ = false := blk_frozen hz1 0
  have f2 : w3.frozen? ⟨q + 1 + 1, 0, none⟩ = false := blk_frozen hz2 0
  obtain ⟨A3, c3, rfl, _⟩ := H3.out.1.form
  have hlow : q + 1 + 1 < W2.heap.size := blk_lt Y2.out
  have HU := Lib.hid (H3.out.1.mono (ok' := fun k => W2.heap.size ≤ k) fun k hk => hk)
  have HB3 := Lib.hid (below_then HB2.out HB2.out.size H3.out.2)
  clear hz1 hz2
  go_wp2_with fail
  refine leaves_cons (f := 61) (args := #[.pointer (some ⟨q + 1, 0, none⟩), .pointer (some ⟨q + 1 + 1, 0, none⟩)]) (by simp) (by simp [go_sem]) ?_
  refine (idle61 _ _ _).mono ?_
  rintro e u' w'' ⟨rfl, rfl, rfl⟩
  simp [Leaves, settle, results, Try.results32, go_sem, d1, d2]
  have hq := HQ.out
  refine Lib.hid ⟨(HU.out.step fun k hk _ => ?_).mono fun k hk => by omega, ((HB3.out.setCell (by show _ ≤ q + 1; omega) _).setCell (by show _ ≤ q + 1; omega) _).setCell (by show _ ≤ q + 1 + 1; omega) _⟩
  rw [Below.heap_setCell _ _ _ _ (by show k ≠ q + 1 + 1; omega), Below.heap_setCell _ _ _ _ (by show k ≠ q + 1; omega), Below.heap_setCell _ _ _ _ (by show k ≠ q + 1; omega)]
end Go.Proofs.Ytgijhgonpgidiaa
