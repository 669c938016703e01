/-
  Contracts of ZZParseMessages and ParseMessages. No statement of the seat is proved here.
-/
import Derived.Test.YtgijhgonpgidiaaMany
import Derived.Deep.RegionLaw
namespace Go.Proofs.Ytgijhgonpgidiaa
open Go.RowKit Go.Proofs.YtgijhgonpgidiaaW.PrintWords

theorem below_grows {B : Nat} {a b : World} {row : Option Nat} (h : Below B a b) (hB : B = a.heap.size) : a.grownBy b row := ⟨h.os, h.tape, h.output, h.size, fun k hk _ => h.block k (by omega)⟩
theorem grown_over {w a b : World} {row row1 : Option Nat} (h : w.grownBy a row) (k : a.grownBy b row1) (hr : ∀ j, row1 = some j → w.heap.size ≤ j) : w.grownBy b row :=
  ⟨k.os.trans h.os, k.tape.trans h.tape, k.output.trans h.output, Nat.le_trans h.size k.size, fun i hi hne => by
    rw [k.block i (Nat.lt_of_lt_of_le hi h.size) (fun he => by have := hr i he.symm; omega), h.block i hi hne]⟩

set_option maxRecDepth 100000 in
set_option maxHeartbeats 800000 in
theorem zz70 (dv : Value) (l : List MsgV) (ok : Nat → Prop) (w : World) (hS : Sl ok w dv (msgsB l)) (hM : ∀ x ∈ l, x.ok) (hb : ∀ x ∈ l, IsB x.data) (hl : l.length ≤ 2147483647) :
    Calls Try.prog 70 #[dv] w fun e w' => ∃ u, e = .returned (.tuple #[u, .nilIface]) ∧ Hid (elK.Ow 113 (fun k => w.heap.size ≤ k ∨ ok k) w' w.heap.size u l ∧ Below w.heap.size w w') := by
  have HC := Lib.hid (parse102 dv l ok w hS hM hb hl)
  obtain ⟨A, c, rfl, _⟩ := hS.form
  clear hS hM hb
  go_enter Try.func70, Try.ntmps70
  go_wp2_with fail
  refine HC.out.mono ?_
  rintro e w1 ⟨u, rfl, H1⟩
  go_wp2_with fail
  go_ret2
  exact ⟨_, rfl, H1⟩

set_option maxRecDepth 100000 in
set_option maxHeartbeats 6400000 in
theorem parse38 (dv : Value) (l : List MsgV) (ok : Nat → Prop) (w : World) (hS : Sl ok w dv (msgsB l)) (hM : ∀ x ∈ l, x.ok) (hb : ∀ x ∈ l, IsB x.data) (hl : l.length ≤ 2147483647) :
    Calls Try.prog 38 #[dv] w fun e w' => ∃ u, e = .returned (.tuple #[u, .bool true]) ∧ Hid (elM.Rd (fun k => w.heap.size ≤ k) w' u l ∧ Below w.heap.size w w') := by
  have hmf : ∀ (fn : Fn) (first cap : Array Value) (w : World), (Instr.makeFunc fn first cap).run Try.prog w = .ok (.func fn first cap) w := fun _ _ _ _ => rfl
  obtain ⟨A, c, rfl, _⟩ := hS.form
  have hlen : (msgsB l).length ≤ 140737488355328 := by have := msgsB_le hM; omega
  obtain ⟨q, hq⟩ : ∃ q, q = w.heap.size := ⟨_, rfl⟩
  obtain ⟨W, hW⟩ : ∃ W, W = (w.alloc (.cells #[.slice none 0 0] 52)).alloc (.cells #[.bool false] 4) := ⟨_, rfl⟩
  have hB : Below w.heap.size w W := by rw [hW]; exact ((Below.refl _ _).alloc (Nat.le_refl _) _).alloc (by simp) _
  have hsz : W.heap.size = q + 2 := by rw [hW, hq]; simp
  have k0 : W.heap[q]? = some (.cells #[.slice none 0 0] 52) := by rw [hW, hq]; exact blk_alloc (heap_alloc_new _ _) _
  have k1 : W.heap[q + 1]? = some (.cells #[.bool false] 4) := by
    have := heap_alloc_new (w.alloc (.cells #[.slice none 0 0] 52)) (.cells #[.bool false] 4)
    rw [hW, hq]; simpa using this
  have HS := Lib.hid (hS.bound.below hB)
  have HIB := Lib.hid hb
  have HM := Lib.hid hM
  have HW := Lib.hid hW
  have HB := Lib.hid hB
  have HZ := Lib.hid hsz
  have HQ := Lib.hid hq
  have K0 := Lib.hid k0
  have K1 := Lib.hid k1
  clear hS hb hM hW hB hsz k0 k1
  go_enter_defers Try.func38, Try.ntmps38
  go_wp2_with (at_builtin; rw [← hq, ← HW.out]; clear hq; go_must (refine dup_list (W := W) HS.out hlen rfl (.const (.slice none 0 0)) (.tmp 10) rfl rfl rfl ?_); intro A1 c1 w1 H1)
  refine (zz70 _ l _ w1 H1.out.1 HM.out HIB.out hl).mono ?_
  rintro e W2 ⟨u2, rfl, H2⟩
  obtain ⟨A2, c2, rfl, _⟩ := H2.out.1.slice_
  have hb12 : Below W.heap.size W W2 := below_then H1.out.2 H1.out.2.size H2.out.2
  have k0 := blk_below K0.out hb12
  have k1 := blk_below K1.out hb12
  have hlo1 := H1.out.2.size
  have hlo2 := H2.out.2.size
  have hq1 := HZ.out
  have HRK : Hid (elK.Rd (fun k => q + 2 ≤ k ∧ k < W2.heap.size) W2 (.slice A2 l.length c2) l) := Lib.hid (H2.out.1.rd.bound.mono fun k hk => ⟨by rcases hk.1 with h | h <;> omega, hk.2⟩)
  have HB2 := Lib.hid (below_then HB.out HB.out.size hb12)
  have hsz2 : q + 2 ≤ W2.heap.size := by omega
  have hlen2 : l.length ≤ c2 := by have := HRK.out.form; obtain ⟨A', c', h, h2, _⟩ := this; simp only [Value.slice.injEq, true_and] at h; omega
  have K0' := Lib.hid k0
  have K1' := Lib.hid k1
  clear hb12 k0 k1 hlo1 hlo2 hq1
  go_wp2_with fail
  go_loopw [19] (fun i wr => ∃ k : Nat, k ≤ l.length ∧ i = .int .i64 k ∧ Hid (W2.grownBy wr (some q) ∧ ∃ b, wr.heap[q]? = some (.cells #[b] 52) ∧ elM.Ow 41 (fun k => W2.heap.size ≤ k) wr W2.heap.size b (l.take k))) (fun i _ => l.length - (intOf i).toNat)
  case atStart => exact ⟨0, Nat.zero_le _, rfl, Lib.hid ⟨grown_refl _ _, _, K0'.out, El.Ow.nil elM 41 _ W2 _⟩⟩
  case round =>
    obtain ⟨k, hk, rfl, HL⟩ := hrel
    obtain ⟨hgr, b, hqb, hO⟩ := HL.out
    obtain ⟨A3, c3, hbv, _⟩ := hO.slice_
    rw [List.length_take, Nat.min_eq_left hk] at hbv
    subst hbv
    by_cases hlt : k < l.length
    · obtain ⟨x, hx⟩ : ∃ x, l[k]? = some x := ⟨_, List.getElem?_eq_getElem hlt⟩
      have hRd : elK.Rd (fun k => q + 2 ≤ k ∧ k < W2.heap.size) wr (.slice A2 l.length c2) l := HRK.out.step fun k hk hlt => hgr.block k hlt (by intro he; injection he with he; omega)
      obtain ⟨b, off, eA, ec, rfl, hbl, hbok, e0, e1, e2, e3, e4, e5, hd⟩ := rowK hRd hx
      have HSN := Lib.hid (take_snoc' hx)
      obtain ⟨o1, o2, o3, o4, o5, o6, o7⟩ := HM.out x (List.mem_of_getElem? hx)
      obtain ⟨L1, t1, f1, s1, p1, data1⟩ := x
      simp only at *
      obtain ⟨z, hz⟩ : ∃ z, z = wr.heap.size := ⟨_, rfl⟩
      obtain ⟨W1, hW1⟩ : ∃ W, W = wr.alloc (.cells #[.int .u32 L1, .int .u16 t1, .int .u16 f1, .int .u32 s1, .int .u32 p1, .slice eA data1.length ec] 113) := ⟨_, rfl⟩
      have hB1 : Below wr.heap.size wr W1.drew := by rw [hW1]; exact ((Below.refl _ _).alloc (Nat.le_refl _) _).drew
      have kz : W1.heap[z]? = some (.cells #[.int .u32 L1, .int .u16 t1, .int .u16 f1, .int .u32 s1, .int .u32 p1, .slice eA data1.length ec] 113) := by rw [hW1, hz]; exact heap_alloc_new _ _
      have kq : W1.drew.heap[q]? = some (.cells #[.slice A3 k c3] 52) := blk_below hqb hB1
      have HT := Lib.hid (told66 L1 t1 f1 s1 p1 _ data1 _ W1.drew (hd.below hB1) (by omega) ⟨by omega, by omega⟩ o4 o5 o6 o7)
      have HO1 := Lib.hid (hO.below hB1)
      have HG1 : Hid (W2.grownBy W1.drew (some q)) := Lib.hid (grown_trans hgr (below_grows hB1 rfl))
      have KQ := Lib.hid kq
      have HW1 := Lib.hid hW1
      have HZZ := Lib.hid hz
      have m0 : W1.cell? ⟨z, 0, none⟩ = some (.int .u32 L1) := blk_cell kz 0
      have m1 : W1.cell? ⟨z, 1, none⟩ = some (.int .u16 t1) := blk_cell kz 1
      have m2 : W1.cell? ⟨z, 2, none⟩ = some (.int .u16 f1) := blk_cell kz 2
      have m3 : W1.cell? ⟨z, 3, none⟩ = some (.int .u32 s1) := blk_cell kz 3
      have m4 : W1.cell? ⟨z, 4, none⟩ = some (.int .u32 p1) := blk_cell kz 4
      have m5 : W1.cell? ⟨z, 5, none⟩ = some (.slice eA data1.length ec) := blk_cell kz 5
      have n0 : W1.cell? ⟨q, 0, none⟩ = some (.slice A3 k c3) := blk_cell (w := W1) kq 0
      have hl2 : ((l.take k).length + 1) * 64 ≤ 140737488355328 := by rw [List.length_take]; omega
      have HTL : Hid ((l.take k).length = k) := Lib.hid (by rw [List.length_take]; omega)
      clear hgr hqb hO hRd hx hd hB1 kz kq hW1 o1 o2 o3 o4 o5 o6 o7
      go_wp2_with fail
      rw [← HW1.out, ← hz]
      clear hz
      refine wp_region_noPanic ?_
      go_region_law (first
        | (go_simp; go_at_call 66; refine HT.out.mono ?_; rintro e w3 ⟨u3, rfl, H3⟩
           obtain ⟨A4, c4, rfl, _⟩ := H3.out.1.form
           have kq3 := blk_below KQ.out H3.out.2
           have y0 : w3.cell? ⟨q, 0, none⟩ = some (.slice A3 k c3) := blk_cell kq3 0
           have hq3 : q < w3.heap.size := blk_lt kq3
           have HO3 := Lib.hid (HO1.out.below H3.out.2)
           have HLO3 : Hid (W2.heap.size ≤ w3.heap.size) := Lib.hid (Nat.le_trans HG1.out.size H3.out.2.size)
           have HP3 : Hid (elM.E (fun k' => W2.heap.size ≤ k' ∧ some k' ≠ (Value.slice A3 k c3).ownBlock) w3 ⟨L1, t1, f1, s1, p1, data1⟩ [.int .i64 L1, .int .i64 t1, .int .i64 f1, .int .i64 s1, .int .i64 p1, .slice A4 data1.length c4]) := Lib.hid ⟨_, rfl, H3.out.1.mono fun k' hk' => ⟨Nat.le_trans HG1.out.size hk', fun he => by have := (HO1.out.lt k' he.symm).2; omega⟩⟩
           have HG3 : Hid (W2.grownBy w3 (some q)) := Lib.hid (grown_trans HG1.out (below_grows H3.out.2 rfl))
           have KQ3 := Lib.hid kq3
           clear kq3)
        | (refine El.Ow.append_step elM (W := w3) W2.heap.size (by rfl) (.tmp 23) (.tmp 26) 52 41 _ 64 (by rfl) Try.underlying52 info41 rfl (by decide) (by decide) (.slice A3 k c3) _ ⟨L1, t1, f1, s1, p1, data1⟩ [.int .i64 L1, .int .i64 t1, .int .i64 f1, .int .i64 s1, .int .i64 p1, .slice A4 data1.length c4] (by rfl) w3.heap.size rfl (by rfl) HP3.out HO3.out HLO3.out (fun k' hk' => Nat.le_trans HLO3.out hk') hl2 ?_; intro v1 w4 hO4 hg4 hat4
           have kq4 := blk_grown KQ3.out hg4 (fun he => by have := (HO3.out.lt q he.symm).1; omega)
           have x0 : w4.cell? ⟨q, 0, none⟩ = some (.slice A3 k c3) := blk_cell kq4 0
           have x1 : w4.frozen? ⟨q, 0, none⟩ = false := blk_frozen kq4 0
           have HO4 := Lib.hid hO4
           have KQ4 := Lib.hid kq4
           have HG4 : Hid (W2.grownBy w4 (some q)) := Lib.hid (grown_over HG3.out hg4 (fun j hj => (HO3.out.lt j hj).1))
           rw [← HSN.out] at HO4
           obtain ⟨A5, c5, hv5, _⟩ := HO4.out.slice_
           rw [List.length_take, Nat.min_eq_left (show k + 1 ≤ l.length by omega)] at hv5
           subst hv5
           clear hO4 hg4 hat4 kq4))
      all_goals refine NoPanic.normal ?_
      all_goals
        go_wp2_with fail
        go_roundw
        case rel =>
          refine ⟨k + 1, by omega, int_eq (by omega), Lib.hid ⟨grown_trans HG4.out (grown_set _ _ _ _), _, by have := blk_set KQ4.out 0 (.slice A5 (k + 1) c5); simpa using this, HO4.out.step fun k' hk' _ => Below.heap_setCell _ _ _ _ (by show k' ≠ q; have : W2.heap.size ≤ k' := hk'; omega)⟩⟩
        case measure => simp [intOf]; omega
    · obtain rfl : k = l.length := by omega
      rw [List.take_length] at hO
      have hq1r : wr.heap[q + 1]? = some (.cells #[.bool false] 4) := (hgr.block (q + 1) (by omega) (by intro he; injection he with he; omega)).trans K1'.out
      have z0 : wr.cell? ⟨q, 0, none⟩ = some (.slice A3 l.length c3) := blk_cell hqb 0
      have z1 : wr.cell? ⟨q + 1, 0, none⟩ = some (.bool false) := blk_cell hq1r 0
      have y0 : wr.frozen? ⟨q, 0, none⟩ = false := blk_frozen hqb 0
      have y1 : wr.frozen? ⟨q + 1, 0, none⟩ = false := blk_frozen hq1r 0
      have HO := Lib.hid hO
      have HGR := Lib.hid hgr
      clear hqb hq1r hO hgr
      go_wp2_with fail
      refine leaves_cons (f := 69) (args := #[.pointer (some ⟨q, 0, none⟩), .pointer (some ⟨q + 1, 0, none⟩)]) (by simp) (by simp [go_sem]) ?_
      refine (idle69 _ _ _).mono ?_
      rintro e u' w'' ⟨rfl, rfl, rfl⟩
      simp [Leaves, settle, results, Try.results38, go_sem, z0, z1]
      have hqq := HQ.out
      have hbw : Below w.heap.size w wr := HB2.out.grown HGR.out HB2.out.size fun k hk => by injection hk with hk; omega
      refine Lib.hid ⟨(HO.out.rd.step fun k hk _ => ?_).mono fun k hk => ?_, (hbw.setCell (by show _ ≤ q; omega) _).setCell (by show _ ≤ q + 1; omega) _⟩
      · have hk' : W2.heap.size ≤ k := hk
        rw [Below.heap_setCell _ _ _ _ (by show k ≠ q + 1; omega), Below.heap_setCell _ _ _ _ (by show k ≠ q; omega)]
      · have hk' : W2.heap.size ≤ k := hk
        omega
end Go.Proofs.Ytgijhgonpgidiaa
