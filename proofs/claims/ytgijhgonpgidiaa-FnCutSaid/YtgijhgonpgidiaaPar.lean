/-
  Contracts of ParseAttributes. No statement of the seat is proved here.
-/
import Derived.Test.YtgijhgonpgidiaaUm
import Derived.Test.YtgijhgonpgidiaaAtr
namespace Go.Proofs.Ytgijhgonpgidiaa
open Go.RowKit Go.Proofs.YtgijhgonpgidiaaW.PrintWords

theorem info60 : (Try.prog.info? 60).map (fun i => (i.zero, i.size, i.bytes)) = some (some (.agg #[.int .i64 0, .slice none 0 0]), 2, 32) := by kernel_rfl
theorem rowB {ok : Nat → Prop} {w : World} {A : Option Addr} {c0 : Nat} {l : List (Int × List Int)} (h : elB.Rd ok w (.slice A l.length c0) l) {k : Nat} {x : Int × List Int} (hx : l[k]? = some x) :
    ∃ b off dA dc, A = some ⟨b, off, none⟩ ∧ b < w.heap.size ∧ ok b ∧
      w.cell? ⟨b, off + k * 3, none⟩ = some (.int .u16 (4 + x.2.length)) ∧ w.cell? ⟨b, off + k * 3 + 1, none⟩ = some (.int .u16 x.1) ∧ w.cell? ⟨b, off + k * 3 + 2, none⟩ = some (.slice dA x.2.length dc) ∧
      Sl ok w (.slice dA x.2.length dc) x.2 := by
  have hk : k < l.length := (List.getElem?_eq_some_iff.1 hx).1
  obtain ⟨b, off, c, hv, hl, hc, hb, hbl, hcell⟩ := h.at_ (by omega)
  obtain ⟨cs, hcs, dv, rfl, hd⟩ := hcell k x hx
  obtain ⟨dA, dc, rfl, _⟩ := hd.form
  simp only [Value.slice.injEq, true_and] at hv
  exact ⟨b, off, dA, dc, hv.1, hbl, hb, hcs 0 _ rfl, hcs 1 _ rfl, hcs 2 _ rfl, hd⟩

set_option maxRecDepth 100000 in
set_option maxHeartbeats 6400000 in
theorem parse39_ok (dv : Value) (xs : List Int) (l : List (Int × List Int)) (ok : Nat → Prop) (w : World) (hS : Sl ok w dv xs) (hA : AOk l) (hl : l.length ≤ 100000) (hlen : xs.length ≤ 140737488355328)
    (hU : ∀ (W : World) (v : Value) (ok' : Nat → Prop), Sl ok' W v xs → Calls Try.prog 72 #[v] W fun r w' => ∃ u, r = .returned (.tuple #[u, .nilIface]) ∧ Hid (elB.Rd (fun k => W.heap.size ≤ k) w' u l ∧ Below W.heap.size W w')) :
    Calls Try.prog 39 #[dv] w fun e w' => ∃ u, e = .returned (.tuple #[u, .bool true]) ∧ Hid (elS.Rd (fun k => w.heap.size ≤ k) w' u l ∧ Below w.heap.size w w') := by
  have hmf : ∀ (fn : Fn) (first cap : Array Value) (w : World), (Instr.makeFunc fn first cap).run Try.prog w = .ok (.func fn first cap) w := fun _ _ _ _ => rfl
  obtain ⟨A, c, rfl, _⟩ := hS.form
  obtain ⟨q, hq⟩ : ∃ q, q = w.heap.size := ⟨_, rfl⟩
  obtain ⟨W, hW⟩ : ∃ W, W = (w.alloc (.cells #[.slice none 0 0] 33)).alloc (.cells #[.bool false] 4) := ⟨_, rfl⟩
  have hB : Below w.heap.size w W := by rw [hW]; exact ((Below.refl _ _).alloc (Nat.le_refl _) _).alloc (by simp) _
  have hsz : W.heap.size = q + 2 := by rw [hW, hq]; simp
  have k0 : W.heap[q]? = some (.cells #[.slice none 0 0] 33) := by rw [hW, hq]; exact blk_alloc (heap_alloc_new _ _) _
  have k1 : W.heap[q + 1]? = some (.cells #[.bool false] 4) := by
    have := heap_alloc_new (w.alloc (.cells #[.slice none 0 0] 33)) (.cells #[.bool false] 4)
    rw [hW, hq]; simpa using this
  have HS := Lib.hid (hS.bound.below hB)
  have HA := Lib.hid hA
  have HU := Lib.hid hU
  have HW := Lib.hid hW
  have HB := Lib.hid hB
  have HZ := Lib.hid hsz
  have HQ := Lib.hid hq
  have K0 := Lib.hid k0
  have K1 := Lib.hid k1
  clear hS hA hU hW hB hsz k0 k1
  go_enter_defers Try.func39, Try.ntmps39
  go_wp2_with (at_builtin; rw [← hq, ← HW.out]; clear hq; go_must (refine dup_list (W := W) HS.out hlen rfl (.const (.slice none 0 0)) (.tmp 10) rfl rfl rfl ?_); intro A1 c1 w1 H1)
  refine (HU.out w1 _ _ H1.out.1).mono ?_
  rintro e W2 ⟨u2, rfl, H2⟩
  obtain ⟨A2, c2, rfl, _⟩ := H2.out.1.form
  have hb12 : Below W.heap.size W W2 := below_then H1.out.2 H1.out.2.size H2.out.2
  have k0 := blk_below K0.out hb12
  have k1 := blk_below K1.out hb12
  have hlo1 := H1.out.2.size
  have hlo2 := H2.out.2.size
  have hq1 := HZ.out
  have HRK : Hid (elB.Rd (fun k => q + 2 ≤ k ∧ k < W2.heap.size) W2 (.slice A2 l.length c2) l) := Lib.hid (H2.out.1.bound.mono fun k hk => ⟨by have := hk.1; omega, hk.2⟩)
  have HB2 := Lib.hid (below_then HB.out HB.out.size hb12)
  have hsz2 : q + 2 ≤ W2.heap.size := by omega
  have hlen2 : l.length ≤ c2 := by have := HRK.out.form; obtain ⟨A', c', h, h2, _⟩ := this; simp only [Value.slice.injEq, true_and] at h; omega
  have K0' := Lib.hid k0
  have K1' := Lib.hid k1
  clear hb12 k0 k1 hlo1 hlo2 hq1
  go_wp2_with fail
  go_loopw [19] (fun i wr => ∃ k : Nat, k ≤ l.length ∧ i = .int .i64 k ∧ Hid (W2.grownBy wr (some q) ∧ ∃ b, wr.heap[q]? = some (.cells #[b] 33) ∧ elS.Ow 60 (fun k => W2.heap.size ≤ k) wr W2.heap.size b (l.take k))) (fun i _ => l.length - (intOf i).toNat)
  case atStart => exact ⟨0, Nat.zero_le _, rfl, Lib.hid ⟨grown_refl _ _, _, K0'.out, El.Ow.nil elS 60 _ W2 _⟩⟩
  case round =>
    obtain ⟨k, hk, rfl, HL⟩ := hrel
    obtain ⟨hgr, b, hqb, hO⟩ := HL.out
    obtain ⟨A3, c3, hbv, _⟩ := hO.slice_
    rw [List.length_take, Nat.min_eq_left hk] at hbv
    subst hbv
    by_cases hlt : k < l.length
    · obtain ⟨x, hx⟩ : ∃ x, l[k]? = some x := ⟨_, List.getElem?_eq_getElem hlt⟩
      have hRd : elB.Rd (fun k => q + 2 ≤ k ∧ k < W2.heap.size) wr (.slice A2 l.length c2) l := HRK.out.step fun k hk hlt => hgr.block k hlt (by intro he; injection he with he; omega)
      obtain ⟨b, off, eA, ec, rfl, hbl, hbok, e0, e1, e2, hd⟩ := rowB hRd hx
      have HSN := Lib.hid (take_snoc' hx)
      obtain ⟨⟨ht0, ht1⟩, hal2⟩ := HA.out x (List.mem_of_getElem? hx)
      obtain ⟨ty, data⟩ := x
      simp only at *
      obtain ⟨z, hz⟩ : ∃ z, z = wr.heap.size := ⟨_, rfl⟩
      obtain ⟨W1, hW1⟩ : ∃ W, W = wr.alloc (.cells #[.int .u16 (4 + data.length), .int .u16 ty, .slice eA data.length ec] 102) := ⟨_, rfl⟩
      have hB1 : Below wr.heap.size wr W1.drew := by rw [hW1]; exact ((Below.refl _ _).alloc (Nat.le_refl _) _).drew
      have kz : W1.heap[z]? = some (.cells #[.int .u16 (4 + data.length), .int .u16 ty, .slice eA data.length ec] 102) := by rw [hW1, hz]; exact heap_alloc_new _ _
      have kq : W1.drew.heap[q]? = some (.cells #[.slice A3 k c3] 33) := blk_below hqb hB1
      have HD1 := Lib.hid (hd.below hB1)
      have HO1 := Lib.hid (hO.below hB1)
      have HG1 : Hid (W2.grownBy W1.drew (some q)) := Lib.hid (grown_trans hgr (below_grows hB1 rfl))
      have KQ := Lib.hid kq
      have HW1 := Lib.hid hW1
      have HZZ := Lib.hid hz
      have KZ : Hid (W1.drew.heap[z]? = some (.cells #[.int .u16 (4 + data.length), .int .u16 ty, .slice eA data.length ec] 102)) := Lib.hid kz
      have m1 : W1.cell? ⟨z, 1, none⟩ = some (.int .u16 ty) := blk_cell kz 1
      have m2 : W1.cell? ⟨z, 2, none⟩ = some (.slice eA data.length ec) := blk_cell kz 2
      have n0 : W1.cell? ⟨q, 0, none⟩ = some (.slice A3 k c3) := blk_cell (w := W1) kq 0
      have hl2 : ((l.take k).length + 1) * 32 ≤ 140737488355328 := by rw [List.length_take]; omega
      have HWR : Hid (∀ dv : Value, ([.int .i64 (IntKind.i64.wrap ty), dv] : List Value) = [.int .i64 ty, dv]) := Lib.hid fun dv => by rw [show IntKind.i64.wrap ty = ty by rw [IntKind.wrap_i64]; omega]
      clear hgr hqb hO hRd hx hd hB1 kz kq hW1
      go_wp2_with fail
      rw [← HW1.out, ← hz]
      clear hz
      refine wp_region_noPanic ?_
      go_region_law (first
        | (refine El.Ow.append_step elS (W := w3) W2.heap.size (by rfl) (.tmp 23) (.tmp 31) 33 60 _ 32 (by rfl) Try.underlying33 info60 rfl (by decide) (by decide) (.slice A3 k c3) _ (ty, data) [.int .i64 (IntKind.i64.wrap ty), .slice A4 data.length c4] (by rfl) w3.heap.size rfl (by rfl) HP3.out HO3.out HLO3.out (fun k' hk' => Nat.le_trans HLO3.out hk') hl2 ?_; intro v1 w4 hO4 hg4 hat4
           have kq4 := blk_grown KQ3.out hg4 (fun he => by have := (HO3.out.lt q he.symm).1; omega)
           have x0 : w4.cell? ⟨q, 0, none⟩ = some (.slice A3 k c3) := blk_cell kq4 0
           have x1 : w4.frozen? ⟨q, 0, none⟩ = false := blk_frozen kq4 0
           have HO4 := Lib.hid hO4
           have KQ4 := Lib.hid kq4
           have HG4 : Hid (W2.grownBy w4 (some q)) := Lib.hid (grown_over HG3.out hg4 (fun j hj => (HO3.out.lt j hj).1))
           rw [← HSN.out] at HO4
           obtain ⟨A5, c5, hv5, _⟩ := HO4.out.slice_
           rw [List.length_take, Nat.min_eq_left (show k + 1 ≤ l.length by omega)] at hv5
           subst hv5
           clear hO4 hg4 hat4 kq4)
        | (refine dup_step HD1.out (by omega) (by rfl) (.const (.slice none 0 0)) (.tmp 28) (by rfl) (by rfl) (by rfl) ?_; intro A4 c4 w3 H3
           have kq3 := blk_below KQ.out H3.out.2
           have kz3 := blk_below KZ.out H3.out.2
           have y0 : w3.cell? ⟨q, 0, none⟩ = some (.slice A3 k c3) := blk_cell kq3 0
           have y1 : w3.cell? ⟨z, 1, none⟩ = some (.int .u16 ty) := blk_cell kz3 1
           have hq3 : q < w3.heap.size := blk_lt kq3
           have hz3 : z < w3.heap.size := blk_lt kz3
           have HO3 := Lib.hid (HO1.out.below H3.out.2)
           have HLO3 : Hid (W2.heap.size ≤ w3.heap.size) := Lib.hid (Nat.le_trans HG1.out.size H3.out.2.size)
           have HP3 : Hid (elS.E (fun k' => W2.heap.size ≤ k' ∧ some k' ≠ (Value.slice A3 k c3).ownBlock) w3 (ty, data) [.int .i64 (IntKind.i64.wrap ty), .slice A4 data.length c4]) := Lib.hid ⟨_, HWR.out _, H3.out.1.mono fun k' hk' => ⟨Nat.le_trans HG1.out.size hk', fun he => by have := (HO1.out.lt k' he.symm).2; omega⟩⟩
           have HG3 : Hid (W2.grownBy w3 (some q)) := Lib.hid (grown_trans HG1.out (below_grows H3.out.2 rfl))
           have KQ3 := Lib.hid kq3
           clear kq3 kz3))
      all_goals refine NoPanic.normal ?_
      all_goals
        go_wp2_with fail
        go_roundw
        case rel =>
          refine ⟨k + 1, by omega, int_eq (by omega), Lib.hid ⟨grown_trans HG4.out (grown_set _ _ _ _), _, by have := blk_set KQ4.out 0 (.slice A5 (k + 1) c5); simpa using this, HO4.out.step fun k' hk' _ => Below.heap_setCell _ _ _ _ (by show k' ≠ q; have : W2.heap.size ≤ k' := hk'; omega)⟩⟩
        case measure => simp [intOf]; omega
    · obtain rfl : k = l.length := by omega
      rw [List.take_length] at hO
      have hq1r : wr.heap[q + 1]? = some (.cells #[.bool false] 4) := (hgr.block (q + 1) (by omega) (by intro he; injection he with he; omega)).trans K1'.out
      have z0 : wr.cell? ⟨q, 0, none⟩ = some (.slice A3 l.length c3) := blk_cell hqb 0
      have z1 : wr.cell? ⟨q + 1, 0, none⟩ = some (.bool false) := blk_cell hq1r 0
      have y0 : wr.frozen? ⟨q, 0, none⟩ = false := blk_frozen hqb 0
      have y1 : wr.frozen? ⟨q + 1, 0, none⟩ = false := blk_frozen hq1r 0
      have HO := Lib.hid hO
      have HGR := Lib.hid hgr
      clear hqb hq1r hO hgr
      go_wp2_with fail
      refine leaves_cons (f := 71) (args := #[.pointer (some ⟨q, 0, none⟩), .pointer (some ⟨q + 1, 0, none⟩)]) (by simp) (by simp [go_sem]) ?_
      refine (idle71 _ _ _).mono ?_
      rintro e u' w'' ⟨rfl, rfl, rfl⟩
      simp [Leaves, settle, results, Try.results39, go_sem, z0, z1]
      have hqq := HQ.out
      have hbw : Below w.heap.size w wr := HB2.out.grown HGR.out HB2.out.size fun k hk => by injection hk with hk; omega
      refine Lib.hid ⟨(HO.out.rd.step fun k hk _ => ?_).mono fun k hk => ?_, (hbw.setCell (by show _ ≤ q; omega) _).setCell (by show _ ≤ q + 1; omega) _⟩
      · have hk' : W2.heap.size ≤ k := hk
        rw [Below.heap_setCell _ _ _ _ (by show k ≠ q + 1; omega), Below.heap_setCell _ _ _ _ (by show k ≠ q; omega)]
      · have hk' : W2.heap.size ≤ k := hk
        omega

set_option maxRecDepth 100000 in
set_option maxHeartbeats 3200000 in
theorem parse39_bad (dv : Value) (xs : List Int) (ok : Nat → Prop) (w : World) (hS : Sl ok w dv xs) (hlen : xs.length ≤ 140737488355328)
    (hU : ∀ (W : World) (v : Value) (ok' : Nat → Prop), Sl ok' W v xs → Calls Try.prog 72 #[v] W fun r w' => (∃ y : Value, r = .returned (.tuple #[.slice none 0 0, .iface 143 y])) ∧ Hid (Below W.heap.size W w')) :
    Calls Try.prog 39 #[dv] w fun e w' => e = .returned (.tuple #[.slice none 0 0, .bool false]) ∧ Hid (Below w.heap.size w w') := by
  have hmf : ∀ (fn : Fn) (first cap : Array Value) (w : World), (Instr.makeFunc fn first cap).run Try.prog w = .ok (.func fn first cap) w := fun _ _ _ _ => rfl
  obtain ⟨A, c, rfl, _⟩ := hS.form
  obtain ⟨q, hq⟩ : ∃ q, q = w.heap.size := ⟨_, rfl⟩
  obtain ⟨W, hW⟩ : ∃ W, W = (w.alloc (.cells #[.slice none 0 0] 33)).alloc (.cells #[.bool false] 4) := ⟨_, rfl⟩
  have hB : Below w.heap.size w W := by rw [hW]; exact ((Below.refl _ _).alloc (Nat.le_refl _) _).alloc (by simp) _
  have k0 : W.heap[q]? = some (.cells #[.slice none 0 0] 33) := by rw [hW, hq]; exact blk_alloc (heap_alloc_new _ _) _
  have k1 : W.heap[q + 1]? = some (.cells #[.bool false] 4) := by
    have := heap_alloc_new (w.alloc (.cells #[.slice none 0 0] 33)) (.cells #[.bool false] 4)
    rw [hW, hq]; simpa using this
  have HS := Lib.hid (hS.bound.below hB)
  have HU := Lib.hid hU
  have HW := Lib.hid hW
  have HB := Lib.hid hB
  have HQ := Lib.hid hq
  have K0 := Lib.hid k0
  have K1 := Lib.hid k1
  clear hS hU hW hB k0 k1
  go_enter_defers Try.func39, Try.ntmps39
  go_wp2_with (at_builtin; rw [← hq, ← HW.out]; clear hq; go_must (refine dup_list (W := W) HS.out hlen rfl (.const (.slice none 0 0)) (.tmp 10) rfl rfl rfl ?_); intro A1 c1 w1 H1)
  refine (HU.out w1 _ _ H1.out.1).mono ?_
  rintro e w2 ⟨⟨y, rfl⟩, H2⟩
  have hb12 : Below W.heap.size W w2 := below_then H1.out.2 H1.out.2.size H2.out
  have z0' := blk_below K0.out hb12
  have z1' := blk_below K1.out hb12
  have z0 : w2.cell? ⟨q, 0, none⟩ = some (.slice none 0 0) := blk_cell z0' 0
  have z1 : w2.cell? ⟨q + 1, 0, none⟩ = some (.bool false) := blk_cell z1' 0
  have y0 : w2.frozen? ⟨q, 0, none⟩ = false := blk_frozen z0' 0
  have y1 : w2.frozen? ⟨q + 1, 0, none⟩ = false := blk_frozen z1' 0
  have HB2 := Lib.hid (below_then HB.out HB.out.size hb12)
  clear z0' z1' hb12
  go_wp2_with fail
  refine leaves_cons (f := 71) (args := #[.pointer (some ⟨q, 0, none⟩), .pointer (some ⟨q + 1, 0, none⟩)]) (by simp) (by simp [go_sem]) ?_
  refine (idle71 _ _ _).mono ?_
  rintro e u' w'' ⟨rfl, rfl, rfl⟩
  simp [Leaves, settle, results, Try.results39, go_sem, z0, z1]
  have hqq := HQ.out
  exact Lib.hid ((HB2.out.setCell (by show _ ≤ q; omega) _).setCell (by show _ ≤ q + 1; omega) _)

/-- All attributes, whole. -/
theorem um72_all {l : List (Int × List Int)} (hA : AOk l) (hib : ∀ a ∈ l, IsB a.2) (hl : l.length ≤ 100000) (hm : (attrsB l).length ≤ 140737488355328) (W : World) (v : Value) (ok' : Nat → Prop) (hS : Sl ok' W v (attrsB l)) :
    Calls Try.prog 72 #[v] W fun r w' => ∃ u, r = .returned (.tuple #[u, .nilIface]) ∧ Hid (elB.Rd (fun k => W.heap.size ≤ k) w' u l ∧ Below W.heap.size W w') := by
  rcases Nat.eq_zero_or_pos l.length with h0 | h0
  · obtain rfl : l = [] := List.eq_nil_of_length_eq_zero h0
    refine (um72_nil W v ok' hS).mono ?_
    rintro r w' ⟨rfl, H⟩
    exact ⟨_, rfl, Lib.hid ⟨El.Rd.nil _ _ _, H.out⟩⟩
  · have hp : ∀ k a, l[k]? = some a → pos l k + (4 + a.2.length) ≤ (attrsB l).length := fun k a ha => by
      have h1 := pos_succ ha
      have h2 := pos_le l (k + 1)
      have h3 := padn_le a.2.length
      omega
    refine (um72 W v ok' l (attrsB l).length l.length (by rw [List.take_length]; exact hS) hA ⟨Nat.le_refl _, fun k hk => ?_⟩ hib hm h0 hl (Nat.le_refl _) (fun k a _ ha => hp k a ha) (.inl ⟨rfl, Nat.le_refl _⟩)).mono ?_
    · have := hp k _ (List.getElem?_eq_getElem hk); omega
    · rintro r w' ⟨u, e, rfl, H⟩
      rcases H.out.2 with ⟨_, rfl, h⟩ | ⟨h, _⟩
      · exact ⟨u, rfl, Lib.hid ⟨h, H.out.1⟩⟩
      · omega
end Go.Proofs.Ytgijhgonpgidiaa
