/-
  Contracts of Validate (the package's and the thin package's). No statement of the seat is proved here.
-/
import Derived.Test.YtgijhgonpgidiaaMs
namespace Go.Proofs.Ytgijhgonpgidiaa
open Go.RowKit Go.Proofs.YtgijhgonpgidiaaW.PrintWords

def MsgV.ok (x : MsgV) : Prop := MP x.L x.t x.f x.s x.p x.data.length
/-- All have this sequence number and this port. -/
def allEq (s p : Int) (l : List MsgV) : Bool := l.all fun r => (r.s == s) && (r.p == p)
theorem allEq_snoc (s p : Int) (l : List MsgV) (x : MsgV) : allEq s p (l ++ [x]) = (allEq s p l && ((x.s == s) && (x.p == p))) := by simp [allEq]
theorem allEq_bad {s p : Int} {l : List MsgV} {k : Nat} {x : MsgV} (hx : l[k]? = some x) (h : ((x.s == s) && (x.p == p)) = false) : allEq s p l = false := by
  rw [allEq, List.all_eq_false]
  exact ⟨x, List.mem_of_getElem? hx, by rw [h]; simp⟩

set_option maxHeartbeats 400000 in
theorem err101 (a : ByteArray) (y : Value) (w : World) : Calls Try.prog 101 #[.string a, .iface 143 y] w fun e w' => (∃ z : Value, e = .returned (.iface 126 z)) ∧ Below w.heap.size w w' := by
  go_enter Try.func101, Try.ntmps101
  go_wp2_with fail
  go_ret
  exact ⟨⟨_, rfl⟩, (Below.refl _ _).alloc (Nat.le_refl _) _⟩

set_option maxRecDepth 100000 in
set_option maxHeartbeats 3200000 in
theorem validate68 (L t f s p : Int) (dA : Option Addr) (dn dc : Nat) (v : Value) (l : List MsgV) (ok : Nat → Prop) (w : World) (hR : elK.Rd ok w v l) (hs : ¬ s = 0) (hp : ¬ p = 0) (hA : ∀ r ∈ l, ¬ r.p = 0) :
    Calls Try.prog 68 #[.agg #[.int .u32 L, .int .u16 t, .int .u16 f, .int .u32 s, .int .u32 p, .slice dA dn dc], v] w fun e w' => ∃ u : Value, e = .returned u ∧ Hid (((allEq s p l = true ∧ u = .nilIface) ∨ (allEq s p l = false ∧ ∃ z : Value, u = .iface 126 z)) ∧ Below w.heap.size w w') := by
  obtain ⟨A, c, rfl, hlc, hcm⟩ := hR.form
  have hlen : l.length ≤ 9223372036854775807 := by omega
  have hs2 : (s != 0) = true := by simpa using hs
  have hp2 : (p != 0) = true := by simpa using hp
  clear hs hp
  obtain ⟨q, hq⟩ : ∃ q, q = w.heap.size := ⟨_, rfl⟩
  obtain ⟨W, hW⟩ : ∃ W, W = w.alloc (.cells #[.int .u32 L, .int .u16 t, .int .u16 f, .int .u32 s, .int .u32 p, .slice dA dn dc] 113) := ⟨_, rfl⟩
  have hB : Below w.heap.size w W := by rw [hW]; exact (Below.refl _ _).alloc (Nat.le_refl _) _
  have k0 : W.heap[q]? = some (.cells #[.int .u32 L, .int .u16 t, .int .u16 f, .int .u32 s, .int .u32 p, .slice dA dn dc] 113) := by rw [hW, hq]; exact heap_alloc_new _ _
  have HR := Lib.hid (hR.bound.below hB)
  have HA := Lib.hid hA
  have HW := Lib.hid hW
  have HB := Lib.hid hB
  have HQ := Lib.hid hq
  have K0 := Lib.hid k0
  clear hR hA hW hB k0
  go_enter Try.func68, Try.ntmps68
  go_wp2_with fail
  rw [← hq, ← HW.out]
  clear hq
  go_loopw [9] (fun i wr => ∃ k : Nat, k ≤ l.length ∧ i = .int .i64 k ∧ Hid (allEq s p (l.take k) = true ∧ Below W.heap.size W wr)) (fun i _ => l.length - (intOf i).toNat)
  case atStart => exact ⟨0, Nat.zero_le _, rfl, Lib.hid ⟨by simp [allEq], Below.refl _ _⟩⟩
  case round =>
    obtain ⟨k, hk, rfl, HL⟩ := hrel
    by_cases hlt : k < l.length
    · obtain ⟨x, hx⟩ : ∃ x, l[k]? = some x := ⟨_, List.getElem?_eq_getElem hlt⟩
      obtain ⟨b, off, eA, ec, rfl, hbl, hbok, e0, e1, e2, e3, e4, e5, hd⟩ := rowK (HR.out.below HL.out.2) hx
      have hxp := HA.out x (List.mem_of_getElem? hx)
      have hsn := take_snoc' hx
      have HX := Lib.hid hx
      have HSN := Lib.hid hsn
      have kq := blk_below K0.out (HL.out.2.alloc HL.out.2.size (.cells #[.int .u32 x.L, .int .u16 x.t, .int .u16 x.f, .int .u32 x.s, .int .u32 x.p, .slice eA x.data.length ec] 113))
      have a3 : (wr.alloc (.cells #[.int .u32 x.L, .int .u16 x.t, .int .u16 x.f, .int .u32 x.s, .int .u32 x.p, .slice eA x.data.length ec] 113)).cell? ⟨q, 3, none⟩ = some (.int .u32 s) := blk_cell kq 3
      have a4 : (wr.alloc (.cells #[.int .u32 x.L, .int .u16 x.t, .int .u16 x.f, .int .u32 x.s, .int .u32 x.p, .slice eA x.data.length ec] 113)).cell? ⟨q, 4, none⟩ = some (.int .u32 p) := blk_cell kq 4
      have hBf := below_then HB.out HB.out.size (HL.out.2.alloc HL.out.2.size (.cells #[.int .u32 x.L, .int .u16 x.t, .int .u16 x.f, .int .u32 x.s, .int .u32 x.p, .slice eA x.data.length ec] 113))
      have HBF := Lib.hid hBf
      have HB2 := Lib.hid (HL.out.2.alloc HL.out.2.size (.cells #[.int .u32 x.L, .int .u16 x.t, .int .u16 x.f, .int .u32 x.s, .int .u32 x.p, .slice eA x.data.length ec] 113))
      obtain ⟨L1, t1, f1, s1, p1, data1⟩ := x
      simp only at *
      have hxp2 : (p1 != 0) = true := by simpa using hxp
      clear hx hd hsn kq hBf hxp
      by_cases h1 : (s1 == s) = true
      · have h1n : (s1 != s) = false := by simpa using h1
        by_cases h2 : (p1 == p) = true
        · have h2n : (p1 != p) = false := by simpa using h2
          have HE : Hid (allEq s p (l.take (k + 1)) = true) := Lib.hid (by rw [HSN.out, allEq_snoc, HL.out.1, h1, h2]; rfl)
          clear h1 h2
          go_wp2_with fail
          go_roundw
          case rel => exact ⟨k + 1, by omega, int_eq (by omega), Lib.hid ⟨HE.out, HB2.out⟩⟩
          case measure => simp [intOf]; omega
        · have h2n : (p1 != p) = true := by simpa using h2
          have HE : Hid (allEq s p l = false) := Lib.hid (allEq_bad HX.out (by simp at h2; simp [h2]))
          clear h1 h2
          go_wp2_with fail
          refine (err101 _ _ _).mono ?_
          rintro e w2 ⟨⟨z, rfl⟩, hb⟩
          have HB3 := Lib.hid (below_then HBF.out HBF.out.size hb)
          clear hb
          go_wp2_with fail
          go_ret
          exact ⟨_, rfl, Lib.hid ⟨.inr ⟨HE.out, _, rfl⟩, HB3.out⟩⟩
      · have h1n : (s1 != s) = true := by simpa using h1
        have HE : Hid (allEq s p l = false) := Lib.hid (allEq_bad HX.out (by simp at h1; simp [h1]))
        clear h1
        go_wp2_with fail
        refine (err101 _ _ _).mono ?_
        rintro e w2 ⟨⟨z, rfl⟩, hb⟩
        have HB3 := Lib.hid (below_then HBF.out HBF.out.size hb)
        clear hb
        go_wp2_with fail
        go_ret
        exact ⟨_, rfl, Lib.hid ⟨.inr ⟨HE.out, _, rfl⟩, HB3.out⟩⟩
    · obtain rfl : k = l.length := by omega
      rw [List.take_length] at HL
      go_wp2_with fail
      go_ret
      exact ⟨_, rfl, Lib.hid ⟨.inl ⟨HL.out.1, rfl⟩, below_then HB.out HB.out.size HL.out.2⟩⟩

set_option maxRecDepth 100000 in
set_option maxHeartbeats 3200000 in
theorem validate37 (L t f s p : Int) (dv : Value) (data : List Int) (ok1 : Nat → Prop) (v : Value) (l : List MsgV) (ok2 : Nat → Prop) (w : World) (hS : Sl ok1 w dv data) (hR : elM.Rd ok2 w v l) (hM : MP L t f s p data.length) (hl : l.length ≤ 10) (hA : ∀ r ∈ l, r.ok ∧ ¬ r.p = 0) (hs : ¬ s = 0) (hp : ¬ p = 0) :
    Calls Try.prog 37 #[.agg #[.int .i64 L, .int .i64 t, .int .i64 f, .int .i64 s, .int .i64 p, dv], v] w fun e w' => e = .returned (.bool (allEq s p l)) ∧ Hid (Below w.heap.size w w') := by
  have hmf : ∀ (fn : Fn) (first cap : Array Value) (w : World), (Instr.makeFunc fn first cap).run Try.prog w = .ok (.func fn first cap) w := fun _ _ _ _ => rfl
  obtain ⟨A, c, rfl, hlc, hcm⟩ := hR.form
  obtain ⟨dA, dc, rfl, _⟩ := hS.form
  obtain ⟨hML, hM4, hMn, hMt, hMf, hMs, hMp⟩ := hM
  obtain ⟨q, hq⟩ : ∃ q, q = w.heap.size := ⟨_, rfl⟩
  obtain ⟨W, hW⟩ : ∃ W, W = (w.alloc (.cells #[.int .i64 L, .int .i64 t, .int .i64 f, .int .i64 s, .int .i64 p, .slice dA data.length dc] 41)).alloc (.cells #[.bool false] 4) := ⟨_, rfl⟩
  have hB : Below w.heap.size w W := by rw [hW]; exact ((Below.refl _ _).alloc (Nat.le_refl _) _).alloc (by simp) _
  have hsz : W.heap.size = q + 2 := by rw [hW, hq]; simp
  have k0 : W.heap[q]? = some (.cells #[.int .i64 L, .int .i64 t, .int .i64 f, .int .i64 s, .int .i64 p, .slice dA data.length dc] 41) := by rw [hW, hq]; exact blk_alloc (heap_alloc_new _ _) _
  have k1 : W.heap[q + 1]? = some (.cells #[.bool false] 4) := by
    have := heap_alloc_new (w.alloc (.cells #[.int .i64 L, .int .i64 t, .int .i64 f, .int .i64 s, .int .i64 p, .slice dA data.length dc] 41)) (.cells #[.bool false] 4)
    rw [hW, hq]; simpa using this
  have a0 : W.cell? ⟨q, 0, none⟩ = some (.int .i64 L) := blk_cell k0 0
  have a1 : W.cell? ⟨q, 1, none⟩ = some (.int .i64 t) := blk_cell k0 1
  have a2 : W.cell? ⟨q, 2, none⟩ = some (.int .i64 f) := blk_cell k0 2
  have a3 : W.cell? ⟨q, 3, none⟩ = some (.int .i64 s) := blk_cell k0 3
  have a4 : W.cell? ⟨q, 4, none⟩ = some (.int .i64 p) := blk_cell k0 4
  have a5 : W.cell? ⟨q, 5, none⟩ = some (.slice dA data.length dc) := blk_cell k0 5
  have HS := Lib.hid (hS.bound.below hB)
  have HR := Lib.hid (hR.bound.below hB)
  have HA := Lib.hid hA
  have HW := Lib.hid hW
  have HB := Lib.hid hB
  have HZ := Lib.hid hsz
  have HQ := Lib.hid hq
  have K1 := Lib.hid k1
  have HM := Lib.hid (made62 L t f s p _ data _ W HS.out (by omega) ⟨by omega, by omega⟩ hMt hMf hMs hMp)
  clear hS hR hA hW hB hsz k0 k1 hML hM4 hMn hMt hMf hMs hMp
  go_enter_defers Try.func37, Try.ntmps37
  go_wp2_with fail
  rw [← hq, ← HW.out]
  clear hq
  refine HM.out.mono ?_
  rintro e w1 ⟨u1, rfl, H1⟩
  obtain ⟨A1, c1, rfl, _⟩ := H1.out.1.form
  have z1 := blk_below K1.out H1.out.2
  have g1 : w1.cell? ⟨q + 1, 0, none⟩ = some (.bool false) := blk_cell z1 0
  have f1 : w1.frozen? ⟨q + 1, 0, none⟩ = false := blk_frozen z1 0
  have hlt1 : q + 1 < w1.heap.size := blk_lt z1
  obtain ⟨y, hy⟩ : ∃ y, y = w1.heap.size := ⟨_, rfl⟩
  obtain ⟨W2, hW2⟩ : ∃ X, X = (w1.setCell ⟨q + 1, 0, none⟩ (.bool true)).alloc (.cells #[.int .u32 L, .int .u16 t, .int .u16 f, .int .u32 s, .int .u32 p, .slice A1 data.length c1] 113) := ⟨_, rfl⟩
  have hb1 : Below w.heap.size W W2 := by
    rw [hW2]
    have h1 : Below w.heap.size W w1 := H1.out.2.mono (by have := HZ.out; have := HQ.out; omega)
    have h2 := h1.setCell (p := ⟨q + 1, 0, none⟩) (by have := HQ.out; show _ ≤ q + 1; omega) (.bool true)
    exact h2.alloc (by have := h1.size; have := HZ.out; have := HQ.out; simp [World.setCell]; omega) _
  have k1 : W2.heap[q + 1]? = some (.cells #[.bool true] 4) := by rw [hW2]; have := blk_set z1 0 (.bool true); exact blk_alloc (by simpa using this) _
  have k2 : W2.heap[y]? = some (.cells #[.int .u32 L, .int .u16 t, .int .u16 f, .int .u32 s, .int .u32 p, .slice A1 data.length c1] 113) := by
    rw [hW2, hy]
    have := heap_alloc_new (w1.setCell ⟨q + 1, 0, none⟩ (.bool true)) (.cells #[.int .u32 L, .int .u16 t, .int .u16 f, .int .u32 s, .int .u32 p, .slice A1 data.length c1] 113)
    simpa [World.setCell] using this
  have HR2 := Lib.hid (HR.out.step fun k hk _ => hb1.block k hk.2)
  have HB2 := Lib.hid (HB.out.trans hb1)
  have HW2 := Lib.hid hW2
  have HY := Lib.hid hy
  have K1 := Lib.hid k1
  have K2 := Lib.hid k2
  have hyl := blk_lt k2
  have hql := blk_lt k1
  clear z1 hb1 hW2 k1 k2
  go_wp2_with fail
  rw [← HW2.out, ← hy]
  clear hy
  go_loopw [6, 21] (fun b i wr => ∃ k : Nat, k ≤ l.length ∧ i = .int .i64 k ∧ Hid (elK.Ow 113 (fun _ => True) wr W2.heap.size b (l.take k) ∧ Below W2.heap.size W2 wr)) (fun _ i _ => l.length - (intOf i).toNat)
  case atStart => exact ⟨0, Nat.zero_le _, rfl, Lib.hid ⟨El.Ow.nil elK 113 _ W2 _, Below.refl _ _⟩⟩
  case round =>
    obtain ⟨k, hk, rfl, HL⟩ := hrel
    by_cases hlt : k < l.length
    · obtain ⟨x, hx⟩ : ∃ x, l[k]? = some x := ⟨_, List.getElem?_eq_getElem hlt⟩
      obtain ⟨b, off, eA, ec, rfl, hbl, hbok, e0, e1, e2, e3, e4, e5, hd⟩ := rowM (HR2.out.below HL.out.2) hx
      have hxo := HA.out x (List.mem_of_getElem? hx)
      have HSN := Lib.hid (take_snoc' hx)
      obtain ⟨L1, t1, f1, s1, p1, data1⟩ := x
      simp only at *
      obtain ⟨⟨o1, o2, o3, o4, o5, o6, o7⟩, _⟩ := hxo
      simp only at o1 o2 o3 o4 o5 o6 o7
      obtain ⟨W1, hW1⟩ : ∃ W, W = wr.alloc (.cells #[.int .i64 L1, .int .i64 t1, .int .i64 f1, .int .i64 s1, .int .i64 p1, .slice eA data1.length ec] 41) := ⟨_, rfl⟩
      have hB1 : Below wr.heap.size wr W1 := by rw [hW1]; exact (Below.refl _ _).alloc (Nat.le_refl _) _
      have HM1 := Lib.hid (made62 L1 t1 f1 s1 p1 _ data1 _ W1 (hd.below hB1) (by omega) ⟨by omega, by omega⟩ o4 o5 o6 o7)
      have HO1 := Lib.hid (HL.out.1.below hB1)
      have hlow := HL.out.2.size
      have HB3 := Lib.hid (HL.out.2.trans (hB1.mono hlow))
      have hs1 : W1.heap.size = wr.heap.size + 1 := by rw [hW1]; simp
      have HS1 := Lib.hid hs1
      have HW1 := Lib.hid hW1
      clear hB1 hW1 hd hx hs1 o1 o2 o3 o4 o5 o6 o7
      go_wp2_with fail
      rw [← HW1.out]
      refine HM1.out.mono ?_
      rintro e w3 ⟨u3, rfl, H3⟩
      obtain ⟨A3, c3, rfl, _⟩ := H3.out.1.form
      obtain ⟨W4, hW4⟩ : ∃ W, W = w3.alloc (.cells #[.int .u32 L1, .int .u16 t1, .int .u16 f1, .int .u32 s1, .int .u32 p1, .slice A3 data1.length c3] 113) := ⟨_, rfl⟩
      have hB4 : Below w3.heap.size w3 W4 := by rw [hW4]; exact (Below.refl _ _).alloc (Nat.le_refl _) _
      have hs4 : W4.heap.size = w3.heap.size + 1 := by rw [hW4]; simp
      have hO4 : elK.Ow 113 (fun _ => True) W4 W2.heap.size u6 (l.take k) := (HO1.out.below H3.out.2).below hB4
      have hP4 : elK.E (fun k => True ∧ some k ≠ u6.ownBlock) W4 ⟨L1, t1, f1, s1, p1, data1⟩ [.int .u32 L1, .int .u16 t1, .int .u16 f1, .int .u32 s1, .int .u32 p1, .slice A3 data1.length c3] :=
        ⟨_, rfl, (H3.out.1.below hB4).mono fun k hk => ⟨trivial, fun he => by have := (HL.out.1.lt k he.symm).2; have := HS1.out; omega⟩⟩
      have hB5 : Below W2.heap.size W2 W4 := by
        have h1 : Below W2.heap.size W2 w3 := below_then HB3.out HB3.out.size H3.out.2
        exact below_then h1 h1.size hB4
      have hl2 : ((l.take k).length + 1) * 40 ≤ 140737488355328 := by rw [List.length_take]; omega
      have hlo4 : W2.heap.size ≤ W4.heap.size := hB5.size
      subst hW4
      have HS4 := Lib.hid hs4
      have HO4 := Lib.hid hO4
      have HP4 := Lib.hid hP4
      have HB5 := Lib.hid hB5
      have HLO := Lib.hid hlo4
      clear hB4 hs4 hO4 hP4 hB5 hlo4
      go_wp2_with (at_builtin; go_must (refine El.Ow.append elK (W := w3.alloc (.cells #[.int .u32 L1, .int .u16 t1, .int .u16 f1, .int .u32 s1, .int .u32 p1, .slice A3 data1.length c3] 113)) W2.heap.size rfl (.tmp 32) (.tmp 34) 118 113 _ 40 rfl Try.underlying118 info113 rfl (by decide) (by decide) u6 _ ⟨L1, t1, f1, s1, p1, data1⟩ [.int .u32 L1, .int .u16 t1, .int .u16 f1, .int .u32 s1, .int .u32 p1, .slice A3 data1.length c3] rfl (w3.heap.size + 1) HS4.out rfl HP4.out HO4.out HLO.out (fun _ _ => trivial) hl2 ?_); intro v1 w5 hO5 hg5 hat5; have HO5 := Lib.hid hO5; have HB6 := Lib.hid (HB5.out.grown hg5 HLO.out fun k hk => (HO4.out.lt k hk).1); clear hO5 hg5 hat5)
      rw [← HSN.out] at HO5
      obtain ⟨A5, c5, hv5, _⟩ := HO5.out.slice_
      rw [List.length_take, Nat.min_eq_left (by omega)] at hv5
      subst hv5
      go_roundw
      case rel => exact ⟨k + 1, by omega, int_eq (by omega), Lib.hid ⟨HO5.out, HB6.out⟩⟩
      case measure => simp [intOf]; omega
    · obtain rfl : k = l.length := by omega
      rw [List.take_length] at HL
      obtain ⟨A6, c6, rfl, _⟩ := HL.out.1.slice_
      have z1 := blk_below K1.out HL.out.2
      have z2 := blk_below K2.out HL.out.2
      have m0 : wr.cell? ⟨y, 0, none⟩ = some (.int .u32 L) := blk_cell z2 0
      have m1 : wr.cell? ⟨y, 1, none⟩ = some (.int .u16 t) := blk_cell z2 1
      have m2 : wr.cell? ⟨y, 2, none⟩ = some (.int .u16 f) := blk_cell z2 2
      have m3 : wr.cell? ⟨y, 3, none⟩ = some (.int .u32 s) := blk_cell z2 3
      have m4 : wr.cell? ⟨y, 4, none⟩ = some (.int .u32 p) := blk_cell z2 4
      have m5 : wr.cell? ⟨y, 5, none⟩ = some (.slice A1 data.length c1) := blk_cell z2 5
      have HV := Lib.hid (validate68 L t f s p A1 data.length c1 _ l _ wr HL.out.1.rd hs hp (fun r hr => (HA.out r hr).2))
      have Z1 := Lib.hid z1
      clear z1 z2
      go_wp2_with fail
      refine HV.out.mono ?_
      rintro e w7 ⟨u7, rfl, H7⟩
      have z1 := blk_below Z1.out H7.out.2
      have x1 : w7.cell? ⟨q + 1, 0, none⟩ = some (.bool true) := blk_cell z1 0
      have y1 : w7.frozen? ⟨q + 1, 0, none⟩ = false := blk_frozen z1 0
      have hw7 := blk_lt z1
      have HB7 := Lib.hid (below_then HB2.out HB2.out.size (below_then HL.out.2 HL.out.2.size H7.out.2))
      have H7v := H7.out.1
      clear z1 m0 m1 m2 m3 m4 m5
      rcases H7v with ⟨hae, rfl⟩ | ⟨hae, z, rfl⟩
      all_goals
        go_wp2_with fail
        refine leaves_cons (f := 67) (args := #[.pointer (some ⟨q + 1, 0, none⟩)]) (by simp) (by simp [go_sem]) ?_
        refine (idle67 _ _).mono ?_
        rintro e u' w'' ⟨rfl, rfl, rfl⟩
        simp [Leaves, settle, results, Try.results37, go_sem, x1]
        have hqq := HQ.out
        exact ⟨by simp [hae], Lib.hid (HB7.out.setCell (by show _ ≤ q + 1; omega) _)⟩
end Go.Proofs.Ytgijhgonpgidiaa
