/-
  Fields as they come in (a tree that is looked at to a depth), and the law's fields. No statement of the seat is proved here.
-/
import Derived.Test.YtgijhgonpgidiaaGrow
import Derived.Test.YtgijhgonpgidiaaFld
import Derived.Test.YtgijhgonpgidiaaEnc
import Derived.Test.YtgijhgonpgidiaaAttrB
namespace Go.Proofs.Ytgijhgonpgidiaa
open Go.RowKit Go.Proofs.YtgijhgonpgidiaaW.PrintWords

/-- Fields as they come in, read to a depth: what lies deeper is not looked at. -/
def elT : Nat → El Fld
  | 0 => {
      sz := 7
      E := fun ok w x cs => ∃ dv kA kn kc, cs = [.int .i64 x.ty, .int .i64 x.kind, .int .i64 x.fl, .int .i64 x.n, .string x.text, dv, .slice kA kn kc] ∧ Sl ok w dv x.data ∧ x.kids = []
      len := by rintro ok w x cs ⟨dv, kA, kn, kc, rfl, _⟩; rfl
      one := by
        rintro ok w x cs ⟨dv, kA, kn, kc, rfl, h, _⟩ u hu
        obtain ⟨A, c, rfl, _⟩ := h
        simp only [List.mem_cons, List.not_mem_nil, or_false] at hu
        rcases hu with rfl | rfl | rfl | rfl | rfl | rfl | rfl <;> rfl
      mono := by rintro ok ok' w x cs hk ⟨dv, kA, kn, kc, h, k, l⟩; exact ⟨dv, kA, kn, kc, h, k.mono hk, l⟩
      bound := by rintro ok w x cs ⟨dv, kA, kn, kc, h, k, l⟩; exact ⟨dv, kA, kn, kc, h, k.bound, l⟩
      step := by rintro ok w w1 x cs hm ⟨dv, kA, kn, kc, h, k, l⟩; exact ⟨dv, kA, kn, kc, h, k.step hm, l⟩ }
  | d + 1 => {
      sz := 7
      E := fun ok w x cs => ∃ dv kv, cs = [.int .i64 x.ty, .int .i64 x.kind, .int .i64 x.fl, .int .i64 x.n, .string x.text, dv, kv] ∧ Sl ok w dv x.data ∧ (elT d).Rd ok w kv x.kids ∧ x.kids.length * 96 ≤ 140737488355328
      len := by rintro ok w x cs ⟨dv, kv, rfl, _⟩; rfl
      one := by
        rintro ok w x cs ⟨dv, kv, rfl, h, k, _⟩ u hu
        obtain ⟨A, c, rfl, _⟩ := h
        obtain ⟨A', c', rfl, _⟩ := k
        simp only [List.mem_cons, List.not_mem_nil, or_false] at hu
        rcases hu with rfl | rfl | rfl | rfl | rfl | rfl | rfl <;> rfl
      mono := by rintro ok ok' w x cs hk ⟨dv, kv, h, k, l, m⟩; exact ⟨dv, kv, h, k.mono hk, l.mono hk, m⟩
      bound := by rintro ok w x cs ⟨dv, kv, h, k, l, m⟩; exact ⟨dv, kv, h, k.bound, l.bound, m⟩
      step := by rintro ok w w1 x cs hm ⟨dv, kv, h, k, l, m⟩; exact ⟨dv, kv, h, k.step hm, l.step hm, m⟩ }
theorem elT_sz (d : Nat) : (elT d).sz = 7 := by cases d <;> rfl
theorem info65 : (Try.prog.info? 65).map (fun i => (i.zero, i.size, i.bytes)) = some (some (.agg #[.int .i64 0, .int .i64 0, .int .i64 0, .int .i64 0, .string ⟨#[]⟩, .slice none 0 0, .slice none 0 0]), 7, 96) := by kernel_rfl

/-- Its k-th element's cells. -/
theorem rowT {ok : Nat → Prop} {w : World} {d : Nat} {A : Option Addr} {c0 : Nat} {fs : List Fld} (h : (elT d).Rd ok w (.slice A fs.length c0) fs) {k : Nat} {x : Fld} (hx : fs[k]? = some x) :
    ∃ b off dA dc kA kn kc, A = some ⟨b, off, none⟩ ∧ b < w.heap.size ∧ ok b ∧
      w.cell? ⟨b, off + k * 7, none⟩ = some (.int .i64 x.ty) ∧ w.cell? ⟨b, off + k * 7 + 1, none⟩ = some (.int .i64 x.kind) ∧ w.cell? ⟨b, off + k * 7 + 2, none⟩ = some (.int .i64 x.fl) ∧ w.cell? ⟨b, off + k * 7 + 3, none⟩ = some (.int .i64 x.n) ∧
      w.cell? ⟨b, off + k * 7 + 4, none⟩ = some (.string x.text) ∧ w.cell? ⟨b, off + k * 7 + 5, none⟩ = some (.slice dA x.data.length dc) ∧ w.cell? ⟨b, off + k * 7 + 6, none⟩ = some (.slice kA kn kc) ∧
      Sl ok w (.slice dA x.data.length dc) x.data ∧ (d = 0 → x.kids = []) ∧ (∀ e, d = e + 1 → kn = x.kids.length ∧ (elT e).Rd ok w (.slice kA x.kids.length kc) x.kids ∧ x.kids.length * 96 ≤ 140737488355328) := by
  have hk : k < fs.length := (List.getElem?_eq_some_iff.1 hx).1
  obtain ⟨b, off, c, hv, hl, hc, hb, hbl, hcell⟩ := h.at_ (by omega)
  obtain ⟨cs, hcs, hE⟩ := hcell k x hx
  simp only [Value.slice.injEq, true_and] at hv
  rw [elT_sz] at hcs
  cases d with
  | zero =>
    obtain ⟨dv, kA, kn, kc, rfl, hd, hkv⟩ := hE
    obtain ⟨dA, dc, rfl, _⟩ := hd.form
    exact ⟨b, off, dA, dc, kA, kn, kc, hv.1, hbl, hb, hcs 0 _ rfl, hcs 1 _ rfl, hcs 2 _ rfl, hcs 3 _ rfl, hcs 4 _ rfl, hcs 5 _ rfl, hcs 6 _ rfl, hd, fun _ => hkv, fun e he => by omega⟩
  | succ d =>
    obtain ⟨dv, kv, rfl, hd, hkv, hsz⟩ := hE
    obtain ⟨dA, dc, rfl, _⟩ := hd.form
    obtain ⟨kA, kc, rfl, _⟩ := hkv.form
    refine ⟨b, off, dA, dc, kA, _, kc, hv.1, hbl, hb, hcs 0 _ rfl, hcs 1 _ rfl, hcs 2 _ rfl, hcs 3 _ rfl, hcs 4 _ rfl, hcs 5 _ rfl, hcs 6 _ rfl, hd, fun h => by omega, fun e he => ?_⟩
    obtain rfl : d = e := by omega
    exact ⟨rfl, hkv, hsz⟩

def fld5 (t k f n : Int) (text : ByteArray) (dv kv : Value) : Obj := .cells #[.int .i64 t, .int .i64 k, .int .i64 f, .int .i64 n, .string text, dv, kv] 65
def F19 (d : Nat) : Prop := ∀ (w : World) (v : Value) (fs : List Fld) (B : Nat), (elT d).Rd (fun k => k < B) w v fs → B ≤ w.heap.size → fs.length * 96 ≤ 140737488355328 → d ≤ 100 →
  Calls Try.prog 19 #[v, .int .i64 d] w fun e w' => ∃ u, e = .returned u ∧ Hid ((elF (d + 1)).Rd (fun k => k < B ∨ w.heap.size ≤ k) w' u fs ∧ Below w.heap.size w w')

set_option maxRecDepth 100000 in
set_option maxHeartbeats 6400000 in
theorem f19_zero : F19 0 := by
  intro w v fs B hR hBw hl hd100
  obtain ⟨A, c, rfl, hlc, hcm⟩ := hR.form
  have hlen : fs.length ≤ 9223372036854775807 := by omega
  have HR := Lib.hid hR
  clear hR
  go_enter Try.func19, Try.ntmps19
  go_wp2_with fail
  go_loopw [5, 11] (fun b i wr => ∃ k : Nat, k ≤ fs.length ∧ i = .int .i64 k ∧ Hid ((elF 1).Ow 65 (fun k => k < B ∨ w.heap.size ≤ k) wr w.heap.size b (fs.take k) ∧ Below w.heap.size w wr)) (fun _ i _ => fs.length - (intOf i).toNat)
  case atStart => exact ⟨0, Nat.zero_le _, rfl, Lib.hid ⟨by simpa using El.Ow.nil (elF 1) 65 _ w _, Below.refl _ _⟩⟩
  case round =>
    obtain ⟨k, hk, rfl, HL⟩ := hrel
    by_cases hlt : k < fs.length
    · obtain ⟨x, hx⟩ : ∃ x, fs[k]? = some x := ⟨_, List.getElem?_eq_getElem hlt⟩
      have hRw : (elT 0).Rd (fun k => k < B) wr (.slice A fs.length c) fs := HR.out.step fun j hj _ => HL.out.2.block j (by omega)
      obtain ⟨b, off, dA, dc, kA, kn, kc, rfl, hbl, hbok, e0, e1, e2, e3, e4, e5, e6, hd, hk0, hk1⟩ := rowT hRw hx
      have HSN := Lib.hid (take_snoc' hx)
      have HK0 := Lib.hid (hk0 rfl)
      have HD := Lib.hid hd
      obtain ⟨A5, c5, hv5, _⟩ := HL.out.1.slice_
      rw [List.length_take, Nat.min_eq_left (show k ≤ fs.length by omega)] at hv5
      subst hv5
      obtain ⟨W, hW⟩ : ∃ W, W = (wr.alloc (.cells #[.int .i64 x.ty, .int .i64 x.kind, .int .i64 x.fl, .int .i64 x.n, .string x.text, .slice dA x.data.length dc, .slice kA kn kc] 78)).alloc (.cells #[.int .i64 x.ty, .int .i64 x.kind, .int .i64 x.fl, .int .i64 x.n, .string x.text, .slice dA x.data.length dc, .slice none 0 0] 65) := ⟨_, rfl⟩
      have hB1 : Below wr.heap.size wr W := by rw [hW]; exact ((Below.refl _ _).alloc (Nat.le_refl _) _).alloc (by simp) _
      have hs1 : W.heap.size = wr.heap.size + 1 + 1 := by rw [hW]; simp
      have hO1 : (elF 1).Ow 65 (fun k => k < B ∨ w.heap.size ≤ k) W w.heap.size (.slice A5 k c5) (fs.take k) := HL.out.1.below hB1
      have hlo := HL.out.1.lt
      have hP1 : (elF 1).E (fun j => (j < B ∨ w.heap.size ≤ j) ∧ some j ≠ (Value.slice A5 k c5).ownBlock) W x [.int .i64 x.ty, .int .i64 x.kind, .int .i64 x.fl, .int .i64 x.n, .string x.text, .slice dA x.data.length dc, .slice none 0 0] :=
        ⟨_, _, rfl, (HD.out.below hB1).mono fun j hj => ⟨.inl hj, fun he => by have := (hlo j he.symm).1; omega⟩, by rw [HK0.out]; exact El.Rd.nil _ _ _⟩
      have HW := Lib.hid hW
      have HB1 := Lib.hid (HL.out.2.trans (hB1.mono HL.out.2.size))
      have HS1 := Lib.hid hs1
      have HO1 := Lib.hid hO1
      have HP1 := Lib.hid hP1
      have HLO : Hid (w.heap.size ≤ W.heap.size) := Lib.hid (HL.out.2.trans (hB1.mono HL.out.2.size)).size
      have hl2 : ((fs.take k).length + 1) * 96 ≤ 140737488355328 := by rw [List.length_take]; omega
      clear hB1 hs1 hO1 hP1 hlo
      go_wp2_with (at_builtin; rw [← HW.out]; go_must (refine El.Ow.append (elF 1) (W := W) w.heap.size rfl (.tmp 36) (.tmp 38) 23 65 _ 96 rfl Try.underlying23 info65 rfl (by decide) (by decide) (.slice A5 k c5) _ x [.int .i64 x.ty, .int .i64 x.kind, .int .i64 x.fl, .int .i64 x.n, .string x.text, .slice dA x.data.length dc, .slice none 0 0] rfl (wr.heap.size + 1 + 1) HS1.out rfl HP1.out HO1.out HLO.out (fun j hj => .inr (Nat.le_trans HLO.out hj)) hl2 ?_); intro v1 w3 hO2 hg2 hat2; have HO2 := Lib.hid hO2; have HB3 := Lib.hid (HB1.out.grown hg2 HLO.out fun k hk => (HO1.out.lt k hk).1); clear hO2 hg2 hat2)
      rw [← HSN.out] at HO2
      obtain ⟨A6, c6, hv6, _⟩ := HO2.out.slice_
      rw [List.length_take, Nat.min_eq_left (show k + 1 ≤ fs.length by omega)] at hv6
      subst hv6
      go_roundw
      case rel => exact ⟨_, _, _, _, ⟨k + 1, by omega, rfl, Lib.hid ⟨HO2.out, HB3.out⟩⟩, rfl, rfl, rfl, by refine congrArg _ ?_; push_cast; rfl⟩
      case measure => simp [intOf]; omega
    · obtain rfl : k = fs.length := by omega
      obtain ⟨A5, c5, hv5, _⟩ := HL.out.1.slice_
      rw [List.take_length] at hv5
      subst hv5
      go_wp2_with fail
      go_ret
      refine ⟨_, rfl, Lib.hid ⟨?_, HL.out.2⟩⟩
      have := HL.out.1
      rw [List.take_length] at this
      exact this.rd
set_option maxRecDepth 100000 in
set_option maxHeartbeats 6400000 in
theorem f19_succ (d : Nat) (H : F19 d) : F19 (d + 1) := by
  intro w v fs B hR hBw hl hd100
  rw [show ((d + 1 : Nat) : Int) = (d : Int) + 1 by push_cast; rfl]
  have HH := Lib.hid H
  clear H
  obtain ⟨A, c, rfl, hlc, hcm⟩ := hR.form
  have hlen : fs.length ≤ 9223372036854775807 := by omega
  have HR := Lib.hid hR
  clear hR
  go_enter Try.func19, Try.ntmps19
  go_wp2_with fail
  go_loopw [5, 11] (fun b i wr => ∃ k : Nat, k ≤ fs.length ∧ i = .int .i64 k ∧ Hid ((elF (d + 1 + 1)).Ow 65 (fun k => k < B ∨ w.heap.size ≤ k) wr w.heap.size b (fs.take k) ∧ Below w.heap.size w wr)) (fun _ i _ => fs.length - (intOf i).toNat)
  case atStart => exact ⟨0, Nat.zero_le _, rfl, Lib.hid ⟨by simpa using El.Ow.nil (elF (d + 1 + 1)) 65 _ w _, Below.refl _ _⟩⟩
  case round =>
    obtain ⟨k, hk, rfl, HL⟩ := hrel
    by_cases hlt : k < fs.length
    · obtain ⟨x, hx⟩ : ∃ x, fs[k]? = some x := ⟨_, List.getElem?_eq_getElem hlt⟩
      have hRw : (elT (d + 1)).Rd (fun k => k < B) wr (.slice A fs.length c) fs := HR.out.step fun j hj _ => HL.out.2.block j (by omega)
      obtain ⟨b, off, dA, dc, kA, kn, kc, rfl, hbl, hbok, e0, e1, e2, e3, e4, e5, e6, hd, hk0, hk1⟩ := rowT hRw hx
      have HSN := Lib.hid (take_snoc' hx)
      obtain ⟨rfl, hkr, hks⟩ := hk1 d rfl
      have HD := Lib.hid hd
      obtain ⟨A5, c5, hv5, _⟩ := HL.out.1.slice_
      rw [List.length_take, Nat.min_eq_left (show k ≤ fs.length by omega)] at hv5
      subst hv5
      obtain ⟨y, hy⟩ : ∃ y, y = wr.heap.size + 1 := ⟨_, rfl⟩
      obtain ⟨W, hW⟩ : ∃ W, W = (wr.alloc (.cells #[.int .i64 x.ty, .int .i64 x.kind, .int .i64 x.fl, .int .i64 x.n, .string x.text, .slice dA x.data.length dc, .slice kA x.kids.length kc] 78)).alloc (.cells #[.int .i64 x.ty, .int .i64 x.kind, .int .i64 x.fl, .int .i64 x.n, .string x.text, .slice dA x.data.length dc, .slice none 0 0] 65) := ⟨_, rfl⟩
      have hB1 : Below wr.heap.size wr W := by rw [hW]; exact ((Below.refl _ _).alloc (Nat.le_refl _) _).alloc (by simp) _
      have hs1 : W.heap.size = wr.heap.size + 1 + 1 := by rw [hW]; simp
      have ky : W.heap[y]? = some (fld5 x.ty x.kind x.fl x.n x.text (.slice dA x.data.length dc) (.slice none 0 0)) := by
        have := heap_alloc_new (wr.alloc (.cells #[.int .i64 x.ty, .int .i64 x.kind, .int .i64 x.fl, .int .i64 x.n, .string x.text, .slice dA x.data.length dc, .slice kA x.kids.length kc] 78)) (.cells #[.int .i64 x.ty, .int .i64 x.kind, .int .i64 x.fl, .int .i64 x.n, .string x.text, .slice dA x.data.length dc, .slice none 0 0] 65)
        rw [hW, hy]; simpa [fld5] using this
      have hws := HL.out.2.size
      have HC := Lib.hid (HH.out W _ x.kids B (hkr.below hB1) (by omega) hks (by omega))
      have HO1 : Hid ((elF (d + 1 + 1)).Ow 65 (fun k => k < B ∨ w.heap.size ≤ k) W w.heap.size (.slice A5 k c5) (fs.take k)) := Lib.hid (HL.out.1.below hB1)
      have HB1 := Lib.hid (HL.out.2.trans (hB1.mono HL.out.2.size))
      have HDW := Lib.hid (HD.out.below hB1)
      have HKY := Lib.hid ky
      have HY := Lib.hid hy
      have HS1 := Lib.hid hs1
      have HW := Lib.hid hW
      have k6 : W.cell? ⟨wr.heap.size, 6, none⟩ = some (.slice kA x.kids.length kc) := by
        have h0 : W.heap[wr.heap.size]? = some (.cells #[.int .i64 x.ty, .int .i64 x.kind, .int .i64 x.fl, .int .i64 x.n, .string x.text, .slice dA x.data.length dc, .slice kA x.kids.length kc] 78) := by rw [hW]; exact blk_alloc (heap_alloc_new _ _) _
        exact blk_cell h0 6
      clear hx hRw hd hk0 hk1 hkr hks hB1 hs1 ky hW
      go_wp2_with fail
      rw [← hy, ← HW.out]
      clear hy
      refine HC.out.mono ?_
      rintro e w2 ⟨u2, rfl, H2⟩
      obtain ⟨A2, c2, rfl, _⟩ := H2.out.1.form
      have ky2 := blk_below HKY.out H2.out.2
      have y0 : w2.cell? ⟨y, 0, none⟩ = some (.int .i64 x.ty) := blk_cell ky2 0
      have y1 : w2.cell? ⟨y, 1, none⟩ = some (.int .i64 x.kind) := blk_cell ky2 1
      have y2 : w2.cell? ⟨y, 2, none⟩ = some (.int .i64 x.fl) := blk_cell ky2 2
      have y3 : w2.cell? ⟨y, 3, none⟩ = some (.int .i64 x.n) := blk_cell ky2 3
      have y4 : w2.cell? ⟨y, 4, none⟩ = some (.string x.text) := blk_cell ky2 4
      have y5 : w2.cell? ⟨y, 5, none⟩ = some (.slice dA x.data.length dc) := blk_cell ky2 5
      have y6 : w2.cell? ⟨y, 6, none⟩ = some (.slice none 0 0) := blk_cell ky2 6
      have yf : w2.frozen? ⟨y, 6, none⟩ = false := blk_frozen ky2 6
      obtain ⟨X, hX⟩ : ∃ X, X = w2.setCell ⟨y, 6, none⟩ (.slice A2 x.kids.length c2) := ⟨_, rfl⟩
      have hy1 := HY.out
      have hs1 := HS1.out
      have hyw : w.heap.size ≤ y := by omega
      have hlo := HL.out.1.lt
      have hbX : Below w.heap.size w X := by rw [hX]; exact (below_then HB1.out HB1.out.size H2.out.2).setCell (by show _ ≤ y; exact hyw) _
      have hsX : X.heap.size = w2.heap.size := by rw [hX]; simp [World.setCell]
      have hOX : (elF (d + 1 + 1)).Ow 65 (fun k => k < B ∨ w.heap.size ≤ k) X w.heap.size (.slice A5 k c5) (fs.take k) := by
        refine (((HL.out.1.bound.below (by rw [HW.out]; exact ((Below.refl _ _).alloc (Nat.le_refl _) _).alloc (by simp) _)).below H2.out.2).step (w1 := X) fun j hj _ => ?_).mono fun j hj => hj.1
        rw [hX]; exact Below.heap_setCell _ _ _ _ (by show j ≠ y; have := hj.2; omega)
      have hPX : (elF (d + 1 + 1)).E (fun j => (j < B ∨ w.heap.size ≤ j) ∧ some j ≠ (Value.slice A5 k c5).ownBlock) X x [.int .i64 x.ty, .int .i64 x.kind, .int .i64 x.fl, .int .i64 x.n, .string x.text, .slice dA x.data.length dc, .slice A2 x.kids.length c2] := by
        refine ⟨_, _, rfl, ?_, ?_⟩
        · refine ((HDW.out.below H2.out.2).bound.step (w1 := X) fun j hj _ => ?_).mono fun j hj => ⟨.inl hj.1, fun he => by have := (hlo j he.symm).1; omega⟩
          rw [hX]; exact Below.heap_setCell _ _ _ _ (by have := hj.1; show j ≠ y; omega)
        · refine (H2.out.1.step (w1 := X) fun j hj _ => ?_).mono fun j hj => ⟨by omega, fun he => by have := hlo j he.symm; omega⟩
          rw [hX]; exact Below.heap_setCell _ _ _ _ (by show j ≠ y; omega)
      have hBX := hbX
      have HX := Lib.hid hX
      have HBX := Lib.hid hbX
      have HSX := Lib.hid hsX
      have HOX := Lib.hid hOX
      have HPX := Lib.hid hPX
      have HLX : Hid (w.heap.size ≤ X.heap.size) := Lib.hid hbX.size
      have hl2 : ((fs.take k).length + 1) * 96 ≤ 140737488355328 := by rw [List.length_take]; omega
      clear ky2 hy1 hs1 hyw hlo hX hbX hsX hOX hPX hBX H2 k6
      go_wp2_with (at_builtin; rw [← HX.out]; go_must (refine El.Ow.append (elF (d + 1 + 1)) (W := X) w.heap.size rfl (.tmp 36) (.tmp 38) 23 65 _ 96 rfl Try.underlying23 info65 rfl (by rw [elF_sz]; omega) (by decide) (.slice A5 k c5) _ x [.int .i64 x.ty, .int .i64 x.kind, .int .i64 x.fl, .int .i64 x.n, .string x.text, .slice dA x.data.length dc, .slice A2 x.kids.length c2] rfl w2.heap.size HSX.out rfl HPX.out HOX.out HLX.out (fun j hj => .inr (Nat.le_trans HLX.out hj)) hl2 ?_); intro v1 w3 hO2 hg2 hat2; have HO2 := Lib.hid hO2; have HB3 := Lib.hid (HBX.out.grown hg2 HLX.out fun k hk => (HOX.out.lt k hk).1); clear hO2 hg2 hat2)
      rw [← HSN.out] at HO2
      obtain ⟨A6, c6, hv6, _⟩ := HO2.out.slice_
      rw [List.length_take, Nat.min_eq_left (show k + 1 ≤ fs.length by omega)] at hv6
      subst hv6
      go_roundw
      case rel => exact ⟨k + 1, by omega, by refine congrArg _ ?_; push_cast; rfl, Lib.hid ⟨HO2.out, HB3.out⟩⟩
      case measure => simp [intOf]; omega
    · obtain rfl : k = fs.length := by omega
      obtain ⟨A5, c5, hv5, _⟩ := HL.out.1.slice_
      rw [List.take_length] at hv5
      subst hv5
      go_wp2_with fail
      go_ret
      refine ⟨_, rfl, Lib.hid ⟨?_, HL.out.2⟩⟩
      have := HL.out.1
      rw [List.take_length] at this
      exact this.rd
theorem fields19 (d : Nat) : F19 d := by
  induction d with
  | zero => exact f19_zero
  | succ d ih => exact f19_succ d ih
end Go.Proofs.Ytgijhgonpgidiaa
