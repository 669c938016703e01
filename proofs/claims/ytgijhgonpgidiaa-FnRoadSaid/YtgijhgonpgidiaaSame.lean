/-
  Contract of SameFields, where the fields are the same. No statement of the seat is proved here.
-/
import Derived.Test.YtgijhgonpgidiaaProp
import Derived.Test.YtgijhgonpgidiaaFb2
import Derived.Test.YtgijhgonpgidiaaImplE
namespace Go.Proofs.Ytgijhgonpgidiaa
open Go.RowKit Go.Proofs.YtgijhgonpgidiaaW.PrintWords

/-- Fields that were read, and those that they are, so deep. -/
def SameL : Nat → List Fld → List Fld → Prop
  | 0, a, b => a = [] ∧ b = []
  | d + 1, a, b => a.length = b.length ∧ b.length ≤ 10 ∧ ∀ (k : Nat) (x y : Fld), a[k]? = some x → b[k]? = some y → x.ty = y.ty ∧ x.kind = y.kind ∧ x.fl = (if y.kind = 11 then 32768 else 0) ∧ x.n = y.n ∧ x.text = y.text ∧ x.data = y.data ∧ SameL d x.kids y.kids
/-- What SameFields is owed to do. -/
def M46 (d : Nat) : Prop := ∀ (w : World) (va vb : Value) (a b : List Fld) (ok1 ok2 : Nat → Prop), (elF d).Rd ok1 w va a → (elF d).Rd ok2 w vb b → SameL d a b →
  Calls Try.prog 46 #[va, vb] w fun e w' => e = .returned (.bool true) ∧ Hid (Below w.heap.size w w')
set_option maxRecDepth 100000 in
set_option maxHeartbeats 1600000 in
theorem m46_zero : M46 0 := by
  intro w va vb a b ok1 ok2 hA hB hS
  obtain ⟨rfl, rfl⟩ := hS
  obtain ⟨A, c, rfl, hlc, hcm⟩ := hA.form
  obtain ⟨A', c', rfl, hlc', hcm'⟩ := hB.form
  clear hA hB
  go_enter Try.func46, Try.ntmps46
  go_wp2_with fail
  refine wp_loop_rounds 1 ?_
  rw [rounds_succ]
  go_wp2_with fail
  go_ret
  exact ⟨rfl, Lib.hid (Below.refl _ _)⟩
set_option maxRecDepth 100000 in
set_option maxHeartbeats 6400000 in
theorem m46_succ (d : Nat) (H : M46 d) : M46 (d + 1) := by
  intro w va vb a b ok1 ok2 hA hB hS
  have HH := Lib.hid H
  have HS := Lib.hid hS
  have hl : b.length ≤ 10 := hS.2.1
  have hll : a.length = b.length := hS.1
  have HLL := Lib.hid hll
  clear H hS
  obtain ⟨A, c, rfl, hlc, hcm⟩ := hA.form
  obtain ⟨A', c', rfl, hlc', hcm'⟩ := hB.form
  rw [hll] at hA hlc ⊢
  have hlen : b.length ≤ 9223372036854775807 := by omega
  have HRA := Lib.hid hA.bound
  have HRB := Lib.hid hB.bound
  clear hA hB hll
  go_enter Try.func46, Try.ntmps46
  go_wp2_with fail
  go_loopw [16] (fun i wr => ∃ k : Nat, k ≤ b.length ∧ i = .int .i64 k ∧ Hid (Below w.heap.size w wr)) (fun i _ => b.length - (intOf i).toNat)
  case atStart => exact ⟨0, Nat.zero_le _, rfl, Lib.hid (Below.refl _ _)⟩
  case round =>
    obtain ⟨k, hk, rfl, HL⟩ := hrel
    by_cases hlt : k < b.length
    · obtain ⟨y, hy⟩ : ∃ y, b[k]? = some y := ⟨_, List.getElem?_eq_getElem hlt⟩
      obtain ⟨x, hx⟩ : ∃ x, a[k]? = some x := ⟨_, List.getElem?_eq_getElem (by rw [HLL.out]; exact hlt)⟩
      obtain ⟨q1, q2, q3, q4, q5, q6, q7⟩ := HS.out.2.2 k x y hx hy
      obtain ⟨b1, off, dA, dc, kA, kc, rfl, hbl, hbok, e0, e1, e2, e3, e4, e5, e6, hd, hkr⟩ := rowF (HRB.out.below HL.out) hy
      obtain ⟨b2, off2, dA2, dc2, kA2, kc2, rfl, hbl2, hbok2, f0, f1, f2, f3, f4, f5, f6, hd2, hkr2⟩ := rowF (d := d) (A := A) (c0 := c) (fs := a) (by rw [HLL.out]; exact HRA.out.below HL.out) hx
      rw [q1] at f0
      rw [q2] at f1
      rw [q4] at f3
      rw [q5] at f4
      rw [q6] at f5 hd2
      have HC0 := Lib.hid (fun W hW => HH.out W _ _ x.kids y.kids _ _ (hkr2.below hW) (hkr.below hW) q7)
      have hK := q3
      clear q1 q2 q3 q4 q5 q6 q7 hx hy
      obtain ⟨z, hz⟩ : ∃ z, z = wr.heap.size := ⟨_, rfl⟩
      obtain ⟨W, hW⟩ : ∃ W, W = (wr.alloc (.cells #[.int .i64 y.ty, .int .i64 y.kind, .int .i64 y.fl, .int .i64 y.n, .string y.text, .slice dA y.data.length dc, .slice kA y.kids.length kc] 65)).alloc (.cells #[.int .i64 y.ty, .int .i64 y.kind, .int .i64 x.fl, .int .i64 y.n, .string y.text, .slice dA2 y.data.length dc2, .slice kA2 x.kids.length kc2] 65) := ⟨_, rfl⟩
      have hB1 : Below wr.heap.size wr W := by rw [hW]; exact ((Below.refl _ _).alloc (Nat.le_refl _) _).alloc (by simp) _
      have HC := Lib.hid (HC0.out W hB1)
      have kz : W.heap[wr.heap.size]? = some (fld5 y.ty y.kind y.fl y.n y.text (.slice dA y.data.length dc) (.slice kA y.kids.length kc)) := by rw [hW]; exact blk_alloc (heap_alloc_new _ _) _
      have kx : W.heap[wr.heap.size + 1]? = some (fld5 y.ty y.kind x.fl y.n y.text (.slice dA2 y.data.length dc2) (.slice kA2 x.kids.length kc2)) := by
        have := heap_alloc_new (wr.alloc (.cells #[.int .i64 y.ty, .int .i64 y.kind, .int .i64 y.fl, .int .i64 y.n, .string y.text, .slice dA y.data.length dc, .slice kA y.kids.length kc] 65)) (.cells #[.int .i64 y.ty, .int .i64 y.kind, .int .i64 x.fl, .int .i64 y.n, .string y.text, .slice dA2 y.data.length dc2, .slice kA2 x.kids.length kc2] 65)
        rw [hW]; simpa [fld5] using this
      have z5 : W.cell? ⟨wr.heap.size, 5, none⟩ = some (.slice dA y.data.length dc) := blk_cell kz 5
      have z6 : W.cell? ⟨wr.heap.size, 6, none⟩ = some (.slice kA y.kids.length kc) := blk_cell kz 6
      have x5 : W.cell? ⟨wr.heap.size + 1, 5, none⟩ = some (.slice dA2 y.data.length dc2) := blk_cell kx 5
      have x6 : W.cell? ⟨wr.heap.size + 1, 6, none⟩ = some (.slice kA2 x.kids.length kc2) := blk_cell kx 6
      clear kz kx
      have hc1 := str_of (hd.below hB1)
      have hc2 := str_of (hd2.below hB1)
      have HB1 := Lib.hid (HL.out.trans (hB1.mono HL.out.size))
      have HW := Lib.hid hW
      clear hd hd2 hkr hkr2 hB1 hW HC0 HL
      by_cases hk11 : y.kind = 11
      · rw [if_pos hk11] at hK
        rw [hK] at f2 HW
        rw [hk11] at e1 f1 HW
        clear hK hk11
        go_wp2_with fail
        rw [← HW.out]
        go_simp
        go_wp2_with fail
        refine HC.out.mono ?_
        rintro e w2 ⟨rfl, H2⟩
        have HB2 := Lib.hid (below_then HB1.out HB1.out.size H2.out)
        go_wp2_with fail
        go_roundw
        case rel => exact ⟨k + 1, by omega, int_eq (by omega), HB2⟩
        case measure => simp [intOf]; omega
      · rw [if_neg hk11] at hK
        have hkb : (y.kind == 11) = false := by simp [hk11]
        rw [hK] at f2 HW
        clear hK
        go_wp2_with fail
        rw [← HW.out]
        go_simp
        go_wp2_with fail
        refine HC.out.mono ?_
        rintro e w2 ⟨rfl, H2⟩
        have HB2 := Lib.hid (below_then HB1.out HB1.out.size H2.out)
        go_wp2_with fail
        go_roundw
        case rel => exact ⟨k + 1, by omega, int_eq (by omega), HB2⟩
        case measure => simp [intOf]; omega
    · obtain rfl : k = b.length := by omega
      go_wp2_with fail
      go_ret
      exact ⟨rfl, HL⟩
theorem same46 (d : Nat) : M46 d := by
  induction d with
  | zero => exact m46_zero
  | succ d ih => exact m46_succ d ih
end Go.Proofs.Ytgijhgonpgidiaa
