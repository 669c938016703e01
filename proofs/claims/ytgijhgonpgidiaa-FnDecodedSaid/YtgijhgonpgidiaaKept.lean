/-
  Contract of Kept: a tree without the fields that are not written. No statement of the seat is proved here.
-/
import Derived.Test.YtgijhgonpgidiaaProp
import Derived.Test.YtgijhgonpgidiaaFb2
namespace Go.Proofs.Ytgijhgonpgidiaa
open Go.RowKit Go.Proofs.YtgijhgonpgidiaaW.PrintWords

/-- Fields without those that are not written, so deep. -/
def keptF : Nat → List Fld → List Fld
  | 0, _ => []
  | d + 1, fs => (fs.filter isKept).map fun f => { f with kids := keptF d f.kids }
theorem keptF_snoc (d : Nat) (l : List Fld) (x : Fld) : keptF (d + 1) (l ++ [x]) = keptF (d + 1) l ++ (if isKept x then [{ x with kids := keptF d x.kids }] else []) := by
  simp only [keptF, List.filter_append, List.map_append]
  congr 1
  by_cases h : isKept x <;> simp [h]
theorem keptF_length (d : Nat) (l : List Fld) : (keptF d l).length ≤ l.length := by
  cases d with
  | zero => simp [keptF]
  | succ d => simp only [keptF, List.length_map]; exact List.length_filter_le _ _
/-- What Kept is owed to do. -/
def K43 (d : Nat) : Prop := ∀ (w : World) (v : Value) (fs : List Fld) (B : Nat), (elF d).Rd (fun k => k < B) w v fs → B ≤ w.heap.size → fs.length ≤ 10 → (∀ x ∈ fs, PR d x) →
  Calls Try.prog 43 #[v] w fun e w' => ∃ u, e = .returned u ∧ Hid ((elF d).Rd (fun k => k < B ∨ w.heap.size ≤ k) w' u (keptF d fs) ∧ Below w.heap.size w w')
set_option maxRecDepth 100000 in
set_option maxHeartbeats 1600000 in
theorem k43_zero : K43 0 := by
  intro w v fs B hR hBw hl hP
  have hfs : fs = [] := by
    cases fs with
    | nil => rfl
    | cons x fs => exact (hP x (by simp)).elim
  subst hfs
  obtain ⟨A, c, rfl, hlc, hcm⟩ := hR.form
  clear hR hP hl
  go_enter Try.func43, Try.ntmps43
  go_wp2_with fail
  refine wp_loop_rounds 1 ?_
  rw [rounds_succ]
  go_wp2_with fail
  go_ret
  exact ⟨_, rfl, Lib.hid ⟨El.Rd.nil _ _ _, Below.refl _ _⟩⟩
set_option maxRecDepth 100000 in
set_option maxHeartbeats 6400000 in
theorem k43_succ (d : Nat) (H : K43 d) : K43 (d + 1) := by
  intro w v fs B hR hBw hl hP
  have HH := Lib.hid H
  have HP := Lib.hid hP
  clear H hP
  obtain ⟨A, c, rfl, hlc, hcm⟩ := hR.form
  have hlen : fs.length ≤ 9223372036854775807 := by omega
  have HR := Lib.hid hR
  clear hR
  go_enter Try.func43, Try.ntmps43
  go_wp2_with fail
  go_loopw [3, 8] (fun b i wr => ∃ k : Nat, k ≤ fs.length ∧ i = .int .i64 k ∧ Hid ((elF (d + 1)).Ow 65 (fun k => k < B ∨ w.heap.size ≤ k) wr w.heap.size b (keptF (d + 1) (fs.take k)) ∧ Below w.heap.size w wr)) (fun _ i _ => fs.length - (intOf i).toNat)
  case atStart => exact ⟨0, Nat.zero_le _, rfl, Lib.hid ⟨by simpa [keptF] using El.Ow.nil (elF (d + 1)) 65 _ w _, Below.refl _ _⟩⟩
  case round =>
    obtain ⟨k, hk, rfl, HL⟩ := hrel
    by_cases hlt : k < fs.length
    · obtain ⟨x, hx⟩ : ∃ x, fs[k]? = some x := ⟨_, List.getElem?_eq_getElem hlt⟩
      have hRw : (elF (d + 1)).Rd (fun k => k < B) wr (.slice A fs.length c) fs := HR.out.step fun j hj _ => HL.out.2.block j (by omega)
      obtain ⟨b, off, dA, dc, kA, kc, rfl, hbl, hbok, e0, e1, e2, e3, e4, e5, e6, hd, hkr⟩ := rowF hRw hx
      have hpx := HP.out x (List.mem_of_getElem? hx)
      have hsn := take_snoc' hx
      have hkl : (keptF (d + 1) (fs.take k)).length ≤ 10 := by have := keptF_length (d + 1) (fs.take k); rw [List.length_take] at this; omega
      have HSN := Lib.hid (show keptF (d + 1) (fs.take (k + 1)) = keptF (d + 1) (fs.take k) ++ (if isKept x then [{ x with kids := keptF d x.kids }] else []) by rw [hsn, keptF_snoc])
      have HD := Lib.hid hd
      obtain ⟨A5, c5, hv5, _⟩ := HL.out.1.slice_
      subst hv5
      obtain ⟨y, hy⟩ : ∃ y, y = wr.heap.size := ⟨_, rfl⟩
      obtain ⟨W, hW⟩ : ∃ W, W = wr.alloc (.cells #[.int .i64 x.ty, .int .i64 x.kind, .int .i64 x.fl, .int .i64 x.n, .string x.text, .slice dA x.data.length dc, .slice kA x.kids.length kc] 65) := ⟨_, rfl⟩
      have hB1 : Below wr.heap.size wr W := by rw [hW]; exact (Below.refl _ _).alloc (Nat.le_refl _) _
      have hs1 : W.heap.size = wr.heap.size + 1 := by rw [hW]; simp
      have ky : W.heap[y]? = some (fld5 x.ty x.kind x.fl x.n x.text (.slice dA x.data.length dc) (.slice kA x.kids.length kc)) := by
        rw [hW, hy]; exact heap_alloc_new _ _
      have z1 : W.cell? ⟨y, 1, none⟩ = some (.int .i64 x.kind) := blk_cell ky 1
      have z3 : W.cell? ⟨y, 3, none⟩ = some (.int .i64 x.n) := blk_cell ky 3
      have z6 : W.cell? ⟨y, 6, none⟩ = some (.slice kA x.kids.length kc) := blk_cell ky 6
      have hws := HL.out.2.size
      have HC := Lib.hid (HH.out W _ x.kids B (hkr.below hB1) (by omega) hpx.size_.2.2 hpx.kid)
      have HO1 : Hid ((elF (d + 1)).Ow 65 (fun k => (k < B ∨ w.heap.size ≤ k) ∧ k < wr.heap.size) W w.heap.size (.slice A5 (keptF (d + 1) (fs.take k)).length c5) (keptF (d + 1) (fs.take k))) := Lib.hid (HL.out.1.bound.below hB1)
      have HB1 := Lib.hid (HL.out.2.trans (hB1.mono HL.out.2.size))
      have HDW := Lib.hid (HD.out.below hB1)
      have HKY := Lib.hid ky
      have HY := Lib.hid hy
      have HS1 := Lib.hid hs1
      have HW := Lib.hid hW
      have HLT := Lib.hid HL.out.1.lt
      clear hx hRw hd hkr hB1 hs1 ky hW hsn hpx HL
      by_cases hkp : isKept x = true
      rotate_left
      · have hkf : isKept x = false := by simpa using hkp
        have hkk : x.kind = 10 ∧ x.n = 0 := by simpa [isKept] using hkf
        have hk1 : (x.kind == 10) = true := by simp [hkk.1]
        have hk3 : (x.n == 0) = true := by simp [hkk.2]
        rw [hkf] at HSN
        simp only [Bool.false_eq_true, if_false, List.append_nil] at HSN
        clear hkp hkf hkk
        go_wp2_with fail
        rw [← HW.out]
        go_roundw
        case rel => exact ⟨k + 1, by omega, int_eq (by omega), Lib.hid ⟨by rw [HSN.out]; exact HO1.out.mono fun j hj => hj.1, HB1.out⟩⟩
        case measure => simp [intOf]; omega
      rw [hkp] at HSN
      rw [if_pos rfl] at HSN
      have hkk : (x.kind == 10) = false ∨ ((x.kind == 10) = true ∧ (x.n == 0) = false) := by
        by_cases h : x.kind = 10
        · refine .inr ⟨by simp [h], ?_⟩
          simpa [isKept, h] using hkp
        · exact .inl (by simp [h])
      clear hkp
      rcases hkk with hk1 | ⟨hk1, hk3⟩
      all_goals
        go_wp2_with fail
        rw [← hy, ← HW.out]
        clear hy
        refine HC.out.mono ?_
        rintro e w2 ⟨u2, rfl, H2⟩
        obtain ⟨A2, c2, rfl, _⟩ := H2.out.1.form
        have ky2 := blk_below HKY.out H2.out.2
        have y0 : w2.cell? ⟨y, 0, none⟩ = some (.int .i64 x.ty) := blk_cell ky2 0
        have y1 : w2.cell? ⟨y, 1, none⟩ = some (.int .i64 x.kind) := blk_cell ky2 1
        have y2 : w2.cell? ⟨y, 2, none⟩ = some (.int .i64 x.fl) := blk_cell ky2 2
        have y3 : w2.cell? ⟨y, 3, none⟩ = some (.int .i64 x.n) := blk_cell ky2 3
        have y4 : w2.cell? ⟨y, 4, none⟩ = some (.string x.text) := blk_cell ky2 4
        have y5 : w2.cell? ⟨y, 5, none⟩ = some (.slice dA x.data.length dc) := blk_cell ky2 5
        have y6 : w2.cell? ⟨y, 6, none⟩ = some (.slice kA x.kids.length kc) := blk_cell ky2 6
        have yf : w2.frozen? ⟨y, 6, none⟩ = false := blk_frozen ky2 6
        obtain ⟨X, hX⟩ : ∃ X, X = w2.setCell ⟨y, 6, none⟩ (.slice A2 (keptF d x.kids).length c2) := ⟨_, rfl⟩
        have hy1 := HY.out
        have hs1 := HS1.out
        have hyw : w.heap.size ≤ y := by omega
        have hlo := HLT.out
        have hbX : Below w.heap.size w X := by rw [hX]; exact (below_then HB1.out HB1.out.size H2.out.2).setCell (by show _ ≤ y; exact hyw) _
        have hsX : X.heap.size = w2.heap.size := by rw [hX]; simp [World.setCell]
        have hOX : (elF (d + 1)).Ow 65 (fun k => k < B ∨ w.heap.size ≤ k) X w.heap.size (.slice A5 (keptF (d + 1) (fs.take k)).length c5) (keptF (d + 1) (fs.take k)) := by
          refine ((HO1.out.below H2.out.2).step (w1 := X) fun j hj _ => ?_).mono fun j hj => hj.1
          rw [hX]; exact Below.heap_setCell _ _ _ _ (by show j ≠ y; have := hj.2; omega)
        have hPX : (elF (d + 1)).E (fun j => (j < B ∨ w.heap.size ≤ j) ∧ some j ≠ (Value.slice A5 (keptF (d + 1) (fs.take k)).length c5).ownBlock) X { x with kids := keptF d x.kids } [.int .i64 x.ty, .int .i64 x.kind, .int .i64 x.fl, .int .i64 x.n, .string x.text, .slice dA x.data.length dc, .slice A2 (keptF d x.kids).length c2] := by
          refine ⟨_, _, rfl, ?_, ?_⟩
          · refine ((HDW.out.below H2.out.2).bound.step (w1 := X) fun j hj _ => ?_).mono fun j hj => ⟨.inl hj.1, fun he => by have := (hlo j he.symm).1; omega⟩
            rw [hX]; exact Below.heap_setCell _ _ _ _ (by have := hj.1; show j ≠ y; omega)
          · refine (H2.out.1.step (w1 := X) fun j hj _ => ?_).mono fun j hj => ⟨by omega, fun he => by have := hlo j he.symm; omega⟩
            rw [hX]; exact Below.heap_setCell _ _ _ _ (by show j ≠ y; omega)
        have HX := Lib.hid hX
        have HBX := Lib.hid hbX
        have HSX := Lib.hid hsX
        have HOX := Lib.hid hOX
        have HPX := Lib.hid hPX
        have HLX : Hid (w.heap.size ≤ X.heap.size) := Lib.hid hbX.size
        have hl2 : ((keptF (d + 1) (fs.take k)).length + 1) * 96 ≤ 140737488355328 := by omega
        clear ky2 hy1 hs1 hyw hlo hX hbX hsX hOX hPX H2 z1 z3 z6
        go_wp2_with (at_builtin; rw [← HX.out]; go_must (refine El.Ow.append (elF (d + 1)) (W := X) w.heap.size rfl (.tmp 24) (.tmp 26) 23 65 _ 96 rfl Try.underlying23 info65 rfl (by rw [elF_sz]; omega) (by decide) (.slice A5 (keptF (d + 1) (fs.take k)).length c5) _ { x with kids := keptF d x.kids } [.int .i64 x.ty, .int .i64 x.kind, .int .i64 x.fl, .int .i64 x.n, .string x.text, .slice dA x.data.length dc, .slice A2 (keptF d x.kids).length c2] rfl w2.heap.size HSX.out rfl HPX.out HOX.out HLX.out (fun j hj => .inr (Nat.le_trans HLX.out hj)) hl2 ?_); intro v1 w3 hO2 hg2 hat2; have HO2 := Lib.hid hO2; have HB3 := Lib.hid (HBX.out.grown hg2 HLX.out fun k hk => (HOX.out.lt k hk).1); clear hO2 hg2 hat2)
        rw [← HSN.out] at HO2
        obtain ⟨A6, c6, hv6, _⟩ := HO2.out.slice_
        subst hv6
        go_roundw
        case rel => exact ⟨k + 1, by omega, by refine congrArg _ ?_; push_cast; rfl, Lib.hid ⟨HO2.out, HB3.out⟩⟩
        case measure => simp [intOf]; omega
    · obtain rfl : k = fs.length := by omega
      obtain ⟨A5, c5, hv5, _⟩ := HL.out.1.slice_
      rw [List.take_length] at hv5
      subst hv5
      go_wp2_with fail
      go_ret
      refine ⟨_, rfl, Lib.hid ⟨?_, HL.out.2⟩⟩
      have := HL.out.1
      rw [List.take_length] at this
      exact this.rd
theorem kept43 (d : Nat) : K43 d := by
  induction d with
  | zero => exact k43_zero
  | succ d ih => exact k43_succ d ih
end Go.Proofs.Ytgijhgonpgidiaa
