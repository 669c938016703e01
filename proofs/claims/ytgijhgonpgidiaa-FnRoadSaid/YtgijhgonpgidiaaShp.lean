/-
  Contract of shape: the kinds of fields. No statement of the seat is proved here.
-/
import Derived.Test.YtgijhgonpgidiaaKept
import Derived.Deep.RegionLaw
import Derived.Deep.RegionHeld3
namespace Go.Proofs.Ytgijhgonpgidiaa
open Go.RowKit Go.Proofs.YtgijhgonpgidiaaW.PrintWords

/-- The kinds of fields, so deep. -/
def shpF : Nat → List Fld → List Fld
  | 0, _ => []
  | d + 1, fs => fs.map fun f => ⟨0, f.kind, 0, 0, ⟨#[]⟩, [], shpF d f.kids⟩
theorem shpF_snoc (d : Nat) (l : List Fld) (x : Fld) : shpF (d + 1) (l ++ [x]) = shpF (d + 1) l ++ [⟨0, x.kind, 0, 0, ⟨#[]⟩, [], shpF d x.kids⟩] := by
  simp [shpF]
theorem shpF_length (d : Nat) (l : List Fld) : (shpF d l).length ≤ l.length := by
  cases d <;> simp [shpF]
/-- No more than ten, so deep. -/
def Ten : Nat → List Fld → Prop
  | 0, fs => fs = []
  | d + 1, fs => fs.length ≤ 10 ∧ ∀ x ∈ fs, Ten d x.kids
theorem info78s : (Try.prog.info? 78).map (fun i => (i.zero, i.size, i.bytes)) = some (some (.agg #[.int .i64 0, .int .i64 0, .int .i64 0, .int .i64 0, .string ⟨#[]⟩, .slice none 0 0, .slice none 0 0]), 7, 96) := by kernel_rfl
/-- What shape is owed to do. -/
def S45 (d : Nat) : Prop := ∀ (w : World) (v : Value) (fs : List Fld) (ok : Nat → Prop), (elF d).Rd ok w v fs → Ten d fs →
  Calls Try.prog 45 #[v] w fun e w' => ∃ u, e = .returned u ∧ Hid ((elF d).Rd (fun k => w.heap.size ≤ k) w' u (shpF d fs) ∧ Below w.heap.size w w')
set_option maxRecDepth 100000 in
set_option maxHeartbeats 1600000 in
theorem s45_zero : S45 0 := by
  intro w v fs ok hR hT
  have hfs : fs = [] := hT
  subst hfs
  obtain ⟨A, c, rfl, hlc, hcm⟩ := hR.form
  clear hR hT
  go_enter Try.func45, Try.ntmps45
  go_wp2_with fail
  refine wp_loop_rounds 1 ?_
  rw [rounds_succ]
  go_wp2_with fail
  go_ret
  exact ⟨_, rfl, Lib.hid ⟨El.Rd.nil _ _ _, Below.refl _ _⟩⟩
set_option maxRecDepth 100000 in
set_option maxHeartbeats 6400000 in
theorem s45_succ (d : Nat) (H : S45 d) : S45 (d + 1) := by
  intro w v fs ok hR hT
  have HH := Lib.hid H
  have HT := Lib.hid hT
  have hl : fs.length ≤ 10 := hT.1
  clear H hT
  obtain ⟨A, c, rfl, hlc, hcm⟩ := hR.form
  have hlen : fs.length ≤ 9223372036854775807 := by omega
  have HR := Lib.hid hR.bound
  clear hR
  go_enter Try.func45, Try.ntmps45
  go_wp2_with fail
  go_loopw [3, 8] (fun b i wr => ∃ k : Nat, k ≤ fs.length ∧ i = .int .i64 k ∧ Hid ((elF (d + 1)).Ow 78 (fun k => w.heap.size ≤ k) wr w.heap.size b (shpF (d + 1) (fs.take k)) ∧ Below w.heap.size w wr)) (fun _ i _ => fs.length - (intOf i).toNat)
  case atStart => exact ⟨0, Nat.zero_le _, rfl, Lib.hid ⟨by simpa [shpF] using El.Ow.nil (elF (d + 1)) 78 _ w _, Below.refl _ _⟩⟩
  case round =>
    obtain ⟨k, hk, rfl, HL⟩ := hrel
    by_cases hlt : k < fs.length
    · obtain ⟨x, hx⟩ : ∃ x, fs[k]? = some x := ⟨_, List.getElem?_eq_getElem hlt⟩
      obtain ⟨b, off, dA, dc, kA, kc, rfl, hbl, hbok, e0, e1, e2, e3, e4, e5, e6, hd, hkr⟩ := rowF (HR.out.below HL.out.2) hx
      have hkl : (shpF (d + 1) (fs.take k)).length ≤ 10 := by have := shpF_length (d + 1) (fs.take k); rw [List.length_take] at this; omega
      have HSN := Lib.hid (show shpF (d + 1) (fs.take (k + 1)) = shpF (d + 1) (fs.take k) ++ [⟨0, x.kind, 0, 0, ⟨#[]⟩, [], shpF d x.kids⟩] by rw [take_snoc' hx, shpF_snoc])
      obtain ⟨A5, c5, hv5, _⟩ := HL.out.1.slice_
      subst hv5
      obtain ⟨W0, hW0⟩ : ∃ W, W = wr.alloc (.cells #[.int .i64 x.ty, .int .i64 x.kind, .int .i64 x.fl, .int .i64 x.n, .string x.text, .slice dA x.data.length dc, .slice kA x.kids.length kc] 65) := ⟨_, rfl⟩
      have hB0 : Below wr.heap.size wr W0 := by rw [hW0]; exact (Below.refl _ _).alloc (Nat.le_refl _) _
      have kz : W0.heap[wr.heap.size]? = some (fld5 x.ty x.kind x.fl x.n x.text (.slice dA x.data.length dc) (.slice kA x.kids.length kc)) := by rw [hW0]; exact heap_alloc_new _ _
      obtain ⟨z, hz⟩ : ∃ z, z = wr.heap.size := ⟨_, rfl⟩
      rw [← hz] at kz
      have z1 : W0.cell? ⟨z, 1, none⟩ = some (.int .i64 x.kind) := blk_cell kz 1
      have z6 : W0.cell? ⟨z, 6, none⟩ = some (.slice kA x.kids.length kc) := blk_cell kz 6
      have hB1 : Below wr.heap.size wr W0.drew := hB0.drew
      have KZ : Hid (W0.drew.heap[z]? = some (fld5 x.ty x.kind x.fl x.n x.text (.slice dA x.data.length dc) (.slice kA x.kids.length kc))) := Lib.hid kz
      have hs1 : W0.drew.heap.size = wr.heap.size + 1 := by rw [hW0]; simp
      have HW0 := Lib.hid hW0
      have hws := HL.out.2.size
      have HC := Lib.hid (HH.out W0.drew _ x.kids _ (hkr.below hB1) (HT.out.2 x (List.mem_of_getElem? hx)))
      have HO1 : Hid ((elF (d + 1)).Ow 78 (fun k => w.heap.size ≤ k) W0.drew w.heap.size (.slice A5 (shpF (d + 1) (fs.take k)).length c5) (shpF (d + 1) (fs.take k))) := Lib.hid (HL.out.1.below hB1)
      have HB1 := Lib.hid (HL.out.2.trans (hB1.mono HL.out.2.size))
      have HS1 := Lib.hid hs1
      clear hx hd hkr hB1 hs1 hW0 HL hB0 kz
      go_wp2_with fail
      rw [← HW0.out, ← hz]
      clear hz
      have hl2 : ((shpF (d + 1) (fs.take k)).length + 1) * 96 ≤ 140737488355328 := by omega
      go_region_law (first
        | (go_simp; go_at_call 45; refine HC.out.mono ?_; rintro e w3 ⟨u3, rfl, H3⟩
           obtain ⟨A4, c4, rfl, _⟩ := H3.out.1.form
           have HO3 := Lib.hid (HO1.out.below H3.out.2)
           have HB3 := Lib.hid (below_then HB1.out HB1.out.size H3.out.2)
           have HLO3 : Hid (w.heap.size ≤ w3.heap.size) := Lib.hid HB3.out.size
           have HP3 : Hid ((elF (d + 1)).E (fun k' => w.heap.size ≤ k' ∧ some k' ≠ (Value.slice A5 (shpF (d + 1) (fs.take k)).length c5).ownBlock) w3 ⟨0, x.kind, 0, 0, ⟨#[]⟩, [], shpF d x.kids⟩ [.int .i64 0, .int .i64 x.kind, .int .i64 0, .int .i64 0, .string ⟨#[]⟩, .slice none 0 0, .slice A4 (shpF d x.kids).length c4]) := Lib.hid ⟨_, _, rfl, Sl.nil _ _, H3.out.1.mono fun k' hk' => ⟨Nat.le_trans HB1.out.size hk', fun he => by have := (HO1.out.lt k' he.symm).2; omega⟩⟩
           have kz3 := blk_below KZ.out H3.out.2
           have y1 : w3.cell? ⟨z, 1, none⟩ = some (.int .i64 x.kind) := blk_cell kz3 1
           have y6 : w3.cell? ⟨z, 6, none⟩ = some (.slice kA x.kids.length kc) := blk_cell kz3 6
           clear H3 kz3)
        | (refine El.Ow.append_step (elF (d + 1)) (W := w3) w.heap.size (by rfl) (.tmp 12) (.tmp 19) 22 78 _ 96 (by rfl) Try.underlying22 info78s rfl (by rw [elF_sz]; omega) (by decide) (.slice A5 (shpF (d + 1) (fs.take k)).length c5) _ ⟨0, x.kind, 0, 0, ⟨#[]⟩, [], shpF d x.kids⟩ [.int .i64 0, .int .i64 x.kind, .int .i64 0, .int .i64 0, .string ⟨#[]⟩, .slice none 0 0, .slice A4 (shpF d x.kids).length c4] (by rfl) w3.heap.size rfl (by rfl) HP3.out HO3.out HLO3.out (fun k' hk' => Nat.le_trans HLO3.out hk') hl2 ?_; intro v1 w4 hO4 hg4 hat4
           have HO4 := Lib.hid hO4
           have HB4 := Lib.hid (HB3.out.grown hg4 HLO3.out fun k hk => (HO3.out.lt k hk).1)
           rw [← HSN.out] at HO4
           obtain ⟨A6, c6, hv6, _⟩ := HO4.out.slice_
           subst hv6
           clear hO4 hg4 hat4))
      all_goals
        go_wp2_with fail
        go_roundw
        case rel => exact ⟨k + 1, by omega, int_eq (by omega), Lib.hid ⟨HO4.out, HB4.out⟩⟩
        case measure => simp [intOf]; omega
    · obtain rfl : k = fs.length := by omega
      obtain ⟨A5, c5, hv5, _⟩ := HL.out.1.slice_
      rw [List.take_length] at hv5
      subst hv5
      go_wp2_with fail
      go_ret
      refine ⟨_, rfl, Lib.hid ⟨?_, HL.out.2⟩⟩
      have := HL.out.1
      rw [List.take_length] at this
      exact this.rd
theorem shape45 (d : Nat) : S45 d := by
  induction d with
  | zero => exact s45_zero
  | succ d ih => exact s45_succ d ih
end Go.Proofs.Ytgijhgonpgidiaa
