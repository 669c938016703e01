/-
  Contracts of the reference's FieldBytes and Short. No statement of the seat is proved here.
-/
import Derived.Test.YtgijhgonpgidiaaGrow
import Derived.Test.YtgijhgonpgidiaaFb
import Derived.Test.YtgijhgonpgidiaaEnc
namespace Go.Proofs.Ytgijhgonpgidiaa
open Go.RowKit Go.Proofs.YtgijhgonpgidiaaW.PrintWords

theorem info61 : (Try.prog.info? 61).map (fun i => (i.zero, i.size, i.bytes)) = some (some (.agg #[.int .i64 0, .slice none 0 0]), 2, 32) := by kernel_rfl
/-- A row of fields: its k-th element's cells. -/
theorem rowF {ok : Nat → Prop} {w : World} {d : Nat} {A : Option Addr} {c0 : Nat} {fs : List Fld} (h : (elF (d + 1)).Rd ok w (.slice A fs.length c0) fs) {k : Nat} {x : Fld} (hx : fs[k]? = some x) :
    ∃ b off dA dc kA kc, A = some ⟨b, off, none⟩ ∧ b < w.heap.size ∧ ok b ∧
      w.cell? ⟨b, off + k * 7, none⟩ = some (.int .i64 x.ty) ∧ w.cell? ⟨b, off + k * 7 + 1, none⟩ = some (.int .i64 x.kind) ∧ w.cell? ⟨b, off + k * 7 + 2, none⟩ = some (.int .i64 x.fl) ∧ w.cell? ⟨b, off + k * 7 + 3, none⟩ = some (.int .i64 x.n) ∧
      w.cell? ⟨b, off + k * 7 + 4, none⟩ = some (.string x.text) ∧ w.cell? ⟨b, off + k * 7 + 5, none⟩ = some (.slice dA x.data.length dc) ∧ w.cell? ⟨b, off + k * 7 + 6, none⟩ = some (.slice kA x.kids.length kc) ∧
      Sl ok w (.slice dA x.data.length dc) x.data ∧ (elF d).Rd ok w (.slice kA x.kids.length kc) x.kids := by
  have hk : k < fs.length := (List.getElem?_eq_some_iff.1 hx).1
  obtain ⟨b, off, c, hv, hl, hc, hb, hbl, hcell⟩ := h.at_ (by omega)
  obtain ⟨cs, hcs, dv, kv, rfl, hd, hkv⟩ := hcell k x hx
  obtain ⟨dA, dc, rfl, _⟩ := hd.form
  obtain ⟨kA, kc, rfl, _⟩ := hkv.form
  simp only [Value.slice.injEq, true_and] at hv
  exact ⟨b, off, dA, dc, kA, kc, hv.1, hbl, hb, hcs 0 _ rfl, hcs 1 _ rfl, hcs 2 _ rfl, hcs 3 _ rfl, hcs 4 _ rfl, hcs 5 _ rfl, hcs 6 _ rfl, hd, hkv⟩
set_option maxRecDepth 100000 in
set_option maxHeartbeats 6400000 in
theorem fb24_succ (d : Nat) (H : FbSpec d) : FbSpec (d + 1) := by
  intro big w ok v fs hR hP hl hT
  obtain ⟨A, c, rfl, hlc, hcm⟩ := hR.form
  have hlen : fs.length ≤ 9223372036854775807 := by omega
  have hT0 : bnd d ≤ 100000000 := Nat.le_trans (bnd_mono (Nat.le_succ d)) hT
  have hfb := fbytes_le big (d + 1) fs hl hP
  have HR := Lib.hid hR.bound
  have HP := Lib.hid hP
  have HA := Lib.hid (attr53 d H)
  have HFB := Lib.hid hfb
  clear hR hP H hfb
  go_enter Try.func24, Try.ntmps24
  go_wp2_with fail
  go_loopw [5, 12] (fun b i wr => ∃ k : Nat, k ≤ fs.length ∧ i = .int .i64 k ∧ Hid (elS.Ow 61 (fun _ => True) wr w.heap.size b (fat big (d + 1) (fs.take k)) ∧ Below w.heap.size w wr)) (fun _ i _ => fs.length - (intOf i).toNat)
  case atStart => exact ⟨0, Nat.zero_le _, rfl, Lib.hid ⟨by simpa [fat] using El.Ow.nil elS 61 _ w _, Below.refl _ _⟩⟩
  case round =>
    obtain ⟨k, hk, rfl, HL⟩ := hrel
    by_cases hlt : k < fs.length
    · obtain ⟨x, hx⟩ : ∃ x, fs[k]? = some x := ⟨_, List.getElem?_eq_getElem hlt⟩
      obtain ⟨b, off, dA, dc, kA, kc, rfl, hbl, hbok, e0, e1, e2, e3, e4, e5, e6, hd, hkv⟩ := rowF (HR.out.below HL.out.2) hx
      have hsn := take_snoc' hx
      have hpx := HP.out x (List.mem_of_getElem? hx)
      obtain ⟨W1, hW1⟩ : ∃ W, W = wr.alloc (.cells #[.int .i64 x.ty, .int .i64 x.kind, .int .i64 x.fl, .int .i64 x.n, .string x.text, .slice dA x.data.length dc, .slice kA x.kids.length kc] 65) := ⟨_, rfl⟩
      have hB1 : Below wr.heap.size wr W1 := by rw [hW1]; exact (Below.refl _ _).alloc (Nat.le_refl _) _
      have hs1 : W1.heap.size = wr.heap.size + 1 := by rw [hW1]; simp
      have hE : (elF (d + 1)).E (fun k => ok k ∧ k < w.heap.size) W1 x [.int .i64 x.ty, .int .i64 x.kind, .int .i64 x.fl, .int .i64 x.n, .string x.text, .slice dA x.data.length dc, .slice kA x.kids.length kc] := ⟨_, _, rfl, hd.below hB1, hkv.below hB1⟩
      have HC := Lib.hid (HA.out big W1 _ x _ hE hpx hT0)
      have HSN := Lib.hid hsn
      have HW1 := Lib.hid hW1
      have HB1 := Lib.hid hB1
      have HS1 := Lib.hid hs1
      have HX := Lib.hid hx
      clear hE hsn hW1 hB1 hs1 hx hd hkv hpx
      go_wp2_with fail
      rw [← HW1.out]
      refine HC.out.mono ?_
      rintro e w2 ⟨dv, rfl, HD⟩
      obtain ⟨p, hp⟩ : ∃ p, p = fattr big (fbytes big d) x := ⟨_, rfl⟩
      have HPE := Lib.hid hp
      rw [← hp] at HD ⊢
      clear hp
      obtain ⟨D, dc2, rfl, _⟩ := HD.out.1.form
      have hlw := HL.out.2.size
      have hBw2 : Below w.heap.size w w2 := below_then (HL.out.2.trans (HB1.out.mono hlw)) (by have := HS1.out; omega) HD.out.2
      obtain ⟨W2, hW2⟩ : ∃ W, W = w2.alloc (.cells #[.int .i64 p.1, .slice D p.2.length dc2] 61) := ⟨_, rfl⟩
      have hB2 : Below w2.heap.size w2 W2 := by rw [hW2]; exact (Below.refl _ _).alloc (Nat.le_refl _) _
      have hs2 : W2.heap.size = w2.heap.size + 1 := by rw [hW2]; simp
      have hO : elS.Ow 61 (fun _ => True) W2 w.heap.size u5 (fat big (d + 1) (fs.take k)) := ((HL.out.1.below HB1.out).below HD.out.2).below hB2
      have hp : elS.E (fun k => True ∧ some k ≠ u5.ownBlock) W2 p [.int .i64 p.1, .slice D p.2.length dc2] := ⟨_, rfl, (HD.out.1.below hB2).mono fun k hk => ⟨trivial, fun he => by have h1 := HL.out.1.lt k he.symm; have h2 := HS1.out; rcases hk with hk | hk <;> omega⟩⟩
      have hbw : Below w.heap.size w W2 := hBw2.trans (hB2.mono hBw2.size)
      have hl2 : ((fat big (d + 1) (fs.take k)).length + 1) * 32 ≤ 140737488355328 := by have := fat_length big (d + 1) (fs.take k); rw [List.length_take] at this; omega
      have hlo : w.heap.size ≤ W2.heap.size := hbw.size
      have hsnf : fat big (d + 1) (fs.take (k + 1)) = fat big (d + 1) (fs.take k) ++ (if isKept x then [p] else []) := by rw [HSN.out, fat_snoc, HPE.out]
      subst hW2
      have HS2 := Lib.hid hs2
      have HO := Lib.hid hO
      have HP2 := Lib.hid hp
      have HB2 := Lib.hid hbw
      have HLO := Lib.hid hlo
      have HSF := Lib.hid hsnf
      clear hB2 hs2 hO hp hbw hlo hsnf hlw hBw2
      by_cases hkp : isKept x = true
      · rw [hkp] at HSF ⊢
        rw [if_pos rfl] at HSF
        go_wp2_with (at_builtin; go_must (refine El.Ow.append elS (W := w2.alloc (.cells #[.int .i64 p.1, .slice D p.2.length dc2] 61)) w.heap.size rfl (.tmp 23) (.tmp 25) 35 61 _ 32 rfl Try.underlying35 info61 rfl (by decide) (by decide) u5 _ p [.int .i64 p.1, .slice D p.2.length dc2] rfl (w2.heap.size + 1) HS2.out rfl HP2.out HO.out HLO.out (fun _ _ => trivial) hl2 ?_); intro v1 w3 hO2 hg2 hat2; have HO2 := Lib.hid hO2; have HB3 := Lib.hid (HB2.out.grown hg2 HLO.out fun k hk => (HO.out.lt k hk).1); clear hO2 hg2 hat2)
        rw [← HSF.out] at HO2
        have HF : Hid (elS.Ow 61 (fun _ => True) w3 w.heap.size v1 (fat big (d + 1) (fs.take (k + 1))) ∧ Below w.heap.size w w3) := ⟨HO2.out, HB3.out⟩
        obtain ⟨A1, c1, rfl, _⟩ := HO2.out.slice_
        go_roundw
        case rel => exact ⟨k + 1, by omega, int_eq (by omega), HF⟩
        case measure => simp [intOf]; omega
      · have hkf : isKept x = false := by simpa using hkp
        rw [hkf] at HSF ⊢
        simp only [Bool.false_eq_true, if_false, List.append_nil] at HSF
        have HF : Hid (elS.Ow 61 (fun _ => True) (w2.alloc (.cells #[.int .i64 p.1, .slice D p.2.length dc2] 61)) w.heap.size u5 (fat big (d + 1) (fs.take (k + 1))) ∧ Below w.heap.size w (w2.alloc (.cells #[.int .i64 p.1, .slice D p.2.length dc2] 61))) := ⟨by rw [HSF.out]; exact HO.out, HB2.out⟩
        go_wp2_with fail
        go_roundw
        case rel => exact ⟨k + 1, by omega, int_eq (by omega), HF⟩
        case measure => simp [intOf]; omega
    · obtain rfl : k = fs.length := by omega
      rw [List.take_length] at HL
      go_wp2_with fail
      refine (attrBytes28 wr _ _ _ HL.out.1.rd (fun a ha => ⟨(HFB.out.2 a ha).1, by have := (HFB.out.2 a ha).2; omega⟩) (by rw [attrsB_fat]; have := HFB.out.1; omega)).mono ?_
      rintro e w3 ⟨u, rfl, HU⟩
      rw [attrsB_fat] at HU
      go_wp2_with fail
      go_ret
      exact ⟨_, rfl, Lib.hid ⟨own_weaken HU.out.1 HL.out.2.size, below_then HL.out.2 HL.out.2.size HU.out.2⟩⟩

set_option maxRecDepth 100000 in
set_option maxHeartbeats 1600000 in
theorem fb24_zero : FbSpec 0 := by
  intro big w ok v fs hR hP hl hT
  have hfs : fs = [] := by
    rcases Nat.eq_zero_or_pos fs.length with h | h
    · exact List.eq_nil_of_length_eq_zero h
    · obtain ⟨b, off, c, _, _, _, _, _, hc⟩ := hR.at_ h
      obtain ⟨cs, _, hf⟩ := hc 0 _ (List.getElem?_eq_getElem h)
      exact hf.elim
  subst hfs
  obtain ⟨A, c, rfl, hlc, hcm⟩ := hR.form
  clear hR hP hl
  go_enter Try.func24, Try.ntmps24
  go_wp2_with fail
  refine wp_loop_rounds 1 ?_
  rw [rounds_succ]
  go_wp2_with fail
  refine (attrBytes28 w _ [] (fun _ => True) (El.Rd.nil _ _ _) (fun a ha => by cases ha) (by simp [attrsB])).mono ?_
  rintro e w3 ⟨u, rfl, HU⟩
  go_wp2_with fail
  go_ret
  exact ⟨_, rfl, HU⟩
theorem fb24 (d : Nat) : FbSpec d := by
  induction d with
  | zero => exact fb24_zero
  | succ d ih => exact fb24_succ d ih
end Go.Proofs.Ytgijhgonpgidiaa
