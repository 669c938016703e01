/-
  Contract of encode: it adds the attributes that the fields are. No statement of the seat is proved here.
-/
import Derived.Test.YtgijhgonpgidiaaFits
import Derived.Test.YtgijhgonpgidiaaEncS
import Derived.Test.YtgijhgonpgidiaaEncM
import Derived.Test.YtgijhgonpgidiaaDup
namespace Go.Proofs.Ytgijhgonpgidiaa
open Go.RowKit Go.Proofs.YtgijhgonpgidiaaW.PrintWords

/-- One field more. -/
theorem Enc.more {big : Bool} {d : Nat} {w w2 W : World} {base g : Nat} {l0 : List (Int × List Int)} {fs : List Fld} {k : Nat} {x : Fld} {p : Int × List Int} (hrow : fs.take (k + 1) = fs.take k ++ [x]) (hkept : isKept x = true)
    (hp : fattr big (fbytes big d) x = p) (hB : Below base w W) (hE : Enc w2 base g big (l0 ++ fat big (d + 1) (fs.take k) ++ [p])) (hB2 : Below base W w2) : Enc w2 base g big (l0 ++ fat big (d + 1) (fs.take (k + 1))) ∧ Below base w w2 := by
  refine ⟨?_, hB.trans hB2⟩
  rw [hrow, fat_snoc, if_pos hkept, hp, ← List.append_assoc]
  exact hE
theorem Enc.fresh {w w1 : World} {base g : Nat} {big : Bool} {l : List (Int × List Int)} (h : Enc w base g big l) (hb : base ≤ w.heap.size) (hB : Below w.heap.size w w1) (k : Nat) (hk : w.heap.size ≤ k) :
    base ≤ k ∧ k ≠ g ∧ ∀ v, w1.cell? ⟨g, 1, none⟩ = some v → v.ownBlock ≠ some k := by
  obtain ⟨v, h1, h2, h3⟩ := h
  have hlt := blk_lt h1
  refine ⟨by omega, by omega, fun u hu he => ?_⟩
  rw [hB.cell (p := ⟨g, 1, none⟩) hlt, show w.cell? ⟨g, 1, none⟩ = some v from blk_cell h1 1] at hu
  injection hu with hu
  subst hu
  have := (h3.lt k he).2
  omega

theorem Enc.row_at {w : World} {base : Nat} {d : Nat} {v : Value} {fs : List Fld} (h : (elF (d + 1)).Rd (fun k => k < base) w v fs) {k : Nat} {x : Fld} (hx : fs[k]? = some x) :
    ∃ b off c dv kv, v = .slice (some ⟨b, off, none⟩) fs.length c ∧ fs.length ≤ c ∧ c ≤ 9223372036854775807 ∧ b < base ∧
      w.cell? ⟨b, off + k * 7, none⟩ = some (.int .i64 x.ty) ∧ w.cell? ⟨b, off + k * 7 + 1, none⟩ = some (.int .i64 x.kind) ∧ w.cell? ⟨b, off + k * 7 + 2, none⟩ = some (.int .i64 x.fl) ∧ w.cell? ⟨b, off + k * 7 + 3, none⟩ = some (.int .i64 x.n) ∧
      w.cell? ⟨b, off + k * 7 + 4, none⟩ = some (.string x.text) ∧ w.cell? ⟨b, off + k * 7 + 5, none⟩ = some dv ∧ w.cell? ⟨b, off + k * 7 + 6, none⟩ = some kv ∧ Sl (fun k => k < base) w dv x.data ∧ (elF d).Rd (fun k => k < base) w kv x.kids := by
  have hk : k < fs.length := (List.getElem?_eq_some_iff.1 hx).1
  obtain ⟨b, off, c, hv, hl, hc, hb, _, hcell⟩ := h.at_ (by omega)
  obtain ⟨cs, hcs, dv, kv, rfl, hd, hkv⟩ := hcell k x hx
  exact ⟨b, off, c, dv, kv, hv, hl, hc, hb, hcs 0 _ rfl, hcs 1 _ rfl, hcs 2 _ rfl, hcs 3 _ rfl, hcs 4 _ rfl, hcs 5 _ rfl, hcs 6 _ rfl, hd, hkv⟩

set_option maxRecDepth 1000000 in
set_option maxHeartbeats 8000000 in
theorem encode51_succ (d : Nat) (IH : EncSpec d) : EncSpec (d + 1) := by
  intro big w base g l0 v fs hE hb hR hF hl
  obtain ⟨A, c, rfl, hlc, hcm⟩ := hR.form
  have hlen : fs.length ≤ 9223372036854775807 := by omega
  have HE := Lib.hid hE
  have HR := Lib.hid hR
  have HF := Lib.hid hF
  have HI := Lib.hid IH
  have hmf : ∀ (fn : Fn) (first cap : Array Value) (w : World), (Instr.makeFunc fn first cap).run Try.prog w = .ok (.func fn first cap) w := fun _ _ _ _ => rfl
  clear hE hR hF IH
  go_enter Try.func51, Try.ntmps51
  go_wp2_with fail
  go_loopw [10] (fun i wr => ∃ k : Nat, k ≤ fs.length ∧ i = .int .i64 k ∧ Hid (Enc wr base g big (l0 ++ fat big (d + 1) (fs.take k)) ∧ Below base w wr)) (fun i _ => fs.length - (intOf i).toNat)
  case atStart => exact ⟨0, Nat.zero_le _, rfl, Lib.hid ⟨by simpa [fat] using HE.out, Below.refl _ _⟩⟩
  case round =>
    obtain ⟨k, hk, rfl, HL⟩ := hrel
    by_cases hlt : k < fs.length
    · obtain ⟨x, hx⟩ : ∃ x, fs[k]? = some x := ⟨_, List.getElem?_eq_getElem hlt⟩
      have hRk : (elF (d + 1)).Rd (fun k => k < base) wr (.slice A fs.length c) fs := HR.out.step fun i hi _ => HL.out.2.block i hi
      obtain ⟨b, off, c2, dv, kv, hv, _, _, hbb, e0, e1, e2, e3, e4, e5, e6, hdv, hkv⟩ := Enc.row_at hRk hx
      simp only [Value.slice.injEq, true_and] at hv
      obtain ⟨rfl, rfl⟩ := hv
      obtain ⟨⟨ht0, ht1⟩, hkind, hn, hnum, htx, hda, hki, hnest⟩ := HF.out x (List.mem_of_getElem? hx)
      obtain ⟨ty, kind, fl, n, text, data, kids⟩ := x
      simp only at *
      obtain ⟨dA, dc, rfl, _, _, _⟩ := hdv.form
      obtain ⟨kA, kc, rfl, _, _⟩ := hkv.form
      have htl : (fs.take k).length = k := by rw [List.length_take]; omega
      have hfl := fat_length big (d + 1) (fs.take k)
      have hrow : fs.take (k + 1) = fs.take k ++ [⟨ty, kind, fl, n, text, data, kids⟩] := by
        rw [List.take_succ_eq_append_getElem hlt]; congr 1
        rw [List.getElem?_eq_getElem hlt] at hx; injection hx with hx; rw [hx]
      obtain ⟨W0, hW0⟩ : ∃ W, W = wr.alloc (.cells #[.int .i64 ty, .int .i64 kind, .int .i64 fl, .int .i64 n, .string text, .slice dA data.length dc, .slice kA kids.length kc] 78) := ⟨_, rfl⟩
      obtain ⟨W1, hW1⟩ : ∃ W, W = W0.alloc (.cells #[.int .i64 ty, .int .i64 kind, .int .i64 fl, .int .i64 n, .string text, .slice dA data.length dc, .slice kA kids.length kc] 78) := ⟨_, rfl⟩
      have hB0 : Below wr.heap.size wr W0 := by rw [hW0]; exact (Below.refl _ _).alloc (Nat.le_refl _) _
      have hB1 : Below wr.heap.size wr W1 := by rw [hW1]; exact hB0.alloc hB0.size _
      have hblk0 : W0.heap[wr.heap.size]? = some (.cells #[.int .i64 ty, .int .i64 kind, .int .i64 fl, .int .i64 n, .string text, .slice dA data.length dc, .slice kA kids.length kc] 78) := by rw [hW0]; exact heap_alloc_new _ _
      have hblk1 : W1.heap[wr.heap.size]? = some (.cells #[.int .i64 ty, .int .i64 kind, .int .i64 fl, .int .i64 n, .string text, .slice dA data.length dc, .slice kA kids.length kc] 78) := by rw [hW1]; exact blk_alloc hblk0 _
      have m0 := blk_cell hblk1 0
      have m1 := blk_cell hblk1 1
      have m3 := blk_cell hblk1 3
      have m4 := blk_cell hblk1 4
      have m5 := blk_cell hblk1 5
      have m6 := blk_cell hblk1 6
      have hEk := HL.out.1.below hB1
      have hbk : base ≤ wr.heap.size := by have := HL.out.2.size; omega
      have HEk := Lib.hid hEk
      have HBK := Lib.hid (HL.out.2.trans (hB1.mono hbk))
      have HW0 := Lib.hid hW0
      have HW1 := Lib.hid hW1
      have HROW := Lib.hid hrow
      have HX := Lib.hid hx
      have HDV := Lib.hid (hdv.below hB1)
      have HKV := Lib.hid (hkv.below hB1)
      have hs1 : base ≤ W1.heap.size := by have := hB1.size; omega
      have hl2 : (l0 ++ fat big (d + 1) (fs.take k)).length < 1000000 := by rw [List.length_append]; omega
      have HNE := Lib.hid hnest
      have HNU := Lib.hid hnum
      have HFR := Lib.hid (blk_frozen hblk1)
      have HB1 := Lib.hid hB1
      clear hRk hblk0 hblk1 hEk hrow hx hdv hkv hB0 hB1 hfl htl hnest hnum hW0 hW1
      go_wp2_with fail
      refine (within57 ty 0 65535 _ (by omega) (by omega)).mono ?_
      rintro e w' ⟨rfl, rfl⟩
      go_wp2_with fail
      refine (fits80 ty kind fl n text _ _ _ hkind HNU.out).mono ?_
      rintro e w' ⟨rfl, rfl⟩
      rw [← HW0.out, ← HW1.out]
      have hc : kind = 0 ∨ kind = 1 ∨ kind = 2 ∨ kind = 3 ∨ kind = 4 ∨ kind = 5 ∨ kind = 6 ∨ kind = 7 ∨ kind = 8 ∨ kind = 9 ∨ kind = 10 ∨ kind = 11 := by omega
      rcases hc with rfl | rfl | rfl | rfl | rfl | rfl | rfl | rfl | rfl | rfl | rfl | rfl
      all_goals (obtain ⟨n0, n1, n2, n4, n5, n6, n10⟩ := HNU.out; simp only [Int.reduceEq, forall_const, false_implies] at n0 n1 n2 n4 n5 n6 n10)
      · go_wp2_with fail
        refine (enc81 W1 base g big _ ty n HEk.out hs1 hl2).mono ?_
        rintro e w2 ⟨rfl, hE2, hB2⟩
        have HF2 := Lib.hid (Enc.more (w := w) HROW.out (by simp [isKept]) (fk0 big (fbytes big d) ty fl n text data kids n0) HBK.out hE2 hB2)
        clear hE2 hB2
        go_wp2_with fail
        go_roundw
        case rel => exact ⟨k + 1, by omega, int_eq (by omega), HF2⟩
        case measure => simp [intOf]; omega
      · go_wp2_with fail
        refine (enc82 W1 base g big _ ty n n1 HEk.out hs1 hl2).mono ?_
        rintro e w2 ⟨rfl, hE2, hB2⟩
        have HF2 := Lib.hid (Enc.more (w := w) HROW.out (by simp [isKept]) (fk1 big (fbytes big d) ty fl n text data kids n1) HBK.out hE2 hB2)
        clear hE2 hB2
        go_wp2_with fail
        go_roundw
        case rel => exact ⟨k + 1, by omega, int_eq (by omega), HF2⟩
        case measure => simp [intOf]; omega
      · go_wp2_with fail
        refine (enc83 W1 base g big _ ty n n2 HEk.out hs1 hl2).mono ?_
        rintro e w2 ⟨rfl, hE2, hB2⟩
        have HF2 := Lib.hid (Enc.more (w := w) HROW.out (by simp [isKept]) (fk2 big (fbytes big d) ty fl n text data kids n2) HBK.out hE2 hB2)
        clear hE2 hB2
        go_wp2_with fail
        go_roundw
        case rel => exact ⟨k + 1, by omega, int_eq (by omega), HF2⟩
        case measure => simp [intOf]; omega
      · go_wp2_with fail
        refine (enc84 W1 base g big _ ty _ ?_ HEk.out hs1 hl2).mono ?_
        · rw [IntKind.wrap_u64]; omega
        rintro e w2 ⟨rfl, hE2, hB2⟩
        have HF2 := Lib.hid (Enc.more (w := w) HROW.out (by simp [isKept]) ((fk3 big (fbytes big d) ty fl n text data kids).trans (by rw [IntKind.wrap_u64])) HBK.out hE2 hB2)
        clear hE2 hB2
        go_wp2_with fail
        go_roundw
        case rel => exact ⟨k + 1, by omega, int_eq (by omega), HF2⟩
        case measure => simp [intOf]; omega
      · go_wp2_with fail
        refine (enc85 W1 base g big _ ty n HEk.out hs1 hl2).mono ?_
        rintro e w2 ⟨rfl, hE2, hB2⟩
        have HF2 := Lib.hid (Enc.more (w := w) HROW.out (by simp [isKept]) (fk4 big (fbytes big d) ty fl n text data kids) HBK.out hE2 hB2)
        clear hE2 hB2
        go_wp2_with fail
        go_roundw
        case rel => exact ⟨k + 1, by omega, int_eq (by omega), HF2⟩
        case measure => simp [intOf]; omega
      · go_wp2_with fail
        refine (enc86 W1 base g big _ ty n HEk.out hs1 hl2).mono ?_
        rintro e w2 ⟨rfl, hE2, hB2⟩
        have HF2 := Lib.hid (Enc.more (w := w) HROW.out (by simp [isKept]) (fk5 big (fbytes big d) ty fl n text data kids) HBK.out hE2 hB2)
        clear hE2 hB2
        go_wp2_with fail
        go_roundw
        case rel => exact ⟨k + 1, by omega, int_eq (by omega), HF2⟩
        case measure => simp [intOf]; omega
      · go_wp2_with fail
        refine (enc87 W1 base g big _ ty n HEk.out hs1 hl2).mono ?_
        rintro e w2 ⟨rfl, hE2, hB2⟩
        have HF2 := Lib.hid (Enc.more (w := w) HROW.out (by simp [isKept]) (fk6 big (fbytes big d) ty fl n text data kids) HBK.out hE2 hB2)
        clear hE2 hB2
        go_wp2_with fail
        go_roundw
        case rel => exact ⟨k + 1, by omega, int_eq (by omega), HF2⟩
        case measure => simp [intOf]; omega
      · go_wp2_with fail
        refine (enc88 W1 base g big _ ty n HEk.out hs1 hl2).mono ?_
        rintro e w2 ⟨rfl, hE2, hB2⟩
        have HF2 := Lib.hid (Enc.more (w := w) HROW.out (by simp [isKept]) (fk7 big (fbytes big d) ty fl n text data kids) HBK.out hE2 hB2)
        clear hE2 hB2
        go_wp2_with fail
        go_roundw
        case rel => exact ⟨k + 1, by omega, int_eq (by omega), HF2⟩
        case measure => simp [intOf]; omega
      · go_wp2_with fail
        refine (enc89 W1 base g big _ ty text (by omega) HEk.out hs1 hl2).mono ?_
        rintro e w2 ⟨rfl, hE2, hB2⟩
        have HF2 := Lib.hid (Enc.more (w := w) HROW.out (by simp [isKept]) (fk8 big (fbytes big d) ty fl n text data kids) HBK.out hE2 hB2)
        clear hE2 hB2
        go_wp2_with fail
        go_roundw
        case rel => exact ⟨k + 1, by omega, int_eq (by omega), HF2⟩
        case measure => simp [intOf]; omega
      · go_wp2_with (at_builtin; go_must (refine dup_list (W := W1) HDV.out (by omega) rfl (.const (.slice none 0 0)) (.tmp 108) rfl rfl rfl ?_); intro A9 c9 w9 H9)
        refine (enc90 w9 base g big _ ty _ data (by omega) (HEk.out.below H9.out.2) (Nat.le_trans hs1 H9.out.2.size) hl2 (H9.out.1.mono fun k hk => Enc.fresh HEk.out hs1 H9.out.2 k hk)).mono ?_
        rintro e w2 ⟨rfl, hE2, hB2⟩
        have HF2 := Lib.hid (Enc.more (w := w) HROW.out (by simp [isKept]) (fk9 big (fbytes big d) ty fl n text data kids) (HBK.out.trans (H9.out.2.mono hs1)) hE2 hB2)
        clear hE2 hB2
        go_wp2_with fail
        go_roundw
        case rel => exact ⟨k + 1, by omega, int_eq (by omega), HF2⟩
        case measure => simp [intOf]; omega
      · rcases n10 with rfl | rfl
        · go_wp2_with fail
          refine (enc91_false W1 base g big _ ty HEk.out).mono ?_
          rintro e w2 ⟨rfl, rfl⟩
          have HF2 : Hid (Enc W1 base g big (l0 ++ fat big (d + 1) (fs.take (k + 1))) ∧ Below base w W1) := ⟨by rw [HROW.out, fat_snoc, if_neg (by simp [isKept]), List.append_nil]; exact HEk.out, HBK.out⟩
          go_wp2_with fail
          go_roundw
          case rel => exact ⟨k + 1, by omega, int_eq (by omega), HF2⟩
          case measure => simp [intOf]; omega
        · go_wp2_with fail
          refine (enc91_true W1 base g big _ ty HEk.out hs1 hl2).mono ?_
          rintro e w2 ⟨rfl, hE2, hB2⟩
          have HF2 := Lib.hid (Enc.more (w := w) HROW.out (by simp [isKept]) (fk10 big (fbytes big d) ty fl 1 text data kids) HBK.out hE2 hB2)
          clear hE2 hB2
          go_wp2_with fail
          go_roundw
          case rel => exact ⟨k + 1, by omega, int_eq (by omega), HF2⟩
          case measure => simp [intOf]; omega
      · obtain ⟨hk1, hk2⟩ := HNE.out rfl
        go_wp2_with fail
        refine (nested92 HI.out W1 base g wr.heap.size big _ ty _ kids HEk.out hs1 hl2 ⟨ht0, ht1⟩ m6 (HKV.out.mono fun k hk => by omega) hk1 (by omega) hk2).mono ?_
        rintro e w2 ⟨rfl, hE2, hB2⟩
        have HF2 := Lib.hid (Enc.more (w := w) HROW.out (by simp [isKept]) (fk11 big (fbytes big d) ty fl n text data kids) HBK.out hE2 hB2)
        clear hE2 hB2
        go_wp2_with fail
        go_roundw
        case rel => exact ⟨k + 1, by omega, int_eq (by omega), HF2⟩
        case measure => simp [intOf]; omega
    · obtain rfl : k = fs.length := by omega
      rw [List.take_length] at HL
      go_wp2_with fail
      go_ret
      exact ⟨rfl, HL⟩

set_option maxRecDepth 1000000 in
set_option maxHeartbeats 800000 in
theorem encode51_zero : EncSpec 0 := by
  intro big w base g l0 v fs hE hb hR hF hl
  have hfs : fs = [] := by
    rcases Nat.eq_zero_or_pos fs.length with h | h
    · exact List.eq_nil_of_length_eq_zero h
    · obtain ⟨b, off, c, _, _, _, _, _, hc⟩ := hR.at_ h
      obtain ⟨cs, _, hf⟩ := hc 0 _ (List.getElem?_eq_getElem h)
      exact hf.elim
  subst hfs
  obtain ⟨A, c, rfl, hlc, hcm⟩ := hR.form
  rw [fat_nil, List.append_nil]
  have HE := Lib.hid hE
  clear hE hR hF hl
  go_enter Try.func51, Try.ntmps51
  go_wp2_with fail
  refine wp_loop_rounds 1 ?_
  rw [rounds_succ]
  go_wp2_with fail
  go_ret
  exact ⟨rfl, Lib.hid ⟨HE.out, Below.refl _ _⟩⟩
theorem encode51 (d : Nat) : EncSpec d := by
  induction d with
  | zero => exact encode51_zero
  | succ d ih => exact encode51_succ d ih
end Go.Proofs.Ytgijhgonpgidiaa
