/-
  Contract of ProperField (printed by gen_prg.py). No statement of the seat is proved here.
-/
import Derived.Test.YtgijhgonpgidiaaPrL
import Derived.Deep.DeepCutAuto
namespace Go.Proofs.Ytgijhgonpgidiaa
open Go.RowKit Go.Proofs.YtgijhgonpgidiaaW.PrintWords

def NoIf (c : Value) (P : Prop) : Prop := ∃ b, c = .bool b ∧ (b = false → P)
theorem NoIf.yes (P : Prop) : NoIf (.bool true) P := ⟨true, rfl, fun h => by cases h⟩
theorem NoIf.no {P : Prop} (h : P) : NoIf (.bool false) P := ⟨false, rfl, fun _ => h⟩
theorem text_nil {text : ByteArray} (h : text.toList = []) : text = ⟨#[]⟩ := by
  rw [ByteArray.toList_eq] at h
  obtain ⟨⟨l⟩⟩ := text
  have h1 : l = [] := h
  rw [h1]
def Good40 (ty k fl n : Int) (text : ByteArray) (dn kn : Nat) : Prop :=
  inBits ty 14 = true ∧ fl = 0 ∧ (0 ≤ k ∧ k ≤ 11) ∧ (k ≠ 8 → text = ⟨#[]⟩) ∧ (k ≠ 9 → dn = 0) ∧ (k ≠ 11 → kn = 0) ∧ (7 < k → k ≠ 10 → n = 0)

theorem pr_of {d : Nat} {ty k fl n : Int} {text : ByteArray} {data : List Int} {kids : List Fld} (h : Good40 ty k fl n text data.length kids.length) (h8 : k = 8 → txOk text = true) (h9 : k = 9 → data.length ≤ 100) (hn : numOk k n) (h11 : k = 11 → kids.length ≤ 10 ∧ ∀ x ∈ kids, PR d x) : PR (d + 1) ⟨ty, k, fl, n, text, data, kids⟩ := by
  obtain ⟨g1, g2, g3, g4, g5, g6, g7⟩ := h
  have h1 := (inBits_iff _ _).1 g1
  exact ⟨⟨h1.1, by simpa using h1.2⟩, g2, g3, g4, fun hk => List.eq_nil_of_length_eq_zero (g5 hk), fun hk => List.eq_nil_of_length_eq_zero (g6 hk), g7, h8, h9, hn, h11⟩
set_option maxRecDepth 100000 in
set_option maxHeartbeats 6400000 in
theorem pf40_succ (d : Nat) (H : P20 d) : P40 (d + 1) := by
  intro hd100 e w ok x cs hE hN
  obtain ⟨ty, k, fl, n, text, data, kids⟩ := x
  obtain ⟨dv, kv, rfl, hd, hkv⟩ := hE
  obtain ⟨dA, dc, rfl, hdc⟩ := hd.form
  obtain ⟨kA, kc, rfl, hkc⟩ := hkv.form
  obtain ⟨hn, hib0, hsz⟩ := hN.here
  have hNK := hN.kids_ rfl
  have HH := Lib.hid (H (by omega))
  have HNK := Lib.hid hNK
  have HKV := Lib.hid hkv
  simp only at hdc hkc hn hsz
  have hdn : data.length ≤ 9223372036854775807 := by omega
  have hkn : kids.length ≤ 9223372036854775807 := by omega
  clear hib0 hNK H hkv hN hd hdc hkc
  obtain ⟨deep, hdeep⟩ : ∃ deep : Int, deep = (d : Int) + 1 := ⟨_, rfl⟩
  rw [show ((d + 1 : Nat) : Int) = deep by rw [hdeep]; push_cast; rfl]
  have hdd : ¬ deep = 0 := by omega
  have HDE := Lib.hid hdeep
  clear hdeep
  obtain ⟨dn, hdl⟩ : ∃ dn, dn = data.length := ⟨_, rfl⟩
  obtain ⟨kn, hkl⟩ : ∃ kn, kn = kids.length := ⟨_, rfl⟩
  have HDL := Lib.hid hdl
  have HKL := Lib.hid hkl
  simp only []
  rw [← hdl] at hdn ⊢
  rw [← hkl] at hkn ⊢
  clear hdl hkl
  obtain ⟨q, hq⟩ : ∃ q, q = w.heap.size := ⟨_, rfl⟩
  obtain ⟨W, hW⟩ : ∃ W, W = w.alloc (.cells #[.int .i64 ty, .int .i64 k, .int .i64 fl, .int .i64 n, .string text, .slice dA dn dc, .slice kA kn kc] 65) := ⟨_, rfl⟩
  have hB : Below w.heap.size w W := by rw [hW]; exact (Below.refl _ _).alloc (Nat.le_refl _) _
  have k0 : W.heap[q]? = some (.cells #[.int .i64 ty, .int .i64 k, .int .i64 fl, .int .i64 n, .string text, .slice dA dn dc, .slice kA kn kc] 65) := by rw [hW, hq]; exact heap_alloc_new _ _
  have a0 : W.cell? ⟨q, 0, none⟩ = some (.int .i64 ty) := blk_cell k0 0
  have a1 : W.cell? ⟨q, 1, none⟩ = some (.int .i64 k) := blk_cell k0 1
  have a2 : W.cell? ⟨q, 2, none⟩ = some (.int .i64 fl) := blk_cell k0 2
  have a3 : W.cell? ⟨q, 3, none⟩ = some (.int .i64 n) := blk_cell k0 3
  have a4 : W.cell? ⟨q, 4, none⟩ = some (.string text) := blk_cell k0 4
  have a5 : W.cell? ⟨q, 5, none⟩ = some (.slice dA dn dc) := blk_cell k0 5
  have a6 : W.cell? ⟨q, 6, none⟩ = some (.slice kA kn kc) := blk_cell k0 6
  have K0 := Lib.hid k0
  have HW := Lib.hid hW
  have HB := Lib.hid hB
  clear hB hW k0
  go_enter Try.func40, Try.ntmps40
  simp only [List.append_eq, List.cons_append, List.nil_append]
  go_upto_region 1 with (fail)
  rw [← hq, ← HW.out]
  clear hq
  go_cut [75] (fun s75 wx => NoIf s75 (Good40 ty k fl n text dn kn) ∧ wx = W)
  case first =>
    go_wp2_with fail
    refine (within60_14 ty _).mono ?_
    rintro e w' ⟨rfl, rfl⟩
    cases hib : inBits ty 14
    · clear hib
      go_wp2_with fail
      go_meet
      exact ⟨NoIf.yes _, rfl⟩
    have HIB := Lib.hid hib
    clear hib
    by_cases hfl : fl = 0
    rotate_left
    · go_wp2_with fail
      go_meet
      first | exact ⟨NoIf.yes _, rfl⟩ | exact ⟨⟨_, rfl, fun h => (by simp at h; omega)⟩, rfl⟩
    subst hfl
    by_cases hk0 : k < 0
    · go_wp2_with fail
      go_meet
      first | exact ⟨NoIf.yes _, rfl⟩ | exact ⟨⟨_, rfl, fun h => (by simp at h; omega)⟩, rfl⟩
    by_cases hk1 : 11 < k
    · go_wp2_with fail
      go_meet
      first | exact ⟨NoIf.yes _, rfl⟩ | exact ⟨⟨_, rfl, fun h => (by simp at h; omega)⟩, rfl⟩
    by_cases hk8 : k = 8
    · subst hk8
      by_cases hdl : 0 < dn
      · go_wp2_with fail
        go_meet
        first | exact ⟨NoIf.yes _, rfl⟩ | exact ⟨⟨_, rfl, fun h => (by simp at h; omega)⟩, rfl⟩
      obtain rfl : dn = 0 := by omega
      by_cases hkl : 0 < kn
      · go_wp2_with fail
        go_meet
        first | exact ⟨NoIf.yes _, rfl⟩ | exact ⟨⟨_, rfl, fun h => (by simp at h; omega)⟩, rfl⟩
      obtain rfl : kn = 0 := by omega
      by_cases hn0 : n = 0
      rotate_left
      · go_wp2_with fail
        go_meet
        first | exact ⟨NoIf.yes _, rfl⟩ | exact ⟨⟨_, rfl, fun h => (by simp at h; omega)⟩, rfl⟩
      subst hn0
      go_wp2_with fail
      go_meet
      exact ⟨⟨_, rfl, fun _ => ⟨HIB.out, rfl, by omega, fun h => absurd rfl h, fun _ => rfl, fun _ => rfl, fun _ _ => rfl⟩⟩, rfl⟩
    by_cases htx : text.toList = []
    rotate_left
    · go_wp2_with fail
      go_meet
      first | exact ⟨NoIf.yes _, rfl⟩ | exact ⟨⟨_, rfl, fun h => (by simp at h; omega)⟩, rfl⟩
    obtain rfl := text_nil htx
    clear htx
    by_cases hk9 : k = 9
    · subst hk9
      by_cases hkl : 0 < kn
      · go_wp2_with fail
        go_meet
        first | exact ⟨NoIf.yes _, rfl⟩ | exact ⟨⟨_, rfl, fun h => (by simp at h; omega)⟩, rfl⟩
      obtain rfl : kn = 0 := by omega
      by_cases hn0 : n = 0
      rotate_left
      · go_wp2_with fail
        go_meet
        first | exact ⟨NoIf.yes _, rfl⟩ | exact ⟨⟨_, rfl, fun h => (by simp at h; omega)⟩, rfl⟩
      subst hn0
      go_wp2_with fail
      go_meet
      exact ⟨⟨_, rfl, fun _ => ⟨HIB.out, rfl, by omega, fun _ => rfl, fun h => absurd rfl h, fun _ => rfl, fun _ _ => rfl⟩⟩, rfl⟩
    by_cases hdl : 0 < dn
    · go_wp2_with fail
      go_meet
      first | exact ⟨NoIf.yes _, rfl⟩ | exact ⟨⟨_, rfl, fun h => (by simp at h; omega)⟩, rfl⟩
    obtain rfl : dn = 0 := by omega
    by_cases hk11 : k = 11
    · subst hk11
      by_cases hn0 : n = 0
      rotate_left
      · go_wp2_with fail
        go_meet
        first | exact ⟨NoIf.yes _, rfl⟩ | exact ⟨⟨_, rfl, fun h => (by simp at h; omega)⟩, rfl⟩
      subst hn0
      go_wp2_with fail
      go_meet
      exact ⟨⟨_, rfl, fun _ => ⟨HIB.out, rfl, by omega, fun _ => rfl, fun _ => rfl, fun h => absurd rfl h, fun _ _ => rfl⟩⟩, rfl⟩
    by_cases hkl : 0 < kn
    · go_wp2_with fail
      go_meet
      first | exact ⟨NoIf.yes _, rfl⟩ | exact ⟨⟨_, rfl, fun h => (by simp at h; omega)⟩, rfl⟩
    obtain rfl : kn = 0 := by omega
    by_cases hk10 : k = 10
    · subst hk10
      go_wp2_with fail
      go_meet
      exact ⟨⟨_, rfl, fun _ => ⟨HIB.out, rfl, by omega, fun _ => rfl, fun _ => rfl, fun _ => rfl, fun _ h => absurd rfl h⟩⟩, rfl⟩
    have hk7 : ¬ 7 < k := by omega
    go_wp2_with fail
    go_meet
    exact ⟨⟨_, rfl, fun _ => ⟨HIB.out, rfl, by omega, fun _ => rfl, fun _ => rfl, fun _ => rfl, fun h => by omega⟩⟩, rfl⟩
  case rest =>
    obtain ⟨⟨b, hb0, hb⟩, hwc⟩ := hcut
    rw [hwc, hb0]
    clear hb0 hwc
    cases b
    rotate_left
    · clear hb
      go_wp2_with fail
      go_ret
      exact ⟨⟨false, rfl, fun h => by cases h⟩, HB⟩
    have hG := hb rfl
    rw [HDL.out, HKL.out] at hG
    have HG := Lib.hid hG
    obtain ⟨g1, g2, g3, g4, g5, g6, g7⟩ := hG
    clear hb g1 g2 g4 g5 g6 g7
    by_cases hk8 : k = 8
    · subst hk8
      go_wp2_with fail
      go_loopw [83] (fun i wr => ∃ k : Nat, k ≤ text.size ∧ i = .int .i64 k ∧ Hid (txZ text k = true ∧ Below W.heap.size W wr)) (fun i _ => text.size - (intOf i).toNat)
      case atStart => exact ⟨0, Nat.zero_le _, rfl, Lib.hid ⟨rfl, Below.refl _ _⟩⟩
      case round =>
        obtain ⟨k, hk, rfl, HL⟩ := hrel
        have c4 : wr.cell? ⟨q, 4, none⟩ = some (.string text) := blk_cell (blk_below K0.out HL.out.2) 4
        by_cases hlt : k < text.size
        · by_cases hz : (bytesOf text)[k]? = some 0
          · have hby : (text[k].toNat : Int) = 0 := by have := bytesOf_at text hlt; rw [hz] at this; exact (Option.some.inj this).symm
            clear hz
            go_wp2_with fail
            go_ret
            exact ⟨⟨false, rfl, fun h => by cases h⟩, Lib.hid (below_then HB.out HB.out.size HL.out.2)⟩
          · have hby : ¬ (text[k].toNat : Int) = 0 := fun h => hz (by rw [bytesOf_at text hlt, h])
            have HT := Lib.hid (txZ_go hlt hz HL.out.1)
            clear hz
            go_wp2_with fail
            go_roundw
            case rel => exact ⟨k + 1, by omega, int_eq (by omega), Lib.hid ⟨HT.out, HL.out.2⟩⟩
            case measure => simp [intOf]; omega
        · obtain rfl : k = text.size := by omega
          go_wp2_with fail
          go_ret
          refine ⟨⟨_, rfl, fun h => pr_of HG.out (fun _ => ?_) (fun h => by omega) (by simp [numOk]) (fun h => by omega)⟩, Lib.hid (below_then HB.out HB.out.size HL.out.2)⟩
          rw [txOk, HL.out.1]; simp at h ⊢; omega
    by_cases hk9 : k = 9
    · subst hk9
      go_wp2_with fail
      go_ret
      exact ⟨⟨_, rfl, fun h => pr_of HG.out (fun h => by omega) (fun _ => by rw [← HDL.out]; simp at h; omega) (by simp [numOk]) (fun h => by omega)⟩, HB⟩
    by_cases hk10 : k = 10
    · subst hk10
      by_cases hn0 : n = 0
      · subst hn0
        go_wp2_with fail
        go_ret
        exact ⟨⟨_, rfl, fun h => pr_of HG.out (fun h => by omega) (fun h => by omega) (by simp [numOk]) (fun h => by omega)⟩, HB⟩
      · go_wp2_with fail
        go_ret
        refine ⟨⟨_, rfl, fun h => pr_of HG.out (fun h => by omega) (fun h => by omega) ?_ (fun h => by omega)⟩, HB⟩
        have h1 : n = 1 := by simp at h; omega
        simp [numOk, h1]
    by_cases hk11 : k = 11
    · subst hk11
      have hdp := HDE.out
      have hkk := HKL.out
      have HC := Lib.hid (HH.out e W _ _ kids (HKV.out.below HB.out) HNK.out)
      rw [← hkk] at HC
      obtain ⟨d', hd'⟩ : ∃ d' : Int, d' = (d : Int) := ⟨_, rfl⟩
      rw [← hd'] at HC hdp
      have hdr : 0 ≤ d' ∧ d' ≤ 100 := by omega
      subst hdp
      clear hkk hd'
      go_wp2_with fail
      refine HC.out.mono ?_
      rintro r w2 ⟨⟨y, rfl, hy⟩, H2⟩
      have HY := Lib.hid hy
      have HB2 := Lib.hid (below_then HB.out HB.out.size H2.out)
      clear hy H2
      go_wp2_with fail
      go_ret
      exact ⟨⟨_, rfl, fun h => pr_of HG.out (fun h => by omega) (fun h => by omega) (by simp [numOk]) (fun _ => by have := HY.out h; rw [HKL.out] at this; exact this)⟩, HB2⟩
    have hk7 : 0 ≤ k ∧ k ≤ 7 := by omega
    go_wp2_with fail
    refine (num73 k n W hk7 hn).mono ?_
    rintro r w2 ⟨⟨y, rfl, hy⟩, rfl⟩
    have HY := Lib.hid hy
    clear hy
    go_wp2_with fail
    go_ret
    exact ⟨⟨_, rfl, fun h => pr_of HG.out (fun h => by omega) (fun h => by omega) (HY.out h) (fun h => by omega)⟩, HB⟩
set_option maxRecDepth 100000 in
set_option maxHeartbeats 6400000 in
theorem pf40_zero : P40 0 := by
  intro hd100 e w ok x cs hE hN
  obtain ⟨ty, k, fl, n, text, data, kids⟩ := x
  obtain ⟨dv, kv, rfl, hd, hkv⟩ := hE
  obtain ⟨dA, dc, rfl, hdc⟩ := hd.form
  obtain ⟨kA, kc, rfl, hkc⟩ := hkv.form
  obtain ⟨hn, hib0, hsz⟩ := hN.here
  have hNK := hN.kids_ rfl
  have HNK := Lib.hid hNK
  have HKV := Lib.hid hkv
  simp only at hdc hkc hn hsz
  have hdn : data.length ≤ 9223372036854775807 := by omega
  have hkn : kids.length ≤ 9223372036854775807 := by omega
  clear hib0 hNK hkv hN hd hdc hkc
  obtain ⟨dn, hdl⟩ : ∃ dn, dn = data.length := ⟨_, rfl⟩
  obtain ⟨kn, hkl⟩ : ∃ kn, kn = kids.length := ⟨_, rfl⟩
  have HDL := Lib.hid hdl
  have HKL := Lib.hid hkl
  simp only []
  rw [← hdl] at hdn ⊢
  rw [← hkl] at hkn ⊢
  clear hdl hkl
  obtain ⟨q, hq⟩ : ∃ q, q = w.heap.size := ⟨_, rfl⟩
  obtain ⟨W, hW⟩ : ∃ W, W = w.alloc (.cells #[.int .i64 ty, .int .i64 k, .int .i64 fl, .int .i64 n, .string text, .slice dA dn dc, .slice kA kn kc] 65) := ⟨_, rfl⟩
  have hB : Below w.heap.size w W := by rw [hW]; exact (Below.refl _ _).alloc (Nat.le_refl _) _
  have k0 : W.heap[q]? = some (.cells #[.int .i64 ty, .int .i64 k, .int .i64 fl, .int .i64 n, .string text, .slice dA dn dc, .slice kA kn kc] 65) := by rw [hW, hq]; exact heap_alloc_new _ _
  have a0 : W.cell? ⟨q, 0, none⟩ = some (.int .i64 ty) := blk_cell k0 0
  have a1 : W.cell? ⟨q, 1, none⟩ = some (.int .i64 k) := blk_cell k0 1
  have a2 : W.cell? ⟨q, 2, none⟩ = some (.int .i64 fl) := blk_cell k0 2
  have a3 : W.cell? ⟨q, 3, none⟩ = some (.int .i64 n) := blk_cell k0 3
  have a4 : W.cell? ⟨q, 4, none⟩ = some (.string text) := blk_cell k0 4
  have a5 : W.cell? ⟨q, 5, none⟩ = some (.slice dA dn dc) := blk_cell k0 5
  have a6 : W.cell? ⟨q, 6, none⟩ = some (.slice kA kn kc) := blk_cell k0 6
  have K0 := Lib.hid k0
  have HW := Lib.hid hW
  have HB := Lib.hid hB
  clear hB hW k0
  go_enter Try.func40, Try.ntmps40
  simp only [List.append_eq, List.cons_append, List.nil_append]
  go_upto_region 1 with (fail)
  rw [← hq, ← HW.out]
  clear hq
  go_wp2_with fail
  refine (within60_14 ty _).mono ?_
  rintro e w' ⟨rfl, rfl⟩
  cases hib : inBits ty 14
  · clear hib
    go_wp2_with fail
    go_ret
    exact ⟨⟨false, rfl, fun h => by cases h⟩, HB⟩
  clear hib
  by_cases hfl : fl = 0
  rotate_left
  · go_wp2_with fail
    go_ret
    exact ⟨⟨false, rfl, fun h => by cases h⟩, HB⟩
  subst hfl
  go_wp2_with fail
  go_ret
  exact ⟨⟨false, rfl, fun h => by cases h⟩, HB⟩
theorem p40_p20 (d : Nat) : P40 d ∧ P20 d := by
  induction d with
  | zero => exact ⟨pf40_zero, pf20 0 pf40_zero⟩
  | succ d ih => exact ⟨pf40_succ d ih.2, pf20 (d + 1) (pf40_succ d ih.2)⟩
theorem p20_all (d : Nat) (hd : d ≤ 100) (e : Nat) (w : World) (ok : Nat → Prop) (v : Value) (fs : List Fld) (hR : (elF e).Rd ok w v fs) (hN : ∀ x ∈ fs, NR e x) :
    Calls Try.prog 20 #[v, .int .i64 d] w fun r w' => YesIf r (fs.length ≤ 10 ∧ ∀ x ∈ fs, PR d x) ∧ Hid (Below w.heap.size w w') := (p40_p20 d).2 hd e w ok v fs hR hN
end Go.Proofs.Ytgijhgonpgidiaa

