/-
  Contracts of checkMessage where an error is told. No statement of the seat is proved here.
-/
import Derived.Test.YtgijhgonpgidiaaKind
import Derived.Test.YtgijhgonpgidiaaChk
import Derived.Test.YtgijhgonpgidiaaFail
namespace Go.Proofs.Ytgijhgonpgidiaa
open Go.RowKit Go.Proofs.YtgijhgonpgidiaaW.PrintWords

/-- An error of the package: its number, its text and place, the sequence number. -/
def opE (num : Int) (text : ByteArray) (off s : Int) : Obj := .cells #[.string ⟨#[114, 101, 99, 101, 105, 118, 101]⟩, .iface 128 (.int .i64 num), .string text, .int .i64 off, .int .u32 s] 131

/-- The number that the first bytes tell. -/
theorem neg_g4 (num : Int) (r : List Int) (h : 1 ≤ num ∧ num ≤ 4095) : g4 (putB (-num) 4 ++ r) = 4294967296 - num := by
  rw [g4_append (by rw [putB_length]; omega)]
  simp only [putB, g4, List.getD_cons_zero, List.getD_cons_succ]
  omega

set_option maxHeartbeats 400000 in
theorem errno128 (n : Int) (w : World) : Calls Try.prog 128 #[.int .i64 n] w fun e w' => e = .returned (.iface 128 (.int .i64 n)) ∧ w = w' := by
  go_enter Try.func128, Try.ntmps128
  go_wp2_with fail
  go_ret
  exact ⟨rfl, rfl⟩

set_option maxRecDepth 100000 in
set_option maxHeartbeats 3200000 in
/-- An error's number alone. -/
theorem check106_num (num L f s p : Int) (dv : Value) (rest : List Int) (ok : Nat → Prop) (w : World) (hS : Sl ok w dv (putB (-num) 4 ++ rest)) (hb : IsB rest) (hn : 1 ≤ num ∧ num ≤ 4095) (hf : bits .and .u16 f 512 = 0) :
    Calls Try.prog 106 #[.agg #[.int .u32 L, .int .u16 2, .int .u16 f, .int .u32 s, .int .u32 p, dv]] w fun e w' => ∃ a, e = .returned (.iface 126 (.pointer (some a))) ∧ Hid (∃ z, a = ⟨z, 0, none⟩ ∧ w.heap.size ≤ z ∧ w'.heap[z]? = some (opE num ⟨#[]⟩ 0 s) ∧ Below w.heap.size w w') := by
  obtain ⟨data, hdata⟩ : ∃ d, d = putB (-num) 4 ++ rest := ⟨_, rfl⟩
  have hdl : 4 ≤ data.length := by rw [hdata, List.length_append, putB_length]; omega
  have hib : IsB data := by rw [hdata]; exact (putB_isB _ _).append hb
  have hg : g4 (data.take 4) = 4294967296 - num := by
    rw [← neg_g4 num rest hn, ← hdata]
    have e := (List.take_append_drop 4 data).symm
    conv => rhs; rw [e]
    rw [g4_append (by rw [List.length_take]; omega)]
  rw [← hdata] at hS
  obtain ⟨b, off, c, rfl, hc, hcm, _, _, _⟩ := hS.at_ (by omega)
  have h4i : ¬ ((data.length : Int) < 4) := by omega
  have h4c : (4 : Int) ≤ (c : Int) := by omega
  have h4c2 : 4 ≤ c := by omega
  have hc0 : ¬ c = 0 := by omega
  obtain ⟨q, hq⟩ : ∃ q, q = w.heap.size := ⟨_, rfl⟩
  obtain ⟨W, hW⟩ : ∃ W, W = w.alloc (.cells #[.int .u32 L, .int .u16 2, .int .u16 f, .int .u32 s, .int .u32 p, .slice (some ⟨b, off, none⟩) data.length c] 113) := ⟨_, rfl⟩
  have hB : Below w.heap.size w W := by rw [hW]; exact (Below.refl _ _).alloc (Nat.le_refl _) _
  have k0 : W.heap[q]? = some (.cells #[.int .u32 L, .int .u16 2, .int .u16 f, .int .u32 s, .int .u32 p, .slice (some ⟨b, off, none⟩) data.length c] 113) := by rw [hW, hq]; exact heap_alloc_new _ _
  have hS2 := (hS.below hB).sub 0 4 (by omega) hdl (some ⟨b, off, none⟩) (fun _ => rfl)
  simp only [Nat.sub_zero, List.drop_zero] at hS2
  have HS2 := Lib.hid hS2
  have HB := Lib.hid hB
  have HIB := Lib.hid (hib.take 4)
  have HL : Hid (4 ≤ (data.take 4).length) := Lib.hid (by rw [List.length_take]; omega)
  have HG := Lib.hid hg
  have HW := Lib.hid hW
  have HQ := Lib.hid hq
  have K0 := Lib.hid k0
  have hwr : IntKind.i32.wrap (4294967296 - num) = -num := by rw [IntKind.wrap_i32]; omega
  have hnz : (-num == 0) = false := by simp; omega
  have hn1 := hn.1
  have hn2 := hn.2
  clear hS hb hn hB hS2 hg hW k0 hib hdata
  have HMU : Hid (IntKind.i64.wrap (-IntKind.i64.wrap (-num)) = num) := Lib.hid (by rw [IntKind.wrap_i64, IntKind.wrap_i64]; omega)
  go_enter Try.func106, Try.ntmps106
  go_wp2_with fail
  rw [← hq, ← HW.out]
  clear hq
  refine (get99 HS2.out HL.out HIB.out).mono ?_
  rintro e w1 ⟨rfl, n1, hw1⟩
  rw [HG.out]
  have HB1 := Lib.hid (show Below w.heap.size w w1 by rw [hw1]; exact pw_below_drewN HB.out n1)
  have kq := (show w1.heap[q]? = W.heap[q]? by rw [hw1]; rfl).trans K0.out
  have a2 : w1.cell? ⟨q, 2, none⟩ = some (.int .u16 f) := blk_cell kq 2
  have a3 : w1.cell? ⟨q, 3, none⟩ = some (.int .u32 s) := blk_cell kq 3
  have hql := blk_lt kq
  clear hw1 kq
  go_wp2_with fail
  go_region_law (first
    | (go_simp; go_at_call 128; refine (errno128 _ _).mono ?_; rintro e w' ⟨rfl, rfl⟩))
  all_goals
    rw [HMU.out]
    go_wp2_with fail
    go_ret
    exact ⟨_, rfl, Lib.hid ⟨_, rfl, HB1.out.size, heap_alloc_new w1 _, (HB1.out.alloc HB1.out.size _).drew⟩⟩

/-! ### An error's number, its text and its place -/
theorem strOf_bytes (s : ByteArray) : strOfNums (bytesOf s) = s := by
  obtain ⟨⟨l⟩⟩ := s
  simp only [strOfNums, bytesOf, List.map_map]
  congr 2
  rw [show ((fun n : Int => UInt8.ofNat n.toNat) ∘ fun b : UInt8 => (b.toNat : Int)) = id from funext fun b => by simp]
  simp
theorem toldA_ok (text : ByteArray) (pl : Int) (h : text.size ≤ 100) : AOk (toldA text pl) := by
  intro a ha
  simp only [toldA, List.mem_cons, List.not_mem_nil, or_false] at ha
  rcases ha with rfl | rfl
  · exact ⟨by simp, by simp [bytesOf_length]; omega⟩
  · exact ⟨by simp, by simp [putB_length]⟩
theorem toldA_isB (text : ByteArray) (pl : Int) : ∀ a ∈ toldA text pl, IsB a.2 := by
  intro a ha
  simp only [toldA, List.mem_cons, List.not_mem_nil, or_false] at ha
  rcases ha with rfl | rfl
  · exact (bytesOf_isB _).append (by intro x hx; simp at hx; omega)
  · exact putB_isB _ _
theorem heads_all {l : List (Int × List Int)} : Heads l (attrsB l).length := ⟨Nat.le_refl _, fun k hk => by
  have h1 := pos_succ (List.getElem?_eq_getElem hk)
  have h2 := pos_le l (k + 1)
  omega⟩
theorem fit_all {l : List (Int × List Int)} {k : Nat} {a : Int × List Int} (h : l[k]? = some a) : pos l k + (4 + a.2.length) ≤ (attrsB l).length := by
  have h1 := pos_succ h
  have h2 := pos_le l (k + 1)
  have h3 := padn_le a.2.length
  omega

set_option maxRecDepth 100000 in
set_option maxHeartbeats 6400000 in
/-- An error's number, its text and its place. -/
theorem check106_told (num L f s p pl : Int) (text : ByteArray) (R : Nat) (dv : Value) (req : List Int) (ok : Nat → Prop) (w : World) (hS : Sl ok w dv (putB (-num) 4 ++ (req ++ attrsB (toldA text pl)))) (hb : IsB req) (hn : 1 ≤ num ∧ num ≤ 4095) (hf : bits .and .u16 f 512 = 512)
    (hR : req.length = R) (hR2 : g4 req = R) (hR3 : 16 ≤ R ∧ R ≤ 2000) (htz : NoZ (bytesOf text)) (htl : text.size ≤ 100) (hpl : 0 ≤ pl ∧ pl < 2147483648) :
    Calls Try.prog 106 #[.agg #[.int .u32 L, .int .u16 2, .int .u16 f, .int .u32 s, .int .u32 p, dv]] w fun e w' => ∃ a, e = .returned (.iface 126 (.pointer (some a))) ∧ Hid (∃ z, a = ⟨z, 0, none⟩ ∧ w.heap.size ≤ z ∧ w'.heap[z]? = some (opE num text pl s) ∧ Below w.heap.size w w') := by
  obtain ⟨l, hl⟩ : ∃ l, l = toldA text pl := ⟨_, rfl⟩
  obtain ⟨data, hdata⟩ : ∃ d, d = putB (-num) 4 ++ (req ++ attrsB l) := ⟨_, rfl⟩
  obtain ⟨TL, hTL⟩ : ∃ n, n = (attrsB l).length := ⟨_, rfl⟩
  have hTLb : TL ≤ 300 := by rw [hTL, hl]; exact (told_len text pl htl).2
  have hTL0 : 0 < TL := by rw [hTL, hl]; exact (told_len text pl htl).1
  have hdl : data.length = 4 + (R + TL) := by rw [hdata, List.length_append, List.length_append, putB_length, hR, hTL]
  have hAo : AOk l := by rw [hl]; exact toldA_ok text pl htl
  have hAi : ∀ a ∈ l, IsB a.2 := by rw [hl]; exact toldA_isB text pl
  have hib : IsB data := by rw [hdata]; exact (putB_isB _ _).append (hb.append (attrsB_isB hAi))
  have hg : g4 (data.take 4) = 4294967296 - num := by
    rw [← neg_g4 num (req ++ attrsB l) hn, ← hdata]
    have e := (List.take_append_drop 4 data).symm
    conv => rhs; rw [e]
    rw [g4_append (by rw [List.length_take]; omega)]
  have hd4 : data.drop 4 = req ++ attrsB l := by rw [hdata, List.drop_left' (putB_length _ _)]
  have hg2 : g4 (data.drop 4) = R := by rw [hd4, g4_append (by omega), hR2]
  have hdo : data.drop (4 + R) = attrsB l := by rw [← List.drop_drop, hd4, List.drop_left' hR]
  rw [← hl, ← hdata] at hS
  obtain ⟨b, off, c, rfl, hc, hcm, _, _, _⟩ := hS.at_ (by omega)
  obtain ⟨D, hD⟩ : ∃ D, D = data.length := ⟨_, rfl⟩
  have h4c : (4 : Int) ≤ (c : Int) := by omega
  have h4c2 : 4 ≤ c := by omega
  have hc0 : ¬ c = 0 := by omega
  have hc4 : ¬ c = 4 := by omega
  obtain ⟨q, hq⟩ : ∃ q, q = w.heap.size := ⟨_, rfl⟩
  obtain ⟨W, hW⟩ : ∃ W, W = w.alloc (.cells #[.int .u32 L, .int .u16 2, .int .u16 f, .int .u32 s, .int .u32 p, .slice (some ⟨b, off, none⟩) D c] 113) := ⟨_, rfl⟩
  have hB : Below w.heap.size w W := by rw [hW]; exact (Below.refl _ _).alloc (Nat.le_refl _) _
  have k0 : W.heap[q]? = some (.cells #[.int .u32 L, .int .u16 2, .int .u16 f, .int .u32 s, .int .u32 p, .slice (some ⟨b, off, none⟩) D c] 113) := by rw [hW, hq]; exact heap_alloc_new _ _
  have hSb := hS.bound.below hB
  have hS2 := hSb.sub 0 4 (by omega) (by omega) (some ⟨b, off, none⟩) (fun _ => rfl)
  simp only [Nat.sub_zero, List.drop_zero] at hS2
  have hS4 := hSb.sub 4 data.length (by omega) (Nat.le_refl _) (some ⟨b, off + 4, none⟩) (fun _ => rfl)
  have hSo := hSb.sub (4 + R) data.length (by omega) (Nat.le_refl _) (some ⟨b, off + (4 + R), none⟩) (fun _ => rfl)
  rw [List.take_length] at hS4 hSo
  rw [hdo] at hSo
  rw [← hD] at hS4 hSo hdl ⊢
  have HS2 := Lib.hid hS2
  have HS4 := Lib.hid hS4
  have HSO := Lib.hid hSo
  have HB := Lib.hid hB
  have HIB := Lib.hid (hib.take 4)
  have HIB4 := Lib.hid (hib.drop 4)
  have HL : Hid (4 ≤ (data.take 4).length) := Lib.hid (by rw [List.length_take]; omega)
  have HL4 : Hid (4 ≤ (data.drop 4).length) := Lib.hid (by rw [List.length_drop]; omega)
  have HG := Lib.hid hg
  have HG2 := Lib.hid hg2
  have HW := Lib.hid hW
  have HQ := Lib.hid hq
  have K0 := Lib.hid k0
  have HAO := Lib.hid hAo
  have HAI := Lib.hid hAi
  have HLE := Lib.hid hl
  have HTL := Lib.hid hTL
  have HTZ := Lib.hid htz
  have hwr : IntKind.i32.wrap (4294967296 - num) = -num := by rw [IntKind.wrap_i32]; omega
  have hnz : (-num == 0) = false := by simp; omega
  have HMU : Hid (IntKind.i64.wrap (-IntKind.i64.wrap (-num)) = num) := Lib.hid (by rw [IntKind.wrap_i64, IntKind.wrap_i64]; omega)
  have hn1 := hn.1
  have hn2 := hn.2
  obtain ⟨hR16, hR20⟩ := hR3
  have hDR : D = 4 + (R + TL) := hdl
  have i1 : ¬ ((D : Int) < 4) := by omega
  have i2 : ¬ ((D : Int) < 20) := by omega
  have i3 : ¬ ((D : Int) < 4 + (R : Int)) := by omega
  have i4 : (4 : Int) ≤ (D : Int) := by omega
  have i5 : 4 + (R : Int) ≤ (D : Int) := by omega
  have i6 : D ≤ 2304 := by omega
  have i7 : 4 + R ≤ D := by omega
  have HDR := Lib.hid hDR
  have hcR : D ≤ c := by omega
  have hcR2 : ¬ c = 4 + R := by omega
  clear hS hb hn hB hS2 hS4 hSo hSb hg hg2 hd4 hdo hW k0 hib hdata hAo hAi hl hTL htz hR hR2 hD hdl hDR hc
  go_enter Try.func106, Try.ntmps106
  go_wp2_with fail
  rw [← hq, ← HW.out]
  clear hq
  refine (get99 HS2.out HL.out HIB.out).mono ?_
  rintro e w1 ⟨rfl, n1, hw1⟩
  rw [HG.out]
  have HB1 := Lib.hid (show Below w.heap.size w w1 by rw [hw1]; exact pw_below_drewN HB.out n1)
  have hW1 : w1.heap = W.heap := by rw [hw1]; rfl
  have kq := (show w1.heap[q]? = W.heap[q]? by rw [hW1]).trans K0.out
  have a2 : w1.cell? ⟨q, 2, none⟩ = some (.int .u16 f) := blk_cell kq 2
  have a3 : w1.cell? ⟨q, 3, none⟩ = some (.int .u32 s) := blk_cell kq 3
  have a5 : w1.cell? ⟨q, 5, none⟩ = some (.slice (some ⟨b, off, none⟩) D c) := blk_cell kq 5
  have HW1 := Lib.hid hW1
  have hql := blk_lt kq
  obtain ⟨z, hz⟩ : ∃ z, z = w1.heap.size := ⟨_, rfl⟩
  obtain ⟨W2, hW2⟩ : ∃ X, X = (w1.alloc (opE num ⟨#[]⟩ 0 s)).drew := ⟨_, rfl⟩
  have hb2 : Below w1.heap.size w1 W2 := by rw [hW2]; exact ((Below.refl _ _).alloc (Nat.le_refl _) _).drew
  have kz2 : W2.heap[z]? = some (opE num ⟨#[]⟩ 0 s) := by rw [hW2, hz]; exact heap_alloc_new w1 _
  have kq2 := blk_below kq hb2
  have HW2 : Hid (W2 = (w1.alloc (.cells #[.string ⟨#[114, 101, 99, 101, 105, 118, 101]⟩, .iface 128 (.int .i64 num), .string ⟨#[]⟩, .int .i64 0, .int .u32 s] 131)).drew) := Lib.hid hW2
  have HZ := Lib.hid hz
  have HB2 := Lib.hid (below_then HB1.out HB1.out.size hb2)
  have KZ2 := Lib.hid kz2
  have KQ2 := Lib.hid kq2
  have HS4b : Hid (Sl (fun k => ok k ∧ k < w.heap.size) W2 (.slice (some ⟨b, off + 4, none⟩) (D - 4) (c - 4)) (data.drop 4)) := Lib.hid ((HS4.out.step fun k hk hlt => by rw [hW1]).below hb2)
  have HSOb : Hid (Sl (fun k => ok k ∧ k < w.heap.size) W2 (.slice (some ⟨b, off + (4 + R), none⟩) (D - (4 + R)) (c - (4 + R))) (attrsB l)) := Lib.hid ((HSO.out.step fun k hk hlt => by rw [hW1]).below hb2)
  clear hw1 kq hW1 hW2 hb2 kz2 kq2
  go_wp2_with fail
  go_region_law (first
    | (go_simp; go_at_call 128; refine (errno128 _ _).mono ?_; rintro e w' ⟨rfl, rfl⟩))
  all_goals
    rw [HMU.out]
    go_wp2_with fail
    rw [← HW2.out]
    refine (get99 HS4b.out HL4.out HIB4.out).mono ?_
    rintro e w2 ⟨rfl, n2, hw2⟩
    rw [HG2.out, ← hz]
    clear hz
    have hW2h : w2.heap = W2.heap := by rw [hw2]; rfl
    have hb2 : Below W2.heap.size W2 w2 := by rw [hw2]; exact pw_below_drewN (Below.refl _ _) _
    have kq := blk_below KQ2.out hb2
    have b5 : w2.cell? ⟨q, 5, none⟩ = some (.slice (some ⟨b, off, none⟩) D c) := blk_cell kq 5
    have hql2 := blk_lt kq
    have KZ3 := Lib.hid (blk_below KZ2.out hb2)
    have HB3 := Lib.hid (below_then HB2.out HB2.out.size hb2)
    have HSOc := Lib.hid (HSOb.out.below hb2)
    obtain ⟨g, hg⟩ : ∃ g, g = (w2.alloc (.cells #[.int .u32 R, .int .u16 0, .int .u16 0, .int .u32 0, .int .u32 0] 111)).heap.size := ⟨_, rfl⟩
    obtain ⟨W3, hW3⟩ : ∃ X, X = w2.alloc (.cells #[.int .u32 R, .int .u16 0, .int .u16 0, .int .u32 0, .int .u32 0] 111) := ⟨_, rfl⟩
    rw [← hW3] at hg
    have hb3 : Below w2.heap.size w2 W3 := by rw [hW3]; exact (Below.refl _ _).alloc (Nat.le_refl _) _
    have HW3 := Lib.hid hW3
    have HGG := Lib.hid hg
    have KZ4 := Lib.hid (blk_below KZ3.out hb3)
    have HB4 := Lib.hid (below_then HB3.out HB3.out.size hb3)
    have HSOd := Lib.hid (HSOc.out.below hb3)
    have hn7 := new77 W3 (.slice (some ⟨b, off + (4 + R), none⟩) (D - (4 + R)) (c - (4 + R))) _ l (attrsB l).length (by rw [List.take_length]; exact HSOd.out) HAO.out heads_all HAI.out (by rw [← HTL.out]; omega)
    rw [← hg] at hn7
    have HN7 := Lib.hid hn7
    clear hw2 hW2h hb2 kq hW3 hg hb3 hn7
    go_wp2_with fail
    rw [← HW3.out]
    refine HN7.out.mono ?_
    rintro e w4 ⟨rfl, H4⟩
    have hg4 := H4.out.1
    have hB4 : Below W3.heap.size W3 w4 := by have := H4.out.2; rw [HGG.out] at this; exact this
    have HB5 := Lib.hid (below_then HB4.out HB4.out.size hB4)
    have KZ5 := Lib.hid (blk_below KZ4.out hB4)
    have HS5 := Lib.hid (HSOd.out.below hB4)
    have hgz : z < g := by rw [HGG.out]; exact blk_lt KZ4.out
    have hgw : w.heap.size ≤ g := by rw [HGG.out]; exact HB4.out.size
    have hl0 : l[0]? = some (1, bytesOf text ++ [0]) := by rw [HLE.out]; rfl
    have hl1 : l[1]? = some (2, putB pl 4) := by rw [HLE.out]; rfl
    have hll : l.length = 2 := by rw [HLE.out]; rfl
    have HL0 := Lib.hid hl0
    have HL1 := Lib.hid hl1
    have HLL := Lib.hid hll
    have hokg : ∀ k, (ok k ∧ k < w.heap.size) → k ≠ g := fun k hk => by omega
    have HOKG := Lib.hid hokg
    have HN8 := Lib.hid (next_at w4 g _ _ _ 0 0 _ l (attrsB l).length 0 _ _ (by rw [pos_zero]; exact hg4) (by rw [List.take_length]; exact HS5.out) hokg HAO.out HAI.out (Nat.le_refl _) hl0 (fit_all hl0) (by rw [← HTL.out]; omega))
    clear hg4 hB4 hl0 hl1 hll hokg
    go_wp2_with fail
    refine wp_loop_rounds 3 ?_
    rw [rounds_succ]
    go_wp2_with fail
    refine HN8.out.mono ?_
    rintro e w5 ⟨rfl, H5⟩
    obtain ⟨A5, c5, hk5, hs5, hg5⟩ := H5.out
    have hB5 : Below w.heap.size w w5 := HB5.out.grown hg5 HB5.out.size fun k hk => by injection hk with hk; omega
    have hz5 := blk_grown KZ5.out hg5 (by intro he; injection he with he; omega)
    have hS5b : Sl (fun k => ok k ∧ k < w.heap.size) w5 (.slice (some ⟨b, off + (4 + R), none⟩) (D - (4 + R)) (c - (4 + R))) (attrsB l) := HS5.out.step fun k hk hlt => hg5.block k hlt (by intro he; injection he with he; exact HOKG.out k hk he)
    have HK5 := Lib.hid hk5
    have HB6 := Lib.hid hB5
    have KZ6 := Lib.hid hz5
    have HS6 := Lib.hid hS5b
    have H118 := Lib.hid (kind118 w5 g _ _ A5 c5 _ _ _ _ (bytesOf text) _ hk5 hs5 HTZ.out (by rw [bytesOf_length]; omega))
    clear hk5 hs5 hg5 hB5 hz5 hS5b H5
    go_wp2_with fail
    refine (type108 w5 g _ _ _ _ _ _ _ _ HK5.out).mono ?_
    rintro e w' ⟨rfl, rfl⟩
    rw [mask14 1 (by omega)]
    go_wp2_with fail
    refine H118.out.mono ?_
    rintro e w6 ⟨rfl, hb6⟩
    rw [strOf_bytes]
    have hz6 := blk_below KZ6.out hb6
    have hk6 := blk_below HK5.out hb6
    have m2 : w6.cell? ⟨z, 2, none⟩ = some (.string ⟨#[]⟩) := blk_cell hz6 2
    have f2 : w6.frozen? ⟨z, 2, none⟩ = false := blk_frozen hz6 2
    obtain ⟨X6, hX6⟩ : ∃ X, X = w6.setCell ⟨z, 2, none⟩ (.string text) := ⟨_, rfl⟩
    have hz7 : X6.heap[z]? = some (opE num text 0 s) := by rw [hX6]; have := blk_set hz6 2 (.string text); simpa [opE] using this
    have hk7 := blk_far hk6 (p := ⟨z, 2, none⟩) (by show g ≠ z; omega) (.string text)
    rw [← hX6] at hk7
    have hwz : w.heap.size ≤ z := by rw [HZ.out]; exact HB1.out.size
    have hb7 : Below w.heap.size w X6 := by rw [hX6]; exact (below_then HB6.out HB6.out.size hb6).setCell (by show _ ≤ z; omega) _
    have hs7 : Sl (fun k => ok k ∧ k < w.heap.size) X6 (.slice (some ⟨b, off + (4 + R), none⟩) (D - (4 + R)) (c - (4 + R))) (attrsB l) := by rw [hX6]; exact (HS6.out.below hb6).step fun k hk _ => Below.heap_setCell _ _ _ _ (by show k ≠ z; omega)
    have HX6 := Lib.hid hX6
    have KZ7 := Lib.hid hz7
    have HB7 := Lib.hid hb7
    have HS7 := Lib.hid hs7
    have HN9 := Lib.hid (next_at X6 g _ _ _ _ _ _ l (attrsB l).length 1 _ _ hk7 (by rw [List.take_length]; exact hs7) HOKG.out HAO.out HAI.out (Nat.le_refl _) HL1.out (fit_all HL1.out) (by rw [← HTL.out]; omega))
    clear hz6 hk6 hX6 hz7 hk7 hb7 hs7 hb6
    go_wp2_with fail
    rw [← HX6.out]
    rw [rounds_succ]
    go_wp2_with fail
    refine HN9.out.mono ?_
    rintro e w8 ⟨rfl, H8⟩
    obtain ⟨A8, c8, hk8, hs8, hg8⟩ := H8.out
    have hB8 : Below w.heap.size w w8 := HB7.out.grown hg8 HB7.out.size fun k hk => by injection hk with hk; omega
    have hz8 := blk_grown KZ7.out hg8 (by intro he; injection he with he; omega)
    have hS8 : Sl (fun k => ok k ∧ k < w.heap.size) w8 (.slice (some ⟨b, off + (4 + R), none⟩) (D - (4 + R)) (c - (4 + R))) (attrsB l) := HS7.out.step fun k hk hlt => hg8.block k hlt (by intro he; injection he with he; exact HOKG.out k hk he)
    have HK8 := Lib.hid hk8
    have HB8 := Lib.hid hB8
    have KZ8 := Lib.hid hz8
    have HS8 := Lib.hid hS8
    have hk112 := kind112 w8 g false _ A8 c8 _ _ _ _ (putB pl 4) _ hk8 hs8 (putB_isB _ _) (putB_length _ _)
    rw [show getO false (putB pl 4) = pl from getO_putO false 4 pl hpl.1 (by have := hpl.2; show pl < 256 ^ 4; omega)] at hk112
    have H112 := Lib.hid hk112
    clear hk8 hs8 hg8 hB8 hz8 hS8 H8 hk112
    go_wp2_with fail
    refine (type108 w8 g _ _ _ _ _ _ _ _ HK8.out).mono ?_
    rintro e w' ⟨rfl, rfl⟩
    rw [mask14 2 (by omega)]
    go_wp2_with fail
    refine H112.out.mono ?_
    rintro e w9 ⟨rfl, hb9⟩
    have hz9 := blk_below KZ8.out hb9
    have hk9 := blk_below HK8.out hb9
    have m3 : w9.cell? ⟨z, 3, none⟩ = some (.int .i64 0) := blk_cell hz9 3
    have f3 : w9.frozen? ⟨z, 3, none⟩ = false := blk_frozen hz9 3
    obtain ⟨X9, hX9⟩ : ∃ X, X = w9.setCell ⟨z, 3, none⟩ (.int .i64 pl) := ⟨_, rfl⟩
    have hz10 : X9.heap[z]? = some (opE num text pl s) := by rw [hX9]; have := blk_set hz9 3 (.int .i64 pl); simpa [opE] using this
    have hk10 := blk_far hk9 (p := ⟨z, 3, none⟩) (by show g ≠ z; omega) (.int .i64 pl)
    rw [← hX9] at hk10
    have hwz : w.heap.size ≤ z := by rw [HZ.out]; exact HB1.out.size
    have hb10 : Below w.heap.size w X9 := by rw [hX9]; exact (below_then HB8.out HB8.out.size hb9).setCell (by show _ ≤ z; omega) _
    have hs10 : Sl (fun k => ok k ∧ k < w.heap.size) X9 (.slice (some ⟨b, off + (4 + R), none⟩) (D - (4 + R)) (c - (4 + R))) (attrsB l) := by rw [hX9]; exact (HS8.out.below hb9).step fun k hk _ => Below.heap_setCell _ _ _ _ (by show k ≠ z; omega)
    have HX9 := Lib.hid hX9
    have KZ10 := Lib.hid hz10
    have HB10 := Lib.hid hb10
    have hpl0 := hpl.1
    have hpl1 := hpl.2
    have HN10 := Lib.hid (next_end X9 g _ _ _ _ _ _ l _ (by rw [HLL.out]; exact hk10) hs10)
    clear hz9 hk9 hX9 hz10 hk10 hb10 hs10 hb9
    go_wp2_with fail
    rw [← HX9.out]
    rw [rounds_succ]
    go_wp2_with fail
    refine HN10.out.mono ?_
    rintro e w11 ⟨rfl, H11⟩
    have HFZ := Lib.hid (blk_below KZ10.out H11.out)
    have HFB := Lib.hid (below_then HB10.out HB10.out.size H11.out)
    go_wp2_with fail
    go_ret
    exact ⟨_, rfl, Lib.hid ⟨z, rfl, by have := HZ.out; have := HB1.out.size; omega, HFZ.out, HFB.out⟩⟩
end Go.Proofs.Ytgijhgonpgidiaa
