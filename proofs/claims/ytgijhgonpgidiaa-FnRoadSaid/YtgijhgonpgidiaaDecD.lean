/-
  Contract of decode, where the bytes are those of fields (printed by gen_dec78.py). No statement of the seat is proved here.
-/
import Derived.Test.YtgijhgonpgidiaaDecR
import Derived.Deep.DeepCutAuto
import Derived.Deep.CutBlock
import Derived.Deep.RegionLaw
namespace Go.Proofs.Ytgijhgonpgidiaa
open Go.RowKit Go.Proofs.YtgijhgonpgidiaaW.PrintWords

set_option maxRecDepth 100000 in
set_option maxHeartbeats 12800000 in
theorem dec78_succ (d : Nat) (H : DecSpec d) : DecSpec (d + 1) := by
  intro big w g bv sv N fs okb oks hG hS hok hR hoks hl hP hN hT
  have hmf : ∀ (fn : Fn) (first cap : Array Value) (w : World), (Instr.makeFunc fn first cap).run Try.prog w = .ok (.func fn first cap) w := fun _ _ _ _ => rfl
  obtain ⟨M, hM⟩ : ∃ M, M = (fs.filter isKept).length := ⟨_, rfl⟩
  have hM10 : M ≤ 10 := by rw [hM]; exact Nat.le_trans (List.length_filter_le _ _) hl
  have hA : AOk (fat big (d + 1) fs) := fat_AOk (PR.fok big hP hN (by omega) hT)
  have hib := (fbytes_ib big (d + 1) hP hN).2
  have hS' : Sl okb w bv (attrsB (fat big (d + 1) fs)) := by rw [attrsB_fat]; exact hS
  have hfl := (fat_len big d fs).trans hM.symm
  have hsl := (shp_len d fs).trans hM.symm
  have hgl := (got_len d fs).trans hM.symm
  have hTB : (attrsB (fat big (d + 1) fs)).length ≤ 65531 := by rw [attrsB_fat]; exact hT
  obtain ⟨sA, sc, hsv, _, hscm⟩ := hR.form
  rw [hsl] at hsv
  subst hsv
  have hgw := blk_lt hG
  have HSB := Lib.hid hS'.bound
  have HOK := Lib.hid hok
  have HR := Lib.hid hR.bound
  have HOS := Lib.hid hoks
  have HP := Lib.hid hP
  have HN := Lib.hid hN
  have HAO := Lib.hid hA
  have HIB := Lib.hid hib
  have HFL := Lib.hid hfl
  have HSL := Lib.hid hsl
  have HGL := Lib.hid hgl
  have HTB := Lib.hid hTB
  have HMM := Lib.hid hM
  have HH := Lib.hid H
  have HG := Lib.hid hG
  rw [hgl]
  clear H hG hS hok hR hoks hl hP hN hT hA hib hS' hfl hsl hgl hTB hM
  go_enter Try.func78, Try.ntmps78
  go_wp2_with fail
  go_loopw [6] (fun u wr => ∃ k : Nat, k ≤ M ∧ Hid ((∃ L T dv, wr.heap[g]? = some (decO (boV big) L T dv bv (pos (fat big (d + 1) fs) k : Nat) N .nilIface)) ∧ (elF (d + 1)).Ow 78 (fun j => w.heap.size ≤ j) wr w.heap.size u ((gotF (d + 1) fs).take k) ∧ w.grownBy wr (some g))) (fun u _ => M - lenV u)
  case atStart => exact ⟨0, Nat.zero_le _, Lib.hid ⟨⟨_, _, _, by rw [pos_zero]; exact HG.out⟩, by simpa using El.Ow.nil (elF (d + 1)) 78 _ w _, grown_refl _ _⟩⟩
  case round =>
    obtain ⟨k, hk, HL⟩ := hrel
    obtain ⟨L0, T0, dv0, hgk⟩ := HL.out.1
    obtain ⟨A6, c6, hv6, _⟩ := HL.out.2.1.slice_
    rw [List.length_take, HGL.out, Nat.min_eq_left hk] at hv6
    subst hv6
    have hSr : Sl (fun k => okb k ∧ k < w.heap.size) wr bv (attrsB (fat big (d + 1) fs)) := HSB.out.step fun j hj hlt => HL.out.2.2.block j hlt (by intro he; injection he with he; exact HOK.out j hj.1 he)
    by_cases hlt : k < M
    · obtain ⟨y, hy⟩ : ∃ y, (fs.filter isKept)[k]? = some y := ⟨_, List.getElem?_eq_getElem (by rw [← HMM.out]; exact hlt)⟩
      have hyf := List.mem_of_getElem? hy
      rw [List.mem_filter] at hyf
      have hpy := HP.out y hyf.1
      have hny := HN.out y hyf.1
      have hkept := hyf.2
      have hay := fat_at (big := big) (d := d) hy
      have haok := HAO.out.at_ hay
      have hibd := HIB.out _ (List.mem_of_getElem? hay)
      obtain ⟨hty, hfl⟩ := attr_type (big := big) hpy
      have HSN := Lib.hid (take_snoc' (got_at (d := d) hy))
      have HN1 := Lib.hid (next_at wr g (boV big) dv0 bv L0 T0 N (fat big (d + 1) fs) (attrsB (fat big (d + 1) fs)).length k _ (fun k => okb k ∧ k < w.heap.size) hgk (by rw [List.take_length]; exact hSr) (fun j hj => HOK.out j hj.1) HAO.out HIB.out (Nat.le_refl _) hay (by
        have h1 := pos_succ hay
        have h2 := pos_le (fat big (d + 1) fs) (k + 1)
        have h3 := padn_le (fattr big (fbytes big d) y).2.length
        omega) (by have := HTB.out; omega))
      obtain ⟨i1, hi1⟩ : ∃ i1, i1 = pos (fat big (d + 1) fs) (k + 1) := ⟨_, rfl⟩
      rw [← hi1] at HN1
      obtain ⟨at1, hat1⟩ : ∃ a, a = fattr big (fbytes big d) y := ⟨_, rfl⟩
      rw [← hat1] at HN1 hty hfl haok hibd
      have HI1 := Lib.hid hi1
      clear hgk hSr hay hyf hi1
      go_wp2_with fail
      refine HN1.out.mono ?_
      rintro e w1 ⟨rfl, H1⟩
      obtain ⟨A1, c1, hk1, hs1, hg1⟩ := H1.out
      -- the shape's row
      have hRw : (elF (d + 1)).Rd (fun j => oks j ∧ j < w.heap.size) w1 (.slice sA (shpF (d + 1) (keptF (d + 1) fs)).length sc) (shpF (d + 1) (keptF (d + 1) fs)) := by
        rw [HSL.out]
        refine (HR.out.step fun j hj hlt => HL.out.2.2.block j hlt (by intro he; injection he with he; exact HOS.out j hj.1 he)).step fun j hj hlt => ?_
        exact hg1.block j hlt (by intro he; injection he with he; exact HOS.out j hj.1 he)
      obtain ⟨b, off, dA, dc, kA, kc, rfl, hbl, hbok, e0, e1, e2, e3, e4, e5, e6, hd, hkv⟩ := rowF hRw (shp_at hy)
      simp only at e0 e1 e2 e3 e4 e5 e6 hkv
      have e5 : w1.cell? ⟨b, off + k * 7 + 5, none⟩ = some (.slice dA 0 dc) := e5
      have hws := HL.out.2.2.size
      have hws1 := hg1.size
      obtain ⟨x, hx⟩ : ∃ x, x = w1.heap.size := ⟨_, rfl⟩
      obtain ⟨W, hW⟩ : ∃ W, W = w1.alloc (.cells #[.int .i64 0, .int .i64 y.kind, .int .i64 0, .int .i64 0, .string ⟨#[]⟩, .slice dA 0 dc, .slice kA (shpF d (keptF d y.kids)).length kc] 78) := ⟨_, rfl⟩
      have kx : W.heap[x]? = some (.cells #[.int .i64 0, .int .i64 y.kind, .int .i64 0, .int .i64 0, .string ⟨#[]⟩, .slice dA 0 dc, .slice kA (shpF d (keptF d y.kids)).length kc] 78) := by rw [hW, hx]; exact heap_alloc_new _ _
      have hxl : W.heap.size = x + 1 := by rw [hW, hx]; simp
      have x1 : W.cell? ⟨x, 1, none⟩ = some (.int .i64 y.kind) := blk_cell kx 1
      have HB2 : Hid (Below w1.heap.size w1 W) := Lib.hid (by rw [hW]; exact (Below.refl _ _).alloc (Nat.le_refl _) _)
      have hkw := blk_below hk1 HB2.out
      have HKW := Lib.hid hkw
      have HT := Lib.hid (type108 W.drew g _ _ _ _ _ _ _ _ hkw)
      have HF2 := Lib.hid (flags109 W.drew g _ _ _ _ _ _ _ _ hkw)
      have HT2 := Lib.hid (type108 (W.alloc (.cells #[.int .i64 0, .int .i64 0, .int .i64 0, .int .i64 0, .string ⟨#[]⟩, .slice none 0 0, .slice none 0 0] 78)).drew g _ _ _ _ _ _ _ _ (blk_alloc hkw _))
      have HF := Lib.hid (flags109 (W.alloc (.cells #[.int .i64 0, .int .i64 0, .int .i64 0, .int .i64 0, .string ⟨#[]⟩, .slice none 0 0, .slice none 0 0] 78)).drew g _ _ _ _ _ _ _ _ (blk_alloc hkw _))
      have HX := Lib.hid hx
      have HW := Lib.hid hW
      have HKX := Lib.hid kx
      have HS1 := Lib.hid hs1.bound
      have HG1 := Lib.hid hg1
      have HKV := Lib.hid (hkv.below HB2.out)
      have HTY := Lib.hid hty
      have HFG := Lib.hid hfl
      have HPY := Lib.hid hpy
      have HNY := Lib.hid hny
      have HKP := Lib.hid hkept
      have HAT := Lib.hid hat1
      have HAK := Lib.hid haok
      have HBD := Lib.hid hibd
      have hxl1 : x < W.heap.size := by omega
      have hxwr : wr.heap.size ≤ x := by omega
      have hgx : g < x := by omega
      clear hkw hk1 hs1 hg1 H1 hx hW kx hRw hd hkv hy hpy hny hkept hat1 haok hibd hty hfl HN1
      go_wp2_with fail
      rw [← HW.out, ← HX.out]
      apply via2
      · intro key
        go_region_law (first
          | (go_simp; go_at_call 108; (with_reducible first | refine HT.out.mono ?_ | refine HT2.out.mono ?_); rintro e w10 ⟨rfl, rfl⟩)
          | (go_simp; go_at_call 109; (with_reducible first | refine HF.out.mono ?_ | refine HF2.out.mono ?_); rintro e w10 ⟨rfl, rfl⟩))
        all_goals exact key.out
      rw [HTY.out, HFG.out]
      obtain ⟨zf, hzf⟩ : ∃ zf : Int, zf = (if y.kind = 11 then 32768 else 0) := ⟨_, rfl⟩
      rw [← hzf]
      have HZF := Lib.hid hzf
      obtain ⟨yb, hyb⟩ : ∃ yb, yb = x + 1 := ⟨_, rfl⟩
      rw [← hyb]
      obtain ⟨W4, hW4⟩ : ∃ X, X = (W.alloc (.cells #[.int .i64 y.ty, .int .i64 y.kind, .int .i64 zf, .int .i64 0, .string ⟨#[]⟩, .slice none 0 0, .slice none 0 0] 78)).drew := ⟨_, rfl⟩
      rw [← hW4]
      have hB4 : Below W.heap.size W W4 := by rw [hW4]; exact ((Below.refl _ _).alloc (Nat.le_refl _) _).drew
      have ky : W4.heap[yb]? = some (fldV y.ty y.kind zf 0 ⟨#[]⟩ (.slice none 0 0) (.slice none 0 0)) := by rw [hW4, hyb, ← hxl]; exact heap_alloc_new _ _
      have hkg := blk_below HKW.out hB4
      have hgy : g ≠ yb := by omega
      have hkx4 := blk_below HKX.out hB4
      have x1 : W4.cell? ⟨x, 1, none⟩ = some (.int .i64 y.kind) := blk_cell hkx4 1
      have x6 : W4.cell? ⟨x, 6, none⟩ = some (.slice kA (shpF d (keptF d y.kids)).length kc) := blk_cell hkx4 6
      have HMD : Hid (Mid big wr g yb bv i1 N y.ty y.kind zf (4 + at1.2.length) at1.1 A1 at1.2.length c1 W4) := Lib.hid ⟨ky, grown_over HG1.out (below_grows (row := none) (below_then HB2.out HB2.out.size hB4) rfl) (fun j hj => by cases hj), by omega, hgy, hkg⟩
      have HSD : Hid (Sl (fun j => wr.heap.size ≤ j ∧ j < w1.heap.size) W4 (.slice A1 at1.2.length c1) at1.2) := Lib.hid (HS1.out.below (below_then HB2.out HB2.out.size hB4))
      have HKV4 := Lib.hid (HKV.out.below hB4)
      have HX6 := Lib.hid x6
      have HOW := Lib.hid (HL.out.2.1.bound)
      clear hB4 ky hkg hW4 hkx4 hxl hyb hzf x6 e0 e1 e2 e3 e4 e5 e6 HT HF HT2 HF2
      obtain ⟨ty, kd, fl0, n, text, data, kids⟩ := y
      obtain ⟨p1, p2, p3, p4, p5, p6, p7, p8, p9, p10, p11⟩ := HPY.out
      simp only at x1 HMD HKV4 HX6 HZF p1 p3 p4 p5 p6 p7 p8 p9 p10 p11 ⊢
      go_upto_block 2 with (fail)
      go_cut [] (fun wx => Hid (RdOne d big wr g yb bv i1 N (gotOne d ⟨ty, kd, fl0, n, text, data, kids⟩) wx))
      case first =>
        have hkdc : kd = 0 ∨ kd = 1 ∨ kd = 2 ∨ kd = 3 ∨ kd = 4 ∨ kd = 5 ∨ kd = 6 ∨ kd = 7 ∨ kd = 8 ∨ kd = 9 ∨ kd = 10 ∨ kd = 11 := by omega
        rcases hkdc with rfl | rfl | rfl | rfl | rfl | rfl | rfl | rfl | rfl | rfl | rfl | rfl
        · -- kind 0
          obtain rfl : zf = 0 := by rw [HZF.out]; rfl
          have hkk : gotF d kids = [] := by rw [p6 (by decide)]; cases d <;> rfl
          obtain rfl : text = ⟨#[]⟩ := p4 (by decide)
          obtain rfl : data = [] := p5 (by decide)
          have HKK := Lib.hid hkk
          have hnr : 0 ≤ n ∧ n < 256 := p10.1 rfl
          have hat := HAT.out.trans (fk0 big (fbytes big d) ty fl0 n ⟨#[]⟩ [] kids hnr)
          have hgt : getO big at1.2 = n := by rw [hat]; exact getO_one _ _
          have hlen : at1.2.length = 1 := by rw [hat]; rfl
          have HC := Lib.hid (kind110 W4 g big (boV big) bv A1 c1 _ _ _ _ at1.2 _ HMD.out.2.2.2.2 HSD.out HBD.out hlen)
          have HGT := Lib.hid hgt
          clear hat hgt hlen hkk
          go_wp2_with fail
          refine HC.out.mono ?_
          rintro e w4 ⟨rfl, H4⟩
          rw [HGT.out]
          have hy4 := blk_below HMD.out.1 H4
          have y3 : w4.cell? ⟨yb, 3, none⟩ = some (.int .i64 0) := blk_cell hy4 3
          have yf : w4.frozen? ⟨yb, 3, none⟩ = false := blk_frozen hy4 3
          have H4 := Lib.hid H4
          clear hy4
          have HWI : Hid (IntKind.i64.wrap n = n) := Lib.hid (wrap_i64_id (by omega))
          go_wp2_with fail
          try rw [HWI.out]
          go_meet
          exact Lib.hid (RdOne.num HMD.out H4.out n _ HKK.out)
        · -- kind 1
          obtain rfl : zf = 0 := by rw [HZF.out]; rfl
          have hkk : gotF d kids = [] := by rw [p6 (by decide)]; cases d <;> rfl
          obtain rfl : text = ⟨#[]⟩ := p4 (by decide)
          obtain rfl : data = [] := p5 (by decide)
          have HKK := Lib.hid hkk
          have hnr : 0 ≤ n ∧ n < 65536 := p10.2.1 rfl
          have hat := HAT.out.trans (fk1 big (fbytes big d) ty fl0 n ⟨#[]⟩ [] kids hnr)
          have hgt : getO big at1.2 = n := by rw [hat]; exact getO_putO big 2 _ (by omega) (by simp; omega)
          have hlen : at1.2.length = 2 := by rw [hat]; exact putO_length _ _ _
          have HC := Lib.hid (kind111 W4 g big bv A1 c1 _ _ _ _ at1.2 _ HMD.out.2.2.2.2 HSD.out HBD.out hlen)
          have HGT := Lib.hid hgt
          clear hat hgt hlen hkk
          go_wp2_with fail
          refine HC.out.mono ?_
          rintro e w4 ⟨rfl, H4⟩
          rw [HGT.out]
          have hy4 := blk_below HMD.out.1 H4
          have y3 : w4.cell? ⟨yb, 3, none⟩ = some (.int .i64 0) := blk_cell hy4 3
          have yf : w4.frozen? ⟨yb, 3, none⟩ = false := blk_frozen hy4 3
          have H4 := Lib.hid H4
          clear hy4
          have HWI : Hid (IntKind.i64.wrap n = n) := Lib.hid (wrap_i64_id (by omega))
          go_wp2_with fail
          try rw [HWI.out]
          go_meet
          exact Lib.hid (RdOne.num HMD.out H4.out n _ HKK.out)
        · -- kind 2
          obtain rfl : zf = 0 := by rw [HZF.out]; rfl
          have hkk : gotF d kids = [] := by rw [p6 (by decide)]; cases d <;> rfl
          obtain rfl : text = ⟨#[]⟩ := p4 (by decide)
          obtain rfl : data = [] := p5 (by decide)
          have HKK := Lib.hid hkk
          have hnr : 0 ≤ n ∧ n < 4294967296 := p10.2.2.1 rfl
          have hat := HAT.out.trans (fk2 big (fbytes big d) ty fl0 n ⟨#[]⟩ [] kids hnr)
          have hgt : getO big at1.2 = n := by rw [hat]; exact getO_putO big 4 _ (by omega) (by simp; omega)
          have hlen : at1.2.length = 4 := by rw [hat]; exact putO_length _ _ _
          have HC := Lib.hid (kind112 W4 g big bv A1 c1 _ _ _ _ at1.2 _ HMD.out.2.2.2.2 HSD.out HBD.out hlen)
          have HGT := Lib.hid hgt
          clear hat hgt hlen hkk
          go_wp2_with fail
          refine HC.out.mono ?_
          rintro e w4 ⟨rfl, H4⟩
          rw [HGT.out]
          have hy4 := blk_below HMD.out.1 H4
          have y3 : w4.cell? ⟨yb, 3, none⟩ = some (.int .i64 0) := blk_cell hy4 3
          have yf : w4.frozen? ⟨yb, 3, none⟩ = false := blk_frozen hy4 3
          have H4 := Lib.hid H4
          clear hy4
          have HWI : Hid (IntKind.i64.wrap n = n) := Lib.hid (wrap_i64_id (by omega))
          go_wp2_with fail
          try rw [HWI.out]
          go_meet
          exact Lib.hid (RdOne.num HMD.out H4.out n _ HKK.out)
        · -- kind 3
          obtain rfl : zf = 0 := by rw [HZF.out]; rfl
          have hkk : gotF d kids = [] := by rw [p6 (by decide)]; cases d <;> rfl
          obtain rfl : text = ⟨#[]⟩ := p4 (by decide)
          obtain rfl : data = [] := p5 (by decide)
          have HKK := Lib.hid hkk
          have hnr : -9223372036854775808 ≤ n ∧ n < 9223372036854775808 := HNY.out.here.1
          have hat := HAT.out.trans (fk3 big (fbytes big d) ty fl0 n ⟨#[]⟩ [] kids)
          have hgt : getO big at1.2 = n % 18446744073709551616 := by rw [hat]; exact getO_putO big 8 _ (by omega) (by simp; omega)
          have hlen : at1.2.length = 8 := by rw [hat]; exact putO_length _ _ _
          have HC := Lib.hid (kind113 W4 g big bv A1 c1 _ _ _ _ at1.2 _ HMD.out.2.2.2.2 HSD.out HBD.out hlen)
          have HGT := Lib.hid hgt
          clear hat hgt hlen hkk
          go_wp2_with fail
          refine HC.out.mono ?_
          rintro e w4 ⟨rfl, H4⟩
          rw [HGT.out]
          have hy4 := blk_below HMD.out.1 H4
          have y3 : w4.cell? ⟨yb, 3, none⟩ = some (.int .i64 0) := blk_cell hy4 3
          have yf : w4.frozen? ⟨yb, 3, none⟩ = false := blk_frozen hy4 3
          have H4 := Lib.hid H4
          clear hy4
          have HWI : Hid (wrap64 (n % 18446744073709551616) = n) := Lib.hid (by rw [← IntWalk.i64_left, IntKind.wrap_i64]; omega)
          go_wp2_with fail
          try rw [HWI.out]
          go_meet
          exact Lib.hid (RdOne.num HMD.out H4.out n _ HKK.out)
        · -- kind 4
          obtain rfl : zf = 0 := by rw [HZF.out]; rfl
          have hkk : gotF d kids = [] := by rw [p6 (by decide)]; cases d <;> rfl
          obtain rfl : text = ⟨#[]⟩ := p4 (by decide)
          obtain rfl : data = [] := p5 (by decide)
          have HKK := Lib.hid hkk
          have hnr : -128 ≤ n ∧ n < 128 := p10.2.2.2.1 rfl
          have hat := HAT.out.trans (fk4 big (fbytes big d) ty fl0 n ⟨#[]⟩ [] kids)
          have hgt : getO big at1.2 = n % 256 := by rw [hat]; exact getO_one _ _
          have hlen : at1.2.length = 1 := by rw [hat]; rfl
          have hgt : IntKind.i8.wrap (getO big at1.2) = n := by rw [hgt]; exact wrap_i8_at hnr
          have HC := Lib.hid (kind114 W4 g big (boV big) bv A1 c1 _ _ _ _ at1.2 _ HMD.out.2.2.2.2 HSD.out HBD.out hlen)
          have HGT := Lib.hid hgt
          clear hat hgt hlen hkk
          go_wp2_with fail
          refine HC.out.mono ?_
          rintro e w4 ⟨rfl, H4⟩
          rw [HGT.out]
          have hy4 := blk_below HMD.out.1 H4
          have y3 : w4.cell? ⟨yb, 3, none⟩ = some (.int .i64 0) := blk_cell hy4 3
          have yf : w4.frozen? ⟨yb, 3, none⟩ = false := blk_frozen hy4 3
          have H4 := Lib.hid H4
          clear hy4
          have HWI : Hid (IntKind.i64.wrap n = n) := Lib.hid (wrap_i64_id (by omega))
          go_wp2_with fail
          try rw [HWI.out]
          go_meet
          exact Lib.hid (RdOne.num HMD.out H4.out n _ HKK.out)
        · -- kind 5
          obtain rfl : zf = 0 := by rw [HZF.out]; rfl
          have hkk : gotF d kids = [] := by rw [p6 (by decide)]; cases d <;> rfl
          obtain rfl : text = ⟨#[]⟩ := p4 (by decide)
          obtain rfl : data = [] := p5 (by decide)
          have HKK := Lib.hid hkk
          have hnr : -32768 ≤ n ∧ n < 32768 := p10.2.2.2.2.1 rfl
          have hat := HAT.out.trans (fk5 big (fbytes big d) ty fl0 n ⟨#[]⟩ [] kids)
          have hgt : getO big at1.2 = n % 65536 := by rw [hat]; exact getO_putO big 2 _ (by omega) (by simp; omega)
          have hlen : at1.2.length = 2 := by rw [hat]; exact putO_length _ _ _
          have hgt : IntKind.i16.wrap (getO big at1.2) = n := by rw [hgt]; exact wrap_i16_at hnr
          have HC := Lib.hid (kind115 W4 g big bv A1 c1 _ _ _ _ at1.2 _ HMD.out.2.2.2.2 HSD.out HBD.out hlen)
          have HGT := Lib.hid hgt
          clear hat hgt hlen hkk
          go_wp2_with fail
          refine HC.out.mono ?_
          rintro e w4 ⟨rfl, H4⟩
          rw [HGT.out]
          have hy4 := blk_below HMD.out.1 H4
          have y3 : w4.cell? ⟨yb, 3, none⟩ = some (.int .i64 0) := blk_cell hy4 3
          have yf : w4.frozen? ⟨yb, 3, none⟩ = false := blk_frozen hy4 3
          have H4 := Lib.hid H4
          clear hy4
          have HWI : Hid (IntKind.i64.wrap n = n) := Lib.hid (wrap_i64_id (by omega))
          go_wp2_with fail
          try rw [HWI.out]
          go_meet
          exact Lib.hid (RdOne.num HMD.out H4.out n _ HKK.out)
        · -- kind 6
          obtain rfl : zf = 0 := by rw [HZF.out]; rfl
          have hkk : gotF d kids = [] := by rw [p6 (by decide)]; cases d <;> rfl
          obtain rfl : text = ⟨#[]⟩ := p4 (by decide)
          obtain rfl : data = [] := p5 (by decide)
          have HKK := Lib.hid hkk
          have hnr : -2147483648 ≤ n ∧ n < 2147483648 := p10.2.2.2.2.2.1 rfl
          have hat := HAT.out.trans (fk6 big (fbytes big d) ty fl0 n ⟨#[]⟩ [] kids)
          have hgt : getO big at1.2 = n % 4294967296 := by rw [hat]; exact getO_putO big 4 _ (by omega) (by simp; omega)
          have hlen : at1.2.length = 4 := by rw [hat]; exact putO_length _ _ _
          have hgt : IntKind.i32.wrap (getO big at1.2) = n := by rw [hgt, IntKind.wrap_i32]; omega
          have HC := Lib.hid (kind116 W4 g big bv A1 c1 _ _ _ _ at1.2 _ HMD.out.2.2.2.2 HSD.out HBD.out hlen)
          have HGT := Lib.hid hgt
          clear hat hgt hlen hkk
          go_wp2_with fail
          refine HC.out.mono ?_
          rintro e w4 ⟨rfl, H4⟩
          rw [HGT.out]
          have hy4 := blk_below HMD.out.1 H4
          have y3 : w4.cell? ⟨yb, 3, none⟩ = some (.int .i64 0) := blk_cell hy4 3
          have yf : w4.frozen? ⟨yb, 3, none⟩ = false := blk_frozen hy4 3
          have H4 := Lib.hid H4
          clear hy4
          have HWI : Hid (IntKind.i64.wrap n = n) := Lib.hid (wrap_i64_id (by omega))
          go_wp2_with fail
          try rw [HWI.out]
          go_meet
          exact Lib.hid (RdOne.num HMD.out H4.out n _ HKK.out)
        · -- kind 7
          obtain rfl : zf = 0 := by rw [HZF.out]; rfl
          have hkk : gotF d kids = [] := by rw [p6 (by decide)]; cases d <;> rfl
          obtain rfl : text = ⟨#[]⟩ := p4 (by decide)
          obtain rfl : data = [] := p5 (by decide)
          have HKK := Lib.hid hkk
          have hnr : -9223372036854775808 ≤ n ∧ n < 9223372036854775808 := HNY.out.here.1
          have hat := HAT.out.trans (fk7 big (fbytes big d) ty fl0 n ⟨#[]⟩ [] kids)
          have hgt : getO big at1.2 = n % 18446744073709551616 := by rw [hat]; exact getO_putO big 8 _ (by omega) (by simp; omega)
          have hlen : at1.2.length = 8 := by rw [hat]; exact putO_length _ _ _
          have hgt : IntKind.i64.wrap (getO big at1.2) = n := by rw [hgt, IntKind.wrap_i64]; omega
          have HC := Lib.hid (kind117 W4 g big bv A1 c1 _ _ _ _ at1.2 _ HMD.out.2.2.2.2 HSD.out HBD.out hlen)
          have HGT := Lib.hid hgt
          clear hat hgt hlen hkk
          go_wp2_with fail
          refine HC.out.mono ?_
          rintro e w4 ⟨rfl, H4⟩
          rw [HGT.out]
          have hy4 := blk_below HMD.out.1 H4
          have y3 : w4.cell? ⟨yb, 3, none⟩ = some (.int .i64 0) := blk_cell hy4 3
          have yf : w4.frozen? ⟨yb, 3, none⟩ = false := blk_frozen hy4 3
          have H4 := Lib.hid H4
          clear hy4
          go_wp2_with fail
          go_meet
          exact Lib.hid (RdOne.num HMD.out H4.out n _ HKK.out)
        · -- kind 8
          obtain rfl : zf = 0 := by rw [HZF.out]; rfl
          have hkk : gotF d kids = [] := by rw [p6 (by decide)]; cases d <;> rfl
          obtain rfl : data = [] := p5 (by decide)
          obtain rfl : n = 0 := p7 (by decide) (by decide)
          have HKK := Lib.hid hkk
          have hat := HAT.out.trans (fk8 big (fbytes big d) ty fl0 0 text [] kids)
          have hd2 : at1.2 = bytesOf text ++ [0] := by rw [hat]
          have htx := p8 rfl
          have hsz : text.size ≤ 100 := by simp only [txOk, Bool.and_eq_true, decide_eq_true_eq] at htx; exact htx.2
          have hgg := HMD.out.2.2.2.2
          have hss := HSD.out
          rw [hd2] at hgg hss
          have HC := Lib.hid (kind118 W4 g _ bv A1 c1 _ _ _ _ (bytesOf text) _ hgg hss (txOk_noZ htx) (by rw [bytesOf_length]; omega))
          clear hat hd2 htx hgg hss hkk p8
          go_wp2_with fail
          refine HC.out.mono ?_
          rintro e w4 ⟨rfl, H4⟩
          rw [strOf_text]
          have hy4 := blk_below HMD.out.1 H4
          have y4 : w4.cell? ⟨yb, 4, none⟩ = some (.string ⟨#[]⟩) := blk_cell hy4 4
          have yf : w4.frozen? ⟨yb, 4, none⟩ = false := blk_frozen hy4 4
          have H4 := Lib.hid H4
          clear hy4
          go_wp2_with fail
          go_meet
          exact Lib.hid (RdOne.text HMD.out H4.out text _ HKK.out)
        · -- kind 9
          obtain rfl : zf = 0 := by rw [HZF.out]; rfl
          have hkk : gotF d kids = [] := by rw [p6 (by decide)]; cases d <;> rfl
          obtain rfl : text = ⟨#[]⟩ := p4 (by decide)
          obtain rfl : n = 0 := p7 (by decide) (by decide)
          have HKK := Lib.hid hkk
          have hat := HAT.out.trans (fk9 big (fbytes big d) ty fl0 0 ⟨#[]⟩ data kids)
          have hd2 : at1.2 = data := by rw [hat]
          have hsz := p9 rfl
          have hgg := HMD.out.2.2.2.2
          have hss := HSD.out
          rw [hd2] at hgg hss
          have HC := Lib.hid (bytes119 W4 g _ bv _ A1 c1 _ _ _ _ data _ hgg hss (by omega))
          clear hat hd2 hgg hss hkk p9
          go_wp2_with fail
          refine HC.out.mono ?_
          rintro e w4 ⟨A4, c4, rfl, H4⟩
          have hl4 : data.length ≤ 140737488355328 := by omega
          go_wp2_with (at_builtin; go_must (refine dup_list (W := w4) H4.out.1 hl4 rfl (.const (.slice none 0 0)) (.tmp 89) rfl rfl rfl ?_); intro A5 c5 w5 H5; have HB5 := Lib.hid (below_then H4.out.2 H4.out.2.size H5.out.2); have hy5 := blk_below HMD.out.1 HB5.out; have y5 : w5.cell? ⟨yb, 5, none⟩ = some (.slice none 0 0) := blk_cell hy5 5; have yf : w5.frozen? ⟨yb, 5, none⟩ = false := blk_frozen hy5 5; clear hy5)
          go_meet
          exact Lib.hid (RdOne.data HMD.out HB5.out (H5.out.1.mono fun j hj => Nat.le_trans H4.out.2.size hj) _ HKK.out)
        · -- kind 10
          obtain rfl : zf = 0 := by rw [HZF.out]; rfl
          have hkk : gotF d kids = [] := by rw [p6 (by decide)]; cases d <;> rfl
          obtain rfl : text = ⟨#[]⟩ := p4 (by decide)
          obtain rfl : data = [] := p5 (by decide)
          have HKK := Lib.hid hkk
          have hn1 : n = 1 := by have h1 := p10.2.2.2.2.2.2 rfl; have h2 := HKP.out; simp [isKept] at h2; omega
          subst hn1
          have hat := HAT.out.trans (fk10 big (fbytes big d) ty fl0 1 ⟨#[]⟩ [] kids)
          have hd2 : at1.2 = [] := by rw [hat]
          have hgg := HMD.out.2.2.2.2
          rw [hd2] at hgg
          have HC := Lib.hid (kind120 W4 g _ bv A1 c1 _ _ _ _ hgg)
          clear hat hd2 hgg hkk
          go_wp2_with fail
          refine HC.out.mono ?_
          rintro e w4 ⟨rfl, H4⟩
          have hy4 := blk_below HMD.out.1 H4
          have y3 : w4.cell? ⟨yb, 3, none⟩ = some (.int .i64 0) := blk_cell hy4 3
          have yf : w4.frozen? ⟨yb, 3, none⟩ = false := blk_frozen hy4 3
          have H4 := Lib.hid H4
          clear hy4
          go_wp2_with fail
          go_meet
          exact Lib.hid (RdOne.num HMD.out H4.out 1 _ HKK.out)
        · -- kind 11
          obtain rfl : text = ⟨#[]⟩ := p4 (by decide)
          obtain rfl : data = [] := p5 (by decide)
          obtain rfl : n = 0 := p7 (by decide) (by decide)
          skip
          obtain rfl : zf = 32768 := by rw [HZF.out]; rfl
          have hat := HAT.out.trans (fk11 big (fbytes big d) ty fl0 0 ⟨#[]⟩ [] kids)
          have hd2 : at1.2 = fbytes big d kids := by rw [hat]
          have hgg := HMD.out.2.2.2.2
          have hss := HSD.out
          have hbb := HAK.out.2
          rw [hd2] at hgg hss hbb
          have hp11 := p11 rfl
          have hnk := HNY.out.kids_ rfl
          have HC := Lib.hid (nested121 HH.out big W4 g x yb bv _ A1 c1 _ _ _ N kids _ _ ty 11 32768 0 ⟨#[]⟩ _ _ hgg hss HKV4.out hp11.1 hp11.2 hnk (fat_AOk (PR.fok big hp11.2 hnk (by omega) hbb)) hbb HX6.out HMD.out.1)
          clear hat hd2 hgg hss hbb hp11 hnk p11
          go_wp2_with fail
          refine HC.out.mono ?_
          rintro e w4 ⟨rfl, H4⟩
          obtain ⟨u, q1, q2, q3⟩ := H4.out
          have HFIN : Hid (RdOne d big wr g yb bv i1 N (gotOne d ⟨ty, 11, fl0, 0, ⟨#[]⟩, [], kids⟩) w4) := Lib.hid (RdOne.kids HMD.out q1 q2 q3)
          clear q1 q2 q3 H4
          go_wp2_with fail
          go_meet
          exact HFIN
      case rest =>
        obtain ⟨dv, kv, r1, hE, r3, L5, T5, dv5, r4⟩ := hcut.out
        simp only [gotOne] at r1 hE
        obtain ⟨dv', kv', hcs, hs, hk'⟩ := id hE
        simp only [List.cons.injEq, and_true, true_and] at hcs
        obtain ⟨rfl, rfl⟩ := hcs
        obtain ⟨dA', dc', rfl, _⟩ := hs.form
        obtain ⟨kA', kc', rfl, _⟩ := hk'.form
        obtain ⟨zf', hzf'⟩ : ∃ zf' : Int, zf' = (if kd = 11 then 32768 else 0) := ⟨_, rfl⟩
        simp only [gotOne] at hs hk'
        obtain ⟨gk, hgk'⟩ : ∃ gk, gk = gotF d kids := ⟨_, rfl⟩
        rw [← hzf', ← hgk'] at r1 hE
        have HSN2 := HSN.out
        simp only [gotOne] at HSN2
        rw [← hzf', ← hgk'] at HSN2
        have HSN3 := Lib.hid HSN2
        have y0 : wc.cell? ⟨yb, 0, none⟩ = some (.int .i64 ty) := blk_cell r1 0
        have y1 : wc.cell? ⟨yb, 1, none⟩ = some (.int .i64 kd) := blk_cell r1 1
        have y2 : wc.cell? ⟨yb, 2, none⟩ = some (.int .i64 zf') := blk_cell r1 2
        have y3 : wc.cell? ⟨yb, 3, none⟩ = some (.int .i64 n) := blk_cell r1 3
        have y4 : wc.cell? ⟨yb, 4, none⟩ = some (.string text) := blk_cell r1 4
        have y5 : wc.cell? ⟨yb, 5, none⟩ = some (.slice dA' data.length dc') := blk_cell r1 5
        have y6 : wc.cell? ⟨yb, 6, none⟩ = some (.slice kA' gk.length kc') := blk_cell r1 6
        have hlo := HOW.out.lt
        have hws := HL.out.2.2.size
        have hr3 := r3.size
        have HO7 : Hid ((elF (d + 1)).Ow 78 (fun j => w.heap.size ≤ j) wc w.heap.size (.slice A6 k c6) ((gotF (d + 1) fs).take k)) := Lib.hid ((HOW.out.step fun j hj hlt => r3.block j hj.2 (by intro he; injection he with he; have := hj.1; omega)).mono fun j hj => hj.1)
        have HP7 : Hid ((elF (d + 1)).E (fun j => w.heap.size ≤ j ∧ some j ≠ (Value.slice A6 k c6).ownBlock) wc ⟨ty, kd, zf', n, text, data, gk⟩ [.int .i64 ty, .int .i64 kd, .int .i64 zf', .int .i64 n, .string text, .slice dA' data.length dc', .slice kA' gk.length kc']) := Lib.hid ((elF (d + 1)).mono (fun j hj => ⟨by omega, fun he => by have := (hlo j he.symm).2; omega⟩) hE)
        have HLO : Hid (w.heap.size ≤ wc.heap.size) := Lib.hid (by omega)
        have HG7 := Lib.hid (grown_trans HL.out.2.2 r3)
        have HK7 := Lib.hid r4
        have hl2 : (((gotF (d + 1) fs).take k).length + 1) * 96 ≤ 140737488355328 := by rw [List.length_take]; omega
        have HTL : Hid (((gotF (d + 1) fs).take (k + 1)).length = k + 1) := Lib.hid (by rw [List.length_take, HGL.out]; omega)
        clear hcut r1 hE r3 r4 hs hk' hlo hws hr3 HSN2 hzf' hgk' p2 p4 p5 p6 p7 p8 p9 p10 p11 x1
        go_wp2_with (at_builtin; go_must (refine El.Ow.append (elF (d + 1)) (W := wc) w.heap.size rfl (.tmp 102) (.tmp 104) 22 78 _ 96 rfl Try.underlying22 info78s rfl (by rw [elF_sz]; omega) (by decide) (.slice A6 k c6) _ ⟨ty, kd, zf', n, text, data, gk⟩ [.int .i64 ty, .int .i64 kd, .int .i64 zf', .int .i64 n, .string text, .slice dA' data.length dc', .slice kA' gk.length kc'] rfl wc.heap.size rfl rfl HP7.out HO7.out HLO.out (fun j hj => Nat.le_trans HLO.out hj) hl2 ?_); intro v1 w6 hO6 hg6 hat6; have HO6 := Lib.hid hO6; have HG6 := Lib.hid hg6; clear hO6 hg6 hat6)
        rw [← HSN3.out] at HO6
        obtain ⟨A7, c7, hv7, _⟩ := HO6.out.slice_
        rw [HTL.out] at hv7
        subst hv7
        go_roundw
        case rel =>
          refine ⟨k + 1, by omega, Lib.hid ⟨⟨L5, T5, dv5, ?_⟩, HO6.out, grown_over HG7.out HG6.out fun j hj => (HO7.out.lt j hj).1⟩⟩
          rw [← HI1.out]
          exact blk_grown HK7.out HG6.out (fun he => by have := (HO7.out.lt g he.symm).1; omega)
        case measure => simp [lenV]; omega
    · obtain rfl : k = M := by omega
      have hend := next_end wr g (boV big) dv0 bv L0 T0 N (fat big (d + 1) fs) _ (by rw [HFL.out]; exact hgk) hSr
      have HE0 := Lib.hid hend
      have HGK := Lib.hid hgk
      clear hend hSr hgk
      go_wp2_with fail
      refine HE0.out.mono ?_
      rintro e w2 ⟨rfl, H2⟩
      have hk2 := blk_below HGK.out H2.out
      have HE := Lib.hid (err105_nil w2 g _ _ _ _ _ _ _ hk2)
      have HK2 := Lib.hid hk2
      clear hk2
      go_wp2_with fail
      refine HE.out.mono ?_
      rintro e w3 ⟨rfl, rfl⟩
      go_wp2_with fail
      go_ret2
      refine ⟨_, _, rfl, Lib.hid ⟨?_, grown_over HL.out.2.2 (below_grows (row := none) H2.out rfl) (fun j hj => by cases hj), _, _, _, _, HK2.out⟩⟩
      have h1 := (HL.out.2.1.below H2.out).rd
      rw [List.take_of_length_le (Nat.le_of_eq HGL.out)] at h1
      exact h1

end Go.Proofs.Ytgijhgonpgidiaa
