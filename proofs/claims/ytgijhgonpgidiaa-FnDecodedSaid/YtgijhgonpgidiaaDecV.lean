/-
  The walks of FnDecoded and FnRoad (printed by gen_walk.py). No statement of the seat is proved here.
-/
import Derived.Test.YtgijhgonpgidiaaDecG
import Derived.Test.YtgijhgonpgidiaaEncW
namespace Go.Proofs.Ytgijhgonpgidiaa
open Go.RowKit Go.Proofs.YtgijhgonpgidiaaW.PrintWords

set_option maxRecDepth 100000 in
set_option maxHeartbeats 6400000 in
theorem walk15 (w : World) (v : Value) (l : List Fld) (big : Bool) (hR : (elT 6).Rd (fun _ => True) w v l) (hN : ∀ x ∈ l, NR 7 x) (hl : l.length * 96 ≤ 140737488355328) :
    Calls Try.prog 15 #[v, .bool big] w fun e w' => e = .returned (.bool true) ∧ Below w.heap.size w w' := by
  obtain ⟨A, c, rfl, hlc, hcm⟩ := hR.form
  have HR := Lib.hid (hR.bound.mono fun k hk => hk.2)
  have HN := Lib.hid hN
  clear hR hN
  by_cases h1 : 2147483647 < l.length
  · go_enter Try.func15, Try.ntmps15
    go_wp2_with fail
    go_ret
    exact ⟨rfl, Below.refl _ _⟩
  go_enter Try.func15, Try.ntmps15
  go_wp2_with fail
  refine (fields19 6 w _ l w.heap.size HR.out (Nat.le_refl _) hl (by omega)).mono ?_
  rintro e w1 ⟨u, rfl, H1⟩
  obtain ⟨Au, cu, rfl, _⟩ := H1.out.1.form
  have HB1 := Lib.hid H1.out.2
  have HX := Lib.hid H1.out.1
  clear H1
  go_wp2_with fail
  refine (p20_all 4 (by decide) 7 w1 _ _ l HX.out HN.out).mono ?_
  rintro e w2 ⟨⟨b, rfl, hb⟩, H2⟩
  have HB2 := Lib.hid (below_then HB1.out HB1.out.size H2.out)
  have HP := Lib.hid hb
  clear hb
  cases b
  · go_wp2_with fail
    refine (works22 w2).mono ?_
    rintro e w3 ⟨rfl, H3⟩
    go_wp2_with fail
    go_ret
    exact ⟨rfl, below_then HB2.out HB2.out.size H3.out⟩
  have hP := HP.out rfl
  have hX2 := HX.out.below H2.out
  have hX4 := elF_elF 4 (by omega) hX2 hP.2
  have hPF : ∀ x ∈ l, PF 4 x := fun x hx => (hP.2 x hx).pf (HN.out x hx) (by omega)
  have HP2 := Lib.hid hP
  have HX4 := Lib.hid hX4.bound
  have HPF := Lib.hid hPF
  have HX2 := Lib.hid (HR.out.below (below_then HB1.out HB1.out.size H2.out))
  clear hP hX2 hX4 hPF HP HR HX
  go_wp2_with fail
  refine (short21 4 w2 _ _ l HX4.out HPF.out HP2.out.1 bnd4).mono ?_
  rintro e w3 ⟨rfl, H3⟩
  have HB3 := Lib.hid (below_then HB2.out HB2.out.size H3.out)
  by_cases hs : (fbytes false 4 l).length ≤ 60000
  rotate_left
  · rw [decide_eq_false hs]
    go_wp2_with fail
    refine (works22 w3).mono ?_
    rintro e w4 ⟨rfl, H4⟩
    go_wp2_with fail
    go_ret
    exact ⟨rfl, below_then HB3.out HB3.out.size H4.out⟩
  rw [decide_eq_true hs]
  have HS := Lib.hid (short_le (big := big) hs)
  have hF : ∀ x ∈ l, FOk big 4 x := PR.fok big HP2.out.2 HN.out (by omega) (by have := HS.out; omega)
  have hX3 : (elF 4).Rd (fun k => k < w3.heap.size) w3 (.slice Au l.length cu) l := (HX4.out.below H3.out).bound.mono fun k hk => hk.2
  have HX3 := Lib.hid hX3
  have HN4 : Hid (∀ x ∈ l, NR 4 x) := Lib.hid fun x hx => (HN.out x hx).down (by omega)
  have HT := Lib.hid (PR.ten HP2.out.2 HP2.out.1)
  have hl10 := HP2.out.1
  clear hX3 HX4 hs
  go_wp2_with fail
  refine (kept43 4 w3 _ l w3.heap.size HX3.out (Nat.le_refl _) hl10 HP2.out.2).mono ?_
  rintro e w4 ⟨u4, rfl, H4⟩
  obtain ⟨A4, c4, rfl, _⟩ := H4.out.1.form
  have HB4 := Lib.hid (below_then HB3.out HB3.out.size H4.out.2)
  have HK4 := Lib.hid H4.out.1.bound
  have HX4 := Lib.hid (HX3.out.bound.below H4.out.2)
  clear hF HX2
  go_wp2_with fail
  refine (fb24 4 big w4 _ _ l HX4.out HPF.out hl10 bnd4).mono ?_
  rintro e w5 ⟨u5, rfl, H5⟩
  obtain ⟨A5, c5, rfl, _⟩ := Ob.form H5.out.1
  have HB5 := Lib.hid (below_then HB4.out HB4.out.size H5.out.2)
  have HK5 := Lib.hid (HK4.out.below H5.out.2)
  have HS5 := Lib.hid (Ob.sl H5.out.1)
  clear HK4 H4 H5
  go_wp2_with fail
  refine (shape45 4 w5 _ (keptF 4 l) _ HK5.out HT.out.kept).mono ?_
  rintro e w6 ⟨u6, rfl, H6⟩
  obtain ⟨A6, c6, rfl, _⟩ := H6.out.1.form
  have HB6 := Lib.hid (below_then HB5.out HB5.out.size H6.out.2)
  have HK6 := Lib.hid (HK5.out.bound.below H6.out.2)
  have HS6 := Lib.hid (HS5.out.bound.below H6.out.2)
  have HD := Lib.hid (decode44 4 big _ _ l _ _ w6 HS6.out H6.out.1 hl10 HP2.out.2 HN4.out (by have := HS.out; omega))
  clear HK5 HS5 H6 HS6
  go_wp2_with fail
  refine HD.out.mono ?_
  rintro e w7 ⟨A7, c7, rfl, H7⟩
  have HB7 := Lib.hid (below_then HB6.out HB6.out.size H7.out.2)
  have HK7 := Lib.hid (HK6.out.bound.below H7.out.2)
  have hg7 := H7.out.1
  have HT7 := Lib.hid (elF_elT 4 (e := 6) (by omega) hg7.bound HT.out.got)
  have hgl := HT.out.got.len
  obtain ⟨gn, hgn⟩ : ∃ gn, gn = (gotF 4 l).length := ⟨_, rfl⟩
  have HGN := Lib.hid hgn
  have HC8 := Lib.hid (fields19 6 w7 _ (gotF 4 l) w7.heap.size (HT7.out.mono fun k hk => hk.2) (Nat.le_refl _) (by omega) (by omega))
  rw [← hgn] at HC8 hgl ⊢
  clear HD H7 HK6 hg7 HT7 hgn
  go_wp2_with fail
  refine HC8.out.mono ?_
  rintro e w8 ⟨u8, rfl, H8⟩
  obtain ⟨A8, c8, rfl, _⟩ := H8.out.1.form
  have HB8 := Lib.hid (below_then HB7.out HB7.out.size H8.out.2)
  have HM8 := Lib.hid (same46 4 w8 _ _ (gotF 4 l) (keptF 4 l) _ _ (elF_low 4 (by omega) H8.out.1 HT.out.got) (HK7.out.bound.below H8.out.2) HT.out.same)
  clear HC8 HK7 H8
  go_wp2_with fail
  refine HM8.out.mono ?_
  rintro e w9 ⟨rfl, H9⟩
  have HB9 := Lib.hid (below_then HB8.out HB8.out.size H9.out)
  go_wp2_with fail
  refine (works22 w9).mono ?_
  rintro e w10 ⟨rfl, H10⟩
  go_wp2_with fail
  go_ret
  exact ⟨rfl, below_then HB9.out HB9.out.size H10.out⟩

set_option maxRecDepth 100000 in
set_option maxHeartbeats 6400000 in
theorem walk17 (w : World) (v : Value) (l : List Fld) (big : Bool) (hR : (elT 6).Rd (fun _ => True) w v l) (hN : ∀ x ∈ l, NR 7 x) (hl : l.length * 96 ≤ 140737488355328) :
    Calls Try.prog 17 #[v, .bool big] w fun e w' => e = .returned (.bool true) ∧ Below w.heap.size w w' := by
  obtain ⟨A, c, rfl, hlc, hcm⟩ := hR.form
  have HR := Lib.hid (hR.bound.mono fun k hk => hk.2)
  have HN := Lib.hid hN
  clear hR hN
  by_cases h1 : 2147483647 < l.length
  · go_enter Try.func17, Try.ntmps17
    go_wp2_with fail
    go_ret
    exact ⟨rfl, Below.refl _ _⟩
  go_enter Try.func17, Try.ntmps17
  go_wp2_with fail
  refine (fields19 6 w _ l w.heap.size HR.out (Nat.le_refl _) hl (by omega)).mono ?_
  rintro e w1 ⟨u, rfl, H1⟩
  obtain ⟨Au, cu, rfl, _⟩ := H1.out.1.form
  have HB1 := Lib.hid H1.out.2
  have HX := Lib.hid H1.out.1
  clear H1
  go_wp2_with fail
  refine (p20_all 4 (by decide) 7 w1 _ _ l HX.out HN.out).mono ?_
  rintro e w2 ⟨⟨b, rfl, hb⟩, H2⟩
  have HB2 := Lib.hid (below_then HB1.out HB1.out.size H2.out)
  have HP := Lib.hid hb
  clear hb
  cases b
  · go_wp2_with fail
    refine (works22 w2).mono ?_
    rintro e w3 ⟨rfl, H3⟩
    go_wp2_with fail
    go_ret
    exact ⟨rfl, below_then HB2.out HB2.out.size H3.out⟩
  have hP := HP.out rfl
  have hX2 := HX.out.below H2.out
  have hX4 := elF_elF 4 (by omega) hX2 hP.2
  have hPF : ∀ x ∈ l, PF 4 x := fun x hx => (hP.2 x hx).pf (HN.out x hx) (by omega)
  have HP2 := Lib.hid hP
  have HX4 := Lib.hid hX4.bound
  have HPF := Lib.hid hPF
  have HX2 := Lib.hid (HR.out.below (below_then HB1.out HB1.out.size H2.out))
  clear hP hX2 hX4 hPF HP HR HX
  go_wp2_with fail
  refine (short21 4 w2 _ _ l HX4.out HPF.out HP2.out.1 bnd4).mono ?_
  rintro e w3 ⟨rfl, H3⟩
  have HB3 := Lib.hid (below_then HB2.out HB2.out.size H3.out)
  by_cases hs : (fbytes false 4 l).length ≤ 60000
  rotate_left
  · rw [decide_eq_false hs]
    go_wp2_with fail
    refine (works22 w3).mono ?_
    rintro e w4 ⟨rfl, H4⟩
    go_wp2_with fail
    go_ret
    exact ⟨rfl, below_then HB3.out HB3.out.size H4.out⟩
  rw [decide_eq_true hs]
  have HS := Lib.hid (short_le (big := big) hs)
  have hF : ∀ x ∈ l, FOk big 4 x := PR.fok big HP2.out.2 HN.out (by omega) (by have := HS.out; omega)
  have hX3 : (elF 4).Rd (fun k => k < w3.heap.size) w3 (.slice Au l.length cu) l := (HX4.out.below H3.out).bound.mono fun k hk => hk.2
  have HX3 := Lib.hid hX3
  have HN4 : Hid (∀ x ∈ l, NR 4 x) := Lib.hid fun x hx => (HN.out x hx).down (by omega)
  have HT := Lib.hid (PR.ten HP2.out.2 HP2.out.1)
  have hl10 := HP2.out.1
  clear hX3 HX4 hs
  go_wp2_with fail
  refine (kept43 4 w3 _ l w3.heap.size HX3.out (Nat.le_refl _) hl10 HP2.out.2).mono ?_
  rintro e w4 ⟨u4, rfl, H4⟩
  obtain ⟨A4, c4, rfl, _⟩ := H4.out.1.form
  have HB4 := Lib.hid (below_then HB3.out HB3.out.size H4.out.2)
  have HK4 := Lib.hid H4.out.1.bound
  have HV := Lib.hid ((elT_elF 4 (by omega) (HX2.out.bound.below H3.out) HP2.out.2).bound.below H4.out.2)
  have HF := Lib.hid hF
  clear hF HX2
  go_wp2_with fail
  refine (encode23 4 big w4 _ l _ HV.out HF.out (by omega) (by have := HS.out; omega)).mono ?_
  rintro e w5 ⟨u5, rfl, H5⟩
  obtain ⟨A5, c5, rfl, _⟩ := H5.out.1.form
  have HB5 := Lib.hid (below_then HB4.out HB4.out.size H5.out.2)
  have HK5 := Lib.hid (HK4.out.below H5.out.2)
  have HS5 := Lib.hid H5.out.1
  clear HK4 H4 H5
  go_wp2_with fail
  refine (shape45 4 w5 _ (keptF 4 l) _ HK5.out HT.out.kept).mono ?_
  rintro e w6 ⟨u6, rfl, H6⟩
  obtain ⟨A6, c6, rfl, _⟩ := H6.out.1.form
  have HB6 := Lib.hid (below_then HB5.out HB5.out.size H6.out.2)
  have HK6 := Lib.hid (HK5.out.bound.below H6.out.2)
  have HS6 := Lib.hid (HS5.out.bound.below H6.out.2)
  have HD := Lib.hid (decode44 4 big _ _ l _ _ w6 HS6.out H6.out.1 hl10 HP2.out.2 HN4.out (by have := HS.out; omega))
  clear HK5 HS5 H6 HS6
  go_wp2_with fail
  refine HD.out.mono ?_
  rintro e w7 ⟨A7, c7, rfl, H7⟩
  have HB7 := Lib.hid (below_then HB6.out HB6.out.size H7.out.2)
  have HK7 := Lib.hid (HK6.out.bound.below H7.out.2)
  have hg7 := H7.out.1
  have HT7 := Lib.hid (elF_elT 4 (e := 6) (by omega) hg7.bound HT.out.got)
  have hgl := HT.out.got.len
  obtain ⟨gn, hgn⟩ : ∃ gn, gn = (gotF 4 l).length := ⟨_, rfl⟩
  have HGN := Lib.hid hgn
  have HC8 := Lib.hid (fields19 6 w7 _ (gotF 4 l) w7.heap.size (HT7.out.mono fun k hk => hk.2) (Nat.le_refl _) (by omega) (by omega))
  rw [← hgn] at HC8 hgl ⊢
  clear HD H7 HK6 hg7 HT7 hgn
  go_wp2_with fail
  refine HC8.out.mono ?_
  rintro e w8 ⟨u8, rfl, H8⟩
  obtain ⟨A8, c8, rfl, _⟩ := H8.out.1.form
  have HB8 := Lib.hid (below_then HB7.out HB7.out.size H8.out.2)
  have HM8 := Lib.hid (same46 4 w8 _ _ (gotF 4 l) (keptF 4 l) _ _ (elF_low 4 (by omega) H8.out.1 HT.out.got) (HK7.out.bound.below H8.out.2) HT.out.same)
  clear HC8 HK7 H8
  go_wp2_with fail
  refine HM8.out.mono ?_
  rintro e w9 ⟨rfl, H9⟩
  have HB9 := Lib.hid (below_then HB8.out HB8.out.size H9.out)
  go_wp2_with fail
  refine (works22 w9).mono ?_
  rintro e w10 ⟨rfl, H10⟩
  go_wp2_with fail
  go_ret
  exact ⟨rfl, below_then HB9.out HB9.out.size H10.out⟩

end Go.Proofs.Ytgijhgonpgidiaa
