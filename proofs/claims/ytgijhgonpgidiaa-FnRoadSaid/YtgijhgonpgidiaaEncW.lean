/-
  The walk of FnEncoded. No statement of the seat is proved here.
-/
import Derived.Test.YtgijhgonpgidiaaPrG
import Derived.Test.YtgijhgonpgidiaaImplE
import Derived.Deep.RegionLaw
namespace Go.Proofs.Ytgijhgonpgidiaa
open Go.RowKit Go.Proofs.YtgijhgonpgidiaaW.PrintWords

theorem bnd4 : bnd 4 ≤ 100000000 := by decide
theorem short_le {big : Bool} {d : Nat} {fs : List Fld} (h : (fbytes false d fs).length ≤ 60000) : (fbytes big d fs).length ≤ 60000 := by rw [fbytes_len_big]; exact h
set_option maxRecDepth 100000 in
set_option maxHeartbeats 3200000 in
theorem walk3 (w : World) (v : Value) (l : List Fld) (big : Bool) (hR : (elT 6).Rd (fun _ => True) w v l) (hN : ∀ x ∈ l, NR 7 x) (hl : l.length * 96 ≤ 140737488355328) :
    Calls Try.prog 3 #[v, .bool big] w fun e w' => e = .returned (.bool true) ∧ Below w.heap.size w w' := by
  obtain ⟨A, c, rfl, hlc, hcm⟩ := hR.form
  have HR := Lib.hid (hR.bound.mono fun k hk => hk.2)
  have HN := Lib.hid hN
  clear hR hN
  by_cases h1 : 2147483647 < l.length
  · go_enter Try.func3, Try.ntmps3
    go_wp2_with fail
    go_ret
    exact ⟨rfl, Below.refl _ _⟩
  go_enter Try.func3, Try.ntmps3
  go_wp2_with fail
  refine (fields19 6 w _ l w.heap.size HR.out (Nat.le_refl _) hl (by omega)).mono ?_
  rintro e w1 ⟨u, rfl, H1⟩
  obtain ⟨Au, cu, rfl, _⟩ := H1.out.1.form
  have HB1 := Lib.hid H1.out.2
  have HX := Lib.hid H1.out.1
  clear H1
  go_wp2_with fail
  refine (p20_all 4 (by decide) 7 w1 _ _ l HX.out HN.out).mono ?_
  rintro e w2 ⟨⟨b, rfl, hb⟩, H2⟩
  have HB2 := Lib.hid (below_then HB1.out HB1.out.size H2.out)
  have HP := Lib.hid hb
  clear hb
  cases b
  · go_wp2_with fail
    refine (works22 w2).mono ?_
    rintro e w3 ⟨rfl, H3⟩
    go_wp2_with fail
    go_ret
    exact ⟨rfl, below_then HB2.out HB2.out.size H3.out⟩
  have hP := HP.out rfl
  have hX2 := HX.out.below H2.out
  have hX4 := elF_elF 4 (by omega) hX2 hP.2
  have hPF : ∀ x ∈ l, PF 4 x := fun x hx => (hP.2 x hx).pf (HN.out x hx) (by omega)
  have HP2 := Lib.hid hP
  have HX4 := Lib.hid hX4.bound
  have HPF := Lib.hid hPF
  have HX2 := Lib.hid (HR.out.below (below_then HB1.out HB1.out.size H2.out))
  clear hP hX2 hX4 hPF HP HR HX
  go_wp2_with fail
  refine (short21 4 w2 _ _ l HX4.out HPF.out HP2.out.1 bnd4).mono ?_
  rintro e w3 ⟨rfl, H3⟩
  have HB3 := Lib.hid (below_then HB2.out HB2.out.size H3.out)
  by_cases hs : (fbytes false 4 l).length ≤ 60000
  rotate_left
  · rw [decide_eq_false hs]
    go_wp2_with fail
    refine (works22 w3).mono ?_
    rintro e w4 ⟨rfl, H4⟩
    go_wp2_with fail
    go_ret
    exact ⟨rfl, below_then HB3.out HB3.out.size H4.out⟩
  rw [decide_eq_true hs]
  have HS := Lib.hid (short_le (big := big) hs)
  have hF : ∀ x ∈ l, FOk big 4 x := PR.fok big HP2.out.2 HN.out (by omega) (by have := HS.out; omega)
  have HV := Lib.hid (elT_elF 4 (by omega) (HX2.out.bound.below H3.out) HP2.out.2)
  have HF := Lib.hid hF
  clear hs hF HX2
  go_wp2_with fail
  refine (encode23 4 big w3 _ l _ HV.out HF.out (by have := HP2.out.1; omega) (by have := HS.out; omega)).mono ?_
  rintro e w4 ⟨u4, rfl, H4⟩
  obtain ⟨A4, c4, rfl, _⟩ := H4.out.1.form
  have HB4 := Lib.hid (below_then HB3.out HB3.out.size H4.out.2)
  have HS4 : Hid (Sl (fun _ => True) w4.drew (.slice A4 (fbytes big 4 l).length c4) (fbytes big 4 l)) := Lib.hid (H4.out.1.mono fun _ _ => trivial)
  have hc4 : (convert 28 9 (.slice A4 (fbytes big 4 l).length c4)).run Try.prog w4.drew = .ok (.string (strOfNums (fbytes big 4 l))) w4.drew := str_of HS4.out
  have HC := Lib.hid (fb24 4 big w4.drew _ _ l (((HX4.out.below H3.out).bound.below H4.out.2).below ((Below.refl _ _).drew)) HPF.out HP2.out.1 bnd4)
  clear HX4 HV
  go_wp2_with fail
  go_region_law (first
    | (go_simp; go_at_call 24; refine HC.out.mono ?_; rintro e w5 ⟨u5, rfl, H5⟩
       have hc5 := str_of (Ob.sl H5.out.1)
       have hc6 := str_of (HS4.out.below H5.out.2)
       have HB5 := Lib.hid (below_then (w1 := w4.drew) HB4.out.drew HB4.out.size H5.out.2)
       obtain ⟨A5, c5, rfl, _⟩ := Ob.form H5.out.1)
    | (go_simp; go_at_call 22; refine (works22 _).mono ?_; rintro e w6 ⟨rfl, H6⟩))
  all_goals
    go_wp2_with fail
    go_ret
    exact ⟨rfl, below_then HB5.out HB5.out.size H6.out⟩
end Go.Proofs.Ytgijhgonpgidiaa
