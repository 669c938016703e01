/-
  The walk of FnAttributes. No statement of the seat is proved here.
-/
import Derived.Test.YtgijhgonpgidiaaAtr
import Derived.Deep.RegionLaw
namespace Go.Proofs.Ytgijhgonpgidiaa
open Go.RowKit Go.Proofs.YtgijhgonpgidiaaW.PrintWords

set_option maxRecDepth 100000 in
set_option maxHeartbeats 1600000 in
theorem walk4 (w : World) (v : Value) (l : List (Int × List Int)) (ok : Nat → Prop) (hR : elS.Rd ok w v l) :
    Calls Try.prog 4 #[v] w fun e w' => e = .returned (.bool true) ∧ Below w.heap.size w w' := by
  obtain ⟨A, c, rfl, hlc, hcm⟩ := hR.form
  have HR := Lib.hid hR.bound
  clear hR
  go_enter Try.func4, Try.ntmps4
  go_wp2_with fail
  refine (fits25 w _ l _ HR.out).mono ?_
  rintro e w1 ⟨b, rfl, H1⟩
  cases b
  · go_wp2_with fail
    go_ret
    exact ⟨rfl, H1.out.1⟩
  go_wp2_with fail
  refine (attributes26 w1 _ l _ (HR.out.below H1.out.1) (H1.out.2 (by simp))).mono ?_
  rintro e w2 ⟨u, b, rfl, H2⟩
  have HB2 := Lib.hid (below_then H1.out.1 H1.out.1.size H2.out.1)
  cases b
  · go_wp2_with fail
    refine (works22 w2).mono ?_
    rintro e w3 ⟨rfl, H3⟩
    go_wp2_with fail
    go_ret
    exact ⟨rfl, below_then HB2.out HB2.out.size H3.out⟩
  obtain ⟨hO, h20, hP⟩ := H2.out.2 (by simp)
  obtain ⟨A1, c1, rfl, _⟩ := hO.slice_
  have HO := Lib.hid hO
  have HP := Lib.hid hP
  clear hO hP
  go_wp2_with fail
  refine (format27 w2 _ l _ ((HR.out.below H1.out.1).bound.below H2.out.1) HP.out h20).mono ?_
  rintro e w3 ⟨u3, rfl, H3⟩
  have HB3 := Lib.hid (below_then HB2.out HB2.out.size H3.out.2)
  obtain ⟨A3, c3, rfl, _⟩ := H3.out.1.form
  have HS3 : Hid (Sl (fun _ => True) w3.drew (.slice A3 (attrsB l).length c3) (attrsB l)) := Lib.hid (H3.out.1.mono fun _ _ => trivial)
  have hc3 : (convert 28 9 (.slice A3 (attrsB l).length c3)).run Try.prog w3.drew = .ok (.string (strOfNums (attrsB l))) w3.drew := str_of HS3.out
  have hT : (attrsB l).length ≤ 140730000000000 := by have := attrsB_length_le 200 l (fun a ha => (HP.out a ha).2); omega
  have HC := Lib.hid (attrBytes28 w3.drew _ l _ (HO.out.rd.below H3.out.2.drew) (fun a ha => ⟨(HP.out a ha).1, by have := (HP.out a ha).2; omega⟩) hT)
  clear hT
  go_wp2_with fail
  go_region_law (first
    | (go_simp; go_at_call 28; refine HC.out.mono ?_; rintro e w4 ⟨u4, rfl, H4⟩
       have hc4 := str_of (Ob.sl H4.out.1)
       have hc5 := str_of (HS3.out.below H4.out.2)
       have HB4 := Lib.hid (below_then (w1 := w3.drew) HB3.out.drew HB3.out.size H4.out.2)
       obtain ⟨A4, c4, rfl, _⟩ := Ob.form H4.out.1)
    | (go_simp; go_at_call 22; refine (works22 _).mono ?_; rintro e w5 ⟨rfl, H5⟩))
  all_goals
    go_wp2_with fail
    go_ret
    exact ⟨rfl, below_then HB4.out HB4.out.size H5.out⟩
end Go.Proofs.Ytgijhgonpgidiaa
