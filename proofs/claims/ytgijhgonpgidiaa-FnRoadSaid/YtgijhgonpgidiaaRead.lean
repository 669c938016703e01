/-
  Contracts of the functions that read a message. No statement of the seat is proved here.
-/
import Derived.Test.YtgijhgonpgidiaaMsgB
import Derived.Deep.RegionLaw
namespace Go.Proofs.Ytgijhgonpgidiaa
open Go.RowKit Go.Proofs.YtgijhgonpgidiaaW.PrintWords

theorem Sl.sub {ok : Nat → Prop} {w : World} {b off c : Nat} {xs : List Int} (h : Sl ok w (.slice (some ⟨b, off, none⟩) xs.length c) xs) (i j : Nat) (hij : i ≤ j) (hj : j ≤ xs.length) (A : Option Addr) (hA : i < j → A = some ⟨b, off + i, none⟩) : Sl ok w (.slice A (j - i) (c - i)) ((xs.take j).drop i) := by
  obtain ⟨A', c', hv, hl, hc, hr⟩ := h
  simp only [Value.slice.injEq, true_and] at hv
  obtain ⟨rfl, rfl⟩ := hv
  have hlen : ((xs.take j).drop i).length = j - i := by rw [List.length_drop, List.length_take, Nat.min_eq_left hj]
  refine ⟨A, c - i, by rw [hlen], by rw [hlen]; omega, by omega, fun h0 => ?_⟩
  rw [hlen] at h0
  obtain ⟨b', off', h1, hb, hcell⟩ := hr (by omega)
  simp only [Option.some.injEq, Addr.mk.injEq, and_true] at h1
  obtain ⟨rfl, rfl⟩ := h1
  refine ⟨b, off + i, hA (by omega), hb, fun k hk => ?_⟩
  rw [hlen] at hk
  rw [Nat.add_assoc, hcell (i + k) (by omega)]
  simp [List.getD_eq_getElem?_getD, List.getElem?_drop, List.getElem?_take_of_lt (show i + k < j by omega)]

/-- What the bytes must be for the message to be read. -/
def readable (xs : List Int) : Prop := 16 ≤ xs.length ∧ xs.length % 4 = 0 ∧ 16 ≤ g4 xs ∧ g4 xs ≤ xs.length

section
variable {ok : Nat → Prop} {w a a' : World} {g : Nat} {o : Obj} {cs : Array Value} {ty : TypeId} {v : Value} {xs : List Int}
theorem kdrew (h : Hid (a.heap[g]? = some o ∧ Sl ok a v xs ∧ w.grownBy a (some g))) (n : Nat) (hw : a' = a.drewN n) : Hid (a'.heap[g]? = some o ∧ Sl ok a' v xs ∧ w.grownBy a' (some g)) := by
  subst hw
  exact Lib.hid ⟨h.out.1, h.out.2.1.below (pw_below_drewN (Below.refl _ _) n), grown_drewN h.out.2.2 n⟩
theorem kset (h : Hid (a.heap[g]? = some (.cells cs ty) ∧ Sl ok a v xs ∧ w.grownBy a (some g))) (hok : ∀ k, ok k → k ≠ g) (j : Nat) (u : Value) :
    Hid ((a.setCell ⟨g, j, none⟩ u).heap[g]? = some (.cells (cs.setIfInBounds j u) ty) ∧ Sl ok (a.setCell ⟨g, j, none⟩ u) v xs ∧ w.grownBy (a.setCell ⟨g, j, none⟩ u) (some g)) :=
  Lib.hid ⟨blk_set h.out.1 j u, h.out.2.1.step fun k hk _ => Below.heap_setCell _ _ _ _ (hok k hk), grown_trans h.out.2.2 (grown_set _ _ _ _)⟩
end

set_option maxRecDepth 100000 in
set_option maxHeartbeats 3200000 in
theorem unmarshal65_good (g : Nat) (dv : Value) (xs : List Int) (ok : Nat → Prop) (w : World) (hG : w.heap[g]? = some (.cells #[.int .u32 0, .int .u16 0, .int .u16 0, .int .u32 0, .int .u32 0, .slice none 0 0] 113)) (hS : Sl ok w dv xs) (hok : ∀ k, ok k → k ≠ g) (hb : IsB xs) (hl : xs.length ≤ 4611686018427387000) (hr : readable xs) :
    Calls Try.prog 65 #[.pointer (some ⟨g, 0, none⟩), dv] w fun e w' => e = .returned .nilIface ∧ Hid (∃ dv', w'.heap[g]? = some (.cells #[.int .u32 (g4 xs), .int .u16 (g2 (xs.drop 4)), .int .u16 (g2 (xs.drop 6)), .int .u32 (g4 (xs.drop 8)), .int .u32 (g4 (xs.drop 12)), dv'] 113) ∧ Sl ok w' dv' ((xs.take (g4 xs).toNat).drop 16) ∧ w.grownBy w' (some g)) := by
  obtain ⟨r1, r2, r3, r4⟩ := hr
  obtain ⟨b, off, c, rfl, hlc, hcm, hbok, hbl, _⟩ := hS.at_ (by omega)
  have hpad : padn xs.length = xs.length := by unfold padn; omega
  have hpi : ((padn xs.length : Nat) : Int) = (xs.length : Int) := by rw [hpad]
  obtain ⟨L, hL⟩ : ∃ L : Nat, g4 xs = (L : Int) := Int.eq_ofNat_of_zero_le (by omega)
  have HL := Lib.hid hL
  have HG := Lib.hid hG
  have HS := Lib.hid hS
  have HOK := Lib.hid hok
  have HIB := Lib.hid hb
  have HP := Lib.hid hpi
  have gne : b ≠ g := hok b hbok
  have e0 : w.frozen? ⟨g, 0, none⟩ = false := blk_frozen hG 0
  have d0 : w.cell? ⟨g, 0, none⟩ = some (.int .u32 0) := blk_cell hG 0
  rw [hL] at r3 r4
  have r3n : 16 ≤ L := by omega
  have r4n : L ≤ xs.length := by omega
  have i1 : (4 : Int) ≤ xs.length := by omega
  have i2 : (6 : Int) ≤ xs.length := by omega
  have i3 : (8 : Int) ≤ xs.length := by omega
  have i4 : (12 : Int) ≤ xs.length := by omega
  have i5 : (16 : Int) ≤ xs.length := by omega
  have j1 : ¬ c = 4 := by omega
  have j2 : ¬ c = 6 := by omega
  have j3 : ¬ c = 8 := by omega
  have j4 : ¬ c = 12 := by omega
  clear hG hS hok hb hpad hpi hL hbok
  go_enter Try.func65, Try.ntmps65
  go_wp2_with fail
  refine (align96 xs.length _ (by omega)).mono ?_
  rintro e w' ⟨rfl, rfl⟩
  rw [HP.out]
  go_wp2_with fail
  have K0 : Hid (w.heap[g]? = some (.cells #[.int .u32 0, .int .u16 0, .int .u16 0, .int .u32 0, .int .u32 0, .slice none 0 0] 113) ∧ Sl ok w (.slice (some ⟨b, off, none⟩) xs.length c) xs ∧ w.grownBy w (some g)) := Lib.hid ⟨HG.out, HS.out, grown_refl _ _⟩
  refine (get99 K0.out.2.1 (by omega) HIB.out).mono ?_
  rintro e w1 ⟨rfl, n1, hw1⟩
  rw [HL.out]
  have J1 := kdrew K0 n1 hw1
  have d1 : w1.cell? ⟨g, 0, none⟩ = some (.int .u32 0) := blk_cell J1.out.1 0
  have e1 : w1.frozen? ⟨g, 0, none⟩ = false := blk_frozen J1.out.1 0
  clear d0 e0 hw1
  go_wp2_with fail
  obtain ⟨x1, hx1⟩ : ∃ X, X = w1.setCell ⟨g, 0, none⟩ (.int .u32 (L : Int)) := ⟨_, rfl⟩
  rw [← hx1]
  have K1 := kset J1 HOK.out 0 (.int .u32 (L : Int))
  rw [← hx1] at K1
  clear hx1 d1 e1
  refine (get100 (K1.out.2.1.drop 4 (by omega)) (by rw [List.length_drop]; omega) (HIB.out.drop 4)).mono ?_
  rintro e w2 ⟨rfl, n2, hw2⟩
  have J2 := kdrew K1 n2 hw2
  have d2 : w2.cell? ⟨g, 1, none⟩ = some (.int .u16 0) := blk_cell J2.out.1 1
  have e2 : w2.frozen? ⟨g, 1, none⟩ = false := blk_frozen J2.out.1 1
  clear  hw2
  go_wp2_with fail
  obtain ⟨x2, hx2⟩ : ∃ X, X = w2.setCell ⟨g, 1, none⟩ (.int .u16 (g2 (xs.drop 4))) := ⟨_, rfl⟩
  rw [← hx2]
  have K2 := kset J2 HOK.out 1 (.int .u16 (g2 (xs.drop 4)))
  rw [← hx2] at K2
  clear hx2 d2 e2
  refine (get100 (K2.out.2.1.drop 6 (by omega)) (by rw [List.length_drop]; omega) (HIB.out.drop 6)).mono ?_
  rintro e w3 ⟨rfl, n3, hw3⟩
  have J3 := kdrew K2 n3 hw3
  have d3 : w3.cell? ⟨g, 2, none⟩ = some (.int .u16 0) := blk_cell J3.out.1 2
  have e3 : w3.frozen? ⟨g, 2, none⟩ = false := blk_frozen J3.out.1 2
  clear  hw3
  go_wp2_with fail
  obtain ⟨x3, hx3⟩ : ∃ X, X = w3.setCell ⟨g, 2, none⟩ (.int .u16 (g2 (xs.drop 6))) := ⟨_, rfl⟩
  rw [← hx3]
  have K3 := kset J3 HOK.out 2 (.int .u16 (g2 (xs.drop 6)))
  rw [← hx3] at K3
  clear hx3 d3 e3
  refine (get99 (K3.out.2.1.drop 8 (by omega)) (by rw [List.length_drop]; omega) (HIB.out.drop 8)).mono ?_
  rintro e w4 ⟨rfl, n4, hw4⟩
  have J4 := kdrew K3 n4 hw4
  have d4 : w4.cell? ⟨g, 3, none⟩ = some (.int .u32 0) := blk_cell J4.out.1 3
  have e4 : w4.frozen? ⟨g, 3, none⟩ = false := blk_frozen J4.out.1 3
  clear  hw4
  go_wp2_with fail
  obtain ⟨x4, hx4⟩ : ∃ X, X = w4.setCell ⟨g, 3, none⟩ (.int .u32 (g4 (xs.drop 8))) := ⟨_, rfl⟩
  rw [← hx4]
  have K4 := kset J4 HOK.out 3 (.int .u32 (g4 (xs.drop 8)))
  rw [← hx4] at K4
  clear hx4 d4 e4
  refine (get99 (K4.out.2.1.drop 12 (by omega)) (by rw [List.length_drop]; omega) (HIB.out.drop 12)).mono ?_
  rintro e w5 ⟨rfl, n5, hw5⟩
  have J5 := kdrew K4 n5 hw5
  have d5 : w5.cell? ⟨g, 4, none⟩ = some (.int .u32 0) := blk_cell J5.out.1 4
  have e5 : w5.frozen? ⟨g, 4, none⟩ = false := blk_frozen J5.out.1 4
  have d0L : w5.cell? ⟨g, 0, none⟩ = some (.int .u32 L) := blk_cell J5.out.1 0
  have d5s : w5.cell? ⟨g, 5, none⟩ = some (.slice none 0 0) := blk_cell J5.out.1 5
  have e5s : w5.frozen? ⟨g, 5, none⟩ = false := blk_frozen J5.out.1 5
  clear  hw5
  go_wp2_with fail
  all_goals clear J1 J2 J3 J4 K1 K2 K3 K4 K0 HP HG HS
  · go_ret
    refine ⟨rfl, ?_⟩
    rw [HL.out]
    have J := kset (kset J5 HOK.out 4 (.int .u32 (g4 (xs.drop 12)))) HOK.out 5 (.slice (some ⟨b, off, none⟩) (L - 16) (16 - 16))
    have hc16 : c = 16 := by assumption
    have hq := J.out.2.1.sub 16 L r3n r4n (some ⟨b, off, none⟩) (fun h => by omega)
    rw [hc16] at hq
    exact Lib.hid ⟨_, by simpa using J.out.1, by simpa using hq, J.out.2.2⟩
  · go_ret
    refine ⟨rfl, ?_⟩
    rw [HL.out]
    have J := kset (kset J5 HOK.out 4 (.int .u32 (g4 (xs.drop 12)))) HOK.out 5 (.slice (some ⟨b, off + 16, none⟩) (L - 16) (c - 16))
    exact Lib.hid ⟨_, by simpa using J.out.1, by have := J.out.2.1.sub 16 L r3n r4n (some ⟨b, off + 16, none⟩) (fun h => rfl); simpa using this, J.out.2.2⟩

set_option maxRecDepth 100000 in
set_option maxHeartbeats 3200000 in
theorem unmarshal65_bad (g : Nat) (dv : Value) (xs : List Int) (ok : Nat → Prop) (w : World) (hG : w.heap[g]? = some (.cells #[.int .u32 0, .int .u16 0, .int .u16 0, .int .u32 0, .int .u32 0, .slice none 0 0] 113)) (hS : Sl ok w dv xs) (hok : ∀ k, ok k → k ≠ g) (hb : IsB xs) (hl : xs.length ≤ 4611686018427387000) (hr : ¬ readable xs) :
    Calls Try.prog 65 #[.pointer (some ⟨g, 0, none⟩), dv] w fun e w' => (∃ y : Value, e = .returned (.iface 143 y)) ∧ Hid (w.grownBy w' (some g)) := by
  by_cases h1 : 16 ≤ xs.length
  · obtain ⟨b, off, c, rfl, hlc, hcm, hbok, hbl, _⟩ := hS.at_ (by omega)
    have HG := Lib.hid hG
    have HS := Lib.hid hS
    have HIB := Lib.hid hb
    have gne : b ≠ g := hok b hbok
    have i5 : (16 : Int) ≤ xs.length := by omega
    clear hG hS hok hb hbok
    by_cases h2 : xs.length % 4 = 0
    · have hpad : padn xs.length = xs.length := by unfold padn; omega
      obtain ⟨L, hL⟩ : ∃ L : Nat, g4 xs = (L : Int) := Int.eq_ofNat_of_zero_le (g4_range HIB.out).1
      have hbad : L < 16 ∨ (16 ≤ L ∧ xs.length < L) := by unfold readable at hr; omega
      have HL := Lib.hid hL
      have HP := Lib.hid hpad
      have hL2 : (L : Int) < 4294967296 := by rw [← hL]; exact (g4_range HIB.out).2
      have HBAD := Lib.hid hbad
      have HL2 := Lib.hid hL2
      clear hL hpad hr hbad hL2
      have hnl : ((xs.length : Int) < 16) = False := by simp; omega
      go_enter Try.func65, Try.ntmps65
      go_wp2_with fail
      refine (align96 xs.length _ (by omega)).mono ?_
      rintro e w' ⟨rfl, rfl⟩
      rw [HP.out]
      go_wp2_with fail
      refine (get99 HS.out (by omega) HIB.out).mono ?_
      rintro e w1 ⟨rfl, n1, hw1⟩
      rw [HL.out]
      have hh1 : w1.heap[g]? = some (.cells #[.int .u32 0, .int .u16 0, .int .u16 0, .int .u32 0, .int .u32 0, .slice none 0 0] 113) := by rw [hw1]; exact HG.out
      have d1 : w1.cell? ⟨g, 0, none⟩ = some (.int .u32 0) := blk_cell hh1 0
      have e1 : w1.frozen? ⟨g, 0, none⟩ = false := blk_frozen hh1 0
      have HGW : Hid (w.grownBy w1 (some g)) := Lib.hid (by rw [hw1]; exact grown_drewN (grown_refl _ _) n1)
      clear hw1 hh1
      have hL2 := HL2.out
      rcases HBAD.out with hbad | ⟨hb1, hb2⟩
      · have q1 : (L : Int) < 16 := by omega
        clear hbad
        go_wp2_with fail
        go_ret
        first | exact Lib.hid (grown_trans HGW.out (grown_set _ _ _ _)) | exact ⟨⟨_, rfl⟩, Lib.hid (grown_trans HGW.out (grown_set _ _ _ _))⟩
      · have q1 : (16 : Int) ≤ (L : Int) := by omega
        have q2 : xs.length < L := by omega
        have q3 : (xs.length : Int) < (L : Int) := by omega
        clear hb1 hb2
        go_wp2_with fail
        go_ret
        first | exact Lib.hid (grown_trans HGW.out (grown_set _ _ _ _)) | exact ⟨⟨_, rfl⟩, Lib.hid (grown_trans HGW.out (grown_set _ _ _ _))⟩
    · have hpad : ((xs.length : Int) != ((padn xs.length : Nat) : Int)) = true := by simp; unfold padn; omega
      have hnl : ((xs.length : Int) < 16) = False := by simp; omega
      clear hr h2
      go_enter Try.func65, Try.ntmps65
      go_wp2_with fail
      refine (align96 xs.length _ (by omega)).mono ?_
      rintro e w' ⟨rfl, rfl⟩
      go_wp2_with fail
      go_ret
      first | exact Lib.hid (grown_refl _ _) | exact ⟨⟨_, rfl⟩, Lib.hid (grown_refl _ _)⟩
  · obtain ⟨A, c, rfl, _⟩ := hS.form
    have hnl : ((xs.length : Int) < 16) = True := by simp; omega
    clear hr hG hS hok hb h1
    go_enter Try.func65, Try.ntmps65
    go_wp2_with fail
    go_ret
    first | exact Lib.hid (grown_refl _ _) | exact ⟨⟨_, rfl⟩, Lib.hid (grown_refl _ _)⟩
end Go.Proofs.Ytgijhgonpgidiaa
