/-
  The walk of FnCut. No statement of the seat is proved here.
-/
import Derived.Test.YtgijhgonpgidiaaParW
namespace Go.Proofs.Ytgijhgonpgidiaa
open Go.RowKit Go.Proofs.YtgijhgonpgidiaaW.PrintWords

/-- The first ones of a row. -/
theorem El.Rd.take {α : Type} {d : El α} {ok : Nat → Prop} {w : World} {A : Option Addr} {c : Nat} {l : List α} (h : d.Rd ok w (.slice A l.length c) l) {k : Nat} (hk : k ≤ l.length) (A' : Option Addr) (hA : 0 < k → A' = A) : d.Rd ok w (.slice A' k c) (l.take k) := by
  obtain ⟨A2, c2, hv, hl, hc, hr⟩ := h
  simp only [Value.slice.injEq, true_and] at hv
  obtain ⟨rfl, rfl⟩ := hv
  have hlen : (l.take k).length = k := by rw [List.length_take, Nat.min_eq_left hk]
  refine ⟨A', c, by rw [hlen], by rw [hlen]; omega, hc, fun h0 => ?_⟩
  rw [hlen] at h0
  obtain ⟨b, off, h1, hb, hcell⟩ := hr (by omega)
  refine ⟨b, off, (hA h0).trans h1, hb, fun i x hx => hcell i x ?_⟩
  have hi : i < (l.take k).length := (List.getElem?_eq_some_iff.1 hx).1
  rw [hlen] at hi
  rw [List.getElem?_take_of_lt hi] at hx
  exact hx
/-- UnmarshalAttributes at attributes of which the last one's end is missing. -/
theorem um72_cut {l : List (Int × List Int)} {z : Int × List Int} {n : Nat} (hA : AOk (l ++ [z])) (hib : ∀ a ∈ l ++ [z], IsB a.2) (hl : l.length < 100000) (hm : (attrsB (l ++ [z])).length ≤ 140737488355328) (h1 : 0 < n) (h2 : n < 4 + z.2.length) (W : World) (v : Value) (ok' : Nat → Prop) (hS : Sl ok' W v ((attrsB (l ++ [z])).take ((attrsB l).length + n))) :
    Calls Try.prog 72 #[v] W fun r w' => (∃ y : Value, r = .returned (.tuple #[.slice none 0 0, .iface 143 y])) ∧ Hid (Below W.heap.size W w') := by
  have htot : (attrsB (l ++ [z])).length = (attrsB l).length + (4 + padn z.2.length) := by rw [attrsB_append, List.length_append, show attrsB [z] = attrB z by simp [attrsB], attrB_length]
  have hpz := padn_le z.2.length
  have hAl : AOk l := fun a ha => hA a (List.mem_append.2 (.inl ha))
  have hpl : ∀ k, k ≤ l.length → pos (l ++ [z]) k = pos l k := fun k hk => by unfold pos; rw [List.take_append_of_le_length hk]
  rcases Nat.lt_or_ge n 4 with h4 | h4
  · exact um72_short W v ok' l z _ hS hAl (by omega) (by omega) hib (by omega)
  · have hlen : (l ++ [z]).length = l.length + 1 := by simp
    have hz : (l ++ [z])[l.length]? = some z := by simp
    have hp : ∀ k a, k < l.length → (l ++ [z])[k]? = some a → pos (l ++ [z]) k + (4 + a.2.length) ≤ (attrsB l).length + n := fun k a hk ha => by
      rw [List.getElem?_append_left hk] at ha
      rw [hpl k (by omega)]
      have h1 := pos_succ ha
      have h2 := pos_le l (k + 1)
      have h3 := padn_le a.2.length
      omega
    refine (um72 W v ok' (l ++ [z]) ((attrsB l).length + n) l.length hS hA ⟨by omega, fun k hk => ?_⟩ hib (by omega) (by omega) (by omega) (by omega) hp (.inr ⟨z, hz, ?_⟩)).mono ?_
    · rcases Nat.lt_or_ge k l.length with hk2 | hk2
      · have := hp k _ hk2 (List.getElem?_eq_getElem (by omega)); omega
      · obtain rfl : k = l.length := by omega
        rw [hpl _ (Nat.le_refl _), pos_all]; omega
    · rw [hpl _ (Nat.le_refl _), pos_all]; omega
    · rintro r w' ⟨u, e, rfl, H⟩
      rcases H.out.2 with ⟨h, _⟩ | ⟨_, rfl, y, rfl⟩
      · omega
      · exact ⟨⟨y, rfl⟩, Lib.hid H.out.1⟩

set_option maxRecDepth 100000 in
set_option maxHeartbeats 3200000 in
theorem walk12 (w : World) (v : Value) (n : Int) (l : List (Int × List Int)) (ok : Nat → Prop) (hR : elS.Rd ok w v l) (hib : ∀ a ∈ l, IsB a.2) :
    Calls Try.prog 12 #[v, .int .i64 n] w fun e w' => e = .returned (.bool true) ∧ Below w.heap.size w w' := by
  obtain ⟨A, c, rfl, hlc, hcm⟩ := hR.form
  have HR := Lib.hid hR.bound
  have HIB := Lib.hid hib
  clear hR hib
  go_enter Try.func12, Try.ntmps12
  go_wp2_with fail
  refine (fits25 w _ l _ HR.out).mono ?_
  rintro e w1 ⟨b, rfl, H1⟩
  cases b
  · go_wp2_with fail
    go_ret
    exact ⟨rfl, H1.out.1⟩
  have hbig : l.length ≤ 2147483647 := H1.out.2 rfl
  go_wp2_with fail
  refine (attributes26 w1 _ l _ (HR.out.below H1.out.1) hbig).mono ?_
  rintro e w2 ⟨u, b, rfl, H2⟩
  have HB2 := Lib.hid (below_then H1.out.1 H1.out.1.size H2.out.1)
  cases b
  · go_wp2_with fail
    refine (works22 w2).mono ?_
    rintro e w3 ⟨rfl, H3⟩
    go_wp2_with fail
    go_ret
    exact ⟨rfl, below_then HB2.out HB2.out.size H3.out⟩
  obtain ⟨hO, h20, hP⟩ := H2.out.2 (by simp)
  obtain ⟨A1, c1, rfl, hc1⟩ := hO.slice_
  have HRD := Lib.hid hO.rd
  have HP := Lib.hid hP
  have HAO := Lib.hid (AP.AOk hP)
  have hT : (attrsB l).length ≤ 140730000000000 := by have := attrsB_length_le 200 l (fun a ha => (hP a ha).2); omega
  have HT := Lib.hid hT
  clear hO hP hT
  by_cases hl0 : l.length = 0
  · have hl0' : ((l.length : Int) == 0) = true := by simp; exact List.eq_nil_of_length_eq_zero hl0
    clear hl0
    go_wp2_with fail
    refine (works22 w2).mono ?_
    rintro e w3 ⟨rfl, H3⟩
    go_wp2_with fail
    go_ret
    exact ⟨rfl, below_then HB2.out HB2.out.size H3.out⟩
  have hl0' : ((l.length : Int) == 0) = false := by simp; intro h; exact hl0 (by rw [h]; rfl)
  have hsp : l = l.take (l.length - 1) ++ [l[l.length - 1]'(by omega)] := by
    rw [← List.take_succ_eq_append_getElem (by omega), List.take_of_length_le (by omega)]
  obtain ⟨K, hK⟩ : ∃ K, K = l.length - 1 := ⟨_, rfl⟩
  obtain ⟨x, hx⟩ : ∃ x, l[K]? = some x := ⟨_, List.getElem?_eq_getElem (by omega)⟩
  obtain ⟨b, off, dA, dc, rfl, hbl, hbok, e0, e1, hd⟩ := rowS HRD.out hx
  have hKl : l.length = K + 1 := by omega
  obtain ⟨l', hl'⟩ : ∃ l', l' = l.take K := ⟨_, rfl⟩
  have hll : l = l' ++ [x] := by
    have := take_snoc' hx
    rw [← hKl, List.take_length] at this
    rw [hl']; exact this
  have hxp := HP.out x (List.mem_of_getElem? hx)
  have hdl := hd.len
  have hxp2 := hxp.2
  have hKK : (K : Int) + 1 ≤ 20 := by omega
  obtain ⟨zz, hzz⟩ : ∃ z, z = w2.heap.size := ⟨_, rfl⟩
  obtain ⟨W3, hW3⟩ : ∃ W, W = w2.alloc (.cells #[.int .i64 x.1, .slice dA x.2.length dc] 61) := ⟨_, rfl⟩
  have hB3 : Below w2.heap.size w2 W3 := by rw [hW3]; exact (Below.refl _ _).alloc (Nat.le_refl _) _
  have kz : W3.heap[zz]? = some (.cells #[.int .i64 x.1, .slice dA x.2.length dc] 61) := by rw [hW3, hzz]; exact heap_alloc_new _ _
  have m1 : W3.cell? ⟨zz, 1, none⟩ = some (.slice dA x.2.length dc) := blk_cell kz 1
  have HB3 := Lib.hid (below_then HB2.out HB2.out.size hB3)
  have HRD3 := Lib.hid (HRD.out.below hB3)
  have HW3 := Lib.hid hW3
  have HLL := Lib.hid hll
  have HKL := Lib.hid hKl
  have HL' := Lib.hid hl'
  have KZ := Lib.hid kz
  rw [hKl]
  clear hsp hx hl' hll hd hKl hl0 hl0' hxp hB3 hW3 kz hK
  have hKc : (K : Int) + 1 ≤ (c1 : Int) := by have := HKL.out; omega
  have hKc2 : K + 1 ≤ c1 := by have := HKL.out; omega
  have hK0 : ((K : Int) + 1 == 0) = false := by simp; omega
  have HA' : Hid (∀ a ∈ l', (0 ≤ a.1 ∧ a.1 < 65536) ∧ a.2.length ≤ 200) := Lib.hid fun a ha => HP.out a (by rw [HLL.out]; exact List.mem_append.2 (.inl ha))
  have HRT : Hid (elS.Rd (fun _ => True) W3 (.slice (some ⟨b, off, none⟩) K c1) l') := Lib.hid (by rw [HL'.out]; exact HRD3.out.take (k := K) (by have := HKL.out; omega) _ (fun _ => rfl))
  have HTl : Hid ((attrsB l').length ≤ 140730000000000) := Lib.hid (by have h1 := HT.out; rw [HLL.out, attrsB_append, List.length_append] at h1; show _ ≤ _; omega)
  clear hc1
  go_wp2_with fail
  rw [← HW3.out, ← hzz]
  clear hzz
  refine (attrBytes28 W3 _ l' _ HRT.out (fun a ha => ⟨(HA'.out a ha).1, by have := (HA'.out a ha).2; omega⟩) HTl.out).mono ?_
  rintro e w4 ⟨u4, rfl, H4⟩
  obtain ⟨A4, c4, rfl, _⟩ := Ob.form H4.out.1
  have HB4 := Lib.hid (below_then HB3.out HB3.out.size H4.out.2)
  obtain ⟨M, hM⟩ : ∃ M, M = (attrsB l').length := ⟨_, rfl⟩
  have HM := Lib.hid hM
  rw [← hM]
  have hMb : M ≤ 140730000000000 := by rw [hM]; exact HTl.out
  have m4 : w4.cell? ⟨zz, 1, none⟩ = some (.slice dA x.2.length dc) := blk_cell (blk_below KZ.out H4.out.2) 1
  have HRD4 : Hid (elS.Rd (fun _ => True) w4 (.slice (some ⟨b, off, none⟩) (K + 1) c1) l) := Lib.hid (by have := HRD3.out.below H4.out.2; rw [HKL.out] at this; exact this)
  clear hM m1
  by_cases hn1 : n < 1
  · go_wp2_with fail
    refine (works22 _).mono ?_
    rintro e w5 ⟨rfl, H5⟩
    go_wp2_with fail
    go_ret
    exact ⟨rfl, below_then HB4.out HB4.out.size H5.out⟩
  by_cases hn2 : 4 + (x.2.length : Int) ≤ n
  · go_wp2_with fail
    refine (works22 _).mono ?_
    rintro e w5 ⟨rfl, H5⟩
    go_wp2_with fail
    go_ret
    exact ⟨rfl, below_then HB4.out HB4.out.size H5.out⟩
  obtain ⟨j, rfl⟩ := Int.eq_ofNat_of_zero_le (show 0 ≤ n by omega)
  have hj1 : 0 < j := by omega
  have hj2 : j < 4 + x.2.length := by omega
  have hn1' : ¬ ((j : Int) < 1) := by omega
  have hn2' : ¬ (4 + (x.2.length : Int) ≤ (j : Int)) := by omega
  clear hn1 hn2
  go_wp2_with fail
  refine (attrBytes28 w4 _ l _ HRD4.out (fun a ha => ⟨(HP.out a ha).1, by have := (HP.out a ha).2; omega⟩) HT.out).mono ?_
  rintro e w5 ⟨u5, rfl, H5⟩
  have htot : (attrsB l).length = M + (4 + padn x.2.length) := by rw [HLL.out, attrsB_append, List.length_append, show attrsB [x] = attrB x by simp [attrsB], attrB_length, ← HM.out]
  have hpx := padn_le x.2.length
  obtain ⟨b5, off5, c5, rfl, hc5, hc5m, _, _, _⟩ := (Ob.sl H5.out.1).at_ (by omega)
  have hsub := (Ob.sl H5.out.1).sub 0 (M + j) (Nat.zero_le _) (by omega) (some ⟨b5, off5, none⟩) (fun _ => rfl)
  simp only [Nat.sub_zero, List.drop_zero] at hsub
  have HU := Lib.hid (parse39_bad (.slice (some ⟨b5, off5, none⟩) (M + j) c5) ((attrsB l).take (M + j)) _ w5 hsub (by rw [List.length_take]; omega) (fun W v ok' hS => by
    rw [HLL.out, HM.out] at hS
    exact um72_cut (n := j) (by rw [← HLL.out]; exact HAO.out) (by rw [← HLL.out]; exact HIB.out) (by have h1 := congrArg List.length HLL.out; rw [List.length_append, List.length_singleton] at h1; omega) (by rw [← HLL.out]; have := HT.out; omega) hj1 hj2 W v ok' hS))
  have HB5 := Lib.hid (below_then HB4.out HB4.out.size H5.out.2)
  have hMc : (M : Int) + (j : Int) ≤ (c5 : Int) := by omega
  have hMc2 : M + j ≤ c5 := by omega
  have hc50 : ¬ c5 = 0 := by omega
  clear hsub htot hpx
  go_wp2_with fail
  refine HU.out.mono ?_
  rintro e w6 ⟨rfl, H6⟩
  have HB6 := Lib.hid (below_then HB5.out HB5.out.size H6.out)
  go_wp2_with fail
  refine (works22 _).mono ?_
  rintro e w7 ⟨rfl, H7⟩
  go_wp2_with fail
  go_ret
  exact ⟨rfl, below_then HB6.out HB6.out.size H7.out⟩
end Go.Proofs.Ytgijhgonpgidiaa
