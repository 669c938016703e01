/-
  Contracts of UnmarshalAttributes. No statement of the seat is proved here.
-/
import Derived.Test.YtgijhgonpgidiaaNx2
namespace Go.Proofs.Ytgijhgonpgidiaa
open Go.RowKit Go.Proofs.YtgijhgonpgidiaaW.PrintWords

/-- The package's attributes as they are read: length, type, data. -/
def elB : El (Int × List Int) where
  sz := 3
  E ok w x cs := ∃ dv, cs = [.int .u16 (4 + x.2.length), .int .u16 x.1, dv] ∧ Sl ok w dv x.2
  len := by rintro ok w x cs ⟨dv, rfl, _⟩; rfl
  one := by
    rintro ok w x cs ⟨dv, rfl, h⟩ u hu
    obtain ⟨A, c, rfl, _⟩ := h
    simp only [List.mem_cons, List.not_mem_nil, or_false] at hu
    rcases hu with rfl | rfl | rfl <;> rfl
  mono := by rintro ok ok' w x cs hk ⟨dv, h, k⟩; exact ⟨dv, h, k.mono hk⟩
  bound := by rintro ok w x cs ⟨dv, h, k⟩; exact ⟨dv, h, k.bound⟩
  step := by rintro ok w w1 x cs hm ⟨dv, h, k⟩; exact ⟨dv, h, k.step hm⟩

theorem El.Ow.made {α : Type} (d : El α) {e : TypeId} {w : World} {base : Nat} {v : Value} {ok : Nat → Prop} (h : w.ownsRow base e d.sz v 0 []) (hk : ∀ k, v.ownBlock = some k → ok k) : d.Ow e ok w base v [] :=
  ⟨hk, [], h, Reps.none _ _⟩

set_option maxRecDepth 100000 in
set_option maxHeartbeats 1600000 in
theorem um72_nil (w : World) (bv : Value) (ok : Nat → Prop) (hS : Sl ok w bv []) : Calls Try.prog 72 #[bv] w fun r w' => r = .returned (.tuple #[.slice none 0 0, .nilIface]) ∧ Hid (Below w.heap.size w w') := by
  have HC := Lib.hid (new77 w bv ok [] 0 (by simpa [attrsB] using hS) (fun a ha => by cases ha) ⟨by simp, fun k hk => by simp at hk⟩ (fun a ha => by cases ha) (by omega))
  obtain ⟨A, c, rfl, _⟩ := hS.form
  clear hS
  go_enter Try.func72, Try.ntmps72
  go_wp2_with fail
  refine HC.out.mono ?_
  rintro r w1 ⟨rfl, H1⟩
  go_wp2_with fail
  refine (len103 w1 _ _ _ _ _ _ _ _ _ H1.out.1).mono ?_
  rintro r w2 ⟨rfl, rfl⟩
  go_wp2_with fail
  go_ret2
  exact ⟨rfl, Lib.hid H1.out.2⟩

set_option maxRecDepth 100000 in
set_option maxHeartbeats 1600000 in
theorem um72_short (w : World) (bv : Value) (ok : Nat → Prop) (l : List (Int × List Int)) (z : Int × List Int) (m : Nat) (hS : Sl ok w bv ((attrsB (l ++ [z])).take m)) (hA : AOk l) (h0 : (attrsB l).length < m) (h1 : m < (attrsB l).length + 4) (hib : ∀ a ∈ l ++ [z], IsB a.2) (hm : m ≤ 140737488355328) :
    Calls Try.prog 72 #[bv] w fun r w' => (∃ y : Value, r = .returned (.tuple #[.slice none 0 0, .iface 143 y])) ∧ Hid (Below w.heap.size w w') := by
  have HC := Lib.hid (new77_short w bv ok l z m hS hA h0 h1 hib hm)
  obtain ⟨A, c, hbv⟩ : ∃ A c, bv = .slice A ((attrsB (l ++ [z])).take m).length c := by obtain ⟨A, c, h, _⟩ := hS.form; exact ⟨A, c, h⟩
  obtain ⟨n, hn⟩ : ∃ n, n = ((attrsB (l ++ [z])).take m).length := ⟨_, rfl⟩
  rw [← hn] at hbv
  subst hbv
  clear hS hA h0 h1 hib hn
  go_enter Try.func72, Try.ntmps72
  go_wp2_with fail
  refine HC.out.mono ?_
  rintro r w1 ⟨⟨y, rfl⟩, H1⟩
  go_wp2_with fail
  go_ret2
  exact ⟨⟨_, rfl⟩, H1⟩

set_option maxRecDepth 100000 in
set_option maxHeartbeats 6400000 in
theorem um72 (w : World) (bv : Value) (ok : Nat → Prop) (l : List (Int × List Int)) (m K : Nat) (hS : Sl ok w bv ((attrsB l).take m)) (hA : AOk l) (hH : Heads l m) (hib : ∀ a ∈ l, IsB a.2) (hm : m ≤ 140737488355328) (h0 : 0 < l.length) (hll : l.length ≤ 100000) (hK : K ≤ l.length)
    (hc : ∀ k a, k < K → l[k]? = some a → pos l k + (4 + a.2.length) ≤ m) (hend : (K = l.length ∧ (attrsB l).length ≤ m) ∨ ∃ z, l[K]? = some z ∧ m < pos l K + (4 + z.2.length)) :
    Calls Try.prog 72 #[bv] w fun r w' => ∃ u e, r = .returned (.tuple #[u, e]) ∧ Hid (Below w.heap.size w w' ∧ ((K = l.length ∧ e = .nilIface ∧ elB.Rd (fun k => w.heap.size ≤ k) w' u l) ∨ (K < l.length ∧ u = .slice none 0 0 ∧ ∃ y : Value, e = .iface 143 y))) := by
  have HC := Lib.hid (new77 w bv ok l m hS hA hH hib hm)
  obtain ⟨xs, hxs⟩ : ∃ xs, xs = (attrsB l).take m := ⟨_, rfl⟩
  have hxl : xs.length = m := by rw [hxs, List.length_take]; have := hH.1; omega
  have hxB : IsB xs := by rw [hxs]; exact (attrsB_isB hib).take m
  have hS := hS.bound
  rw [← hxs] at hS
  obtain ⟨A, c, rfl, _⟩ := hS.form
  obtain ⟨g, hg⟩ : ∃ g, g = w.heap.size := ⟨_, rfl⟩
  have HS := Lib.hid hS
  have HA := Lib.hid hA
  have HH := Lib.hid hH
  have HX := Lib.hid hxs
  have HXL := Lib.hid hxl
  have HXB := Lib.hid hxB
  have HCC := Lib.hid hc
  have HEND := Lib.hid hend
  have HIB := Lib.hid hib
  have HGG := Lib.hid hg
  have hxm : xs.length ≤ 140737488355328 := by omega
  rw [← hg] at HC
  clear hS hA hH hxs hxl hxB hc hend hib hg hm
  go_enter Try.func72, Try.ntmps72
  go_wp2_with fail
  refine HC.out.mono ?_
  rintro r w1 ⟨rfl, H1⟩
  go_wp2_with fail
  refine (len103 w1 _ _ _ _ _ _ _ _ _ H1.out.1).mono ?_
  rintro r w2 ⟨rfl, rfl⟩
  have hn0 : ((l.length : Int) == 0) = false := by simp; intro h; subst h; simp at h0
  go_wp2_with fail
  refine (len103 w1 _ _ _ _ _ _ _ _ _ H1.out.1).mono ?_
  rintro r w2 ⟨rfl, rfl⟩
  obtain ⟨i0, hi, hz0, hz1, hz2⟩ := info_parts info102
  have hbyt : i0.bytes * l.length ≤ 281474976710656 := by rw [hz2]; omega
  have HI := Lib.hid hi
  have HZ0 := Lib.hid hz0
  have HZ1 := Lib.hid hz1
  have HBY := Lib.hid hbyt
  clear hi hz0 hz1 hz2 hbyt
  go_wp2_with (refine wpList_make_own w1 rfl _ _ 87 rfl w1.heap.size 102 i0 _ 3 Try.underlying87 HI.out HZ0.out HZ1.out _ _ _ l.length rfl rfl rfl HBY.out (by simp only [maxLen]; omega) (Nat.le_refl _) ?_; intro w2 ho2 hg2; have HO2 := Lib.hid ho2; have HG2 := Lib.hid hg2; clear ho2 hg2)
  have hk2 := blk_grown H1.out.1 HG2.out (by simp)
  have hsz12 := HG2.out.size
  have hb01 : Below w.heap.size w w1 := by have h := H1.out.2; rw [HGG.out] at h; exact h
  have HB2 : Hid (Below w.heap.size w w2) := Lib.hid (hb01.grown HG2.out hb01.size (fun k hk => by cases hk))
  have HS2 : Hid (Sl (fun k => ok k ∧ k < w.heap.size) w2 (.slice A xs.length c) xs) := Lib.hid (HS.out.below HB2.out)
  have hb1 : w.heap.size ≤ w1.heap.size := hb01.size
  have hgl1 : g < w1.heap.size := blk_lt H1.out.1
  have HK2 := Lib.hid hk2
  have hO0 : elB.Ow 102 (fun j => w1.heap.size ≤ j) w2 w1.heap.size (.slice (some ⟨w1.heap.size, 0, none⟩) 0 l.length) (l.take 0) := El.Ow.made elB HO2.out (fun k hk => by simp [Value.ownBlock] at hk; omega)
  have HO0 := Lib.hid hO0
  obtain ⟨B, hB⟩ : ∃ B, B = w1.heap.size := ⟨_, rfl⟩
  rw [← hB] at HO0 hb1 hgl1 ⊢
  have hBs : B ≤ w2.heap.size := by rw [hB]; exact hsz12
  clear hO0 hk2 hsz12 HO2 HG2 hB hb01
  go_loopw [6] (fun b wr => ∃ k : Nat, k ≤ K ∧ Hid ((∃ L T dv, wr.heap[g]? = some (decO (.iface 140 (.agg #[])) L T dv (.slice A xs.length c) (pos l k : Nat) l.length .nilIface)) ∧ elB.Ow 102 (fun j => B ≤ j) wr B b (l.take k) ∧ Below w.heap.size w wr ∧ B ≤ wr.heap.size)) (fun b _ => l.length - lenV b)
  case atStart => exact ⟨0, Nat.zero_le _, Lib.hid ⟨⟨_, _, _, by rw [pos_zero]; exact HK2.out⟩, HO0.out, HB2.out, hBs⟩⟩
  case round =>
    obtain ⟨k, hk, HL⟩ := hrel
    obtain ⟨L0, T0, dv0, hgk⟩ := HL.out.1
    obtain ⟨A6, c6, hv6, _⟩ := HL.out.2.1.slice_
    rw [List.length_take, Nat.min_eq_left (show k ≤ l.length by omega)] at hv6
    subst hv6
    have hSr := HS.out.below HL.out.2.2.1
    have hgw := HGG.out
    by_cases hlt : k < K
    · obtain ⟨a, ha⟩ : ∃ a, l[k]? = some a := ⟨_, List.getElem?_eq_getElem (by omega)⟩
      have HN := Lib.hid (next_at wr g _ dv0 _ L0 T0 _ l m k a _ hgk (show Sl (fun k => ok k ∧ k < w.heap.size) wr (.slice A xs.length c) ((attrsB l).take m) from by rw [← HX.out]; exact hSr) (fun j hj => by omega) HA.out HIB.out HH.out.1 ha (HCC.out k a hlt ha) (by rw [← HXL.out]; exact hxm))
      have HSN := Lib.hid (take_snoc' ha)
      have hal := HA.out.at_ ha
      have hN0 : ((4 + (a.2.length : Int)) != 0) = true := by simp; omega
      have hal2 := hal.2
      clear hgk hSr ha hal hgw
      go_wp2_with fail
      refine HN.out.mono ?_
      rintro r w3 ⟨rfl, H3⟩
      obtain ⟨A3, c3, hk3, hs3, hg3⟩ := H3.out
      have m1 : w3.cell? ⟨g, 1, none⟩ = some (.int .u16 (4 + a.2.length)) := blk_cell hk3 1
      have m2 : w3.cell? ⟨g, 2, none⟩ = some (.int .u16 a.1) := blk_cell hk3 2
      have m3 : w3.cell? ⟨g, 3, none⟩ = some (.slice A3 a.2.length c3) := blk_cell hk3 3
      have HK3 := Lib.hid hk3
      have hgB : w.heap.size ≤ g := by rw [HGG.out]; exact Nat.le_refl _
      have HB3 : Hid (Below w.heap.size w w3) := Lib.hid (HL.out.2.2.1.grown hg3 HL.out.2.2.1.size fun j hj => by injection hj with hj; omega)
      have HO3 : Hid (elB.Ow 102 (fun j => B ≤ j) w3 B (.slice A6 k c6) (l.take k)) := Lib.hid (HL.out.2.1.step fun j hj hlt => hg3.block j hlt (by intro he; injection he with he; omega))
      have HP3 : Hid (elB.E (fun j => B ≤ j ∧ some j ≠ (Value.slice A6 k c6).ownBlock) w3 a [.int .u16 (4 + a.2.length), .int .u16 a.1, .slice A3 a.2.length c3]) := Lib.hid ⟨_, rfl, hs3.mono fun j hj => ⟨Nat.le_trans HL.out.2.2.2 hj, fun he => by have := (HL.out.2.1.lt j he.symm).2; omega⟩⟩
      have HLO : Hid (B ≤ w3.heap.size) := Lib.hid (Nat.le_trans HL.out.2.2.2 hg3.size)
      have hl2 : ((l.take k).length + 1) * 32 ≤ 140737488355328 := by rw [List.length_take]; omega
      clear hk3 hs3 hg3 H3
      go_wp2_with (at_builtin; go_must (refine El.Ow.append elB (W := w3) B rfl (.tmp 30) (.tmp 35) 87 102 _ 32 rfl Try.underlying87 info102 rfl (by decide) (by decide) (.slice A6 k c6) _ a [.int .u16 (4 + a.2.length), .int .u16 a.1, .slice A3 a.2.length c3] rfl w3.heap.size rfl rfl HP3.out HO3.out HLO.out (fun j hj => Nat.le_trans HLO.out hj) hl2 ?_); intro v1 w5 hO5 hg5 hat5; have HO5 := Lib.hid hO5; have HB5 := Lib.hid (HB3.out.grown hg5 HB3.out.size fun j hj => by have := (HO3.out.lt j hj).1; omega); have HK5 := Lib.hid (blk_grown HK3.out hg5 (fun he => by have := (HO3.out.lt g he.symm).1; omega)); have HLO5 := Lib.hid (Nat.le_trans HLO.out hg5.size); clear hO5 hg5 hat5)
      rw [← HSN.out] at HO5
      obtain ⟨A7, c7, hv7, _⟩ := HO5.out.slice_
      rw [List.length_take, Nat.min_eq_left (show k + 1 ≤ l.length by omega)] at hv7
      subst hv7
      go_roundw
      case rel => exact ⟨k + 1, by omega, Lib.hid ⟨⟨_, _, _, HK5.out⟩, HO5.out, HB5.out, HLO5.out⟩⟩
      case measure => simp [lenV]; omega
    · obtain rfl : k = K := by omega
      rcases HEND.out with ⟨hKl, htot⟩ | ⟨z, hz, hzm⟩
      · have hall : (attrsB l).take m = attrsB l := List.take_of_length_le htot
        have hx2 : xs = attrsB l := HX.out.trans hall
        rw [hKl] at hgk
        have HN := Lib.hid (next_end wr g _ dv0 _ L0 T0 _ l _ hgk (show Sl (fun k => ok k ∧ k < w.heap.size) wr (.slice A xs.length c) (attrsB l) from by rw [← hx2]; exact hSr))
        have HKK := Lib.hid hgk
        have HKL := Lib.hid hKl
        clear hgk hSr htot hKl hall hx2 hgw
        go_wp2_with fail
        refine HN.out.mono ?_
        rintro r w3 ⟨rfl, H3⟩
        have HB3 := Lib.hid (below_then HL.out.2.2.1 HL.out.2.2.1.size H3.out)
        have HK3 := Lib.hid (blk_below HKK.out H3.out)
        go_wp2_with fail
        refine (err105_nil w3 _ _ _ _ _ _ _ _ HK3.out).mono ?_
        rintro r w4 ⟨rfl, rfl⟩
        go_wp2_with fail
        go_ret2
        refine ⟨_, _, rfl, Lib.hid ⟨HB3.out, .inl ⟨HKL.out, rfl, ?_⟩⟩⟩
        have h1 := (HL.out.2.1.below H3.out).rd
        rw [HKL.out, List.take_length] at h1
        rw [HKL.out]
        exact h1.mono fun j hj => by have : B ≤ j := hj; omega
      · have hKlt : k < l.length := (List.getElem?_eq_some_iff.1 hz).1
        have HN := Lib.hid (next_cut wr g _ dv0 _ L0 T0 _ l m k z _ hgk (show Sl (fun k => ok k ∧ k < w.heap.size) wr (.slice A xs.length c) ((attrsB l).take m) from by rw [← HX.out]; exact hSr) (fun j hj => by omega) HA.out HIB.out HH.out.1 hz (HH.out.2 k hKlt) hzm (by rw [← HXL.out]; exact hxm))
        clear hgk hSr hz hzm hgw
        go_wp2_with fail
        refine HN.out.mono ?_
        rintro r w3 ⟨rfl, H3⟩
        obtain ⟨L3, T3, y, hk3, hg3⟩ := H3.out
        have hgB : w.heap.size ≤ g := by rw [HGG.out]; exact Nat.le_refl _
        have HB3 : Hid (Below w.heap.size w w3) := Lib.hid (HL.out.2.2.1.grown hg3 HL.out.2.2.1.size fun j hj => by injection hj with hj; omega)
        have HK3 := Lib.hid hk3
        clear hk3 hg3
        go_wp2_with fail
        refine (err105_some w3 _ _ _ _ _ _ _ _ _ _ HK3.out).mono ?_
        rintro r w4 ⟨rfl, rfl⟩
        go_wp2_with fail
        go_ret2
        exact ⟨_, _, rfl, Lib.hid ⟨HB3.out, .inr ⟨hKlt, rfl, _, rfl⟩⟩⟩
end Go.Proofs.Ytgijhgonpgidiaa
