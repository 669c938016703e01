/-
  Contracts of the decoder of attributes: available, NewAttributeDecoder, Len, Err. No statement of the seat is proved here.
-/
import Derived.Test.YtgijhgonpgidiaaDecP
import Derived.Test.YtgijhgonpgidiaaRead
namespace Go.Proofs.Ytgijhgonpgidiaa
open Go.RowKit Go.Proofs.YtgijhgonpgidiaaW.PrintWords

/-- A decoder's cells: order, the current attribute (length, type, data), bytes, place, number, error. -/
def decO (o : Value) (L T : Int) (dv bv : Value) (i n : Int) (e : Value) : Obj := .cells #[o, .int .u16 L, .int .u16 T, dv, bv, .int .i64 i, .int .i64 n, e] 136

theorem cut_drop_sl {ok : Nat → Prop} {w : World} {b off c : Nat} {xs : List Int} (h : Sl ok w (.slice (some ⟨b, off, none⟩) xs.length c) xs) {i : Nat} (hi : i < xs.length) : Sl ok w (.slice (some ⟨b, off + i, none⟩) (xs.length - i) (c - i)) (xs.drop i) := by
  have := h.sub i xs.length (by omega) (Nat.le_refl _) (some ⟨b, off + i, none⟩) (fun _ => rfl)
  rwa [List.take_length] at this

/-- Bytes in which every attribute's head lies (the last one's data may be cut off): so many attributes. -/
def Heads (l : List (Int × List Int)) (m : Nat) : Prop := m ≤ (attrsB l).length ∧ (∀ k, k < l.length → pos l k + 4 ≤ m)

set_option maxRecDepth 100000 in
set_option maxHeartbeats 1600000 in
theorem avail107 (w : World) (g : Nat) (o dv bv e : Value) (L T i n : Int) (ok : Nat → Prop) (l : List (Int × List Int)) (m : Nat) (hG : w.heap[g]? = some (decO o L T dv bv i n e)) (hS : Sl ok w bv ((attrsB l).take m))
    (hA : AOk l) (hH : Heads l m) (hib : ∀ a ∈ l, IsB a.2) (hm : m ≤ 140737488355328) :
    Calls Try.prog 107 #[.pointer (some ⟨g, 0, none⟩)] w fun e w' => e = .returned (.tuple #[.int .i64 l.length, .nilIface]) ∧ Hid (Below w.heap.size w w') := by
  obtain ⟨xs, hxs⟩ : ∃ xs, xs = (attrsB l).take m := ⟨_, rfl⟩
  have hxl : xs.length = m := by rw [hxs, List.length_take]; have := hH.1; omega
  have hxB : IsB xs := by rw [hxs]; exact (attrsB_isB hib).take m
  have hll : l.length ≤ m := by
    rcases Nat.eq_zero_or_pos l.length with h | h
    · omega
    · have h1 := hH.2 (l.length - 1) (by omega)
      have h2 : ∀ k, k ≤ l.length → k ≤ pos l k := by
        intro k
        induction k with
        | zero => intro _; omega
        | succ k ih =>
          intro hk
          have := pos_succ (l := l) (k := k) (List.getElem?_eq_getElem (by omega))
          have := ih (by omega)
          omega
      have := h2 (l.length - 1) (by omega)
      omega
  rw [← hxs] at hS
  obtain ⟨A, c, rfl, hlc, hcm, _⟩ := hS.form
  have HS := Lib.hid hS
  have HG := Lib.hid hG
  have HA := Lib.hid hA
  have HH := Lib.hid hH
  have HX := Lib.hid hxs
  have HXL := Lib.hid hxl
  have HXB := Lib.hid hxB
  have c4 : w.cell? ⟨g, 4, none⟩ = some (.slice A xs.length c) := blk_cell hG 4
  have hgl : g < w.heap.size := blk_lt hG
  have hxm : xs.length ≤ 140737488355328 := by omega
  clear hS hG hA hH hib hxs hxl hxB c4
  go_enter Try.func107, Try.ntmps107
  go_wp2_with fail
  go_loopw [4, 5] (fun c i wr => ∃ k : Nat, k ≤ l.length ∧ c = .int .i64 k ∧ i = .int .i64 (pos l k : Nat) ∧ Hid (Below w.heap.size w wr)) (fun c _ _ => l.length - (intOf c).toNat)
  case atStart => exact ⟨0, Nat.zero_le _, rfl, by simp [pos_zero], Lib.hid (Below.refl _ _)⟩
  case round =>
    obtain ⟨k, hk, rfl, rfl, HL⟩ := hrel
    have hgw := blk_below HG.out HL.out
    have c4 : wr.cell? ⟨g, 4, none⟩ = some (.slice A xs.length c) := blk_cell hgw 4
    have hpm : pos l k ≤ xs.length ∨ xs.length < pos l k := by omega
    by_cases hlt : k < l.length
    · obtain ⟨a, ha⟩ : ∃ a, l[k]? = some a := ⟨_, List.getElem?_eq_getElem hlt⟩
      have hal := HA.out.at_ ha
      have h4 := HH.out.2 k hlt
      obtain ⟨_, q2, q3, _, _⟩ := cut_head ha hal.1 hal.2 HH.out.1 h4
      rw [← HX.out] at q2 q3
      have hps := pos_succ ha
      have hpl := padn_le a.2.length
      have hal2 := hal.2
      have hxl := HXL.out
      obtain ⟨b, off, c2, hv, _, _, _, _, _⟩ := (HS.out.below HL.out).at_ (by omega)
      simp only [Value.slice.injEq, true_and] at hv
      obtain ⟨rfl, rfl⟩ := hv
      obtain ⟨p, hp⟩ : ∃ p, p = pos l k := ⟨_, rfl⟩
      obtain ⟨p', hp'⟩ : ∃ p, p = pos l (k + 1) := ⟨_, rfl⟩
      obtain ⟨N, hN⟩ : ∃ N, N = 4 + a.2.length := ⟨_, rfl⟩
      have hq3 : g2 (xs.drop p) = (N : Int) := by rw [hp, q3, hN]; push_cast; rfl
      have hpn : padn N = 4 + padn a.2.length := by rw [hN, padn_add4]
      rw [← hp] at h4 q2 hps ⊢
      rw [← hp'] at hps
      have hpx : p < xs.length := by omega
      have hpx4 : p + 4 ≤ xs.length := by omega
      have HSd := Lib.hid (cut_drop_sl (HS.out.below HL.out) hpx)
      have HQ3 := Lib.hid hq3
      have HP' := Lib.hid hp'
      have HPS : Hid (p' = p + padn N) := Lib.hid (by rw [hps, hpn])
      have hpnl : padn N < N + 4 := (padn_le N).2.1
      have HDL : Hid ((xs.drop p).length = xs.length - p) := Lib.hid (by rw [List.length_drop])
      have hN4 : 4 ≤ N := by omega
      have hNm : N ≤ 65535 := by omega
      have hN0 : ((N : Int) != 0) = true := by simp; omega
      have hcp : ¬ c = p := by omega
      clear ha hal h4 q2 q3 hps hpl hal2 hxl hp hp' hN hq3 hpn hgw hpm
      go_wp2_with fail
      refine (get100 HSd.out (by rw [HDL.out]; omega) (HXB.out.drop p)).mono ?_
      rintro e w1 ⟨rfl, n1, hw1⟩
      rw [HQ3.out]
      have HB1 := Lib.hid (HL.out.trans (show Below w.heap.size wr w1 by rw [hw1]; exact pw_below_drewN (Below.refl _ _) _))
      clear hw1
      go_wp2_with fail
      refine (align94 N _ (by omega)).mono ?_
      rintro e w' ⟨rfl, rfl⟩
      go_wp2_with fail
      go_roundw
      case rel => exact ⟨k + 1, by omega, int_eq (by omega), int_eq (by rw [← HP'.out, HPS.out]; push_cast; rfl), HB1⟩
      case measure => simp [intOf]; omega
    · obtain rfl : k = l.length := by omega
      have hge : xs.length ≤ pos l l.length := by rw [pos_all, HXL.out]; exact HH.out.1
      generalize pos l l.length = p at *
      clear hpm hgw
      go_wp2_with fail
      go_ret2
      exact ⟨rfl, HL⟩

/-- Bytes whose last attribute has no whole head: an error. -/
theorem short_head {l : List (Int × List Int)} {m : Nat} (_ : m ≤ (attrsB l).length) : ((attrsB l).take m).length = m := by rw [List.length_take]; omega
set_option maxRecDepth 100000 in
set_option maxHeartbeats 1600000 in
theorem avail107_short (w : World) (g : Nat) (o dv bv e : Value) (L T i n : Int) (ok : Nat → Prop) (l : List (Int × List Int)) (z : Int × List Int) (m : Nat) (hG : w.heap[g]? = some (decO o L T dv bv i n e)) (hS : Sl ok w bv ((attrsB (l ++ [z])).take m))
    (hA : AOk l) (h0 : (attrsB l).length < m) (h1 : m < (attrsB l).length + 4) (hib : ∀ a ∈ l ++ [z], IsB a.2) (hm : m ≤ 140737488355328) :
    Calls Try.prog 107 #[.pointer (some ⟨g, 0, none⟩)] w fun e w' => (∃ y : Value, e = .returned (.tuple #[.int .i64 0, .iface 143 y])) ∧ Hid (Below w.heap.size w w') := by
  obtain ⟨xs, hxs⟩ : ∃ xs, xs = (attrsB (l ++ [z])).take m := ⟨_, rfl⟩
  have htot : m ≤ (attrsB (l ++ [z])).length := by rw [attrsB_append, List.length_append, show attrsB [z] = attrB z by simp [attrsB], attrB_length]; omega
  have hxl : xs.length = m := by rw [hxs]; exact short_head htot
  have hxB : IsB xs := by rw [hxs]; exact (attrsB_isB hib).take m
  have hpl : ∀ k, k ≤ l.length → pos (l ++ [z]) k = pos l k := fun k hk => by unfold pos; rw [List.take_append_of_le_length hk]
  have hll : l.length ≤ m := by
    have h2 : ∀ k, k ≤ l.length → k ≤ pos l k := by
      intro k
      induction k with
      | zero => intro _; omega
      | succ k ih =>
        intro hk
        have := pos_succ (l := l) (k := k) (List.getElem?_eq_getElem (by omega))
        have := ih (by omega)
        omega
    have := h2 l.length (Nat.le_refl _)
    rw [pos_all] at this
    omega
  rw [← hxs] at hS
  obtain ⟨A, c, rfl, hlc, hcm, _⟩ := hS.form
  have HS := Lib.hid hS
  have HG := Lib.hid hG
  have HA := Lib.hid hA
  have HX := Lib.hid hxs
  have HXL := Lib.hid hxl
  have HXB := Lib.hid hxB
  have HT := Lib.hid htot
  have H0 := Lib.hid h0
  have H1 := Lib.hid h1
  have HPL := Lib.hid hpl
  have hgl : g < w.heap.size := blk_lt hG
  have hxm : xs.length ≤ 140737488355328 := by omega
  clear hS hG hA hib hxs hxl hxB htot h0 h1 hpl
  go_enter Try.func107, Try.ntmps107
  go_wp2_with fail
  go_loopw [4, 5] (fun c i wr => ∃ k : Nat, k ≤ l.length ∧ c = .int .i64 k ∧ i = .int .i64 (pos l k : Nat) ∧ Hid (Below w.heap.size w wr)) (fun c _ _ => l.length - (intOf c).toNat)
  case atStart => exact ⟨0, Nat.zero_le _, rfl, by simp [pos_zero], Lib.hid (Below.refl _ _)⟩
  case round =>
    obtain ⟨k, hk, rfl, rfl, HL⟩ := hrel
    have hgw := blk_below HG.out HL.out
    have c4 : wr.cell? ⟨g, 4, none⟩ = some (.slice A xs.length c) := blk_cell hgw 4
    by_cases hlt : k < l.length
    · obtain ⟨a, ha⟩ : ∃ a, l[k]? = some a := ⟨_, List.getElem?_eq_getElem hlt⟩
      have ha2 : (l ++ [z])[k]? = some a := by rw [List.getElem?_append_left hlt]; exact ha
      have hal := HA.out.at_ ha
      have hps := pos_succ ha
      have hpm := pos_le l (k + 1)
      have h4 : pos (l ++ [z]) k + 4 ≤ m := by rw [HPL.out k hk]; have := H0.out; omega
      obtain ⟨_, q2, q3, _, _⟩ := cut_head ha2 hal.1 hal.2 HT.out h4
      rw [HPL.out k hk] at q2 q3 h4
      rw [← HX.out] at q2 q3
      have hpl := padn_le a.2.length
      have hal2 := hal.2
      have hxl := HXL.out
      obtain ⟨b, off, c2, hv, _, _, _, _, _⟩ := (HS.out.below HL.out).at_ (by omega)
      simp only [Value.slice.injEq, true_and] at hv
      obtain ⟨rfl, rfl⟩ := hv
      obtain ⟨p, hp⟩ : ∃ p, p = pos l k := ⟨_, rfl⟩
      obtain ⟨p', hp'⟩ : ∃ p, p = pos l (k + 1) := ⟨_, rfl⟩
      obtain ⟨N, hN⟩ : ∃ N, N = 4 + a.2.length := ⟨_, rfl⟩
      have hq3 : g2 (xs.drop p) = (N : Int) := by rw [hp, q3, hN]; push_cast; rfl
      have hpn : padn N = 4 + padn a.2.length := by rw [hN, padn_add4]
      rw [← hp] at h4 q2 hps ⊢
      rw [← hp'] at hps
      have hpx : p < xs.length := by omega
      have hpx4 : p + 4 ≤ xs.length := by omega
      have HSd := Lib.hid (cut_drop_sl (HS.out.below HL.out) hpx)
      have HQ3 := Lib.hid hq3
      have HP' := Lib.hid hp'
      have HPS : Hid (p' = p + padn N) := Lib.hid (by rw [hps, hpn])
      have hpnl : padn N < N + 4 := (padn_le N).2.1
      have HDL : Hid ((xs.drop p).length = xs.length - p) := Lib.hid (by rw [List.length_drop])
      have hN4 : 4 ≤ N := by omega
      have hNm : N ≤ 65535 := by omega
      have hN0 : ((N : Int) != 0) = true := by simp; omega
      have hcp : ¬ c = p := by omega
      clear ha ha2 hal h4 q2 q3 hps hpl hal2 hxl hp hp' hN hq3 hpn hgw hpm
      go_wp2_with fail
      refine (get100 HSd.out (by rw [HDL.out]; omega) (HXB.out.drop p)).mono ?_
      rintro e w1 ⟨rfl, n1, hw1⟩
      rw [HQ3.out]
      have HB1 := Lib.hid (HL.out.trans (show Below w.heap.size wr w1 by rw [hw1]; exact pw_below_drewN (Below.refl _ _) _))
      clear hw1
      go_wp2_with fail
      refine (align94 N _ (by omega)).mono ?_
      rintro e w' ⟨rfl, rfl⟩
      go_wp2_with fail
      go_roundw
      case rel => exact ⟨k + 1, by omega, int_eq (by omega), int_eq (by rw [← HP'.out, HPS.out]; push_cast; rfl), HB1⟩
      case measure => simp [intOf]; omega
    · obtain rfl : k = l.length := by omega
      obtain ⟨p, hp⟩ : ∃ p, p = pos l l.length := ⟨_, rfl⟩
      rw [← hp]
      rw [pos_all] at hp
      have hpx : p < xs.length := by have := HXL.out; have := H0.out; omega
      have hpx4 : xs.length < p + 4 := by have := HXL.out; have := H1.out; omega
      have hcp : ¬ c = p := by omega
      obtain ⟨b, off, c2, hv, _, _, _, _, _⟩ := (HS.out.below HL.out).at_ (by omega)
      simp only [Value.slice.injEq, true_and] at hv
      obtain ⟨rfl, rfl⟩ := hv
      clear hgw hp
      go_wp2_with fail
      go_ret2
      exact ⟨⟨_, rfl⟩, HL⟩

/-! ### NewAttributeDecoder, Len, Err -/
theorem blk_dec {w : World} {bv : Value} : (w.alloc (decO (.iface 140 (.agg #[])) 0 0 (.slice none 0 0) bv 0 0 .nilIface)).heap[w.heap.size]? = some (decO (.iface 140 (.agg #[])) 0 0 (.slice none 0 0) bv 0 0 .nilIface) := heap_alloc_new _ _

set_option maxRecDepth 100000 in
set_option maxHeartbeats 1600000 in
theorem new77 (w : World) (bv : Value) (ok : Nat → Prop) (l : List (Int × List Int)) (m : Nat) (hS : Sl ok w bv ((attrsB l).take m)) (hA : AOk l) (hH : Heads l m) (hib : ∀ a ∈ l, IsB a.2) (hm : m ≤ 140737488355328) :
    Calls Try.prog 77 #[bv] w fun e w' => e = .returned (.tuple #[.pointer (some ⟨w.heap.size, 0, none⟩), .nilIface]) ∧ Hid (w'.heap[w.heap.size]? = some (decO (.iface 140 (.agg #[])) 0 0 (.slice none 0 0) bv 0 l.length .nilIface) ∧ Below w.heap.size w w') := by
  obtain ⟨A, c, hbv⟩ : ∃ A c, bv = .slice A ((attrsB l).take m).length c := by obtain ⟨A, c, h, _⟩ := hS.form; exact ⟨A, c, h⟩
  have hb1 : Below w.heap.size w (w.alloc (decO (.iface 140 (.agg #[])) 0 0 (.slice none 0 0) bv 0 0 .nilIface)) := (Below.refl _ _).alloc (Nat.le_refl _) _
  have HC := Lib.hid (avail107 (w.alloc (decO (.iface 140 (.agg #[])) 0 0 (.slice none 0 0) bv 0 0 .nilIface)) w.heap.size _ _ bv _ _ _ _ _ _ l m blk_dec (hS.bound.below hb1) hA hH hib hm)
  have HB1 := Lib.hid hb1
  obtain ⟨g, hg⟩ : ∃ g, g = w.heap.size := ⟨_, rfl⟩
  obtain ⟨W, hW⟩ : ∃ W, W = w.alloc (decO (.iface 140 (.agg #[])) 0 0 (.slice none 0 0) bv 0 0 .nilIface) := ⟨_, rfl⟩
  have hk : W.heap[g]? = some (decO (.iface 140 (.agg #[])) 0 0 (.slice none 0 0) bv 0 0 .nilIface) := by rw [hW, hg]; exact blk_dec
  rw [← hW] at HC HB1
  rw [← hg] at HC ⊢
  have HK := Lib.hid hk
  have HW : Hid (W = w.alloc (.cells #[.iface 140 (.agg #[]), .int .u16 0, .int .u16 0, .slice none 0 0, bv, .int .i64 0, .int .i64 0, .nilIface] 136)) := Lib.hid hW
  have HGG := Lib.hid hg
  obtain ⟨n, hn⟩ : ∃ n, n = ((attrsB l).take m).length := ⟨_, rfl⟩
  rw [← hn] at hbv
  subst hbv
  clear hS hA hH hib hb1 hk hW hn
  go_enter Try.func77, Try.ntmps77
  go_wp2_with fail
  rw [← HW.out, ← hg]
  clear hg
  refine HC.out.mono ?_
  rintro e w1 ⟨rfl, H1⟩
  have hk1 := blk_below HK.out H1.out
  have c6 : w1.cell? ⟨g, 6, none⟩ = some (.int .i64 0) := blk_cell hk1 6
  have f6 : w1.frozen? ⟨g, 6, none⟩ = false := blk_frozen hk1 6
  have HK1 := Lib.hid hk1
  have hgl := blk_lt hk1
  clear hk1
  go_wp2_with fail
  go_ret2
  have hgg := HGG.out
  have hfin := (below_then HB1.out HB1.out.size H1.out).setCell (p := ⟨g, 6, none⟩) (by show _ ≤ g; omega) (.int .i64 l.length)
  rw [← hgg] at hfin
  refine ⟨rfl, Lib.hid ⟨?_, hfin⟩⟩
  have := blk_set HK1.out 6 (.int .i64 l.length)
  simpa [decO] using this

set_option maxRecDepth 100000 in
set_option maxHeartbeats 1600000 in
theorem new77_short (w : World) (bv : Value) (ok : Nat → Prop) (l : List (Int × List Int)) (z : Int × List Int) (m : Nat) (hS : Sl ok w bv ((attrsB (l ++ [z])).take m)) (hA : AOk l) (h0 : (attrsB l).length < m) (h1 : m < (attrsB l).length + 4) (hib : ∀ a ∈ l ++ [z], IsB a.2) (hm : m ≤ 140737488355328) :
    Calls Try.prog 77 #[bv] w fun e w' => (∃ y : Value, e = .returned (.tuple #[.pointer none, .iface 143 y])) ∧ Hid (Below w.heap.size w w') := by
  obtain ⟨A, c, hbv⟩ : ∃ A c, bv = .slice A ((attrsB (l ++ [z])).take m).length c := by obtain ⟨A, c, h, _⟩ := hS.form; exact ⟨A, c, h⟩
  have hb1 : Below w.heap.size w (w.alloc (decO (.iface 140 (.agg #[])) 0 0 (.slice none 0 0) bv 0 0 .nilIface)) := (Below.refl _ _).alloc (Nat.le_refl _) _
  have HC := Lib.hid (avail107_short (w.alloc (decO (.iface 140 (.agg #[])) 0 0 (.slice none 0 0) bv 0 0 .nilIface)) w.heap.size _ _ bv _ _ _ _ _ _ l z m blk_dec (hS.bound.below hb1) hA h0 h1 hib hm)
  have HB1 := Lib.hid hb1
  obtain ⟨g, hg⟩ : ∃ g, g = w.heap.size := ⟨_, rfl⟩
  obtain ⟨W, hW⟩ : ∃ W, W = w.alloc (decO (.iface 140 (.agg #[])) 0 0 (.slice none 0 0) bv 0 0 .nilIface) := ⟨_, rfl⟩
  have hk : W.heap[g]? = some (decO (.iface 140 (.agg #[])) 0 0 (.slice none 0 0) bv 0 0 .nilIface) := by rw [hW, hg]; exact blk_dec
  rw [← hW] at HC HB1
  rw [← hg] at HC
  have HK := Lib.hid hk
  have HW : Hid (W = w.alloc (.cells #[.iface 140 (.agg #[]), .int .u16 0, .int .u16 0, .slice none 0 0, bv, .int .i64 0, .int .i64 0, .nilIface] 136)) := Lib.hid hW
  have HGG := Lib.hid hg
  obtain ⟨n, hn⟩ : ∃ n, n = ((attrsB (l ++ [z])).take m).length := ⟨_, rfl⟩
  rw [← hn] at hbv
  subst hbv
  clear hS hA h0 h1 hib hb1 hk hW hn
  go_enter Try.func77, Try.ntmps77
  go_wp2_with fail
  rw [← HW.out, ← hg]
  clear hg
  refine HC.out.mono ?_
  rintro e w1 ⟨⟨y, rfl⟩, H1⟩
  have hk1 := blk_below HK.out H1.out
  have c6 : w1.cell? ⟨g, 6, none⟩ = some (.int .i64 0) := blk_cell hk1 6
  have f6 : w1.frozen? ⟨g, 6, none⟩ = false := blk_frozen hk1 6
  have hgl := blk_lt hk1
  clear hk1
  go_wp2_with fail
  go_ret2
  have hgg := HGG.out
  exact ⟨⟨_, rfl⟩, Lib.hid ((below_then HB1.out HB1.out.size H1.out).setCell (by show _ ≤ g; omega) _)⟩

set_option maxHeartbeats 800000 in
theorem len103 (w : World) (g : Nat) (o dv bv e : Value) (L T i n : Int) (hG : w.heap[g]? = some (decO o L T dv bv i n e)) : Calls Try.prog 103 #[.pointer (some ⟨g, 0, none⟩)] w fun e w' => e = .returned (.int .i64 n) ∧ w = w' := by
  have c6 : w.cell? ⟨g, 6, none⟩ = some (.int .i64 n) := blk_cell hG 6
  clear hG
  go_enter Try.func103, Try.ntmps103
  go_wp2_with fail
  go_ret
  exact ⟨rfl, rfl⟩
set_option maxHeartbeats 800000 in
theorem err105_nil (w : World) (g : Nat) (o dv bv : Value) (L T i n : Int) (hG : w.heap[g]? = some (decO o L T dv bv i n .nilIface)) : Calls Try.prog 105 #[.pointer (some ⟨g, 0, none⟩)] w fun e w' => e = .returned .nilIface ∧ w = w' := by
  have c7 : w.cell? ⟨g, 7, none⟩ = some .nilIface := blk_cell hG 7
  clear hG
  go_enter Try.func105, Try.ntmps105
  go_wp2_with fail
  go_ret
  exact ⟨rfl, rfl⟩
set_option maxHeartbeats 800000 in
theorem err105_some (w : World) (g : Nat) (o dv bv y : Value) (ty : TypeId) (L T i n : Int) (hG : w.heap[g]? = some (decO o L T dv bv i n (.iface ty y))) : Calls Try.prog 105 #[.pointer (some ⟨g, 0, none⟩)] w fun e w' => e = .returned (.iface ty y) ∧ w = w' := by
  have c7 : w.cell? ⟨g, 7, none⟩ = some (.iface ty y) := blk_cell hG 7
  clear hG
  go_enter Try.func105, Try.ntmps105
  go_wp2_with fail
  go_ret
  exact ⟨rfl, rfl⟩
end Go.Proofs.Ytgijhgonpgidiaa
