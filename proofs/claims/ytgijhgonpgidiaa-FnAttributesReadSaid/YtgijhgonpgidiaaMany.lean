/-
  Messages one behind the other: plain laws, parseMessages and ParseMessages. No statement of the seat is proved here.
-/
import Derived.Test.YtgijhgonpgidiaaVal
namespace Go.Proofs.Ytgijhgonpgidiaa
open Go.RowKit Go.Proofs.YtgijhgonpgidiaaW.PrintWords

def MsgV.bytes (x : MsgV) : List Int := msgB x.L x.t x.f x.s x.p x.data
/-- The bytes of messages, one behind the other. -/
def msgsB (l : List MsgV) : List Int := l.flatMap MsgV.bytes
theorem msgsB_append (l k : List MsgV) : msgsB (l ++ k) = msgsB l ++ msgsB k := by simp [msgsB]
theorem msgsB_one (x : MsgV) : msgsB [x] = x.bytes := by simp [msgsB]
theorem msgsB_cons (x : MsgV) (l : List MsgV) : msgsB (x :: l) = x.bytes ++ msgsB l := rfl
theorem bytes_length (x : MsgV) : x.bytes.length = 16 + x.data.length := msgB_length ..
theorem bytes_isB {x : MsgV} (h : IsB x.data) : IsB x.bytes := msgB_isB h
theorem msgsB_isB {l : List MsgV} (h : ∀ x ∈ l, IsB x.data) : IsB (msgsB l) := fun y hy => by
  simp only [msgsB, List.mem_flatMap] at hy
  obtain ⟨x, hx, hy⟩ := hy
  exact bytes_isB (h x hx) y hy
theorem msgsB_le {l : List MsgV} (h : ∀ x ∈ l, x.ok) : (msgsB l).length ≤ l.length * 1016 := by
  induction l with
  | nil => simp [msgsB]
  | cons x l ih =>
    have h1 := ih fun y hy => h y (List.mem_cons_of_mem _ hy)
    have h2 := (h x (by simp)).2.2.1
    rw [msgsB_cons, List.length_append, bytes_length, List.length_cons, Nat.succ_mul]
    omega
/-- What is left behind k messages. -/
theorem msgsB_drop (l : List MsgV) (k : Nat) : (msgsB l).drop (msgsB (l.take k)).length = msgsB (l.drop k) := by
  have h : msgsB l = msgsB (l.take k) ++ msgsB (l.drop k) := by rw [← msgsB_append, List.take_append_drop]
  rw [h, List.drop_left' rfl]
theorem msgsB_split {l : List MsgV} {k : Nat} {x : MsgV} (hx : l[k]? = some x) : msgsB (l.drop k) = x.bytes ++ msgsB (l.drop (k + 1)) := by
  have hk : k < l.length := (List.getElem?_eq_some_iff.1 hx).1
  have he : l[k] = x := (List.getElem?_eq_some_iff.1 hx).2
  rw [List.drop_eq_getElem_cons hk, he, msgsB_cons]
theorem g4_append {xs ys : List Int} (h : 4 ≤ xs.length) : g4 (xs ++ ys) = g4 xs := by
  unfold g4
  simp only [List.getD_eq_getElem?_getD]
  rw [List.getElem?_append_left (by omega), List.getElem?_append_left (by omega), List.getElem?_append_left (by omega), List.getElem?_append_left (by omega)]
/-- The head of what is left: its length is told; a message is cut off; the rest. -/
theorem head_msg {x : MsgV} (hx : x.ok) (r : List Int) : g4 (x.bytes ++ r) = x.L ∧ x.L = ((16 + x.data.length : Nat) : Int) ∧ padn (16 + x.data.length) = 16 + x.data.length ∧ (x.bytes ++ r).take (16 + x.data.length) = x.bytes ∧ (x.bytes ++ r).drop (16 + x.data.length) = r := by
  have h1 : x.bytes.length = 16 + x.data.length := bytes_length x
  refine ⟨?_, ?_, ?_, ?_, ?_⟩
  · rw [g4_append (by omega)]; exact (msg_read hx).1
  · have := hx.1; omega
  · have := hx.2.1; unfold padn; omega
  · rw [← h1, List.take_left' rfl]
  · rw [← h1, List.drop_left' rfl]

theorem unm_msg (g : Nat) (dv : Value) (x : MsgV) (ok : Nat → Prop) (w : World) (hG : w.heap[g]? = some (.cells #[.int .u32 0, .int .u16 0, .int .u16 0, .int .u32 0, .int .u32 0, .slice none 0 0] 113)) (hS : Sl ok w dv x.bytes) (hok : ∀ k, ok k → k ≠ g) (hb : IsB x.data) (hx : x.ok) :
    Calls Try.prog 65 #[.pointer (some ⟨g, 0, none⟩), dv] w fun e w' => e = .returned .nilIface ∧ Hid (∃ dv', w'.heap[g]? = some (.cells #[.int .u32 x.L, .int .u16 x.t, .int .u16 x.f, .int .u32 x.s, .int .u32 x.p, dv'] 113) ∧ Sl ok w' dv' x.data ∧ w.grownBy w' (some g)) := by
  obtain ⟨h0, h1, h2, h3, h4, h5, h6⟩ := msg_read hx
  have h := unmarshal65_good g dv x.bytes ok w hG hS hok (bytes_isB hb) (by rw [bytes_length]; have := hx.2.2.1; omega) h6
  have e : x.bytes = msgB x.L x.t x.f x.s x.p x.data := rfl
  rw [e, h0, h1, h2, h3, h4, h5] at h
  exact h

set_option maxRecDepth 100000 in
set_option maxHeartbeats 3200000 in
theorem parse102 (dv : Value) (l : List MsgV) (ok : Nat → Prop) (w : World) (hS : Sl ok w dv (msgsB l)) (hM : ∀ x ∈ l, x.ok) (hb : ∀ x ∈ l, IsB x.data) (hl : l.length ≤ 2147483647) :
    Calls Try.prog 102 #[dv] w fun e w' => ∃ u, e = .returned (.tuple #[u, .nilIface]) ∧ Hid (elK.Ow 113 (fun k => w.heap.size ≤ k ∨ ok k) w' w.heap.size u l ∧ Below w.heap.size w w') := by
  have HS := Lib.hid hS.bound
  have HM := Lib.hid hM
  have HIB := Lib.hid hb
  obtain ⟨A, c, rfl, hlc, hcm⟩ := hS.form
  have hlen : (msgsB l).length ≤ 2181843385352 := by have := msgsB_le hM; omega
  clear hS hM hb
  go_enter Try.func102, Try.ntmps102
  go_wp2_with fail
  go_loopw [0, 2] (fun v b wr => ∃ k : Nat, k ≤ l.length ∧ Hid (Sl (fun k => ok k ∧ k < w.heap.size) wr v (msgsB (l.drop k)) ∧ elK.Ow 113 (fun k => w.heap.size ≤ k ∨ ok k) wr w.heap.size b (l.take k) ∧ Below w.heap.size w wr)) (fun v _ _ => lenV v)
  case atStart => exact ⟨0, Nat.zero_le _, Lib.hid ⟨by simpa using HS.out, El.Ow.nil elK 113 _ w _, Below.refl _ _⟩⟩
  case round =>
    obtain ⟨k, hk, HL⟩ := hrel
    by_cases hlt : k < l.length
    · obtain ⟨x, hx⟩ : ∃ x, l[k]? = some x := ⟨_, List.getElem?_eq_getElem hlt⟩
      have hxo := HM.out x (List.mem_of_getElem? hx)
      have hxb := HIB.out x (List.mem_of_getElem? hx)
      have hsp := msgsB_split hx
      have HSN := Lib.hid (take_snoc' hx)
      obtain ⟨h1, h2, h3, h4, h5⟩ := head_msg hxo (msgsB (l.drop (k + 1)))
      have hxn := hxo.2.2.1
      have hxbl := bytes_length x
      obtain ⟨n, hn⟩ : ∃ n, n = 16 + x.data.length := ⟨_, rfl⟩
      rw [← hn] at h2 h3 h4 h5 hxbl
      obtain ⟨r, hr⟩ : ∃ r, r = msgsB (l.drop k) := ⟨_, rfl⟩
      rw [← hsp, ← hr] at h1 h4 h5
      rw [← hr] at HL
      have hrl : n ≤ r.length := by rw [hr, hsp, List.length_append, hxbl]; omega
      have hrl2 : r.length ≤ 2181843385352 := by
        have h6 : msgsB l = msgsB (l.take k) ++ msgsB (l.drop k) := by rw [← msgsB_append, List.take_append_drop]
        rw [h6, List.length_append, ← hr] at hlen
        omega
      have hrB : IsB r := by rw [hr]; exact msgsB_isB fun y hy => HIB.out y (List.mem_of_mem_drop hy)
      have hrL : (msgsB (l.drop (k + 1))).length = r.length - n := by rw [← h5, List.length_drop]
      obtain ⟨b, off, c2, rfl, hc2, hc2m, hbok, _, _⟩ := HL.out.1.at_ (by omega)
      have hg : g4 r = (n : Int) := by rw [h1, h2]
      have HG := Lib.hid hg
      have H3 := Lib.hid h3
      have H4 := Lib.hid h4
      have H5 := Lib.hid h5
      have HRB := Lib.hid hrB
      have HRL := Lib.hid hrL
      have HXO := Lib.hid hxo
      have HXB := Lib.hid hxb
      have HR := Lib.hid hr
      have hn16 : 16 ≤ n := by omega
      have hn2 : n ≤ 1016 := by omega
      have hr16 : (16 : Int) ≤ (r.length : Int) := by omega
      have hc0 : ¬ c2 = 0 := by omega
      clear h1 h2 h3 h4 h5 hg hrB hrL hxo hxb hr hsp hxn hxbl hn hx
      go_wp2_with fail
      refine (get99 HL.out.1 (by omega) HRB.out).mono ?_
      rintro e w1 ⟨rfl, n1, hw1⟩
      rw [HG.out]
      have hb1 : Below w.heap.size w w1 := by rw [hw1]; exact pw_below_drewN HL.out.2.2 _
      have hs1 : Sl (fun k => ok k ∧ k < w.heap.size) w1 (.slice (some ⟨b, off, none⟩) r.length c2) r := by rw [hw1]; exact HL.out.1.below (pw_below_drewN (Below.refl _ _) _)
      have ho1 : elK.Ow 113 (fun k => w.heap.size ≤ k ∨ ok k) w1 w.heap.size u2 (l.take k) := by rw [hw1]; exact HL.out.2.1.below (pw_below_drewN (Below.refl _ _) _)
      obtain ⟨g, hg⟩ : ∃ g, g = w1.heap.size := ⟨_, rfl⟩
      obtain ⟨W1, hW1⟩ : ∃ W, W = w1.alloc (.cells #[.int .u32 0, .int .u16 0, .int .u16 0, .int .u32 0, .int .u32 0, .slice none 0 0] 113) := ⟨_, rfl⟩
      have hBW : Below w1.heap.size w1 W1 := by rw [hW1]; exact (Below.refl _ _).alloc (Nat.le_refl _) _
      have kg : W1.heap[g]? = some (.cells #[.int .u32 0, .int .u16 0, .int .u16 0, .int .u32 0, .int .u32 0, .slice none 0 0] 113) := by rw [hW1, hg]; exact heap_alloc_new _ _
      have hs2 := hs1.below hBW
      have hgw : w.heap.size ≤ g := by rw [hg]; exact hb1.size
      have hsub := hs2.sub 0 n (Nat.zero_le _) hrl (some ⟨b, off, none⟩) (fun _ => rfl)
      simp only [Nat.sub_zero, List.drop_zero] at hsub
      rw [H4.out] at hsub
      have HU := Lib.hid (unm_msg g _ x _ W1 kg hsub (fun k hk => by omega) HXB.out HXO.out)
      have HS2 := Lib.hid hs2
      have HO2 := Lib.hid (ho1.bound.below hBW)
      have HB2 := Lib.hid (hb1.trans (hBW.mono hb1.size))
      have HOL := Lib.hid ho1.lt
      have HW1 := Lib.hid hW1
      have HGG := Lib.hid hg
      have HNW1 : Hid (w1.heap.size = g) := hg.symm
      clear hw1 hb1 hs1 ho1 hW1 hBW kg hs2 hsub hg
      go_wp2_with fail
      refine (align96 n _ (by omega)).mono ?_
      rintro e w' ⟨rfl, rfl⟩
      rw [H3.out]
      go_wp2_with fail
      rw [← HW1.out, HNW1.out]
      refine HU.out.mono ?_
      rintro e w2 ⟨rfl, H2⟩
      obtain ⟨dv', hk2, hd2, hg2⟩ := H2.out
      obtain ⟨dA, dc, rfl, _⟩ := hd2.form
      have m0 : w2.cell? ⟨g, 0, none⟩ = some (.int .u32 x.L) := blk_cell hk2 0
      have m1 : w2.cell? ⟨g, 1, none⟩ = some (.int .u16 x.t) := blk_cell hk2 1
      have m2 : w2.cell? ⟨g, 2, none⟩ = some (.int .u16 x.f) := blk_cell hk2 2
      have m3 : w2.cell? ⟨g, 3, none⟩ = some (.int .u32 x.s) := blk_cell hk2 3
      have m4 : w2.cell? ⟨g, 4, none⟩ = some (.int .u32 x.p) := blk_cell hk2 4
      have m5 : w2.cell? ⟨g, 5, none⟩ = some (.slice dA x.data.length dc) := blk_cell hk2 5
      have hgne : ∀ k, u2.ownBlock = some k → k ≠ g := fun k hk => by have := (HOL.out k hk).2; have := HGG.out; omega
      have hb2 : Below w.heap.size w w2 := HB2.out.grown hg2 HB2.out.size fun k hk => by injection hk with hk; omega
      have hs3 : Sl (fun k => ok k ∧ k < w.heap.size) w2 (.slice (some ⟨b, off, none⟩) r.length c2) r := HS2.out.step fun k hk hlt => hg2.block k hlt (by intro he; injection he with he; omega)
      have ho3 : elK.Ow 113 (fun k => w.heap.size ≤ k ∨ ok k) w2 w.heap.size u2 (l.take k) := (HO2.out.step fun k hk hlt => hg2.block k hlt (by intro he; injection he with he; have := HGG.out; omega)).mono fun k hk => hk.1
      have HO3 := Lib.hid ho3
      have HP3 : Hid (elK.E (fun k => (w.heap.size ≤ k ∨ ok k) ∧ some k ≠ u2.ownBlock) w2 x [.int .u32 x.L, .int .u16 x.t, .int .u16 x.f, .int .u32 x.s, .int .u32 x.p, .slice dA x.data.length dc]) :=
        Lib.hid ⟨_, rfl, hd2.mono fun k hk => ⟨.inr hk.1, fun he => by have := (HOL.out k he.symm).1; omega⟩⟩
      have HB3 := Lib.hid hb2
      have HS3 := Lib.hid hs3
      have hl2 : ((l.take k).length + 1) * 40 ≤ 140737488355328 := by rw [List.length_take]; omega
      have HLO : Hid (w.heap.size ≤ w2.heap.size) := Lib.hid HB3.out.size
      have hsub2 : ∀ (A : Option Addr) (W : World), (n < r.length → A = some ⟨b, off + n, none⟩) → Sl (fun k => ok k ∧ k < w.heap.size) W (.slice (some ⟨b, off, none⟩) r.length c2) r → Sl (fun k => ok k ∧ k < w.heap.size) W (.slice A (r.length - n) (c2 - n)) (msgsB (l.drop (k + 1))) := fun A W hA h => by
        have := h.sub n r.length hrl (Nat.le_refl _) A hA
        rw [List.take_length, H5.out] at this
        exact this
      have HSUB := Lib.hid hsub2
      clear hk2 hd2 hg2 H2 hb2 hs3 ho3 hgne HU hsub2
      go_wp2_with (at_builtin; go_must (refine El.Ow.append elK (W := w2) w.heap.size rfl (.tmp 36) (.tmp 38) 118 113 _ 40 rfl Try.underlying118 info113 rfl (by decide) (by decide) u2 _ x [.int .u32 x.L, .int .u16 x.t, .int .u16 x.f, .int .u32 x.s, .int .u32 x.p, .slice dA x.data.length dc] rfl w2.heap.size rfl rfl HP3.out HO3.out HLO.out (fun k hk => .inl (Nat.le_trans HLO.out hk)) hl2 ?_); intro v1 w5 hO5 hg5 hat5; have HO5 := Lib.hid hO5; have HB5 := Lib.hid (HB3.out.grown hg5 HLO.out fun k hk => (HO3.out.lt k hk).1); have HS5 := Lib.hid (HS3.out.step fun k hk hlt => hg5.block k hlt (fun he => by have := (HO3.out.lt k he.symm).1; omega)); clear hO5 hg5 hat5)
      all_goals
        rw [← HSN.out] at HO5
        go_roundw
        case rel => exact ⟨k + 1, by omega, Lib.hid ⟨HSUB.out _ _ (fun h => by first | rfl | (exact if_neg (by omega)) | (split <;> first | rfl | omega)) HS5.out, HO5.out, HB5.out⟩⟩
        case measure => simp [lenV]; omega
    · obtain rfl : k = l.length := by omega
      rw [List.take_length, List.drop_length] at HL
      obtain ⟨A2, c2, rfl, _⟩ := HL.out.1.form
      go_wp2_with fail
      go_ret2
      exact ⟨_, rfl, Lib.hid HL.out.2⟩
end Go.Proofs.Ytgijhgonpgidiaa
