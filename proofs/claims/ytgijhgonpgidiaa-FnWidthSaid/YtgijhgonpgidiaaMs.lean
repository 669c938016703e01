/-
  Rows of messages (the thin package's and the package's), and zzFits2. No statement of the seat is proved here.
-/
import Derived.Test.YtgijhgonpgidiaaMsgR
import Derived.Test.YtgijhgonpgidiaaFb2
namespace Go.Proofs.Ytgijhgonpgidiaa
open Go.RowKit Go.Proofs.YtgijhgonpgidiaaW.PrintWords

structure MsgV where
  L : Int
  t : Int
  f : Int
  s : Int
  p : Int
  data : List Int
/-- The thin package's messages: six cells. -/
def elM : El MsgV where
  sz := 6
  E ok w x cs := ∃ dv, cs = [.int .i64 x.L, .int .i64 x.t, .int .i64 x.f, .int .i64 x.s, .int .i64 x.p, dv] ∧ Sl ok w dv x.data
  len := by rintro ok w x cs ⟨dv, rfl, _⟩; rfl
  one := by
    rintro ok w x cs ⟨dv, rfl, h⟩ u hu
    obtain ⟨A, c, rfl, _⟩ := h
    simp only [List.mem_cons, List.not_mem_nil, or_false] at hu
    rcases hu with rfl | rfl | rfl | rfl | rfl | rfl <;> rfl
  mono := by rintro ok ok' w x cs hk ⟨dv, h, k⟩; exact ⟨dv, h, k.mono hk⟩
  bound := by rintro ok w x cs ⟨dv, h, k⟩; exact ⟨dv, h, k.bound⟩
  step := by rintro ok w w1 x cs hm ⟨dv, h, k⟩; exact ⟨dv, h, k.step hm⟩
/-- The package's messages: six cells. -/
def elK : El MsgV where
  sz := 6
  E ok w x cs := ∃ dv, cs = [.int .u32 x.L, .int .u16 x.t, .int .u16 x.f, .int .u32 x.s, .int .u32 x.p, dv] ∧ Sl ok w dv x.data
  len := by rintro ok w x cs ⟨dv, rfl, _⟩; rfl
  one := by
    rintro ok w x cs ⟨dv, rfl, h⟩ u hu
    obtain ⟨A, c, rfl, _⟩ := h
    simp only [List.mem_cons, List.not_mem_nil, or_false] at hu
    rcases hu with rfl | rfl | rfl | rfl | rfl | rfl <;> rfl
  mono := by rintro ok ok' w x cs hk ⟨dv, h, k⟩; exact ⟨dv, h, k.mono hk⟩
  bound := by rintro ok w x cs ⟨dv, h, k⟩; exact ⟨dv, h, k.bound⟩
  step := by rintro ok w w1 x cs hm ⟨dv, h, k⟩; exact ⟨dv, h, k.step hm⟩
theorem info113 : (Try.prog.info? 113).map (fun i => (i.zero, i.size, i.bytes)) = some (some (.agg #[.int .u32 0, .int .u16 0, .int .u16 0, .int .u32 0, .int .u32 0, .slice none 0 0]), 6, 40) := by kernel_rfl
theorem info41 : (Try.prog.info? 41).map (fun i => (i.zero, i.size, i.bytes)) = some (some (.agg #[.int .i64 0, .int .i64 0, .int .i64 0, .int .i64 0, .int .i64 0, .slice none 0 0]), 6, 64) := by kernel_rfl

theorem rowM {ok : Nat → Prop} {w : World} {A : Option Addr} {c0 : Nat} {l : List MsgV} (h : elM.Rd ok w (.slice A l.length c0) l) {k : Nat} {x : MsgV} (hx : l[k]? = some x) :
    ∃ b off dA dc, A = some ⟨b, off, none⟩ ∧ b < w.heap.size ∧ ok b ∧
      w.cell? ⟨b, off + k * 6, none⟩ = some (.int .i64 x.L) ∧ w.cell? ⟨b, off + k * 6 + 1, none⟩ = some (.int .i64 x.t) ∧ w.cell? ⟨b, off + k * 6 + 2, none⟩ = some (.int .i64 x.f) ∧ w.cell? ⟨b, off + k * 6 + 3, none⟩ = some (.int .i64 x.s) ∧
      w.cell? ⟨b, off + k * 6 + 4, none⟩ = some (.int .i64 x.p) ∧ w.cell? ⟨b, off + k * 6 + 5, none⟩ = some (.slice dA x.data.length dc) ∧ Sl ok w (.slice dA x.data.length dc) x.data := by
  have hk : k < l.length := (List.getElem?_eq_some_iff.1 hx).1
  obtain ⟨b, off, c, hv, hl, hc, hb, hbl, hcell⟩ := h.at_ (by omega)
  obtain ⟨cs, hcs, dv, rfl, hd⟩ := hcell k x hx
  obtain ⟨dA, dc, rfl, _⟩ := hd.form
  simp only [Value.slice.injEq, true_and] at hv
  exact ⟨b, off, dA, dc, hv.1, hbl, hb, hcs 0 _ rfl, hcs 1 _ rfl, hcs 2 _ rfl, hcs 3 _ rfl, hcs 4 _ rfl, hcs 5 _ rfl, hd⟩
theorem rowK {ok : Nat → Prop} {w : World} {A : Option Addr} {c0 : Nat} {l : List MsgV} (h : elK.Rd ok w (.slice A l.length c0) l) {k : Nat} {x : MsgV} (hx : l[k]? = some x) :
    ∃ b off dA dc, A = some ⟨b, off, none⟩ ∧ b < w.heap.size ∧ ok b ∧
      w.cell? ⟨b, off + k * 6, none⟩ = some (.int .u32 x.L) ∧ w.cell? ⟨b, off + k * 6 + 1, none⟩ = some (.int .u16 x.t) ∧ w.cell? ⟨b, off + k * 6 + 2, none⟩ = some (.int .u16 x.f) ∧ w.cell? ⟨b, off + k * 6 + 3, none⟩ = some (.int .u32 x.s) ∧
      w.cell? ⟨b, off + k * 6 + 4, none⟩ = some (.int .u32 x.p) ∧ w.cell? ⟨b, off + k * 6 + 5, none⟩ = some (.slice dA x.data.length dc) ∧ Sl ok w (.slice dA x.data.length dc) x.data := by
  have hk : k < l.length := (List.getElem?_eq_some_iff.1 hx).1
  obtain ⟨b, off, c, hv, hl, hc, hb, hbl, hcell⟩ := h.at_ (by omega)
  obtain ⟨cs, hcs, dv, rfl, hd⟩ := hcell k x hx
  obtain ⟨dA, dc, rfl, _⟩ := hd.form
  simp only [Value.slice.injEq, true_and] at hv
  exact ⟨b, off, dA, dc, hv.1, hbl, hb, hcs 0 _ rfl, hcs 1 _ rfl, hcs 2 _ rfl, hcs 3 _ rfl, hcs 4 _ rfl, hcs 5 _ rfl, hd⟩

set_option maxRecDepth 100000 in
set_option maxHeartbeats 1600000 in
theorem fits36 (w : World) (v : Value) (l : List MsgV) (ok : Nat → Prop) (hR : elM.Rd ok w v l) :
    Calls Try.prog 36 #[v] w fun e w' => ∃ b, e = .returned (.bool b) ∧ Hid (Below w.heap.size w w' ∧ (b = true → l.length ≤ 2147483647 ∧ ∀ x ∈ l, x.data.length ≤ 2147483647)) := by
  obtain ⟨A, c, rfl, hlc, hcm⟩ := hR.form
  have hlen : l.length ≤ 9223372036854775807 := by omega
  have HR := Lib.hid hR.bound
  clear hR
  by_cases hbig : l.length ≤ 2147483647
  · go_enter Try.func36, Try.ntmps36
    go_wp2_with fail
    go_loopw [10] (fun i wr => ∃ k : Nat, k ≤ l.length ∧ i = .int .i64 k ∧ Hid (Below w.heap.size w wr ∧ ∀ x ∈ l.take k, x.data.length ≤ 2147483647)) (fun i _ => l.length - (intOf i).toNat)
    case atStart => exact ⟨0, Nat.zero_le _, rfl, Lib.hid ⟨Below.refl _ _, by simp⟩⟩
    case round =>
      obtain ⟨k, hk, rfl, HL⟩ := hrel
      by_cases hlt : k < l.length
      · obtain ⟨x, hx⟩ : ∃ x, l[k]? = some x := ⟨_, List.getElem?_eq_getElem hlt⟩
        obtain ⟨b, off, dA, dc, rfl, hbl, hbok, e0, e1, e2, e3, e4, e5, hd⟩ := rowM (HR.out.below HL.out.1) hx
        have hdl := hd.len
        have HSN := Lib.hid (take_snoc' hx)
        have HB1 := Lib.hid ((Below.refl wr.heap.size wr).alloc (Nat.le_refl _) (.cells #[.int .i64 x.L, .int .i64 x.t, .int .i64 x.f, .int .i64 x.s, .int .i64 x.p, .slice dA x.data.length dc] 41))
        clear hx hd
        go_wp2_with fail
        refine (fits29 x.L x.t x.f x.s x.p dA x.data.length dc _ hdl).mono ?_
        rintro e w1 ⟨q, rfl, hb2, hq2⟩
        have HB2 := Lib.hid (HL.out.1.trans ((HB1.out.trans (hb2.mono (by simp))).mono HL.out.1.size))
        have HQ2 := Lib.hid hq2
        clear hb2 hq2
        cases q
        · go_wp2_with fail
          go_ret
          exact ⟨_, rfl, Lib.hid ⟨HB2.out, fun h => by cases h⟩⟩
        · go_wp2_with fail
          go_roundw
          case rel =>
            refine ⟨k + 1, by omega, int_eq (by omega), Lib.hid ⟨HB2.out, fun y hy => ?_⟩⟩
            rw [HSN.out, List.mem_append, List.mem_singleton] at hy
            rcases hy with hy | rfl
            · exact HL.out.2 y hy
            · exact HQ2.out (by simp)
          case measure => simp [intOf]; omega
      · obtain rfl : k = l.length := by omega
        rw [List.take_length] at HL
        go_wp2_with fail
        go_ret
        exact ⟨_, rfl, Lib.hid ⟨HL.out.1, fun _ => ⟨hbig, HL.out.2⟩⟩⟩
  · go_enter Try.func36, Try.ntmps36
    go_wp2_with fail
    go_ret
    exact ⟨_, rfl, Lib.hid ⟨Below.refl _ _, fun h => by cases h⟩⟩
end Go.Proofs.Ytgijhgonpgidiaa
