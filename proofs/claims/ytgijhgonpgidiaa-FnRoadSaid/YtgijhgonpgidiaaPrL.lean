/-
  Contracts of ProperFields, from that of ProperField, and of Short. No statement of the seat is proved here.
-/
import Derived.Test.YtgijhgonpgidiaaProp
import Derived.Test.YtgijhgonpgidiaaFb2
namespace Go.Proofs.Ytgijhgonpgidiaa
open Go.RowKit Go.Proofs.YtgijhgonpgidiaaW.PrintWords

/-- What ProperFields is owed to do, so deep. -/
def P20 (d : Nat) : Prop := d ≤ 100 → ∀ (e : Nat) (w : World) (ok : Nat → Prop) (v : Value) (fs : List Fld), (elF e).Rd ok w v fs → (∀ x ∈ fs, NR e x) →
  Calls Try.prog 20 #[v, .int .i64 d] w fun r w' => YesIf r (fs.length ≤ 10 ∧ ∀ x ∈ fs, PR d x) ∧ Hid (Below w.heap.size w w')
/-- What ProperField is owed to do. -/
def P40 (d : Nat) : Prop := d ≤ 100 → ∀ (e : Nat) (w : World) (ok : Nat → Prop) (x : Fld) (cs : List Value), (elF (e + 1)).E ok w x cs → NR (e + 1) x →
  Calls Try.prog 40 #[.agg cs.toArray, .int .i64 d] w fun r w' => YesIf r (PR d x) ∧ Hid (Below w.heap.size w w')
theorem rd_succ {e : Nat} {ok : Nat → Prop} {w : World} {v : Value} {fs : List Fld} (h : (elF e).Rd ok w v fs) {k : Nat} (hk : k < fs.length) : ∃ e', e = e' + 1 := by
  cases e with
  | zero =>
    obtain ⟨b, off, c, _, _, _, _, _, hc⟩ := h.at_ (by omega)
    obtain ⟨cs, _, hf⟩ := hc k _ (List.getElem?_eq_getElem hk)
    exact hf.elim
  | succ e => exact ⟨e, rfl⟩
set_option maxRecDepth 100000 in
set_option maxHeartbeats 3200000 in
theorem pf20 (d : Nat) (H : P40 d) : P20 d := by
  intro hd100 e w ok v fs hR hN
  obtain ⟨A, c, rfl, hlc, hcm⟩ := hR.form
  have hlen : fs.length ≤ 9223372036854775807 := by omega
  have HR := Lib.hid hR.bound
  have HN := Lib.hid hN
  have HH := Lib.hid H
  clear hR hN H
  go_enter Try.func20, Try.ntmps20
  go_wp2_with fail
  go_loopw [9] (fun i wr => ∃ k : Nat, k ≤ fs.length ∧ i = .int .i64 k ∧ Hid ((∀ x ∈ fs.take k, PR d x) ∧ Below w.heap.size w wr)) (fun i _ => fs.length - (intOf i).toNat)
  case atStart => exact ⟨0, Nat.zero_le _, rfl, Lib.hid ⟨(fun x hx => by simp at hx), Below.refl _ _⟩⟩
  case round =>
    obtain ⟨k, hk, rfl, HL⟩ := hrel
    by_cases hlt : k < fs.length
    · obtain ⟨x, hx⟩ : ∃ x, fs[k]? = some x := ⟨_, List.getElem?_eq_getElem hlt⟩
      obtain ⟨e, rfl⟩ := rd_succ HR.out hlt
      obtain ⟨b, off, dA, dc, kA, kc, rfl, hbl, hbok, e0, e1, e2, e3, e4, e5, e6, hd, hkv⟩ := rowF (HR.out.below HL.out.2) hx
      obtain ⟨W1, hW1⟩ : ∃ W, W = wr.alloc (.cells #[.int .i64 x.ty, .int .i64 x.kind, .int .i64 x.fl, .int .i64 x.n, .string x.text, .slice dA x.data.length dc, .slice kA x.kids.length kc] 65) := ⟨_, rfl⟩
      have hB1 : Below wr.heap.size wr W1 := by rw [hW1]; exact (Below.refl _ _).alloc (Nat.le_refl _) _
      have hE : (elF (e + 1)).E (fun k => ok k ∧ k < w.heap.size) W1 x [.int .i64 x.ty, .int .i64 x.kind, .int .i64 x.fl, .int .i64 x.n, .string x.text, .slice dA x.data.length dc, .slice kA x.kids.length kc] := ⟨_, _, rfl, hd.below hB1, hkv.below hB1⟩
      have HC := Lib.hid (HH.out hd100 e W1 _ x _ hE (HN.out x (List.mem_of_getElem? hx)))
      have HSN := Lib.hid (take_snoc' hx)
      have HW1 := Lib.hid hW1
      have HB1 := Lib.hid (HL.out.2.trans (hB1.mono HL.out.2.size))
      clear hE hW1 hB1 hx hd hkv
      go_wp2_with fail
      rw [← HW1.out]
      refine HC.out.mono ?_
      rintro r w2 ⟨⟨y, rfl, hy⟩, H2⟩
      have HB2 := Lib.hid (below_then HB1.out HB1.out.size H2.out)
      have HY := Lib.hid hy
      clear hy H2
      cases y
      · go_wp2_with fail
        go_ret
        exact ⟨⟨false, rfl, fun h => by cases h⟩, HB2⟩
      · go_wp2_with fail
        go_roundw
        case rel =>
          refine ⟨k + 1, by omega, int_eq (by omega), Lib.hid ⟨?_, HB2.out⟩⟩
          rw [HSN.out]
          intro z hz
          rcases List.mem_append.1 hz with hz | hz
          · exact HL.out.1 z hz
          · simp only [List.mem_cons, List.not_mem_nil, or_false] at hz
            subst hz
            exact HY.out trivial
        case measure => simp [intOf]; omega
    · obtain rfl : k = fs.length := by omega
      rw [List.take_length] at HL
      go_wp2_with fail
      go_ret
      exact ⟨⟨_, rfl, fun h => ⟨by simp at h; omega, HL.out.1⟩⟩, Lib.hid HL.out.2⟩
set_option maxRecDepth 100000 in
set_option maxHeartbeats 1600000 in
theorem short21 (d : Nat) (w : World) (ok : Nat → Prop) (v : Value) (fs : List Fld) (hR : (elF d).Rd ok w v fs) (hP : ∀ x ∈ fs, PF d x) (hl : fs.length ≤ 10) (hT : bnd d ≤ 100000000) :
    Calls Try.prog 21 #[v] w fun r w' => r = .returned (.bool (decide ((fbytes false d fs).length ≤ 60000))) ∧ Hid (Below w.heap.size w w') := by
  obtain ⟨A, c, rfl, hlc, hcm⟩ := hR.form
  have HC := Lib.hid (fb24 d false w ok _ fs hR hP hl hT)
  clear hR hP
  go_enter Try.func21, Try.ntmps21
  go_wp2_with fail
  refine HC.out.mono ?_
  rintro r w1 ⟨u, rfl, H⟩
  obtain ⟨A1, c1, rfl, _⟩ := Ob.form H.out.1
  have HB := Lib.hid H.out.2
  clear H
  go_wp2_with fail
  go_ret
  refine ⟨?_, HB⟩
  exact congrArg (fun b => Ending.returned (.bool b)) (decide_eq_decide.2 (by constructor <;> intro h <;> omega))
end Go.Proofs.Ytgijhgonpgidiaa
