/-
  Contract of the reference's AttributeBytes. No statement of the seat is proved here.
-/
import Derived.Test.YtgijhgonpgidiaaPut
namespace Go.Proofs.Ytgijhgonpgidiaa
open Go.RowKit Go.Proofs.YtgijhgonpgidiaaW.PrintWords

/-- The reference's attributes (and the thin package's): type, data. -/
def elS : El (Int × List Int) where
  sz := 2
  E ok w x cs := ∃ dv, cs = [.int .i64 x.1, dv] ∧ Sl ok w dv x.2
  len := by rintro ok w x cs ⟨dv, rfl, _⟩; rfl
  one := by
    rintro ok w x cs ⟨dv, rfl, h⟩ u hu
    obtain ⟨A, c, rfl, _⟩ := h
    simp only [List.mem_cons, List.not_mem_nil, or_false] at hu
    rcases hu with rfl | rfl <;> rfl
  mono := by rintro ok ok' w x cs hk ⟨dv, h, k⟩; exact ⟨dv, h, k.mono hk⟩
  bound := by rintro ok w x cs ⟨dv, h, k⟩; exact ⟨dv, h, k.bound⟩
  step := by rintro ok w w1 x cs hm ⟨dv, h, k⟩; exact ⟨dv, h, k.step hm⟩

/-- A row of bytes that the call owns. -/
def Ob (w : World) (base : Nat) (v : Value) (xs : List Int) : Prop := w.ownsRow base 5 1 v xs.length (nums .u8 xs)
theorem Ob.nil (w : World) (base : Nat) : Ob w base (.slice none 0 0) [] := own_nil _ _ _ _
theorem Ob.form {w : World} {base : Nat} {v : Value} {xs : List Int} (h : Ob w base v xs) : ∃ A c, v = .slice A xs.length c ∧ xs.length ≤ c := by
  obtain ⟨A, c, rfl⟩ := own_slice h
  exact ⟨A, c, rfl, own_le h⟩
theorem Ob.sl {w : World} {base : Nat} {v : Value} {xs : List Int} (h : Ob w base v xs) : Sl (fun k => base ≤ k) w v xs := Sl.of_own h fun k hk => own_base h k hk
theorem Ob.below {w w1 : World} {base : Nat} {v : Value} {xs : List Int} (h : Ob w base v xs) (hb : Below w.heap.size w w1) : Ob w1 base v xs := pw_own_below h hb
theorem below_row {w a b : World} {base : Nat} {v : Value} {xs : List Int} (h : Below base w a) (hO : Ob a base v xs) (hb : base ≤ a.heap.size) (hg : a.grownBy b v.ownBlock) : Below base w b := h.grown hg hb fun k hk => own_base hO k hk

theorem row_ne {w a : World} {base : Nat} {v u : Value} {xs : List Int} {p : Nat} (hO : Ob w base v xs) (hp : w.heap.size ≤ p) (hpa : p < a.heap.size) (hat : u.ownBlock = v.ownBlock ∨ ∃ c, u.ownBlock = some c ∧ a.heap.size ≤ c) : some p ≠ u.ownBlock := by
  intro he
  rcases hat with hat | ⟨c, hc, hle⟩
  · have := own_lt hO p (by rw [← hat, ← he]); omega
  · rw [hc] at he; injection he with he; omega
/-- Attributes that the reference can lay: types of two bytes, data that are not too long. -/
def AOk2 (l : List (Int × List Int)) : Prop := ∀ a ∈ l, (0 ≤ a.1 ∧ a.1 < 65536) ∧ a.2.length ≤ 1000000000
def lenV : Value → Nat
  | .slice _ n _ => n
  | _ => 0

set_option maxRecDepth 100000 in
set_option maxHeartbeats 1600000 in
theorem attrBytes28 (w : World) (v : Value) (l : List (Int × List Int)) (ok : Nat → Prop) (hR : elS.Rd ok w v l) (hA : AOk2 l) (hT : (attrsB l).length ≤ 140730000000000) :
    Calls Try.prog 28 #[v] w fun e w' => ∃ u, e = .returned u ∧ Hid (Ob w' w.heap.size u (attrsB l) ∧ Below w.heap.size w w') := by
  obtain ⟨A, c, rfl, hlc, hcm⟩ := hR.form
  have hlen : l.length ≤ 9223372036854775807 := by omega
  have HR := Lib.hid hR.bound
  have HT := Lib.hid hT
  have HA := Lib.hid hA
  clear hR hT hA
  go_enter Try.func28, Try.ntmps28
  go_wp2_with fail
  go_loopw [3, 8] (fun b i wr => ∃ k : Nat, k ≤ l.length ∧ i = .int .i64 k ∧ Hid (Ob wr w.heap.size b (attrsB (l.take k)) ∧ Below w.heap.size w wr)) (fun _ i _ => l.length - (intOf i).toNat)
  case atStart => exact ⟨0, Nat.zero_le _, rfl, Lib.hid ⟨by simpa [attrsB] using Ob.nil w w.heap.size, Below.refl _ _⟩⟩
  case round =>
    obtain ⟨k, hk, rfl, HL⟩ := hrel
    by_cases hlt : k < l.length
    · obtain ⟨b, off, c2, hv, _, _, hbok, hbl, hcell⟩ := (HR.out.below HL.out.2).at_ (by omega)
      simp only [Value.slice.injEq, true_and] at hv
      obtain ⟨rfl, rfl⟩ := hv
      obtain ⟨a, ha⟩ : ∃ a, l[k]? = some a := ⟨_, List.getElem?_eq_getElem hlt⟩
      obtain ⟨cs, hcs, dv, rfl, hSl⟩ := hcell k a ha
      have e0 : wr.cell? ⟨b, off + k * 2, none⟩ = some (.int .i64 a.1) := hcs 0 _ rfl
      have e1 : wr.cell? ⟨b, off + k * 2 + 1, none⟩ = some dv := hcs 1 _ rfl
      obtain ⟨⟨hal0, hal1⟩, hal2⟩ := HA.out a (List.mem_of_getElem? ha)
      have hle := attrsB_take_le l (k + 1)
      have hsnoc := attrsB_take_succ l k a ha
      obtain ⟨dA, dc, rfl, hdc, _, _⟩ := hSl.form
      obtain ⟨p, hp⟩ : ∃ p, p = wr.heap.size := ⟨_, rfl⟩
      obtain ⟨W0, hW0⟩ : ∃ W, W = wr.alloc (.cells #[.int .i64 a.1, .slice dA a.2.length dc] 61) := ⟨_, rfl⟩
      have hB0 : Below wr.heap.size wr W0 := by rw [hW0]; exact (Below.refl _ _).alloc (Nat.le_refl _) _
      have hP0 : W0.heap[p]? = some (.cells #[.int .i64 a.1, .slice dA a.2.length dc] 61) := by rw [hW0, hp]; exact heap_alloc_new _ _
      have hO0 := HL.out.1.below hB0
      have hbb0 := HL.out.2.trans (hB0.mono HL.out.2.size)
      have hSl0 := hSl.below hB0
      have HSN := Lib.hid hsnoc
      have HW0 := Lib.hid hW0
      have HP0 := Lib.hid hP0
      have HO0 := Lib.hid hO0
      have HB0 := Lib.hid hbb0
      have HS0 := Lib.hid hSl0
      have HAA := Lib.hid ha
      have HPP := Lib.hid hp
      have m1 : W0.cell? ⟨p, 1, none⟩ = some (.slice dA a.2.length dc) := blk_cell hP0 1
      have hlim : (attrsB (l.take k)).length ≤ 140730000000000 := by have := attrsB_take_le l k; have := HT.out; omega
      clear hsnoc hW0 hP0 hO0 hbb0 hSl0 ha hcs hcell hSl hB0
      go_wp2_with fail
      rw [← hp, ← HW0.out]
      clear hp
      refine (put59 W0 w.heap.size _ _ (4 + a.2.length) 2 false HO0.out HB0.out.size (by omega) (by omega)).mono ?_
      rintro e w1 ⟨u1, rfl, H1⟩
      have hpW : p < W0.heap.size := blk_lt HP0.out
      have hne0 : some p ≠ u3.ownBlock := row_ne HL.out.1 (by rw [HPP.out]; exact Nat.le_refl _) hpW (.inl rfl)
      have hP1 := blk_grown HP0.out H1.out.2.1 hne0
      have n0 : w1.cell? ⟨p, 0, none⟩ = some (.int .i64 a.1) := blk_cell hP1 0
      have hB1 : Below w.heap.size w w1 := below_row HB0.out HO0.out HB0.out.size H1.out.2.1
      have HP1 := Lib.hid hP1
      have HB1 := Lib.hid hB1
      have hne1 := row_ne HL.out.1 (by rw [HPP.out]; exact Nat.le_refl _) hpW H1.out.2.2
      have HN1 := Lib.hid hne1
      clear hP1 hB1 hne0 hne1 m1
      go_wp2_with fail
      refine (put59 w1 w.heap.size _ _ a.1 2 false H1.out.1 HB1.out.size (by omega) (by rw [List.length_append, putO_length]; omega)).mono ?_
      rintro e w2 ⟨u2, rfl, H2⟩
      have hP2 := blk_grown HP1.out H2.out.2.1 HN1.out
      have q1 : w2.cell? ⟨p, 1, none⟩ = some (.slice dA a.2.length dc) := blk_cell hP2 1
      have hB2 : Below w.heap.size w w2 := below_row HB1.out H1.out.1 HB1.out.size H2.out.2.1
      have hS2 : Sl (fun k => k < w.heap.size) w2 (.slice dA a.2.length dc) a.2 := (HS0.out.mono fun k hk => hk.2).step fun k hk _ => (hB2.block k hk).trans (HB0.out.block k hk).symm
      have HB2 := Lib.hid hB2
      have HS2 := Lib.hid hS2
      obtain ⟨A2, c2', hf2, _, _, hrd⟩ := hS2.form
      simp only [Value.slice.injEq, true_and] at hf2
      obtain ⟨rfl, rfl⟩ := hf2
      have HRD := Lib.hid hrd
      have hlim2 : ((attrsB (l.take k) ++ putO false (4 + a.2.length) 2 ++ putO false a.1 2).length + a.2.length) * 1 ≤ 140737488355328 := by
        simp only [List.length_append, putO_length]; omega
      have HLI := Lib.hid hlim2
      clear hP2 hB2 hS2 hrd hlim2 n0
      go_wp2_with (at_builtin; go_must (refine print_append_row (w0 := w2) w.heap.size rfl (.tmp 24) (.tmp 26) 28 5 .u8 1 rfl Try.underlying28 info5 (by decide) u2 _ a.2 _ _ _ rfl rfl H2.out.1 HRD.out (Below.refl _ _) HB2.out.size HLI.out ?_); intro v3 w3 ho3 hb3 hg3 hat3; have HO3 := Lib.hid ho3; have HB3 := Lib.hid (below_row HB2.out H2.out.1 HB2.out.size hg3); clear ho3 hb3 hg3 hat3)
      obtain ⟨X, hX⟩ : ∃ X, X = attrsB (l.take k) ++ putO false (4 + a.2.length) 2 ++ putO false a.1 2 ++ a.2 := ⟨_, rfl⟩
      have hXO : Ob w3 w.heap.size v3 X := by rw [hX]; exact HO3.out
      have hXl : X.length = (attrsB (l.take k)).length + 4 + a.2.length := by rw [hX]; simp only [List.length_append, putO_length]
      have hX4 := attrsB_mod (l.take k)
      have hpad := padn_le a.2.length
      obtain ⟨L4, hL4⟩ : ∃ L4, L4 = X.length + (padn a.2.length - a.2.length) := ⟨_, rfl⟩
      have hfin : X ++ List.replicate (L4 - X.length) 0 = attrsB (l.take (k + 1)) := by
        rw [HSN.out, hL4, hX, show ∀ m n : Nat, m + n - m = n by omega]
        simp [attrB, putO]
      have hXO2 := Lib.hid hXO
      have hLX : L4 % 4 = 0 ∧ X.length ≤ L4 ∧ L4 < X.length + 4 ∧ L4 ≤ 140737488300000 := by omega
      have HFIN := Lib.hid hfin
      obtain ⟨l4a, l4b, l4c, l4d⟩ := hLX
      have HL4 := Lib.hid l4a
      clear hX hXO hXl hX4 hpad hL4 hfin l4a HO3
      obtain ⟨wo, hwo⟩ : ∃ wo : World, wo = wr := ⟨_, rfl⟩
      subst hwo
      go_loopw [3] (fun b wi => ∃ j : Nat, X.length + j ≤ L4 ∧ Hid (Ob wi w.heap.size b (X ++ List.replicate j 0) ∧ Below w.heap.size w wi)) (fun b _ => (4 - lenV b % 4) % 4)
      case atStart => exact ⟨0, by omega, Lib.hid ⟨by simpa using hXO2.out, HB3.out⟩⟩
      case round =>
        obtain ⟨j, hj, HJ⟩ := hrel
        obtain ⟨A3, c3, hv3, _⟩ := HJ.out.1.form
        rw [List.length_append, List.length_replicate] at hv3
        subst hv3
        by_cases hm : (X.length + j) % 4 = 0
        · have hjl : X.length + j = L4 := by have := HL4.out; omega
          have hjj : j = L4 - X.length := by omega
          have HJJ := Lib.hid hjj
          clear hjl hjj
          go_wp2_with fail
          go_roundw
          case rel =>
            refine ⟨k + 1, by omega, int_eq (by omega), Lib.hid ⟨?_, HJ.out.2⟩⟩
            have h1 := HJ.out.1
            rw [← HFIN.out, ← HJJ.out]
            exact h1
          case measure => simp [intOf]; omega
        · have hlj : ((X ++ List.replicate j 0).length + 1) * 1 ≤ 140737488355328 := by rw [List.length_append, List.length_replicate]; omega
          have HLJ := Lib.hid hlj
          have hbw := HJ.out.2.size
          clear hlj
          go_wp2_with (at_builtin; go_must (refine print_append_num (w0 := wr) w.heap.size rfl (.tmp 32) (.tmp 33) 28 5 .u8 1 rfl Try.underlying28 info5 (by decide) _ (X ++ List.replicate j 0) 0 rfl rfl HJ.out.1 (Below.refl _ _) hbw HLJ.out ?_); intro v4 w4 ho4 hb4 hg4 hat4; have HO4 := Lib.hid ho4; have HB4 := Lib.hid (below_row HJ.out.2 HJ.out.1 hbw hg4); clear ho4 hb4 hg4 hat4)
          have hv4 := Ob.form (base := w.heap.size) HO4.out
          obtain ⟨A4, c4, rfl, _⟩ := hv4
          go_roundw
          case rel =>
            refine ⟨j + 1, by have := HL4.out; omega, Lib.hid ⟨?_, HB4.out⟩⟩
            have h1 := HO4.out
            rw [List.append_assoc, show List.replicate j (0 : Int) ++ [0] = List.replicate (j + 1) 0 from by rw [List.replicate_succ']] at h1
            rw [List.append_assoc, show List.replicate j (0 : Int) ++ [0] = List.replicate (j + 1) 0 from by rw [List.replicate_succ']]
            exact h1
          case measure => simp [lenV]; omega
    · obtain rfl : k = l.length := by omega
      rw [List.take_length] at HL
      go_wp2_with fail
      go_ret
      exact ⟨_, rfl, HL⟩
end Go.Proofs.Ytgijhgonpgidiaa
