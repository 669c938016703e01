/-
  Arguments as the frame hands them, opened to what the walks ask. No statement of the seat is proved here.
-/
import Derived.Test.YtgijhgonpgidiaaAttrB
import Derived.Test.YtgijhgonpgidiaaFld
import Derived.ProofKit
import Derived.OpenShut
import Derived.ShutString
import Derived.ChangeOld
import Derived.Below
import Derived.Deep.Slices
import Derived.Deep.Fields
import Derived.ChangeSame
namespace Go.Proofs.Ytgijhgonpgidiaa
open Go.RowKit Go.ChangeShapes Go.WideShapes Go.Deep Go.Proofs.YtgijhgonpgidiaaW.PrintWords

theorem list_of {α : Type} {P : Nat → α → Prop} : ∀ n : Nat, (∀ i, i < n → ∃ x, P i x) → ∃ l : List α, l.length = n ∧ ∀ i x, l[i]? = some x → P i x
  | 0, _ => ⟨[], rfl, fun i x h => by simp at h⟩
  | n + 1, h => by
    obtain ⟨l, hl, hP⟩ := list_of n fun i hi => h i (by omega)
    obtain ⟨x, hx⟩ := h n (by omega)
    refine ⟨l ++ [x], by simp [hl], fun i y hy => ?_⟩
    rcases Nat.lt_or_ge i l.length with hi | hi
    · rw [List.getElem?_append_left hi] at hy; exact hP i y hy
    · rw [List.getElem?_append_right hi] at hy
      have h0 : i - l.length = 0 := by
        rcases Nat.eq_zero_or_pos (i - l.length) with h0 | h0
        · exact h0
        · rw [List.getElem?_eq_none (by simp; omega)] at hy; cases hy
      rw [h0] at hy
      obtain rfl : x = y := by simpa using hy
      obtain rfl : i = n := by omega
      exact hx

section
variable {H : Type} {enc : TypeId × Value → H} {w : World} {base : Nat} {spare : Nat → Bool} {held : Bool} {fuel : Nat}
theorem spot_of {w : World} {a : Addr} {v : Value} (h : w.cell? (a.add 0) = some v) : a.spot = none := by
  have := World.cell?_spot h
  simpa [Addr.add] using this
theorem addr_of {b off i : Nat} : (⟨b, off, none⟩ : Addr).add i = ⟨b, off + i, none⟩ := by unfold Addr.add; split <;> simp_all

theorem open_bytes {v : Value} {x : DataW H × List MemPlace} (h : DataW.trod enc Try.prog w base spare held fuel 28 [v] = some x) : ∃ xs, Sl (fun _ => True) w v xs ∧ IsB xs := by
  rcases open_ints Try.underlying28 Try.underlying5 (by kernel_rfl) h with ⟨hcs, _⟩ | ⟨a, len, cap, zs, hcs, _, hl, hm, hz, _, hcell, hwz⟩
  · simp only [List.cons.injEq, and_true] at hcs
    subst hcs
    exact ⟨[], Sl.nil _ _, IsB.nil⟩
  · simp only [List.cons.injEq, and_true] at hcs
    subst hcs
    have hzl : len ≤ zs.length := by rw [hz]; split <;> omega
    refine ⟨zs.take len, ⟨some a, cap, ?_, ?_, ?_, fun h0 => ?_⟩, fun y hy => ?_⟩
    · rw [List.length_take, Nat.min_eq_left hzl]
    · rw [List.length_take, Nat.min_eq_left hzl]; exact hl
    · simpa [maxLen] using hm
    · rw [List.length_take, Nat.min_eq_left hzl] at h0
      have hs := spot_of (hcell 0 (by omega))
      obtain ⟨b, off, s⟩ := a
      subst hs
      refine ⟨b, off, rfl, trivial, fun j hj => ?_⟩
      rw [List.length_take, Nat.min_eq_left hzl] at hj
      have := hcell j (by omega)
      rw [addr_of] at this
      rw [this, List.getD_eq_getElem?_getD, List.getD_eq_getElem?_getD, List.getElem?_take_of_lt hj]
    · have := hwz y (List.mem_of_mem_take hy)
      have e1 : IntKind.u8.min = 0 := rfl
      have e2 : IntKind.u8.max = 255 := rfl
      simp [Lit.wf] at this
      exact ⟨by omega, by omega⟩

/-- A slice of structs: for each of its elements the cells, and what they hold. -/
theorem open_rows {α : Type} (d : El α) {P : α → Prop} {t e : TypeId} {v : Value} {x : DataW H × List MemPlace} (ht : Try.prog.underlying t = some (.slice e)) (hC : Try.prog.cellsOf e = d.sz) (hpos : 0 < d.sz)
    (hE : ∀ n cs y, n < fuel → cs.length = d.sz → DataW.trod enc Try.prog w base spare held n e cs = some y → ∃ z, d.E (fun _ => True) w z cs ∧ P z)
    (h : DataW.trod enc Try.prog w base spare held fuel t [v] = some x) : ∃ l, d.Rd (fun _ => True) w v l ∧ ∀ z ∈ l, P z := by
  rcases DataW.trod_slice ht h with ⟨hcs, _⟩ | ⟨a, len, cap, elems, rest, n, hfu, hcs, hx, hb, hl, hm, hlen, hel, hsp, hns⟩
  · simp only [List.cons.injEq, and_true] at hcs
    subst hcs
    exact ⟨[], El.Rd.nil _ _ _, fun z hz => by cases hz⟩
  · simp only [List.cons.injEq, and_true] at hcs
    subst hcs
    have hrow : ∀ i, i < len → ∃ z, ∃ cs : List Value, ((∀ j u, cs[j]? = some u → w.cell? (a.add (i * d.sz + j)) = some u) ∧ cs.length = d.sz ∧ d.E (fun _ => True) w z cs) ∧ P z := fun i hi => by
      have h1 := hel i hi
      rw [List.getElem?_eq_getElem (by omega), hC] at h1
      obtain ⟨cs, hcs, h2⟩ := Option.bind_eq_some_iff.1 h1
      obtain ⟨_, hcl, hat⟩ := World.cells?_some hcs
      obtain ⟨z, hz, hp⟩ := hE n cs _ (by omega) hcl h2
      refine ⟨z, cs, ⟨fun j u hu => ?_, hcl, hz⟩, hp⟩
      have hj : j < cs.length := (List.getElem?_eq_some_iff.1 hu).1
      rw [← Go.Deep.add_add, hat j (by omega), hu]
    obtain ⟨l, hll, hP⟩ := list_of len hrow
    subst hll
    refine ⟨l, ⟨some a, cap, rfl, hl, by simpa [maxLen] using hm, fun h0 => ?_⟩, fun z hz => ?_⟩
    · obtain ⟨cs, ⟨hc, hcl, _⟩, _⟩ := hP 0 _ (List.getElem?_eq_getElem h0)
      have hc0 := hc 0 _ (List.getElem?_eq_getElem (by omega))
      rw [Nat.zero_mul, Nat.zero_add] at hc0
      have hs := spot_of hc0
      obtain ⟨b, off, s⟩ := a
      subst hs
      refine ⟨b, off, rfl, trivial, fun i z hz => ?_⟩
      obtain ⟨cs, ⟨hc, hcl, hz⟩, _⟩ := hP i z hz
      refine ⟨cs, fun j u hu => by rw [← addr_of]; exact hc j u hu, ?_, hz⟩
      exact World.block_lt_of_cell? w _ hc0
    · obtain ⟨i, hi, rfl⟩ := List.getElem_of_mem hz
      obtain ⟨_, _, hp⟩ := hP i _ (List.getElem?_eq_getElem hi)
      exact hp
theorem open_flds {fs : Array Field} {e : TypeId} {cs : List Value} {y : DataW H × List MemPlace} (he : Try.prog.underlying e = some (.struct fs)) (hone : oneCellFields Try.prog fs = true) (h : DataW.trod enc Try.prog w base spare held fuel e cs = some y) :
    ∃ n, fuel = n + 1 ∧ ∀ (j : Nat) (f : Field), fs[j]? = some f → ∃ y', DataW.trod enc Try.prog w base spare held n f.type ((cs.drop j).take 1) = some y' := by
  obtain ⟨ys, n, hn, _, _, hyl, hf⟩ := DataW.trod_struct he h
  refine ⟨n, hn, fun j f hj => ?_⟩
  obtain ⟨ho, hk⟩ := hone_of hone j f hj
  have h1 := hf j f hj
  rw [ho, hk] at h1
  have hjl : j < fs.size := (Array.getElem?_eq_some_iff.1 hj).1
  exact ⟨_, h1.trans (List.getElem?_eq_getElem (by omega))⟩
/-- A slice of the thin package's attributes. -/
theorem open_attrs {v : Value} {x : DataW H × List MemPlace} (h : DataW.trod enc Try.prog w base spare held fuel 33 [v] = some x) : ∃ l, elS.Rd (fun _ => True) w v l ∧ ∀ a ∈ l, IsB a.2 := by
  refine open_rows elS (P := fun a => IsB a.2) Try.underlying33 (by kernel_rfl) (by decide) (fun n cs y _ hl h => ?_) h
  obtain ⟨m, _, hf⟩ := open_flds Try.underlying60 (by kernel_rfl) h
  match cs, hl with
  | [c0, c1], _ =>
    obtain ⟨y0, h0⟩ := hf 0 _ rfl
    obtain ⟨y1, h1⟩ := hf 1 _ rfl
    obtain ⟨q, hq, _⟩ := DataW.trod_int Try.underlying3 h0
    obtain ⟨xs, hxs, hb⟩ := open_bytes (v := c1) h1
    simp only [List.drop_zero, List.take_succ_cons, List.take_zero, List.cons.injEq, and_true] at hq
    subst hq
    exact ⟨(q, xs), ⟨c1, rfl, hxs⟩, hb⟩
set_option maxRecDepth 100000 in
/-- A message by value. -/
theorem open_msg {r : Reach} {b0 : Nat} {v : Value} {d : DataW H} {p : List MemPlace} (hv : Value.okWide Try.prog w r b0 41 v) (h : DataW.Trod enc Try.prog w base spare held 41 v d p) :
    ∃ (L t f s q : Int) (dv : Value) (data : List Int), v = .agg #[.int .i64 L, .int .i64 t, .int .i64 f, .int .i64 s, .int .i64 q, dv] ∧ Sl (fun _ => True) w dv data ∧ IsB data := by
  obtain ⟨cs, rfl, hsz⟩ := okWide_struct Try.underlying41 hv
  obtain ⟨l⟩ := cs
  have hC : Try.prog.cellsOf 41 = 6 := by kernel_rfl
  match l, hsz.trans hC with
  | [c0, c1, c2, c3, c4, c5], _ =>
    obtain ⟨fuel, hf⟩ := h
    obtain ⟨n, _, hg⟩ := open_flds Try.underlying41 (by kernel_rfl) hf
    obtain ⟨y0, h0⟩ := hg 0 _ rfl
    obtain ⟨y1, h1⟩ := hg 1 _ rfl
    obtain ⟨y2, h2⟩ := hg 2 _ rfl
    obtain ⟨y3, h3⟩ := hg 3 _ rfl
    obtain ⟨y4, h4⟩ := hg 4 _ rfl
    obtain ⟨y5, h5⟩ := hg 5 _ rfl
    obtain ⟨a0, e0, _⟩ := DataW.trod_int Try.underlying3 h0
    obtain ⟨a1, e1, _⟩ := DataW.trod_int Try.underlying3 h1
    obtain ⟨a2, e2, _⟩ := DataW.trod_int Try.underlying3 h2
    obtain ⟨a3, e3, _⟩ := DataW.trod_int Try.underlying3 h3
    obtain ⟨a4, e4, _⟩ := DataW.trod_int Try.underlying3 h4
    obtain ⟨xs, hxs, hb⟩ := open_bytes (v := c5) h5
    simp [Value.cells] at e0 e1 e2 e3 e4
    subst e0 e1 e2 e3 e4
    exact ⟨a0, a1, a2, a3, a4, c5, xs, rfl, hxs, hb⟩
end
end Go.Proofs.Ytgijhgonpgidiaa
