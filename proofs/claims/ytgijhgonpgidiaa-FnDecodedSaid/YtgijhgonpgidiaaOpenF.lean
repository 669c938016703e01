/-
  A tree of fields as the frame hands it, opened to what the walks ask. No statement of the seat is proved here.
-/
import Derived.Test.YtgijhgonpgidiaaOpen
import Derived.Test.YtgijhgonpgidiaaProp
import Derived.SizedLaws
namespace Go.Proofs.Ytgijhgonpgidiaa
open Go.RowKit Go.ChangeShapes Go.WideShapes Go.Deep Go.Proofs.YtgijhgonpgidiaaW.PrintWords

section
variable {H : Type} {enc : TypeId × Value → H} {w : World} {base : Nat} {spare : Nat → Bool} {held : Bool}
theorem mem_weightsAll {P : Program} {e : TypeId} {d : DataW H} {n : Nat} : ∀ {l : List (DataW H)}, d ∈ l → n ∈ d.weights P e → n ∈ DataW.weightsAll P e l
  | [], h, _ => by cases h
  | a :: l, h, hn => by
    simp only [DataW.weightsAll, List.mem_append]
    rcases List.mem_cons.1 h with rfl | h
    · exact .inl hn
    · exact .inr (mem_weightsAll h hn)
theorem bytes78 : Try.prog.bytesOf 78 = 96 := by kernel_rfl
theorem cells78 : Try.prog.cellsOf 78 = 7 := by kernel_rfl
/-- A slice of structs with the frame's weights: for each of its elements the cells, and what they hold. -/
theorem open_rowsW {fuel : Nat} {α : Type} (d : El α) {P : α → Prop} {t e : TypeId} {v : Value} {x : DataW H × List MemPlace} (ht : Try.prog.underlying t = some (.slice e)) (hC : Try.prog.cellsOf e = d.sz) (hpos : 0 < d.sz)
    (hE : ∀ n cs y, cs.length = d.sz → DataW.trod enc Try.prog w base spare held n e cs = some y → (∀ m ∈ y.1.weights Try.prog e, m ≤ reachBytes) → ∃ z, d.E (fun _ => True) w z cs ∧ P z)
    (h : DataW.trod enc Try.prog w base spare held fuel t [v] = some x) (hw : ∀ m ∈ x.1.weights Try.prog t, m ≤ reachBytes) : ∃ l, d.Rd (fun _ => True) w v l ∧ (∀ z ∈ l, P z) ∧ l.length * Try.prog.bytesOf e ≤ reachBytes := by
  rcases DataW.trod_slice ht h with ⟨hcs, _⟩ | ⟨a, len, cap, elems, rest, n, hfu, hcs, hx, hb, hl, hm, hlen, hel, hsp, hns⟩
  · simp only [List.cons.injEq, and_true] at hcs
    subst hcs
    exact ⟨[], El.Rd.nil _ _ _, (fun z hz => by cases hz), by simp⟩
  · simp only [List.cons.injEq, and_true] at hcs
    subst hcs
    subst hx
    simp only [DataW.weights, ht, List.mem_cons, List.mem_append] at hw
    have hrow : ∀ i, i < len → ∃ z, ∃ cs : List Value, ((∀ j u, cs[j]? = some u → w.cell? (a.add (i * d.sz + j)) = some u) ∧ cs.length = d.sz ∧ d.E (fun _ => True) w z cs) ∧ P z := fun i hi => by
      have h1 := hel i hi
      rw [List.getElem?_eq_getElem (by omega), hC] at h1
      obtain ⟨cs, hcs, h2⟩ := Option.bind_eq_some_iff.1 h1
      obtain ⟨_, hcl, hat⟩ := World.cells?_some hcs
      obtain ⟨z, hz, hp⟩ := hE n cs _ hcl h2 (fun m hm => hw m (.inr (.inl (mem_weightsAll (List.mem_map_of_mem (List.getElem_mem _)) hm))))
      refine ⟨z, cs, ⟨fun j u hu => ?_, hcl, hz⟩, hp⟩
      have hj : j < cs.length := (List.getElem?_eq_some_iff.1 hu).1
      rw [← Go.Deep.add_add, hat j (by omega), hu]
    have hsz := hw _ (.inl rfl)
    simp only [List.length_map] at hsz
    obtain ⟨l, hll, hP⟩ := list_of len hrow
    subst hll
    refine ⟨l, ⟨some a, cap, rfl, hl, by simpa [maxLen] using hm, fun h0 => ?_⟩, fun z hz => ?_, ?_⟩
    · obtain ⟨cs, ⟨hc, hcl, _⟩, _⟩ := hP 0 _ (List.getElem?_eq_getElem h0)
      have hc0 := hc 0 _ (List.getElem?_eq_getElem (by omega))
      rw [Nat.zero_mul, Nat.zero_add] at hc0
      have hs := spot_of hc0
      obtain ⟨b, off, s⟩ := a
      subst hs
      refine ⟨b, off, rfl, trivial, fun i z hz => ?_⟩
      obtain ⟨cs, ⟨hc, hcl, hz⟩, _⟩ := hP i z hz
      refine ⟨cs, fun j u hu => by rw [← addr_of]; exact hc j u hu, ?_, hz⟩
      exact World.block_lt_of_cell? w _ hc0
    · obtain ⟨i, hi, rfl⟩ := List.getElem_of_mem hz
      obtain ⟨_, _, hp⟩ := hP i _ (List.getElem?_eq_getElem hi)
      exact hp
    · rw [hlen] at hsz
      exact Nat.le_trans (Nat.mul_le_mul_right _ (by omega)) hsz
theorem reach_le {m : Nat} (h : m ≤ reachBytes) : m ≤ 140737488355328 := Nat.le_trans h (by decide)
theorem wf_i64 {q : Int} (h : (Lit.int .i64 q).wf = true) : -9223372036854775808 ≤ q ∧ q < 9223372036854775808 := by
  have e1 : IntKind.i64.min = -9223372036854775808 := rfl
  have e2 : IntKind.i64.max = 9223372036854775807 := rfl
  simp [Lit.wf] at h
  exact ⟨by omega, by omega⟩
theorem open_fldsW {fuel : Nat} {fs : Array Field} {e : TypeId} {cs : List Value} {y : DataW H × List MemPlace} (he : Try.prog.underlying e = some (.struct fs)) (hone : oneCellFields Try.prog fs = true) (h : DataW.trod enc Try.prog w base spare held fuel e cs = some y) :
    ∃ (n : Nat) (ys : List (DataW H × List MemPlace)), y.1 = .agg (ys.map (·.1)) ∧ ∀ (j : Nat) (f : Field), fs[j]? = some f → ∃ y', ys[j]? = some y' ∧ DataW.trod enc Try.prog w base spare held n f.type ((cs.drop j).take 1) = some y' := by
  obtain ⟨ys, n, hn, hy, _, hyl, hf⟩ := DataW.trod_struct he h
  refine ⟨n, ys, by rw [hy], fun j f hj => ?_⟩
  obtain ⟨ho, hk⟩ := hone_of hone j f hj
  have h1 := hf j f hj
  rw [ho, hk] at h1
  have hjl : j < fs.size := (Array.getElem?_eq_some_iff.1 hj).1
  exact ⟨_, List.getElem?_eq_getElem (by omega), h1.trans (List.getElem?_eq_getElem (by omega))⟩
set_option maxRecDepth 100000 in
/-- What the seven cells of a field hold, but for the fields within. -/
theorem open_fld {fuel : Nat} {cs : List Value} {y : DataW H × List MemPlace} (hl : cs.length = 7) (h : DataW.trod enc Try.prog w base spare held fuel 78 cs = some y) (hw : ∀ m ∈ y.1.weights Try.prog 78, m ≤ reachBytes) :
    ∃ (t k f n : Int) (text : ByteArray) (dv kv : Value) (data : List Int) (m : Nat) (z : DataW H × List MemPlace), cs = [.int .i64 t, .int .i64 k, .int .i64 f, .int .i64 n, .string text, dv, kv] ∧ Sl (fun _ => True) w dv data ∧ IsB data ∧ (-9223372036854775808 ≤ n ∧ n < 9223372036854775808) ∧ text.size ≤ 9223372036854775807 ∧
      DataW.trod enc Try.prog w base spare held m 22 [kv] = some z ∧ ∀ m ∈ z.1.weights Try.prog 22, m ≤ reachBytes := by
  obtain ⟨m, ys, hy, hf⟩ := open_fldsW Try.underlying78 (by kernel_rfl) h
  match cs, hl with
  | [c0, c1, c2, c3, c4, c5, c6], _ =>
    obtain ⟨y0, _, h0⟩ := hf 0 _ rfl
    obtain ⟨y1, _, h1⟩ := hf 1 _ rfl
    obtain ⟨y2, _, h2⟩ := hf 2 _ rfl
    obtain ⟨y3, _, h3⟩ := hf 3 _ rfl
    obtain ⟨y4, _, h4⟩ := hf 4 _ rfl
    obtain ⟨y5, _, h5⟩ := hf 5 _ rfl
    obtain ⟨y6, hy6, h6⟩ := hf 6 _ rfl
    obtain ⟨a0, e0, _⟩ := DataW.trod_int Try.underlying3 h0
    obtain ⟨a1, e1, _⟩ := DataW.trod_int Try.underlying3 h1
    obtain ⟨a2, e2, _⟩ := DataW.trod_int Try.underlying3 h2
    obtain ⟨a3, e3, _, w3⟩ := DataW.trod_int Try.underlying2 h3
    obtain ⟨a4, e4, _, w4⟩ := DataW.trod_string Try.underlying9 h4
    obtain ⟨xs, hxs, hb⟩ := open_bytes (v := c5) h5
    simp only [List.drop_zero, List.drop_succ_cons, List.take_succ_cons, List.take_zero, List.cons.injEq, and_true] at e0 e1 e2 e3 e4
    subst e0 e1 e2 e3 e4
    refine ⟨a0, a1, a2, a3, a4, c5, c6, xs, m, y6, rfl, hxs, hb, wf_i64 w3, by simpa [maxLen] using w4, h6, fun q hq => hw q ?_⟩
    rw [hy]
    simp only [DataW.weights, Try.underlying78]
    have hg : (ys.map (·.1))[6]? = some y6.1 := by rw [List.getElem?_map, hy6]; rfl
    exact DataW.weights_mem_each (j := 6) (t := 22) rfl hg q hq
set_option maxRecDepth 100000 in
/-- A tree of fields, looked at to a depth. -/
theorem open_fields (d : Nat) : ∀ {fuel : Nat} {v : Value} {x : DataW H × List MemPlace}, DataW.trod enc Try.prog w base spare held fuel 22 [v] = some x → (∀ m ∈ x.1.weights Try.prog 22, m ≤ reachBytes) →
    ∃ l, (elT d).Rd (fun _ => True) w v l ∧ (∀ z ∈ l, NR (d + 1) z) ∧ l.length * 96 ≤ 140737488355328 := by
  induction d with
  | zero =>
    intro fuel v x h hw
    obtain ⟨l, h1, h2, h3⟩ := open_rowsW (elT 0) (P := NR 1) Try.underlying22 cells78 (by decide) (fun n cs y hl h hw => by
      obtain ⟨t, k, f, n, text, dv, kv, data, m, z, rfl, hd, hb, hn, ht, hk, _⟩ := open_fld hl h hw
      rcases DataW.trod_slice Try.underlying22 hk with ⟨hcs, _⟩ | ⟨a, len, cap, elems, rest, n, hfu, hcs, hx, hb, hl, hm, hlen, hel, hsp, hns⟩
      · simp only [List.cons.injEq, and_true] at hcs
        subst hcs
        exact ⟨⟨t, k, f, n, text, data, []⟩, ⟨dv, _, _, _, rfl, hd, rfl⟩, ⟨hn, hb, ht⟩, fun x hx => by cases hx⟩
      · simp only [List.cons.injEq, and_true] at hcs
        subst hcs
        exact ⟨⟨t, k, f, _, text, data, []⟩, ⟨dv, _, _, _, rfl, hd, rfl⟩, ⟨hn, by assumption, ht⟩, fun x hx => by cases hx⟩) h hw
    rw [bytes78] at h3
    exact ⟨l, h1, h2, reach_le h3⟩
  | succ d ih =>
    intro fuel v x h hw
    obtain ⟨l, h1, h2, h3⟩ := open_rowsW (elT (d + 1)) (P := NR (d + 2)) Try.underlying22 (by rw [cells78]; rfl) (by rw [elT_sz]; decide) (fun n cs y hl h hw => by
      obtain ⟨t, k, f, n, text, dv, kv, data, m, z, rfl, hd, hb, hn, ht, hk, hkw⟩ := open_fld (by rw [hl, elT_sz]) h hw
      obtain ⟨kids, k1, k2, k3⟩ := ih hk hkw
      exact ⟨⟨t, k, f, n, text, data, kids⟩, ⟨dv, kv, rfl, hd, k1, k3⟩, ⟨hn, hb, ht⟩, k2⟩) h hw
    rw [bytes78] at h3
    exact ⟨l, h1, h2, reach_le h3⟩
end
end Go.Proofs.Ytgijhgonpgidiaa
