/-
  The encoder of attributes: what its object holds, and what an append to its row leaves. No statement of the seat is proved here.
-/
import Derived.Test.YtgijhgonpgidiaaL2
namespace Go.Proofs.Ytgijhgonpgidiaa
open Go.RowKit Go.Proofs.YtgijhgonpgidiaaW.PrintWords

/-! ### append to a row that the call has made -/
section
variable {P : Program} {ops : Array Oper} {rest : List Oper} {o : Oper} {a : Act} {Q : Exit → Act → World → Prop} {α : Type} {ok : Nat → Prop}
theorem El.Ow.appended (d : El α) {W w1 : World} {base : Nat} {e : Nat} {v v1 : Value} {ps : List α} {p : α} (HO : d.Ow e ok W base v ps)
    (hnew : ∀ k, W.heap.size ≤ k → ok k) (hg : W.grownBy w1 v.ownBlock) (hat : v1.ownBlock = v.ownBlock ∨ ∃ b, v1.ownBlock = some b ∧ W.heap.size ≤ b)
    (hown : OwnRow (d.E (fun k => (ok k ∧ some k ≠ v.ownBlock) ∧ k < W.heap.size) W) e d.sz w1 base v1 (ps ++ [p])) : d.Ow e ok w1 base v1 (ps ++ [p]) := by
  refine ⟨fun k hk => ?_, hown.imp_ fun x c hx => ?_⟩
  · rcases hat with hat | ⟨b, hb, hle⟩
    · exact HO.1 k (hat ▸ hk)
    · rw [hb] at hk
      injection hk with hk
      exact hnew k (by omega)
  · have h1 := d.step (w1 := w1) (fun k hk hlt => hg.block k hlt hk.1.2) hx
    refine d.mono (fun k hk => ⟨hk.1.1, ?_⟩) h1
    rcases hat with hat | ⟨b, hb, hle⟩
    · rw [hat]; exact hk.1.2
    · rw [hb]
      intro he
      injection he with he
      have := hk.2
      omega
theorem El.Ow.append (d : El α) {W : World} (base : Nat) (hgd : o.guard = none) (s x : Operand) (t e : TypeId) (z : Value) (bytes : Nat)
    (ho : o.op = .call { callee := .builtin .append, args := #[s, x], argTypes := #[t, t] })
    (ht : P.underlying t = some (.slice e)) (hinfo : (P.info? e).map (fun i => (i.zero, i.size, i.bytes)) = some (some z, d.sz, bytes)) (hz : z.cells.size = d.sz) (hs0 : 0 < d.sz) (hb0 : 0 < bytes)
    (v : Value) (ps : List α) (p : α) (cs : List Value) (hs : a.eval s = v) (H : Nat) (hH : W.heap.size = H) (hx : a.eval x = .slice (some ⟨H, 0, none⟩) 1 1) (hp : d.E (fun k => ok k ∧ some k ≠ v.ownBlock) W p cs)
    (HO : d.Ow e ok W base v ps) (hbase : base ≤ W.heap.size) (hnew : ∀ k, W.heap.size ≤ k → ok k) (hl : (ps.length + 1) * bytes ≤ 140737488355328)
    (h : ∀ v1 w1, d.Ow e ok w1 base v1 (ps ++ [p]) → W.grownBy w1 v.ownBlock → (v1.ownBlock = v.ownBlock ∨ ∃ b, v1.ownBlock = some b ∧ W.heap.size ≤ b) → wpList P ops Q rest (a.put o.dst v1) w1) :
    wpList P ops Q (o :: rest) a (W.alloc (.cells cs.toArray e)) := by
  have hbd : OwnRow (d.E (fun k => (ok k ∧ some k ≠ v.ownBlock) ∧ k < W.heap.size) W) e d.sz W base v ps := HO.2.imp_ fun _ _ hx => d.bound hx
  refine OwnRow.append (w0 := W) base hgd s x t e z d.sz bytes ho ht hinfo hz hs0 hb0 v ps p cs hs (by rw [hx, hH]) (d.bound hp) (d.len hp) (d.one hp) hbd (Below.refl _ _) hbase hl ?_
  intro v1 w1 hown _ hg hat
  exact h v1 w1 (El.Ow.appended d HO hnew hg hat hown) hg hat
theorem El.Ow.append_step {K : Act → World → Prop} (d : El α) {W : World} (base : Nat) (hw : Region.wanted o (yielded ops a.tmps) = true) (s x : Operand) (t e : TypeId) (z : Value) (bytes : Nat)
    (ho : o.op = .call { callee := .builtin .append, args := #[s, x], argTypes := #[t, t] })
    (ht : P.underlying t = some (.slice e)) (hinfo : (P.info? e).map (fun i => (i.zero, i.size, i.bytes)) = some (some z, d.sz, bytes)) (hz : z.cells.size = d.sz) (hs0 : 0 < d.sz) (hb0 : 0 < bytes)
    (v : Value) (ps : List α) (p : α) (cs : List Value) (hs : a.eval s = v) (H : Nat) (hH : W.heap.size = H) (hx : a.eval x = .slice (some ⟨H, 0, none⟩) 1 1) (hp : d.E (fun k => ok k ∧ some k ≠ v.ownBlock) W p cs)
    (HO : d.Ow e ok W base v ps) (hbase : base ≤ W.heap.size) (hnew : ∀ k, W.heap.size ≤ k → ok k) (hl : (ps.length + 1) * bytes ≤ 140737488355328)
    (h : ∀ v1 w1, d.Ow e ok w1 base v1 (ps ++ [p]) → W.grownBy w1 v.ownBlock → (v1.ownBlock = v.ownBlock ∨ ∃ b, v1.ownBlock = some b ∧ W.heap.size ≤ b) → K (a.put o.dst v1) w1) :
    if Region.wanted o (yielded ops a.tmps) = true then Oper.wp P o a (W.alloc (.cells cs.toArray e)) K Q else K (a.put o.dst undef) (W.alloc (.cells cs.toArray e)) := by
  have hbd : OwnRow (d.E (fun k => (ok k ∧ some k ≠ v.ownBlock) ∧ k < W.heap.size) W) e d.sz W base v ps := HO.2.imp_ fun _ _ hx => d.bound hx
  refine OwnRow.append_step (w0 := W) base hw s x t e z d.sz bytes ho ht hinfo hz hs0 hb0 v ps p cs hs (by rw [hx, hH]) (d.bound hp) (d.len hp) (d.one hp) hbd (Below.refl _ _) hbase hl ?_
  intro v1 w1 hown _ hg hat
  exact h v1 w1 (El.Ow.appended d HO hnew hg hat hown) hg hat
end

/-! ### The package's attributes: length (0: told by the data), type, data -/
def elA : El (Int × List Int) where
  sz := 3
  E ok w x cs := ∃ dv, cs = [.int .u16 0, .int .u16 x.1, dv] ∧ Sl ok w dv x.2
  len := by rintro ok w x cs ⟨dv, rfl, _⟩; rfl
  one := by
    rintro ok w x cs ⟨dv, rfl, h⟩ u hu
    obtain ⟨A, c, rfl, _⟩ := h
    simp only [List.mem_cons, List.not_mem_nil, or_false] at hu
    rcases hu with rfl | rfl | rfl <;> rfl
  mono := by rintro ok ok' w x cs hk ⟨dv, h, k⟩; exact ⟨dv, h, k.mono hk⟩
  bound := by rintro ok w x cs ⟨dv, h, k⟩; exact ⟨dv, h, k.bound⟩
  step := by rintro ok w w1 x cs hm ⟨dv, h, k⟩; exact ⟨dv, h, k.step hm⟩

def boV (big : Bool) : Value := if big then .iface 141 (.agg #[]) else .iface 140 (.agg #[])
theorem boV_true : boV true = .iface 141 (.agg #[]) := rfl
theorem boV_false : boV false = .iface 140 (.agg #[]) := rfl

theorem info102 : (Try.prog.info? 102).map (fun i => (i.zero, i.size, i.bytes)) = some (some (.agg #[.int .u16 0, .int .u16 0, .slice none 0 0]), 3, 32) := by kernel_rfl
theorem info5 : (Try.prog.info? 5).map (fun i => (i.zero, i.size, i.bytes)) = some (some (.int .u8 0), 1, 1) := by kernel_rfl

/-- Block g is an encoder without an error, in an order of bytes, with these attributes; what it leads to lies from 'base' on. -/
def Enc (w : World) (base g : Nat) (big : Bool) (l : List (Int × List Int)) : Prop :=
  ∃ v, w.heap[g]? = some (.cells #[boV big, v, .nilIface] 91 (0, 0)) ∧ base ≤ g ∧ elA.Ow 102 (fun k => base ≤ k ∧ k ≠ g) w base v l

theorem Enc.below {w w1 : World} {base g : Nat} {big : Bool} {l : List (Int × List Int)} (h : Enc w base g big l) (hb : Below w.heap.size w w1) : Enc w1 base g big l := by
  obtain ⟨v, h1, h2, h3⟩ := h
  exact ⟨v, blk_below h1 hb, h2, h3.below hb⟩
/-- What the last steps of an encoder's method leave: W: the world before the box of the new attribute, w1: behind the append. -/
theorem Enc.appended {w W w1 : World} {base g : Nat} {big : Bool} {l : List (Int × List Int)} {p : Int × List Int} {v v1 : Value} (h1 : w.heap[g]? = some (.cells #[boV big, v, .nilIface] 91 (0, 0))) (h2 : base ≤ g)
    (hW : Below w.heap.size w W) (hb : base ≤ w.heap.size) (hO : elA.Ow 102 (fun k => base ≤ k ∧ k ≠ g) W base v l) (hO1 : elA.Ow 102 (fun k => base ≤ k ∧ k ≠ g) w1 base v1 (l ++ [p])) (hg : W.grownBy w1 v.ownBlock) :
    Enc (w1.setCell ⟨g, 1, none⟩ v1) base g big (l ++ [p]) ∧ Below base w (w1.setCell ⟨g, 1, none⟩ v1) := by
  have hWg : W.heap[g]? = some (.cells #[boV big, v, .nilIface] 91 (0, 0)) := blk_below h1 hW
  have hne : some g ≠ v.ownBlock := fun he => (hO.1 g he.symm).2 rfl
  have hg1 : w1.heap[g]? = some (.cells #[boV big, v, .nilIface] 91 (0, 0)) := blk_grown hWg hg hne
  refine ⟨⟨v1, ?_, h2, hO1.step fun k hk _ => Below.heap_setCell _ _ _ _ hk.2⟩, ?_⟩
  · have := blk_set hg1 1 v1
    simpa using this
  · have hB : Below base w W := hW.mono hb
    exact (hB.grown hg (Nat.le_trans hb hW.size) fun k hk => (hO.lt k hk).1).setCell h2 _

/-- The new attribute's cells, its data in memory that is newer than w. -/
theorem Enc.part {w W : World} {base g : Nat} {l : List (Int × List Int)} {v dv : Value} {t : Int} {data : List Int} (hlt : g < w.heap.size) (hb : base ≤ w.heap.size) (hO : elA.Ow 102 (fun k => base ≤ k ∧ k ≠ g) w base v l)
    (hd : Sl (fun k => w.heap.size ≤ k) W dv data) : elA.E (fun k => (base ≤ k ∧ k ≠ g) ∧ some k ≠ v.ownBlock) W (t, data) [.int .u16 0, .int .u16 t, dv] :=
  ⟨dv, rfl, hd.mono fun k hk => ⟨⟨by omega, by omega⟩, fun he => by have := (hO.lt k he.symm).2; omega⟩⟩
theorem Sl.lit (w : World) (xs : List Int) (hl : xs.length ≤ 9223372036854775807) : Sl (fun k => w.heap.size ≤ k) (w.alloc (.cells (nums .u8 xs).toArray 5)) (.slice (some ⟨w.heap.size, 0, none⟩) xs.length xs.length) xs :=
  Sl.of_own (base := w.heap.size) (own_lit w w.heap.size 5 .u8 xs (Nat.le_refl _) hl) fun k hk => by
    have : w.heap.size = k := by simpa [Value.ownBlock] using hk
    omega

/-- The append of an encoder's method: W the world ahead of the new attribute's box, its data in memory that is newer than w. -/
theorem Enc.law2 {w W : World} {base g : Nat} {big : Bool} {l : List (Int × List Int)} {v dv : Value} {t : Int} {data : List Int} {ops : Array Oper} {rest : List Oper} {o : Oper} {a : Act} {Q : Exit → Act → World → Prop}
    (h1 : w.heap[g]? = some (.cells #[boV big, v, .nilIface] 91 (0, 0))) (h2 : base ≤ g) (h3 : elA.Ow 102 (fun k => base ≤ k ∧ k ≠ g) w base v l) (hb : base ≤ w.heap.size) (hW : Below w.heap.size w W)
    (hd : Sl (fun k => (base ≤ k ∧ k ≠ g) ∧ some k ≠ v.ownBlock) W dv data) (hl : l.length < 1000000)
    (hgd : o.guard = none) (s x : Operand) (ho : o.op = .call { callee := .builtin .append, args := #[s, x], argTypes := #[87, 87] })
    (hs : a.eval s = v) (H : Nat) (hH : W.heap.size = H) (hx : a.eval x = .slice (some ⟨H, 0, none⟩) 1 1)
    (h : ∀ A c w1, w1.cell? ⟨g, 1, none⟩ = some v → w1.frozen? ⟨g, 1, none⟩ = false → Hid (Enc (w1.setCell ⟨g, 1, none⟩ (.slice A (l.length + 1) c)) base g big (l ++ [(t, data)]) ∧ Below base w (w1.setCell ⟨g, 1, none⟩ (.slice A (l.length + 1) c))) →
      wpList Try.prog ops Q rest (a.put o.dst (.slice A (l.length + 1) c)) w1) :
    wpList Try.prog ops Q (o :: rest) a (W.alloc (.cells #[.int .u16 0, .int .u16 t, dv] 102)) := by
  have hlt := blk_lt h1
  have hO := h3.below hW
  refine El.Ow.append elA (W := W) base hgd s x 87 102 _ 32 ho Try.underlying87 info102 rfl (by decide) (by decide) v l (t, data) [.int .u16 0, .int .u16 t, dv] hs H hH hx ⟨dv, rfl, hd⟩ hO (Nat.le_trans hb hW.size)
    (fun k hk => by have := hW.size; omega) (by omega) ?_
  intro v1 w1 hO1 hg hat
  obtain ⟨A, c, rfl, _⟩ := hO1.slice_
  have hlen : (l ++ [(t, data)]).length = l.length + 1 := by simp
  rw [hlen] at hO1 ⊢
  have hg1 := blk_grown (blk_below h1 hW) hg (fun he => (h3.1 g he.symm).2 rfl)
  exact h A c w1 (blk_cell hg1 1) (blk_frozen hg1 1) (Lib.hid (Enc.appended h1 h2 hW hb hO hO1 hg))
theorem Enc.law {w W : World} {base g : Nat} {big : Bool} {l : List (Int × List Int)} {v dv : Value} {t : Int} {data : List Int} {ops : Array Oper} {rest : List Oper} {o : Oper} {a : Act} {Q : Exit → Act → World → Prop}
    (h1 : w.heap[g]? = some (.cells #[boV big, v, .nilIface] 91 (0, 0))) (h2 : base ≤ g) (h3 : elA.Ow 102 (fun k => base ≤ k ∧ k ≠ g) w base v l) (hb : base ≤ w.heap.size) (hW : Below w.heap.size w W)
    (hd : Sl (fun k => w.heap.size ≤ k) W dv data) (hl : l.length < 1000000)
    (hgd : o.guard = none) (s x : Operand) (ho : o.op = .call { callee := .builtin .append, args := #[s, x], argTypes := #[87, 87] })
    (hs : a.eval s = v) (H : Nat) (hH : W.heap.size = H) (hx : a.eval x = .slice (some ⟨H, 0, none⟩) 1 1)
    (h : ∀ A c w1, w1.cell? ⟨g, 1, none⟩ = some v → w1.frozen? ⟨g, 1, none⟩ = false → Hid (Enc (w1.setCell ⟨g, 1, none⟩ (.slice A (l.length + 1) c)) base g big (l ++ [(t, data)]) ∧ Below base w (w1.setCell ⟨g, 1, none⟩ (.slice A (l.length + 1) c))) →
      wpList Try.prog ops Q rest (a.put o.dst (.slice A (l.length + 1) c)) w1) :
    wpList Try.prog ops Q (o :: rest) a (W.alloc (.cells #[.int .u16 0, .int .u16 t, dv] 102)) := by
  have hlt := blk_lt h1
  exact Enc.law2 h1 h2 h3 hb hW (hd.mono fun k hk => ⟨⟨by omega, by omega⟩, fun he => by have := (h3.lt k he.symm).2; omega⟩) hl hgd s x ho hs H hH hx h

/-- The same as a step of a region that draws: W the world ahead of the new attribute's box, its data in memory that is newer than w. -/
theorem Enc.law_step2 {w W : World} {base g : Nat} {big : Bool} {l : List (Int × List Int)} {v dv : Value} {t : Int} {data : List Int} {ops : Array Oper} {o : Oper} {K : Act → World → Prop} {a : Act} {Q : Exit → Act → World → Prop}
    (h1 : w.heap[g]? = some (.cells #[boV big, v, .nilIface] 91 (0, 0))) (h2 : base ≤ g) (h3 : elA.Ow 102 (fun k => base ≤ k ∧ k ≠ g) w base v l) (hb : base ≤ w.heap.size) (hW : Below w.heap.size w W)
    (hd : Sl (fun k => (base ≤ k ∧ k ≠ g) ∧ some k ≠ v.ownBlock) W dv data) (hl : l.length < 1000000)
    (hw : Region.wanted o (yielded ops a.tmps) = true) (s x : Operand) (ho : o.op = .call { callee := .builtin .append, args := #[s, x], argTypes := #[87, 87] })
    (hs : a.eval s = v) (H : Nat) (hH : W.heap.size = H) (hx : a.eval x = .slice (some ⟨H, 0, none⟩) 1 1)
    (h : ∀ A c w1, w1.cell? ⟨g, 1, none⟩ = some v → w1.frozen? ⟨g, 1, none⟩ = false → Hid (Enc (w1.setCell ⟨g, 1, none⟩ (.slice A (l.length + 1) c)) base g big (l ++ [(t, data)]) ∧ Below base w (w1.setCell ⟨g, 1, none⟩ (.slice A (l.length + 1) c))) →
      K (a.put o.dst (.slice A (l.length + 1) c)) w1) :
    if Region.wanted o (yielded ops a.tmps) = true then Oper.wp Try.prog o a (W.alloc (.cells #[.int .u16 0, .int .u16 t, dv] 102)) K Q else K (a.put o.dst undef) (W.alloc (.cells #[.int .u16 0, .int .u16 t, dv] 102)) := by
  have hlt := blk_lt h1
  have hO := h3.below hW
  refine El.Ow.append_step elA (W := W) base hw s x 87 102 _ 32 ho Try.underlying87 info102 rfl (by decide) (by decide) v l (t, data) [.int .u16 0, .int .u16 t, dv] hs H hH hx ⟨dv, rfl, hd⟩ hO (Nat.le_trans hb hW.size)
    (fun k hk => by have := hW.size; omega) (by omega) ?_
  intro v1 w1 hO1 hg hat
  obtain ⟨A, c, rfl, _⟩ := hO1.slice_
  have hlen : (l ++ [(t, data)]).length = l.length + 1 := by simp
  rw [hlen] at hO1 ⊢
  have hg1 := blk_grown (blk_below h1 hW) hg (fun he => (h3.1 g he.symm).2 rfl)
  exact h A c w1 (blk_cell hg1 1) (blk_frozen hg1 1) (Lib.hid (Enc.appended h1 h2 hW hb hO hO1 hg))
theorem Enc.law_step {w W : World} {base g : Nat} {big : Bool} {l : List (Int × List Int)} {v dv : Value} {t : Int} {data : List Int} {ops : Array Oper} {o : Oper} {K : Act → World → Prop} {a : Act} {Q : Exit → Act → World → Prop}
    (h1 : w.heap[g]? = some (.cells #[boV big, v, .nilIface] 91 (0, 0))) (h2 : base ≤ g) (h3 : elA.Ow 102 (fun k => base ≤ k ∧ k ≠ g) w base v l) (hb : base ≤ w.heap.size) (hW : Below w.heap.size w W)
    (hd : Sl (fun k => w.heap.size ≤ k) W dv data) (hl : l.length < 1000000)
    (hw : Region.wanted o (yielded ops a.tmps) = true) (s x : Operand) (ho : o.op = .call { callee := .builtin .append, args := #[s, x], argTypes := #[87, 87] })
    (hs : a.eval s = v) (H : Nat) (hH : W.heap.size = H) (hx : a.eval x = .slice (some ⟨H, 0, none⟩) 1 1)
    (h : ∀ A c w1, w1.cell? ⟨g, 1, none⟩ = some v → w1.frozen? ⟨g, 1, none⟩ = false → Hid (Enc (w1.setCell ⟨g, 1, none⟩ (.slice A (l.length + 1) c)) base g big (l ++ [(t, data)]) ∧ Below base w (w1.setCell ⟨g, 1, none⟩ (.slice A (l.length + 1) c))) →
      K (a.put o.dst (.slice A (l.length + 1) c)) w1) :
    if Region.wanted o (yielded ops a.tmps) = true then Oper.wp Try.prog o a (W.alloc (.cells #[.int .u16 0, .int .u16 t, dv] 102)) K Q else K (a.put o.dst undef) (W.alloc (.cells #[.int .u16 0, .int .u16 t, dv] 102)) := by
  have hlt := blk_lt h1
  exact Enc.law_step2 h1 h2 h3 hb hW (hd.mono fun k hk => ⟨⟨by omega, by omega⟩, fun he => by have := (h3.lt k he.symm).2; omega⟩) hl hw s x ho hs H hH hx h

theorem Enc.open_ {w : World} {base g : Nat} {big : Bool} {l : List (Int × List Int)} (h : Enc w base g big l) : ∃ v, w.cell? ⟨g, 0, none⟩ = some (boV big) ∧ w.cell? ⟨g, 1, none⟩ = some v ∧ w.cell? ⟨g, 2, none⟩ = some .nilIface ∧ g < w.heap.size ∧ base ≤ g ∧
    Hid (w.heap[g]? = some (.cells #[boV big, v, .nilIface] 91 (0, 0))) ∧ Hid (elA.Ow 102 (fun k => base ≤ k ∧ k ≠ g) w base v l) := by
  obtain ⟨v, h1, h2, h3⟩ := h
  exact ⟨v, blk_cell h1 0, blk_cell h1 1, blk_cell h1 2, blk_lt h1, h2, Lib.hid h1, Lib.hid h3⟩
end Go.Proofs.Ytgijhgonpgidiaa
