/-
  'append([]byte(nil), data...)' as a law for the walk: the same bytes in new memory. No statement of the seat is proved here.
-/
import Derived.Test.YtgijhgonpgidiaaCopy
namespace Go.Proofs.Ytgijhgonpgidiaa
open Go.RowKit Go.Proofs.YtgijhgonpgidiaaW.PrintWords

theorem dup_run {W : World} {ok : Nat → Prop} {dv : Value} {data : List Int} (ty : TypeId) (hS : Sl ok W dv data) (hl : data.length ≤ 140737488355328) :
    ∃ A c w1, (Builtin.append_ #[28, 28] ty #[.slice none 0 0, dv]).run Try.prog W = .ok (.slice A data.length c) w1 ∧ Sl (fun k => W.heap.size ≤ k) w1 (.slice A data.length c) data ∧ Below W.heap.size W w1 := by
  obtain ⟨i0, hi, hz0, hz1, hz2⟩ := info_parts info5
  obtain ⟨A, c, rfl, hlc, hc, hr⟩ := hS
  rcases A with _ | ad
  · have h0 : data.length = 0 := by
      rcases Nat.eq_zero_or_pos data.length with h0 | h0
      · exact h0
      · obtain ⟨b, off, h, _⟩ := hr h0
        cases h
    obtain rfl : data = [] := List.eq_nil_of_length_eq_zero h0
    refine ⟨none, 0, W, ?_, Sl.nil _ _, Below.refl _ _⟩
    simp [Builtin.append_, run_underlying Try.underlying28, sizeOf, typeInfo, hi, Builtin.lenOf, Builtin.firstCells]
  · have hcells : ∀ j u, (nums .u8 data)[j]? = some u → W.cell? (ad.add j) = some u := by
      intro j u hu
      have hj : j < data.length := by
        rcases Nat.lt_or_ge j data.length with h | h
        · exact h
        · simp [nums, List.getElem?_eq_none h] at hu
      obtain ⟨b, off, h', _, hc'⟩ := hr (by omega)
      simp only [Option.some.injEq] at h'
      subst h'
      have ha : (⟨b, off, none⟩ : Addr).add j = ⟨b, off + j, none⟩ := by unfold Addr.add; split <;> simp_all
      rw [ha, hc' j hj]
      refine Eq.trans ?_ hu
      simp [nums, List.getElem?_eq_getElem hj, List.getD_eq_getElem?_getD]
    obtain ⟨v1, w1, hrun, hown, hg, _, _⟩ := run_append_own_at (P := Try.prog) W W.heap.size 28 ty 5 i0 (.int .u8 0) 1 1 Try.underlying28 hi hz0 hz1 hz2 rfl (by omega) (.slice none 0 0) 0 [] (own_nil _ _ _ _) ad data.length c (nums .u8 data) (by simp [nums]) hcells
      (by intro u hu; simp only [nums, List.mem_map] at hu; obtain ⟨q, _, rfl⟩ := hu; rfl) (by simp only [maxLen]; omega) (by omega) (Nat.le_refl _)
    rw [Nat.zero_add, List.nil_append] at hown
    obtain ⟨A1, c1, rfl⟩ := own_slice hown
    refine ⟨A1, c1, w1, hrun, Sl.of_own hown fun k hk => own_base hown k hk, (Below.refl _ _).grown hg (Nat.le_refl _) fun k hk => by simp [Value.ownBlock] at hk⟩
section
variable {W : World} {ok : Nat → Prop} {dv : Value} {data : List Int} {ops : Array Oper} {o : Oper} {a : Act} {Q : Exit → Act → World → Prop}
theorem dup_list {rest : List Oper} (hS : Sl ok W dv data) (hl : data.length ≤ 140737488355328) (hgd : o.guard = none) (s x : Operand) (ho : o.op = .call { callee := .builtin .append, args := #[s, x], argTypes := #[28, 28] })
    (hs : a.eval s = .slice none 0 0) (hx : a.eval x = dv) (h : ∀ A c w1, Hid (Sl (fun k => W.heap.size ≤ k) w1 (.slice A data.length c) data ∧ Below W.heap.size W w1) → wpList Try.prog ops Q rest (a.put o.dst (.slice A data.length c)) w1) :
    wpList Try.prog ops Q (o :: rest) a W := by
  obtain ⟨A, c, w1, hrun, h1, h2⟩ := dup_run o.type hS hl
  refine wpList_plain hgd fun K hK => ?_
  unfold Oper.wp
  simp [execOp, ho, resolve, invoke, builtin, hs, hx, hrun, Result.andThen]
  exact hK _ _ (h A c w1 ⟨h1, h2⟩)
theorem dup_step {K : Act → World → Prop} {E : Prop} (hS : Sl ok W dv data) (hl : data.length ≤ 140737488355328) (hw : Region.wanted o (yielded ops a.tmps) = true) (s x : Operand) (ho : o.op = .call { callee := .builtin .append, args := #[s, x], argTypes := #[28, 28] })
    (hs : a.eval s = .slice none 0 0) (hx : a.eval x = dv) (h : ∀ A c w1, Hid (Sl (fun k => W.heap.size ≤ k) w1 (.slice A data.length c) data ∧ Below W.heap.size W w1) → K (a.put o.dst (.slice A data.length c)) w1) :
    if Region.wanted o (yielded ops a.tmps) = true then Oper.wp Try.prog o a W K Q else E := by
  obtain ⟨A, c, w1, hrun, h1, h2⟩ := dup_run o.type hS hl
  rw [if_pos hw]
  unfold Oper.wp
  simp [execOp, ho, resolve, invoke, builtin, hs, hx, hrun, Result.andThen]
  exact h A c w1 ⟨h1, h2⟩
end
end Go.Proofs.Ytgijhgonpgidiaa
