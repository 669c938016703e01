/-
  The builtin copy onto a block of bytes, as a law for the walk. No statement of the seat is proved here.
-/
import Derived.Test.YtgijhgonpgidiaaEnc
import Derived.Laws.CopyOwn
import Derived.Deep.RegionLaw
namespace Go.Proofs.Ytgijhgonpgidiaa
open Go.RowKit Go.Proofs.YtgijhgonpgidiaaW.PrintWords

theorem Buf.sets {g : Nat} (ys : List Int) : ∀ {w : World} {xs : List Int} (off : Nat), Buf w g xs → Buf (w.setCells g off (nums .u8 ys)) g (wr xs off ys) := by
  induction ys with
  | nil => intro w xs off h; exact h
  | cons y ys ih => intro w xs off h; exact ih (off + 1) (h.set off y)
theorem grown_sets (w : World) (g off : Nat) (vs : List Value) : w.grownBy (w.setCells g off vs) (some g) := by
  obtain ⟨h1, h2, h3, h4⟩ := setCells_same g vs off w
  exact ⟨h1, h2, h3, by rw [h4]; exact Nat.le_refl _, fun k _ hk => setCells_far vs off k (fun e => hk (by rw [e]))⟩
theorem copy_run {w : World} {ok : Nat → Prop} {g off dLen dCap : Nat} {dp : Option Addr} {sv : Value} {xs ys : List Int} (hS : Sl ok w sv ys) (hB : Buf w g xs) (hx : off + ys.length ≤ xs.length) (hfit : ys.length ≤ dLen)
    (hdp : 0 < ys.length → dp = some ⟨g, off, none⟩) : ∃ w', (Builtin.copy_ #[28, 28] 3 #[.slice dp dLen dCap, sv]).run Try.prog w = .ok (goInt ys.length) w' ∧ Buf w' g (wr xs off ys) ∧ w.grownBy w' (some g) := by
  obtain ⟨A, c, rfl, hl, hc, hr⟩ := hS
  have hsz : (Try.prog.info? 5).map (·.size) = some 1 := by
    obtain ⟨i0, hi, _, hz1, _⟩ := info_parts info5
    rw [hi]; simp [hz1]
  by_cases h0 : ys.length = 0
  · obtain rfl : ys = [] := List.eq_nil_of_length_eq_zero h0
    exact ⟨w, run_copy_none (P := Try.prog) w 28 28 3 5 dp A dLen dCap _ c Try.underlying28 hsz (by simp), hB, grown_refl _ _⟩
  · obtain ⟨b, o', rfl, _, hcell⟩ := hr (by omega)
    have := hdp (by omega)
    subst this
    refine ⟨_, run_copy_cells (P := Try.prog) w 28 28 3 5 g off dLen dCap ⟨b, o', none⟩ ys.length c (nums .u8 ys) Try.underlying28 hsz (by rw [nums_length]; exact (Nat.min_eq_left hfit).symm) (fun j v hv => ?_) (fun j hj => ?_) (fun j _ => hB.free _) ?_ |>.trans ?_, hB.sets ys off, grown_sets _ _ _ _⟩
    · have hj : j < ys.length := by
        rcases Nat.lt_or_ge j ys.length with h | h
        · exact h
        · rw [List.getElem?_eq_none (by rw [nums_length]; omega)] at hv; cases hv
      have ha : (⟨b, o', none⟩ : Addr).add j = ⟨b, o' + j, none⟩ := by unfold Addr.add; split <;> simp_all
      rw [ha, hcell j hj, ← hv]
      simp [nums, List.getElem?_eq_getElem hj, List.getD_eq_getElem?_getD]
    · rw [nums_length] at hj
      rw [hB.cell (off + j) (by omega)]; rfl
    · intro v hv
      simp only [nums, List.mem_map] at hv
      obtain ⟨x, _, rfl⟩ := hv
      rfl
    · rw [nums_length]
section
variable {w : World} {ok : Nat → Prop} {g off dLen dCap : Nat} {dp : Option Addr} {sv : Value} {xs ys : List Int} {ops : Array Oper} {o : Oper} {a : Act} {Q : Exit → Act → World → Prop}
theorem copy_step {K : Act → World → Prop} {E : Prop} (hS : Sl ok w sv ys) (hB : Buf w g xs) (hx : off + ys.length ≤ xs.length) (hfit : ys.length ≤ dLen)
    (hdp : 0 < ys.length → dp = some ⟨g, off, none⟩) (hw : Region.wanted o (yielded ops a.tmps) = true) (d s : Operand) (ho : o.op = .call { callee := .builtin .copy, args := #[d, s], argTypes := #[28, 28] }) (hty : o.type = 3)
    (hd : a.eval d = .slice dp dLen dCap) (hs : a.eval s = sv) (h : ∀ w', Hid (Buf w' g (wr xs off ys)) → Hid (w.grownBy w' (some g)) → K (a.put o.dst (.int .i64 ys.length)) w') :
    if Region.wanted o (yielded ops a.tmps) = true then Oper.wp Try.prog o a w K Q else E := by
  obtain ⟨w', hrun, hB', hg⟩ := copy_run (dCap := dCap) hS hB hx hfit hdp
  rw [if_pos hw]
  unfold Oper.wp
  simp [execOp, ho, hty, resolve, invoke, builtin, hd, hs, hrun, Result.andThen]
  exact h w' hB' hg
theorem copy_list {rest : List Oper} (hS : Sl ok w sv ys) (hB : Buf w g xs) (hx : off + ys.length ≤ xs.length) (hfit : ys.length ≤ dLen)
    (hdp : 0 < ys.length → dp = some ⟨g, off, none⟩) (hgd : o.guard = none) (d s : Operand) (ho : o.op = .call { callee := .builtin .copy, args := #[d, s], argTypes := #[28, 28] }) (hty : o.type = 3)
    (hd : a.eval d = .slice dp dLen dCap) (hs : a.eval s = sv) (h : ∀ w', Hid (Buf w' g (wr xs off ys)) → Hid (w.grownBy w' (some g)) → wpList Try.prog ops Q rest (a.put o.dst (.int .i64 ys.length)) w') :
    wpList Try.prog ops Q (o :: rest) a w := by
  obtain ⟨w', hrun, hB', hg⟩ := copy_run (dCap := dCap) hS hB hx hfit hdp
  refine wpList_plain hgd fun K hK => ?_
  unfold Oper.wp
  simp [execOp, ho, hty, resolve, invoke, builtin, hd, hs, hrun, Result.andThen]
  exact hK _ _ (h w' hB' hg)
end
end Go.Proofs.Ytgijhgonpgidiaa
