/-
  Words for slices that are read and rows that are made, with the blocks that they lead to: no statement of the seat is proved here.
-/
import Derived.Test.YtgijhgonpgidiaaProg
import Derived.Test.YtgijhgonpgidiaaWWords
import Derived.WalkKit
import Derived.WalkSpells
import Derived.WalkLawsBesides
import Derived.RegionTactic
import Derived.ChangeAlike
import Derived.StillTailTactics
import Derived.Lib.Hide
namespace Go.Proofs.Ytgijhgonpgidiaa
open Go.RowKit Go.Proofs.YtgijhgonpgidiaaW.PrintWords

/-! ### A slice of bytes that is read -/
/-- A slice of bytes that is read: its bytes lie in a block that 'ok' lets in. -/
def Sl (ok : Nat → Prop) (w : World) (v : Value) (xs : List Int) : Prop :=
  ∃ A c, v = .slice A xs.length c ∧ xs.length ≤ c ∧ c ≤ 9223372036854775807 ∧
    (0 < xs.length → ∃ b off, A = some ⟨b, off, none⟩ ∧ ok b ∧ ∀ j, j < xs.length → w.cell? ⟨b, off + j, none⟩ = some (.int .u8 (xs.getD j 0)))

section
variable {ok ok' : Nat → Prop} {w w1 : World} {v : Value} {xs : List Int}
theorem Sl.nil (ok : Nat → Prop) (w : World) : Sl ok w (.slice none 0 0) [] := ⟨none, 0, rfl, Nat.le_refl _, by omega, fun h => absurd h (by simp)⟩
theorem Sl.mono (h : Sl ok w v xs) (hk : ∀ k, ok k → ok' k) : Sl ok' w v xs := by
  obtain ⟨A, c, hv, hl, hc, hr⟩ := h
  refine ⟨A, c, hv, hl, hc, fun h0 => ?_⟩
  obtain ⟨b, off, hA, hb, hc⟩ := hr h0
  exact ⟨b, off, hA, hk b hb, hc⟩
theorem Sl.bound (h : Sl ok w v xs) : Sl (fun k => ok k ∧ k < w.heap.size) w v xs := by
  obtain ⟨A, c, hv, hl, hc, hr⟩ := h
  refine ⟨A, c, hv, hl, hc, fun h0 => ?_⟩
  obtain ⟨b, off, hA, hb, hc⟩ := hr h0
  exact ⟨b, off, hA, ⟨hb, World.block_lt_of_cell? w _ (hc 0 h0)⟩, hc⟩
theorem Sl.step (h : Sl ok w v xs) (hm : ∀ k, ok k → k < w.heap.size → w1.heap[k]? = w.heap[k]?) : Sl ok w1 v xs := by
  obtain ⟨A, c, hv, hl, hc, hr⟩ := h
  refine ⟨A, c, hv, hl, hc, fun h0 => ?_⟩
  obtain ⟨b, off, hA, hb, hc⟩ := hr h0
  have hlt : b < w.heap.size := World.block_lt_of_cell? w _ (hc 0 h0)
  exact ⟨b, off, hA, hb, fun j hj => (World.cell?_of_block (hm b hb hlt)).trans (hc j hj)⟩
theorem Sl.below (h : Sl ok w v xs) (hb : Below w.heap.size w w1) : Sl ok w1 v xs := h.step fun k _ hk => hb.block k hk
theorem Sl.form (h : Sl ok w v xs) : ∃ A c, v = .slice A xs.length c ∧ xs.length ≤ c ∧ c ≤ 9223372036854775807 ∧ ReadsInt w .u8 A xs.length xs := by
  obtain ⟨A, c, hv, hl, hc, hr⟩ := h
  refine ⟨A, c, hv, hl, hc, rfl, by omega, fun h0 => ?_⟩
  obtain ⟨b, off, hA, hb, hc⟩ := hr h0
  refine ⟨⟨b, off, none⟩, hA, fun j hj => ?_⟩
  have : (⟨b, off, none⟩ : Addr).add j = ⟨b, off + j, none⟩ := by unfold Addr.add; split <;> simp_all
  rw [this]; exact hc j hj
/-- Not empty: where it lies. -/
theorem Sl.at_ (h : Sl ok w v xs) (h0 : 0 < xs.length) : ∃ b off c, v = .slice (some ⟨b, off, none⟩) xs.length c ∧ xs.length ≤ c ∧ c ≤ 9223372036854775807 ∧ ok b ∧ b < w.heap.size ∧ ∀ j, j < xs.length → w.cell? ⟨b, off + j, none⟩ = some (.int .u8 (xs.getD j 0)) := by
  obtain ⟨A, c, hv, hl, hc, hr⟩ := h
  obtain ⟨b, off, rfl, hb, hc'⟩ := hr h0
  exact ⟨b, off, c, hv, hl, hc, hb, World.block_lt_of_cell? w _ (hc' 0 h0), hc'⟩
theorem Sl.len (h : Sl ok w v xs) : xs.length ≤ 9223372036854775807 := by obtain ⟨A, c, hv, hl, hc, hr⟩ := h; omega
theorem Sl.of_own {base : Nat} (h : w.ownsRow base 5 1 v xs.length (nums .u8 xs)) (hk : ∀ k, v.ownBlock = some k → ok k) : Sl ok w v xs := by
  rcases h.2 with ⟨rfl, h0⟩ | ⟨g, cap, cur, rfl, hg, hh, hn, hm, hs, ht⟩
  · have : xs = [] := List.eq_nil_of_length_eq_zero h0
    subst this
    exact Sl.nil ok w
  · refine ⟨_, cap, rfl, hn, by simpa [maxLen] using hm, fun h0 => ⟨g, 0, rfl, hk g rfl, fun j hj => ?_⟩⟩
    have hc := h.cells (g := g) rfl j (.int .u8 (xs.getD j 0)) (by simp [nums, List.getElem?_eq_getElem hj, List.getD_eq_getElem?_getD])
    rw [add_plain] at hc
    rw [Nat.zero_add]; exact hc
end

/-! ### Elements of several cells -/
/-- What an element's cells say; 'ok': the blocks to which it may lead. -/
structure El (α : Type) where
  sz : Nat
  E : (Nat → Prop) → World → α → List Value → Prop
  len : ∀ {ok w x cs}, E ok w x cs → cs.length = sz
  one : ∀ {ok w x cs}, E ok w x cs → ∀ u ∈ cs, u.oneCell' = true
  mono : ∀ {ok ok' : Nat → Prop} {w x cs}, (∀ k, ok k → ok' k) → E ok w x cs → E ok' w x cs
  bound : ∀ {ok : Nat → Prop} {w : World} {x cs}, E ok w x cs → E (fun k => ok k ∧ k < w.heap.size) w x cs
  step : ∀ {ok : Nat → Prop} {w w1 : World} {x cs}, (∀ k, ok k → k < w.heap.size → w1.heap[k]? = w.heap[k]?) → E ok w x cs → E ok w1 x cs

namespace El
variable {α : Type}
/-- A slice of such elements that is read. -/
def Rd (d : El α) (ok : Nat → Prop) (w : World) (v : Value) (xs : List α) : Prop :=
  ∃ A c, v = .slice A xs.length c ∧ xs.length ≤ c ∧ c ≤ 9223372036854775807 ∧
    (0 < xs.length → ∃ b off, A = some ⟨b, off, none⟩ ∧ ok b ∧ ∀ i x, xs[i]? = some x → ∃ cs, (∀ j u, cs[j]? = some u → w.cell? ⟨b, off + (i * d.sz + j), none⟩ = some u) ∧ b < w.heap.size ∧ d.E ok w x cs)
/-- A row of such elements that the call has made. -/
def Ow (d : El α) (e : Nat) (ok : Nat → Prop) (w : World) (base : Nat) (v : Value) (xs : List α) : Prop :=
  (∀ k, v.ownBlock = some k → ok k) ∧ OwnRow (d.E (fun k => ok k ∧ some k ≠ v.ownBlock) w) e d.sz w base v xs

variable {d : El α} {e : Nat} {ok ok' : Nat → Prop} {w w1 : World} {base : Nat} {v : Value} {xs : List α}
theorem Rd.nil (d : El α) (ok : Nat → Prop) (w : World) : d.Rd ok w (.slice none 0 0) [] := ⟨none, 0, rfl, Nat.le_refl _, by omega, fun h => absurd h (by simp)⟩
theorem Rd.mono (h : d.Rd ok w v xs) (hk : ∀ k, ok k → ok' k) : d.Rd ok' w v xs := by
  obtain ⟨A, c, hv, hl, hc, hr⟩ := h
  refine ⟨A, c, hv, hl, hc, fun h0 => ?_⟩
  obtain ⟨b, off, hA, hb, hc⟩ := hr h0
  refine ⟨b, off, hA, hk b hb, fun i x hx => ?_⟩
  obtain ⟨cs, h1, h2, h3⟩ := hc i x hx
  exact ⟨cs, h1, h2, d.mono hk h3⟩
theorem Rd.bound (h : d.Rd ok w v xs) : d.Rd (fun k => ok k ∧ k < w.heap.size) w v xs := by
  obtain ⟨A, c, hv, hl, hc, hr⟩ := h
  refine ⟨A, c, hv, hl, hc, fun h0 => ?_⟩
  obtain ⟨b, off, hA, hb, hc⟩ := hr h0
  have hlt : b < w.heap.size := by
    obtain ⟨cs, h1, h2, h3⟩ := hc 0 _ (List.getElem?_eq_getElem h0)
    exact h2
  refine ⟨b, off, hA, ⟨hb, hlt⟩, fun i x hx => ?_⟩
  obtain ⟨cs, h1, h2, h3⟩ := hc i x hx
  exact ⟨cs, h1, h2, d.bound h3⟩
theorem Rd.step (h : d.Rd ok w v xs) (hm : ∀ k, ok k → k < w.heap.size → w1.heap[k]? = w.heap[k]?) : d.Rd ok w1 v xs := by
  obtain ⟨A, c, hv, hl, hc, hr⟩ := h
  refine ⟨A, c, hv, hl, hc, fun h0 => ?_⟩
  obtain ⟨b, off, hA, hb, hc⟩ := hr h0
  refine ⟨b, off, hA, hb, fun i x hx => ?_⟩
  obtain ⟨cs, h1, h2, h3⟩ := hc i x hx
  refine ⟨cs, fun j u hu => (World.cell?_of_block (hm b hb h2)).trans (h1 j u hu), ?_, d.step hm h3⟩
  have h4 := hm b hb h2
  rw [Array.getElem?_eq_getElem h2] at h4
  exact (Array.getElem?_eq_some_iff.1 h4).1
theorem Rd.below (h : d.Rd ok w v xs) (hb : Below w.heap.size w w1) : d.Rd ok w1 v xs := h.step fun k _ hk => hb.block k hk
theorem Rd.form (h : d.Rd ok w v xs) : ∃ A c, v = .slice A xs.length c ∧ xs.length ≤ c ∧ c ≤ 9223372036854775807 := by
  obtain ⟨A, c, hv, hl, hc, hr⟩ := h
  exact ⟨A, c, hv, hl, hc⟩
theorem Rd.len_ (h : d.Rd ok w v xs) : xs.length ≤ 9223372036854775807 := by obtain ⟨A, c, hv, hl, hc, hr⟩ := h; omega
/-- Not empty: where it lies. -/
theorem Rd.at_ (h : d.Rd ok w v xs) (h0 : 0 < xs.length) : ∃ b off c, v = .slice (some ⟨b, off, none⟩) xs.length c ∧ xs.length ≤ c ∧ c ≤ 9223372036854775807 ∧ ok b ∧ b < w.heap.size ∧
    ∀ i x, xs[i]? = some x → ∃ cs, (∀ j u, cs[j]? = some u → w.cell? ⟨b, off + (i * d.sz + j), none⟩ = some u) ∧ d.E ok w x cs := by
  obtain ⟨A, c, hv, hl, hc, hr⟩ := h
  obtain ⟨b, off, rfl, hb, hc'⟩ := hr h0
  obtain ⟨cs, h1, h2, h3⟩ := hc' 0 _ (List.getElem?_eq_getElem h0)
  exact ⟨b, off, c, hv, hl, hc, hb, h2, fun i x hx => let ⟨cs, h1, _, h3⟩ := hc' i x hx; ⟨cs, h1, h3⟩⟩

theorem Ow.nil (d : El α) (e : Nat) (ok : Nat → Prop) (w : World) (base : Nat) : d.Ow e ok w base (.slice none 0 0) [] := ⟨fun k hk => by simp [Value.ownBlock] at hk, OwnRow.none_ _ _ _ _ _⟩
theorem Ow.lt (h : d.Ow e ok w base v xs) : ∀ k, v.ownBlock = some k → base ≤ k ∧ k < w.heap.size := by
  obtain ⟨h0, inner, ho, hr⟩ := h
  exact fun k hk => ⟨own_base ho k hk, own_lt ho k hk⟩
theorem Ow.mono (h : d.Ow e ok w base v xs) (hk : ∀ k, ok k → ok' k) : d.Ow e ok' w base v xs :=
  ⟨fun k hk' => hk k (h.1 k hk'), h.2.imp_ fun _ _ hp => d.mono (fun k hk' => ⟨hk k hk'.1, hk'.2⟩) hp⟩
theorem Ow.bound (h : d.Ow e ok w base v xs) : d.Ow e (fun k => ok k ∧ k < w.heap.size) w base v xs := by
  have hl := h.lt
  obtain ⟨h0, h1⟩ := h
  exact ⟨fun k hk => ⟨h0 k hk, (hl k hk).2⟩, h1.imp_ fun _ _ hp => d.mono (fun k hk => ⟨⟨hk.1.1, hk.2⟩, hk.1.2⟩) (d.bound hp)⟩
theorem Ow.step (h : d.Ow e ok w base v xs) (hm : ∀ k, ok k → k < w.heap.size → w1.heap[k]? = w.heap[k]?) : d.Ow e ok w1 base v xs := by
  have hl := h.lt
  obtain ⟨h0, inner, ho, hr⟩ := h
  exact ⟨h0, inner, own_move ho (fun k hk => hm k (h0 k hk) (hl k hk).2), hr.imp_ fun _ _ hp => d.step (fun k hk => hm k hk.1) hp⟩
theorem Ow.below (h : d.Ow e ok w base v xs) (hb : Below w.heap.size w w1) : d.Ow e ok w1 base v xs := h.step fun k _ hk => hb.block k hk
theorem Ow.slice_ (h : d.Ow e ok w base v xs) : ∃ A c, v = .slice A xs.length c ∧ xs.length ≤ c := h.2.slice_
theorem Ow.lower {base' : Nat} (h : d.Ow e ok w base v xs) (hb : base' ≤ base) : d.Ow e ok w base' v xs := ⟨h.1, h.2.lower hb⟩
theorem Ow.rd (h : d.Ow e ok w base v xs) : d.Rd ok w v xs := by
  obtain ⟨h0, inner, ho, hr⟩ := h
  rcases ho.2 with ⟨rfl, hn⟩ | ⟨g, cap, cur, rfl, hg, hh, hn, hm, hs, ht⟩
  · have : xs = [] := List.eq_nil_of_length_eq_zero hn
    subst this
    exact Rd.nil d ok w
  · refine ⟨_, cap, rfl, hn, by simpa [maxLen] using hm, fun hp => ⟨g, 0, rfl, h0 g rfl, fun i x hx => ?_⟩⟩
    obtain ⟨A, c, hv, hrow⟩ := own_reads_row ho hr rfl
    injection hv with hv1 hv2 hv3
    subst hv1
    obtain ⟨ad, he, hcell⟩ := hrow.2.2 hp
    injection he with he
    subst he
    obtain ⟨c', hcl, hp', hcc⟩ := hcell i x hx
    refine ⟨c', fun j u hu => ?_, own_lt ho g rfl, d.mono (fun k hk => hk.1) hp'⟩
    have := hcc j u hu
    rw [add_plain] at this
    rw [Nat.zero_add]; exact this
end El
#print axioms El.Ow.rd
end Go.Proofs.Ytgijhgonpgidiaa
