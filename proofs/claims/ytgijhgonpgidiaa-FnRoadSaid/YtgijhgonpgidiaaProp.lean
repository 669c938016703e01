/-
  Proper fields, as the law asks for them, in plain Lean. No statement of the seat is proved here.
-/
import Derived.Test.YtgijhgonpgidiaaPrN
import Derived.Test.YtgijhgonpgidiaaFldr
namespace Go.Proofs.Ytgijhgonpgidiaa
open Go.RowKit Go.Proofs.YtgijhgonpgidiaaW.PrintWords

/-- A proper field, nested at most d deep, with nothing that its kind does not have. -/
def PR : Nat → Fld → Prop
  | 0, _ => False
  | d + 1, f => (0 ≤ f.ty ∧ f.ty < 16384) ∧ f.fl = 0 ∧ (0 ≤ f.kind ∧ f.kind ≤ 11) ∧ (f.kind ≠ 8 → f.text = ⟨#[]⟩) ∧ (f.kind ≠ 9 → f.data = []) ∧ (f.kind ≠ 11 → f.kids = []) ∧ (7 < f.kind → f.kind ≠ 10 → f.n = 0) ∧
      (f.kind = 8 → txOk f.text = true) ∧ (f.kind = 9 → f.data.length ≤ 100) ∧ numOk f.kind f.n ∧ (f.kind = 11 → f.kids.length ≤ 10 ∧ ∀ x ∈ f.kids, PR d x)
/-- Numbers of 64 bits and bytes, so deep. -/
def NR : Nat → Fld → Prop
  | 0, f => (-9223372036854775808 ≤ f.n ∧ f.n < 9223372036854775808) ∧ IsB f.data ∧ f.text.size ≤ 9223372036854775807
  | d + 1, f => ((-9223372036854775808 ≤ f.n ∧ f.n < 9223372036854775808) ∧ IsB f.data ∧ f.text.size ≤ 9223372036854775807) ∧ ∀ x ∈ f.kids, NR d x
theorem NR.here {d : Nat} {f : Fld} (h : NR d f) : (-9223372036854775808 ≤ f.n ∧ f.n < 9223372036854775808) ∧ IsB f.data ∧ f.text.size ≤ 9223372036854775807 := by
  cases d with
  | zero => exact h
  | succ d => exact h.1
theorem NR.kids_ {d e : Nat} {f : Fld} (h : NR d f) (he : d = e + 1) : ∀ x ∈ f.kids, NR e x := by
  subst he
  exact h.2
theorem empty_size : (⟨#[]⟩ : ByteArray).size = 0 := rfl
theorem PR.size_ {d : Nat} {f : Fld} (h : PR (d + 1) f) : f.text.size ≤ 100 ∧ f.data.length ≤ 100 ∧ f.kids.length ≤ 10 := by
  obtain ⟨h1, h2, h3, h4, h5, h6, h7, h8, h9, h10, h11⟩ := h
  refine ⟨?_, ?_, ?_⟩
  · by_cases hk : f.kind = 8
    · have := h8 hk
      simp only [txOk, Bool.and_eq_true, decide_eq_true_eq] at this
      exact this.2
    · rw [h4 hk, empty_size]; omega
  · by_cases hk : f.kind = 9
    · exact h9 hk
    · rw [h5 hk]; simp
  · by_cases hk : f.kind = 11
    · exact (h11 hk).1
    · rw [h6 hk]; simp
theorem PR.kid {d : Nat} {f : Fld} (h : PR (d + 1) f) : ∀ x ∈ f.kids, PR d x := by
  obtain ⟨h1, h2, h3, h4, h5, h6, h7, h8, h9, h10, h11⟩ := h
  by_cases hk : f.kind = 11
  · exact (h11 hk).2
  · rw [h6 hk]; intro x hx; cases hx
theorem PR.pf {d : Nat} : ∀ {e : Nat} {f : Fld}, PR d f → NR e f → d ≤ e + 1 → PF d f := by
  induction d with
  | zero => intro e f h _ _; exact h.elim
  | succ d ih =>
    intro e f h hn he
    have hs := h.size_
    refine ⟨h.1, h.2.2.1, hn.here.1, h.2.2.2.2.2.2.2.2.2.1, hs.1, hs.2.1, hs.2.2, fun hk x hx => ?_⟩
    have h1 := h.kid x hx
    cases d with
    | zero => exact h1.elim
    | succ d =>
      obtain ⟨e', rfl⟩ : ∃ e', e = e' + 1 := ⟨e - 1, by omega⟩
      exact ih h1 (hn.kids_ rfl x hx) (by omega)
theorem attrsB_ge {l : List (Int × List Int)} {a : Int × List Int} (h : a ∈ l) : a.2.length ≤ (attrsB l).length := by
  induction l with
  | nil => cases h
  | cons b l ih =>
    rw [attrsB_cons, List.length_append, attrB_length]
    rcases List.mem_cons.1 h with rfl | h
    · have := padn_le a.2.length; omega
    · have := ih h; omega
theorem PR.fok (big : Bool) {d : Nat} : ∀ {e : Nat} {fs : List Fld}, (∀ x ∈ fs, PR d x) → (∀ x ∈ fs, NR e x) → d ≤ e + 1 → (fbytes big d fs).length ≤ 65531 → ∀ x ∈ fs, FOk big d x := by
  induction d with
  | zero => intro e fs h _ _ _ x hx; exact (h x hx).elim
  | succ d ih =>
    intro e fs h hn he hl x hx
    have hp := h x hx
    have hs := hp.size_
    refine ⟨hp.1, hp.2.2.1, (hn x hx).here.1, hp.2.2.2.2.2.2.2.2.2.1, hs.1, hs.2.1, hs.2.2, fun hk => ?_⟩
    have hkl : (fbytes big d x.kids).length ≤ 65531 := by
      refine Nat.le_trans ?_ hl
      have hm : fattr big (fbytes big d) x ∈ (fs.filter isKept).map (fattr big (fbytes big d)) := List.mem_map_of_mem (List.mem_filter.2 ⟨hx, by simp [isKept, hk]⟩)
      have := attrsB_ge hm
      simpa [fbytes, fattr, hk] using this
    refine ⟨?_, hkl⟩
    cases d with
    | zero => intro y hy; exact (hp.kid y hy).elim
    | succ d =>
      obtain ⟨e', rfl⟩ : ∃ e', e = e' + 1 := ⟨e - 1, by omega⟩
      exact ih (e := e') hp.kid ((hn x hx).kids_ rfl) (by omega) hkl
theorem attrsB_len_map {f g : Fld → Int × List Int} (l : List Fld) (h : ∀ x ∈ l, (f x).2.length = (g x).2.length) : (attrsB (l.map f)).length = (attrsB (l.map g)).length := by
  induction l with
  | nil => rfl
  | cons a l ih =>
    rw [List.map_cons, List.map_cons, attrsB_cons, attrsB_cons, List.length_append, List.length_append, attrB_length, attrB_length, h a (by simp), ih fun x hx => h x (List.mem_cons_of_mem _ hx)]
theorem fbytes_len (d : Nat) : ∀ fs : List Fld, (fbytes true d fs).length = (fbytes false d fs).length := by
  induction d with
  | zero => intro fs; rfl
  | succ d ih =>
    intro fs
    refine attrsB_len_map _ fun x _ => ?_
    unfold fattr
    repeat' split
    all_goals first | rfl | exact ih _ | simp only [putO_length]
theorem fbytes_len_big (big : Bool) (d : Nat) (fs : List Fld) : (fbytes big d fs).length = (fbytes false d fs).length := by
  cases big
  · rfl
  · exact fbytes_len d fs

/-! ### To the depth that is asked -/
theorem rd_imp {α : Type} {d e : El α} (hsz : e.sz = d.sz) {ok : Nat → Prop} {w : World} {v : Value} {xs : List α} (hE : ∀ x ∈ xs, ∀ ok cs, d.E ok w x cs → e.E ok w x cs) (h : d.Rd ok w v xs) : e.Rd ok w v xs := by
  obtain ⟨A, c, hv, hl, hc, hr⟩ := h
  refine ⟨A, c, hv, hl, hc, fun h0 => ?_⟩
  obtain ⟨b, off, hA, hb, hc⟩ := hr h0
  refine ⟨b, off, hA, hb, fun i x hx => ?_⟩
  obtain ⟨cs, h1, h2, h3⟩ := hc i x hx
  exact ⟨cs, by rw [hsz]; exact h1, h2, hE x (List.mem_of_getElem? hx) _ _ h3⟩
theorem elT_elF (d : Nat) : ∀ {e : Nat}, d ≤ e → ∀ {ok : Nat → Prop} {w : World} {v : Value} {fs : List Fld}, (elT e).Rd ok w v fs → (∀ x ∈ fs, PR d x) → (elF d).Rd ok w v fs := by
  induction d with
  | zero => intro e he ok w v fs h hp; exact rd_imp (by rw [elF_sz, elT_sz]) (fun x hx => (hp x hx).elim) h
  | succ d ih =>
    intro e he ok w v fs h hp
    refine rd_imp (by rw [elF_sz, elT_sz]) (fun x hx ok' cs hE => ?_) h
    obtain ⟨e', rfl⟩ : ∃ e', e = e' + 1 := ⟨e - 1, by omega⟩
    obtain ⟨dv, kv, h1, h2, h3, h4⟩ := hE
    exact ⟨dv, kv, h1, h2, ih (by omega) h3 (hp x hx).kid⟩
theorem elF_elF (d : Nat) : ∀ {e : Nat}, d ≤ e → ∀ {ok : Nat → Prop} {w : World} {v : Value} {fs : List Fld}, (elF e).Rd ok w v fs → (∀ x ∈ fs, PR d x) → (elF d).Rd ok w v fs := by
  induction d with
  | zero => intro e he ok w v fs h hp; exact rd_imp (by rw [elF_sz, elF_sz]) (fun x hx => (hp x hx).elim) h
  | succ d ih =>
    intro e he ok w v fs h hp
    refine rd_imp (by rw [elF_sz, elF_sz]) (fun x hx ok' cs hE => ?_) h
    obtain ⟨e', rfl⟩ : ∃ e', e = e' + 1 := ⟨e - 1, by omega⟩
    obtain ⟨dv, kv, h1, h2, h3⟩ := hE
    exact ⟨dv, kv, h1, h2, ih (by omega) h3 (hp x hx).kid⟩
end Go.Proofs.Ytgijhgonpgidiaa
