/-
  Contract of Decode, where the bytes are those of fields; lists of fields that are the same. No statement of the seat is proved here.
-/
import Derived.Test.YtgijhgonpgidiaaDecD
import Derived.Test.YtgijhgonpgidiaaSame
namespace Go.Proofs.Ytgijhgonpgidiaa
open Go.RowKit Go.Proofs.YtgijhgonpgidiaaW.PrintWords

set_option maxRecDepth 100000 in
set_option maxHeartbeats 1600000 in
theorem dec78_zero : DecSpec 0 := by
  intro big w g bv sv N fs okb oks hG hS hok hR hoks hl hP hN hT
  have hfs : fs = [] := by
    cases fs with
    | nil => rfl
    | cons x fs => exact (hP x (by simp)).elim
  subst hfs
  have hE := next_end w g (boV big) _ bv 0 0 N [] okb (by rw [show pos [] ([] : List (Int × List Int)).length = 0 from rfl]; exact hG) hS
  obtain ⟨A, c, rfl, _⟩ := hR.form
  have HE := Lib.hid hE
  have HG := Lib.hid hG
  have HB := Lib.hid hok
  clear hE hG hS hok hR hoks hl hP hN hT
  go_enter Try.func78, Try.ntmps78
  go_wp2_with fail
  refine wp_loop_rounds 1 ?_
  rw [rounds_succ]
  go_wp2_with fail
  refine HE.out.mono ?_
  rintro e w2 ⟨rfl, H2⟩
  have hk2 := blk_below HG.out H2.out
  have HE2 := Lib.hid (err105_nil w2 g _ _ _ _ _ _ _ hk2)
  have HK2 := Lib.hid hk2
  clear hk2
  go_wp2_with fail
  refine HE2.out.mono ?_
  rintro e w3 ⟨rfl, rfl⟩
  go_wp2_with fail
  go_ret2
  exact ⟨_, _, rfl, Lib.hid ⟨El.Rd.nil _ _ _, below_grows H2.out rfl, _, _, _, _, HK2.out⟩⟩
theorem dec78 (d : Nat) : DecSpec d := by
  induction d with
  | zero => exact dec78_zero
  | succ d ih => exact dec78_succ d ih

set_option maxRecDepth 100000 in
set_option maxHeartbeats 3200000 in
theorem decode44 (d : Nat) (big : Bool) (dv sv : Value) (fs : List Fld) (ok oks : Nat → Prop) (w : World) (hS : Sl ok w dv (fbytes big d fs)) (hR : (elF d).Rd oks w sv (shpF d (keptF d fs))) (hl : fs.length ≤ 10) (hP : ∀ x ∈ fs, PR d x) (hN : ∀ x ∈ fs, NR d x) (hT : (fbytes big d fs).length ≤ 65531) :
    Calls Try.prog 44 #[dv, sv, .bool big] w fun e w' => ∃ A c, e = .returned (.tuple #[.slice A (gotF d fs).length c, .bool true]) ∧ Hid ((elF d).Rd (fun k => w.heap.size ≤ k) w' (.slice A (gotF d fs).length c) (gotF d fs) ∧ Below w.heap.size w w') := by
  have hmf : ∀ (fn : Fn) (first cap : Array Value) (w : World), (Instr.makeFunc fn first cap).run Try.prog w = .ok (.func fn first cap) w := fun _ _ _ _ => rfl
  obtain ⟨A, c, rfl, _⟩ := hS.form
  obtain ⟨sA, sc, rfl, _⟩ := hR.form
  obtain ⟨q, hq⟩ : ∃ q, q = w.heap.size := ⟨_, rfl⟩
  obtain ⟨W, hW⟩ : ∃ W, W = (w.alloc (.cells #[.slice none 0 0] 22)).alloc (.cells #[.bool false] 4) := ⟨_, rfl⟩
  have hB : Below w.heap.size w W := by rw [hW]; exact ((Below.refl _ _).alloc (Nat.le_refl _) _).alloc (by simp) _
  have k0 : W.heap[q]? = some (.cells #[.slice none 0 0] 22) := by rw [hW, hq]; exact blk_alloc (heap_alloc_new _ _) _
  have k1 : W.heap[q + 1]? = some (.cells #[.bool false] 4) := by
    have := heap_alloc_new (w.alloc (.cells #[.slice none 0 0] 22)) (.cells #[.bool false] 4)
    rw [hW, hq]; simpa using this
  have hm : (fbytes big d fs).length ≤ 140737488355328 := by omega
  have hA : AOk (fat big d fs) := fat_AOk (PR.fok big hP hN (by omega) hT)
  have hib := (fbytes_ib big d hP hN).2
  have HS := Lib.hid (hS.bound.below hB)
  have HR := Lib.hid (hR.bound.below hB)
  have HU := Lib.hid (fun (X : World) (g : Nat) (bv : Value) (N : Int) (oks : Nat → Prop) hG (hS : Sl (fun k => w.heap.size ≤ k ∧ k ≠ g) X bv (fbytes big d fs)) hR hoks => dec78 d big X g bv (.slice sA (shpF d (keptF d fs)).length sc) N fs _ oks hG hS (fun k hk => hk.2) hR hoks hl hP hN hT)
  have HA := Lib.hid hA
  have HIB := Lib.hid hib
  have HW := Lib.hid hW
  have HB := Lib.hid hB
  have HQ := Lib.hid hq
  have K0 := Lib.hid k0
  have K1 := Lib.hid k1
  have HM := Lib.hid hm
  clear hS hR hP hN hA hib hW hB k0 k1 hT hl
  go_enter_defers Try.func44, Try.ntmps44
  go_wp2_with (at_builtin; rw [← hq, ← HW.out]; clear hq; go_must (refine dup_list (W := W) HS.out hm rfl (.const (.slice none 0 0)) (.tmp 12) rfl rfl rfl ?_); intro A1 c1 w1 H1)
  refine (new77 w1 _ _ (fat big d fs) (attrsB (fat big d fs)).length (by rw [List.take_length, attrsB_fat]; exact H1.out.1.bound) HA.out heads_of HIB.out (by rw [attrsB_fat]; exact HM.out)).mono ?_
  rintro e w2 ⟨rfl, H2⟩
  obtain ⟨g, hg⟩ : ∃ g, g = w1.heap.size := ⟨_, rfl⟩
  have hk2 := H2.out.1
  have hb12 := H2.out.2
  have hs2 := H1.out.1.bound.below hb12
  rw [← hg] at hk2 ⊢
  have hb02 : Below W.heap.size W w2 := below_then H1.out.2 H1.out.2.size hb12
  have g0 : w2.cell? ⟨g, 0, none⟩ = some (.iface 140 (.agg #[])) := blk_cell hk2 0
  have gf : w2.frozen? ⟨g, 0, none⟩ = false := blk_frozen hk2 0
  have HK2 := Lib.hid hk2
  have HS2 := Lib.hid hs2
  have HG := Lib.hid hg
  have HM1 : Hid (W.heap.size ≤ w1.heap.size) := Lib.hid H1.out.2.size
  have HB02 := Lib.hid hb02
  clear hk2 hb12 hs2 hg hb02 H1 H2
  go_wp2_with fail
  refine (order50 big w2).mono ?_
  rintro e w3 ⟨rfl, rfl⟩
  obtain ⟨ot, ov, hov⟩ : ∃ ty v, boV big = .iface ty v := by cases big <;> exact ⟨_, _, rfl⟩
  rw [hov]
  obtain ⟨X, hX⟩ : ∃ X, X = w2.setCell ⟨g, 0, none⟩ (.iface ot ov) := ⟨_, rfl⟩
  have hg0 := HG.out
  have hW1 : W.heap.size ≤ g := by rw [hg0]; exact HM1.out
  have hB3 : Below W.heap.size W X := by rw [hX]; exact HB02.out.setCell (by show _ ≤ g; exact hW1) _
  have hk3 : X.heap[g]? = some (decO (.iface ot ov) 0 0 (.slice none 0 0) (.slice A1 (fbytes big d fs).length c1) 0 ((fat big d fs).length : Nat) .nilIface) := by rw [hX]; exact decO_order HK2.out _
  have hs3 : Sl (fun k => w.heap.size ≤ k ∧ k ≠ g) X (.slice A1 (fbytes big d fs).length c1) (fbytes big d fs) := by
    rw [hX]
    refine (HS2.out.step fun k hk _ => Below.heap_setCell _ _ _ _ (by show k ≠ g; omega)).mono fun k hk => ?_
    have := HB.out.size
    have := hk.2
    exact ⟨by have := hk.1; omega, by omega⟩
  have hkq := blk_below K0.out hB3
  have hkq1 := blk_below K1.out hB3
  have hBs := HB.out.size
  have HC := Lib.hid (HU.out X g _ _ _ (by rw [hov]; exact hk3) hs3 (HR.out.below hB3) (fun k hk => by have := hk.2; omega))
  have HB3 := Lib.hid hB3
  have HKQ := Lib.hid hkq
  have HKQ1 := Lib.hid hkq1
  have HX := Lib.hid hX
  have HQL : Hid (q + 1 < W.heap.size) := Lib.hid (blk_lt K1.out)
  have HG1 := Lib.hid hW1
  clear hB3 hk3 hs3 hkq hkq1 hg0 hX hW1 hBs
  go_wp2_with fail
  rw [← HX.out]
  refine HC.out.mono ?_
  rintro e w4 ⟨A6, c6, rfl, H4⟩
  obtain ⟨n6, hn6⟩ : ∃ n6, n6 = (gotF d fs).length := ⟨_, rfl⟩
  have HN6 := Lib.hid hn6
  have h41 := H4.out.1
  have h42 := H4.out.2.1
  rw [← hn6] at h41 ⊢
  have H41 := Lib.hid h41
  have H42 := Lib.hid h42
  have hgq : q ≠ g := by have := HQL.out; have := HG1.out; omega
  have hgq1 : q + 1 ≠ g := by have := HQL.out; have := HG1.out; omega
  have z0' := blk_grown HKQ.out h42 (by intro he; injection he with he; exact hgq he)
  have z1' := blk_grown HKQ1.out h42 (by intro he; injection he with he; exact hgq1 he)
  have z0 : w4.cell? ⟨q, 0, none⟩ = some (.slice none 0 0) := blk_cell z0' 0
  have z1 : w4.cell? ⟨q + 1, 0, none⟩ = some (.bool false) := blk_cell z1' 0
  have y0 : w4.frozen? ⟨q, 0, none⟩ = false := blk_frozen z0' 0
  have y1 : w4.frozen? ⟨q + 1, 0, none⟩ = false := blk_frozen z1' 0
  have HB4 : Hid (Below w.heap.size w w4) := Lib.hid ((below_then HB.out HB.out.size HB3.out).grown h42 (by have := HB.out.size; have := HB3.out.size; omega) (fun j hj => by injection hj with hj; have := HB.out.size; have := HG1.out; omega))
  clear z0' z1' H4 hgq hgq1 h41 h42 hn6
  go_wp2_with fail
  refine leaves_cons (f := 76) (args := #[.pointer (some ⟨q, 0, none⟩), .pointer (some ⟨q + 1, 0, none⟩)]) (by simp) (by simp [go_sem]) ?_
  refine (idle76 _ _ _).mono ?_
  rintro e u' w'' ⟨rfl, rfl, rfl⟩
  simp [Leaves, settle, results, Try.results44, go_sem, z0, z1]
  have hqq := HQ.out
  have hql := HQL.out
  have hbx := HB3.out.size
  have hbs := HB.out.size
  rw [HN6.out] at H41 ⊢
  refine ⟨_, _, ⟨rfl, rfl, rfl⟩, Lib.hid ⟨(H41.out.step fun k hk _ => ?_).mono fun k hk => by omega, ((HB4.out.setCell (by show _ ≤ q; omega) _).setCell (by show _ ≤ q; omega) _).setCell (by show _ ≤ q + 1; omega) _⟩⟩
  rw [Below.heap_setCell _ _ _ _ (by show k ≠ q + 1; omega), Below.heap_setCell _ _ _ _ (by show k ≠ q; omega), Below.heap_setCell _ _ _ _ (by show k ≠ q; omega)]

/-! ### No more than ten, so deep -/
theorem PR.ten {d : Nat} : ∀ {fs : List Fld}, (∀ x ∈ fs, PR d x) → fs.length ≤ 10 → Ten d fs := by
  induction d with
  | zero =>
    intro fs h _
    cases fs with
    | nil => rfl
    | cons x fs => exact (h x (by simp)).elim
  | succ d ih => intro fs h hl; exact ⟨hl, fun x hx => ih (h x hx).kid (h x hx).size_.2.2⟩
theorem Ten.kept {d : Nat} : ∀ {fs : List Fld}, Ten d fs → Ten d (keptF d fs) := by
  induction d with
  | zero => intro fs _; rfl
  | succ d ih =>
    intro fs h
    refine ⟨Nat.le_trans (keptF_length _ _) h.1, fun x hx => ?_⟩
    simp only [keptF, List.mem_map, List.mem_filter] at hx
    obtain ⟨y, ⟨hy, _⟩, rfl⟩ := hx
    exact ih (h.2 y hy)
theorem Ten.got {d : Nat} : ∀ {fs : List Fld}, Ten d fs → Ten d (gotF d fs) := by
  induction d with
  | zero => intro fs _; rfl
  | succ d ih =>
    intro fs h
    refine ⟨Nat.le_trans (gotF_length _ _) h.1, fun x hx => ?_⟩
    simp only [gotF, List.mem_map, List.mem_filter] at hx
    obtain ⟨y, ⟨hy, _⟩, rfl⟩ := hx
    exact ih (h.2 y hy)
theorem Ten.same {d : Nat} : ∀ {fs : List Fld}, Ten d fs → SameL d (gotF d fs) (keptF d fs) := by
  induction d with
  | zero => intro fs _; exact ⟨rfl, rfl⟩
  | succ d ih =>
    intro fs h
    refine ⟨by simp [gotF, keptF], Nat.le_trans (keptF_length _ _) h.1, fun k x y hx hy => ?_⟩
    simp only [gotF, keptF, List.getElem?_map, Option.map_eq_some_iff] at hx hy
    obtain ⟨a, ha, rfl⟩ := hx
    obtain ⟨b, hb, rfl⟩ := hy
    obtain rfl : a = b := Option.some.inj (ha.symm.trans hb)
    have hm := (List.mem_filter.1 (List.mem_of_getElem? ha)).1
    exact ⟨rfl, rfl, rfl, rfl, rfl, rfl, ih (h.2 a hm)⟩
theorem elF_elT (d : Nat) : ∀ {e : Nat}, d ≤ e → ∀ {ok : Nat → Prop} {w : World} {v : Value} {fs : List Fld}, (elF d).Rd ok w v fs → Ten d fs → (elT e).Rd ok w v fs := by
  induction d with
  | zero =>
    intro e he ok w v fs h ht
    have hfs : fs = [] := ht
    subst hfs
    exact rd_imp (by rw [elF_sz, elT_sz]) (fun x hx => by cases hx) h
  | succ d ih =>
    intro e he ok w v fs h ht
    obtain ⟨e', rfl⟩ : ∃ e', e = e' + 1 := ⟨e - 1, by omega⟩
    refine rd_imp (by rw [elF_sz, elT_sz]) (fun x hx ok' cs hE => ?_) h
    obtain ⟨dv, kv, h1, h2, h3⟩ := hE
    have hk := ht.2 x hx
    refine ⟨dv, kv, h1, h2, ih (by omega) h3 hk, ?_⟩
    cases d with
    | zero => have h0 : x.kids = [] := hk; rw [h0]; simp
    | succ d => have := hk.1; omega
theorem elF_low (d : Nat) : ∀ {e : Nat}, d ≤ e → ∀ {ok : Nat → Prop} {w : World} {v : Value} {fs : List Fld}, (elF e).Rd ok w v fs → Ten d fs → (elF d).Rd ok w v fs := by
  induction d with
  | zero =>
    intro e he ok w v fs h ht
    have hfs : fs = [] := ht
    subst hfs
    exact rd_imp (by rw [elF_sz, elF_sz]) (fun x hx => by cases hx) h
  | succ d ih =>
    intro e he ok w v fs h ht
    obtain ⟨e', rfl⟩ : ∃ e', e = e' + 1 := ⟨e - 1, by omega⟩
    refine rd_imp (by rw [elF_sz, elF_sz]) (fun x hx ok' cs hE => ?_) h
    obtain ⟨dv, kv, h1, h2, h3⟩ := hE
    exact ⟨dv, kv, h1, h2, ih (by omega) h3 (ht.2 x hx)⟩
theorem Ten.len {d : Nat} {fs : List Fld} (h : Ten d fs) : fs.length ≤ 10 := by
  cases d with
  | zero => have h0 : fs = [] := h; rw [h0]; simp
  | succ d => exact h.1
theorem NR.down {d : Nat} : ∀ {e : Nat} {x : Fld}, d ≤ e → NR e x → NR d x := by
  induction d with
  | zero => intro e x _ h; exact h.here
  | succ d ih =>
    intro e x he h
    obtain ⟨e', rfl⟩ : ∃ e', e = e' + 1 := ⟨e - 1, by omega⟩
    exact ⟨h.here, fun y hy => ih (by omega) (h.2 y hy)⟩
end Go.Proofs.Ytgijhgonpgidiaa
