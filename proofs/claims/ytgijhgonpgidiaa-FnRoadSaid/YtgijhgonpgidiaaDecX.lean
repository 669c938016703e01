/-
  Decode round decode, where decode says no. No statement of the seat is proved here.
-/
import Derived.Test.YtgijhgonpgidiaaDec
import Derived.Test.YtgijhgonpgidiaaDup
import Derived.Test.YtgijhgonpgidiaaIdle
import Derived.Test.YtgijhgonpgidiaaNest
namespace Go.Proofs.Ytgijhgonpgidiaa
open Go.RowKit Go.Proofs.YtgijhgonpgidiaaW.PrintWords

theorem decO_order {w : World} {g : Nat} {o dv bv e : Value} {L T i n : Int} (h : w.heap[g]? = some (decO o L T dv bv i n e)) (u : Value) : (w.setCell ⟨g, 0, none⟩ u).heap[g]? = some (decO u L T dv bv i n e) := by
  have := blk_set h 0 u
  simpa [decO] using this

set_option maxRecDepth 100000 in
set_option maxHeartbeats 3200000 in
theorem decode44_bad (big : Bool) (dv : Value) (sA : Option Addr) (sn sc : Nat) (l : List (Int × List Int)) (ok : Nat → Prop) (w : World) (hS : Sl ok w dv (attrsB l)) (hA : AOk l) (hH : Heads l (attrsB l).length) (hib : ∀ a ∈ l, IsB a.2) (hm : (attrsB l).length ≤ 140737488355328)
    (h78 : ∀ (W1 : World) (g : Nat) (bv : Value), Below w.heap.size w W1 → w.heap.size ≤ g → W1.heap[g]? = some (decO (boV big) 0 0 (.slice none 0 0) bv 0 l.length .nilIface) → Sl (fun k => w.heap.size ≤ k ∧ k ≠ g) W1 bv (attrsB l) →
      Calls Try.prog 78 #[.pointer (some ⟨g, 0, none⟩), .slice sA sn sc] W1 fun e w' => ∃ A6 n6 c6 ty y, e = .returned (.tuple #[.slice A6 n6 c6, .iface ty y]) ∧ Hid (W1.grownBy w' (some g))) :
    Calls Try.prog 44 #[dv, .slice sA sn sc, .bool big] w fun e w' => e = .returned (.tuple #[.slice none 0 0, .bool false]) ∧ Hid (Below w.heap.size w w') := by
  have hmf : ∀ (fn : Fn) (first cap : Array Value) (w : World), (Instr.makeFunc fn first cap).run Try.prog w = .ok (.func fn first cap) w := fun _ _ _ _ => rfl
  obtain ⟨A, c, rfl, _⟩ := hS.form
  obtain ⟨q, hq⟩ : ∃ q, q = w.heap.size := ⟨_, rfl⟩
  obtain ⟨W, hW⟩ : ∃ W, W = (w.alloc (.cells #[.slice none 0 0] 22)).alloc (.cells #[.bool false] 4) := ⟨_, rfl⟩
  have hB : Below w.heap.size w W := by rw [hW]; exact ((Below.refl _ _).alloc (Nat.le_refl _) _).alloc (by simp) _
  have k0 : W.heap[q]? = some (.cells #[.slice none 0 0] 22) := by rw [hW, hq]; exact blk_alloc (heap_alloc_new _ _) _
  have k1 : W.heap[q + 1]? = some (.cells #[.bool false] 4) := by
    have := heap_alloc_new (w.alloc (.cells #[.slice none 0 0] 22)) (.cells #[.bool false] 4)
    rw [hW, hq]; simpa using this
  have HS := Lib.hid (hS.bound.below hB)
  have HU := Lib.hid h78
  have HA := Lib.hid hA
  have HH := Lib.hid hH
  have HIB := Lib.hid hib
  have HW := Lib.hid hW
  have HB := Lib.hid hB
  have HQ := Lib.hid hq
  have K0 := Lib.hid k0
  have K1 := Lib.hid k1
  have HM := Lib.hid hm
  clear hS h78 hA hH hib hW hB k0 k1
  go_enter_defers Try.func44, Try.ntmps44
  go_wp2_with (at_builtin; rw [← hq, ← HW.out]; clear hq; go_must (refine dup_list (W := W) HS.out hm rfl (.const (.slice none 0 0)) (.tmp 12) rfl rfl rfl ?_); intro A1 c1 w1 H1)
  refine (new77 w1 _ _ l (attrsB l).length (by rw [List.take_length]; exact H1.out.1.bound) HA.out HH.out HIB.out HM.out).mono ?_
  rintro e w2 ⟨rfl, H2⟩
  obtain ⟨g, hg⟩ : ∃ g, g = w1.heap.size := ⟨_, rfl⟩
  have hk2 := H2.out.1
  have hb12 := H2.out.2
  have hs2 := H1.out.1.bound.below hb12
  rw [← hg] at hk2 ⊢
  have hb02 : Below W.heap.size W w2 := below_then H1.out.2 H1.out.2.size hb12
  have g0 : w2.cell? ⟨g, 0, none⟩ = some (.iface 140 (.agg #[])) := blk_cell hk2 0
  have gf : w2.frozen? ⟨g, 0, none⟩ = false := blk_frozen hk2 0
  have HK2 := Lib.hid hk2
  have HS2 := Lib.hid hs2
  have HG := Lib.hid hg
  have HM1 : Hid (W.heap.size ≤ w1.heap.size) := Lib.hid H1.out.2.size
  have HB02 := Lib.hid hb02
  clear hk2 hb12 hs2 hg hb02 H1 H2
  go_wp2_with fail
  refine (order50 big w2).mono ?_
  rintro e w3 ⟨rfl, rfl⟩
  obtain ⟨ot, ov, hov⟩ : ∃ ty v, boV big = .iface ty v := by cases big <;> exact ⟨_, _, rfl⟩
  rw [hov]
  obtain ⟨X, hX⟩ : ∃ X, X = w2.setCell ⟨g, 0, none⟩ (.iface ot ov) := ⟨_, rfl⟩
  have hg0 := HG.out
  have hW1 : W.heap.size ≤ g := by rw [hg0]; exact HM1.out
  have hB3 : Below W.heap.size W X := by rw [hX]; exact HB02.out.setCell (by show _ ≤ g; exact hW1) _
  have hk3 : X.heap[g]? = some (decO (.iface ot ov) 0 0 (.slice none 0 0) (.slice A1 (attrsB l).length c1) 0 l.length .nilIface) := by rw [hX]; exact decO_order HK2.out _
  have hs3 : Sl (fun k => w.heap.size ≤ k ∧ k ≠ g) X (.slice A1 (attrsB l).length c1) (attrsB l) := by
    rw [hX]
    refine (HS2.out.step fun k hk _ => Below.heap_setCell _ _ _ _ (by show k ≠ g; omega)).mono fun k hk => ?_
    have := HB.out.size
    have := hk.2
    exact ⟨by have := hk.1; omega, by omega⟩
  have hkq := blk_below K0.out hB3
  have hkq1 := blk_below K1.out hB3
  have HC := Lib.hid (HU.out X g _ (below_then HB.out HB.out.size hB3) (by have := HB.out.size; omega) (by rw [hov]; exact hk3) hs3)
  have HB3 := Lib.hid hB3
  have HKQ := Lib.hid hkq
  have HKQ1 := Lib.hid hkq1
  have HX := Lib.hid hX
  have HQL : Hid (q + 1 < W.heap.size) := Lib.hid (blk_lt K1.out)
  have HG1 := Lib.hid hW1
  clear hB3 hk3 hs3 hkq hkq1 hg0 hX hW1
  go_wp2_with fail
  rw [← HX.out]
  refine HC.out.mono ?_
  rintro e w4 ⟨A6, n6, c6, ty, y, rfl, H4⟩
  have hgq : q ≠ g := by have := HQL.out; have := HG1.out; omega
  have hgq1 : q + 1 ≠ g := by have := HQL.out; have := HG1.out; omega
  have z0' := blk_grown HKQ.out H4.out (by intro he; injection he with he; exact hgq he)
  have z1' := blk_grown HKQ1.out H4.out (by intro he; injection he with he; exact hgq1 he)
  have z0 : w4.cell? ⟨q, 0, none⟩ = some (.slice none 0 0) := blk_cell z0' 0
  have z1 : w4.cell? ⟨q + 1, 0, none⟩ = some (.bool false) := blk_cell z1' 0
  have y0 : w4.frozen? ⟨q, 0, none⟩ = false := blk_frozen z0' 0
  have y1 : w4.frozen? ⟨q + 1, 0, none⟩ = false := blk_frozen z1' 0
  have HB4 : Hid (Below w.heap.size w w4) := Lib.hid ((below_then HB.out HB.out.size HB3.out).grown H4.out (by have := HB.out.size; have := HB3.out.size; omega) (fun j hj => by injection hj with hj; have := HB.out.size; have := HG1.out; omega))
  clear z0' z1' H4 hgq hgq1
  go_wp2_with fail
  refine leaves_cons (f := 76) (args := #[.pointer (some ⟨q, 0, none⟩), .pointer (some ⟨q + 1, 0, none⟩)]) (by simp) (by simp [go_sem]) ?_
  refine (idle76 _ _ _).mono ?_
  rintro e u' w'' ⟨rfl, rfl, rfl⟩
  simp [Leaves, settle, results, Try.results44, go_sem, z0, z1]
  have hqq := HQ.out
  exact Lib.hid (((HB4.out.setCell (by show _ ≤ q; omega) _).setCell (by show _ ≤ q; omega) _).setCell (by show _ ≤ q + 1; omega) _)
end Go.Proofs.Ytgijhgonpgidiaa
