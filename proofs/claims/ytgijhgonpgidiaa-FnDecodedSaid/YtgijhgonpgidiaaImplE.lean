/-
  Contract of impl.Encode at fields that can be written. No statement of the seat is proved here.
-/
import Derived.Test.YtgijhgonpgidiaaEncode
import Derived.Test.YtgijhgonpgidiaaIdle
namespace Go.Proofs.Ytgijhgonpgidiaa
open Go.RowKit Go.Proofs.YtgijhgonpgidiaaW.PrintWords

set_option maxRecDepth 100000 in
set_option maxHeartbeats 1600000 in
theorem encode23 (d : Nat) (big : Bool) (w : World) (v : Value) (fs : List Fld) (ok : Nat → Prop) (hR : (elF d).Rd ok w v fs) (hF : ∀ x ∈ fs, FOk big d x) (hl : fs.length < 1000000) (hT : (fbytes big d fs).length ≤ 140737488355328) :
    Calls Try.prog 23 #[v, .bool big] w fun e w' => ∃ u, e = .returned (.tuple #[u, .bool true]) ∧ Hid (Sl (fun k => w.heap.size ≤ k) w' u (fbytes big d fs) ∧ Below w.heap.size w w') := by
  have hmf : ∀ (fn : Fn) (first cap : Array Value) (w : World), (Instr.makeFunc fn first cap).run Try.prog w = .ok (.func fn first cap) w := fun _ _ _ _ => rfl
  obtain ⟨W, hW⟩ : ∃ W, W = (w.alloc (.cells #[.slice none 0 0] 28)).alloc (.cells #[.bool false] 4) := ⟨_, rfl⟩
  have hB : Below w.heap.size w W := by rw [hW]; exact ((Below.refl _ _).alloc (Nat.le_refl _) _).alloc (by simp) _
  have hsz : W.heap.size = w.heap.size + 2 := by rw [hW]; simp
  have hq0 : W.heap[w.heap.size]? = some (.cells #[.slice none 0 0] 28) := by rw [hW]; exact blk_alloc (heap_alloc_new _ _) _
  have hq1 : W.heap[w.heap.size + 1]? = some (.cells #[.bool false] 4) := by rw [hW]; have := heap_alloc_new (w.alloc (.cells #[.slice none 0 0] 28)) (.cells #[.bool false] 4); simpa using this
  have hRW : (elF d).Rd (fun k => k < W.heap.size) W v fs := (hR.bound.below hB).mono fun k hk => by omega
  have HE := Lib.hid (encode51 d big (W.alloc (.cells #[boV big, .slice none 0 0, .nilIface] 91)) W.heap.size W.heap.size [] v fs (Enc.new W big) (by simp) (hRW.below ((Below.refl _ _).alloc (Nat.le_refl _) _)) hF (by simpa using hl))
  have HW := Lib.hid hW
  have HB := Lib.hid hB
  have HS := Lib.hid hsz
  have HQ0 := Lib.hid hq0
  have HQ1 := Lib.hid hq1
  have HA := Lib.hid (fat_AOk hF)
  have HT := Lib.hid hT
  have hw2 : w.heap.size < W.heap.size := by omega
  have hw3 : w.heap.size + 1 < W.heap.size := by omega
  clear hR hF hT hW hB hsz hq0 hq1 hRW
  cases big
  all_goals
    simp only [boV_true, boV_false] at HE
    go_enter_defers Try.func23, Try.ntmps23
    go_wp2_with fail
    rw [← HW.out]
    refine (new49 W).mono ?_
    rintro e w1 ⟨rfl, rfl⟩
    go_wp2_with fail
    refine (order50 _ _).mono ?_
    rintro e w1 ⟨rfl, rfl⟩
    simp only [boV_true, boV_false]
    go_wp2_with fail
    refine HE.out.mono ?_
    rintro e w2 ⟨rfl, HM⟩
    rw [List.nil_append] at HM
    go_wp2_with fail
    refine (encode52 w2 W.heap.size W.heap.size _ _ HM.out.1 HA.out (by rw [attrsB_fat]; exact HT.out)).mono ?_
    rintro e w3 ⟨u, rfl, HU⟩
    rw [attrsB_fat] at HU
    have hB2 : Below W.heap.size W w2 := ((Below.refl _ _).alloc (Nat.le_refl _) _).trans HM.out.2
    have hB3 : Below W.heap.size W w3 := below_then hB2 hB2.size HU.out.2
    have hz0 := (hB3.block w.heap.size hw2).trans HQ0.out
    have hz1 := (hB3.block (w.heap.size + 1) hw3).trans HQ1.out
    have z0 : w3.cell? ⟨w.heap.size, 0, none⟩ = some (.slice none 0 0) := blk_cell hz0 0
    have z1 : w3.cell? ⟨w.heap.size + 1, 0, none⟩ = some (.bool false) := blk_cell hz1 0
    have y0 : w3.frozen? ⟨w.heap.size, 0, none⟩ = false := blk_frozen hz0 0
    have y1 : w3.frozen? ⟨w.heap.size + 1, 0, none⟩ = false := blk_frozen hz1 0
    obtain ⟨A, c, rfl, _⟩ := HU.out.1.form
    have hs2 := hB2.size
    have HU2 := Lib.hid (HU.out.1.mono (ok' := fun k => W.heap.size ≤ k) fun k hk => by omega)
    have HB3 := Lib.hid (below_then HB.out HB.out.size hB3)
    clear hB2 hB3 hz0 hz1 hs2
    go_wp2_with fail
    refine leaves_cons (f := 48) (args := #[.pointer (some ⟨w.heap.size, 0, none⟩), .pointer (some ⟨w.heap.size + 1, 0, none⟩)]) (by simp) (by simp [go_sem]) ?_
    refine (idle48 _ _ _).mono ?_
    rintro e u' w'' ⟨rfl, rfl, rfl⟩
    simp [Leaves, settle, results, Try.results23, go_sem, z0, z1]
    refine Lib.hid ⟨(HU2.out.step fun k hk _ => ?_).mono fun k hk => by omega, ((HB3.out.setCell (Nat.le_refl _) _).setCell (Nat.le_refl _) _).setCell (by simp) _⟩
    rw [Below.heap_setCell _ _ _ _ (by show k ≠ w.heap.size + 1; omega), Below.heap_setCell _ _ _ _ (by show k ≠ w.heap.size; omega), Below.heap_setCell _ _ _ _ (by show k ≠ w.heap.size; omega)]

/-! ### works -/
theorem strOf_works : strOfNums [5, 0, 1, 0, 7, 0, 0, 0] = ⟨#[5, 0, 1, 0, 7, 0, 0, 0]⟩ := by decide
theorem str_of {ok : Nat → Prop} {w : World} {v : Value} {xs : List Int} (h : Sl ok w v xs) : (convert 28 9 v).run Try.prog w = .ok (.string (strOfNums xs)) w := by
  obtain ⟨A, c, rfl, _, _, hr⟩ := h.form
  exact string_of_reads Try.underlying28 Try.underlying5 Try.underlying9 hr
def fld1 : Fld := ⟨1, 0, 0, 7, ⟨#[]⟩, [], []⟩
set_option maxRecDepth 100000 in
set_option maxHeartbeats 1600000 in
theorem works22 (w : World) : Calls Try.prog 22 #[] w fun e w' => e = .returned (.bool true) ∧ Hid (Below w.heap.size w w') := by
  have hR : (elF 1).Rd (fun _ => True) (w.alloc (.cells #[.int .i64 1, .int .i64 0, .int .i64 0, .int .i64 7, .string ⟨#[]⟩, .slice none 0 0, .slice none 0 0] 78)) (.slice (some ⟨w.heap.size, 0, none⟩) 1 1) [fld1] := by
    refine ⟨_, 1, rfl, Nat.le_refl _, by omega, fun _ => ⟨w.heap.size, 0, rfl, trivial, fun i x hx => ?_⟩⟩
    cases i with
    | zero =>
      simp only [List.getElem?_cons_zero, Option.some.injEq] at hx
      subst hx
      refine ⟨[.int .i64 1, .int .i64 0, .int .i64 0, .int .i64 7, .string ⟨#[]⟩, .slice none 0 0, .slice none 0 0], fun j u hu => ?_, by simp, _, _, rfl, Sl.nil _ _, El.Rd.nil _ _ _⟩
      rw [blk_cell (heap_alloc_new w _)]
      simpa using hu
    | succ i => simp at hx
  have hF : ∀ x ∈ [fld1], FOk false 1 x := by
    intro x hx
    simp only [List.mem_cons, List.not_mem_nil, or_false] at hx
    subst hx
    simp [fld1, FOk, numOk]
    decide
  have hb : fbytes false 1 [fld1] = [5, 0, 1, 0, 7, 0, 0, 0] := by decide
  have HE := Lib.hid (encode23 1 false _ _ _ _ hR hF (by simp) (by rw [hb]; simp))
  rw [hb] at HE
  clear hR hF hb
  go_enter Try.func22, Try.ntmps22
  go_wp2_with fail
  refine HE.out.mono ?_
  rintro e w1 ⟨u, rfl, HM⟩
  have hs := str_of HM.out.1
  rw [strOf_works] at hs
  go_wp2_with fail
  go_ret
  exact ⟨by simp, Lib.hid (((Below.refl _ _).alloc (Nat.le_refl _) _).trans (HM.out.2.mono (by simp)))⟩
end Go.Proofs.Ytgijhgonpgidiaa
