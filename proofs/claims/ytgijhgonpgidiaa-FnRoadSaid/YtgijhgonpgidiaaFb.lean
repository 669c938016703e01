/-
  Contracts of the reference's width, attribute and FieldBytes. No statement of the seat is proved here.
-/
import Derived.Test.YtgijhgonpgidiaaAttrB
import Derived.Test.YtgijhgonpgidiaaText
import Derived.Test.YtgijhgonpgidiaaFld
namespace Go.Proofs.Ytgijhgonpgidiaa
open Go.RowKit Go.Proofs.YtgijhgonpgidiaaW.PrintWords

set_option maxHeartbeats 1600000 in
theorem width79 (k : Int) (w : World) (hk : 0 ≤ k ∧ k ≤ 11) : Calls Try.prog 79 #[.int .i64 k] w fun e w' => e = .returned (.int .i64 (widthK k)) ∧ w = w' := by
  have hc : k = 0 ∨ k = 1 ∨ k = 2 ∨ k = 3 ∨ k = 4 ∨ k = 5 ∨ k = 6 ∨ k = 7 ∨ k = 8 ∨ k = 9 ∨ k = 10 ∨ k = 11 := by omega
  clear hk
  rcases hc with rfl | rfl | rfl | rfl | rfl | rfl | rfl | rfl | rfl | rfl | rfl | rfl
  all_goals
    go_enter Try.func79, Try.ntmps79
    go_wp2
    go_ret
    exact ⟨rfl, rfl⟩

/-- What FieldBytes is owed to do, at fields nested at most d deep. -/
def FbSpec (d : Nat) : Prop := ∀ (big : Bool) (w : World) (ok : Nat → Prop) (v : Value) (fs : List Fld), (elF d).Rd ok w v fs → (∀ x ∈ fs, PF d x) → fs.length ≤ 10 → bnd d ≤ 100000000 →
  Calls Try.prog 24 #[v, .bool big] w fun e w' => ∃ u, e = .returned u ∧ Hid (Ob w' w.heap.size u (fbytes big d fs) ∧ Below w.heap.size w w')

theorem or_inner64 (t : Int) (h : 0 ≤ t ∧ t < 16384) : bits .or .i64 t 32768 = t + 32768 := by
  obtain ⟨n, rfl⟩ := Int.eq_ofNat_of_zero_le h.1
  have h1 := or_sum n 1 15 (by omega)
  show IntKind.i64.wrap ((BitVec.ofInt 64 (n : Int) ||| BitVec.ofInt 64 32768).toNat : Int) = _
  have e1 : (BitVec.ofInt 64 (n : Int)).toNat = n := by rw [BitVec.toNat_ofInt]; omega
  have e2 : (BitVec.ofInt 64 32768).toNat = 1 * 2 ^ 15 := by decide
  rw [BitVec.toNat_or, e1, e2, h1, IntKind.wrap_i64]
  omega
theorem num_data (big : Bool) (n : Int) (k : Nat) (hk : k ≤ 8) : putO big (n % 18446744073709551616) k = putO big (n % 256 ^ k) k := by
  have e : (18446744073709551616 : Int) = 256 ^ k * 256 ^ (8 - k) := by rw [← Int.pow_add, show k + (8 - k) = 8 by omega]; rfl
  have h1 := putB_mod k n (256 ^ (8 - k)) (Int.pow_pos (by omega))
  have h2 := putB_mod k n 1 (by omega)
  rw [← e] at h1
  rw [Int.mul_one] at h2
  unfold putO
  rw [h1, h2]

/-- A field by value: what attribute is owed to do. -/
def AttrSpec (d : Nat) : Prop := ∀ (big : Bool) (w : World) (ok : Nat → Prop) (x : Fld) (cs : List Value), (elF (d + 1)).E ok w x cs → PF (d + 1) x → bnd d ≤ 100000000 →
  Calls Try.prog 53 #[.agg cs.toArray, .bool big] w fun e w' => ∃ dv : Value, e = .returned (.tuple #[.agg #[.int .i64 (fattr big (fbytes big d) x).1, dv], .bool (isKept x)]) ∧ Hid (Sl (fun k => ok k ∨ w.heap.size ≤ k) w' dv (fattr big (fbytes big d) x).2 ∧ Below w.heap.size w w')

theorem attr_close {W : World} {p : Nat} {ty : Int} {X : Value} (h : W.heap[p]? = some (.cells #[.int .i64 0, .slice none 0 0] 61 (0, 0))) :
    ((W.setCell ⟨p, 0, none⟩ (.int .i64 ty)).setCell ⟨p, 1, none⟩ X).heap[p]? = some (.cells #[.int .i64 ty, X] 61 (0, 0)) := by
  have h2 := blk_set h 0 (.int .i64 ty)
  have h3 := blk_set h2 1 X
  simpa using h3
theorem size61 : (Try.prog.info? 61).map (·.size) = some 2 := by kernel_rfl

set_option maxRecDepth 100000 in
set_option maxHeartbeats 6400000 in
theorem attr53 (d : Nat) (H : FbSpec d) : AttrSpec d := by
  intro big w ok x cs hE hP hT
  obtain ⟨dv, kv, rfl, hdv, hkv⟩ := hE
  obtain ⟨⟨ht0, ht1⟩, hkind, hn, hnum, htx, hda, hki, hnest⟩ := hP
  obtain ⟨ty, kind, fl, n, text, data, kids⟩ := x
  simp only at *
  obtain ⟨dA, dc, rfl, _, _, _⟩ := hdv.form
  obtain ⟨kA, kc, rfl, _, _⟩ := hkv.form
  obtain ⟨p, hp⟩ : ∃ p, p = w.heap.size := ⟨_, rfl⟩
  obtain ⟨W3, hW3⟩ : ∃ W, W = ((w.alloc (.cells #[.int .i64 ty, .int .i64 kind, .int .i64 fl, .int .i64 n, .string text, .slice dA data.length dc, .slice kA kids.length kc] 65)).alloc (.cells #[.int .i64 0, .slice none 0 0] 61)).alloc (.cells #[.int .i64 ty, .slice none 0 0] 61) := ⟨_, rfl⟩
  have hB3 : Below w.heap.size w W3 := by rw [hW3]; exact (((Below.refl _ _).alloc (Nat.le_refl _) _).alloc (by simp) _).alloc (by simp; omega) _
  have hs3 : W3.heap.size = p + 3 := by rw [hW3, hp]; simp
  have hb0 : W3.heap[p]? = some (.cells #[.int .i64 ty, .int .i64 kind, .int .i64 fl, .int .i64 n, .string text, .slice dA data.length dc, .slice kA kids.length kc] 65) := by rw [hW3, hp]; exact blk_alloc (blk_alloc (heap_alloc_new _ _) _) _
  have hb1 : W3.heap[p + 1]? = some (.cells #[.int .i64 0, .slice none 0 0] 61) := by
    rw [hW3, hp]
    have := blk_alloc (heap_alloc_new (w.alloc (.cells #[.int .i64 ty, .int .i64 kind, .int .i64 fl, .int .i64 n, .string text, .slice dA data.length dc, .slice kA kids.length kc] 65)) (.cells #[.int .i64 0, .slice none 0 0] 61)) (.cells #[.int .i64 ty, .slice none 0 0] 61)
    simpa using this
  have hb2 : W3.heap[p + 1 + 1]? = some (.cells #[.int .i64 ty, .slice none 0 0] 61) := by
    rw [hW3, hp]
    have := heap_alloc_new ((w.alloc (.cells #[.int .i64 ty, .int .i64 kind, .int .i64 fl, .int .i64 n, .string text, .slice dA data.length dc, .slice kA kids.length kc] 65)).alloc (.cells #[.int .i64 0, .slice none 0 0] 61)) (.cells #[.int .i64 ty, .slice none 0 0] 61)
    simpa using this
  have HDV := Lib.hid hdv
  have HKV := Lib.hid hkv
  have HN := Lib.hid hnest
  have HU := Lib.hid hnum
  have HB3 := Lib.hid hB3
  have HS3 := Lib.hid hs3
  have HB0 := Lib.hid hb0
  have HB1 := Lib.hid hb1
  have HB2 := Lib.hid hb2
  have HW3 := Lib.hid hW3
  have HP := Lib.hid hp
  have c1 : W3.cell? ⟨p, 1, none⟩ = some (.int .i64 kind) := blk_cell hb0 1
  have c3 : W3.cell? ⟨p, 3, none⟩ = some (.int .i64 n) := blk_cell hb0 3
  have c4 : W3.cell? ⟨p, 4, none⟩ = some (.string text) := blk_cell hb0 4
  have c5 : W3.cell? ⟨p, 5, none⟩ = some (.slice dA data.length dc) := blk_cell hb0 5
  have c6 : W3.cell? ⟨p, 6, none⟩ = some (.slice kA kids.length kc) := blk_cell hb0 6
  have HF : Hid (∀ W' : World, Below W3.heap.size W3 W' → W'.cell? ⟨p + 1 + 1, 0, none⟩ = some (.int .i64 ty) ∧ W'.cell? ⟨p + 1 + 1, 1, none⟩ = some (.slice none 0 0) ∧ W'.cell? ⟨p + 1, 0, none⟩ = some (.int .i64 0) ∧ W'.cell? ⟨p + 1, 1, none⟩ = some (.slice none 0 0) ∧
      W'.frozen? ⟨p + 1 + 1, 0, none⟩ = false ∧ W'.frozen? ⟨p + 1 + 1, 1, none⟩ = false ∧ W'.frozen? ⟨p + 1, 0, none⟩ = false ∧ W'.frozen? ⟨p + 1, 1, none⟩ = false ∧ W'.heap[p + 1]? = some (.cells #[.int .i64 0, .slice none 0 0] 61)) := by
    intro W' hW'
    have hq1 := blk_below hb1 hW'
    have hq2 := blk_below hb2 hW'
    exact ⟨blk_cell hq2 0, blk_cell hq2 1, blk_cell hq1 0, blk_cell hq1 1, blk_frozen hq2 0, blk_frozen hq2 1, blk_frozen hq1 0, blk_frozen hq1 1, hq1⟩
  clear hdv hkv hnest hnum hB3 hs3 hb0 hb1 hb2 hW3
  have hc : kind ≤ 7 ∨ kind = 8 ∨ kind = 9 ∨ kind = 10 ∨ kind = 11 := by omega
  rcases hc with h7 | rfl | rfl | rfl | rfl
  · have k8 : (kind == 8) = false := by simp; omega
    have k9 : (kind == 9) = false := by simp; omega
    have k10 : (kind == 10) = false := by simp; omega
    have k11 : (kind == 11) = false := by simp; omega
    go_enter Try.func53, Try.ntmps53
    go_wp2_with fail
    rw [← HW3.out, ← hp]
    clear hp
    go_region_held3 (fun w' => w'.cell? ⟨p, 1, none⟩ = some (.int .i64 kind) ∧ w'.cell? ⟨p, 3, none⟩ = some (.int .i64 n)) (first | exact ⟨c1, c3⟩ | exact ⟨d1, d3⟩ | exact ⟨(World.cell?_setCell_other _ _ _ _ (by intro e; injection e with e; omega)).trans d1, (World.cell?_setCell_other _ _ _ _ (by intro e; injection e with e; omega)).trans d3⟩ | go_keep)
      (first
        | (go_at_call 79; refine (width79 kind _ hkind).mono ?_; rintro e w' ⟨rfl, rfl⟩)
        | (go_at_call 59; refine (put59 _ W3.heap.size (.slice none 0 0) [] _ (widthK kind) big (own_nil _ _ _ _) (by exact Nat.le_refl _) (widthK_le kind) (by simp)).mono ?_; rintro e w4 ⟨u4, rfl, H4⟩
           obtain ⟨A4, c4', rfl, _⟩ := Ob.form (base := W3.heap.size) (xs := [] ++ putO big _ (widthK kind)) H4.out.1
           have hg4 := grown_undrew H4.out.2.1
           have hq0 := blk_grown HB0.out hg4 (by simp [Value.ownBlock])
           have hq1 := blk_grown HB1.out hg4 (by simp [Value.ownBlock])
           have hq2 := blk_grown HB2.out hg4 (by simp [Value.ownBlock])
           have d1 : w4.cell? ⟨p, 1, none⟩ = some (.int .i64 kind) := blk_cell hq0 1
           have d3 : w4.cell? ⟨p, 3, none⟩ = some (.int .i64 n) := blk_cell hq0 3
           have r0 : w4.cell? ⟨p + 1 + 1, 0, none⟩ = some (.int .i64 ty) := blk_cell hq2 0
           have r1 : w4.cell? ⟨p + 1 + 1, 1, none⟩ = some (.slice none 0 0) := blk_cell hq2 1
           have s0 : w4.cell? ⟨p + 1, 0, none⟩ = some (.int .i64 0) := blk_cell hq1 0
           have s1 : w4.cell? ⟨p + 1, 1, none⟩ = some (.slice none 0 0) := blk_cell hq1 1
           have f1 : w4.frozen? ⟨p + 1 + 1, 1, none⟩ = false := blk_frozen hq2 1
           have f2 : w4.frozen? ⟨p + 1, 0, none⟩ = false := blk_frozen hq1 0
           have f3 : w4.frozen? ⟨p + 1, 1, none⟩ = false := blk_frozen hq1 1
           have HG4 := Lib.hid hg4
           have HQ1 := Lib.hid hq1
           clear hq0 hq1 hq2 hg4))
    go_wp2_with fail
    refine bodyPost_ret (results_ct Try.results53 _ _ (p + 1) 61 #[.int .i64 ty, .slice A4 (putO big (IntKind.u64.wrap n) (widthK kind)).length c4'] (0, 0) _ rfl (attr_close (blk_far HQ1.out (by show p + 1 ≠ p + 1 + 1; omega) _)) Try.underlying61 rfl (by rw [size61]; rfl)) rfl ?_
    have e1 : fattr big (fbytes big d) ⟨ty, kind, fl, n, text, data, kids⟩ = (ty, putO big (IntKind.u64.wrap n) (widthK kind)) := by
      have : putO big (IntKind.u64.wrap n) (widthK kind) = putO big (n % 256 ^ widthK kind) (widthK kind) := by rw [IntKind.wrap_u64]; exact num_data big n _ (widthK_le kind)
      rw [this]
      simp only [fattr]
      rw [if_neg (by omega), if_neg (by omega), if_neg (by omega), if_neg (by omega)]
    have e2 : isKept ⟨ty, kind, fl, n, text, data, kids⟩ = true := by simp [isKept, k10]
    rw [e1, e2]
    refine ⟨_, rfl, Lib.hid ⟨?_, ?_⟩⟩
    · have h1 := Ob.sl (base := W3.heap.size) (xs := [] ++ putO big (IntKind.u64.wrap n) (widthK kind)) H4.out.1
      have h2 := HS3.out
      have h3 := HP.out
      refine (h1.step fun k hk _ => ?_).mono fun k hk => .inr (by omega)
      rw [Below.heap_setCell _ _ _ _ (by show k ≠ p + 1; omega), Below.heap_setCell _ _ _ _ (by show k ≠ p + 1; omega), Below.heap_setCell _ _ _ _ (by show k ≠ p + 1 + 1; omega)]
    · have h3 := HP.out
      exact (((HB3.out.grown HG4.out HB3.out.size fun k hk => by simp [Value.ownBlock] at hk).setCell (by show _ ≤ p + 1 + 1; omega) _).setCell (by show _ ≤ p + 1; omega) _).setCell (by show _ ≤ p + 1; omega) _
  · have hcv := fun W => print_bytes (P := Try.prog) 9 28 5 Try.underlying9 Try.underlying28 Try.underlying5 text W
    have hbs := Lib.bytesWorld_size W3 5 text
    go_enter Try.func53, Try.ntmps53
    go_upto_region 2 with (fail)
    rw [← HW3.out, ← hp]
    clear hp
    go_wp2_with (first | (at_builtin; go_must (refine text_law (w := W3) (s := text) (by omega) rfl (.tmp 25) (.tmp 26) rfl rfl (W3.heap.size + 1) (by exact hbs) rfl ?_); intro A c w1 HT; obtain ⟨r0, r1, s0, s1, f0, f1, f2, f3, hq⟩ := HF.out w1 HT.out.2; have HQ := Lib.hid hq; clear hq))
    refine bodyPost_ret (results_ct Try.results53 _ _ (p + 1) 61 #[.int .i64 ty, .slice A (text.size + 1) c] (0, 0) _ rfl (attr_close (blk_far HQ.out (by show p + 1 ≠ p + 1 + 1; omega) _)) Try.underlying61 rfl (by rw [size61]; rfl)) rfl ?_
    rw [fk8, show isKept ⟨ty, 8, fl, n, text, data, kids⟩ = true by simp [isKept]]
    refine ⟨_, rfl, Lib.hid ⟨?_, ?_⟩⟩
    · have h2 := HS3.out
      have h3 := HP.out
      refine (HT.out.1.step fun k hk _ => ?_).mono fun k hk => .inr (by omega)
      rw [Below.heap_setCell _ _ _ _ (by show k ≠ p + 1; omega), Below.heap_setCell _ _ _ _ (by show k ≠ p + 1; omega), Below.heap_setCell _ _ _ _ (by show k ≠ p + 1 + 1; omega)]
    · have h3 := HP.out
      exact (((below_then HB3.out HB3.out.size HT.out.2).setCell (by show _ ≤ p + 1 + 1; omega) _).setCell (by show _ ≤ p + 1; omega) _).setCell (by show _ ≤ p + 1; omega) _
  · obtain ⟨r0, r1, s0, s1, f0, f1, f2, f3, hq⟩ := HF.out W3 (Below.refl _ _)
    have HQ := Lib.hid hq
    clear hq
    go_enter Try.func53, Try.ntmps53
    go_upto_region 2 with (fail)
    rw [← HW3.out, ← hp]
    clear hp
    go_wp2_with fail
    refine bodyPost_ret (results_ct Try.results53 _ _ (p + 1) 61 #[.int .i64 ty, .slice dA data.length dc] (0, 0) _ rfl (attr_close (blk_far HQ.out (by show p + 1 ≠ p + 1 + 1; omega) _)) Try.underlying61 rfl (by rw [size61]; rfl)) rfl ?_
    rw [fk9, show isKept ⟨ty, 9, fl, n, text, data, kids⟩ = true by simp [isKept]]
    refine ⟨_, rfl, Lib.hid ⟨?_, ?_⟩⟩
    · have h3 := HP.out
      refine ((HDV.out.bound.below HB3.out).step fun k hk _ => ?_).mono fun k hk => .inl hk.1
      have hk2 := hk.2
      rw [Below.heap_setCell _ _ _ _ (by show k ≠ p + 1; omega), Below.heap_setCell _ _ _ _ (by show k ≠ p + 1; omega), Below.heap_setCell _ _ _ _ (by show k ≠ p + 1 + 1; omega)]
    · have h3 := HP.out
      exact ((HB3.out.setCell (by show _ ≤ p + 1 + 1; omega) _).setCell (by show _ ≤ p + 1; omega) _).setCell (by show _ ≤ p + 1; omega) _
  · obtain ⟨r0, r1, s0, s1, f0, f1, f2, f3, hq⟩ := HF.out W3 (Below.refl _ _)
    have HQ := Lib.hid hq
    clear hq
    go_enter Try.func53, Try.ntmps53
    go_upto_region 2 with (fail)
    rw [← HW3.out, ← hp]
    clear hp
    go_wp2_with fail
    go_region
    go_wp2_with fail
    refine bodyPost_ret (results_ct Try.results53 _ _ (p + 1) 61 #[.int .i64 ty, .slice none 0 0] (0, 0) _ rfl (by exact attr_close HQ.out) Try.underlying61 rfl (by rw [size61]; rfl)) rfl ?_
    rw [fk10, show isKept ⟨ty, 10, fl, n, text, data, kids⟩ = (n == 1) by rcases HU.out.2.2.2.2.2.2 rfl with h | h <;> simp [isKept, h]]
    refine ⟨_, rfl, Lib.hid ⟨Sl.nil _ _, ?_⟩⟩
    have h3 := HP.out
    exact ((HB3.out.setCell (by show _ ≤ p + 1; omega) _).setCell (by show _ ≤ p + 1; omega) _).drew
  · obtain ⟨r0, r1, s0, s1, f0, f1, f2, f3, hq⟩ := HF.out W3 (Below.refl _ _)
    have hor := or_inner64 ty ⟨ht0, ht1⟩
    obtain ⟨W4, hW4⟩ : ∃ W, W = W3.setCell ⟨p + 1 + 1, 0, none⟩ (.int .i64 (ty + 32768)) := ⟨_, rfl⟩
    have hb4 : Below w.heap.size w W4 := by rw [hW4]; exact HB3.out.setCell (by have := HP.out; show _ ≤ p + 1 + 1; omega) _
    have hq0 := blk_far HB0.out (p := ⟨p + 1 + 1, 0, none⟩) (by show p ≠ p + 1 + 1; omega) (.int .i64 (ty + 32768))
    have hq1 := blk_far hq (p := ⟨p + 1 + 1, 0, none⟩) (by show p + 1 ≠ p + 1 + 1; omega) (.int .i64 (ty + 32768))
    rw [← hW4] at hq0 hq1
    have hq2 : W4.heap[p + 1 + 1]? = some (.cells #[.int .i64 (ty + 32768), .slice none 0 0] 61) := by rw [hW4]; have := blk_set HB2.out 0 (.int .i64 (ty + 32768)); simpa using this
    have hs4 : W4.heap.size = p + 3 := by rw [hW4]; have := HS3.out; simpa [World.setCell] using this
    have hKV4 : (elF d).Rd ok W4 (.slice kA kids.length kc) kids := (HKV.out.bound.step fun k hk _ => hb4.block k hk.2).mono fun k hk => hk.1
    have HC := Lib.hid (H big W4 ok _ kids hKV4 (HN.out rfl) hki hT)
    have HW4 := Lib.hid hW4
    have HQ0 := Lib.hid hq0
    have HQ1 := Lib.hid hq1
    have HQ2 := Lib.hid hq2
    have HB4 := Lib.hid hb4
    have HS4 := Lib.hid hs4
    have d6 : W4.cell? ⟨p, 6, none⟩ = some (.slice kA kids.length kc) := blk_cell hq0 6
    clear hW4 hb4 hq0 hq1 hq2 hs4 hKV4 hq
    go_enter Try.func53, Try.ntmps53
    go_upto_region 2 with (fail)
    rw [← HW3.out, ← hp]
    clear hp
    go_upto_region 12 with (fail)
    rw [← HW4.out]
    go_wp2_with fail
    refine HC.out.mono ?_
    rintro e w5 ⟨u, rfl, HU5⟩
    obtain ⟨A5, c5', rfl, _⟩ := HU5.out.1.form
    have hB5 := HU5.out.2
    have hq1 := blk_below HQ1.out hB5
    have hq2 := blk_below HQ2.out hB5
    have t0 : w5.cell? ⟨p + 1 + 1, 0, none⟩ = some (.int .i64 (ty + 32768)) := blk_cell hq2 0
    have t1 : w5.cell? ⟨p + 1 + 1, 1, none⟩ = some (.slice none 0 0) := blk_cell hq2 1
    have t2 : w5.cell? ⟨p + 1, 0, none⟩ = some (.int .i64 0) := blk_cell hq1 0
    have t3 : w5.cell? ⟨p + 1, 1, none⟩ = some (.slice none 0 0) := blk_cell hq1 1
    have g0 : w5.frozen? ⟨p + 1 + 1, 1, none⟩ = false := blk_frozen hq2 1
    have g1 : w5.frozen? ⟨p + 1, 0, none⟩ = false := blk_frozen hq1 0
    have g2 : w5.frozen? ⟨p + 1, 1, none⟩ = false := blk_frozen hq1 1
    have HB5 := Lib.hid hB5
    have HQ5 := Lib.hid hq1
    clear hB5 hq1 hq2
    go_wp2_with fail
    refine bodyPost_ret (results_ct Try.results53 _ _ (p + 1) 61 #[.int .i64 (ty + 32768), .slice A5 (fbytes big d kids).length c5'] (0, 0) _ rfl (attr_close (blk_far HQ5.out (by show p + 1 ≠ p + 1 + 1; omega) _)) Try.underlying61 rfl (by rw [size61]; rfl)) rfl ?_
    rw [fk11, show isKept ⟨ty, 11, fl, n, text, data, kids⟩ = true by simp [isKept]]
    refine ⟨_, rfl, Lib.hid ⟨?_, ?_⟩⟩
    · have h2 := HS4.out
      have h3 := HP.out
      refine (HU5.out.1.sl.step fun k hk _ => ?_).mono fun k hk => .inr (by omega)
      rw [Below.heap_setCell _ _ _ _ (by show k ≠ p + 1; omega), Below.heap_setCell _ _ _ _ (by show k ≠ p + 1; omega), Below.heap_setCell _ _ _ _ (by show k ≠ p + 1 + 1; omega)]
    · have h3 := HP.out
      exact (((below_then HB4.out HB4.out.size HB5.out).setCell (by show _ ≤ p + 1 + 1; omega) _).setCell (by show _ ≤ p + 1; omega) _).setCell (by show _ ≤ p + 1; omega) _
end Go.Proofs.Ytgijhgonpgidiaa
